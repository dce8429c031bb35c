import PyProof.Rows.All
import Wide.All
import OpenK.AllK
import Wide.FinOn
import KE.KSortAsk
import Lean
import PySem.Challenge.RW_ik0244_01
open Array renaming toList_inj->Oz,toList_extract->Qr,any_toList->QL
open Bool renaming and_eq_true_iff->Mr,and_eq_true->MF,false_ne_true->MK,false_eq_true->M7,or_eq_false_iff->Nr,not_eq_true'->Ol,and_false->PR,not_false->PT,or_eq_true->Q7
open Int renaming ofNat_eq_natCast->Mx,natCast_nonneg->MS,toNat_natCast->M0
open List renaming length_map->Mc,getElem?_map->Mf,length_cons->Mg,map_append->Mi,getElem?_eq_some_iff->Mj,map_cons->Ml,length_append->Mn,getElem?_eq_getElem->Mp,append_nil->Mq,append_assoc->Ms,foldl_cons->Mv,mem_map_of_mem->Mw,mem_cons->My,perm_append_comm->Mz,map_map->MA,length_nil->MC,mem_of_getElem?->ME,mem_append_right->MH,mem_append_left->MI,mem_map->ML,flatten_cons->MN,all_eq_true->MO,mem_singleton->MR,mem_append->MT,nil_append->MU,cons_append->MZ,flatten_nil->M9,map_nil->Na,getD_eq_getElem?_getD->Nc,take_append_drop->Ng,getElem?_eq_none->Nh,filterMap_cons->Nk,findIdx?_eq_some_iff_getElem->No,find?_cons->Nq,flatten_append->Nx,nodup_cons->NF,eq_nil_or_concat->NI,concat_eq_append->NJ,getElem?_toArray->NK,foldl_append->NO,length_eq_zero_iff->N4,nodup_append->N6,find?_append->N7,map_id->Od,range_succ->Oe,flatMap_append->Of,filter_append->Oh,getElem?_append_right->Oi,drop_eq_getElem_cons->Oj,getElem?_set->Ok,length_range->Om,length_take->OB,filterMap_eq_map'->OD,forIn_cons->OG,mem_iff_getElem?->OH,contains_iff_mem->OJ,singleton_append->OL,dropLast_subset->OP,drop_eq_nil_iff->OQ,getElem?_range->OT,reverse_append->OV,length_reverse->OX,find?_eq_none->O8,getElem?_inj->Pc,reverse_cons->Pg,any_eq_true->Pk,not_mem_nil->Pq,isEmpty_iff->Pr,mem_reverse->Ps,reverse_nil->Pu,map_reverse->Pz,sum_append->PE,take_left'->PF,nodup_nil->PJ,find?_map->PO,dropWhile_cons_of_pos->PS,mem_of_find?_eq_some->PW,sum_cons->P0,length_filterMap_le->P4,getElem?_cons_succ->P5,length_filter_le->Qg,dropLast_concat->Qo,range'_append_1->Qq,isEmpty_reverse->Qs,perm_iff_count->Qx,replicate_succ->Qy,map_congr_left->QA,map_eq_nil_iff->QB,ext_getElem?->QG,findIdx?_map->QH,map_dropLast->QJ,take_add_one->QK,lookup_cons->QM,isEmpty_nil->QQ,range'_succ->QS,take_length->QU,mem_flatMap->QW,length_set->QY,find?_some->Q8,isPerm_iff->Ra
open List.Perm renaming append_left->Mu,append_right->OC
open Nat renaming le_refl->Me,le_of_ble_eq_true->Mm,sub_add_cancel->MJ,zero_add->M3,le_trans->M4,le_add_left->M5,zero_le->Nt,eq_of_beq_eq_true->NH,le_of_succ_le->Oo,ne_of_lt->Pb,le_succ_of_le->Pd,le_add_right->Pw,sub_self->P9,le_of_lt->Qd,eq_zero_or_pos->QF,succ_le_succ->QR
open Option renaming bind_eq_some_iff->Mk,map_eq_some_iff->MW,map_some->Np,isSome_iff_exists->Oq,bind_some->Ov,isNone_iff_eq_none->PV,getD_some->QX
open Option.some renaming inj->M2
open PyProof.Rows renaming listUpdate_at->Ou
open PySem renaming wpAny_bind->on,wpAny_pure->Mh,wpAny_field->MM,wpAny_holding->MX,wpAny_setField->MY,wpAny_mono->M6,typeIs_str->Nb,codeAny_builtin->Nf,wpAny_seqItems->Nm,wpAny_dictEntries->Nu,wpAny_typeNameOfWhole_keyiter->Ny,wpAny_typeNameOfWhole_valiter->Nz,codeAny_of_tree->ND,wpAny_newObj_type->NM,wpAny_dictFind_of->NN,wpAny_rule->NQ,wpAny_execs_cons->NS,entry_listiter_next->NV,wpAny_typeNameOf_keyiter->NX,wpAny_typeNameOf_valiter->NY,strKind_is->NZ,wpAny_notOrdered_dict->Oa,typeIs_int->Ob,wpAny_updateDictKeys->Oc,slot_listiter_next->Og,sizeLine_eq->Op,entry_list_getitem->Ot,slot_list_getitem->Ow,args_list_getitem->Ox,wpAny_callSpecial?_slot->Oy,wpAny_dictEpoch->OE,wpAny_execs_nil->OF,wpAny_isOneOf_valiter->OK,wpAny_fieldsOf->OM,wpAny_noted->ON,args_listiter_next->O5,wpAny_missed_other->O7,wpAny_call_entry->Py,sliceRange_one->PP,wpAny_listPart->PU,wpAny_handled->PX,entry_dict_setitem->PY,wpAny_standAt->P2,wpAny_listSubscript_int->P6,slot_dict_setitem->P7,args_dict_setitem->P8,wpAny_allTrue_And_cons->Qc,codeAny_call_function->Qe,wpAny_isOneOf_keyiter->Qf,wpAny_allTrue_Or_cons->Qh,wpAny_throw->Qj,codeAny_call_builtin->Qk,wpAny_of_eq->Qn,wpAny_letGo->Qp,wpAny_isTrue_BoolOp->Qz,intKind_is->QD,entry_len->QO,plain_len->QP,wpAny_typeOf_ref->QV,wpAny_listItems->Q3,wpAny_updateSeq->Q5
open PySem.Around renaming under_plainId->MV,under_of_weight->NC
open PySem.AutoRange renaming range___iter___range_1->N8
open PySem.AutoSeq1 renaming wpAny_loadPart'->P1
open PySem.F renaming args_range_iter_1->OW,args_str_split_2->O6,entry_range_iter->O9,entry_str_split->Pe,args_dict_valueiterator_next_1->Pf,slot_range_iter->Ph,entry_dict_valueiterator_next->Pj,slot_str_split->Pl,entry_dict_get->Pn,args_dict_keyiterator_next_1->Po,slot_dict_valueiterator_next->Pp,entry_dict_keyiterator_next->PA,args_range_iterator_next_1->PB,args_tuple_iterator_next_1->PC,slot_dict_keyiterator_next->PD,entry_range_iterator_next->PH,entry_tuple_iterator_next->PI,slot_range_iterator_next->PK,slot_tuple_iterator_next->PL,slot_enumerate_next->Qi,args_str_getitem_2->Qm,entry_str_getitem->Qv,slot_str_getitem->QC,entry_list_iadd->QI,args_str_add_2->QN,args_int_abs_1->QT,entry_str_add->QZ,slot_dict_get->Q6,entry_int_abs->Q9
open PySem.Heap renaming get?_push_of_some->Nl,lt_size->N5,get?_update_self->OI,get?_push_size->Qt
open PySem.Heap.SameBut renaming update->Qu
open PySem.Sem renaming wp_bind->Nv,wp_mono->Nw,wp_bind'->NT
open PySem.SeqAt renaming eqv_refl->OR
open PySem.Value renaming isStrOf_shape->Qw
open PySem.W renaming look_both->NR,hideAll_get->Ql
open PySem.W.Fast renaming te12563942051412417395->NW,te14364793385576792824->OY,te13482112738370960269->OZ,te11892475500146522536->O0,te11113344188204177931->O1,te14044960220447912780->O2,te17772580674575903948->O3,te9782568553167038054->O4,te8711993805878244202->Pa
open PySem.W.R renaming bindR_eq->N0
open Std.Legacy.Range renaming forIn_eq_forIn_range'->OO
open PySem PySem.W PyProof.Rows
set_option Elab.async false
set_option maxRecDepth 100000
set_option maxHeartbeats 0
set_option linter.all false
set_option genSizeOf false
set_option genInjectivity false
set_option genCtorIdx false
set_option bootstrap.genMatcherCode false
namespace Mine
noncomputable section
noncomputable def wH{α:Type}(l:List α)(p:α->Bool):Bool:=@List.rec α (λ_=>Bool) false (λa _ ih=>@Bool.rec (λ_=>Bool) ih true (p a)) l
theorem pH{α:Type}(p:α->Bool):∀l:List α,l.any p=wH l p
 |[]=>rfl
 |a::l=>by
  rw[List.any_cons,pH p l];show _=@Bool.rec (λ_=>Bool) (wH l p) true (p a);cases p a<;>rfl
noncomputable def hK:={α:Type}->(as:Array α)->(α->Bool)->optParam Nat 0->optParam Nat as.size->Bool
noncomputable def Ag:{α:Type}->(as:Array α)->(α->Bool)->Nat->Nat->Bool:=λas p start stop=>
 @Bool.rec (λ_=>Bool) (as.any p start stop) (@Bool.rec (λ_=>Bool) (as.any p start stop) (wH as.toList p) (Nat.beq stop as.size)) (Nat.beq start 0)
theorem wG:@Array.any.{0}=@Ag:=by
 funext α as p start stop;unfold Ag;cases h:Nat.beq start 0 with
 |false=>rfl
 |true=>
  cases h2:Nat.beq stop as.size with
  |false=>rfl
  |true=>
   have e1:=NH h;have e2:=NH h2;subst e1 e2;show as.any p=wH as.toList p;rw[<-pH,QL]
structure Fq(b:Builtin)(F:hK->Builtin):Type where
noncomputable def Fq.of(F:hK->Builtin)(g:hK):Fq (F (no_implicit_lambda%@g)) F:=⟨⟩
noncomputable def HO{F:hK->Builtin}(_:Fq PySem.W.Fast.tw4202317264376624991 F):hK->Builtin:=F
noncomputable def EL:hK->Builtin:=by
 apply HO;delta PySem.W.Fast.tw4202317264376624991;generalize @Array.any.{0}=g;revert g;exact Fq.of _
theorem xQ:PySem.W.Fast.tw4202317264376624991=EL @Array.any:=by kernel_rfl
noncomputable def EK:Builtin:=EL @Ag
theorem xP:PySem.W.Fast.tw4202317264376624991=EK:=by
 rw[xQ,wG];rfl
noncomputable abbrev T(l:List Nat):Str:=Str.mk (Array.mk l)
noncomputable section
noncomputable def dP(p:Program)(i:Nat):Stmt:=(p.main.body).getD i (.Pass default)
set_option backward.match.sparseCases false in
noncomputable def FF:Stmt->Arguments×List Stmt×Scope
 |.FunctionDef _ a b _ _ _ sc .. =>(a,b,sc)
 |.ClassDef _ _ _ b .. =>(default,b,default)
 |_=>(default,[],default)
noncomputable def FE(s:Stmt):List Stmt:=(FF s).2.1
noncomputable def bA(p:Program)(i j:Nat):Stmt:=(FE (dP p i)).getD j (.Pass default)
noncomputable def yW(s:Stmt):Arguments:=(FF s).1
noncomputable abbrev dD:=FE
noncomputable def fE(s:Stmt):Scope:=(FF s).2.2
set_option backward.match.sparseCases false in
noncomputable def Bs:Stmt->List Expr×List Stmt×List Stmt×List ExceptHandler
 |.For t x b e _=>([t,x],b,e,[])
 |.While t b e _=>([t],b,e,[])
 |.If t b e _=>([t],b,e,[])
 |.Try b hs _ _ _=>([],b,[],hs)
 |.Assign _ v _=>([v],[],[],[])
 |.Return v _=>(v.toList,[],[],[])
 |.Expr v _=>([v],[],[],[])
 |_=>([],[],[],[])
set_option backward.match.sparseCases false in
noncomputable def Au:Expr->List Expr×Scope×Nat×Pos×Str
 |.Call _ l _ _=>(l,default,0,default,Str.empty)
 |.Compare l _ rs _=>(l::rs,default,0,default,Str.empty)
 |.BinOp l _ r _=>([l,r],default,0,default,Str.empty)
 |.BoolOp _ l _=>(l,default,0,default,Str.empty)
 |.Starred v _=>([v],default,0,default,Str.empty)
 |.ListComp _ (g::_) s _=>([g.target],s,0,default,Str.empty)
 |.Tuple l n p=>(l,default,n,p,Str.empty)
 |.Constant (.str s) _ _=>([],default,0,default,s)
 |_=>([],default,0,default,Str.empty)
noncomputable def As(l:List Stmt):Str:=(Au ((Bs (l.getD 0 (.Pass default))).1.getD 0 default)).2.2.2.2
noncomputable def DB(f:Stmt):Str:=As (dD f)
noncomputable def mH(p:Program)(i:Nat):Str:=As (FE (dP p i))
noncomputable abbrev sV(s:Str)(t:Tok):Value:=.str s t
noncomputable abbrev rV(a:Addr):Value:=.ref a
noncomputable abbrev iV(x:Int)(t:Tok):Value:=.int x t
noncomputable def tu(l:List Value):Obj:=⟨.type "tuple",.none,.seq (.mk l) 0,.mk []⟩
noncomputable def tS(l:List (Str×Tok)):Obj:=tu (l.map λx=>.str x.1 x.2)
noncomputable def fi(l:List Value):Obj:=⟨.none,.none,.fields (.mk l),.mk []⟩
noncomputable def lt(c:Int)(l:List (Int×Addr)):Obj:=fi (l.flatMap λx=>[.int x.1 0,.int c 0,.ref x.2])
noncomputable def ob(t:String)(l:List Value):Obj:=⟨.type t,.none,.fields (.mk l),.mk []⟩
noncomputable def dc(P:Params)(t:String)(l:List (Str×Tok×Value))(n:Nat):Obj:=⟨.type t,.none,.dict (.mk (l.map λx=>⟨PyData.keyHash P x.1,.str x.1 x.2.1,x.2.2⟩)) n,.mk []⟩
noncomputable def Du:Str:=T [47,99,108,97,105,109,47,99,117,116,46,112,121]
noncomputable def cG(b:Bool)(n q:Str)(t t':Tok)(l a po ko fl:Int)(x y:Addr)(u v w:Value):Obj:=
 ob "code" [.str n t,.str q (t+1),.str Du (t+2),.int l 0,.int a 0,.int po 0,.int ko 0,.int fl 0,.ref x,.bool b,.int 181 0,.ref y,.none,u,v,w,.int t' 0,.int l 0,.str Du (t'+1)]
noncomputable abbrev cd:=cG true
noncomputable abbrev cm:=cG false
noncomputable def fG(c:Value)(f:Stmt)(n q:Str)(gl:Addr)(clo:List (Str×Addr))(dV doc pm:Value)(an:Option Addr)(cd ct:Value):Obj:=
 ⟨c,.none,.func {name:=n,qualname:=q,params:=yW f,body:=.stmts (dD f),scope:=fE f,globals:=gl,closure:=clo,defaults:=dV,kwdefaults:=.none,doc:=doc,pyModule:=pm,annotations:=an,code:=cd,closureTuple:=ct,builtins:=0},.mk []⟩
noncomputable def f0(f:Stmt)(n q:Str):Obj:=fG .none f n q 0 [] .none .none .none .none .none .none
noncomputable def dV(f:Stmt):Option Tok->Value
 |none=>.none
 |some t=>.str (DB f) t
noncomputable def fx(f:Stmt)(n q:Str)(clo:List (Str×Addr))(d:Option Tok)(pm:Value)(an:Option Addr)(c:Addr)(ct:Value):Obj:=fG (.type "function") f n q 3 clo .none (dV f d) pm an (.ref c) ct
noncomputable def fd(f:Stmt)(n q:Str)(df:Value)(d:Option Tok)(pm:Value)(c:Addr):Obj:=fG (.type "function") f n q 3 [] df (dV f d) pm .none (.ref c) .none
noncomputable def fn(f:Stmt)(n q:Str)(d:Option Tok)(pm:Value)(c:Addr):Obj:=fd f n q .none d pm c
noncomputable def nT:List Str->Tok->List Value
 |[],_=>[]
 |s::l,t=>.str s t::nT l (t+1)
noncomputable def bk(n:Addr)(f:Stmt)(na q:Str)(t:Tok)(l a ko fl:Int)(ns:List Str):List Obj:=
 [tu [],fi [],tu (nT ns (t+3)),tu [],f0 f na q,cd na q t (t+3+ns.length) l a 0 ko fl n (n+1) (.ref (n+2)) (.ref (n+3)) (.ref (n+4))]
noncomputable def a0:=T [95,95,110,97,109,101,95,95]
noncomputable def a1:=T [108,97,119,95,105,107,48,50,52,52,95,48,49]
noncomputable def a2:=T [95,95,100,111,99,95,95]
noncomputable def a3:=T [95,95,112,97,99,107,97,103,101,95,95]
noncomputable def a4:=T [95,95,108,111,97,100,101,114,95,95]
noncomputable def a5:=T [95,95,115,112,101,99,95,95]
noncomputable def a6:=T [95,95,97,110,110,111,116,97,116,105,111,110,115,95,95]
noncomputable def a7:=T [95,95,98,117,105,108,116,105,110,115,95,95]
noncomputable def a8:=T [95,95,102,105,108,101,95,95]
noncomputable def a9:=T [47,99,108,97,105,109,47,99,117,116,46,112,121]
noncomputable def JW:=T [95,95,99,97,99,104,101,100,95,95]
noncomputable def Cb:=T [95,119,97,108,108]
noncomputable def Cf:=T [95,112,108,97,105,110,95,110,97,109,101]
noncomputable def yF:=T [65,66,67,77,101,116,97]
noncomputable def yG:=T [95,65,66,67,76,105,107,101]
noncomputable def Cw:=T [95,97,98,99,95,112,108,97,105,110,95,109,101,116,97]
noncomputable def CB:=T [102,115,112,97,116,104]
noncomputable def CH:=T [95,99,104,101,99,107,95,97,114,103,95,116,121,112,101,115]
noncomputable def CK:=T [95,103,101,116,95,115,101,112]
noncomputable def CM:=T [106,111,105,110]
noncomputable def CS:=T [115,112,108,105,116,114,111,111,116]
noncomputable def CV:=T [98,97,115,101,110,97,109,101]
noncomputable def C8:=T [100,105,114,110,97,109,101]
noncomputable def Dd:=T [110,111,114,109,112,97,116,104]
noncomputable def yH:=T [95,116,117,112,108,101,103,101,116,116,101,114]
noncomputable def yI:=T [77,97,116,99,104]
noncomputable def Dh:=T [95,99,97,108,99,117,108,97,116,101,95,114,97,116,105,111]
noncomputable def yJ:=T [83,101,113,117,101,110,99,101,77,97,116,99,104,101,114]
noncomputable def JX:=T [95,78,79,68,69,95,79,85,84]
noncomputable def JY:=T [95,78,79,68,69,95,68,79,78,69]
noncomputable def yK:=T [95,78,111,100,101,73,110,102,111]
noncomputable def yL:=T [67,121,99,108,101,69,114,114,111,114]
noncomputable def yM:=T [84,111,112,111,108,111,103,105,99,97,108,83,111,114,116,101,114]
noncomputable def Di:=T [95,108,97,119,95,110,97,109,101]
noncomputable def z9:=T [95,108,97,119,95,103,111,110,101]
noncomputable def Aa:=T [95,108,97,119,95,115,116,114,117,99,107]
noncomputable def Dj:=T [95,108,97,119,95,114,117,110,115]
noncomputable def Ab:=T [108,97,119]
noncomputable def Fs:=T [60,109,111,100,117,108,101,62]
noncomputable def G5:=T [95,95,109,97,105,110,95,95]
noncomputable def Ft:=T [107]
noncomputable def G6:=T [120]
noncomputable def JZ:=T [119,104,97,116]
noncomputable def Jn:=T [107,105,110,100]
noncomputable def Jo:=T [111,115]
noncomputable def mt:=T [95,95,109,111,100,117,108,101,95,95]
noncomputable def Fu:=T [97,98,99]
noncomputable def wA:=T [95,95,113,117,97,108,110,97,109,101,95,95]
noncomputable def oe:=T [95,95,102,105,114,115,116,108,105,110,101,110,111,95,95]
noncomputable def yN:=T [114,101,103,105,115,116,101,114]
noncomputable def og:=T [95,95,115,116,97,116,105,99,95,97,116,116,114,105,98,117,116,101,115,95,95]
noncomputable def Dk:=T [99,108,115]
noncomputable def Jp:=T [115,117,98,99,108,97,115,115]
noncomputable def Jq:=T [65,66,67,77,101,116,97,46,114,101,103,105,115,116,101,114]
noncomputable def Ac:=T [99,111,108,108,101,99,116,105,111,110,115,46,97,98,99]
noncomputable def Fv:=T [95,95,105,110,115,116,97,110,99,101,99,104,101,99,107,95,95]
noncomputable def Fw:=T [95,95,115,117,98,99,108,97,115,115,99,104,101,99,107,95,95]
noncomputable def J0:=T [105,110,115,116,97,110,99,101]
noncomputable def G7:=T [67]
noncomputable def Jr:=T [95,65,66,67,76,105,107,101,46,95,95,105,110,115,116,97,110,99,101,99,104,101,99,107,95,95]
noncomputable def Js:=T [95,65,66,67,76,105,107,101,46,95,95,115,117,98,99,108,97,115,115,99,104,101,99,107,95,95]
noncomputable def Jt:=T [95,65,66,67,76,105,107,101,46,114,101,103,105,115,116,101,114]
noncomputable def Fx:=T [112,97,116,104]
noncomputable def J1:=T [104,111,111,107]
noncomputable def J2:=T [103,105,118,101,110]
noncomputable def J3:=T [102,117,110,99,110,97,109,101]
noncomputable def J4:=T [97,114,103,115]
noncomputable def J5:=T [104,97,115,115,116,114]
noncomputable def J6:=T [104,97,115,98,121,116,101,115]
noncomputable def J7:=T [115]
noncomputable def J8:=T [99,112,121,51,49,51,46,103,101,110,101,114,105,99,112,97,116,104]
noncomputable def BN:=T [99,112,121,51,49,51,46,112,111,115,105,120,112,97,116,104]
noncomputable def sU:=T [97]
noncomputable def Dl:=T [112]
noncomputable def Dm:=T [115,101,112]
noncomputable def sA:=T [98]
noncomputable def J9:=T [101,109,112,116,121]
noncomputable def BO:=T [105]
noncomputable def Ka:=T [104,101,97,100]
noncomputable def Kb:=T [100,111,116]
noncomputable def Kc:=T [100,111,116,100,111,116]
noncomputable def Kd:=T [95]
noncomputable def Ke:=T [105,110,105,116,105,97,108,95,115,108,97,115,104,101,115]
noncomputable def Kf:=T [99,111,109,112,115]
noncomputable def Kg:=T [110,101,119,95,99,111,109,112,115]
noncomputable def Kh:=T [99,111,109,112]
noncomputable def fb:=T [99,112,121,51,49,51,46,100,105,102,102,108,105,98]
noncomputable def oh:=T [95,95,105,110,105,116,95,95]
noncomputable def Fy:=T [95,95,103,101,116,95,95]
noncomputable def Fz:=T [95,95,115,101,116,95,95]
noncomputable def FB:=T [95,95,100,101,108,101,116,101,95,95]
noncomputable def fX:=T [115,101,108,102]
noncomputable def yO:=T [105,110,100,101,120]
noncomputable def FC:=T [100,111,99]
noncomputable def Ju:=T [95,116,117,112,108,101,103,101,116,116,101,114,46,95,95,105,110,105,116,95,95]
noncomputable def G9:=T [111,98,106]
noncomputable def Ki:=T [111,98,106,116,121,112,101]
noncomputable def Jv:=T [95,116,117,112,108,101,103,101,116,116,101,114,46,95,95,103,101,116,95,95]
noncomputable def Kj:=T [118,97,108,117,101]
noncomputable def Jw:=T [95,116,117,112,108,101,103,101,116,116,101,114,46,95,95,115,101,116,95,95]
noncomputable def B7:=T [95,116,117,112,108,101,103,101,116,116,101,114,46,95,95,100,101,108,101,116,101,95,95]
noncomputable def re:=T [95,95,100,105,99,116,95,95]
noncomputable def mq:=T [95,95,119,101,97,107,114,101,102,95,95]
noncomputable def B8:=T [77,97,116,99,104,40,97,44,32,98,44,32,115,105,122,101,41]
noncomputable def vV:=T [95,95,115,108,111,116,115,95,95]
noncomputable def B9:=T [95,102,105,101,108,100,115]
noncomputable def Ca:=T [95,102,105,101,108,100,95,100,101,102,97,117,108,116,115]
noncomputable def vW:=T [95,95,110,101,119,95,95]
noncomputable def sR:=T [95,109,97,107,101]
noncomputable def sS:=T [95,114,101,112,108,97,99,101]
noncomputable def Cc:=T [95,95,114,101,112,108,97,99,101,95,95]
noncomputable def vX:=T [95,95,114,101,112,114,95,95]
noncomputable def vY:=T [95,97,115,100,105,99,116]
noncomputable def vZ:=T [95,95,103,101,116,110,101,119,97,114,103,115,95,95]
noncomputable def Cd:=T [95,95,109,97,116,99,104,95,97,114,103,115,95,95]
noncomputable def rf:=T [115,105,122,101]
noncomputable def F4:=T [95,95,99,108,97,115,115,99,101,108,108,95,95]
noncomputable def F5:=T [95,99,108,115]
noncomputable def Ce:=T [77,97,116,99,104,46,95,95,110,101,119,95,95]
noncomputable def F6:=T [105,116,101,114,97,98,108,101]
noncomputable def v8:=T [114,101,115,117,108,116]
noncomputable def zU:=T [77,97,116,99,104,46,95,109,97,107,101]
noncomputable def Cg:=T [95,95,99,108,97,115,115,95,95]
noncomputable def F7:=T [107,119,100,115]
noncomputable def zV:=T [77,97,116,99,104,46,95,114,101,112,108,97,99,101]
noncomputable def Ci:=T [77,97,116,99,104,46,95,95,114,101,112,114,95,95]
noncomputable def Cj:=T [77,97,116,99,104,46,95,97,115,100,105,99,116]
noncomputable def Ck:=T [77,97,116,99,104,46,95,95,103,101,116,110,101,119,97,114,103,115,95,95]
noncomputable def Cl:=T [65,108,105,97,115,32,102,111,114,32,102,105,101,108,100,32,110,117,109,98,101,114,32,48]
noncomputable def Cm:=T [65,108,105,97,115,32,102,111,114,32,102,105,101,108,100,32,110,117,109,98,101,114,32,49]
noncomputable def Cn:=T [65,108,105,97,115,32,102,111,114,32,102,105,101,108,100,32,110,117,109,98,101,114,32,50]
noncomputable def Co:=T [109,97,116,99,104,101,115]
noncomputable def F8:=T [108,101,110,103,116,104]
noncomputable def v9:=T [115,101,116,95,115,101,113,115]
noncomputable def wc:=T [115,101,116,95,115,101,113,49]
noncomputable def wg:=T [115,101,116,95,115,101,113,50]
noncomputable def Cp:=T [95,83,101,113,117,101,110,99,101,77,97,116,99,104,101,114,95,95,99,104,97,105,110,95,98]
noncomputable def wi:=T [102,105,110,100,95,108,111,110,103,101,115,116,95,109,97,116,99,104]
noncomputable def wj:=T [103,101,116,95,109,97,116,99,104,105,110,103,95,98,108,111,99,107,115]
noncomputable def wk:=T [103,101,116,95,111,112,99,111,100,101,115]
noncomputable def wl:=T [103,101,116,95,103,114,111,117,112,101,100,95,111,112,99,111,100,101,115]
noncomputable def wm:=T [114,97,116,105,111]
noncomputable def wn:=T [113,117,105,99,107,95,114,97,116,105,111]
noncomputable def wo:=T [114,101,97,108,95,113,117,105,99,107,95,114,97,116,105,111]
noncomputable def Cq:=T []
noncomputable def zW:=T [105,115,106,117,110,107]
noncomputable def Cr:=T [97,117,116,111,106,117,110,107]
noncomputable def Cs:=T [83,101,113,117,101,110,99,101,77,97,116,99,104,101,114,46,95,95,105,110,105,116,95,95]
noncomputable def Ct:=T [83,101,113,117,101,110,99,101,77,97,116,99,104,101,114,46,115,101,116,95,115,101,113,115]
noncomputable def Cv:=T [83,101,113,117,101,110,99,101,77,97,116,99,104,101,114,46,115,101,116,95,115,101,113,49]
noncomputable def Cx:=T [83,101,113,117,101,110,99,101,77,97,116,99,104,101,114,46,115,101,116,95,115,101,113,50]
noncomputable def zX:=T [98,50,106]
noncomputable def F9:=T [101,108,116]
noncomputable def Ga:=T [105,110,100,105,99,101,115]
noncomputable def Gb:=T [106,117,110,107]
noncomputable def Gc:=T [112,111,112,117,108,97,114]
noncomputable def Cy:=T [110]
noncomputable def Gd:=T [110,116,101,115,116]
noncomputable def Ge:=T [105,100,120,115]
noncomputable def Cz:=T [95,95,99,104,97,105,110,95,98]
noncomputable def CC:=T [83,101,113,117,101,110,99,101,77,97,116,99,104,101,114,46,95,95,99,104,97,105,110,95,98]
noncomputable def CD:=T [97,108,111]
noncomputable def CE:=T [97,104,105]
noncomputable def CF:=T [98,108,111]
noncomputable def CG:=T [98,104,105]
noncomputable def Gf:=T [105,115,98,106,117,110,107]
noncomputable def Gg:=T [98,101,115,116,105]
noncomputable def Gh:=T [98,101,115,116,106]
noncomputable def Gi:=T [98,101,115,116,115,105,122,101]
noncomputable def Gj:=T [106,50,108,101,110]
noncomputable def Gk:=T [110,111,116,104,105,110,103]
noncomputable def Gl:=T [106,50,108,101,110,103,101,116]
noncomputable def Gm:=T [110,101,119,106,50,108,101,110]
noncomputable def wq:=T [106]
noncomputable def CI:=T [83,101,113,117,101,110,99,101,77,97,116,99,104,101,114,46,102,105,110,100,95,108,111,110,103,101,115,116,95,109,97,116,99,104]
noncomputable def Gn:=T [108,97]
noncomputable def Go:=T [108,98]
noncomputable def Gp:=T [113,117,101,117,101]
noncomputable def CJ:=T [109,97,116,99,104,105,110,103,95,98,108,111,99,107,115]
noncomputable def Gq:=T [105,49]
noncomputable def Gs:=T [106,49]
noncomputable def Gt:=T [107,49]
noncomputable def Gu:=T [110,111,110,95,97,100,106,97,99,101,110,116]
noncomputable def Gv:=T [105,50]
noncomputable def Gw:=T [106,50]
noncomputable def Gx:=T [107,50]
noncomputable def CL:=T [83,101,113,117,101,110,99,101,77,97,116,99,104,101,114,46,103,101,116,95,109,97,116,99,104,105,110,103,95,98,108,111,99,107,115]
noncomputable def Gy:=T [97,110,115,119,101,114]
noncomputable def Gz:=T [97,105]
noncomputable def GB:=T [98,106]
noncomputable def GC:=T [116,97,103]
noncomputable def CN:=T [83,101,113,117,101,110,99,101,77,97,116,99,104,101,114,46,103,101,116,95,111,112,99,111,100,101,115]
noncomputable def CO:=T [83,101,113,117,101,110,99,101,77,97,116,99,104,101,114,46,103,101,116,95,103,114,111,117,112,101,100,95,111,112,99,111,100,101,115]
noncomputable def CP:=T [83,101,113,117,101,110,99,101,77,97,116,99,104,101,114,46,114,97,116,105,111]
noncomputable def CQ:=T [83,101,113,117,101,110,99,101,77,97,116,99,104,101,114,46,113,117,105,99,107,95,114,97,116,105,111]
noncomputable def CR:=T [83,101,113,117,101,110,99,101,77,97,116,99,104,101,114,46,114,101,97,108,95,113,117,105,99,107,95,114,97,116,105,111]
noncomputable def GE:=T [98,106,117,110,107]
noncomputable def GF:=T [98,112,111,112,117,108,97,114]
noncomputable def GG:=T [102,117,108,108,98,99,111,117,110,116]
noncomputable def GH:=T [111,112,99,111,100,101,115]
noncomputable def eu:=T [99,112,121,51,49,51,46,103,114,97,112,104,108,105,98]
noncomputable def hO:=T [110,111,100,101]
noncomputable def rg:=T [110,112,114,101,100,101,99,101,115,115,111,114,115]
noncomputable def rh:=T [115,117,99,99,101,115,115,111,114,115]
noncomputable def CT:=T [95,78,111,100,101,73,110,102,111,46,95,95,105,110,105,116,95,95]
noncomputable def wr:=T [95,103,101,116,95,110,111,100,101,105,110,102,111]
noncomputable def ws:=T [97,100,100]
noncomputable def sT:=T [112,114,101,112,97,114,101]
noncomputable def wu:=T [103,101,116,95,114,101,97,100,121]
noncomputable def wv:=T [105,115,95,97,99,116,105,118,101]
noncomputable def ww:=T [95,95,98,111,111,108,95,95]
noncomputable def wx:=T [100,111,110,101]
noncomputable def wy:=T [95,102,105,110,100,95,99,121,99,108,101]
noncomputable def wz:=T [115,116,97,116,105,99,95,111,114,100,101,114]
noncomputable def GI:=T [103,114,97,112,104]
noncomputable def CW:=T [112,114,101,100,101,99,101,115,115,111,114,115]
noncomputable def CX:=T [84,111,112,111,108,111,103,105,99,97,108,83,111,114,116,101,114,46,95,95,105,110,105,116,95,95]
noncomputable def CY:=T [84,111,112,111,108,111,103,105,99,97,108,83,111,114,116,101,114,46,95,103,101,116,95,110,111,100,101,105,110,102,111]
noncomputable def CZ:=T [110,111,100,101,105,110,102,111]
noncomputable def GJ:=T [112,114,101,100]
noncomputable def GK:=T [112,114,101,100,95,105,110,102,111]
noncomputable def C9:=T [84,111,112,111,108,111,103,105,99,97,108,83,111,114,116,101,114,46,97,100,100]
noncomputable def zY:=T [84,111,112,111,108,111,103,105,99,97,108,83,111,114,116,101,114,46,112,114,101,112,97,114,101]
noncomputable def zZ:=T [110,50,105]
noncomputable def Da:=T [84,111,112,111,108,111,103,105,99,97,108,83,111,114,116,101,114,46,103,101,116,95,114,101,97,100,121]
noncomputable def Db:=T [84,111,112,111,108,111,103,105,99,97,108,83,111,114,116,101,114,46,105,115,95,97,99,116,105,118,101]
noncomputable def Dc:=T [84,111,112,111,108,111,103,105,99,97,108,83,111,114,116,101,114,46,95,95,98,111,111,108,95,95]
noncomputable def GL:=T [110,111,100,101,115]
noncomputable def GM:=T [115,116,97,116]
noncomputable def GN:=T [115,117,99,99,101,115,115,111,114]
noncomputable def GO:=T [115,117,99,99,101,115,115,111,114,95,105,110,102,111]
noncomputable def De:=T [84,111,112,111,108,111,103,105,99,97,108,83,111,114,116,101,114,46,100,111,110,101]
noncomputable def GP:=T [115,116,97,99,107]
noncomputable def GQ:=T [105,116,115,116,97,99,107]
noncomputable def GR:=T [115,101,101,110]
noncomputable def GT:=T [110,111,100,101,50,115,116,97,99,107,105]
noncomputable def Df:=T [84,111,112,111,108,111,103,105,99,97,108,83,111,114,116,101,114,46,95,102,105,110,100,95,99,121,99,108,101]
noncomputable def Dg:=T [84,111,112,111,108,111,103,105,99,97,108,83,111,114,116,101,114,46,115,116,97,116,105,99,95,111,114,100,101,114]
noncomputable def GV:=T [95,110,102,105,110,105,115,104,101,100]
noncomputable def GW:=T [95,110,111,100,101,50,105,110,102,111]
noncomputable def GX:=T [95,110,112,97,115,115,101,100,111,117,116]
noncomputable def GY:=T [95,114,101,97,100,121,95,110,111,100,101,115]
noncomputable def GZ:=T [114,111,119]
noncomputable def G0:=T [108,97,115,116]
noncomputable def G1:=T [114,117,110,115]
noncomputable def G3:=T [119,111,114,100]
noncomputable def G4:=T [113]
noncomputable def mL:List (Str×Tok×Value):=[(a2,166,.none),(a3,167,.none),(a4,168,(.builtin "__main__.__loader__#opaque")),(a5,169,.none),(a6,170,(rV 6)),(a7,171,(rV 4)),(a8,173,(sV a9 172)),(JW,174,.none),(Cb,193,(rV 21)),(Cf,204,(rV 28)),(yF,230,(rV 45)),(yG,273,(rV 78)),(Cw,280,(rV 87)),(CB,292,(rV 94)),(CH,305,(rV 101)),(CK,314,(rV 108)),(CM,326,(rV 115)),(CS,336,(rV 122)),(CV,346,(rV 129)),(C8,357,(rV 136)),(Dd,373,(rV 143)),(yH,432,(rV 182)),(yI,560,(rV 257)),(Dh,568,(rV 267)),(yJ,762,(rV 364)),(JX,767,(iV (-1) 766)),(JY,770,(iV (-2) 769)),(yK,807,(rV 387)),(yL,827,(rV 402)),(yM,953,(rV 484)),(Di,962,(rV 495)),(z9,968,(rV 500)),(Aa,974,(rV 505)),(Dj,988,(rV 512)),(Ab,994,(rV 517))]
noncomputable def lL:List (Int×Addr):=[(1,20),(5,27),(11,34),(16,53),(31,86),(35,93),(52,100),(64,107),(69,114),(90,121),(107,128),(113,135),(122,142),(149,149),(167,193),(210,266),(214,273),(609,374),(616,398),(628,411),(785,494),(787,499),(797,504),(799,511),(812,516)]
noncomputable def q0(p:Program)(P:Params):List Obj:=[boot_o_0 P,boot_o_1 P,boot_o_2 P,dc P "dict" ((a0,165,(sV a1 954))::mL) 36,boot_o_4 P,boot_o_5 P,boot_o_6 P,boot_o_7 P,boot_o_8 P,boot_o_9 P,boot_o_10 P,tu [],lt 0 lL,cm Fs Fs 182 185 1 0 0 0 0 11 12 .none .none .none,⟨.type "frame",.none,.plain,.mk [(.some (rV 13)),(.some (rV 3)),(.some (rV 3)),.none,(.some (sV G5 164)),.none,(.some (rV 0))]⟩]++bk 15 (dP p 0) Cb Cb 187 1 1 0 3 [Ft]++[fn (dP p 0) Cb Cb none (sV G5 164) 20]++bk 22 (dP p 2) Cf Cf 196 5 2 0 3 [G6,JZ,Jn]
noncomputable def q1(p:Program)(P:Params):List Obj:=[fn (dP p 2) Cf Cf none (sV Jo 194) 27,tu [(.type "type")],ob "builtin_function_or_method" [(.builtin "type.__prepare__"),(.type "type")],dc P "dict" [(mt,214,(sV Fu 205)),(wA,216,(sV yF 215)),(oe,218,(iV 11 217)),(yN,226,(rV 42)),(og,227,(rV 43))] 5,tu [],lt 4 [(13,41)],cm yF yF 209 212 11 0 0 0 0 32 33 .none .none .none,⟨.type "frame",.none,.plain,.mk [(.some (rV 34)),(.some (rV 3)),(.some (rV 31)),.none,(.some (sV Fu 205)),.none,(.some (rV 0))]⟩]++bk 36 (bA p 4 0) yN Jq 219 13 2 0 3 [Dk,Jp]++[fn (bA p 4 0) yN Jq none (sV Fu 205) 41,tu [],dc P "dict" [(mt,214,(sV Fu 205)),(oe,218,(iV 11 217)),(yN,226,(rV 42)),(og,227,(rV 43)),(a2,228,.none)] 2,⟨.type "type",.none,.cls ⟨yF,[(.type "type")],[(rV 45),(.type "type"),(.type "object")],44,yF,true,[],[(rV 78)],false,.none,false⟩,.mk [(.some (rV 29)),.none,(.some (sV yF 207)),(.some (sV yF 215)),(.some (.builtin "type.__new__")),(.some (.bool true))]⟩,ob "super" [(rV 45),(rV 45),(rV 45)],ob "builtin_function_or_method" [(.builtin "object.__init_subclass__"),(rV 45)],tu [(rV 45)],ob "builtin_function_or_method" [(.builtin "type.__prepare__"),(.type "type")],dc P "dict" [(mt,240,(sV Ac 231)),(wA,242,(sV yG 241)),(oe,244,(iV 16 243)),(Fv,253,(rV 61)),(Fw,261,(rV 68)),(yN,269,(rV 75)),(og,270,(rV 76))] 7,tu []]
noncomputable def q2(p:Program)(P:Params):List Obj:=[lt 4 [(18,60),(24,67),(29,74)],cm yG yG 235 238 16 0 0 0 0 51 52 .none .none .none,⟨.type "frame",.none,.plain,.mk [(.some (rV 53)),(.some (rV 3)),(.some (rV 50)),.none,(.some (sV Ac 231)),.none,(.some (rV 0))]⟩]++bk 55 (bA p 6 0) Fv Jr 245 18 2 0 3 [Dk,J0,G7]++[fn (bA p 6 0) Fv Jr none (sV Ac 231) 60]++bk 62 (bA p 6 1) Fw Js 254 24 2 0 3 [Dk,G7]++[fn (bA p 6 1) Fw Js none (sV Ac 231) 67]++bk 69 (bA p 6 2) yN Jt 262 29 2 0 3 [Dk,Jp]++[fn (bA p 6 2) yN Jt none (sV Ac 231) 74]
noncomputable def q3(p:Program)(P:Params):List Obj:=[tu [],dc P "dict" [(mt,240,(sV Ac 231)),(oe,244,(iV 16 243)),(Fv,253,(rV 61)),(Fw,261,(rV 68)),(yN,269,(rV 75)),(og,270,(rV 76)),(a2,271,.none)] 2,⟨.type "type",.none,.cls ⟨yG,[(rV 45)],[(rV 78),(rV 45),(.type "type"),(.type "object")],77,yG,true,[],[],false,.none,false⟩,.mk [(.some (rV 48)),.none,(.some (sV yG 233)),(.some (sV yG 241)),(.some (.builtin "type.__new__")),(.some (.bool true))]⟩,ob "super" [(rV 78),(rV 78),(rV 78)],ob "builtin_function_or_method" [(.builtin "object.__init_subclass__"),(rV 78)]]++bk 81 (dP p 7) Cw Cw 274 31 1 0 3 [G7]++[fn (dP p 7) Cw Cw none (sV Ac 231) 86]++bk 88 (dP p 9) CB CB 283 35 1 0 3 [Fx,Jn,J1,J2]++[fn (dP p 9) CB CB none (sV Jo 281) 93]++bk 95 (dP p 11) CH CH 295 52 1 0 7 [J3,J4,J5,J6,J7]
noncomputable def q4(p:Program)(P:Params):List Obj:=[fn (dP p 11) CH CH none (sV J8 293) 100]++bk 102 (dP p 13) CK CK 308 64 1 0 3 [Fx]++[fn (dP p 13) CK CK none (sV BN 306) 107]++bk 109 (dP p 14) CM CM 315 69 1 0 7 [sU,Dl,Dm,Fx,sA]++[fn (dP p 14) CM CM (.some 325) (sV BN 306) 114]++bk 116 (dP p 15) CS CS 327 90 1 0 3 [Dl,Dm,J9]++[fn (dP p 15) CS CS (.some 335) (sV BN 306) 121]++bk 123 (dP p 16) CV CV 337 107 1 0 3 [Dl,Dm,BO]
noncomputable def q5(p:Program)(P:Params):List Obj:=[fn (dP p 16) CV CV (.some 345) (sV BN 306) 128]++bk 130 (dP p 17) C8 C8 347 113 1 0 3 [Dl,Dm,BO,Ka]++[fn (dP p 17) C8 C8 (.some 356) (sV BN 306) 135]++bk 137 (dP p 18) Dd Dd 358 122 1 0 3 [Fx,Dm,Kb,Kc,Kd,Ke,Kf,Kg,Kh]++[fn (dP p 18) Dd Dd (.some 372) (sV BN 306) 142,tu [],ob "builtin_function_or_method" [(.builtin "type.__prepare__"),(.type "type")],dc P "dict" [(mt,383,(sV fb 374)),(wA,385,(sV yH 384)),(oe,387,(iV 149 386)),(oh,396,(rV 157)),(Fy,405,(rV 165)),(Fz,414,(rV 172)),(FB,422,(rV 179)),(og,425,(rV 180))] 8,tu [],lt 4 [(151,156),(155,164),(162,171),(165,178)],cm yH yH 378 381 149 0 0 0 0 147 148 .none .none .none,⟨.type "frame",.none,.plain,.mk [(.some (rV 149)),(.some (rV 3)),(.some (rV 146)),.none,(.some (sV fb 374)),.none,(.some (rV 0))]⟩]++bk 151 (bA p 20 0) oh Ju 388 151 3 0 3 [fX,yO,FC]
noncomputable def q6(p:Program)(P:Params):List Obj:=[fn (bA p 20 0) oh Ju none (sV fb 374) 156,tu [.none]]++bk 159 (bA p 20 1) Fy Jv 397 155 3 0 3 [fX,G9,Ki]++[fd (bA p 20 1) Fy Jv (rV 158) none (sV fb 374) 164]++bk 166 (bA p 20 2) Fz Jw 406 162 3 0 3 [fX,G9,Kj]++[fn (bA p 20 2) Fz Jw none (sV fb 374) 171]++bk 173 (bA p 20 3) FB B7 415 165 2 0 3 [fX,G9]++[fn (bA p 20 3) FB B7 none (sV fb 374) 178,tS [(a2,423),(yO,424)]]
noncomputable def q7(p:Program)(P:Params):List Obj:=[dc P "dict" [(mt,383,(sV fb 374)),(oe,387,(iV 149 386)),(oh,396,(rV 157)),(Fy,405,(rV 165)),(Fz,414,(rV 172)),(FB,422,(rV 179)),(og,425,(rV 180)),(re,427,(rV 183)),(mq,429,(rV 184)),(a2,430,.none)] 4,⟨.type "type",.none,.cls ⟨yH,[(.type "object")],[(rV 182),(.type "object")],181,yH,true,[],[],false,.none,false⟩,.mk [.none,.none,(.some (sV yH 376)),(.some (sV yH 384)),(.some (.builtin "object.__new__")),(.some (.bool true))]⟩,ob "getset_descriptor" [(sV re 426),(rV 182),(.builtin "function.__dict__"),(.builtin "function.__dict__#set")],ob "getset_descriptor" [(sV mq 428),(rV 182),(.builtin "ExceptionGroup.__weakref__"),.none],ob "super" [(rV 182),(rV 182),(rV 182)],ob "builtin_function_or_method" [(.builtin "object.__init_subclass__"),(rV 182)],tu [(.type "tuple")],ob "builtin_function_or_method" [(.builtin "type.__prepare__"),(.type "type")],dc P "dict" [(mt,440,(sV fb 374)),(wA,442,(sV yI 441)),(oe,444,(iV 167 443)),(a2,446,(sV B8 445)),(vV,448,(rV 195)),(B9,452,(rV 196)),(Ca,453,(rV 197)),(vW,464,(rV 204)),(sR,486,(rV 213)),(sS,497,(rV 222)),(Cc,498,(rV 222)),(vX,506,(rV 229)),(vY,513,(rV 236)),(vZ,521,(rV 243)),(Cd,525,(rV 244)),(sU,535,(rV 246)),(sA,545,(rV 249)),(rf,555,(rV 252)),(og,556,(rV 254)),(F4,557,(rV 190))] 20,⟨.type "cell",.none,.cell (.some (rV 257)),.mk []⟩,tu [],lt 4 [(173,203),(178,210),(185,221),(196,228),(200,235),(203,242)],cm yI yI 435 438 167 0 0 0 0 191 192 .none .none .none,⟨.type "frame",.none,.plain,.mk [(.some (rV 193)),(.some (rV 3)),(.some (rV 189)),.none,(.some (sV fb 374)),.none,(.some (rV 0))]⟩,tu [],tS [(sU,449),(sA,450),(rf,451)],dc P "dict" [] 0]++bk 198 (bA p 21 4) vW Ce 454 173 4 0 3 [F5,sU,sA,rf]++[fn (bA p 21 4) vW Ce (.some 463) (sV fb 374) 203]
noncomputable def q8(p:Program)(P:Params):List Obj:=bk 205 (bA p 21 5) sR zU 465 177 2 0 3 [Dk,F6,v8]++[fx (bA p 21 5) sR zU [] (.some 473) (sV fb 374) (.some 214) 210 .none,dc P "dict" [(mt,475,(sV fb 374)),(a0,478,(sV sR 477)),(wA,481,(sV zU 480)),(a2,483,(.str (DB (bA p 21 5)) 473)),(a6,485,(rV 214))] 5,⟨.type "classmethod",.some 212,.fields (.mk [(rV 211),(.bool false)]),.mk []⟩,dc P "dict" [] 0,tu [(rV 190)],tS [(Cg,490)],fi [],tS [(fX,491),(F7,492),(v8,493)],tu [],f0 (bA p 21 6) sS zV,cd sS zV 487 494 185 1 1 0 11 216 217 (rV 218) (rV 219) (rV 220),fx (bA p 21 6) sS zV [(Cg,190)] (.some 496) (sV fb 374) .none 221 (rV 215)]++bk 223 (bA p 21 8) vX Ci 499 196 1 0 3 [fX]
noncomputable def q9(p:Program)(P:Params):List Obj:=[fn (bA p 21 8) vX Ci (.some 505) (sV fb 374) 228]++bk 230 (bA p 21 9) vY Cj 507 200 1 0 3 [fX]++[fn (bA p 21 9) vY Cj none (sV fb 374) 235]++bk 237 (bA p 21 10) vZ Ck 514 203 1 0 3 [fX]++[fn (bA p 21 10) vZ Ck (.some 520) (sV fb 374) 242,tS [(sU,522),(sA,523),(rf,524)],dc P "dict" [(yO,532,(iV 0 526)),(a2,534,(sV Cl 527))] 2,⟨rV 182,.some 245,.plain,.mk []⟩,dc P "frame" [(fX,528,(rV 246)),(yO,529,(iV 0 526)),(FC,530,(sV Cl 527))] 3,dc P "dict" [(yO,542,(iV 1 536)),(a2,544,(sV Cm 537))] 2,⟨rV 182,.some 248,.plain,.mk []⟩,dc P "frame" [(fX,538,(rV 249)),(yO,539,(iV 1 536)),(FC,540,(sV Cm 537))] 3,dc P "dict" [(yO,552,(iV 2 546)),(a2,554,(sV Cn 547))] 2,⟨rV 182,.some 251,.plain,.mk []⟩]
noncomputable def Lq(p:Program)(P:Params):List Obj:=[dc P "frame" [(fX,548,(rV 252)),(yO,549,(iV 2 546)),(FC,550,(sV Cn 547))] 3,tu [],⟨.type "list",.none,.seq (.mk []) 0,.mk []⟩,dc P "dict" [(mt,440,(sV fb 374)),(oe,444,(iV 167 443)),(a2,446,(sV B8 445)),(vV,448,(rV 195)),(B9,452,(rV 196)),(Ca,453,(rV 197)),(vW,464,(rV 258)),(sR,486,(rV 213)),(sS,497,(rV 222)),(Cc,498,(rV 222)),(vX,506,(rV 229)),(vY,513,(rV 236)),(vZ,521,(rV 243)),(Cd,525,(rV 244)),(sU,535,(rV 246)),(sA,545,(rV 249)),(rf,555,(rV 252)),(og,556,(rV 254))] 2,⟨.type "type",.none,.cls ⟨yI,[(.type "tuple")],[(rV 257),(.type "tuple"),(.type "object")],256,yI,false,[],[],false,.none,false⟩,.mk [(.some (rV 187)),.none,(.some (sV yI 433)),(.some (sV yI 441)),(.some .none),(.some (.bool false))]⟩,ob "staticmethod" [(rV 204)],ob "super" [(rV 257),(rV 257),(rV 257)],ob "builtin_function_or_method" [(.builtin "object.__init_subclass__"),(rV 257)]]++bk 261 (dP p 22) Dh Dh 561 210 2 0 3 [Co,F8]++[fn (dP p 22) Dh Dh none (sV fb 374) 266,tu [],ob "builtin_function_or_method" [(.builtin "type.__prepare__"),(.type "type")],dc P "dict" [(mt,576,(sV fb 374)),(wA,578,(sV yJ 577)),(oe,580,(iV 214 579)),(a2,582,(.str (mH p 23) 581)),(oh,597,(rV 282)),(v9,607,(rV 289)),(wc,616,(rV 296)),(wg,625,(rV 303)),(Cp,643,(rV 310)),(wi,671,(rV 318)),(wj,698,(rV 325)),(wk,713,(rV 332)),(wl,722,(rV 340)),(wm,731,(rV 347)),(wn,738,(rV 354)),(wo,745,(rV 361)),(og,756,(rV 362))] 17,tu [],lt 4 [(289,281),(317,288),(328,295),(353,302),(380,309),(404,317),(479,324),(527,331),(574,339),(577,346),(601,353),(604,360)],cm yJ yJ 571 574 214 0 0 0 0 271 272 .none .none .none,⟨.type "frame",.none,.plain,.mk [(.some (rV 273)),(.some (rV 3)),(.some (rV 270)),.none,(.some (sV fb 374)),.none,(.some (rV 0))]⟩,tu [.none,(sV Cq 584),(sV Cq 585),(.bool true)]]++bk 276 (bA p 23 1) oh Cs 586 289 5 0 3 [fX,zW,sU,sA,Cr]
noncomputable def Lr(p:Program)(P:Params):List Obj:=[fd (bA p 23 1) oh Cs (rV 275) (.some 596) (sV fb 374) 281]++bk 283 (bA p 23 2) v9 Ct 598 317 3 0 3 [fX,sU,sA]++[fn (bA p 23 2) v9 Ct (.some 606) (sV fb 374) 288]++bk 290 (bA p 23 3) wc Cv 608 328 2 0 3 [fX,sU]++[fn (bA p 23 3) wc Cv (.some 615) (sV fb 374) 295]++bk 297 (bA p 23 4) wg Cx 617 353 2 0 3 [fX,sA]++[fn (bA p 23 4) wg Cx (.some 624) (sV fb 374) 302]++bk 304 (bA p 23 5) Cz CC 626 380 1 0 3 [fX,sA,zX,BO,F9,Ga,Gb,zW,Gc,Cy,Gd,Ge]
noncomputable def Ls(p:Program)(P:Params):List Obj:=[fn (bA p 23 5) Cz CC none (sV fb 374) 309,tu [(iV 0 644),.none,(iV 0 645),.none]]++bk 312 (bA p 23 6) wi CI 646 404 5 0 3 [fX,CD,CE,CF,CG,sU,sA,zX,Gf,Gg,Gh,Gi,Gj,Gk,BO,Gl,Gm,wq,Ft]++[fd (bA p 23 6) wi CI (rV 311) (.some 670) (sV fb 374) 317]++bk 319 (bA p 23 7) wj CL 672 479 1 0 3 [fX,Gn,Go,Gp,CJ,CD,CE,CF,CG,BO,wq,Ft,G6,Gq,Gs,Gt,Gu,Gv,Gw,Gx]++[fn (bA p 23 7) wj CL (.some 697) (sV fb 374) 324]++bk 326 (bA p 23 8) wk CN 699 527 1 0 3 [fX,BO,wq,Gy,Gz,GB,rf,GC]++[fn (bA p 23 8) wk CN (.some 712) (sV fb 374) 331,tu [(iV 3 714)]]
noncomputable def Lt(p:Program)(P:Params):List Obj:=bk 334 (bA p 23 9) wl CO 715 574 2 0 3 [fX,Cy]++[fd (bA p 23 9) wl CO (rV 333) none (sV fb 374) 339]++bk 341 (bA p 23 10) wm CP 723 577 1 0 3 [fX,Co]++[fn (bA p 23 10) wm CP (.some 730) (sV fb 374) 346]++bk 348 (bA p 23 11) wn CQ 732 601 1 0 3 [fX]++[fn (bA p 23 11) wn CQ none (sV fb 374) 353]++bk 355 (bA p 23 12) wo CR 739 604 1 0 3 [fX]
noncomputable def Lu(p:Program)(P:Params):List Obj:=[fn (bA p 23 12) wo CR none (sV fb 374) 360,tS [(sU,746),(Cr,747),(sA,748),(zX,749),(GE,750),(GF,751),(GG,752),(zW,753),(CJ,754),(GH,755)],dc P "dict" [(mt,576,(sV fb 374)),(oe,580,(iV 214 579)),(a2,582,(.str (mH p 23) 581)),(oh,597,(rV 282)),(v9,607,(rV 289)),(wc,616,(rV 296)),(wg,625,(rV 303)),(Cp,643,(rV 310)),(wi,671,(rV 318)),(wj,698,(rV 325)),(wk,713,(rV 332)),(wl,722,(rV 340)),(wm,731,(rV 347)),(wn,738,(rV 354)),(wo,745,(rV 361)),(og,756,(rV 362)),(re,758,(rV 365)),(mq,760,(rV 366))] 3,⟨.type "type",.none,.cls ⟨yJ,[(.type "object")],[(rV 364),(.type "object")],363,yJ,true,[],[],false,.none,false⟩,.mk [.none,.none,(.some (sV yJ 569)),(.some (sV yJ 577)),(.some (.builtin "object.__new__")),(.some (.bool true))]⟩,ob "getset_descriptor" [(sV re 757),(rV 364),(.builtin "function.__dict__"),(.builtin "function.__dict__#set")],ob "getset_descriptor" [(sV mq 759),(rV 364),(.builtin "ExceptionGroup.__weakref__"),.none],ob "super" [(rV 364),(rV 364),(rV 364)],ob "builtin_function_or_method" [(.builtin "object.__init_subclass__"),(rV 364)],tu [],ob "builtin_function_or_method" [(.builtin "type.__prepare__"),(.type "type")],dc P "dict" [(mt,778,(sV eu 763)),(wA,780,(sV yK 779)),(oe,782,(iV 609 781)),(vV,786,(rV 376)),(oh,794,(rV 383)),(og,798,(rV 384))] 6,tu [],lt 4 [(612,382)],cm yK yK 773 776 609 0 0 0 0 372 373 .none .none .none,⟨.type "frame",.none,.plain,.mk [(.some (rV 374)),(.some (rV 3)),(.some (rV 371)),.none,(.some (sV eu 763)),.none,(.some (rV 0))]⟩,tS [(hO,783),(rg,784),(rh,785)]]++bk 377 (bA p 27 1) oh CT 787 612 2 0 3 [fX,hO]++[fn (bA p 27 1) oh CT none (sV eu 763) 382,tS [(hO,795),(rg,796),(rh,797)]]
noncomputable def Lv(p:Program)(P:Params):List Obj:=[⟨.type "list",.none,.seq (.mk [(sV hO 783),(sV rg 784),(sV rh 785)]) 1,.mk []⟩,dc P "dict" [(mt,778,(sV eu 763)),(oe,782,(iV 609 781)),(vV,786,(rV 376)),(oh,794,(rV 383)),(og,798,(rV 384)),(hO,800,(rV 388)),(rg,802,(rV 389)),(rh,804,(rV 390)),(a2,805,.none)] 5,⟨.type "type",.none,.cls ⟨yK,[(.type "object")],[(rV 387),(.type "object")],386,yK,false,[hO,rg,rh],[],false,.none,false⟩,.mk [.none,.none,(.some (sV yK 771)),(.some (sV yK 779)),(.some (.builtin "object.__new__")),(.some (.bool false))]⟩,ob "member_descriptor" [(sV hO 799),(rV 387),(.builtin "proto.slot"),(.builtin "proto.slot#set"),(iV 2 0)],ob "member_descriptor" [(sV rg 801),(rV 387),(.builtin "proto.slot"),(.builtin "proto.slot#set"),(iV 1 0)],ob "member_descriptor" [(sV rh 803),(rV 387),(.builtin "proto.slot"),(.builtin "proto.slot#set"),(iV 0 0)],ob "super" [(rV 387),(rV 387),(rV 387)],ob "builtin_function_or_method" [(.builtin "object.__init_subclass__"),(rV 387)],tu [(.type "ValueError")],ob "builtin_function_or_method" [(.builtin "type.__prepare__"),(.type "type")],dc P "dict" [(mt,815,(sV eu 763)),(wA,817,(sV yL 816)),(oe,819,(iV 616 818)),(a2,821,(.str (mH p 28) 820)),(og,823,(rV 400))] 5,tu [],fi [],cm yL yL 810 813 616 0 0 0 0 396 397 .none .none .none,⟨.type "frame",.none,.plain,.mk [(.some (rV 398)),(.some (rV 3)),(.some (rV 395)),.none,(.some (sV eu 763)),.none,(.some (rV 0))]⟩,tu [],dc P "dict" [(mt,815,(sV eu 763)),(oe,819,(iV 616 818)),(a2,821,(.str (mH p 28) 820)),(og,823,(rV 400)),(mq,825,(rV 403))] 2,⟨.type "type",.none,.cls ⟨yL,[(.type "ValueError")],[(rV 402),(.type "ValueError"),(.type "Exception"),(.type "BaseException"),(.type "object")],401,yL,true,[],[],false,.none,false⟩,.mk [(.some (rV 393)),.none,(.some (sV yL 808)),(.some (sV yL 816)),(.some (.builtin "ValueError.__new__")),(.some (.bool true))]⟩,ob "getset_descriptor" [(sV mq 824),(rV 402),(.builtin "ExceptionGroup.__weakref__"),.none],ob "super" [(rV 402),(rV 402),(rV 402)],ob "builtin_function_or_method" [(.builtin "object.__init_subclass__"),(rV 402)],tu [],ob "builtin_function_or_method" [(.builtin "type.__prepare__"),(.type "type")],dc P "dict" [(mt,835,(sV eu 763)),(wA,837,(sV yM 836)),(oe,839,(iV 628 838)),(a2,841,(.str (mH p 29) 840)),(oh,852,(rV 420)),(wr,861,(rV 427)),(ws,874,(rV 434)),(sT,881,(rV 439)),(wu,892,(rV 446)),(wv,900,(rV 453)),(ww,907,(rV 460)),(wx,922,(rV 467)),(wy,935,(rV 474)),(wz,942,(rV 481)),(og,947,(rV 482))] 15]
noncomputable def Lw(p:Program)(P:Params):List Obj:=[tu [],lt 4 [(631,419),(640,426),(645,433),(668,438),(683,445),(703,452),(717,459),(720,466),(753,473),(782,480)],cm yM yM 830 833 628 0 0 0 0 409 410 .none .none .none,⟨.type "frame",.none,.plain,.mk [(.some (rV 411)),(.some (rV 3)),(.some (rV 408)),.none,(.some (sV eu 763)),.none,(.some (rV 0))]⟩,tu [.none]]++bk 414 (bA p 29 1) oh CX 843 631 2 0 3 [fX,GI,hO,CW]++[fd (bA p 29 1) oh CX (rV 413) none (sV eu 763) 419]++bk 421 (bA p 29 2) wr CY 853 640 2 0 3 [fX,hO,v8]++[fn (bA p 29 2) wr CY none (sV eu 763) 426]++bk 428 (bA p 29 3) ws C9 862 645 2 0 7 [fX,hO,CW,CZ,GJ,GK]
noncomputable def Lx(p:Program)(P:Params):List Obj:=[fn (bA p 29 3) ws C9 (.some 873) (sV eu 763) 433,tu [],fi [],f0 (bA p 29 4) sT zY,cd sT zY 875 878 668 1 0 0 3 435 436 .none .none (rV 437),fn (bA p 29 4) sT zY (.some 880) (sV eu 763) 438]++bk 440 (bA p 29 5) wu Da 882 683 1 0 3 [fX,v8,zZ,hO]++[fn (bA p 29 5) wu Da (.some 891) (sV eu 763) 445]++bk 447 (bA p 29 6) wv Db 893 703 1 0 3 [fX]++[fn (bA p 29 6) wv Db (.some 899) (sV eu 763) 452]++bk 454 (bA p 29 7) ww Dc 901 717 1 0 3 [fX]
noncomputable def Ly(p:Program)(P:Params):List Obj:=[fn (bA p 29 7) ww Dc none (sV eu 763) 459]++bk 461 (bA p 29 8) wx De 908 720 1 0 7 [fX,GL,zZ,hO,CZ,GM,GN,GO]++[fn (bA p 29 8) wx De (.some 921) (sV eu 763) 466]++bk 468 (bA p 29 9) wy Df 923 753 1 0 3 [fX,zZ,GP,GQ,GR,GT,hO]++[fn (bA p 29 9) wy Df none (sV eu 763) 473]++bk 475 (bA p 29 10) wz Dg 936 782 1 0 3 [fX]++[fn (bA p 29 10) wz Dg none (sV eu 763) 480,tS [(GV,943),(GW,944),(GX,945),(GY,946)],dc P "dict" [(mt,835,(sV eu 763)),(oe,839,(iV 628 838)),(a2,841,(.str (mH p 29) 840)),(oh,852,(rV 420)),(wr,861,(rV 427)),(ws,874,(rV 434)),(sT,881,(rV 439)),(wu,892,(rV 446)),(wv,900,(rV 453)),(ww,907,(rV 460)),(wx,922,(rV 467)),(wy,935,(rV 474)),(wz,942,(rV 481)),(og,947,(rV 482)),(re,949,(rV 485)),(mq,951,(rV 486))] 3]
noncomputable def Lz(p:Program)(P:Params):List Obj:=[⟨.type "type",.none,.cls ⟨yM,[(.type "object")],[(rV 484),(.type "object")],483,yM,true,[],[],false,.none,false⟩,.mk [.none,.none,(.some (sV yM 828)),(.some (sV yM 836)),(.some (.builtin "object.__new__")),(.some (.bool true))]⟩,ob "getset_descriptor" [(sV re 948),(rV 484),(.builtin "function.__dict__"),(.builtin "function.__dict__#set")],ob "getset_descriptor" [(sV mq 950),(rV 484),(.builtin "ExceptionGroup.__weakref__"),.none],ob "super" [(rV 484),(rV 484),(rV 484)],ob "builtin_function_or_method" [(.builtin "object.__init_subclass__"),(rV 484)]]++bk 489 (dP p 31) Di Di 956 785 1 0 3 [G6]++[fn (dP p 31) Di Di none (sV a1 954) 494,tu [],fi [],f0 (dP p 32) z9 z9,cd z9 z9 963 966 787 2 0 0 3 496 497 .none .none (rV 498),fn (dP p 32) z9 z9 none (sV a1 954) 499,tu [],fi [],f0 (dP p 33) Aa Aa,cd Aa Aa 969 972 797 1 0 0 3 501 502 .none .none (rV 503),fn (dP p 33) Aa Aa none (sV a1 954) 504]++bk 506 (dP p 34) Dj Dj 975 799 2 0 3 [GZ,G0,G1,wq,Ft,G3,Dl,G4]
noncomputable def LB(p:Program)(P:Params):List Obj:=[fn (dP p 34) Dj Dj none (sV a1 954) 511,tu [],fi [],f0 (dP p 35) Ab Ab,cd Ab Ab 989 992 812 1 0 0 3 513 514 .none .none (rV 515),fn (dP p 35) Ab Ab none (sV a1 954) 516]
noncomputable def qs(p:Program)(P:Params):List (Nat×List Obj):=[(28,q0 p P),(24,q1 p P),(24,q2 p P),(25,q3 p P),(28,q4 p P),(28,q5 p P),(24,q6 p P),(24,q7 p P),(24,q8 p P),(24,q9 p P),(29,Lq p P),(28,Lr p P),(24,Ls p P),(27,Lt p P),(24,Lu p P),(24,Lv p P),(25,Lw p P),(26,Lx p P),(24,Ly p P),(28,Lz p P),(6,LB p P)]
noncomputable def lP(p:Program)(P:Params):List Obj:=[boot_o_0 P,boot_o_1 P,boot_o_2 P,boot_o_3 P,boot_o_4 P,boot_o_5 P,boot_o_6 P,boot_o_7 P,boot_o_8 P,boot_o_9 P,boot_o_10 P,tu [],fi [],cm Fs Fs 182 185 1 0 0 0 0 11 12 .none .none .none,⟨.type "frame",.none,.plain,.mk [(.some (rV 13)),(.some (rV 3)),(.some (rV 3)),.none,(.some (sV G5 164)),.none,(.some (rV 0))]⟩]
noncomputable def bZ(p:Program)(P:Params):List Obj:=(qs p P).flatMap (·.2)
noncomputable def gq:List (Nat×List Obj)->Nat->Obj
 |[],_=>default
 |x::l,a=>@Bool.rec (λ_=>Obj) (gq l (a-x.1)) (x.2.getD a default) (Nat.blt a x.1)
noncomputable def bt(n:Nat)(g:Nat->Obj):Nat->Nat->Nat->BT
 |0,_,_=>.nil
 |m+1,i,s=>@Bool.rec (λ_=>BT) .nil (.node (g i) (bt n g m (i+s) (2*s)) (bt n g m (i+2*s) (2*s))) (Nat.blt i n)
noncomputable def pA(p:Program)(P:Params):BT:=bt 15 (λi=>(lP p P).getD i default) 5 0 1
noncomputable def ke(p:Program)(P:Params):BT:=bt 518 (gq (qs p P)) 11 0 1
noncomputable def md(n k:Nat)(s:Str)(t:Tok)(j:Nat)(p:Program)(P:Params):BT:=bt n (λa=>bif Nat.beq a 3 then dc P "dict" ((a0,165,sV s t)::mL.take k) (k+1)else bif Nat.beq a 12 then lt 0 (lL.take j)else gq (qs p P) a) 11 0 1
noncomputable def dA:Nat->List Obj->Frag
 |_,[]=>[]
 |n,o::l=>(n,o)::dA (n+1) l
noncomputable def KH(p:Program)(P:Params):Frag:=dA 0 (bZ p P)
noncomputable def uK(p:Program)(P:Params):Obj:=gq (qs p P) 517
end
structure WS{α:Type}(b F:α):Type where
noncomputable def WS.of{α:Type}(F:α):WS F F:=⟨⟩
noncomputable def docA:Str:=by
 refine(?g:∀F:Str,WS (mH PySem.Challenge.pw_ik0244_01 23) F->Str) ?F ?h
 case g=>exact λF _=>F
 case h=>
  delta PySem.Challenge.pw_ik0244_01;dsimp only[mH,As,Au,Bs,FE,FF,dP,List.getD,P5,List.getElem?_cons_zero,Option.getD];exact WS.of _
noncomputable abbrev tm:String:=by
 refine(?g:∀F:String,WS docA (Str.ofString F)->String) ?F ?h
 case g=>exact λF _=>F
 case h=>
  delta docA;exact WS.of _
noncomputable def yV:List Char:=by
 refine(?g:∀F:List Char,WS tm (String.ofList F)->List Char) ?F ?h
 case g=>exact λF _=>F
 case h=>
  delta tm;exact WS.of _
noncomputable def DC:Str:=⟨⟨yV.map Char.toNat⟩⟩
theorem At:docA=DC:=PySem.W.Fast.ofString_ofList yV
structure WP(b:Program)(F:(String->Str)->Str->Program):Type where
noncomputable def WP.of(F:(String->Str)->Str->Program)(g:String->Str)(d:Str):WP (F g d) F:=⟨⟩
noncomputable def pG:(String->Str)->Str->Program:=by
 refine(?g:∀F:(String->Str)->Str->Program,WP PySem.Challenge.pw_ik0244_01 F->(String->Str)->Str->Program) ?F ?h
 case g=>exact λF _=>F
 case h=>
  delta PySem.Challenge.pw_ik0244_01;generalize Str.ofString tm=d;generalize Str.ofString=f;revert d;revert f;exact WP.of _
theorem EU:PySem.Challenge.pw_ik0244_01=pG Str.ofString docA:=by rfl
noncomputable def Bt(s:String):Str:=⟨⟨(PySem.W.S.toListS s).map Char.toNat⟩⟩
theorem ym:Str.ofString=Bt:=by
 funext s;rw[Str.ofString_eq_byList];unfold Str.ofStringByList Bt;rw[PySem.W.S.toListS_eq]
noncomputable def pT:Program:=pG Bt DC
theorem EY:PySem.Challenge.pw_ik0244_01=pT:=by
 rw[EU,ym,At];rfl
noncomputable abbrev Mb:=PySem.W.Fast.tw14364793385576792824
noncomputable def Be:Nat:=0x606078666f60602f66717a75
noncomputable def n8(id:String):Option Builtin:=@Bool.rec (λ_=>Option Builtin) (PySem.W.Fast.tw1115789885857029328.find (PySem.W.Fast.tw13482112738370960269 id)) (some EK) (Nat.beq (PySem.W.Fast.tw13482112738370960269 id) Be)
theorem ti:PySem.code "type.__new__"=Be:=by kernel_rfl
theorem BF:Mb "type.__new__"=some PySem.W.Fast.tw4202317264376624991:=by kernel_rfl
theorem BE:treeTable=n8:=by
 rw[OY];funext id;unfold n8;cases h:Nat.beq (PySem.W.Fast.tw13482112738370960269 id) Be with
 |false=>rfl
 |true=>
  have e:=NH h;rw[<-OZ,<-ti]at e;have:=PySem.code_inj _ _ e;subst this;rw[show PySem.W.Fast.tw14364793385576792824 "type.__new__"=_ from BF];exact congrArg some xP
noncomputable def jq(p:Program):Env:={scope:=p.main.scope,locals:=mainNs,globals:=mainNs,cells:=[],code:=.ref 13,frame:=some 14}
noncomputable def cM(p:Program):Code:=.body (behindTheImports p) (jq p)
noncomputable def jx(l:List Obj):Heap:=⟨Array.mk l,{}⟩
noncomputable def l7(t:Params->BT)(n toks:Nat)(w:World)(os:OsState):SharedT:=⟨t w.params,n,{},.mk [],{},toks,os⟩
noncomputable def Br(l:Params->List Obj)(toks:Nat)(w:World)(os:OsState):Shared:=⟨jx (l w.params),.mk [],{},toks,os⟩
noncomputable abbrev gd:Option Value:=some (.ref 6)
noncomputable abbrev fp:Pos:=⟨0,0,0,0⟩
theorem DW:∀w:World,(λos=>PySem.W.Fast.tw15667345088766844465 n8 pT w 11 gd 12 ⟨boot_heap w.params,.mk [],boot_drawn,boot_toks,os⟩ (topStub pT))=
  λos=>some (Br (lP pT) 187 w os,⟨PySem.W.Fast.tw11892475500146522536 n8 (cM pT),cM pT,fp,[topFrame fp]⟩):=by
 intro w;kernel_rfl
theorem w6:∀w:World,(λos=>PySem.W.Fast.tw14374325043358763698 n8 pT w 11 gd 1 1 (Br (lP pT) 187 w os) (blockOf (behindTheImports pT) (jq pT) (cM pT) fp [topFrame fp]))=
  λos=>some (Flow.next,(l7 (pA pT) 15 187 w os).abs,cM pT,fp):=by
 intro w;kernel_rfl
noncomputable abbrev bL:List Stmt:=behindTheImports pT
noncomputable abbrev He:List Stmt:=bL.drop 21
noncomputable abbrev Hf:List Stmt:=He.drop 2
noncomputable abbrev FD:List Stmt:=Hf.drop 1
theorem H6:∀w:World,(λos=>PySem.W.Fast.tw10110043849684766642 n8 pT w 11 gd 1 1266 (l7 (pA pT) 15 187 w os) ⟨Sem.wrap doneF deadEnd id id (PySem.W.Fast.tw12563942051412417395 (bL.take 21) (jq pT)),cM pT,fp,[topFrame fp]⟩)=
  λos=>some (Flow.next,l7 (md 187 22 fb 374 14 pT) 187 433 w os,cM pT,⟨149,0,166,54⟩):=by
 intro w;kernel_rfl
theorem H7:∀w:World,(λos=>PySem.W.Fast.tw10110043849684766642 n8 pT w 11 gd 1 1086 (l7 (md 187 22 fb 374 14 pT) 187 433 w os) ⟨Sem.wrap doneF deadEnd id id (PySem.W.Fast.tw12563942051412417395 (He.take 2) (jq pT)),cM pT,⟨149,0,166,54⟩,[topFrame fp]⟩)=
  λos=>some (Flow.next,l7 (md 268 24 fb 374 16 pT) 268 569 w os,cM pT,⟨210,0,213,14⟩):=by
 intro w;kernel_rfl
theorem H8:∀w:World,(λos=>PySem.W.Fast.tw10110043849684766642 n8 pT w 11 gd 1 666 (l7 (md 268 24 fb 374 16 pT) 268 569 w os) ⟨Sem.wrap doneF deadEnd id id (PySem.W.Fast.tw12563942051412417395 (Hf.take 1) (jq pT)),cM pT,⟨210,0,213,14⟩,[topFrame fp]⟩)=
  λos=>some (Flow.next,l7 (md 369 25 fb 374 17 pT) 369 763 w os,cM pT,⟨214,0,605,17⟩):=by
 intro w;kernel_rfl
theorem H9:∀w:World,(λos=>PySem.W.Fast.tw10110043849684766642 n8 pT w 11 gd 1 500 (l7 (md 369 25 fb 374 17 pT) 369 763 w os) ⟨Sem.wrap doneF deadEnd id id (PySem.W.Fast.tw12563942051412417395 (FD.take 5) (jq pT)),cM pT,⟨214,0,605,17⟩,[topFrame fp]⟩)=
  λos=>some (Flow.next,l7 (md 406 29 eu 763 19 pT) 406 828 w os,cM pT,⟨616,0,627,8⟩):=by
 intro w;kernel_rfl
theorem Ia:∀w:World,(λos=>PySem.W.Fast.tw10110043849684766642 n8 pT w 11 gd 1 698 (l7 (md 406 29 eu 763 19 pT) 406 828 w os) ⟨Sem.wrap doneF deadEnd id id (PySem.W.Fast.tw12563942051412417395 (FD.drop 5) (jq pT)),cM pT,⟨616,0,627,8⟩,[topFrame fp]⟩)=
  λos=>some (Flow.next,l7 (ke pT) 518 995 w os,cM pT,⟨812,0,837,15⟩):=by
 intro w;kernel_rfl
theorem DV:∀w:World,(λos=>PySem.W.Fast.tw14082659384304107361 n8 pT w 11 gd 2 (l7 (ke pT) 518 995 w os).abs ⟨doneF Flow.next,cM pT,⟨812,0,837,15⟩,[topFrame fp]⟩)=
  λos=>some (Br (bZ pT) 995 w os):=by
 intro w;kernel_rfl
theorem DU:bL.take 21++(He.take 2++(Hf.take 1++(FD.take 5++(FD.drop 5++[]))))=behindTheImports pT:=by
 rw[Mq,Ng,Ng,Ng,Ng]
theorem mR{l rest:List Stmt}{n N a b a' b':Nat}{t t':Params->BT}{w:World}{os:OsState}{pos p':Pos}{r:Shared}(h:(λos=>PySem.W.Fast.tw10110043849684766642 n8 pT w 11 gd 1 n (l7 t a b w os) ⟨Sem.wrap doneF deadEnd id id (PySem.W.Fast.tw12563942051412417395 l (jq pT)),cM pT,pos,[topFrame fp]⟩)=λos=>some (Flow.next,l7 t' a' b' w os,cM pT,p'))
  (k:topRun n8 pT w 11 gd N (l7 t' a' b' w os).abs (restOf rest (jq pT) (cM pT) p' [topFrame fp])=some r):topRun n8 pT w 11 gd (n+N) (l7 t a b w os).abs (restOf (l++rest) (jq pT) (cM pT) pos [topFrame fp])=some r:=by
 refine piece_app (n:=n) (s':=(l7 t' a' b' w os).abs) (p':=p') ?_ k;refine segRun_of ?_;have h:=congrFun h os;rw[PySem.W.Fast.te10110043849684766642];show PySem.W.Fast.tw10110043849684766642 n8 pT w 11 gd 1 n (l7 t a b w os) ⟨Sem.wrap doneF deadEnd id id (execs l (jq pT)),cM pT,pos,[topFrame fp]⟩=_;rw[NW];exact h
theorem DX(w:World)(os:OsState):topRun n8 pT w 11 gd (12+(1+(1266+(1086+(666+(500+(698+2))))))) ⟨boot_heap w.params,.mk [],boot_drawn,boot_toks,os⟩ (topStub pT)=some (Br (bZ pT) 995 w os):=by
 refine go_top (n:=12) (s':=Br (lP pT) 187 w os) (t':=⟨denote n8 (cM pT),cM pT,fp,[topFrame fp]⟩) ?_ ?_
 .have h:=congrFun (DW w) os;rw[PySem.W.Fast.te15667345088766844465,O0];exact h
 .refine piece_block (n:=1) (s':=(l7 (pA pT) 15 187 w os).abs) (p':=fp) ?_ ?_
  .have h:=congrFun (w6 w) os;rw[PySem.W.Fast.te14374325043358763698];exact h
  .rw[<-DU];refine mR (H6 w) (mR (H7 w) (mR (H8 w) (mR (H9 w) (mR (Ia w) ?_))));refine piece_nil ?_;have h:=congrFun (DV w) os;rw[PySem.W.Fast.te14082659384304107361];exact h
noncomputable def zm(p:Program):Program:={p with main:={p.main with body:=p.main.body.drop 35}}
noncomputable def ig:List Str:=[T [95,119,97,108,108],T [95,112,108,97,105,110,95,110,97,109,101],T [65,66,67,77,101,116,97],T [95,65,66,67,76,105,107,101],T [95,97,98,99,95,112,108,97,105,110,95,109,101,116,97],T [102,115,112,97,116,104],T [95,99,104,101,99,107,95,97,114,103,95,116,121,112,101,115],T [95,103,101,116,95,115,101,112],T [106,111,105,110],T [115,112,108,105,116,114,111,111,116],T [98,97,115,101,110,97,109,101],T [100,105,114,110,97,109,101],T [110,111,114,109,112,97,116,104],T [95,116,117,112,108,101,103,101,116,116,101,114],T [77,97,116,99,104],T [95,99,97,108,99,117,108,97,116,101,95,114,97,116,105,111],T [83,101,113,117,101,110,99,101,77,97,116,99,104,101,114],T [95,78,79,68,69,95,79,85,84],T [95,78,79,68,69,95,68,79,78,69],T [95,78,111,100,101,73,110,102,111],T [67,121,99,108,101,69,114,114,111,114],T [84,111,112,111,108,111,103,105,99,97,108,83,111,114,116,101,114],T [95,108,97,119,95,110,97,109,101],T [95,108,97,119,95,103,111,110,101],T [95,108,97,119,95,115,116,114,117,99,107],T [95,108,97,119,95,114,117,110,115]]
theorem fm:∀(l:List Obj) (n a:Nat) (o:Obj),(dA n l).lookup a=some o->n<=a/\l[a-n]?=some o
 |[],_,_,_,h=>by cases h
 |x::l,n,a,o,h=>by
  have h:List.lookup a ((n,x)::dA (n+1) l)=some o:=h;rw[QM]at h
  by_cases q:a=n
  .subst q;simp only[beq_self_eq_true]at h;refine⟨Me _,?_⟩;rw[P9];exact h
  .have:(a==n)=false:=beq_eq_false_iff_ne.mpr q;rw[this]at h;obtain⟨h1,h2⟩:=fm l (n+1) a o h;refine⟨by omega,?_⟩;rw[show a-n=(a-(n+1))+1 by omega];exact h2
theorem je(p:Program)(P:Params):KH p P=dA 0 (bZ p P):=rfl
noncomputable def m8(o:Obj):Bool:= !o.isFreed
theorem x5(p:Program)(P:Params):(bZ p P).all m8=true:=by kernel_rfl
theorem yB(p:Program)(P:Params)(h:Heap)(e:h.objs=Array.mk (bZ p P)):(KH p P).In h:=by
 intro a o hl;rw[je]at hl;obtain⟨_,h2⟩:=fm _ _ _ _ hl;rw[Nat.sub_zero]at h2;have hf:=MO.mp (x5 p P) o (ME h2);unfold Heap.get?;rw[e];have:(Array.mk (bZ p P))[a]?=some o:=by simpa using h2
 rw[this];obtain⟨c,d,dt,sl⟩:=o;cases dt<;>first |rfl |(exact absurd hf (by simp[m8,Obj.isFreed]))
noncomputable abbrev BM(p:Program):Hook:=⟨Array Obj,λs=>s.heap.objs,λw=>Array.mk (bZ p w.params),λw h=>(KH p w.params).In h,λw s e=>yB p w.params s.heap e,λw h h' x k=>Frag.In.keeps x k⟩
noncomputable abbrev Jl:Shared->Bool:=λ_=>true
theorem AF:∀w:World,((boot_heap w.params).isNs mainGlobals&&(Array.mk ([]:List GenState)).size==0,(boot_heap w.params).objs.size,PySem.W.Fast.tw8920871248978507458 (boot_heap w.params) mainGlobals (T [95,95,97,110,110,111,116,97,116,105,111,110,115,95,95]))=(true,11,gd):=by
 intro w;kernel_rfl
theorem Ib:∀w:World,(λos:OsState=>staticsOk (importedModules pT.main.body) (boot_heap w.params) (jx (bZ pT w.params)))=λos=>true:=by intro w;kernel_rfl
theorem Ic:∀w:World,(λos:OsState=>namesBound pT (jx (bZ pT w.params)))=λos=>true:=by intro w;kernel_rfl
theorem Ie:∀w:World,(λos:OsState=>gensDone (Br (bZ pT) 995 w os))=λos=>true:=by intro w;kernel_rfl
theorem Ig:∀w:World,(λos:OsState=>laidKept (boot_heap w.params) (jx (bZ pT w.params)))=λos=>true:=by intro w;kernel_rfl
theorem Ih:∀w:World,(λos:OsState=>PySem.W.Fast.tw4187177175401517315 (zm pT) ig (importedModules pT.main.body) Jl true (Br (bZ pT) 995 w os))=λos=>openGood (zm pT) ig:=by intro w;kernel_rfl
theorem AE:∀w:World,(fencedOpening treeTable pT w 5000).map (λs=>(s.heap,s.gens,s.drawn,s.toks))=some (boot_heap w.params,Array.mk [],boot_drawn,boot_toks):=
 boot_open (by kernel_rfl) (by decide) (λs=>by kernel_rfl)
theorem AD:LeftO pT (zm pT) ig Jl (BM pT).obs (BM pT).val 5000:=by
 refine LeftO.of_pieces (H₀:=λP=>boot_heap P) (H₁:=λP=>jx (bZ pT P)) (gs₀:=Array.mk []) (gs₁:=Array.mk []) (d₀:=boot_drawn) (d₁:={}) (k₀:=boot_toks) (k₁:=995) (m₀:=11) (ann:=gd) (M:=12+(1+(1266+(1086+(666+(500+(698+2))))))) AE ?_ ?_ (by decide) ?_
 .intro w;have h:=AF w;rw[PySem.W.Fast.te8920871248978507458];exact h
 .intro w os;rw[BE];exact DX w os
 .intro w;funext os;have e1:=congrFun (Ib w) os;have e2:=congrFun (Ic w) os;have e3:=congrFun (Ie w) os;have e4:=congrFun (Ig w) os;have e5:=congrFun (Ih w) os;rw[<-PySem.W.Fast.te4187177175401517315]at e5;refine Prod.ext ?_ (Prod.ext ?_ ?_)
  .show(staticsOk _ _ _&&namesBound _ _&&gensDone _&&laidKept _ _)=true;exact NR (NR (NR e1 e2) e3) e4
  .exact e5
  .rfl
noncomputable abbrev pw:=PySem.Challenge.pw_ik0244_01
theorem qJ:pw=pT:=EY
structure WR(b:OpenLaw)(F:Program->OpenLaw):Type where
noncomputable def WR.of(F:Program->OpenLaw)(p:Program):WR (F p) F:=⟨⟩
noncomputable def rG:Program->OpenLaw:=by
 refine(?g:∀F:Program->OpenLaw,WR PySem.Challenge.rw_ik0244_01 F->Program->OpenLaw) ?F ?h
 case g=>exact λF _=>F
 case h=>
  delta PySem.Challenge.rw_ik0244_01;generalize PySem.Challenge.pw_ik0244_01=p;revert p;exact WR.of _
theorem zo:PySem.Challenge.rw_ik0244_01=rG pT:=by
 rw[<-qJ];rfl
section
noncomputable abbrev ah:=List (Addr×Obj)
noncomputable abbrev Zs:=List ah
structure U where
 n:Nat->Nat
 u:(σ:Type)->σ->σ
noncomputable abbrev Ch:=Nat->U
noncomputable def u0:U:=⟨λ_=>0,λ_ d=>d⟩
noncomputable abbrev tf(ch:Ch):Ch:=λi=>ch (i+1)
noncomputable def oM(hs:Ch)(n:Nat)(x:U):Ch:=λi=>@Bool.rec (λ_=>U) (hs i) x (Nat.beq i n)
noncomputable def ab:Nat:=518
structure Md where
 hb:Bool
 fr:Option (List Env)
noncomputable abbrev mT:Md:=⟨true,none⟩
noncomputable abbrev mF:Md:=⟨false,none⟩
noncomputable def Md.push(m:Md)(c:Code):Md:=⟨m.hb,pushEnvs c.envs m.fr⟩
noncomputable def Md.off(m:Md):Md:=⟨false,m.fr⟩
noncomputable def jv(b m:Md):Option (List Env):=match b.fr with
 |none=>none
 |some _=>m.fr
set_option genInjectivity true in
set_option genCtorIdx true in
inductive Sd where
 |a (x:Addr)
 |c (x:Code)
 |m (x:ah)
 |z (x:Zs)
 |f (x:Option (List Env))
structure fW(φ:Type)where
 l1:List Sd
 l2:List Sd
 fin:φ
noncomputable abbrev Fp:=Code->ah->Zs->U->Option (Result×ah×Zs×List (Sd×Sd))
set_option genCtorIdx true in
inductive Ev where
 |k
 |c (i:Nat)
 |go
 |ent
 |r (lv:Nat) (hb:Ch->Md) (f:Ch->Fp)
noncomputable def kC{φ:Type}(l:List (Sd×Sd)):Option (fW φ)->Option (fW φ)
 |some x=>some ⟨l.map (·.1)++x.l1,l.map (·.2)++x.l2,x.fin⟩
 |none=>none
noncomputable def dM(P:Params)(a:Addr):Option Obj:=match Nat.blt a ab with
 |true=>(ke pT P).get a
 |false=>none
noncomputable def den:Code->Sem Fin:=PySem.W.Fast.tw11892475500146522536 PySem.W.Fast.tw14364793385576792824
noncomputable abbrev KT(φ α:Type):=α->List Ev->Ch->Ch->Nat->ah->Zs->Option (fW φ)
noncomputable def jN(c:Code):Bool:=Nat.ble c.weight 2&&Nat.ble c.cUnits 5
set_option backward.match.sparseCases false in
noncomputable def E3:(v:Value)->Option {a:Addr//v=.ref a}
 |.ref a=>some ⟨a,rfl⟩
 |_=>none
set_option backward.match.sparseCases false in
noncomputable def DN:(d:Data)->Option {vs:Array Value//d=.fields vs}
 |.fields vs=>some ⟨vs,rfl⟩
 |_=>none
set_option backward.match.sparseCases false in
noncomputable def E9:(v:Value)->Option {p:Str×Tok//v=.str p.1 p.2}
 |.str a b=>some ⟨(a,b),rfl⟩
 |_=>none
noncomputable def oy(P:Params)(cd:Value)(q:Str)(dM:Addr->Option Obj):Bool:=((E3 cd).bind λc=>(dM c.1).bind λo=>(DN o.data).bind λvs=>(vs.1[1]?).bind λx=>(E9 x).bind λp=>bif decide (p.1.1=q)then some ()else none).isSome
set_option backward.match.sparseCases false in
noncomputable def AC:(d:Data)->Option {f:FuncData//d=.func f}
 |.func fd=>some ⟨fd,rfl⟩
 |_=>none
set_option backward.match.sparseCases false in
noncomputable def Ak:(b:FuncBody)->Option {l:List Stmt//b=.stmts l}
 |.stmts b=>some ⟨b,rfl⟩
 |_=>none
set_option backward.match.sparseCases false in
noncomputable def Am:(c:Code)->Option {x:Addr×Args//c=.call (.ref x.1) x.2}
 |.call (.ref f) args=>some ⟨(f,args),rfl⟩
 |_=>none
noncomputable def pR(P:Params)(f:Addr):Option (FuncData×List Stmt):=(dM P f).bind λo=>(AC o.data).bind λfd=>(Ak fd.1.body).bind λb=>bif fd.1.scope.isCoroutine||fd.1.scope.isGenerator|| !oy P fd.1.code fd.1.qualname (dM P)then none else some (fd.1,b.1)
noncomputable abbrev IH(φ:Type):=(α:Type)->Nat->Md->Sem α->List Ev->Ch->Ch->Nat->ah->Zs->KT φ α->KT φ Value->Option (fW φ)
section
variable{φ:Type}
noncomputable def ld(P:Params)(M:ah)(a:Addr)(evs:List Ev)(g:Obj->List Ev->Option (fW φ)):Option (fW φ):=match evs with
 |.k::evs=>(dM P a).bind λo=>g o evs
 |.c i::evs=>(M[i]?).bind λp=>kC [(.a a,.a p.1)] (g p.2 evs)
 |_=>none
noncomputable def up(M:ah)(a:Addr)(f:Obj->Obj)(evs:List Ev)(g:ah->List Ev->Option (fW φ)):Option (fW φ):=match evs with
 |.c i::evs=>(M[i]?).bind λp=>bif (f p.2).isFreed then none else kC [(.a a,.a p.1)] (g (M.set i (p.1,f p.2)) evs)
 |_=>none
set_option backward.match.sparseCases false in
noncomputable def rn(P:Params)(ih:IH φ):Nat->Nat->Md->Code->List Ev->Ch->Ch->Nat->ah->Zs->KT φ Result->Option (fW φ)
 |0=>λ_ _ _ _ _ _ _ _ _ _=>none
 |m+1=>λlv hb c evs ch hs n M Z K=>match evs with
  |.go::evs=>match lv with
   |0=>none
   |lv+1=>bif jN c then ih Fin lv (hb.push c) (den c) evs ch hs n M Z (λfin evs ch hs n M Z=>match fin with
     |.done f=>K (.ok f) evs ch hs n M Z
     |.again c'=>bif c'.quiet then rn P ih m (lv+1) hb c' evs ch hs n M Z K else none) (λe=>K (.error e))else none
  |.ent::evs=>match lv with
   |0=>none
   |lv+1=>(Am c).bind λy=>(pR P y.1.1).bind λx=>ih (List (Str×Value)) lv hb (PySem.W.Fast.tw9782568553167038054 x.1 y.1.2) evs ch hs n M Z (λbinds evs ch hs n M Z=>
       ih Env lv hb (PySem.W.Fast.tw11113344188204177931 x.1.scope x.1.globals x.1.closure binds (x.1.qualname++".<locals>.") (some y.1.1) x.1.code none x.1.builtins) evs ch hs n M Z (λenv evs ch hs n M Z=>
        rn P ih m (lv+1) hb (.func x.2 env) evs ch hs n M Z K) (λ_ _ _ _ _ _ _=>none)) (λ_ _ _ _ _ _ _=>none)
  |.r l b f::evs=>bif Nat.ble l lv&& !((b hs).hb&& !hb.hb)then(f hs c M Z (ch 0)).bind λy=>kC ((.f (jv (b hs) hb),.f (b hs).fr)::y.2.2.2) (K y.1 evs (tf ch) (oM hs n (ch 0)) (n+1) y.2.1 y.2.2.1)else none
  |_=>none
set_option backward.match.sparseCases false in
noncomputable def iL(P:Params):Nat->(α:Type)->Nat->Md->Sem α->List Ev->Ch->Ch->Nat->ah->Zs->KT φ α->KT φ Value->Option (fW φ)
 |0=>λ_ _ _ _ _ _ _ _ _ _ _ _=>none
 |u+1=>λα lv hb t evs ch hs n M Z K KE=>match t with
  |.pure a=>K a evs ch hs n M Z
  |.raise e=>KE e evs ch hs n M Z
  |.rule _ k=>iL P u α lv hb (k ()) evs ch hs n M Z K KE
  |.at _ k=>iL P u α lv hb (k ()) evs ch hs n M Z K KE
  |.point _ k=>iL P u α lv hb (k ()) evs ch hs n M Z K KE
  |.ask k=>iL P u α lv hb (k ⟨pw,P⟩) evs ch hs n M Z K KE
  |.load a _ k=>ld P M a evs λo evs=>iL P u α lv hb (k o) evs ch hs n M Z K KE
  |.loadIfAlive a k=>ld P M a evs λo evs=>iL P u α lv hb (k (some o)) evs ch hs n M Z K KE
  |.update a _ f k=>up M a f evs λM evs=>iL P u α lv hb (k ()) evs ch hs n M Z K KE
  |.alloc o k=>bif o.isFreed then none else iL P u α lv hb (k ((ch 0).n 0+ab)) evs (tf ch) (oM hs n (ch 0)) (n+1) (M++[((ch 0).n 0+ab,o)]) Z K KE
  |.fresh k=>iL P u α lv hb (k ((ch 0).n 0)) evs (tf ch) (oM hs n (ch 0)) (n+1) M Z K KE
  |.handled o k=>bif o|| !hb.hb then none else iL P u α lv hb (k none) evs ch hs n M Z K KE
  |.call c hd g l k=>match hd with
   |none=>rn P (iL P u) 8 lv hb c evs ch hs n M Z (λr evs ch hs n M Z=>iL P u α lv hb (k r) evs ch hs n M Z K KE)
   |some v=>match v with
    |.ref _=>rn P (iL P u) 8 lv hb.off c evs ch hs n M Z (λr evs ch hs n M Z=>iL P u α lv hb (k r) evs ch hs n M Z K KE)
    |_=>none
  |_=>none
end
structure am(Mt:Heap)(os:OsState)(M:ah)(s:Shared):Prop where
 keep:∀b o,Mt.get? b=some o->s.heap.get? b=some o
 own:∀p∈M,s.heap.get? p.1=some p.2/\Mt.get? p.1=none
 nd:(M.map (·.1)).Nodup
 gens:s.gens= #[]
 os:s.os=os
noncomputable def b0(hb:Md)(lv:Nat)(A:Around):Prop:=A.depth+2*lv<1000/\A.units+5*lv<9900/\(hb.hb=true->A.handled=none)/\∀l,hb.fr=some l->A.frames=some l
noncomputable def bR{φ:Type}(F:φ->Prop)(o:Option (fW φ)):Prop:=∃x,o=some x/\x.l1=x.l2/\F x.fin
theorem ay{φ:Type}{F:φ->Prop}(h:bR F (none:Option (fW φ))):False:=nomatch h
theorem eH{φ:Type}{F:φ->Prop}{l:List (Sd×Sd)}{o:Option (fW φ)}(h:bR F (kC l o)):(∀p∈l,p.1=p.2)/\bR F o:=by
 obtain⟨x,e1,e,f⟩:=h;cases o with
 |none=>cases e1
 |some y=>
  cases e1;obtain⟨h1,h2⟩:=List.append_inj e (by rw[Mc,Mc]);exact⟨λp hp=>List.map_inj_left.mp h1 p hp,y,rfl,h2,f⟩
theorem jb{φ:Type}{F:φ->Prop}{a b:Addr}{o:Option (fW φ)}(h:bR F (kC [(.a a,.a b)] o)):a=b/\bR F o:=
 have⟨e,v⟩:=eH h
 ⟨Sd.a.inj (e _ (.head _)),v⟩
theorem cz{φ β:Type}{F:φ->Prop}{o:Option β}{g:Ch->β->Option (fW φ)}(h:∀ch,bR F (o.bind (g ch))):∃x,o=some x/\∀ch,bR F (g ch x):=by
 cases o with
 |none=>exact(ay (h λ_=>u0)).elim
 |some x=>exact⟨x,rfl,h⟩
theorem e8{φ:Type}{F:φ->Prop}{b:Bool}{g:Ch->Option (fW φ)}(h:∀ch,bR F (bif b then g ch else none)):b=true/\∀ch,bR F (g ch):=by
 cases b with
 |false=>exact(ay (h λ_=>u0)).elim
 |true=>exact⟨rfl,h⟩
theorem gH{φ:Type}{F:φ->Prop}{b:Bool}{g:Ch->Option (fW φ)}(h:∀ch,bR F (bif b then none else g ch)):b=false/\∀ch,bR F (g ch):=by
 cases b with
 |true=>exact(ay (h λ_=>u0)).elim
 |false=>exact⟨rfl,h⟩
structure Gr(w:World)(Mt:Heap):Prop where
 top:(KH pw w.params).In Mt
noncomputable def ot(w:World)(Mt:Heap)(os:OsState)(lv:Nat)(hb:Md)(f:Fp):Prop:=
 ∀(A:Around) (c:Code) (M:ah) (Z:Zs) (s:Shared) (R:Result->Shared->Prop),b0 hb lv A->am Mt os (M++Z.flatten) s->
  (∀x,∃y,f c M Z x=some y/\((∀p∈y.2.2.2,p.1=p.2)/\∀s',am Mt os (y.2.1++y.2.2.1.flatten) s'->R y.1 s'))->codeAny (model pw w) A c R s
noncomputable def bY(w:World)(Mt:Heap)(os:OsState)(evs:List Ev):Prop:=∀lv hb f,Ev.r lv hb f∈evs->∀h,ot w Mt os lv (hb h) (f h)
theorem bY.tail{w:World}{Mt:Heap}{os:OsState}{e:Ev}{evs:List Ev}(h:bY w Mt os (e::evs)):bY w Mt os evs:=λlv hb f hm=>h lv hb f (.tail _ hm)
theorem tj:den=denote table:=by
 unfold den;rw[<-OY,<-O0,<-table_eq_tree]
theorem Fj(p:Program)(P:Params):(List.range 518).map (ke p P).get=(bZ p P).map some:=by kernel_rfl
theorem dB{w:World}{Mt:Heap}(G:Gr w Mt){a:Addr}{o:Obj}(e:dM w.params a=some o):Mt.get? a=some o:=by
 unfold dM at e;cases hb:Nat.blt a ab with
 |false=>rw[hb]at e;cases e
 |true=>
  rw[hb]at e;have lt:a<518:=Mm hb;have h1:=congrArg (·[a]?) (Fj pT w.params);simp only[Mf]at h1;rw[OT lt]at h1;simp only[Np]at h1;have h2:(bZ pT w.params)[a]?=some o:=by
   cases q:(bZ pT w.params)[a]? with
   |none=>rw[q]at h1;cases h1
   |some y=>
    rw[q]at h1;have h3:(ke pT w.params).get a=some y:=M2 h1;exact h3.symm.trans e
  have:(KH pw w.params).lookup a=some o:=by
   rw[qJ,je];have gen:∀(l:List Obj) (n a:Nat),l[a]?=some o->(dA n l).lookup (n+a)=some o:=by
    intro l
    induction l with
    |nil=>intro n a h;cases h
    |cons x l ih=>
     intro n a h;show List.lookup (n+a) ((n,x)::dA (n+1) l)=some o;rw[QM];cases a with
     |zero=>simp at h;subst h;simp
     |succ a=>
      have:(n+(a+1)==n)=false:=beq_eq_false_iff_ne.mpr (by omega);rw[this];have:=ih (n+1) a (by simpa using h);rwa[show n+1+a=n+(a+1)by omega]at this
   have:=gen _ 0 a h2;rwa[M3]at this
  exact G.top _ _ this
theorem cC{w:World}{Mt:Heap}{os:OsState}{M:ah}{s:Shared}(G:Gr w Mt)(C:am Mt os M s):ab<=s.heap.objs.size:=by
 have h:=dB (w:=w) (a:=517) (o:=uK pT w.params) G (by kernel_rfl);exact N5 (C.keep _ _ h)
theorem yz{α:Type}{prog:Program}{w:World}{A:Around}{E:Value->Shared->Prop}{s:Shared}{Q:α->Shared->Prop}{a:Addr}{k:Option Obj->Sem α}{o:Obj}(ho:s.heap.get? a=some o)
  (h:wpAny (model prog w) A (k (some o)) Q E s):wpAny (model prog w) A (.loadIfAlive a k) Q E s:=λΓ p hΓ=>by
 show Sem.wp _ _ (k (s.heap.get? a)) _ _ _ _;rw[ho];exact h Γ p hΓ
theorem am.perm{Mt:Heap}{os:OsState}{M M':ah}{s:Shared}(C:am Mt os M s)(h:M.Perm M'):am Mt os M' s:=
 ⟨C.keep,λp hp=>C.own p (h.mem_iff.mpr hp),(h.map _).nodup_iff.mp C.nd,C.gens,C.os⟩
theorem am.left{Mt:Heap}{os:OsState}{M F:ah}{s:Shared}(C:am Mt os (M++F) s):am Mt os M s:=
 ⟨C.keep,λp hp=>C.own p (MI _ hp),by have:=C.nd;rw[Mi]at this;exact(N6.mp this).1,C.gens,C.os⟩
theorem am.right{Mt:Heap}{os:OsState}{M F:ah}{s:Shared}(C:am Mt os (M++F) s):am Mt os F s:=(C.perm Mz).left
theorem am.alloc{Mt:Heap}{os:OsState}{M:ah}{s:Shared}(C:am Mt os M s){o:Obj}(hf:o.isFreed=false):
  am Mt os (M++[(s.heap.objs.size,o)]) {s with heap:=s.heap.push o}:=by
 have fr:Mt.get? s.heap.objs.size=none:=by
  cases q:Mt.get? s.heap.objs.size with
  |none=>rfl
  |some o'=>exact absurd (N5 (C.keep _ _ q)) (Nat.lt_irrefl _)
 refine⟨λb o' e=>Nl _ (C.keep b o' e),λp hp=>?_,?_,C.gens,C.os⟩
 .rcases MT.mp hp with hp |hp
  .exact⟨Nl _ (C.own p hp).1,(C.own p hp).2⟩
  .rw[MR]at hp;subst hp;exact⟨Qt _ hf,fr⟩
 .rw[Mi,N6];refine⟨C.nd,by simp,?_⟩;intro x hx y hy;simp only[Ml,Na,MR]at hy;subst hy;obtain⟨p,hp,rfl⟩:=ML.mp hx;exact Pb (N5 (C.own p hp).1)
theorem am.toks{Mt:Heap}{os:OsState}{M:ah}{s:Shared}(C:am Mt os M s)(t:Nat):am Mt os M {s with toks:=t}:=⟨C.keep,C.own,C.nd,C.gens,C.os⟩
theorem iG{M:ah}{i:Nat}{p:Addr×Obj}{o:Obj}(e:M[i]?=some p):(M.set i (p.1,o)).map (·.1)=M.map (·.1):=by
 apply QG;intro j;rw[Mf,Mf,Ok]
 by_cases h:i=j
 .subst h;have hl:i<M.length:=(Mj.mp e).1;simp[hl];rw[(Mj.mp e).2]
 .simp[h]
theorem am.update{Mt:Heap}{os:OsState}{M:ah}{s:Shared}(C:am Mt os M s){i:Nat}{p:Addr×Obj}(e:M[i]?=some p){f:Obj->Obj}(hf:(f p.2).isFreed=false):
  am Mt os (M.set i (p.1,f p.2)) {s with heap:=s.heap.update p.1 f}:=by
 have hm:p∈M:=ME e;have hs:Heap.SameBut p.1 s.heap (s.heap.update p.1 f):=Qu ..;refine⟨λb o' e'=>?_,λq hq=>?_,?_,C.gens,C.os⟩
 .refine(hs.2 b λz=>?_).trans (C.keep b o' e');rw[z,(C.own p hm).2]at e';cases e'
 .obtain⟨j,hj⟩:=OH.mp hq;rw[Ok]at hj
  by_cases h:i=j
  .subst h;have hl:i<M.length:=(Mj.mp e).1;simp only[hl,if_true]at hj;cases hj;refine⟨?_,(C.own p hm).2⟩
   first |exact OI f (C.own p hm).1 hf |exact OI _ (C.own p hm).1 hf
  .simp only[h,if_false]at hj;have hq':q∈M:=ME hj;have ne:q.1≠p.1:=by
    intro z;have h1:(M.map (·.1))[j]?=some q.1:=by rw[Mf,hj];rfl
    have h2:(M.map (·.1))[i]?=some p.1:=by rw[Mf,e];rfl
    have hli:i<(M.map (·.1)).length:=(Mj.mp h2).1;have:=(Pc hli C.nd).mp (h2.trans (z▸h1.symm));exact h this
   exact⟨(hs.2 q.1 ne).trans (C.own q hq').1,(C.own q hq').2⟩
 .rw[iG e];exact C.nd
theorem lY{es l:List Env}{x y:Option (List Env)}(h:pushEnvs es x=some l)(i:∀l,x=some l->y=some l):pushEnvs es y=some l:=by
 obtain⟨PQ,h1,h2⟩:=pushEnvs_some h;rw[pushEnvs_eq,i PQ h1,h2];rfl
theorem b0.under{hb:Md}{lv:Nat}{A:Around}{c:Code}(h:b0 hb (lv+1) A)(hc:jN c=true):b0 (hb.push c) lv (A.under c):=by
 obtain⟨h1,h2⟩:=Mr.mp hc;have a1:=Mm h1;have a2:=Mm h2;obtain⟨b1,b2,b3,b4⟩:=h;exact⟨by show A.depth+c.weight+2*lv<1000;omega,by show A.units+c.cUnits+5*lv<9900;omega,b3,λl e=>lY (show pushEnvs c.envs hb.fr=some l from e) b4⟩
theorem b0.mono{hb:Md}{l lv:Nat}{A:Around}(h:b0 hb lv A)(hl:l<=lv):b0 hb l A:=⟨by have:=h.1;omega,by have:=h.2.1;omega,h.2.2⟩
theorem b0.weak{hb b:Md}{lv:Nat}{A:Around}(h:b0 hb lv A)(e:(b.hb&& !hb.hb)=false)(f:jv b hb=b.fr):b0 b lv A:=⟨h.1,h.2.1,λhb'=>h.2.2.1 (by rw[hb']at e;cases q:hb.hb<;>simp_all),λl hl=>h.2.2.2 l (by
 unfold jv at f;rw[hl]at f;exact f)⟩
theorem b0.off{hb:Md}{lv:Nat}{A:Around}(h:b0 hb lv A)(v:Option Value):b0 hb.off lv (A.mark v):=⟨h.1,h.2.1,λx=>(by cases x),h.2.2.2⟩
theorem rQ(A:Around):A.mark none=A:=by
 cases A;rfl
noncomputable def jh(x:U)(ch:Ch):Ch:=λi=>match i with
 |0=>x
 |i+1=>ch i
theorem te(x:U)(ch:Ch):jh x ch 0=x:=rfl
theorem rj(x:U)(ch:Ch):tf (jh x ch)=ch:=rfl
noncomputable def uN(k:Nat):U:=⟨λ_=>k,λ_ d=>d⟩
noncomputable abbrev fw:Ch:=λ_=>u0
section
variable{φ:Type}{F:φ->Prop}{w:World}{Mt:Heap}{os:OsState}
noncomputable abbrev mo(φ:Type)(F:φ->Prop)(w:World)(Mt:Heap)(os:OsState)(d:IH φ):Prop:=
 ∀(α:Type) (lv:Nat) (hb:Md) (t:Sem α) (evs:List Ev) (hs:Ch) (n:Nat) (M:ah) (Z:Zs) (K:KT φ α) (KE:KT φ Value) (Q:α->Shared->Prop) (E:Value->Shared->Prop) (A:Around) (s:Shared),
  bY w Mt os evs->b0 hb lv A->am Mt os (M++Z.flatten) s->(∀ch,bR F (d α lv hb t evs ch hs n M Z K KE))->
  (∀a evs' hs' n' M' Z' s',bY w Mt os evs'->am Mt os (M'++Z'.flatten) s'->(∀ch,bR F (K a evs' ch hs' n' M' Z'))->Q a s')->
  (∀a evs' hs' n' M' Z' s',bY w Mt os evs'->am Mt os (M'++Z'.flatten) s'->(∀ch,bR F (KE a evs' ch hs' n' M' Z'))->E a s')->wpAny (model pw w) A t Q E s
theorem du{β:Type}{c:Bool}{x:Option β}{b:β}(h:(bif c then x else none)=some b):c=true/\x=some b:=match c,h with
 |true,h=>⟨rfl,h⟩
theorem nS{α:Type}{a:α}{P:Prop}(h:none=some a):P:=by cases h
theorem oz{w:World}{Mt:Heap}(G:Gr w Mt){cd:Value}{q:Str}{h:Heap}(k:∀b o,Mt.get? b=some o->h.get? b=some o)(e:oy w.params cd q (dM w.params)=true):h.CodeRec cd q:=by
 obtain⟨_,e⟩:=Oq.mp e;obtain⟨⟨c,hc⟩,_,e⟩:=Mk.mp e;obtain⟨o,ho,e⟩:=Mk.mp e;obtain⟨⟨vs,hd⟩,_,e⟩:=Mk.mp e;obtain⟨x,hx,e⟩:=Mk.mp e;obtain⟨⟨p,hp⟩,_,e⟩:=Mk.mp e;have e:=(du e).1;exact⟨c,o,vs,p.2,hc,k _ _ (dB G ho),hd,hx.trans (by rw[hp,<-of_decide_eq_true e])⟩
theorem jK{w:World}{Mt:Heap}(G:Gr w Mt):Mt.NoLimit:=by
 have h:=dB (w:=w) (a:=2) (o:=boot_o_2 w.params) G (by kernel_rfl);refine⟨λ_=>none,⟨boot_o_2 w.params, #[],0,h,rfl,λe he=>absurd he (by simp),?_⟩,rfl⟩;intro x;rfl
theorem b0.in1{hb:Md}{lv:Nat}{A:Around}(h:b0 hb (lv+1) A):b0 hb lv A.in1:=⟨by have:=h.1;show A.depth+2*lv<1000;omega,by have:=h.2.1;show A.units+1+5*lv<9900;omega,h.2.2⟩
theorem wI{M F:ah}{i:Nat}{p:Addr×Obj}(h:M[i]?=some p):(M++F)[i]?=some p:=by
 rw[List.getElem?_append_left (Mj.mp h).1];exact h
theorem wK{M F:ah}{i:Nat}{p q:Addr×Obj}(h:M[i]?=some p):(M++F).set i q=M.set i q++F:=by
 rw[List.set_append_left _ _ (Mj.mp h).1]
theorem wJ(M F:ah)(x:Addr×Obj):(M++F++[x]).Perm (M++[x]++F):=by
 rw[Ms,Ms];exact Mu _ Mz
theorem zj(G:Gr w Mt){M F':ah}{a:Addr}{evs:List Ev}{s:Shared}{g:Ch->Obj->List Ev->Option (fW φ)}(HR:bY w Mt os evs)(C:am Mt os (M++F') s)(H:∀ch,bR F (ld w.params M a evs (g ch))):
  ∃o evs',s.heap.get? a=some o/\bY w Mt os evs'/\∀ch,bR F (g ch o evs'):=by
 match evs,HR,H with
 |.k::evs,HR,H=>
  obtain⟨o,e,H⟩:=cz H;exact⟨o,evs,C.keep _ _ (dB G e),HR.tail,H⟩
 |.c i::evs,HR,H=>
  obtain⟨p,e,H⟩:=cz H;refine⟨p.2,evs,?_,HR.tail,λch=>(jb (H ch)).2⟩;rw[(jb (H fw)).1];exact(C.own _ (MI _ (ME e))).1
 |[],_,H=>exact(ay (H fw)).elim
 |.go::_,_,H=>exact(ay (H fw)).elim
 |.ent::_,_,H=>exact(ay (H fw)).elim
 |.r .. ::_,_,H=>exact(ay (H fw)).elim
theorem Fm{M F':ah}{a:Addr}{f:Obj->Obj}{evs:List Ev}{s:Shared}{g:Ch->ah->List Ev->Option (fW φ)}(HR:bY w Mt os evs)(C:am Mt os (M++F') s)(H:∀ch,bR F (up M a f evs (g ch))):
  ∃o M' evs',s.heap.get? a=some o/\am Mt os (M'++F') {s with heap:=s.heap.update a f}/\bY w Mt os evs'/\∀ch,bR F (g ch M' evs'):=by
 match evs,HR,H with
 |.c i::evs,HR,H=>
  obtain⟨p,e,H⟩:=cz H;obtain⟨hf,H⟩:=gH H;have C':=C.update (wI e) (f:=f) hf;rw[wK e]at C';have ea:=(jb (H fw)).1;subst ea;exact⟨p.2,_,evs,(C.own _ (MI _ (ME e))).1,C',HR.tail,λch=>(jb (H ch)).2⟩
 |.k::_,_,H=>exact(ay (H fw)).elim
 |[],_,H=>exact(ay (H fw)).elim
 |.go::_,_,H=>exact(ay (H fw)).elim
 |.ent::_,_,H=>exact(ay (H fw)).elim
 |.r .. ::_,_,H=>exact(ay (H fw)).elim
theorem mG{w:World}{Mt:Heap}(G:Gr w Mt){f:Addr}{x:FuncData×List Stmt}(e:pR w.params f=some x):∃o,Mt.get? f=some o/\o.data=.func x.1/\x.1.body=.stmts x.2/\x.1.scope.isCoroutine=false/\x.1.scope.isGenerator=false/\∀h:Heap,(∀b o,Mt.get? b=some o->h.get? b=some o)->h.CodeRec x.1.code x.1.qualname:=by
 obtain⟨o,eo,e⟩:=Mk.mp e;obtain⟨fd,hd,e⟩:=Mk.mp e;obtain⟨b,hb,e⟩:=Mk.mp e;cases q:(fd.1.scope.isCoroutine||fd.1.scope.isGenerator|| !oy w.params fd.1.code fd.1.qualname (dM w.params))with
 |true=>rw[q]at e;cases e
 |false=>
  rw[q]at e;cases e;obtain⟨q1,q3⟩:=Nr.mp q;obtain⟨q1,q2⟩:=Nr.mp q1;exact⟨o,dB G eo,fd.2,b.2,q1,q2,λh k=>oz G k (by simpa using q3)⟩
theorem gf(G:Gr w Mt){d:IH φ}(ih:mo φ F w Mt os d):
  ∀(m lv:Nat) (hb:Md) (c:Code) (evs:List Ev) (hs:Ch) (n:Nat) (M:ah) (Z:Zs) (K:KT φ Result) (R:Result->Shared->Prop) (A:Around) (s:Shared),
  bY w Mt os evs->b0 hb lv A->am Mt os (M++Z.flatten) s->(∀ch,bR F (rn w.params d m lv hb c evs ch hs n M Z K))->
  (∀a evs' hs' n' M' Z' s',bY w Mt os evs'->am Mt os (M'++Z'.flatten) s'->(∀ch,bR F (K a evs' ch hs' n' M' Z'))->R a s')->codeAny (model pw w) A c R s:=by
 intro m
 induction m with
 |zero=>intro lv hb c evs hs n M Z K R A s _ _ _ H;exact(ay (H fw)).elim
 |succ m ihm=>
  intro lv hb c evs hs n M Z K R A s HR hA C H HK
  match evs,HR,H with
  |[],_,H=>exact(ay (H fw)).elim
  |.k::_,_,H=>exact(ay (H fw)).elim
  |.c _::_,_,H=>exact(ay (H fw)).elim
  |.go::evs,HR,H=>
   cases lv with
   |zero=>exact(ay (H fw)).elim
   |succ lv=>
    obtain⟨hc,H⟩:=e8 H;refine ND ?_;show wpAny (model pw w) (A.under c) (denote table c) _ _ s;rw[<-tj];refine ih Fin lv (hb.push c) (den c) evs hs n M Z _ _ _ _ (A.under c) s HR.tail (hA.under hc) C H ?_ ?_
    .intro fin evs' hs' n' M' Z' s' HR' C' H';cases fin with
     |done f=>exact HK _ _ _ _ _ _ _ HR' C' H'
     |again c'=>
      obtain⟨hq,H'⟩:=e8 H';exact⟨hq,ihm (lv+1) hb c' evs' hs' n' M' Z' K R A s' HR' hA C' H' HK⟩
    .intro e evs' hs' n' M' Z' s' HR' C' H';exact HK _ _ _ _ _ _ _ HR' C' H'
  |.ent::evs,HR,H=>
   cases lv with
   |zero=>exact(ay (H fw)).elim
   |succ lv=>
    obtain⟨y,hy,H⟩:=cz H;obtain⟨x,hdf,H⟩:=cz H;obtain⟨o,ho,hd,hbd,hco,hgen,hcd⟩:=mG G hdf;rw[y.2];rw[<-O4,<-O1]at H;refine Qe (by have:=hA.1;show A.depth<1000;omega) (C.keep _ _ ho) hd hco hgen hbd (hcd _ C.keep) ?_;refine ih _ lv hb _ _ hs n M Z _ _ _ _ A.in1 s HR.tail hA.in1 C H ?_ (λ_ _ _ _ _ _ _ _ _ H'=>(ay (H' fw)).elim);intro binds evs' hs' n' M' Z' s' HR' C' H';refine ih _ lv hb _ _ hs' n' M' Z' _ _ _ _ A.in1 s' HR' hA.in1 C' H' ?_ (λ_ _ _ _ _ _ _ _ _ H''=>(ay (H'' fw)).elim);intro env evs'' hs'' n'' M'' Z'' s'' HR'' C'' H'';exact⟨(jK G).keeps C''.keep,ihm (lv+1) hb _ evs'' hs'' n'' M'' Z'' K R A s'' HR'' hA C'' H'' HK⟩
  |.r l b f::evs,HR,H=>
   obtain⟨hl,H⟩:=e8 H;obtain⟨hl,hbb⟩:=Mr.mp hl;have H1:∀x,∃y,f hs c M Z x=some y/\∀ch,bR F (kC ((.f (jv (b hs) hb),.f (b hs).fr)::y.2.2.2) (K y.1 evs ch (oM hs n x) (n+1) y.2.1 y.2.2.1)):=λx=>cz λch=>H (jh x ch)
   have hfr:jv (b hs) hb=(b hs).fr:=by
    obtain⟨y,_,h⟩:=H1 u0;exact Sd.f.inj ((eH (h fw)).1 _ (.head _))
   refine HR l b f (.head _) hs A c M Z s R ((hA.mono (Mm hl)).weak (by rw[Ol]at hbb;exact hbb) hfr) C λx=>?_
   obtain⟨y,e,h⟩:=H1 x;exact⟨y,e,λp hp=>(eH (h fw)).1 p (.tail _ hp),λs' C'=>HK _ _ _ _ _ _ _ HR.tail C' λch=>(eH (h ch)).2⟩
theorem hW(G:Gr w Mt):∀n,mo φ F w Mt os (iL (φ:=φ) w.params n):=by
 intro u
 induction u with
 |zero=>intro α lv hb t evs hs n M Z K KE Q E A s _ _ _ H;exact(ay (H fw)).elim
 |succ u ih=>
  intro α lv hb t evs hs n M Z K KE Q E A s HR hA C H HK HE;cases t with
  |pure a=>exact Mh (HK _ _ _ _ _ _ _ HR C H)
  |raise e=>exact Qj (HE _ _ _ _ _ _ _ HR C H)
  |rule tag k=>exact λΓ p hΓ=>ih _ _ _ _ _ _ _ _ _ _ _ _ _ _ _ HR hA C H HK HE Γ p hΓ
  |«at» q k=>exact λΓ p hΓ=>ih _ _ _ _ _ _ _ _ _ _ _ _ _ _ _ HR hA C H HK HE Γ q hΓ
  |point l k=>exact λΓ p hΓ=>ih _ _ _ _ _ _ _ _ _ _ _ _ _ _ _ HR hA C H HK HE Γ p hΓ
  |ask k=>exact λΓ p hΓ=>ih _ _ _ _ _ _ _ _ _ _ _ _ _ _ _ HR hA C H HK HE Γ p hΓ
  |load a q k=>
   obtain⟨o,evs',e,HR',H'⟩:=zj (g:=λch o evs=>iL w.params u α lv hb (k o) evs ch hs n M Z K KE) G HR C H;exact X.x_load e (ih _ _ _ _ _ _ _ _ _ _ _ _ _ _ _ HR' hA C H' HK HE)
  |loadIfAlive a k=>
   obtain⟨o,evs',e,HR',H'⟩:=zj (g:=λch o evs=>iL w.params u α lv hb (k (some o)) evs ch hs n M Z K KE) G HR C H;exact yz e (ih _ _ _ _ _ _ _ _ _ _ _ _ _ _ _ HR' hA C H' HK HE)
  |update a q f k=>
   obtain⟨o,M',evs',e,C',HR',H'⟩:=Fm (g:=λch M evs=>iL w.params u α lv hb (k ()) evs ch hs n M Z K KE) HR C H;exact on (m:=updatePart a q f) (f:=k) (wpAny_updatePart e (ih _ _ _ _ _ _ _ _ _ _ _ _ _ _ _ HR' hA C' H' HK HE))
  |alloc o k=>
   obtain⟨hf,H⟩:=gH (g:=λch=>iL w.params u α lv hb (k ((ch 0).n 0+ab)) evs (tf ch) (oM hs n (ch 0)) (n+1) (M++[((ch 0).n 0+ab,o)]) Z K KE) H;have hz:=cC G C;have e:s.heap.objs.size-ab+ab=s.heap.objs.size:=MJ hz;refine on (m:=alloc o) (f:=k) (wpAny_alloc ?_);refine ih _ _ _ _ _ (oM hs n (uN (s.heap.objs.size-ab))) (n+1) _ _ _ _ _ _ _ _ HR hA ((C.alloc hf).perm (wJ _ _ _)) (λch=>?_) HK HE;have q:=H (jh (uN (s.heap.objs.size-ab)) ch);rw[te,rj]at q;simp only[uN,e]at q;exact q
  |fresh k=>exact X.x_fresh (ih _ _ _ _ _ (oM hs n (uN s.toks)) (n+1) _ _ _ _ _ _ _ _ HR hA (C.toks _) (λch=>H (jh (uN s.toks) ch)) HK HE)
  |handled o k=>
   obtain⟨hoh,H2⟩:=gH (g:=λch=>iL w.params u α lv hb (k none) evs ch hs n M Z K KE) H;obtain⟨ho,hb'⟩:=Nr.mp hoh;subst ho;refine on (m:=handled) (f:=k) (PX ?_);rw[hA.2.2.1 (by simpa using hb')];exact ih _ _ _ _ _ _ _ _ _ _ _ _ _ _ _ HR hA C H2 HK HE
  |call c hd g l k=>
   cases hd with
   |some v=>
    cases v with
    |ref a=>
     refine X.x_call ?_ (by intro e;cases e);exact gf G ih 8 lv hb.off c evs hs n M Z (λr evs ch hs n M Z=>iL w.params u α lv hb (k r) evs ch hs n M Z K KE) _ _ s HR (hA.off _) C H λr evs' hs' n' M' Z' s' HR' C' H'=>ih _ _ _ _ _ _ _ _ _ _ _ _ _ _ _ HR' hA C' H' HK HE
    |_=>exact(ay (H fw)).elim
   |none=>
    refine X.x_call ?_ (by intro e;cases e);rw[rQ];exact gf G ih 8 lv hb c evs hs n M Z (λr evs ch hs n M Z=>iL w.params u α lv hb (k r) evs ch hs n M Z K KE) _ A s HR hA C H λr evs' hs' n' M' Z' s' HR' C' H'=>ih _ _ _ _ _ _ _ _ _ _ _ _ _ _ _ HR' hA C' H' HK HE
  |_=>exact(ay (H fw)).elim
end
end
section
noncomputable def Az(P:Params)(b:Bool):Params:={P with followText:=λr=>@Bool.rec (λ_=>Bool) (P.followText r) b (Nat.beq (PySem.W.Fast.tw13482112738370960269 r) (PySem.W.Fast.tw13482112738370960269 "special-get-raises"))}
theorem rx(P:Params):Az P (P.followText "special-get-raises")=P:=by
 unfold Az;have:(λr=>@Bool.rec (λ_=>Bool) (P.followText r) (P.followText "special-get-raises") (Nat.beq (PySem.W.Fast.tw13482112738370960269 r) (PySem.W.Fast.tw13482112738370960269 "special-get-raises")))=P.followText:=by
  funext r;cases h:Nat.beq (PySem.W.Fast.tw13482112738370960269 r) (PySem.W.Fast.tw13482112738370960269 "special-get-raises")with
  |false=>rfl
  |true=>
   have e:=NH h;rw[<-OZ]at e;have:=PySem.code_inj _ _ e;subst this;rfl
 rw[this]
theorem bu{w:World}{A:Around}{R:Result->Shared->Prop}{s:Shared}{T:String}{name:Str}{id:String}{B:Builtin}{self:Value}{rest:List Value}{S:PySem.Spec}(slot:Slot T name id)(hT:s.TypeIs self T)
  (entry:entryFor table id=some B) (args:argsOk id ⟨self::rest,[]⟩) (g:Meets (B ⟨self::rest,[]⟩) S) (h:S A R s):codeAny (model pw w) A (.call (.builtin id) ⟨self::rest,[]⟩) R s:=
 Qk slot.plain entry (slot.check _ _ _ _ _ _ _ _ hT args (g pw w A R s h))
theorem frame{w:World}{Mt:Heap}{os:OsState}{B F:ah}{s:Shared}(G:Gr w Mt)(C:am Mt os (B++F) s):
  ∃MG,Gr w MG/\am MG os B s/\∀B' s',am MG os B' s'->am Mt os (B'++F) s':=by
 have nd:=C.nd;rw[Mi,N6]at nd;obtain⟨nB,nF,dis⟩:=nd;have hid:∀b o,s.heap.get? b=some o->(∀q∈B,q.1≠b)->(hideAll s.heap (B.map (·.1))).get? b=some o:=λb o e hne=>Ql _ e λhm=>by
  obtain⟨q,hq,e'⟩:=ML.mp hm;exact hne q hq e'
 have off:∀b o,Mt.get? b=some o->(hideAll s.heap (B.map (·.1))).get? b=some o:=λb o e=>hid b o (C.keep b o e) λq hq e'=>by
  have:=(C.own q (MI _ hq)).2;rw[e',e]at this;cases this
 have offF:∀p∈F,(hideAll s.heap (B.map (·.1))).get? p.1=some p.2:=λp hp=>hid _ _ (C.own p (MH _ hp)).1 λq hq e'=>dis _ (Mw hq) _ (Mw hp) e'
 refine⟨hideAll s.heap (B.map (·.1)),⟨λa o e=>off a o (G.top a o e)⟩,⟨λb o e=>of_hideAll _ e,λq hq=>⟨(C.own q (MI _ hq)).1,hideAll_none _ (Mw hq)⟩,nB,C.gens,C.os⟩,?_⟩;intro B' s' C';refine⟨λb o e=>C'.keep b o (off b o e),λp hp=>?_,?_,C'.gens,C'.os⟩
 .rcases MT.mp hp with hp |hp
  .refine⟨(C'.own p hp).1,?_⟩;cases q:Mt.get? p.1 with
   |none=>rfl
   |some o=>
    have:=(C'.own p hp).2;rw[off _ _ q]at this;cases this
  .exact⟨C'.keep _ _ (offF p hp),(C.own p (MH _ hp)).2⟩
 .rw[Mi];refine N6.mpr ⟨C'.nd,nF,?_⟩;intro a ha b hb e;subst e;obtain⟨p,hp,rfl⟩:=ML.mp ha;obtain⟨q,hq,e2⟩:=ML.mp hb;have h1:=(C'.own p hp).2;rw[<-e2,offF q hq]at h1;cases h1
section
variable{α:Type}
noncomputable def cU:List Nat->List α->Option (List α)
 |[],_=>some []
 |i::is,M=>(M[i]?).bind λp=>(cU is M).map (p:: ·)
theorem lV(i:Nat)(is:List Nat)(M:List α):cU (i::is) M=(M[i]?).bind λp=>(cU is M).map (p:: ·):=rfl
theorem fo{i:Nat}{is:List Nat}{M L:List α}(h:cU (i::is) M=some L):∃p l,M[i]?=some p/\cU is M=some l/\L=p::l:=by
 obtain⟨p,hp,h⟩:=Mk.mp h;obtain⟨l,hl,h⟩:=MW.mp h;exact⟨p,l,hp,hl,h.symm⟩
noncomputable def eg:List Nat->List α->List α->List α
 |[],M,_=>M
 |_::_,M,[]=>M
 |i::is,M,o::os=>eg is (M.set i o) os
theorem fR:∀(is:List Nat) (M L:List α),cU is M=some L->L.length=is.length
 |[],_,_,h=>by cases h;rfl
 |i::is,M,L,h=>by
  obtain⟨p,l,_,hl,rfl⟩:=fo h;rw[Mg,Mg,fR is M l hl]
theorem jU{x:α}{j:Nat}:∀(is:List Nat) (M:List α) (os:List α),j∉is->eg is (M.set j x) os=(eg is M os).set j x
 |[],_,_,_=>rfl
 |_::_,_,[],_=>rfl
 |i::is,M,o::os,h=>by
  show eg is ((M.set j x).set i o) os=(eg is (M.set i o) os).set j x;have:j≠i:=λq=>h (q▸ .head _)
  rw[List.set_comm _ _ this,jU is _ os λq=>h (.tail _ q)]
theorem nC:∀(is:List Nat) (M:List α) (os:List α),(eg is M os).length=M.length
 |[],_,_=>rfl
 |_::_,_,[]=>rfl
 |i::is,M,o::os=>by
  show(eg is (M.set i o) os).length=_;rw[nC is _ os,QY]
theorem kU:∀(is:List Nat) (M L:List α),is.Nodup->cU is M=some L->eg is M L=M
 |[],_,_,_,_=>rfl
 |i::is,M,L,hn,h=>by
  obtain⟨p,l,hp,hl,rfl⟩:=fo h;obtain⟨hi,hn⟩:=NF.mp hn;show eg is (M.set i p) l=M;have e:M.set i p=M:=by
   apply QG;intro j;rw[Ok]
   by_cases h:i=j
   .subst h;simp[(Mj.mp hp).1];rw[(Mj.mp hp).2]
   .simp[h]
  rw[e];exact kU is M l hn hl
theorem mM(x:List α):∀(W:List (List α)) (i:Nat),i<W.length->((W.set i x).flatten).Perm (x++(W.set i []).flatten)
 |[],i,h=>by simp at h
 |a::W,0,_=>by simp
 |a::W,i+1,h=>by
  have ih:=mM x W i (by simpa using h);show(a++(W.set i x).flatten).Perm (x++(a++(W.set i []).flatten));refine(ih.append_left a).trans ?_;rw[<-Ms,<-Ms];exact OC _ Mz
theorem im:∀(is:List Nat) (Z:List (List α)) (xs:List (List α)),is.Nodup->xs.length=is.length->(∀i∈is,i<Z.length)->
  (eg is Z xs).flatten.Perm (xs.flatten++(eg is Z (is.map λ_=>[])).flatten)
 |[],Z,xs,_,hx,_=>by
  have:xs=[]:=N4.mp hx;subst this;exact .refl _
 |i::is,Z,[],_,hx,_=>by simp at hx
 |i::is,Z,x::xs,hn,hx,hb=>by
  obtain⟨hi,hn⟩:=NF.mp hn;show(eg is (Z.set i x) xs).flatten.Perm ((x::xs).flatten++(eg is (Z.set i []) (is.map λ_=>[])).flatten);have ih:=im is (Z.set i x) xs hn (by simpa using hx) (λj hj=>by rw[QY];exact hb j (.tail _ hj));refine ih.trans ?_;rw[jU _ _ _ hi,jU _ _ _ hi,MN,Ms];have:=mM x (eg is Z (is.map λ_=>[])) i (by rw[nC];exact hb i (.head _));refine(this.append_left xs.flatten).trans ?_;rw[<-Ms,<-Ms];exact OC _ Mz
theorem jR:∀(is:List Nat) (M L:List α),cU is M=some L->∀i∈is,i<M.length
 |i::is,M,L,h,j,hj=>by
  obtain⟨p,l,hp,hl,rfl⟩:=fo h;rcases My.mp hj with rfl |hj
  .exact(Mj.mp hp).1
  .exact jR is M l hl j hj
theorem gy(is:List Nat)(Z L:List (List α))(hn:is.Nodup)(h:cU is Z=some L):
  ∃F,Z.flatten.Perm (L.flatten++F)/\∀xs:List (List α),xs.length=is.length->(eg is Z xs).flatten.Perm (xs.flatten++F):=by
 refine⟨(eg is Z (is.map λ_=>[])).flatten,?_,λxs hx=>im is Z xs hn hx (jR is Z L h)⟩;have:=im is Z L hn (fR is Z L h) (jR is Z L h);rwa[kU is Z L hn h]at this
noncomputable def f7(M:List α):List (List α):=M.map λp=>[p]
theorem e7:∀M:List α,(f7 M).flatten=M
 |[]=>rfl
 |a::M=>by
  show a::(f7 M).flatten=_;rw[e7 M]
theorem jS:∀(is:List Nat) (M L:List α),cU is M=some L->cU is (f7 M)=some (f7 L)
 |[],_,_,h=>by cases h;rfl
 |i::is,M,L,h=>by
  obtain⟨p,l,hp,hl,rfl⟩:=fo h;rw[lV,jS is M l hl];unfold f7;rw[Mf,hp];rfl
theorem kW:∀(is:List Nat) (M xs:List α),eg is (f7 M) (f7 xs)=f7 (eg is M xs)
 |[],_,_=>rfl
 |_::_,_,[]=>rfl
 |i::is,M,x::xs=>by
  show eg is ((f7 M).set i [x]) (f7 xs)=f7 (eg is (M.set i x) xs);rw[<-kW is (M.set i x) xs];unfold f7;rw[List.map_set]
theorem gx(is:List Nat)(M L:List α)(hn:is.Nodup)(h:cU is M=some L):
  ∃F,M.Perm (L++F)/\∀xs:List α,xs.length=is.length->(eg is M xs).Perm (xs++F):=by
 obtain⟨F,h1,h2⟩:=gy is (f7 M) (f7 L) hn (jS is M L h);rw[e7,e7]at h1;refine⟨F,h1,λxs hx=>?_⟩;have:=h2 (f7 xs) (by unfold f7;rw[Mc];exact hx);rwa[kW,e7,e7]at this
end
noncomputable def Ai:Code->List Value
 |.call _ a=>a.pos
 |.builtin _ a=>a.pos
 |_=>[]
noncomputable abbrev Xs:=Nat->Nat
structure Tr where
 zp:Zs
 zq:U->Zs
 zn:U->Zs
 c:Code
 pre:ah
 r:U->Result
 post:U->List Obj
 new:U->ah
noncomputable def dG:ah->List Obj->ah
 |p::M,o::os=>(p.1,o)::dG M os
 |_,_=>[]
theorem bO(p:Addr×Obj)(M:ah)(o:Obj)(os:List Obj):dG (p::M) (o::os)=(p.1,o)::dG M os:=rfl
theorem bP(os:List Obj):dG [] os=[]:=rfl
noncomputable def fl(M:ah):Zs->ah
 |[]=>M
 |z::zs=>M++(z::zs).flatten
theorem cf(M:ah):∀Z:Zs,fl M Z=M++Z.flatten
 |[]=>by show M=M++[];simp
 |_::_=>rfl
noncomputable def yD(w:World)(hb:Md)(lv:Nat)(t:Tr):Prop:=∀Mt os,Gr w Mt->∀A s R,b0 hb lv A->am Mt os (fl t.pre t.zp) s->(∀x s',am Mt os (fl (dG t.pre (t.post x)++t.new x) (t.zq x++t.zn x)) s'->R (t.r x) s')->codeAny (model pw w) A t.c R s
noncomputable def nd:List Nat->Bool
 |[]=>true
 |i::l=> !(l.any λj=>Nat.beq i j)&&nd l
theorem m3:∀{l:List Nat},nd l=true->l.Nodup
 |[],_=>PJ
 |i::l,h=>by
  obtain⟨h1,h2⟩:=Mr.mp h;refine NF.mpr ⟨λhm=>?_,m3 h2⟩;have:(l.any λj=>Nat.beq i j)=true:=Pk.mpr ⟨i,hm,Nat.beq_refl i⟩;rw[this]at h1;cases h1
noncomputable def pI(is zs:List Nat)(t:Tr):Fp:=λc M Z x=>bif nd is&&nd zs then(cU is M).bind λL=>(cU zs Z).bind λLZ=>some (t.r x,eg is M (dG t.pre (t.post x))++t.new x,eg zs Z (t.zq x)++t.zn x,[(.c c,.c t.c),(.m L,.m t.pre),(.z LZ,.z t.zp)])else none
theorem kY:∀(L:ah) (os:List Obj),os.length=L.length->(dG L os).length=L.length
 |[],[],_=>rfl
 |[],_::_,h=>by simp at h
 |_::_,[],h=>by simp at h
 |p::L,o::os,h=>by
  show((p.1,o)::dG L os).length=_;rw[Mg,Mg,kY L os (by simpa using h)]
noncomputable def Tr.lenOk(t:Tr):Prop:=∀x,(t.post x).length=t.pre.length/\(t.zq x).length=t.zp.length
theorem vg(a b c d:ah):((a++b)++(c++d)).Perm ((a++c)++(b++d)):=by
 rw[Ms,Ms];refine Mu _ ?_;rw[<-Ms,<-Ms];exact OC _ Mz
theorem qH{x y F G n zn PM PZ:ah}(h1:PM.Perm (x++F))(h2:PZ.Perm (y++G)):(((x++n)++(y++zn))++(F++G)).Perm ((PM++n)++(PZ++zn)):=by
 have a1:(PM++n).Perm ((x++n)++F):=by
  refine(h1.append_right n).trans ?_;rw[Ms,Ms];exact Mu _ Mz
 have a2:(PZ++zn).Perm ((y++zn)++G):=by
  refine(h2.append_right zn).trans ?_;rw[Ms,Ms];exact Mu _ Mz
 exact((a1.append a2).trans (vg _ _ _ _)).symm
theorem mB{w:World}{hb:Md}{lv:Nat}{t:Tr}(ht:yD w hb lv t)(hl:t.lenOk){Mt:Heap}{os:OsState}(G:Gr w Mt){is zs:List Nat}{A:Around}{c:Code}{M:ah}{Z:Zs}{s:Shared}{R:Result->Shared->Prop}(hA:b0 hb lv A)(C:am Mt os (M++Z.flatten) s)
  (H:∀x,∃y,pI is zs t c M Z x=some y/\((∀p∈y.2.2.2,p.1=p.2)/\∀s',am Mt os (y.2.1++y.2.2.1.flatten) s'->R y.1 s')):codeAny (model pw w) A c R s:=by
 obtain⟨y0,e0,hp0,_⟩:=H u0;unfold pI at H e0;cases hn:(nd is&&nd zs)with
 |false=>rw[hn]at e0;cases e0
 |true=>
  rw[hn]at e0 H;obtain⟨n1,n2⟩:=Mr.mp hn;obtain⟨L,hpk,e0⟩:=Mk.mp e0;obtain⟨LZ,hpz,e0⟩:=Mk.mp e0;rw[hpk,hpz]at H;cases e0;have hc:c=t.c:=Sd.c.inj (hp0 _ (.head _));have hL:L=t.pre:=Sd.m.inj (hp0 _ (.tail _ (.head _)));have hLZ:LZ=t.zp:=Sd.z.inj (hp0 _ (.tail _ (.tail _ (.head _))));subst hc hL hLZ;obtain⟨F,f1,f2⟩:=gx is M _ (m3 n1) hpk;obtain⟨FZ,g1,g2⟩:=gy zs Z _ (m3 n2) hpz;have C1:am Mt os (fl t.pre t.zp++(F++FZ)) s:=by
   rw[cf];exact C.perm ((f1.append g1).trans (vg _ _ _ _))
  obtain⟨MG,Nn,NB,back⟩:=frame G C1;refine ht MG os Nn A s R hA NB λx s' C'=>?_
  obtain⟨y,e1,_,hR⟩:=H x;cases e1;refine hR s' ?_;have C2:=back _ _ C';rw[cf,Nx]at C2;rw[Nx];refine C2.perm (qH (f2 _ ?_) (g2 _ ?_))
  .rw[kY _ _ (hl x).1,fR is M _ hpk]
  .rw[(hl x).2,fR zs Z _ hpz]
structure af(w:World)(hb:Md)(lv:Nat)(t:Tr):Prop where
 ok:yD w hb lv t
 len:t.lenOk
noncomputable abbrev ba(w:World)(lv:Nat)(t:Tr):Prop:=af w mT lv t
inductive et {A:Sort _} {B:Sort _} (P:A->B->Prop):Prop where
 |mk (a:A) (b:B) (h:P a b)
inductive gc {A:Sort _} {B:Sort _} {C:Sort _} (P:A->B->C->Prop):Prop where
 |mk (a:A) (b:B) (c:C) (h:P a b c)
inductive iJ {A:Sort _} {B:Sort _} {C:Sort _} {D:Sort _} (P:A->B->C->D->Prop):Prop where
 |mk (a:A) (b:B) (c:C) (d:D) (h:P a b c d)
inductive yA {A:Sort _} {B:Sort _} {C:Sort _} {D:Sort _} {E:Sort _} (P:A->B->C->D->E->Prop):Prop where
 |mk (a:A) (b:B) (c:C) (d:D) (e:E) (h:P a b c d e)
inductive sM {A:Sort _} {B:Sort _} {C:Sort _} {D:Sort _} {E:Sort _} {F:Sort _} (P:A->B->C->D->E->F->Prop):Prop where
 |mk (a:A) (b:B) (c:C) (d:D) (e:E) (f:F) (h:P a b c d e f)
inductive F2 {A:Sort _} {B:Sort _} {C:Sort _} {D:Sort _} {E:Sort _} {F:Sort _} {G:Sort _} (P:A->B->C->D->E->F->G->Prop):Prop where
 |mk (a:A) (b:B) (c:C) (d:D) (e:E) (f:F) (g:G) (h:P a b c d e f g)
inductive JV {A:Sort _} {B:Sort _} {C:Sort _} {D:Sort _} {E:Sort _} {F:Sort _} {G:Sort _} {H:Sort _} {I:Sort _} (P:A->B->C->D->E->F->G->H->I->Prop):Prop where
 |mk (a:A) (b:B) (c:C) (d:D) (e:E) (f:F) (g:G) (h:H) (i:I) (h:P a b c d e f g h i)
inductive F1 {A:Sort _} {B:Sort _} {C:Sort _} {D:Sort _} {E:Sort _} {F:Sort _} {G:Sort _} {H:Sort _} {I:Sort _} {J:Sort _} (P:A->B->C->D->E->F->G->H->I->J->Prop):Prop where
 |mk (a:A) (b:B) (c:C) (d:D) (e:E) (f:F) (g:G) (h:H) (i:I) (j:J) (h:P a b c d e f g h i j)
inductive Mo (Q:ah->Prop) (N:ah):Prop where
 |mk (N':ah) (q:Q N') (p:N.Perm N')
inductive Cu (Q:ah->Prop) (N:ah):Prop where
 |mk (N' G:ah) (q:Q N') (p:N.Perm (N'++G))
inductive Fr (Q:ah->Prop) (F N:ah):Prop where
 |mk (N':ah) (q:Q N') (e:N=N'++F)
theorem fr{ι:Sort _}{β:Type}{o1:ι->β}{M1:ι->ah}{G:β->ah->Prop}(h:∀ch,G (o1 ch) (M1 ch))(r:β)(N:ah)(q:∃ch,r=o1 ch/\N=M1 ch):G r N:=by
 obtain⟨ch,rfl,rfl⟩:=q;exact h ch
theorem fq{ι:Sort _}{β:Type}{o1:ι->β}{M1:ι->ah}{F:ah}{G:β->ah->Prop}(h:∀ch,G (o1 ch) (M1 ch++F))(r:β)(N:ah)(q:Fr (λN'=>∃ch,r=o1 ch/\N'=M1 ch) F N):G r N:=by
 obtain⟨N',⟨ch,rfl,rfl⟩,rfl⟩:=q;exact h ch
noncomputable def ak(w:World)(hb:Md)(lv:Nat)(c:Code)(M:ah)(Q:Result->ah->Prop):Prop:=∀Mt os,Gr w Mt->∀A s R,b0 hb lv A->am Mt os M s->(∀r M' s',Q r M'->am Mt os M' s'->R r s')->codeAny (model pw w) A c R s
noncomputable def bH(w:World)(hb:Md)(lv:Nat)(c:Code)(M:ah)(Q:Except Value Fin->ah->Prop):Prop:=∀Mt os,Gr w Mt->∀A s R,b0 hb lv A->am Mt os M s->
 (∀r M' s',Q r M'->am Mt os M' s'->match r with |.error e=>R (.error e) s' |.ok (.done f)=>R (.ok f) s' |.ok (.again c')=>codeAny (model pw w) A c' R s')->codeAny (model pw w) A c R s
section
variable{w:World}{hb:Md}{lv:Nat}{c:Code}{M M' F:ah}
theorem ak.perm{Q:Result->ah->Prop}(h:ak w hb lv c M Q)(p:M.Perm M'):ak w hb lv c M' Q:=λMt os G A s R hA C H=>h Mt os G A s R hA (C.perm p.symm) H
theorem ak.mono{Q Q':Result->ah->Prop}(h:ak w hb lv c M Q)(i:∀r N,Q r N->Mo (Q' r) N):ak w hb lv c M Q':=λMt os G A s R hA C H=>
 h Mt os G A s R hA C λr N s' q C'=>let⟨N',q',p⟩:=i r N q;H r N' s' q' (C'.perm p)
theorem ak.frame{Q:Result->ah->Prop}(h:ak w hb lv c M Q)(F:ah):ak w hb lv c (M++F) λr N=>Fr (Q r) F N:=λMt os G A s R hA C H=>by
 obtain⟨MG,Nn,NB,back⟩:=Mine.frame G C;exact h MG os Nn A s R hA NB λr N s' q C'=>H r (N++F) s' ⟨N,q,rfl⟩ (back _ _ C')
theorem ak.drop{Q:Result->ah->Prop}(h:ak w hb lv c M Q):ak w hb lv c (M++F) Q:=λMt os G A s R hA C H=>h Mt os G A s R hA C.left H
theorem ak.cut{Q Q':Result->ah->Prop}(h:ak w hb lv c M Q)(i:∀r N,Q r N->Cu (Q' r) N):ak w hb lv c M Q':=λMt os G A s R hA C H=>
 h Mt os G A s R hA C λr N s' q C'=>let⟨N',F,q',p⟩:=i r N q;H r N' s' q' (C'.perm p).left
theorem ak.room{Q:Result->ah->Prop}{l:Nat}(h:ak w hb l c M Q)(e:l<=lv):ak w hb lv c M Q:=λMt os G A s R hA=>h Mt os G A s R (hA.mono e)
theorem ak.weak{Q:Result->ah->Prop}(h:ak w mF lv c M Q):ak w hb lv c M Q:=λMt os G A s R hA=>h Mt os G A s R (hA.weak rfl rfl)
theorem bH.perm{Q:Except Value Fin->ah->Prop}(h:bH w hb lv c M Q)(p:M.Perm M'):bH w hb lv c M' Q:=λMt os G A s R hA C H=>h Mt os G A s R hA (C.perm p.symm) H
theorem bH.frame{Q:Except Value Fin->ah->Prop}(h:bH w hb lv c M Q)(F:ah):bH w hb lv c (M++F) λr N=>Fr (Q r) F N:=λMt os G A s R hA C H=>by
 obtain⟨MG,Nn,NB,back⟩:=Mine.frame G C;exact h MG os Nn A s R hA NB λr N s' q C'=>H r (N++F) s' ⟨N,q,rfl⟩ (back _ _ C')
theorem bH.runs{Q:Except Value Fin->ah->Prop}{Q':Result->ah->Prop}(h:bH w hb lv c M Q)
  (i:∀r N,Q r N->match r with |.error e=>Q' (.error e) N |.ok (.done f)=>Q' (.ok f) N |.ok (.again c')=>ak w hb lv c' N Q'):ak w hb lv c M Q':=λMt os G A s R hA C H=>
 h Mt os G A s R hA C λr N s' q C'=>by
  have:=i r N q
  match r,this with
  |.error e,this=>exact H _ _ _ this C'
  |.ok (.done f),this=>exact H _ _ _ this C'
  |.ok (.again c'),this=>exact this Mt os G A s' R hA C' H
theorem af.runs{t:Tr}(h:af w hb lv t):ak w hb lv t.c (fl t.pre t.zp) λr N=>∃x,r=t.r x/\N=fl (dG t.pre (t.post x)++t.new x) (t.zq x++t.zn x):=λMt os G A s R hA C H=>
 h.ok Mt os G A s R hA C λx s' C'=>H _ _ s' ⟨x,rfl,rfl⟩ C'
theorem ak.tri{t:Tr}{Q:Result->ah->Prop}(hl:t.lenOk)(h:ak w hb lv t.c (fl t.pre t.zp) Q)(i:∀r N,Q r N->∃x,r=t.r x/\N.Perm (fl (dG t.pre (t.post x)++t.new x) (t.zq x++t.zn x))):af w hb lv t:=
 ⟨λMt os G A s R hA C H=>h Mt os G A s R hA C λr N s' q C'=>by
  obtain⟨x,rfl,p⟩:=i r N q;exact H x s' (C'.perm p),hl⟩
theorem af.weak{t:Tr}(h:af w mF lv t):af w hb lv t:=⟨λMt os G A s R hA=>h.ok Mt os G A s R (hA.weak rfl rfl),h.len⟩
theorem af.room{t:Tr}{l:Nat}(h:af w hb l t)(e:l<=lv):af w hb lv t:=⟨λMt os G A s R hA=>h.ok Mt os G A s R (hA.mono e),h.len⟩
end
structure RP(w:World)where
 lv:Nat
 hb:Ch->Md
 f:Ch->Fp
 ok:∀Mt os,Gr w Mt->∀h,ot w Mt os lv (hb h) (f h)
noncomputable abbrev fF:Ch->Md:=λ_=>mF
noncomputable abbrev fT:Ch->Md:=λ_=>mT
section
variable{w:World}
noncomputable def rM(hb:Ch->Md)(lv:Nat)(is zs:List Nat){tr:Ch->Tr}(k:∀h,af w (hb h) lv (tr h)):RP w:=
 ⟨lv,hb,λh=>pI is zs (tr h),λ_ _ G h _ _ _ _ _ _ hA C H=>mB (k h).ok (k h).len G hA C H⟩
noncomputable def rF(lv:Nat)(is zs:List Nat){tr:Ch->Tr}(k:∀h,af w mF lv (tr h)):RP w:=rM fF lv is zs k
noncomputable def rT(lv:Nat)(is zs:List Nat){tr:Ch->Tr}(k:∀h,af w mT lv (tr h)):RP w:=rM fT lv is zs k
noncomputable def rX(m:Md)(is:List Nat)(t:ah->List Value->Option Tr)(k:∀L c x,t L c=some x->af w m 0 x):RP w:=
 ⟨0,λ_=>m,λ_ c M Z x=>(cU is M).bind λL=>(t L (Ai c)).bind λy=>pI is [] y c M Z x,by
  intro _ _ G _ A c M Z s R hA C H;obtain⟨y0,e0,_⟩:=H u0;obtain⟨L,h1,e0⟩:=Mk.mp e0;obtain⟨y,h2,e0⟩:=Mk.mp e0;refine mB (is:=is) (zs:=[]) (k L _ y h2).ok (k L _ y h2).len G hA C λx=>?_
  have:=H x;simp only[h1,h2,Ov]at this;exact this⟩
end
noncomputable def Jx{w:World}(g:List (RP w)->List Ev):Nat->List (RP w)->List Ev
 |0,_=>[]
 |1,rs=>.k::g rs
 |2,rs=>.go::g rs
 |3,rs=>.ent::g rs
 |4,r::rs=>.r r.lv r.hb r.f::g rs
 |4,[]=>[]
 |i+5,rs=>.c i::g rs
noncomputable def pU{w:World}:Nat->Nat->List (RP w)->List Ev
 |0,_,_=>[]
 |m+1,n,rs=>Jx (pU m (n/64)) (n%64) rs
theorem lq{w:World}{Mt:Heap}{os:OsState}(G:Gr w Mt):∀(m n:Nat) (rs:List (RP w)),bY w Mt os (pU m n rs)
 |0,_,_=>λ_ _ _ h=>nomatch h
 |m+1,n,rs=>by
  have go:∀(e:Ev) (rs:List (RP w)),(∀lv hb f,e=.r lv hb f->∀h,ot w Mt os lv (hb h) (f h))->bY w Mt os (e::pU m (n/64) rs):=λe rs he lv hb f hm h=>by
   rcases My.mp hm with q |q
   .exact he _ _ _ q.symm h
   .exact lq G m (n/64) rs lv hb f q h
  show bY w Mt os (Jx (pU m (n/64)) (n%64) rs)
  match n%64,rs with
  |0,_=>exact λ_ _ _ h=>nomatch h
  |1,rs=>exact go .k rs nofun
  |2,rs=>exact go .go rs nofun
  |3,rs=>exact go .ent rs nofun
  |4,[]=>exact λ_ _ _ h=>nomatch h
  |4,r::rs=>exact go _ rs λ_ _ _ e h=>by cases e;exact r.ok _ _ G h
  |i+5,rs=>exact go (.c i) rs nofun
noncomputable def r9{φ:Type}(sel zsel:List Nat)(r:φ)(M:ah)(Z:Zs):Option (fW (φ×ah×Zs)):=bif nd sel&&nd zsel then(cU sel M).bind λL=>(cU zsel Z).bind λLZ=>some ⟨[],[],(r,L,LZ)⟩else none
theorem eX{φ:Type}{sel zsel:List Nat}{r:φ}{M:ah}{Z:Zs}{F:φ×ah×Zs->Prop}(h:bR F (r9 sel zsel r M Z)){Mt:Heap}{os:OsState}{s:Shared}(C:am Mt os (M++Z.flatten) s):
  ∃L,am Mt os (L.1++L.2.flatten) s/\F (r,L):=by
 obtain⟨hn,h⟩:=e8 (g:=λ_=>(cU sel M).bind λL=>(cU zsel Z).bind λLZ=>some ⟨[],[],(r,L,LZ)⟩) λ_=>h
 obtain⟨n1,n2⟩:=Mr.mp hn;obtain⟨L,hL,h⟩:=cz h;obtain⟨LZ,hLZ,h⟩:=cz h;obtain⟨F',f1,_⟩:=gx sel M _ (m3 n1) hL;obtain⟨G,g1,_⟩:=gy zsel Z _ (m3 n2) hLZ;obtain⟨x,e,_,hF⟩:=h fw;cases e;exact⟨(L,LZ),(C.perm ((f1.append g1).trans (vg _ _ _ _))).left,hF⟩
noncomputable def yi(P:Params)(lv:Nat)(hb:Md)(c:Code)(evs:List Ev)(sel zsel:List Nat)(ch:Ch)(M:ah)(Z:Zs):Option (fW (Result×ah×Zs)):=rn P (iL P 3000) 8 lv hb c evs ch fw 0 M Z λr _ _ _ _ M Z=>r9 sel zsel r M Z
noncomputable def Bp(P:Params)(lv:Nat)(hb:Md)(c:Code)(evs:List Ev)(sel zsel:List Nat)(ch:Ch)(M:ah)(Z:Zs):Option (fW (Except Value Fin×ah×Zs)):=match lv with
 |0=>none
 |lv+1=>bif jN c then iL P 3000 Fin lv (hb.push c) (den c) evs ch fw 0 M Z (λfin _ _ _ _ M Z=>match fin with
    |.done f=>r9 sel zsel (.ok (.done f)) M Z
    |.again c'=>bif c'.quiet then r9 sel zsel (.ok (.again c')) M Z else none) (λe _ _ _ _ M Z=>r9 sel zsel (.error e) M Z)else none
noncomputable def ck{α:Type}(w:World)(hb:Md)(lv:Nat)(t:Sem α)(M:ah)(Q:Except Value α->ah->Prop):Prop:=∀Mt os,Gr w Mt->∀A s (S:α->Shared->Prop) (E:Value->Shared->Prop),b0 hb lv A->am Mt os M s->
 (∀r M' s',Q r M'->am Mt os M' s'->match r with |.ok a=>S a s' |.error e=>E e s')->wpAny (model pw w) A t S E s
noncomputable def u9(P:Params){α:Type}(lv:Nat)(hb:Md)(t:Sem α)(evs:List Ev)(sel zsel:List Nat)(ch:Ch)(M:ah)(Z:Zs):Option (fW (Except Value α×ah×Zs)):=
 iL P 3000 α lv hb t evs ch fw 0 M Z (λa _ _ _ _ M Z=>r9 sel zsel (.ok a) M Z) λe _ _ _ _ M Z=>r9 sel zsel (.error e) M Z
noncomputable def oG(w:World)(b:Bool):World:={w with params:=Az w.params b}
theorem kI(w:World):oG w (w.params.followText "special-get-raises")=w:=by
 unfold oG;rw[rx]
noncomputable abbrev aZ(c:Ch)(i:Nat):Addr:=(c i).n 0+ab
noncomputable abbrev nZ(c:Ch)(i:Nat):Tok:=(c i).n 0
noncomputable def A8{φ:Type}:Option (fW φ)->List Sd
 |some x=>x.l2
 |none=>[]
noncomputable def aw{φ:Type}:Option (fW φ)->Option (List Sd×φ)
 |some x=>some (x.l1,x.fin)
 |none=>none
theorem Jb{φ:Type}{F:φ->Prop}{o:Option (fW φ)}{f:φ}(h:aw o=some (A8 o,f))(hF:F f):bR F o:=by
 cases o with
 |none=>cases h
 |some x=>
  cases x;cases h;exact⟨_,rfl,rfl,hF⟩
noncomputable abbrev RB(φ:Type):=Bool->World->Ch->φ
noncomputable def RB.L{φ:Type}{H:Params->Prop}(x:∀w:World,H w.params->Ch->Option (fW φ))(b:Bool):∀w:World,H (oG w b).params->Ch->Option (List Sd×φ):=λw h ch=>aw (x (oG w b) h ch)
noncomputable def RB.R{φ:Type}{H:Params->Prop}(x:∀w:World,H w.params->Ch->Option (fW φ))(o:Params->Ch->φ)(b:Bool):∀w:World,H (oG w b).params->Ch->Option (List Sd×φ):=λw h ch=>some (A8 (x (oG w b) h ch),o (oG w b).params ch)
theorem RB.use{φ:Type}{H:Params->Prop}{x:∀w:World,H w.params->Ch->Option (fW φ)}{o:Params->Ch->φ}(E1:RB.L x true=RB.R x o true)(E2:RB.L x false=RB.R x o false)(w:World)(h:H w.params){F:φ->Prop}{ch:Ch}(hF:F (o w.params ch)):bR F (x w h ch):=by
 have E:RB.L x (w.params.followText "special-get-raises")=RB.R x o (w.params.followText "special-get-raises"):=by
  cases w.params.followText "special-get-raises"
  .exact E2
  .exact E1
 have key:∀v,v=w->∀h':H v.params,aw (x v h' ch)=some (A8 (x v h' ch),o v.params ch)->bR F (x w h ch):=by
  rintro v rfl h' e;exact Jb e hF
 exact key _ (kI w) ((congrArg (λv:World=>H v.params) (kI w)).mpr h) (congrFun (congrFun (congrFun E w) _) ch)
section
variable{w:World}{hb:Md}{lv:Nat}
theorem E4{c:Code}{M:ah}{Z:Zs}{n:Nat}{rs:List (RP w)}{sel zsel:List Nat}{o1:Ch->Result}{o2:Ch->ah}{o3:Ch->Zs}
  (E:∀ch F,F (o1 ch,o2 ch,o3 ch)->bR F (yi w.params lv hb c (pU 1000 n rs) sel zsel ch M Z)):ak w hb lv c (fl M Z) λr N=>∃ch,r=o1 ch/\N=fl (o2 ch) (o3 ch):=by
 unfold yi at E;intro Mt os G A s R hA C H;rw[cf]at C;refine gf (F:=λx:Result×ah×Zs=>∀s',am Mt os (x.2.1++x.2.2.flatten) s'->R x.1 s') G (hW G 3000) 8 lv hb _ (pU 1000 n rs) fw 0 _ _ (λr _ _ _ _ M Z=>r9 sel zsel r M Z) R A s (lq G _ _ _) hA C (λch=>E ch _ λs' C'=>H _ _ s' ⟨ch,rfl,rfl⟩ (by rw[cf];exact C')) ?_;intro a evs' hs' n' M' Z' s' _ C' H';obtain⟨L,C2,h⟩:=eX (H' fw) C';exact h s' C2
theorem Fk{α:Type}{t:Sem α}{M:ah}{Z:Zs}{n:Nat}{rs:List (RP w)}{sel zsel:List Nat}{o1:Ch->Except Value α}{o2:Ch->ah}{o3:Ch->Zs}
  (E:∀ch F,F (o1 ch,o2 ch,o3 ch)->bR F (u9 w.params lv hb t (pU 1000 n rs) sel zsel ch M Z)):ck w hb lv t (fl M Z) λr N=>∃ch,r=o1 ch/\N=fl (o2 ch) (o3 ch):=by
 unfold u9 at E;intro Mt os G A s S X hA C H;rw[cf]at C;refine hW (F:=λx:Except Value α×ah×Zs=>∀s',am Mt os (x.2.1++x.2.2.flatten) s'->match x.1 with |.ok a=>S a s' |.error e=>X e s') (φ:=Except Value α×ah×Zs) G 3000 α lv hb t (pU 1000 n rs) fw 0 _ _ (λa _ _ _ _ M Z=>r9 sel zsel (.ok a) M Z) (λe _ _ _ _ M Z=>r9 sel zsel (.error e) M Z) _ _ A s (lq G _ _ _) hA C (λch=>E ch _ λs' C'=>H _ _ s' ⟨ch,rfl,rfl⟩ (by rw[cf];exact C')) ?_ ?_<;>intro a evs' hs' n' M' Z' s' _ C' H'<;>obtain⟨L,C2,h⟩:=eX (H' fw) C'<;>exact h s' C2
noncomputable def zR(w:World)(A:Around)(R:Result->Shared->Prop)(Mt:Heap)(os:OsState)(x:Except Value Fin×ah×Zs):Prop:=∀s',am Mt os (x.2.1++x.2.2.flatten) s'->match x.1 with |.error e=>R (.error e) s' |.ok (.done f)=>R (.ok f) s' |.ok (.again c')=>codeAny (model pw w) A c' R s'
theorem Fl{c:Code}{M:ah}{Z:Zs}{n:Nat}{rs:List (RP w)}{sel zsel:List Nat}{o1:Ch->Except Value Fin}{o2:Ch->ah}{o3:Ch->Zs}
  (E:∀ch F,F (o1 ch,o2 ch,o3 ch)->bR F (Bp w.params lv hb c (pU 1000 n rs) sel zsel ch M Z)):bH w hb lv c (fl M Z) λr N=>∃ch,r=o1 ch/\N=fl (o2 ch) (o3 ch):=by
 intro Mt os G A s R hA C H;rw[cf]at C;cases lv with
 |zero=>exact(ay (E fw (λ_=>True) trivial)).elim
 |succ lv=>
  unfold Bp at E;have hc:jN c=true:=by
   cases q:jN c with
   |true=>rfl
   |false=>
    have h:=E fw (λ_=>True) trivial;simp only[q,cond_false]at h;exact(ay h).elim
  simp only[hc,cond_true]at E;refine ND ?_;show wpAny (model pw w) (A.under c) (denote table c) _ _ s;rw[<-tj];refine hW (F:=zR w A R Mt os) (φ:=Except Value Fin×ah×Zs) G 3000 Fin lv (hb.push c) (den c) (pU 1000 n rs) fw 0 _ _
   (λfin _ _ _ _ M Z=>match fin with
    |.done f=>r9 sel zsel (.ok (.done f)) M Z
    |.again c'=>bif c'.quiet then r9 sel zsel (.ok (.again c')) M Z else none) (λe _ _ _ _ M Z=>r9 sel zsel (.error e) M Z) _ _ (A.under c) s (lq G _ _ _) (hA.under hc) C (λch=>?_) ?_ ?_
  .exact E ch (zR w A R Mt os) λs' C'=>H _ _ s' ⟨ch,rfl,rfl⟩ (by rw[cf];exact C')
  .intro fin evs' hs' n' M' Z' s' _ C' H';cases fin with
   |done f=>
    obtain⟨L,C2,h⟩:=eX (H' fw) C';exact h s' C2
   |again c'=>
    obtain⟨hq,H'⟩:=e8 H';obtain⟨L,C2,h⟩:=eX (H' fw) C';exact⟨hq,h s' C2⟩
  .intro er evs' hs' n' M' Z' s' _ C' H';obtain⟨L,C2,h⟩:=eX (H' fw) C';exact h s' C2
end
section
variable(hb:Md)(lv:Nat)
noncomputable abbrev B5(c:Params->Code)(M:Params->ah)(Z:Params->Zs)(o1:Params->Ch->Result)(o2:Params->Ch->ah)(o3:Params->Ch->Zs)(w:World):Prop:=ak w hb lv (c w.params) (fl (M w.params) (Z w.params)) λr N=>∃ch,r=o1 w.params ch/\N=fl (o2 w.params ch) (o3 w.params ch)
noncomputable abbrev yE(c:Params->Code)(M:Params->ah)(Z:Params->Zs)(o1:Params->Ch->Except Value Fin)(o2:Params->Ch->ah)(o3:Params->Ch->Zs)(w:World):Prop:=bH w hb lv (c w.params) (fl (M w.params) (Z w.params)) λr N=>∃ch,r=o1 w.params ch/\N=fl (o2 w.params ch) (o3 w.params ch)
noncomputable abbrev sP{α:Type}(t:Params->Sem α)(M:Params->ah)(Z:Params->Zs)(o1:Params->Ch->Except Value α)(o2:Params->Ch->ah)(o3:Params->Ch->Zs)(w:World):Prop:=ck w hb lv (t w.params) (fl (M w.params) (Z w.params)) λr N=>∃ch,r=o1 w.params ch/\N=fl (o2 w.params ch) (o3 w.params ch)
end
section
variable(H:Params->Prop)(hb:Md)(lv:Nat)
noncomputable abbrev xS(c:Params->Code)(M:Params->ah)(Z:Params->Zs)(n:Nat)(rs:∀w:World,H w.params->List (RP w))(sel zsel:List Nat):∀w:World,H w.params->Ch->Option (fW (Result×ah×Zs)):=λw h ch=>yi w.params lv hb (c w.params) (pU 1000 n (rs w h)) sel zsel ch (M w.params) (Z w.params)
noncomputable abbrev xT(c:Params->Code)(M:Params->ah)(Z:Params->Zs)(n:Nat)(rs:∀w:World,H w.params->List (RP w))(sel zsel:List Nat):∀w:World,H w.params->Ch->Option (fW (Except Value Fin×ah×Zs)):=λw h ch=>Bp w.params lv hb (c w.params) (pU 1000 n (rs w h)) sel zsel ch (M w.params) (Z w.params)
noncomputable abbrev xR{α:Type}(t:Params->Sem α)(M:Params->ah)(Z:Params->Zs)(n:Nat)(rs:∀w:World,H w.params->List (RP w))(sel zsel:List Nat):∀w:World,H w.params->Ch->Option (fW (Except Value α×ah×Zs)):=λw h ch=>u9 w.params lv hb (t w.params) (pU 1000 n (rs w h)) sel zsel ch (M w.params) (Z w.params)
noncomputable abbrev oU{α:Type}(o1:Params->Ch->α)(o2:Params->Ch->ah)(o3:Params->Ch->Zs):Params->Ch->α×ah×Zs:=λP ch=>(o1 P ch,o2 P ch,o3 P ch)
theorem Ja(c:Params->Code)(M:Params->ah)(Z:Params->Zs)(n:Nat)(rs:∀w:World,H w.params->List (RP w))(sel zsel:List Nat)(o1:Params->Ch->Result)(o2:Params->Ch->ah)(o3:Params->Ch->Zs)(w:World)(h:H w.params)
  (E1:RB.L (xS H hb lv c M Z n rs sel zsel) true=RB.R (xS H hb lv c M Z n rs sel zsel) (oU o1 o2 o3) true:=by kernel_rfl) (E2:RB.L (xS H hb lv c M Z n rs sel zsel) false=RB.R (xS H hb lv c M Z n rs sel zsel) (oU o1 o2 o3) false:=by kernel_rfl):
  B5 hb lv c M Z o1 o2 o3 w:=E4 λ_ _ hF=>RB.use E1 E2 w h hF
theorem qW(c:Params->Code)(M:Params->ah)(Z:Params->Zs)(n:Nat)(rs:∀w:World,H w.params->List (RP w))(sel zsel:List Nat)(o1:Params->Ch->Except Value Fin)(o2:Params->Ch->ah)(o3:Params->Ch->Zs)(w:World)(h:H w.params)
  (E1:RB.L (xT H hb lv c M Z n rs sel zsel) true=RB.R (xT H hb lv c M Z n rs sel zsel) (oU o1 o2 o3) true:=by kernel_rfl) (E2:RB.L (xT H hb lv c M Z n rs sel zsel) false=RB.R (xT H hb lv c M Z n rs sel zsel) (oU o1 o2 o3) false:=by kernel_rfl):
  yE hb lv c M Z o1 o2 o3 w:=Fl λ_ _ hF=>RB.use E1 E2 w h hF
theorem vH{α:Type}(t:Params->Sem α)(M:Params->ah)(Z:Params->Zs)(n:Nat)(rs:∀w:World,H w.params->List (RP w))(sel zsel:List Nat)(o1:Params->Ch->Except Value α)(o2:Params->Ch->ah)(o3:Params->Ch->Zs)(w:World)(h:H w.params)
  (E1:RB.L (xR H hb lv t M Z n rs sel zsel) true=RB.R (xR H hb lv t M Z n rs sel zsel) (oU o1 o2 o3) true:=by kernel_rfl) (E2:RB.L (xR H hb lv t M Z n rs sel zsel) false=RB.R (xR H hb lv t M Z n rs sel zsel) (oU o1 o2 o3) false:=by kernel_rfl):
  sP hb lv t M Z o1 o2 o3 w:=Fk λ_ _ hF=>RB.use E1 E2 w h hF
end
noncomputable abbrev hT:Params->Prop:=λ_=>True
section
variable(hb:Md)(lv:Nat)
theorem cY(c:Params->Code)(M:Params->ah)(Z:Params->Zs)(n:Nat)(rs:∀w:World,List (RP w))(sel zsel:List Nat)(o1:Params->Ch->Result)(o2:Params->Ch->ah)(o3:Params->Ch->Zs)(w:World)
  (E1:RB.L (xS hT hb lv c M Z n (λw _=>rs w) sel zsel) true=RB.R (xS hT hb lv c M Z n (λw _=>rs w) sel zsel) (oU o1 o2 o3) true:=by kernel_rfl) (E2:RB.L (xS hT hb lv c M Z n (λw _=>rs w) sel zsel) false=RB.R (xS hT hb lv c M Z n (λw _=>rs w) sel zsel) (oU o1 o2 o3) false:=by kernel_rfl):
  B5 hb lv c M Z o1 o2 o3 w:=Ja hT hb lv c M Z n _ sel zsel o1 o2 o3 w trivial E1 E2
theorem aT(c:Params->Code)(M:Params->ah)(Z:Params->Zs)(n:Nat)(rs:∀w:World,List (RP w))(sel zsel:List Nat)(o1:Params->Ch->Except Value Fin)(o2:Params->Ch->ah)(o3:Params->Ch->Zs)(w:World)
  (E1:RB.L (xT hT hb lv c M Z n (λw _=>rs w) sel zsel) true=RB.R (xT hT hb lv c M Z n (λw _=>rs w) sel zsel) (oU o1 o2 o3) true:=by kernel_rfl) (E2:RB.L (xT hT hb lv c M Z n (λw _=>rs w) sel zsel) false=RB.R (xT hT hb lv c M Z n (λw _=>rs w) sel zsel) (oU o1 o2 o3) false:=by kernel_rfl):
  yE hb lv c M Z o1 o2 o3 w:=qW hT hb lv c M Z n _ sel zsel o1 o2 o3 w trivial E1 E2
theorem aq{α:Type}(t:Params->Sem α)(M:Params->ah)(Z:Params->Zs)(n:Nat)(rs:∀w:World,List (RP w))(sel zsel:List Nat)(o1:Params->Ch->Except Value α)(o2:Params->Ch->ah)(o3:Params->Ch->Zs)(w:World)
  (E1:RB.L (xR hT hb lv t M Z n (λw _=>rs w) sel zsel) true=RB.R (xR hT hb lv t M Z n (λw _=>rs w) sel zsel) (oU o1 o2 o3) true:=by kernel_rfl) (E2:RB.L (xR hT hb lv t M Z n (λw _=>rs w) sel zsel) false=RB.R (xR hT hb lv t M Z n (λw _=>rs w) sel zsel) (oU o1 o2 o3) false:=by kernel_rfl):
  sP hb lv t M Z o1 o2 o3 w:=vH hT hb lv t M Z n _ sel zsel o1 o2 o3 w trivial E1 E2
noncomputable abbrev oT(t:Params->Tr)(xf:Ch->U):Params->Ch->Result×ah×Zs:=λP ch=>((t P).r (xf ch),dG (t P).pre ((t P).post (xf ch))++(t P).new (xf ch),(t P).zq (xf ch)++(t P).zn (xf ch))
noncomputable abbrev xI(t:Params->Tr)(n:Nat)(rs:∀w:World,List (RP w))(sel zsel:List Nat):∀w:World,hT w.params->Ch->Option (fW (Result×ah×Zs)):=λw _ ch=>yi w.params lv hb (t w.params).c (pU 1000 n (rs w)) sel zsel ch (t w.params).pre (t w.params).zp
theorem cx(t:Params->Tr)(n:Nat)(rs:∀w:World,List (RP w))(sel zsel:List Nat)(xf:Ch->U)(w:World)(hlen:(t w.params).lenOk:=by exact λ_=>⟨rfl,rfl⟩)
  (E1:RB.L (xI hb lv t n rs sel zsel) true=RB.R (xI hb lv t n rs sel zsel) (oT t xf) true:=by kernel_rfl) (E2:RB.L (xI hb lv t n rs sel zsel) false=RB.R (xI hb lv t n rs sel zsel) (oT t xf) false:=by kernel_rfl):af w hb lv (t w.params):=
 ak.tri hlen (E4 (o1:=λch=>(t w.params).r (xf ch)) (o2:=λch=>dG (t w.params).pre ((t w.params).post (xf ch))++(t w.params).new (xf ch)) (o3:=λch=>(t w.params).zq (xf ch)++(t w.params).zn (xf ch)) λ_ _ hF=>RB.use E1 E2 w trivial hF) λr N h=>by
  obtain⟨ch,rfl,rfl⟩:=h;exact⟨xf ch,rfl,.refl _⟩
theorem iT{hb:Md}{lv:Nat}(t:Params->Tr)(n:Nat)(rs:∀w:World,List (RP w))(sel:List Nat)(xf:Ch->U)(w:World)(hlen:(t w.params).lenOk:=by exact λ_=>⟨rfl,rfl⟩)
  (E1:RB.L (xI hb lv t n rs sel []) true=RB.R (xI hb lv t n rs sel []) (oT t xf) true:=by kernel_rfl) (E2:RB.L (xI hb lv t n rs sel []) false=RB.R (xI hb lv t n rs sel []) (oT t xf) false:=by kernel_rfl):af w hb lv (t w.params):=cx hb lv t n rs sel [] xf w hlen E1 E2
theorem tri{hb:Md}{lv:Nat}{t:Tr}(n:Nat)(rs:∀w:World,List (RP w))(sel:List Nat)(xf:Ch->U)(w:World)(hlen:t.lenOk:=by exact λ_=>⟨rfl,rfl⟩)
  (E1:RB.L (xI hb lv (λ_=>t) n rs sel []) true=RB.R (xI hb lv (λ_=>t) n rs sel []) (oT (λ_=>t) xf) true:=by kernel_rfl) (E2:RB.L (xI hb lv (λ_=>t) n rs sel []) false=RB.R (xI hb lv (λ_=>t) n rs sel []) (oT (λ_=>t) xf) false:=by kernel_rfl):af w hb lv t:=cx hb lv (λ_=>t) n rs sel [] xf w hlen E1 E2
end
end
section
open PySem.Builtin.Str (subAt occurrences lastOccurrence partsBetween strKind glued)
noncomputable def tB(id:String)(args:List Value)(r:U->Value):Tr:=⟨[],λ_=>[],λ_=>[],.call (.builtin id) ⟨args,[]⟩,[],λx=>.ok (.ret (r x)),λ_=>[],λ_=>[]⟩
noncomputable def k5:Made->U->Value
 |.val v,_=>v
 |.int i,x=>.int i (x.n 0)
 |.str s,x=>.str s (x.n 0)
 |.float b,x=>.float b (x.n 0)
 |.bytes b,x=>.bytes b (x.n 0)
 |.either a _,x=>k5 a x
noncomputable def fJ:Made->Prop
 |.val _=>True
 |.int _=>True
 |.str s=>s.length<=sizeLine
 |_=>False
theorem am.drop{Mt:Heap}{os:OsState}{M:ah}{s:Shared}(C:am Mt os M s):am Mt os [] s:=⟨C.keep,(λ_ h=>nomatch h),PJ,C.gens,C.os⟩
theorem ye{m:Made}(hm:fJ m){Q:Value->Shared->Prop}{Mt:Heap}{os:OsState}{s:Shared}(C:am Mt os [] s)(H:∀x s',am Mt os [] s'->Q (k5 m x) s'):m.post Q s:=by
 cases m with
 |val v=>exact H u0 s C
 |int i=>exact H (uN (s.toks)) _ (C.toks _)
 |str x=>exact⟨hm,H (uN (s.toks)) _ (C.toks _)⟩
 |_=>exact hm.elim
theorem bg{w:World}{hb:Md}{lv:Nat}{T:String}{name:Str}{id:String}{B:Builtin}{self:Value}{rest:List Value}{m:Made}(slot:Slot T name id)(hT:∀s:Shared,s.TypeIs self T)
  (entry:entryFor table id=some B) (args:argsOk id ⟨self::rest,[]⟩) (g:Gives (B ⟨self::rest,[]⟩) m) (hm:fJ m:=by first |exact trivial |assumption):af w hb lv (tB id (self::rest) (k5 m)):=
 ⟨λMt os G A s R hA C H=>bu slot (hT s) entry args g.meets (ye hm C λx s' C'=>H x s' C'),λ_=>⟨rfl,rfl⟩⟩
section
variable{w:World}{hb:Md}{lv:Nat}
theorem tX(i j:Int)(t u:Tok)(b:Bool)(h:decide (i>j)=b):af w hb lv (tB "int.__gt__" [.int i t,.int j u] λ_=>.bool b):=by
 subst h;exact bg F.slot_int_gt (λs=>Ob s i t) F.entry_int_gt (F.args_int_gt_2 _ _) (gives_int_gt i j t u)
end
noncomputable def tV(f:Addr)(args:List Value)(r:U->Value):Tr:=⟨[],λ_=>[],λ_=>[],.call (.ref f) ⟨args,[]⟩,[],λx=>.ok (.ret (r x)),λ_=>[],λ_=>[]⟩
noncomputable abbrev gS:Str:=T [97,98,99,100,101,102,103,104,105,106,107,108,109,110,111]
theorem A0{w:World}{hb:Md}{lv:Nat}(x:Str)(i:Int)(t u:Tok)(c:Nat)(hr:(decide (i< -(2^63:Int))||decide (i>=2^63))=false)(h:(seqIndex? i x.length).bind (x.cps[·]?)=some c):af w hb lv (tB "str.__getitem__" [.str x t,.int i u] λy=>.str ⟨#[c]⟩ (y.n 0)):=
 bg QC (λs=>Nb s x t) Qv (Qm _ _) (gives_str_getitem x i t u c hr h) (by show(1:Nat)<=sizeLine;decide)
theorem Er{w:World}{hb:Md}{lv:Nat}(x y:Str)(t u:Tok)(b:Bool)(h:(decide (0+y.length<=x.length)&&subAt x y 0)=b):af w hb lv (tB "str.startswith" [.str x t,.str y u] λ_=>.bool b):=by
 subst h;exact bg F.slot_str_startswith (λs=>Nb s x t) F.entry_str_startswith (F.args_str_startswith_2 _ _) (gives_str_startswith x y t u)
theorem D2{w:World}{hb:Md}{lv:Nat}(x y:Str)(t u:Tok)(b:Bool)(h:(decide (0+y.length<=x.length)&&subAt x y (x.length-y.length))=b):af w hb lv (tB "str.endswith" [.str x t,.str y u] λ_=>.bool b):=by
 subst h;exact bg F.slot_str_endswith (λs=>Nb s x t) F.entry_str_endswith (F.args_str_endswith_2 _ _) (gives_str_endswith x y t u)
theorem B6(a b:List Nat):T a++T b=T (a++b):=by
 show Str.mk (Array.mk a++Array.mk b)=_;simp
theorem ia{w:World}{hb:Md}{lv:Nat}(a b:Nat)(la lb:List Nat)(t u:Tok)(hl:la.length+lb.length<=10000):af w hb lv (tB "str.__add__" [.str (T (a::la)) t,.str (T (b::lb)) u] λy=>.str (T ((a::la)++b::lb)) (y.n 0)):=by
 have g:=gives_str_add (T (a::la)) (T (b::lb)) t u;rw[if_neg (by show ¬(((a::la).length==0)=true);simp),if_neg (by show ¬(((b::lb).length==0)=true);simp),B6]at g;exact bg F.slot_str_add (λs=>Nb s _ t) QZ (QN _ _) g (by
  show((a::la)++b::lb).length<=2^24;simp;omega)
noncomputable def tL(v:Value)(M:ah)(n:Nat):Tr:=⟨[],λ_=>[],λ_=>[],.builtin "len" ⟨[v],[]⟩,M,λx=>.ok (.ret (.int (Int.ofNat n) (x.n 0))),λ_=>M.map (·.2),λ_=>[]⟩
theorem bq{w:World}{hb:Md}{lv:Nat}(l:List Nat)(t:Tok)(hl:l.length<=10000):af w hb lv (tL (.str (T l) t) [] l.length):=by
 refine⟨λMt os G A s R hA C H=>?_,λ_=>⟨rfl,rfl⟩⟩;refine Nf QO ?_;rw[MV QP _];have g:=gives_str_len (T l) t;have e:((T l).length:Int)=Int.ofNat l.length:=rfl;rw[e]at g;have hb:(Int.ofNat l.length:Int)<=10000:=by show((l.length:Nat):Int)<=10000;omega
 have h0:¬(Int.ofNat l.length:Int)<0:=by show ¬((l.length:Nat):Int)<0;omega
 refine M6 (wpAny_len_body (Q:=λr s'=>R (.ok (.ret r)) s') (Nb s (T l) t) F.slot_str_len F.entry_str_len (F.args_str_len_1 _) g h0 (by omega) ?_)
  (λfin s' h'=>by obtain⟨r,rfl,hq⟩:=h';exact hq) λ_ _ e=>e
 exact H (uN (s.toks+1)) _ (C.toks _)
theorem oW{w:World}(n:Int)(t:Tok)(h:decide (n>0)=false):ba w 10 (tV 495 [.int n t] λx=>.str (T [46,46]) (x.n 0)):=
 tri 4379398467 (λw=>[rT 0 [] [] (tr:=λh=>tB "int.__gt__" [.int n t,.int 0 ((h 2).n 0)] λ_=>.bool false) λ_=>tX _ _ _ _ _ h]) [] (λch=>ch 4) w
theorem oX{w:World}(n:Int)(t:Tok)(h:decide (n>0)=true)(c:Nat)(hr:(decide (n-1< -(2^63:Int))||decide (n-1>=2^63))=false)(hc:(seqIndex? (n-1) gS.length).bind (gS.cps[·]?)=some c):
  ba w 10 (tV 495 [.int n t] λx=>.str ⟨#[c]⟩ (x.n 0)):=
 tri 72629688061153603 (λw=>[rT 0 [] [] (tr:=λh=>tB "int.__gt__" [.int n t,.int 0 ((h 2).n 0)] λ_=>.bool true) λ_=>tX _ _ _ _ _ h,rT 0 [] [] (tr:=λh=>tB "str.__getitem__" [.str gS ((h 4).n 0),.int (n-1) ((h 6).n 0)] λy=>.str ⟨#[c]⟩ (y.n 0)) λ_=>A0 _ _ _ _ _ hr hc]) [] (λch=>ch 7) w
theorem cv{w:World}(p:Str)(t:Tok):ba w 10 (tV 94 [.str p t] λ_=>.str p t):=
 tri 0x142086186182082041041141045142085041085143 (λw=>[]) [] (λch=>ch 0) w
theorem jA{w:World}(p:Str)(t:Tok):ba w 10 (tV 108 [.str p t] λx=>.str (T [47]) (x.n 0)):=
 tri 0x2082082082081045041085143 (λw=>[]) [] (λch=>ch 3) w
theorem AW{w:World}(la lb:List Nat)(b:Nat)(t u:Tok)(hl:la.length+lb.length<=5000)
  (h1:(decide (0+(T [47]).length<=(T (b::lb)).length)&&subAt (T (b::lb)) (T [47]) 0)=false) (h2:(decide (0+(T [47]).length<=(T (47::la)).length)&&subAt (T (47::la)) (T [47]) ((T (47::la)).length-(T [47]).length))=false):
  ba w 30 (tV 115 [.str (T (47::la)) t,.str (T (b::lb)) u] λx=>.str (T ((47::la)++47::b::lb)) (x.n 0)):=
 tri 0x1822471c51c70870870861841061861061841841861861011811861c71471c21c21c21c2142145186186186101181186101181086186183 (λw=>[rT 10 [] [] (tr:=λh=>tV 94 [.str (T (47::la)) t] λx=>.str (T (47::la)) t) λ_=>cv _ _,rT 10 [] [] (tr:=λh=>tV 108 [.str (T (47::la)) t] λx=>.str (T [47]) (x.n 0)) λ_=>jA _ _,rT 10 [] [] (tr:=λh=>tV 94 [.str (T (b::lb)) u] λx=>.str (T (b::lb)) u) λ_=>cv _ _,rT 0 [] [] (tr:=λh=>tB "str.startswith" [.str (T (b::lb)) u,.str (T [47]) ((h 7).n 0)] λy=>.bool false) λ_=>Er _ _ _ _ _ h1,rT 0 [] [] (tr:=λh=>tL (.str (T (47::la)) t) [] (la.length+1)) λ_=>bq _ _ (by simp;omega),rT 0 [] [] (tr:=λh=>tB "str.endswith" [.str (T (47::la)) t,.str (T [47]) ((h 7).n 0)] λy=>.bool false) λ_=>D2 _ _ _ _ _ h2,rT 0 [] [] (tr:=λh=>tB "str.__add__" [.str (T [47]) ((h 7).n 0),.str (T (b::lb)) u] λy=>.str (T ([47]++b::lb)) (y.n 0)) λ_=>ia 47 b [] lb _ _ (by simp;omega),rT 0 [] [] (tr:=λh=>tB "str.__add__" [.str (T (47::la)) t,.str (T ([47]++b::lb)) ((h 17).n 0)] λy=>.str (T ((47::la)++47::b::lb)) (y.n 0)) λ_=>ia 47 47 la (b::lb) _ _ (by simp;omega)]) [] (λch=>ch 18) w
theorem mV{w:World}(la lb:List Nat)(b:Nat)(t u:Tok)(hl:la.length+lb.length<=5000)
  (h1:(decide (0+(T [47]).length<=(T (b::lb)).length)&&subAt (T (b::lb)) (T [47]) 0)=false) (h2:(decide (0+(T [47]).length<=(T (47::la)).length)&&subAt (T (47::la)) (T [47]) ((T (47::la)).length-(T [47]).length))=true):
  ba w 30 (tV 115 [.str (T (47::la)) t,.str (T (b::lb)) u] λx=>.str (T ((47::la)++b::lb)) (x.n 0)):=
 tri 0x1822471c51c70870870861841861061841841861861011811861c71471c21c21c21c2142145186186186101181186101181086186183 (λw=>[rT 10 [] [] (tr:=λh=>tV 94 [.str (T (47::la)) t] λx=>.str (T (47::la)) t) λ_=>cv _ _,rT 10 [] [] (tr:=λh=>tV 108 [.str (T (47::la)) t] λx=>.str (T [47]) (x.n 0)) λ_=>jA _ _,rT 10 [] [] (tr:=λh=>tV 94 [.str (T (b::lb)) u] λx=>.str (T (b::lb)) u) λ_=>cv _ _,rT 0 [] [] (tr:=λh=>tB "str.startswith" [.str (T (b::lb)) u,.str (T [47]) ((h 7).n 0)] λy=>.bool false) λ_=>Er _ _ _ _ _ h1,rT 0 [] [] (tr:=λh=>tL (.str (T (47::la)) t) [] (la.length+1)) λ_=>bq _ _ (by simp;omega),rT 0 [] [] (tr:=λh=>tB "str.endswith" [.str (T (47::la)) t,.str (T [47]) ((h 7).n 0)] λy=>.bool true) λ_=>D2 _ _ _ _ _ h2,rT 0 [] [] (tr:=λh=>tB "str.__add__" [.str (T (47::la)) t,.str (T (b::lb)) u] λy=>.str (T ((47::la)++b::lb)) (y.n 0)) λ_=>ia 47 b la lb _ _ (by omega)]) [] (λch=>ch 17) w
noncomputable abbrev oS(l u st:Option (Int×Tok)):Obj:={cls:=.type "slice",data:=.fields #[partValue l,partValue u,partValue st]}
theorem lF{w:World}{hb:Md}{lv:Nat}(x y:Str)(t u:Tok)(i:Nat)(h:lastOccurrence x y 0 x.length=some i):af w hb lv (tB "str.rfind" [.str x t,.str y u] λz=>.int (Int.ofNat i) (z.n 0)):=by
 have g:=gives_str_rfind x y t u;rw[h]at g;exact bg F.slot_str_rfind (λs=>Nb s x t) F.entry_str_rfind (F.args_str_rfind_2 _ _) g
theorem c9{w:World}{hb:Md}{lv:Nat}(x y:Str)(t u:Tok)(b:Bool)(h:(x.cps.toList != y.cps.toList)=b):af w hb lv (tB "str.__ne__" [.str x t,.str y u] λ_=>.bool b):=by
 subst h;exact bg F.slot_str_ne (λs=>Nb s x t) F.entry_str_ne (F.args_str_ne_2 _ _) (gives_str_ne x y t u)
noncomputable def vU(x:Str)(t:Tok)(a:Addr)(l u st:Option (Int×Tok))(r:U->Value):Tr:=⟨[],λ_=>[],λ_=>[],.call (.builtin "str.__getitem__") ⟨[.str x t,.ref a],[]⟩,[(a,oS l u st)],λy=>.ok (.ret (r y)),λ_=>[oS l u st],λ_=>[]⟩
theorem dU{w:World}{hb:Md}{lv:Nat}(x:Str)(t:Tok)(a:Addr)(l u:Option (Int×Tok))(m:Made)(hm:fJ m)(h:sliceMade x t l u none=m):af w hb lv (vU x t a l u none (k5 m)):=by
 refine⟨λMt os G A s R hA C H=>?_,λ_=>⟨rfl,rfl⟩⟩;have hg:=(C.own _ (.head _)).1;refine bu QC (Nb s x t) Qv (Qm _ _) (meets_str_getitem_slice x t a l u none rfl) ⟨⟨_,hg,rfl,rfl⟩,?_⟩;rw[h];cases m with
 |val v=>exact H u0 s C
 |int i=>exact H (uN (s.toks)) _ (C.toks _)
 |str y=>exact⟨hm,H (uN (s.toks)) _ (C.toks _)⟩
 |_=>exact hm.elim
theorem oQ{w:World}(p q:Str)(t:Tok)(i:Nat)(hi:lastOccurrence p (T [47]) 0 p.length=some i)(hq:q.length<=sizeLine)(hs:∀v,sliceMade p t (some (Int.ofNat i+1,v)) none none=.str q):ba w 20 (tV 129 [.str p t] λx=>.str q (x.n 0)):=
 tri 0x105145142084145145101141145101141085143 (λw=>[rT 10 [] [] (tr:=λh=>tV 94 [.str p t] λx=>.str p t) λ_=>cv _ _,rT 10 [] [] (tr:=λh=>tV 108 [.str p t] λx=>.str (T [47]) (x.n 0)) λ_=>jA _ _,rT 0 [] [] (tr:=λh=>tB "str.rfind" [.str p t,.str (T [47]) ((h 5).n 0)] λy=>.int (Int.ofNat i) (y.n 0)) λ_=>lF _ _ _ _ _ hi,rT 0 [1] [] (tr:=λh=>vU p t ((h 11).n 0+ab) (some (Int.ofNat i+1,(h 9).n 0)) none none (k5 (.str q))) λ_=>dU _ _ _ _ _ _ hq (hs _)]) [] (λch=>ch 12) w
theorem uj{w:World}{hb:Md}{lv:Nat}(l:List Nat)(c n:Nat)(t u:Tok)(m:Made)(hn:n<=10000)(hm:(if(Int.ofNat n)<1 then .str Str.empty else if((Int.ofNat n)==1||(T [c]).length==0)=true then .val (.str (T [c]) t)else .str ⟨(List.replicate (Int.ofNat n).toNat (T [c]).cps).foldl (·++ ·) #[]⟩:Made)=m)(hs:fJ m):af w hb lv (tB "str.__mul__" [.str (T [c]) t,.int (Int.ofNat n) u] (k5 m)):=by
 have hb:(Int.ofNat n:Int)<=10000:=by show((n:Nat):Int)<=10000;omega
 have h0:(0:Int)<=Int.ofNat n:=MS n;have g:=gives_str_mul (T [c]) (Int.ofNat n) t u (by simp only[Nr,decide_eq_false_iff_not];omega) (by
  intro h1 h2;have:(1:Int)<=(2^63-1)/Int.ofNat n:=by
   rw[Int.le_ediv_iff_mul_le (by omega)];omega
  show ¬(((1:Nat):Int)>_);omega) (by
  intro h1 h2;unfold PySem.Builtin.Str.tooLong;have:(T [c]).length*(Int.ofNat n).toNat=n:=by show 1*n=n;omega
  rw[this];exact decide_eq_false (by show ¬n>2^24;omega))
 rw[hm]at g;exact bg F.slot_str_mul (λs=>Nb s _ t) F.entry_str_mul (F.args_str_mul_2 _ _) g hs
theorem rE{w:World}{hb:Md}{lv:Nat}(x y:Str)(t u:Tok)(m:Made)(h:(if PySem.stripSame y.cps.contains false true x then .val (.str x t)else .str (PySem.stripped y.cps.contains false true x):Made)=m)(hs:fJ m):af w hb lv (tB "str.rstrip" [.str x t,.str y u] (k5 m)):=by
 have g:=gives_str_rstrip_chars x y t u;rw[h]at g;exact bg F.slot_str_rstrip (λs=>Nb s x t) F.entry_str_rstrip (F.args_str_rstrip_2 _ _) g hs
theorem jz{w:World}(p:Str)(t:Tok)(hi:lastOccurrence p (T [47]) 0 p.length=some 0)(hs:∀v,sliceMade p t none (some (Int.ofNat 0+1,v)) none=.str (T [47])):ba w 20 (tV 136 [.str p t] λx=>.str (T [47]) (x.n 0)):=
 tri 0x144102084085041145105145105145142084145145101141145101141085143 (λw=>[rT 10 [] [] (tr:=λh=>tV 94 [.str p t] λx=>.str p t) λ_=>cv _ _,rT 10 [] [] (tr:=λh=>tV 108 [.str p t] λx=>.str (T [47]) (x.n 0)) λ_=>jA _ _,rT 0 [] [] (tr:=λh=>tB "str.rfind" [.str p t,.str (T [47]) ((h 5).n 0)] λy=>.int (Int.ofNat 0) (y.n 0)) λ_=>lF _ _ _ _ _ hi,rT 0 [1] [] (tr:=λh=>vU p t ((h 11).n 0+ab) none (some (Int.ofNat 0+1,(h 9).n 0)) none (k5 (.str (T [47])))) λ_=>dU _ _ _ _ _ _ (by show(1:Nat)<=sizeLine;decide) (hs _),rT 0 [] [] (tr:=λh=>tL (.str (T [47]) ((h 12).n 0)) [] 1) λ_=>bq [47] _ (by decide),rT 0 [] [] (tr:=λh=>tL (.str (T [47]) ((h 12).n 0)) [] 1) λ_=>bq [47] _ (by decide),rT 0 [] [] (tr:=λh=>tB "str.__mul__" [.str (T [47]) ((h 5).n 0),.int (Int.ofNat 1) ((h 15).n 0)] (k5 (.val (.str (T [47]) ((h 5).n 0))))) λ_=>uj [] 47 1 _ _ _ (by decide) rfl trivial,rT 0 [] [] (tr:=λh=>tB "str.__ne__" [.str (T [47]) ((h 12).n 0),.str (T [47]) ((h 5).n 0)] λy=>.bool false) λ_=>c9 _ _ _ _ _ rfl]) [] (λch=>ch 12) w
theorem rD{w:World}(p q r:Str)(a:Nat)(l:List Nat)(t:Tok)(i:Nat)(hl:l.length<=9000)(hi:lastOccurrence p (T [47]) 0 p.length=some i)(hs:∀v,sliceMade p t none (some (Int.ofNat i+1,v)) none=.str (T (a::l)))
  (hm:∀v,(if(Int.ofNat (l.length+1))<1 then .str Str.empty else if((Int.ofNat (l.length+1))==1||(T [47]).length==0)=true then .val (.str (T [47]) v)else .str ⟨(List.replicate (Int.ofNat (l.length+1)).toNat (T [47]).cps).foldl (·++ ·) #[]⟩:Made)=.str r) (hr:r.length<=sizeLine) (hne:((T (a::l)).cps.toList != r.cps.toList)=true)
  (hst:∀v,(if PySem.stripSame (T [47]).cps.contains false true (T (a::l))then .val (.str (T (a::l)) v)else .str (PySem.stripped (T [47]).cps.contains false true (T (a::l))):Made)=.str q) (hq:q.length<=sizeLine):ba w 20 (tV 136 [.str p t] λx=>.str q (x.n 0)):=
 tri 0x5145105144102084085041145105145105145142084145145101141145101141085143 (λw=>[rT 10 [] [] (tr:=λh=>tV 94 [.str p t] λx=>.str p t) λ_=>cv _ _,rT 10 [] [] (tr:=λh=>tV 108 [.str p t] λx=>.str (T [47]) (x.n 0)) λ_=>jA _ _,rT 0 [] [] (tr:=λh=>tB "str.rfind" [.str p t,.str (T [47]) ((h 5).n 0)] λy=>.int (Int.ofNat i) (y.n 0)) λ_=>lF _ _ _ _ _ hi,rT 0 [1] [] (tr:=λh=>vU p t ((h 11).n 0+ab) none (some (Int.ofNat i+1,(h 9).n 0)) none (k5 (.str (T (a::l))))) λ_=>dU _ _ _ _ _ _ (by show l.length+1<=2^24;omega) (hs _),rT 0 [] [] (tr:=λh=>tL (.str (T (a::l)) ((h 12).n 0)) [] (l.length+1)) λ_=>bq (a::l) _ (by simp;omega),rT 0 [] [] (tr:=λh=>tL (.str (T (a::l)) ((h 12).n 0)) [] (l.length+1)) λ_=>bq (a::l) _ (by simp;omega),rT 0 [] [] (tr:=λh=>tB "str.__mul__" [.str (T [47]) ((h 5).n 0),.int (Int.ofNat (l.length+1)) ((h 15).n 0)] (k5 (.str r))) λ_=>uj [] 47 (l.length+1) _ _ _ (by omega) (hm _) hr,rT 0 [] [] (tr:=λh=>tB "str.__ne__" [.str (T (a::l)) ((h 12).n 0),.str r ((h 16).n 0)] λy=>.bool true) λ_=>c9 _ _ _ _ _ hne,rT 0 [] [] (tr:=λh=>tB "str.rstrip" [.str (T (a::l)) ((h 12).n 0),.str (T [47]) ((h 5).n 0)] (k5 (.str q))) λ_=>rE _ _ _ _ _ (hst _) hq]) [] (λch=>ch 18) w
noncomputable def ao(s:Stmt):List Stmt:=(Bs s).2.1
noncomputable def dQ(s:Stmt):List Stmt:=(Bs s).2.2.1
noncomputable def Ii(s:Stmt):List ExceptHandler:=(Bs s).2.2.2
noncomputable def cq(s:Stmt):Expr:=(Bs s).1.getD 0 default
noncomputable abbrev aE:=cq
noncomputable def DP(s:Stmt):Expr:=(Bs s).1.getD 1 default
noncomputable abbrev zu:=cq
noncomputable def bc(e:Expr)(i:Nat):Expr:=(Au e).1.getD i default
noncomputable def aP(l:List Stmt)(i:Nat):Stmt:=l.getD i (.Pass default)
noncomputable def pO(e:Expr):Scope:=(Au e).2.1
noncomputable def jp(f:Stmt)(q:Str)(g fa cd loc:Addr):Env:=⟨fE f,loc,g,[],q,some fa,.ref cd,some loc,0⟩
noncomputable abbrev oL(vs:List Value)(n:Nat):Obj:={cls:=.type "list",data:=.seq ⟨vs⟩ n}
noncomputable abbrev aI(l:Addr)(i:Nat):Obj:={cls:=.type "list_iterator",data:=.fields #[.ref l,.int (Int.ofNat i) 0]}
theorem aB{w:World}{A:Around}{R:Result->Shared->Prop}{s:Shared}{T:String}{name:Str}{id:String}{B:Builtin}{self:Value}{rest:List Value}(slot:Slot T name id)(hT:s.TypeIs self T)
  (entry:entryFor table id=some B) (args:argsOk id ⟨self::rest,[]⟩)
  (h:wpAny (model pw w) A.in1 (B ⟨self::rest,[]⟩) (λfin s'=>match fin with |.done f=>R (.ok f) s' |.again c'=>c'.quiet=true/\codeAny (model pw w) A c' R s') (λe s'=>R (.error e) s') s):codeAny (model pw w) A (.call (.builtin id) ⟨self::rest,[]⟩) R s:=
 Qk slot.plain entry (slot.check _ _ _ _ _ _ _ _ hT args h)
noncomputable def sL(it l:Addr)(i:Nat)(vs:List Value)(n:Nat)(x:Value):Tr:=⟨[],λ_=>[],λ_=>[],.call (.builtin "list_iterator.__next__") ⟨[.ref it],[]⟩,[(it,aI l i),(l,oL vs n)],λ_=>.ok (.ret x),λ_=>[aI l (i+1),oL vs n],λ_=>[]⟩
theorem d8{w:World}{hb:Md}{lv:Nat}(it l:Addr)(i:Nat)(vs:List Value)(n:Nat)(x:Value)(hx:vs[i]?=some x):af w hb lv (sL it l i vs n x):=by
 refine⟨λMt os G A s R hA C H=>?_,λ_=>⟨rfl,rfl⟩⟩;have ho:=(C.own _ (.head _)).1;have hol:=(C.own _ (.tail _ (.head _))).1;refine aB Og ⟨_,ho,rfl⟩ NV (O5 _) ?_;show wpAny _ _ (field (.ref it) 0>>=_) _ _ s;refine on (MM ho rfl (x:=.ref l) rfl ?_);show wpAny _ _ (if(Value.ref l==Value.none)=true then _ else _) _ _ s;rw[if_neg (show ¬((Value.ref l==Value.none)=true)from MK)];show wpAny _ _ (field (.ref it) 1>>=_) _ _ s;refine on (MM ho rfl (x:=.int (Int.ofNat i) 0) rfl ?_);show wpAny _ _ (seqItems? (.ref l)>>=_) _ _ s;refine on (Nm hol rfl ?_);have hx':(Array.mk vs)[(Int.ofNat i).toNat]?=some x:=by
  show(Array.mk vs)[i]?=some x;simpa using hx
 simp only[hx'];refine on (MY ho rfl (by simp) ?_);refine Mh ?_;have C':=C.update (i:=0) (p:=(it,aI l i)) rfl (f:=Obj.mapFields (·.setIfInBounds 1 (rawInt (Int.ofNat i+1)))) rfl;exact H u0 _ C'
noncomputable abbrev dq(a:Addr):Obj:={cls:=.type "StopIteration",data:=.fields #[.ref a,.none,.none,.none,.bool false,.none]}
noncomputable abbrev aj(vs:List Value):Obj:={cls:=.type "tuple",data:=.seq ⟨vs⟩ 0}
noncomputable abbrev ar(i:Nat):Obj:={cls:=.type "list_iterator",data:=.fields #[.none,.int (Int.ofNat i) 0]}
noncomputable def qR(it l:Addr)(i:Nat)(vs:List Value)(n:Nat):Tr:=⟨[],λ_=>[],λ_=>[],.call (.builtin "list_iterator.__next__") ⟨[.ref it],[]⟩,[(it,aI l i),(l,oL vs n)],λx=>.error (.ref (x.n 1+ab)),λ_=>[ar i,oL vs n],λx=>[(x.n 0+ab,aj []),(x.n 1+ab,dq (x.n 0+ab))]⟩
noncomputable def u2(a b:Nat):U:=⟨λj=>match j with |0=>a |_=>b,λ_ d=>d⟩
theorem fV{w:World}{Mt:Heap}{os:OsState}{M:ah}{A:Around}{s:Shared}{α:Type}{Q:α->Shared->Prop}{E:Value->Shared->Prop}(G:Gr w Mt)(C:am Mt os M s)(hA:A.handled=none)
  (H:∀x:U,∀s',am Mt os (M++[(x.n 0+ab,aj []),(x.n 1+ab,dq (x.n 0+ab))]) s'->E (.ref (x.n 1+ab)) s'):
  wpAny (model pw w) A (newExc (.type "StopIteration") []>>=raiseNew) Q E s:=by
 refine on ?_;simp only[newExc,newTuple];refine on (NM ?_ (by size_fits));have C2:=C.alloc (o:=aj []) rfl;refine on (m:=firstArgMember _ _) (Qn (a:=Value.none) (by first |rfl |(simp only[firstArgMember];rfl)) ?_);refine NM ?_ (by size_fits);have C3:=C2.alloc (o:=dq s.heap.objs.size) rfl;unfold raiseNew;refine on (PX ?_);rw[hA];refine on (Mh (Qj ?_));have hz:=cC G C;have e0:s.heap.objs.size-ab+ab=s.heap.objs.size:=MJ hz;have e1:s.heap.objs.size+1-ab+ab=s.heap.objs.size+1:=MJ (Pd hz);have hp:=H (u2 (s.heap.objs.size-ab) (s.heap.objs.size+1-ab));simp only[u2,e0,e1]at hp;have hs2:(s.heap.push (aj [])).objs.size=s.heap.objs.size+1:=Array.size_push ..;change am Mt os (M++[(s.heap.objs.size,aj [])]++[((s.heap.push (aj [])).objs.size,dq s.heap.objs.size)]) {heap:=(s.heap.push (aj [])).push (dq s.heap.objs.size),gens:=s.gens,drawn:=s.drawn,toks:=s.toks,os:=s.os}at C3;rw[hs2,Ms]at C3;change E (Value.ref (s.heap.push (aj [])).objs.size) {heap:=(s.heap.push (aj [])).push (dq s.heap.objs.size),gens:=s.gens,drawn:=s.drawn,toks:=s.toks,os:=s.os};rw[hs2];exact hp _ C3
theorem oZ{w:World}{lv:Nat}(it l:Addr)(i:Nat)(vs:List Value)(n:Nat)(hx:vs[i]?=none):ba w lv (qR it l i vs n):=by
 refine⟨λMt os G A s R hA C H=>?_,λ_=>⟨rfl,rfl⟩⟩;have ho:=(C.own _ (.head _)).1;have hol:=(C.own _ (.tail _ (.head _))).1;refine aB Og ⟨_,ho,rfl⟩ NV (O5 _) ?_;show wpAny _ _ (field (.ref it) 0>>=_) _ _ s;refine on (MM ho rfl (x:=.ref l) rfl ?_);show wpAny _ _ (if(Value.ref l==Value.none)=true then _ else _) _ _ s;rw[if_neg (show ¬((Value.ref l==Value.none)=true)from MK)];show wpAny _ _ (field (.ref it) 1>>=_) _ _ s;refine on (MM ho rfl (x:=.int (Int.ofNat i) 0) rfl ?_);show wpAny _ _ (seqItems? (.ref l)>>=_) _ _ s;refine on (Nm hol rfl ?_);have hx':(Array.mk vs)[(Int.ofNat i).toNat]?=none:=by
  show(Array.mk vs)[i]?=none;simpa using hx
 simp only[hx'];refine on (NQ (on (MY ho rfl (by simp) ?_)));have C1:=C.update (i:=0) (p:=(it,aI l i)) rfl (f:=Obj.mapFields (·.setIfInBounds 0 .none)) rfl;exact fV G C1 (hA.2.2.1 rfl) λx s' C'=>H x s' C'
noncomputable def sx(l:Addr)(vs:List Value)(n:Nat)(x:Value):Tr:=⟨[],λ_=>[],λ_=>[],.call (.builtin "list.append") ⟨[.ref l,x],[]⟩,[(l,oL vs n)],λ_=>.ok (.ret .none),λ_=>[oL (vs++[x]) (n+1)],λ_=>[]⟩
theorem c7{w:World}{hb:Md}{lv:Nat}(l:Addr)(vs:List Value)(n:Nat)(x:Value)(hl:vs.length<=10000):af w hb lv (sx l vs n x):=by
 refine⟨λMt os G A s R hA C H=>?_,λ_=>⟨rfl,rfl⟩⟩;have ho:=(C.own _ (.head _)).1;refine bu PySem.slot_list_append ⟨_,ho,rfl⟩ PySem.entry_list_append (PySem.args_list_append _ _) (AutoListH.list_append_list_val_0 l ⟨vs⟩ n x (by show vs.length<=2^24;omega)) ⟨ho,?_⟩;have C':=C.update (i:=0) (p:=(l,oL vs n)) rfl (f:=Obj.mapSeq λa=>a.push x) rfl;have e:Obj.mapSeq (λa=>a.push x) (oL vs n)=oL (vs++[x]) (n+1):=by
  have h1:(Array.mk vs).push x=Array.mk (vs++[x]):=by simp
  have h2:((Array.mk (vs++[x])).size==(Array.mk vs).size)=false:=by simp
  show(⟨_,_,.seq ((Array.mk vs).push x) (if((Array.mk vs).push x).size==(Array.mk vs).size then n else n+1),_⟩:Obj)=_;rw[h1,h2];rfl
 refine H u0 _ ?_;show am Mt os [(l,oL (vs++[x]) (n+1))] _;rw[<-e];exact C'
noncomputable def Fa(l:Addr)(vs:List Value)(n:Nat)(x:Value):Tr:=⟨[],λ_=>[],λ_=>[],.call (.builtin "list.pop") ⟨[.ref l],[]⟩,[(l,oL (vs++[x]) n)],λ_=>.ok (.ret x),λ_=>[oL vs (n+1)],λ_=>[]⟩
theorem jB{w:World}{hb:Md}{lv:Nat}(l:Addr)(vs:List Value)(n:Nat)(x:Value)(hl:vs.length<=10000):af w hb lv (Fa l vs n x):=by
 refine⟨λMt os G A s R hA C H=>?_,λ_=>⟨rfl,rfl⟩⟩;have ho:=(C.own _ (.head _)).1;refine aB F.slot_list_pop ⟨_,ho,rfl⟩ F.entry_list_pop (F.args_list_pop_1 _) ?_;show wpAny _ _ (Builtin.List.listItems (.ref l)>>=_) _ _ s;refine on (Q3 ho rfl ?_);have h1:(Array.mk (vs++[x])).isEmpty=false:=by simp[Array.isEmpty]
 have h2:((seqIndex? (-1) (Array.mk (vs++[x])).size).bind λk=>(Array.mk (vs++[x]))[k]?.map (k,·))=some (vs.length,x):=by
  have:seqIndex? (-1) (Array.mk (vs++[x])).size=some vs.length:=by
   unfold seqIndex?;simp;omega
  rw[this];simp
 rw[h1];show wpAny _ _ (match((seqIndex? (-1) (Array.mk (vs++[x])).size).bind λk=>(Array.mk (vs++[x]))[k]?.map (k,·))with |some (k,x)=>(do Builtin.List.listUpdate (.ref l) (·.eraseIdxIfInBounds k);ret x) |none=>_) _ _ s;rw[h2];have e3:(Array.mk (vs++[x])).eraseIdxIfInBounds vs.length=Array.mk vs:=by
  have q:∀l:List Value,(l++[x]).eraseIdx l.length=l:=by
   intro l
   induction l with
   |nil=>rfl
   |cons a l ih=>simpa using ih
  simp[Array.eraseIdxIfInBounds,q]
 have hz:(Array.mk (vs++[x])).size<=sizeLine:=by show(vs++[x]).length<=2^24;simp;omega
 show wpAny _ _ (updateSeq l (·.eraseIdxIfInBounds vs.length)>>=_) _ _ s;refine on (Q5 ho rfl ?_ hz (by rw[e3];show vs.length<=2^24+1;omega));have C':=C.update (i:=0) (p:=(l,oL (vs++[x]) n)) rfl (f:=Obj.mapSeq λa=>a.eraseIdxIfInBounds vs.length) rfl;have e:Obj.mapSeq (λa=>a.eraseIdxIfInBounds vs.length) (oL (vs++[x]) n)=oL vs (n+1):=by
  have h2:((Array.mk vs).size==(Array.mk (vs++[x])).size)=false:=by simp
  show(⟨_,_,.seq ((Array.mk (vs++[x])).eraseIdxIfInBounds vs.length) (if((Array.mk (vs++[x])).eraseIdxIfInBounds vs.length).size==(Array.mk (vs++[x])).size then n else n+1),_⟩:Obj)=_;rw[e3,h2];rfl
 refine Mh (H u0 _ ?_);show am Mt os [(l,oL vs (n+1))] _;rw[<-e];exact C'
noncomputable def j9(l:Addr)(vs:List Value)(n:Nat)(i:Int)(u:Tok)(x:Value):Tr:=⟨[],λ_=>[],λ_=>[],.call (.builtin "list.__getitem__") ⟨[.ref l,.int i u],[]⟩,[(l,oL vs n)],λ_=>.ok (.ret x),λ_=>[oL vs n],λ_=>[]⟩
noncomputable def L6(l:Addr)(vs:List Value)(n:Nat):Tr:=tL (.ref l) [(l,oL vs n)] vs.length
theorem AZ{w:World}{hb:Md}{lv:Nat}(l:Addr)(vs:List Value)(n:Nat)(hl:vs.length<=10000):af w hb lv (L6 l vs n):=by
 refine⟨λMt os G A s R hA C H=>?_,λ_=>⟨rfl,rfl⟩⟩;have ho:=(C.own _ (.head _)).1;refine Nf QO ?_;rw[MV QP _];have hb:(((Array.mk vs).size:Nat):Int)<2^63:=by show((vs.length:Nat):Int)<2^63;omega
 refine M6 (wpAny_len_body_list (Q:=λr s'=>R (.ok (.ret r)) s') (items:=⟨vs⟩) ⟨_,ho,rfl,n,rfl⟩ hb ?_)
  (λfin s' h'=>by obtain⟨r,rfl,hq⟩:=h';exact hq) λ_ _ e=>e
 exact H (uN (s.toks+1)) _ (C.toks _)
theorem DD{k:Nat}(h:k<=10000):Builtin.List.listFitsIndex (Int.ofNat k)=true:=fitsIndex_of (MS k) (by show((k:Nat):Int)<2^63;omega)
theorem fh{w:World}{hb:Md}{lv:Nat}(l:Addr)(vs:List Value)(n:Nat)(i:Int)(u:Tok)(x:Value)(h0:0<=i)(hf:Builtin.List.listFitsIndex i=true)(hx:vs[i.toNat]?=some x):af w hb lv (j9 l vs n i u x):=by
 refine⟨λMt os G A s R hA C H=>?_,λ_=>⟨rfl,rfl⟩⟩;have ho:=(C.own _ (.head _)).1;refine aB Ow ⟨_,ho,rfl⟩ Ot (Ox _ _) ?_;show wpAny _ _ (Builtin.List.listSubscript? (.int i u)>>=_) _ _ s;refine on (P6 hf ?_)
 clear hf
 obtain⟨k,rfl⟩:=Int.eq_ofNat_of_zero_le h0;have hx':(Array.mk vs)[k]?=some x:=by simpa using hx
 show wpAny _ _ ((seqItemAt l k>>=λr=>pure (r.map (k,·)))>>=_) _ _ s;refine on (on (wpAny_seqItemAt ho rfl (Mh ?_)));rw[hx'];exact Mh (H u0 s C)
theorem c8{w:World}{hb:Md}{lv:Nat}(l:Addr)(vs:List Value)(n:Nat)(u:Tok)(x:Value):af w hb lv (j9 l (vs++[x]) n (-1) u x):=by
 refine⟨λMt os G A s R hA C H=>?_,λ_=>⟨rfl,rfl⟩⟩;have ho:=(C.own _ (.head _)).1;refine aB Ow ⟨_,ho,rfl⟩ Ot (Ox _ _) ?_;have hf:Builtin.List.listFitsIndex (-1)=true:=rfl;generalize hi:(-1:Int)=i at hf ⊢;show wpAny _ _ (Builtin.List.listSubscript? (.int i u)>>=_) _ _ s;refine on (P6 hf ?_)
 clear hf
 subst hi;show wpAny _ _ ((Builtin.List.listItems (.ref l)>>=λxs=>pure ((seqIndex? (-1) xs.size).bind λj=>xs[j]?.map (j,·)))>>=_) _ _ s;refine on (on (Q3 ho rfl (Mh ?_)));have h2:((seqIndex? (-1) (Array.mk (vs++[x])).size).bind λk=>(Array.mk (vs++[x]))[k]?.map (k,·))=some (vs.length,x):=by
  have:seqIndex? (-1) (Array.mk (vs++[x])).size=some vs.length:=by
   unfold seqIndex?;simp;omega
  rw[this];simp
 rw[h2];exact Mh (H u0 s C)
end
section
open PySem.Builtin.Str (subAt occurrences lastOccurrence partsBetween strKind glued)
noncomputable def vS:List Str->Xs->List Value
 |[],_=>[]
 |s::l,x=>.str s (x 0)::vS l (λi=>x (i+1))
theorem qY:∀(l:List Str) (t:Nat),strsFrom t l=vS l (λi=>t+i)
 |[],_=>rfl
 |s::l,t=>by
  show Value.str s t::strsFrom (t+1) l=Value.str s (t+0)::vS l (λi=>t+(i+1));rw[qY l (t+1)];congr 2;funext i;omega
noncomputable def cR(x y:Str):List Str:=match(decide (x.length<y.length)||decide (strKind x<strKind y))with
 |true=>[x]
 |false=>match(occurrences x y 0 x.length (x.length+1)).isEmpty with
  |true=>[x]
  |false=>partsBetween x (occurrences x y 0 x.length (x.length+1)) y.length
noncomputable def mf(p y:Str)(t u:Tok)(parts:List Str):Tr:=⟨[],λ_=>[],λ_=>[],.call (.builtin "str.split") ⟨[.str p t,.str y u],[]⟩,[],λx=>.ok (.ret (.ref (x.n 0+ab))),λ_=>[],λx=>[(x.n 0+ab,oL (vS parts λi=>x.n (i+1)) 0)]⟩
theorem xu{w:World}{hb:Md}{lv:Nat}(p y:Str)(t u:Tok)(parts:List Str)(h:cR p y=parts)(hy:(y.length==0)=false)(hl:p.length<=sizeLine)(hn:parts.length<=sizeLine):af w hb lv (mf p y t u parts):=by
 subst h;refine⟨λMt os G A s R hA C H=>?_,λ_=>⟨rfl,rfl⟩⟩;have hz:=cC G C;have e0:s.heap.objs.size-ab+ab=s.heap.objs.size:=MJ hz;have fin:∀(g:Nat->Nat) (k:Nat),R (.ok (.ret (.ref s.heap.objs.size))) {s with toks:=k,heap:=s.heap.push (oL (vS (cR p y) g) 0)}:=by
  intro g k;have C':=(C.alloc (o:=oL (vS (cR p y) g) 0) rfl).toks k;have hp:=H ⟨λj=>match j with |0=>s.heap.objs.size-ab |i+1=>g i,λ_ d=>d⟩;simp only[mf,e0]at hp;exact hp _ C'
 have own:cR p y=[p]->R (.ok (.ret (.ref s.heap.objs.size))) {s with heap:=s.heap.push {cls:=.type "list",data:=.seq [Value.str p t].toArray}}:=by
  intro e;have:=fin (λ_=>t) s.toks;rw[e]at this;exact this
 cases h1:(decide (p.length<y.length)||decide (strKind p<strKind y))with
 |true=>
  refine bu Pl (Nb s p t) Pe (O6 _ _) (meets_str_split_cannot_occur p y t u h1) (own ?_);unfold cR;rw[h1]
 |false=>
  cases h2:(occurrences p y 0 p.length (p.length+1)).isEmpty with
  |true=>
   refine bu Pl (Nb s p t) Pe (O6 _ _) (meets_str_split_not_found p y t u h1 hy h2) (own ?_);unfold cR;rw[h1,h2]
  |false=>
   have e:cR p y=partsBetween p (occurrences p y 0 p.length (p.length+1)) y.length:=by
    unfold cR;rw[h1,h2]
   rw[e]at hn fin;refine bu Pl (Nb s p t) Pe (O6 _ _) (meets_str_split_sep p y t u h1 hy h2 hl hn) ?_;have q:=fin (λi=>s.toks+i) (s.toks+(partsBetween p (occurrences p y 0 p.length (p.length+1)) y.length).length);rw[<-qY]at q;exact q
noncomputable def zy(sep:Str)(t:Tok)(a:Addr)(l:List (Str×Tok))(n:Nat)(r:U->Value):Tr:=⟨[],λ_=>[],λ_=>[],.call (.builtin "str.join") ⟨[.str sep t,.ref a],[]⟩,[(a,oL (strValues l) n)],λx=>.ok (.ret (r x)),λ_=>[oL (strValues l) n],λ_=>[]⟩
theorem xr{w:World}{hb:Md}{lv:Nat}(sep:Str)(t:Tok)(a:Addr)(l:List (Str×Tok))(n:Nat)(m:Made)(hl:Builtin.Str.tooLong ((l.map (·.1)).toArray.foldl (·+ ·.length+sep.length) 0)=false)(hm:joinMade sep l=m)(hs:fJ m):af w hb lv (zy sep t a l n (k5 m)):=by
 refine⟨λMt os G A s R hA C H=>?_,λ_=>⟨rfl,rfl⟩⟩;have ho:=(C.own _ (.head _)).1;refine bu F.slot_str_join (Nb s sep t) F.entry_str_join (F.args_str_join_2 _ _) (meets_str_join_list sep t a l hl) ⟨⟨_,ho,rfl,n,rfl⟩,?_⟩;rw[hm];cases m with
 |val v=>exact H u0 s C
 |int i=>exact H (uN (s.toks)) _ (C.toks _)
 |str y=>exact⟨hs,H (uN (s.toks)) _ (C.toks _)⟩
 |_=>exact hs.elim
noncomputable def cS(p:Str)(t:Tok)(q:Str):Tr:=⟨[],λ_=>[],λ_=>[],.call (.ref 122) ⟨[.str p t],[]⟩,[],λx=>.ok (.ret (.ref (x.n 0+ab))),λ_=>[],λx=>[(x.n 0+ab,aj [.str (T []) (x.n 1),.str (T [47]) (x.n 2),.str q (x.n 3)])]⟩
theorem mX{w:World}(c:Nat)(l:List Nat)(t:Tok)(hl:l.length<=10000)(hc:([c] != [47])=true)
  (h1:∀v,sliceMade (T (47::c::l)) t none (some (1,v)) none=.str (T [47])) (h2:∀v v',sliceMade (T (47::c::l)) t (some (1,v)) (some (2,v')) none=.str (T [c])) (h3:∀v,sliceMade (T (47::c::l)) t (some (1,v)) none none=.str (T (c::l))):
  ba w 20 (cS (T (47::c::l)) t (T (c::l))):=
 tri 0x4145144144144144145145142082082082081045041145101141085143 (λw=>[rT 10 [] [] (tr:=λh=>tV 94 [.str (T (47::c::l)) t] λx=>.str (T (47::c::l)) t) λ_=>cv _ _,rT 0 [1] [] (tr:=λh=>vU (T (47::c::l)) t ((h 11).n 0+ab) none (some (1,(h 10).n 0)) none (k5 (.str (T [47])))) λ_=>dU _ _ _ _ _ _ (by show(1:Nat)<=sizeLine;decide) (h1 _),rT 0 [] [] (tr:=λh=>tB "str.__ne__" [.str (T [47]) ((h 12).n 0),.str (T [47]) ((h 6).n 0)] λy=>.bool false) λ_=>c9 _ _ _ _ _ rfl,rT 0 [2] [] (tr:=λh=>vU (T (47::c::l)) t ((h 16).n 0+ab) (some (1,(h 14).n 0)) (some (2,(h 15).n 0)) none (k5 (.str (T [c])))) λ_=>dU _ _ _ _ _ _ (by show(1:Nat)<=sizeLine;decide) (h2 _ _),rT 0 [] [] (tr:=λh=>tB "str.__ne__" [.str (T [c]) ((h 17).n 0),.str (T [47]) ((h 6).n 0)] λy=>.bool true) λ_=>c9 _ _ _ _ _ hc,rT 0 [3] [] (tr:=λh=>vU (T (47::c::l)) t ((h 20).n 0+ab) (some (1,(h 19).n 0)) none none (k5 (.str (T (c::l))))) λ_=>dU _ _ _ _ _ _ (by show l.length+1<=2^24;omega) (h3 _)]) [4] (λch=>⟨λi=>[(ch 22).n 0,(ch 8).n 0,(ch 6).n 0,(ch 21).n 0].getD i 0,(ch 0).u⟩) w
theorem ic{w:World}(t:Tok):ba w 20 (cS (T [47]) t (T [])):=
 tri 0x4145144144144144145145142082082082081045041145101141085143 (λw=>[rT 10 [] [] (tr:=λh=>tV 94 [.str (T [47]) t] λx=>.str (T [47]) t) λ_=>cv _ _,rT 0 [1] [] (tr:=λh=>vU (T [47]) t ((h 11).n 0+ab) none (some (1,(h 10).n 0)) none (k5 (.val (.str (T [47]) t)))) λ_=>dU _ _ _ _ _ _ trivial rfl,rT 0 [] [] (tr:=λh=>tB "str.__ne__" [.str (T [47]) t,.str (T [47]) ((h 6).n 0)] λy=>.bool false) λ_=>c9 _ _ _ _ _ rfl,rT 0 [2] [] (tr:=λh=>vU (T [47]) t ((h 16).n 0+ab) (some (1,(h 14).n 0)) (some (2,(h 15).n 0)) none (k5 (.str (T [])))) λ_=>dU _ _ _ _ _ _ (Nt _) rfl,rT 0 [] [] (tr:=λh=>tB "str.__ne__" [.str (T []) ((h 17).n 0),.str (T [47]) ((h 6).n 0)] λy=>.bool true) λ_=>c9 _ _ _ _ _ rfl,rT 0 [3] [] (tr:=λh=>vU (T [47]) t ((h 20).n 0+ab) (some (1,(h 19).n 0)) none none (k5 (.str (T [])))) λ_=>dU _ _ _ _ _ _ (Nt _) rfl]) [4] (λch=>⟨λi=>[(ch 22).n 0,(ch 8).n 0,(ch 6).n 0,(ch 21).n 0].getD i 0,(ch 0).u⟩) w
noncomputable def fe(P:Params)(l:List Nat)(t:Tok)(v:Value):DictEntry:=⟨PyData.keyHash P (T l),.str (T l) t,v⟩
noncomputable def JG(es:List DictEntry)(n:Nat):Obj:={cls:=.type "frame",data:=.dict ⟨es⟩ n}
theorem bW{w:World}{hb:Md}{lv:Nat}(x y:Str)(t u:Tok)(b:Bool)(h:(x.cps.toList==y.cps.toList)=b):af w hb lv (tB "str.__eq__" [.str x t,.str y u] λ_=>.bool b):=by
 subst h;exact bg F.slot_str_eq (λs=>Nb s x t) F.entry_str_eq (F.args_str_eq_2 _ _) (gives_str_eq x y t u)
noncomputable def JE(P:Params)(k:Nat->Tok)(path:Str)(lc ln:Addr):List DictEntry:=[fe P [112,97,116,104] (k 0) (.str path (k 10)),fe P [115,101,112] (k 1) (.str (T [47]) (k 11)),fe P [100,111,116] (k 2) (.str (T [46]) (k 12)),fe P [100,111,116,100,111,116] (k 3) (.str (T [46,46]) (k 13)),fe P [95] (k 4) (.str (T []) (k 14)),fe P [105,110,105,116,105,97,108,95,115,108,97,115,104,101,115] (k 5) (.str (T [47]) (k 15)),fe P [99,111,109,112,115] (k 6) (.ref lc),fe P [110,101,119,95,99,111,109,112,115] (k 7) (.ref ln)]
noncomputable def Bf(P:Params)(k:Nat->Tok)(path:Str)(lc ln:Addr)(v:Value):Obj:=JG (JE P k path lc ln++[fe P [99,111,109,112] (k 8) v]) 9
noncomputable abbrev IR:Stmt:=aP (dD (dP pT 18)) 7
noncomputable def JD(it loc:Addr):Code:=.forLoop (cq IR) (.ref it) (ao IR) (dQ IR) (jp (dP pT 18) (T [110,111,114,109,112,97,116,104,46,60,108,111,99,97,108,115,62,46]) 3 143 142 loc)
noncomputable def gG(P:Params)(k:Nat->Tok)(path:Str)(it loc lc ln:Addr)(all:List Value)(i:Nat)(v:Value)(acc:List Value)(n:Nat)(lst:Value)(fin:List Value):Tr:=
 ⟨[],λ_=>[],λ_=>[],JD it loc,[(it,aI lc i),(loc,Bf P k path lc ln v),(ln,oL acc n),(lc,oL all 0)],λ_=>.ok .next,λx=>[ar all.length,Bf P k path lc ln lst,oL fin (x.n 0),oL all 0],λ_=>[]⟩
theorem Bh(k:Nat->Tok)(path:Str)(it loc lc ln:Addr)(all:List Value)(i:Nat)(v:Value)(acc:List Value)(n:Nat)(lst:Value)(fin:List Value)(c:Nat)(l:List Nat)(u:Tok)
  (hx:all[i]?=some (.str (T (c::l)) u)) (hl:l.length<=9000) (ha:acc.length<=10000) (h1:((c::l)==[46])=false) (h2:((c::l) != [46,46])=true)
  (IH:∀w:World,ba w 50 (gG w.params k path it loc lc ln all (i+1) (.str (T (c::l)) u) (acc++[.str (T (c::l)) u]) (n+1) lst fin)) (w:World):ba w 50 (gG w.params k path it loc lc ln all i v acc n lst fin):=
 iT (λP=>gG P k path it loc lc ln all i v acc n lst fin) 0x41061c71c7184186106184186184142 (λw=>[rT 0 [0,3] [] (tr:=λh=>sL it lc i all 0 (.str (T (c::l)) u)) λ_=>d8 _ _ _ _ _ _ hx,rT 0 [] [] (tr:=λh=>tL (.str (T (c::l)) u) [] (l.length+1)) λ_=>bq (c::l) _ (by simp;omega),rT 0 [] [] (tr:=λh=>tB "str.__eq__" [.str (T (c::l)) u,.str (T [46]) (k 12)] λy=>.bool false) λ_=>bW _ _ _ _ _ h1,rT 0 [] [] (tr:=λh=>tB "str.__ne__" [.str (T (c::l)) u,.str (T [46,46]) (k 13)] λy=>.bool true) λ_=>c9 _ _ _ _ _ h2,rT 0 [2] [] (tr:=λh=>sx ln acc n (.str (T (c::l)) u)) λ_=>c7 _ _ _ _ ha,rT 50 [0,1,2,3] [] (tr:=λh=>gG w.params k path it loc lc ln all (i+1) (.str (T (c::l)) u) (acc++[.str (T (c::l)) u]) (n+1) lst fin) λ_=>IH w]) [0,1,2,3] (λch=>ch 6) w
theorem aF{w:World}{hb:Md}{lv:Nat}(l:Addr)(vs:List Value)(n m:Nat)(hm:vs.length=m)(hl:vs.length<=10000):af w hb lv (tL (.ref l) [(l,oL vs n)] m):=by
 subst hm;exact AZ l vs n hl
theorem Bk(k:Nat->Tok)(path:Str)(it loc lc ln:Addr)(all:List Value)(i:Nat)(v:Value)(acc:List Value)(n:Nat)(lst:Value)(fin:List Value)(u:Tok)
  (hx:all[i]?=some (.str (T []) u))
  (IH:∀w:World,ba w 50 (gG w.params k path it loc lc ln all (i+1) (.str (T []) u) acc n lst fin)) (w:World):ba w 50 (gG w.params k path it loc lc ln all i v acc n lst fin):=
 iT (λP=>gG P k path it loc lc ln all i v acc n lst fin) 17873608655170 (λw=>[rT 0 [0,3] [] (tr:=λh=>sL it lc i all 0 (.str (T []) u)) λ_=>d8 _ _ _ _ _ _ hx,rT 0 [] [] (tr:=λh=>tL (.str (T []) u) [] 0) λ_=>bq [] _ (by decide),rT 50 [0,1,2,3] [] (tr:=λh=>gG w.params k path it loc lc ln all (i+1) (.str (T []) u) acc n lst fin) λ_=>IH w]) [0,1,2,3] (λch=>ch 3) w
theorem Bi(k:Nat->Tok)(path:Str)(it loc lc ln:Addr)(all:List Value)(i:Nat)(v:Value)(acc:List Value)(n:Nat)(lst:Value)(fin:List Value)(u:Tok)
  (hx:all[i]?=some (.str (T [46]) u))
  (IH:∀w:World,ba w 50 (gG w.params k path it loc lc ln all (i+1) (.str (T [46]) u) acc n lst fin)) (w:World):ba w 50 (gG w.params k path it loc lc ln all i v acc n lst fin):=
 iT (λP=>gG P k path it loc lc ln all i v acc n lst fin) 0x4106184186184142 (λw=>[rT 0 [0,3] [] (tr:=λh=>sL it lc i all 0 (.str (T [46]) u)) λ_=>d8 _ _ _ _ _ _ hx,rT 0 [] [] (tr:=λh=>tL (.str (T [46]) u) [] 1) λ_=>bq [46] _ (by decide),rT 0 [] [] (tr:=λh=>tB "str.__eq__" [.str (T [46]) u,.str (T [46]) (k 12)] λy=>.bool true) λ_=>bW _ _ _ _ _ rfl,rT 50 [0,1,2,3] [] (tr:=λh=>gG w.params k path it loc lc ln all (i+1) (.str (T [46]) u) acc n lst fin) λ_=>IH w]) [0,1,2,3] (λch=>ch 4) w
theorem Bl(k:Nat->Tok)(path:Str)(it loc lc ln:Addr)(all:List Value)(i:Nat)(v:Value)(n:Nat)(lst:Value)(fin:List Value)(u:Tok)
  (hx:all[i]?=some (.str (T [46,46]) u))
  (IH:∀w:World,ba w 50 (gG w.params k path it loc lc ln all (i+1) (.str (T [46,46]) u) [] n lst fin)) (w:World):ba w 50 (gG w.params k path it loc lc ln all i v [] n lst fin):=
 iT (λP=>gG P k path it loc lc ln all i v [] n lst fin) 0x1041c71841c7184184186106184186184142 (λw=>[rT 0 [0,3] [] (tr:=λh=>sL it lc i all 0 (.str (T [46,46]) u)) λ_=>d8 _ _ _ _ _ _ hx,rT 0 [] [] (tr:=λh=>tL (.str (T [46,46]) u) [] 2) λ_=>bq [46,46] _ (by decide),rT 0 [] [] (tr:=λh=>tB "str.__eq__" [.str (T [46,46]) u,.str (T [46]) (k 12)] λy=>.bool false) λ_=>bW _ _ _ _ _ rfl,rT 0 [] [] (tr:=λh=>tB "str.__ne__" [.str (T [46,46]) u,.str (T [46,46]) (k 13)] λy=>.bool false) λ_=>c9 _ _ _ _ _ rfl,rT 0 [] [] (tr:=λh=>tL (.str (T [47]) (k 15)) [] 1) λ_=>bq [47] _ (by decide),rT 0 [2] [] (tr:=λh=>tL (.ref ln) [(ln,oL [] n)] 0) λ_=>aF _ _ _ _ rfl (by decide),rT 0 [2] [] (tr:=λh=>tL (.ref ln) [(ln,oL [] n)] 0) λ_=>aF _ _ _ _ rfl (by decide),rT 50 [0,1,2,3] [] (tr:=λh=>gG w.params k path it loc lc ln all (i+1) (.str (T [46,46]) u) [] n lst fin) λ_=>IH w]) [0,1,2,3] (λch=>ch 8) w
theorem EO(k:Nat->Tok)(path:Str)(it loc lc ln:Addr)(all:List Value)(i:Nat)(v:Value)(acc:List Value)(n:Nat)(lst:Value)(fin:List Value)(u:Tok)(y:Str)(z:Tok)
  (hx:all[i]?=some (.str (T [46,46]) u)) (ha:acc.length<=9000) (hy:(y.cps.toList==[46,46])=false)
  (IH:∀w:World,ba w 50 (gG w.params k path it loc lc ln all (i+1) (.str (T [46,46]) u) acc (n+1) lst fin)) (w:World):ba w 50 (gG w.params k path it loc lc ln all i v (acc++[.str y z]) n lst fin):=
 iT (λP=>gG P k path it loc lc ln all i v (acc++[.str y z]) n lst fin) 0x41071c71c61071c61061071c70821841c7184184186106184186184142 (λw=>[rT 0 [0,3] [] (tr:=λh=>sL it lc i all 0 (.str (T [46,46]) u)) λ_=>d8 _ _ _ _ _ _ hx,rT 0 [] [] (tr:=λh=>tL (.str (T [46,46]) u) [] 2) λ_=>bq [46,46] _ (by decide),rT 0 [] [] (tr:=λh=>tB "str.__eq__" [.str (T [46,46]) u,.str (T [46]) (k 12)] λy=>.bool false) λ_=>bW _ _ _ _ _ rfl,rT 0 [] [] (tr:=λh=>tB "str.__ne__" [.str (T [46,46]) u,.str (T [46,46]) (k 13)] λy=>.bool false) λ_=>c9 _ _ _ _ _ rfl,rT 0 [] [] (tr:=λh=>tL (.str (T [47]) (k 15)) [] 1) λ_=>bq [47] _ (by decide),rT 0 [2] [] (tr:=λh=>tL (.ref ln) [(ln,oL (acc++[.str y z]) n)] (acc.length+1)) λ_=>aF _ _ _ _ (by simp) (by simp;omega),rT 0 [2] [] (tr:=λh=>j9 ln (acc++[.str y z]) n (-1) ((h 8).n 0) (.str y z)) λ_=>c8 _ _ _ _ _,rT 0 [] [] (tr:=λh=>tB "str.__eq__" [.str y z,.str (T [46,46]) (k 13)] λy=>.bool false) λ_=>bW _ _ _ _ _ hy,rT 0 [2] [] (tr:=λh=>tL (.ref ln) [(ln,oL (acc++[.str y z]) n)] (acc.length+1)) λ_=>aF _ _ _ _ (by simp) (by simp;omega),rT 0 [2] [] (tr:=λh=>Fa ln acc n (.str y z)) λ_=>jB _ _ _ _ (by omega),rT 50 [0,1,2,3] [] (tr:=λh=>gG w.params k path it loc lc ln all (i+1) (.str (T [46,46]) u) acc (n+1) lst fin) λ_=>IH w]) [0,1,2,3] (λch=>ch 13) w
theorem Bj(k:Nat->Tok)(path:Str)(it loc lc ln:Addr)(all:List Value)(v:Value)(acc:List Value)(n:Nat)(w:World):ba w 50 (gG w.params k path it loc lc ln all all.length v acc n v acc):=
 iT (λP=>gG P k path it loc lc ln all all.length v acc n v acc) 36192578 (λw=>[rT 0 [0,3] [] (tr:=λh=>qR it lc all.length all 0) λ_=>oZ _ _ _ _ _ (by simp)]) [0,1,2,3] (λch=>⟨λ_=>n,(ch 0).u⟩) w
noncomputable def k8(k:Nat->Tok)(t:Tok):Nat->Tok:=λj=>match Nat.beq j 8 with
 |true=>t
 |false=>k j
noncomputable def kb(P:Params)(k:Nat->Tok)(path:Str)(it loc lc ln:Addr)(all:List Value)(n:Nat)(lst:Value)(fin:List Value):Tr:=
 ⟨[],λ_=>[],λ_=>[],JD it loc,[(it,aI lc 0),(loc,JG (JE P k path lc ln) 8),(ln,oL [] n),(lc,oL all 0)],λ_=>.ok .next,λx=>[ar all.length,Bf P (k8 k (x.n 1)) path lc ln lst,oL fin (x.n 0),oL all 0],λ_=>[]⟩
theorem xV(k:Nat->Tok)(path:Str)(it loc lc ln:Addr)(all:List Value)(n:Nat)(lst:Value)(fin:List Value)(c:Nat)(l:List Nat)(u:Tok)
  (hx:all[0]?=some (.str (T (c::l)) u)) (hl:l.length<=9000) (h1:((c::l)==[46])=false) (h2:((c::l) != [46,46])=true)
  (IH:∀(k:Nat->Tok) (w:World),ba w 50 (gG w.params k path it loc lc ln all 1 (.str (T (c::l)) u) [.str (T (c::l)) u] (n+1) lst fin)) (w:World):ba w 50 (kb w.params k path it loc lc ln all n lst fin):=
 iT (λP=>kb P k path it loc lc ln all n lst fin) 0x41061c71c7184186106184186184142 (λw=>[rT 0 [0,3] [] (tr:=λh=>sL it lc 0 all 0 (.str (T (c::l)) u)) λ_=>d8 _ _ _ _ _ _ hx,rT 0 [] [] (tr:=λh=>tL (.str (T (c::l)) u) [] (l.length+1)) λ_=>bq (c::l) _ (by simp;omega),rT 0 [] [] (tr:=λh=>tB "str.__eq__" [.str (T (c::l)) u,.str (T [46]) (k 12)] λy=>.bool false) λ_=>bW _ _ _ _ _ h1,rT 0 [] [] (tr:=λh=>tB "str.__ne__" [.str (T (c::l)) u,.str (T [46,46]) (k 13)] λy=>.bool true) λ_=>c9 _ _ _ _ _ h2,rT 0 [2] [] (tr:=λh=>sx ln [] n (.str (T (c::l)) u)) λ_=>c7 _ _ _ _ (by decide),rT 50 [0,1,2,3] [] (tr:=λh=>gG w.params (k8 k ((h 1).n 0)) path it loc lc ln all 1 (.str (T (c::l)) u) [.str (T (c::l)) u] (n+1) lst fin) λ_=>IH _ w]) [0,1,2,3] (λch=>⟨λi=>[(ch 6).n 0,(ch 1).n 0].getD i 0,(ch 0).u⟩) w
theorem xX(k:Nat->Tok)(path:Str)(it loc lc ln:Addr)(all:List Value)(n:Nat)(lst:Value)(fin:List Value)(u:Tok)
  (hx:all[0]?=some (.str (T []) u))
  (IH:∀(k:Nat->Tok) (w:World),ba w 50 (gG w.params k path it loc lc ln all 1 (.str (T []) u) [] n lst fin)) (w:World):ba w 50 (kb w.params k path it loc lc ln all n lst fin):=
 iT (λP=>kb P k path it loc lc ln all n lst fin) 17873608655170 (λw=>[rT 0 [0,3] [] (tr:=λh=>sL it lc 0 all 0 (.str (T []) u)) λ_=>d8 _ _ _ _ _ _ hx,rT 0 [] [] (tr:=λh=>tL (.str (T []) u) [] 0) λ_=>bq [] _ (by decide),rT 50 [0,1,2,3] [] (tr:=λh=>gG w.params (k8 k ((h 1).n 0)) path it loc lc ln all 1 (.str (T []) u) [] n lst fin) λ_=>IH _ w]) [0,1,2,3] (λch=>⟨λi=>[(ch 3).n 0,(ch 1).n 0].getD i 0,(ch 0).u⟩) w
theorem xW(k:Nat->Tok)(path:Str)(it loc lc ln:Addr)(all:List Value)(n:Nat)(lst:Value)(fin:List Value)(u:Tok)
  (hx:all[0]?=some (.str (T [46]) u))
  (IH:∀(k:Nat->Tok) (w:World),ba w 50 (gG w.params k path it loc lc ln all 1 (.str (T [46]) u) [] n lst fin)) (w:World):ba w 50 (kb w.params k path it loc lc ln all n lst fin):=
 iT (λP=>kb P k path it loc lc ln all n lst fin) 0x4106184186184142 (λw=>[rT 0 [0,3] [] (tr:=λh=>sL it lc 0 all 0 (.str (T [46]) u)) λ_=>d8 _ _ _ _ _ _ hx,rT 0 [] [] (tr:=λh=>tL (.str (T [46]) u) [] 1) λ_=>bq [46] _ (by decide),rT 0 [] [] (tr:=λh=>tB "str.__eq__" [.str (T [46]) u,.str (T [46]) (k 12)] λy=>.bool true) λ_=>bW _ _ _ _ _ rfl,rT 50 [0,1,2,3] [] (tr:=λh=>gG w.params (k8 k ((h 1).n 0)) path it loc lc ln all 1 (.str (T [46]) u) [] n lst fin) λ_=>IH _ w]) [0,1,2,3] (λch=>⟨λi=>[(ch 4).n 0,(ch 1).n 0].getD i 0,(ch 0).u⟩) w
theorem xY(k:Nat->Tok)(path:Str)(it loc lc ln:Addr)(all:List Value)(n:Nat)(lst:Value)(fin:List Value)(u:Tok)
  (hx:all[0]?=some (.str (T [46,46]) u))
  (IH:∀(k:Nat->Tok) (w:World),ba w 50 (gG w.params k path it loc lc ln all 1 (.str (T [46,46]) u) [] n lst fin)) (w:World):ba w 50 (kb w.params k path it loc lc ln all n lst fin):=
 iT (λP=>kb P k path it loc lc ln all n lst fin) 0x1041c71841c7184184186106184186184142 (λw=>[rT 0 [0,3] [] (tr:=λh=>sL it lc 0 all 0 (.str (T [46,46]) u)) λ_=>d8 _ _ _ _ _ _ hx,rT 0 [] [] (tr:=λh=>tL (.str (T [46,46]) u) [] 2) λ_=>bq [46,46] _ (by decide),rT 0 [] [] (tr:=λh=>tB "str.__eq__" [.str (T [46,46]) u,.str (T [46]) (k 12)] λy=>.bool false) λ_=>bW _ _ _ _ _ rfl,rT 0 [] [] (tr:=λh=>tB "str.__ne__" [.str (T [46,46]) u,.str (T [46,46]) (k 13)] λy=>.bool false) λ_=>c9 _ _ _ _ _ rfl,rT 0 [] [] (tr:=λh=>tL (.str (T [47]) (k 15)) [] 1) λ_=>bq [47] _ (by decide),rT 0 [2] [] (tr:=λh=>tL (.ref ln) [(ln,oL [] n)] 0) λ_=>aF _ _ _ _ rfl (by decide),rT 0 [2] [] (tr:=λh=>tL (.ref ln) [(ln,oL [] n)] 0) λ_=>aF _ _ _ _ rfl (by decide),rT 50 [0,1,2,3] [] (tr:=λh=>gG w.params (k8 k ((h 1).n 0)) path it loc lc ln all 1 (.str (T [46,46]) u) [] n lst fin) λ_=>IH _ w]) [0,1,2,3] (λch=>⟨λi=>[(ch 8).n 0,(ch 1).n 0].getD i 0,(ch 0).u⟩) w
noncomputable abbrev Pt:=List Nat×Tok
noncomputable def vT(l:List Pt):List Value:=l.map λp=>.str (T p.1) p.2
noncomputable def bQ(acc:List Pt)(c:Pt):List Pt:=if c.1=[]\/c.1=[46]then acc else if c.1=[46,46]then acc.dropLast else acc++[c]
noncomputable def qp(v:Value)(l:List Pt):Value:=l.foldl (λ_ p=>.str (T p.1) p.2) v
noncomputable def ER(acc:List Pt):Prop:=∀p∈acc,p.1≠[46,46]
theorem fM(a b:List Pt):vT (a++b)=vT a++vT b:=Mi
theorem qB(k:Nat->Tok)(path:Str)(it loc lc ln:Addr)(cs:List Pt)(hcs:∀p∈cs,p.1.length<=9000):∀(rest pre acc:List Pt) (v:Value) (n:Nat),cs=pre++rest->ER acc->acc.length+rest.length<=9000->
  ∀w:World,ba w 50 (gG w.params k path it loc lc ln (vT cs) pre.length v (vT acc) n (qp v rest) (vT (rest.foldl bQ acc)))
 |[],pre,acc,v,n,e,ha,hl=>by
  intro w;have e1:pre.length=(vT cs).length:=by rw[e,vT,Mc,Mq]
  rw[e1];exact Bj k path it loc lc ln (vT cs) v (vT acc) n w
 |(c,u)::rest,pre,acc,v,n,e,ha,hl=>by
  have hx:(vT cs)[pre.length]?=some (.str (T c) u):=by rw[e,vT,Mf];simp
  have hm:(c,u)∈cs:=by rw[e];simp
  have hc:=hcs _ hm;have ih:=λacc' v' n' h1 h2=>qB k path it loc lc ln cs hcs rest (pre++[(c,u)]) acc' v' n' (by rw[e];simp) h1 h2
  have hlen:(pre++[(c,u)]).length=pre.length+1:=by simp
  rw[Mg]at hl
  by_cases h0:c=[]
  .subst h0;have ih1:=ih acc (.str (T []) u) n ha (by omega);rw[hlen]at ih1;have es:bQ acc ([],u)=acc:=by simp[bQ]
   rw[Mv,es];exact Bk k path it loc lc ln _ _ v _ n _ _ u hx ih1
  by_cases h1:c=[46]
  .subst h1;have ih1:=ih acc (.str (T [46]) u) n ha (by omega);rw[hlen]at ih1;have es:bQ acc ([46],u)=acc:=by simp[bQ]
   rw[Mv,es];exact Bi k path it loc lc ln _ _ v _ n _ _ u hx ih1
  by_cases h2:c=[46,46]
  .subst h2;have es:bQ acc ([46,46],u)=acc.dropLast:=by simp[bQ]
   rw[Mv,es];rcases NI acc with rfl |⟨acc',⟨y,z⟩,rfl⟩
   .have ih1:=ih [] (.str (T [46,46]) u) n ha (by omega);rw[hlen]at ih1;exact Bl k path it loc lc ln _ _ v n _ _ u hx ih1
   .have hy:y≠[46,46]:=ha (y,z) (by simp);rw[NJ]at ha hl ⊢;rw[Qo];have ih1:=ih acc' (.str (T [46,46]) u) (n+1) (λp hp=>ha p (by simp[hp])) (by simp at hl;omega);rw[hlen]at ih1;rw[fM];exact EO k path it loc lc ln _ _ v (vT acc') n _ _ u (T y) z hx (by simp[vT]at hl ⊢;omega) (by show(y==[46,46])=false;simpa using hy) ih1
  .cases c with
   |nil=>exact(h0 rfl).elim
   |cons a l=>
    have es:bQ acc (a::l,u)=acc++[(a::l,u)]:=by unfold bQ;rw[if_neg (by simp;simpa using h1),if_neg h2]
    have ih1:=ih (acc++[(a::l,u)]) (.str (T (a::l)) u) (n+1) (λp hp=>by
     rcases MT.mp hp with hp |hp
     .exact ha p hp
     .simp at hp;subst hp;exact h2) (by simp;omega)
    rw[hlen,fM]at ih1;rw[Mv,es];exact Bh k path it loc lc ln _ _ v (vT acc) n _ _ a l u hx (by simp at hc;omega) (by simp[vT];omega) (by simpa using h1) (by simpa using h2) ih1
theorem m9(k:Nat->Tok)(path:Str)(it loc lc ln:Addr)(c:List Nat)(u:Tok)(rest:List Pt)(n:Nat)(hcs:∀p∈(c,u)::rest,p.1.length<=9000)(hl:rest.length<=8000)(w:World):
  ba w 50 (kb w.params k path it loc lc ln (vT ((c,u)::rest)) n (qp (.str (T c) u) rest) (vT (((c,u)::rest).foldl bQ []))):=by
 have hx:(vT ((c,u)::rest))[0]?=some (.str (T c) u):=rfl;have hc:=hcs _ (.head _);have ih:=λk acc' n' h1 h2=>qB k path it loc lc ln ((c,u)::rest) hcs rest [(c,u)] acc' (.str (T c) u) n' rfl h1 h2
 have h9:([]:List Pt).length+rest.length<=9000:=by simp;omega
 by_cases h0:c=[]
 .subst h0;have es:bQ [] ([],u)=[]:=by simp[bQ]
  rw[Mv,es];exact xX k path it loc lc ln _ n _ _ u hx (λk=>ih k [] n (λ_ h=>nomatch h) h9) w
 by_cases h1:c=[46]
 .subst h1;have es:bQ [] ([46],u)=[]:=by simp[bQ]
  rw[Mv,es];exact xW k path it loc lc ln _ n _ _ u hx (λk=>ih k [] n (λ_ h=>nomatch h) h9) w
 by_cases h2:c=[46,46]
 .subst h2;have es:bQ [] ([46,46],u)=[]:=by simp[bQ]
  rw[Mv,es];exact xY k path it loc lc ln _ n _ _ u hx (λk=>ih k [] n (λ_ h=>nomatch h) h9) w
 .cases c with
  |nil=>exact(h0 rfl).elim
  |cons a l=>
   have es:bQ [] (a::l,u)=[(a::l,u)]:=by unfold bQ;rw[if_neg (by simp;simpa using h1),if_neg h2];rfl
   rw[Mv,es];exact xV k path it loc lc ln _ n _ _ a l u hx (by simp at hc;omega) (by simpa using h1) (by simpa using h2) (λk=>ih k [(a::l,u)] (n+1) (λp hp=>by simp at hp;subst hp;exact h2) (by simp;omega)) w
noncomputable def fN:List (List Nat)->Xs->List Pt
 |[],_=>[]
 |s::l,x=>(s,x 0)::fN l (λi=>x (i+1))
theorem vL:∀(l:List (List Nat)) (x:Xs),vS (l.map λa=>T a) x=vT (fN l x)
 |[],_=>rfl
 |s::l,x=>by
  show Value.str (T s) (x 0)::vS (l.map λa=>T a) _=Value.str (T s) (x 0)::vT (fN l _);rw[vL l]
noncomputable def hC(p y:Str)(t u:Tok)(parts:List (List Nat)):Tr:=⟨[],λ_=>[],λ_=>[],.call (.builtin "str.split") ⟨[.str p t,.str y u],[]⟩,[],λx=>.ok (.ret (.ref (x.n 0+ab))),λ_=>[],λx=>[(x.n 0+ab,oL (vT (fN parts λi=>x.n (i+1))) 0)]⟩
theorem jE{w:World}{hb:Md}{lv:Nat}(p y:Str)(t u:Tok)(parts:List (List Nat))(h:cR p y=parts.map λa=>T a)(hy:(y.length==0)=false)(hl:p.length<=sizeLine)(hn:parts.length<=sizeLine):af w hb lv (hC p y t u parts):=by
 have k:=xu (w:=w) (hb:=hb) (lv:=lv) p y t u _ h hy hl (by simpa using hn);have e:mf p y t u (parts.map λa=>T a)=hC p y t u parts:=by
  unfold mf hC;congr 1;funext x;rw[vL]
 rwa[e]at k
noncomputable def ka(sep:Str)(t:Tok)(a:Addr)(l:List Pt)(n:Nat)(r:U->Value):Tr:=⟨[],λ_=>[],λ_=>[],.call (.builtin "str.join") ⟨[.str sep t,.ref a],[]⟩,[(a,oL (vT l) n)],λx=>.ok (.ret (r x)),λ_=>[oL (vT l) n],λ_=>[]⟩
theorem l9(l:List Pt):strValues (l.map λp=>(T p.1,p.2))=vT l:=by
 unfold strValues vT;rw[MA];rfl
theorem lD{w:World}{hb:Md}{lv:Nat}(sep:Str)(t:Tok)(a:Addr)(l:List Pt)(n:Nat)(m:Made)(hl:Builtin.Str.tooLong (((l.map λp=>(T p.1,p.2)).map (·.1)).toArray.foldl (·+ ·.length+sep.length) 0)=false)(hm:joinMade sep (l.map λp=>(T p.1,p.2))=m)(hs:fJ m):af w hb lv (ka sep t a l n (k5 m)):=by
 have k:=xr (w:=w) (hb:=hb) (lv:=lv) sep t a (l.map λp=>(T p.1,p.2)) n m hl hm hs;unfold zy at k;rw[l9]at k;exact k
noncomputable def jP(l:List (List Nat)):List Nat:=(l.drop 1).foldl (λacc p=>acc++[47]++p) (l.headD [])
theorem w4(l:List (List Nat)):glued (T [47]) (l.map λa=>T a)=T (jP l):=by
 have g:∀(r:List (List Nat)) (acc:List Nat),(r.map λa=>T a).foldl (λacc p=>acc++(T [47]).cps++p.cps) (Array.mk acc)=Array.mk (r.foldl (λacc p=>acc++[47]++p) acc):=by
  intro r
  induction r with
  |nil=>intro acc;rfl
  |cons a r ih=>
   intro acc;rw[Ml,Mv,Mv,<-ih];congr 1;show Array.mk acc++Array.mk [47]++Array.mk a=Array.mk (acc++[47]++a);simp
 cases l with
 |nil=>rfl
 |cons a r=>
  show Str.mk ((r.map λa=>T a).foldl (λacc p=>acc++(T [47]).cps++p.cps) (Array.mk a))=Str.mk (Array.mk _);rw[g];rfl
noncomputable def jt(l:List Pt)(t:Tok):Tok:=match l with
 |[p]=>p.2
 |_=>t
theorem iX{w:World}{hb:Md}{lv:Nat}(t:Tok)(a:Addr)(l:List Pt)(n:Nat)(J:List Nat)(hJ:jP (l.map (·.1))=J)(hl:Builtin.Str.tooLong (((l.map λp=>(T p.1,p.2)).map (·.1)).toArray.foldl (·+ ·.length+(T [47]).length) 0)=false)(hs:J.length<=10000):
  af w hb lv (ka (T [47]) t a l n λx=>.str (T J) (jt l (x.n 0))):=by
 have hs':fJ (.str (T J)):=by show J.length<=2^24;omega
 have many:∀(l:List Pt),(l.map λp=>(T p.1,p.2)).map (·.1)=(l.map (·.1)).map λa=>T a:=by
  intro l;rw[MA,MA];rfl
 rcases l with _ |⟨p,_ |⟨q,l⟩⟩
 .exact lD _ t a [] n (.str (T J)) hl (by subst hJ;rfl) hs'
 .exact lD _ t a [p] n (.val (.str (T J) p.2)) hl (by subst hJ;rfl) trivial
 .refine lD _ t a (p::q::l) n (.str (T J)) hl ?_ hs';show Made.str (glued (T [47]) (((p::q::l).map λp=>(T p.1,p.2)).map (·.1)))=_;rw[many,w4,hJ]
noncomputable def JF(h:Ch):Nat->Tok:=λj=>[(h 1).n 0,(h 7).n 0,(h 9).n 0,(h 11).n 0,(h 17).n 0,(h 18).n 0,(h 21).n 0,(h 23).n 0,0,0,(h 13).n 3,(h 6).n 0,(h 8).n 0,(h 10).n 0,(h 13).n 1,(h 13).n 2].getD j 0
theorem e9:∀(l:List (List Nat)) (x:Xs),(fN l x).length=l.length
 |[],_=>rfl
 |s::l,x=>by
  show(fN l _).length+1=l.length+1;rw[e9 l]
theorem ki:∀(l:List (List Nat)) (x:Xs) (p:Pt),p∈fN l x->p.1∈l
 |s::l,x,p,h=>by
  rcases My.mp (show p∈(s,x 0)::fN l _ from h)with rfl |h
  .exact .head _
  .exact .tail _ (ki l _ p h)
noncomputable def eb(parts:List (List Nat))(h:Ch):List Pt:=(fN parts λi=>(h 20).n (i+1)).foldl bQ []
theorem jC{w:World}{hb:Md}{lv:Nat}(a:List Nat)(t u:Tok)(ha:((T a).length==0)=false):af w hb lv (tB "str.__add__" [.str (T a) t,.str (T []) u] λ_=>.str (T a) t):=by
 have g:=gives_str_add (T a) (T []) t u;rw[if_neg (by rw[ha];simp),if_pos (show((T []).length==0)=true from rfl)]at g;exact bg F.slot_str_add (λs=>Nb s _ t) QZ (QN _ _) g
theorem oY(q:List Nat)(t:Tok)(c0:List Nat)(ps:List (List Nat))(a:Nat)(J:List Nat)(hl:q.length<=9000)
  (hsr:∀w:World,ba w 20 (cS (T (47::q)) t (T q))) (hsp:cR (T q) (T [47])=(c0::ps).map λa=>T a) (hps:ps.length<=8000) (hpl:∀p∈c0::ps,p.length<=9000)
  (hJ:∀h,jP ((eb (c0::ps) h).map (·.1))=a::J) (hJl:J.length<=9000) (htl:∀h,Builtin.Str.tooLong ((((eb (c0::ps) h).map λp=>(T p.1,p.2)).map (·.1)).toArray.foldl (·+ ·.length+(T [47]).length) 0)=false) (w:World):
  ba w 60 (tV 143 [.str (T (47::q)) t] λx=>.str (T (47::a::J)) (x.n 0)):=
 iT (λP=>tV 143 [.str (T (47::q)) t] λx=>.str (T (47::a::J)) (x.n 0)) 0x10514510414514514510c08a08a2851451451051451451451491c71871c21c21c71c61c70870871c71871c21c21c71c61c70870871c2182186184045044145145145142082082082081045041145101141085143 (λw=>[rT 10 [] [] (tr:=λh=>tV 94 [.str (T (47::q)) t] λx=>.str (T (47::q)) t) λ_=>cv _ _,rT 0 [] [] (tr:=λh=>tL (.str (T (47::q)) t) [] (q.length+1)) λ_=>bq (47::q) _ (by simp;omega),rT 20 [] [] (tr:=λh=>cS (T (47::q)) t (T q)) λ_=>hsr w,rT 0 [] [] (tr:=λh=>hC (T q) (T [47]) ((h 13).n 3) ((h 6).n 0) (c0::ps)) λ_=>jE _ _ _ _ _ hsp rfl (by show q.length<=2^24;omega) (by show ps.length+1<=2^24;omega),rT 50 [7,0,6,5] [] (tr:=λh=>kb w.params (JF h) (T q) ((h 24).n 0+ab) ((h 0).n 0+ab) ((h 20).n 0+ab) ((h 22).n 0+ab) (vT ((c0,(h 20).n 1)::fN ps λi=>(h 20).n (i+1+1))) 0 (qp (.str (T c0) ((h 20).n 1)) (fN ps λi=>(h 20).n (i+1+1))) (vT (eb (c0::ps) h))) λh=>m9 _ _ _ _ _ _ c0 _ _ 0 (λp hp=>hpl p.1 (ki (c0::ps) (λi=>(h 20).n (i+1)) p hp)) (by rw[e9];exact hps) w,rT 0 [6] [] (tr:=λh=>ka (T [47]) ((h 6).n 0) ((h 22).n 0+ab) (eb (c0::ps) h) ((h 25).n 0) λx=>.str (T (a::J)) (jt (eb (c0::ps) h) (x.n 0))) λh=>iX _ _ _ _ _ (hJ h) (htl h) (by simp;omega),rT 0 [] [] (tr:=λh=>tB "str.__add__" [.str (T [47]) ((h 13).n 2),.str (T (a::J)) (jt (eb (c0::ps) h) ((h 27).n 0))] λy=>.str (T ([47]++a::J)) (y.n 0)) λ_=>ia 47 a [] J _ _ (by simp;omega),rT 0 [] [] (tr:=λh=>tL (.str (T (47::a::J)) ((h 28).n 0)) [] (J.length+1+1)) λ_=>bq (47::a::J) _ (by simp;omega)]) [] (λch=>ch 28) w
theorem fy(q:List Nat)(t:Tok)(c0:List Nat)(ps:List (List Nat))(hl:q.length<=9000)
  (hsr:∀w:World,ba w 20 (cS (T (47::q)) t (T q))) (hsp:cR (T q) (T [47])=(c0::ps).map λa=>T a) (hps:ps.length<=8000) (hpl:∀p∈c0::ps,p.length<=9000)
  (hJ:∀h,jP ((eb (c0::ps) h).map (·.1))=[]) (htl:∀h,Builtin.Str.tooLong ((((eb (c0::ps) h).map λp=>(T p.1,p.2)).map (·.1)).toArray.foldl (·+ ·.length+(T [47]).length) 0)=false) (w:World):
  ba w 60 (tV 143 [.str (T (47::q)) t] λx=>.str (T [47]) (x.n 0)):=
 iT (λP=>tV 143 [.str (T (47::q)) t] λx=>.str (T [47]) (x.n 0)) 0x10514510414514514510c08a08a2851451451051451451451491c71871c21c21c71c61c70870871c71871c21c21c71c61c70870871c2182186184045044145145145142082082082081045041145101141085143 (λw=>[rT 10 [] [] (tr:=λh=>tV 94 [.str (T (47::q)) t] λx=>.str (T (47::q)) t) λ_=>cv _ _,rT 0 [] [] (tr:=λh=>tL (.str (T (47::q)) t) [] (q.length+1)) λ_=>bq (47::q) _ (by simp;omega),rT 20 [] [] (tr:=λh=>cS (T (47::q)) t (T q)) λ_=>hsr w,rT 0 [] [] (tr:=λh=>hC (T q) (T [47]) ((h 13).n 3) ((h 6).n 0) (c0::ps)) λ_=>jE _ _ _ _ _ hsp rfl (by show q.length<=2^24;omega) (by show ps.length+1<=2^24;omega),rT 50 [7,0,6,5] [] (tr:=λh=>kb w.params (JF h) (T q) ((h 24).n 0+ab) ((h 0).n 0+ab) ((h 20).n 0+ab) ((h 22).n 0+ab) (vT ((c0,(h 20).n 1)::fN ps λi=>(h 20).n (i+1+1))) 0 (qp (.str (T c0) ((h 20).n 1)) (fN ps λi=>(h 20).n (i+1+1))) (vT (eb (c0::ps) h))) λh=>m9 _ _ _ _ _ _ c0 _ _ 0 (λp hp=>hpl p.1 (ki (c0::ps) (λi=>(h 20).n (i+1)) p hp)) (by rw[e9];exact hps) w,rT 0 [6] [] (tr:=λh=>ka (T [47]) ((h 6).n 0) ((h 22).n 0+ab) (eb (c0::ps) h) ((h 25).n 0) λx=>.str (T []) (jt (eb (c0::ps) h) (x.n 0))) λh=>iX _ _ _ _ _ (hJ h) (htl h) (by decide),rT 0 [] [] (tr:=λh=>tB "str.__add__" [.str (T [47]) ((h 13).n 2),.str (T []) (jt (eb (c0::ps) h) ((h 27).n 0))] λy=>.str (T [47]) ((h 13).n 2)) λ_=>jC [47] _ _ rfl,rT 0 [] [] (tr:=λh=>tL (.str (T [47]) ((h 13).n 2)) [] 1) λ_=>bq [47] _ (by decide)]) [] (λch=>⟨λ_=>(ch 13).n 2,(ch 0).u⟩) w
end
section
variable{w:World}{hb:Md}{lv:Nat}
theorem Ed(i j:Int)(t u:Tok)(b:Bool)(h:(i==j)=b):af w hb lv (tB "int.__eq__" [.int i t,.int j u] λ_=>.bool b):=by
 subst h;exact bg F.slot_int_eq (λs=>Ob s i t) F.entry_int_eq (F.args_int_eq_2 _ _) (gives_int_eq i j t u)
theorem Ee(i j:Int)(t u:Tok)(b:Bool)(h:(i != j)=b):af w hb lv (tB "int.__ne__" [.int i t,.int j u] λ_=>.bool b):=by
 subst h;exact bg F.slot_int_ne (λs=>Ob s i t) F.entry_int_ne (F.args_int_ne_2 _ _) (gives_int_ne i j t u)
theorem tZ(i j:Int)(t u:Tok)(b:Bool)(h:decide (i<j)=b):af w hb lv (tB "int.__lt__" [.int i t,.int j u] λ_=>.bool b):=by
 subst h;exact bg F.slot_int_lt (λs=>Ob s i t) F.entry_int_lt (F.args_int_lt_2 _ _) (gives_int_lt i j t u)
theorem qg(i j:Int)(t u:Tok)(b:Bool)(h:decide (i>=j)=b):af w hb lv (tB "int.__ge__" [.int i t,.int j u] λ_=>.bool b):=by
 subst h;exact bg F.slot_int_ge (λs=>Ob s i t) F.entry_int_ge (F.args_int_ge_2 _ _) (gives_int_ge i j t u)
theorem qf(i:Int)(t:Tok)(b:Bool)(h:(i != 0)=b):af w hb lv (tB "int.__bool__" [.int i t] λ_=>.bool b):=by
 subst h;exact bg F.slot_int_bool (λs=>Ob s i t) F.entry_int_bool (F.args_int_bool_1 _) (gives_int_bool i t)
end
noncomputable abbrev aY(v left:Int):Obj:={cls:=.type "range_iterator",data:=.fields #[.int v 0,.int left 0,.int 1 0]}
noncomputable def JR(it:Addr)(v left:Int):Tr:=⟨[],λ_=>[],λ_=>[],.call (.builtin "range_iterator.__next__") ⟨[.ref it],[]⟩,[(it,aY v left)],λx=>.ok (.ret (.int v (x.n 0))),λ_=>[aY (v+1) (left-1)],λ_=>[]⟩
theorem xo{w:World}{hb:Md}{lv:Nat}(it:Addr)(v left:Int)(h:decide (left<=0)=false):af w hb lv (JR it v left):=by
 refine⟨λMt os G A s R hA C H=>?_,λ_=>⟨rfl,rfl⟩⟩;have ho:=(C.own _ (.head _)).1;refine bu PK ⟨_,ho,rfl⟩ PH (PB _) (AutoRange.range_iterator___next___range_iterator_1 it v left 1 (of_decide_eq_false h)) ⟨ho,?_⟩;have C1:=C.update (i:=0) (p:=(it,aY v left)) rfl (f:=Obj.mapFields (·.setIfInBounds 0 (rawInt (v+1)))) rfl;have C2:=C1.update (i:=0) (p:=(it,(Obj.mapFields (·.setIfInBounds 0 (rawInt (v+1)))) (aY v left))) rfl (f:=Obj.mapFields (·.setIfInBounds 1 (rawInt (left-1)))) rfl;exact H (uN s.toks) _ (C2.toks _)
noncomputable def vh(it:Addr)(v left:Int):Tr:=⟨[],λ_=>[],λ_=>[],.call (.builtin "range_iterator.__next__") ⟨[.ref it],[]⟩,[(it,aY v left)],λx=>.error (.ref (x.n 1+ab)),λ_=>[aY v left],λx=>[(x.n 0+ab,aj []),(x.n 1+ab,dq (x.n 0+ab))]⟩
theorem xp{w:World}{lv:Nat}(it:Addr)(v left:Int)(h:decide (left<=0)=true):ba w lv (vh it v left):=by
 refine⟨λMt os G A s R hA C H=>?_,λ_=>⟨rfl,rfl⟩⟩;have ho:=(C.own _ (.head _)).1;refine aB PK ⟨_,ho,rfl⟩ PH (PB _) ?_;show wpAny _ _ (field (.ref it) 0>>=_) _ _ s;refine on (MM ho rfl (x:=rawInt v) rfl ?_);show wpAny _ _ (field (.ref it) 1>>=_) _ _ s;refine on (MM ho rfl (x:=rawInt left) rfl ?_);show wpAny _ _ (field (.ref it) 2>>=_) _ _ s;refine on (MM ho rfl (x:=rawInt 1) rfl ?_);show wpAny _ _ (if left<=0 then _ else _) _ _ s;rw[if_pos (of_decide_eq_true h)];refine on (NQ ?_);refine on ?_;exact fV G C (hA.2.2.1 rfl) λx s' C'=>H x s' C'
noncomputable abbrev eU(l:Addr)(i:Nat):Obj:={cls:=.type "tuple_iterator",data:=.fields #[.ref l,.int (Int.ofNat i) 0]}
noncomputable abbrev dg(i:Nat):Obj:={cls:=.type "tuple_iterator",data:=.fields #[.none,.int (Int.ofNat i) 0]}
noncomputable def Bz(it l:Addr)(i:Nat)(vs:List Value)(x:Value):Tr:=⟨[],λ_=>[],λ_=>[],.call (.builtin "tuple_iterator.__next__") ⟨[.ref it],[]⟩,[(it,eU l i),(l,aj vs)],λ_=>.ok (.ret x),λ_=>[eU l (i+1),aj vs],λ_=>[]⟩
theorem ql{w:World}{hb:Md}{lv:Nat}(it l:Addr)(i:Nat)(vs:List Value)(x:Value)(hx:vs[i]?=some x):af w hb lv (Bz it l i vs x):=by
 refine⟨λMt os G A s R hA C H=>?_,λ_=>⟨rfl,rfl⟩⟩;have ho:=(C.own _ (.head _)).1;have hol:=(C.own _ (.tail _ (.head _))).1;refine aB PL ⟨_,ho,rfl⟩ PI (PC _) ?_;show wpAny _ _ (field (.ref it) 0>>=_) _ _ s;refine on (MM ho rfl (x:=.ref l) rfl ?_);show wpAny _ _ (if(Value.ref l==Value.none)=true then _ else _) _ _ s;rw[if_neg (show ¬((Value.ref l==Value.none)=true)from MK)];show wpAny _ _ (field (.ref it) 1>>=_) _ _ s;refine on (MM ho rfl (x:=.int (Int.ofNat i) 0) rfl ?_);show wpAny _ _ (seqItems? (.ref l)>>=_) _ _ s;refine on (Nm hol rfl ?_);have hx':(Array.mk vs)[(Int.ofNat i).toNat]?=some x:=by
  show(Array.mk vs)[i]?=some x;simpa using hx
 simp only[hx'];refine on (MY ho rfl (by simp) ?_);refine Mh ?_;have C':=C.update (i:=0) (p:=(it,eU l i)) rfl (f:=Obj.mapFields (·.setIfInBounds 1 (rawInt (Int.ofNat i+1)))) rfl;exact H u0 _ C'
noncomputable def px(it l:Addr)(i:Nat)(vs:List Value):Tr:=⟨[],λ_=>[],λ_=>[],.call (.builtin "tuple_iterator.__next__") ⟨[.ref it],[]⟩,[(it,eU l i),(l,aj vs)],λx=>.error (.ref (x.n 1+ab)),λ_=>[dg i,aj vs],λx=>[(x.n 0+ab,aj []),(x.n 1+ab,dq (x.n 0+ab))]⟩
theorem qm{w:World}{lv:Nat}(it l:Addr)(i:Nat)(vs:List Value)(hx:vs[i]?=none):ba w lv (px it l i vs):=by
 refine⟨λMt os G A s R hA C H=>?_,λ_=>⟨rfl,rfl⟩⟩;have ho:=(C.own _ (.head _)).1;have hol:=(C.own _ (.tail _ (.head _))).1;refine aB PL ⟨_,ho,rfl⟩ PI (PC _) ?_;show wpAny _ _ (field (.ref it) 0>>=_) _ _ s;refine on (MM ho rfl (x:=.ref l) rfl ?_);show wpAny _ _ (if(Value.ref l==Value.none)=true then _ else _) _ _ s;rw[if_neg (show ¬((Value.ref l==Value.none)=true)from MK)];show wpAny _ _ (field (.ref it) 1>>=_) _ _ s;refine on (MM ho rfl (x:=.int (Int.ofNat i) 0) rfl ?_);show wpAny _ _ (seqItems? (.ref l)>>=_) _ _ s;refine on (Nm hol rfl ?_);have hx':(Array.mk vs)[(Int.ofNat i).toNat]?=none:=by
  show(Array.mk vs)[i]?=none;simpa using hx
 simp only[hx'];refine on (NQ (on (MY ho rfl (by simp) ?_)));have C1:=C.update (i:=0) (p:=(it,eU l i)) rfl (f:=Obj.mapFields (·.setIfInBounds 0 .none)) rfl;exact fV G C1 (hA.2.2.1 rfl) λx s' C'=>H x s' C'
section
noncomputable abbrev oD(es:List DictEntry)(n:Nat):Obj:={cls:=.type "dict",data:=.dict ⟨es⟩ n}
noncomputable abbrev KV:=(List Nat×Tok)×Value
noncomputable def hS(P:Params)(x:Str):Int:=if x.cps.isEmpty=true then 0 else reduceHash (P.strHash x.cps)
noncomputable def eS(P:Params)(kvs:List KV):List DictEntry:=kvs.map λp=>⟨hS P (T p.1.1),.str (T p.1.1) p.1.2,p.2⟩
noncomputable def lk(kvs:List KV)(k:List Nat):Option Value:=(kvs.find? λp=>p.1.1==k).map (·.2)
noncomputable abbrev KI:=(Int×Tok)×Value
noncomputable def eI(kvs:List KI):List DictEntry:=kvs.map λp=>⟨hashInt p.1.1,.int p.1.1 p.1.2,p.2⟩
noncomputable def uy(kvs:List KI)(k:Int):Option Value:=(kvs.find? λp=>p.1.1==k).map (·.2)
theorem yC{a b:List Nat}:T a=T b↔a=b:=⟨λh=>by injection h with h;injection h,λh=>by rw[h]⟩
theorem p7(a b:List Nat)(t:Tok):Value.isStrOf (T a) (.str (T b) t)=(b==a):=by
 show(T b==T a)=(b==a)
 by_cases h:b=a
 .subst h;simp
 .rw[beq_eq_false_iff_ne.mpr h,beq_eq_false_iff_ne.mpr λe=>h (yC.mp e)]
theorem qo(w:World)(kvs:List KV):KeysOf (strKind pw w) ⟨eS w.params kvs⟩:=by
 intro e he;have he':e∈eS w.params kvs:=by simpa using he
 obtain⟨p,hp,rfl⟩:=ML.mp he';exact⟨T p.1.1,NZ _ _ _ _,rfl⟩
theorem zd(w:World)(kvs:List KI):KeysOf (intKind pw w) ⟨eI kvs⟩:=by
 intro e he;have he':e∈eI kvs:=by simpa using he
 obtain⟨p,hp,rfl⟩:=ML.mp he';exact⟨p.1.1,QD _ _ _ _,rfl⟩
theorem w7(w:World)(kvs:List KV)(k:List Nat):((Array.mk (eS w.params kvs)).findIdx? λe=>(strKind pw w).is (T k) e.key)=kvs.findIdx? λp=>p.1.1==k:=by
 have e:∀(l:List DictEntry) (p:DictEntry->Bool),(Array.mk l).findIdx? p=l.findIdx? p:=λl p=>by simp
 rw[e];unfold eS;rw[QH];congr 1;funext p;exact p7 k p.1.1 p.1.2
theorem DZ(w:World)(kvs:List KI)(k:Int):((Array.mk (eI kvs)).findIdx? λe=>(intKind pw w).is k e.key)=kvs.findIdx? λp=>p.1.1==k:=by
 have e:∀(l:List DictEntry) (p:DictEntry->Bool),(Array.mk l).findIdx? p=l.findIdx? p:=λl p=>by simp
 rw[e];unfold eI;rw[QH];rfl
theorem d0{α:Type}(p:α->Bool):∀l:List α,l.find? p=(l.findIdx? p).bind (l[·]?)
 |[]=>rfl
 |a::l=>by
  rw[Nq,List.findIdx?_cons];cases h:p a with
  |true=>simp
  |false=>
   simp only[M7,if_false];rw[d0 p l];cases l.findIdx? p<;>simp
section
variable{w:World}{A:Around}{E:Value->Shared->Prop}{s:Shared}{d:Addr}{n:Nat}
theorem jd{kvs:List KV}{k:List Nat}{t:Tok}{Q:Option Value->Shared->Prop}(ho:s.heap.get? d=some (oD (eS w.params kvs) n))(h:Q (lk kvs k) {s with toks:=s.toks+1}):wpAny (model pw w) A (dictGet d (.str (T k) t)) Q E s:=by
 have hkey:(strKind pw w).is (T k) (.str (T k) t)=true:=NZ _ _ _ _;unfold dictGet
 try with_reducible refine MX ?_
 refine on ((strKind pw w).pyHash hkey (on (NN (s:={s with toks:=s.toks+1}) hkey ho rfl (qo w kvs) ?_)));rw[w7];unfold lk at h;rw[d0]at h;cases hi:kvs.findIdx? λp=>p.1.1==k with
 |none=>rw[hi]at h;exact Mh h
 |some i=>
  rw[hi]at h;refine on (Nu (s:={s with toks:=s.toks+1}) ho rfl (Mh ?_));have e:((Array.mk (eS w.params kvs))[i]?).map (·.val)=(kvs[i]?).map (·.2):=by
   rw[NK];unfold eS;rw[Mf];cases kvs[i]?<;>rfl
  rw[e];exact h
theorem yw{kvs:List KI}{k:Int}{t:Tok}{Q:Option Value->Shared->Prop}(ho:s.heap.get? d=some (oD (eI kvs) n))(h:Q (uy kvs k) {s with toks:=s.toks+1}):wpAny (model pw w) A (dictGet d (.int k t)) Q E s:=by
 have hkey:(intKind pw w).is k (.int k t)=true:=QD _ _ _ _;unfold dictGet
 try with_reducible refine MX ?_
 refine on ((intKind pw w).pyHash hkey (on (NN (s:={s with toks:=s.toks+1}) hkey ho rfl (zd w kvs) ?_)));rw[DZ];unfold uy at h;rw[d0]at h;cases hi:kvs.findIdx? λp=>p.1.1==k with
 |none=>rw[hi]at h;exact Mh h
 |some i=>
  rw[hi]at h;refine on (Nu (s:={s with toks:=s.toks+1}) ho rfl (Mh ?_));have e:((Array.mk (eI kvs))[i]?).map (·.val)=(kvs[i]?).map (·.2):=by
   rw[NK];unfold eI;rw[Mf];cases kvs[i]?<;>rfl
  rw[e];exact h
end
theorem jQ{w:World}{Mt:Heap}{os:OsState}{M:ah}{s:Shared}(G:Gr w Mt)(C:am Mt os M s){p:Addr×Obj}(hp:p∈M):(p.1==sysModules)=false:=by
 refine beq_eq_false_iff_ne.mpr λe=>?_
 have h1:=(C.own p hp).2;have:(dM w.params sysModules).isSome=true:=by kernel_rfl
 obtain⟨o,ho⟩:=Oq.mp this;rw[e,dB G ho]at h1;cases h1
noncomputable def JL(d:Addr)(es:List DictEntry)(n:Nat)(key:Value)(rest:List Value)(v:Value):Tr:=⟨[],λ_=>[],λ_=>[],.call (.builtin "dict.get") ⟨.ref d::key::rest,[]⟩,[(d,oD es n)],λ_=>.ok (.ret v),λ_=>[oD es n],λ_=>[]⟩
section
variable{w:World}{hb:Md}{lv:Nat}(d:Addr)(n:Nat)
theorem ff(kvs:List KV)(k:List Nat)(t:Tok)(r:Option Value)(h:lk kvs k=r):af w hb lv (JL d (eS w.params kvs) n (.str (T k) t) [] (r.getD .none)):=by
 refine⟨λMt os G A s R hA C H=>?_,λ_=>⟨rfl,rfl⟩⟩;have ho:=(C.own _ (.head _)).1;have hd:=jQ G C (.head _);refine aB Q6 ⟨_,ho,rfl⟩ Pn (F.args_dict_get_2 _ _) ?_;show wpAny _ _ (dictGet d (.str (T k) t)>>=_) _ _ s;refine on (jd ho ?_);rw[h];have C':=C.toks (s.toks+1);cases r with
 |some v=>exact Mh (H u0 _ C')
 |none=>
  show wpAny _ _ (Builtin.Dict.missed d _>>=_) _ _ _;exact on (O7 hd (Mh (H u0 _ C')))
theorem eC(kvs:List KV)(k:List Nat)(t:Tok)(dv:Value)(r:Option Value)(h:lk kvs k=r):af w hb lv (JL d (eS w.params kvs) n (.str (T k) t) [dv] (r.getD dv)):=by
 refine⟨λMt os G A s R hA C H=>?_,λ_=>⟨rfl,rfl⟩⟩;have ho:=(C.own _ (.head _)).1;have hd:=jQ G C (.head _);refine aB Q6 ⟨_,ho,rfl⟩ Pn (F.args_dict_get_3 _ _ _) ?_;show wpAny _ _ (dictGet d (.str (T k) t)>>=_) _ _ s;refine on (jd ho ?_);rw[h];have C':=C.toks (s.toks+1);cases r with
 |some v=>exact Mh (H u0 _ C')
 |none=>
  show wpAny _ _ (Builtin.Dict.missed d _>>=_) _ _ _;exact on (O7 hd (Mh (H u0 _ C')))
end
noncomputable def JM(d:Addr)(es:List DictEntry)(n:Nat)(key:Value)(v:Value):Tr:=⟨[],λ_=>[],λ_=>[],.call (.builtin "dict.__getitem__") ⟨[.ref d,key],[]⟩,[(d,oD es n)],λ_=>.ok (.ret v),λ_=>[oD es n],λ_=>[]⟩
theorem fg{w:World}{hb:Md}{lv:Nat}(d:Addr)(n:Nat)(kvs:List KV)(k:List Nat)(t:Tok)(v:Value)(h:lk kvs k=some v):af w hb lv (JM d (eS w.params kvs) n (.str (T k) t) v):=by
 refine⟨λMt os G A s R hA C H=>?_,λ_=>⟨rfl,rfl⟩⟩;have ho:=(C.own _ (.head _)).1;refine aB PySem.slot_dict_getitem ⟨_,ho,rfl⟩ PySem.entry_dict_getitem (PySem.args_dict_getitem _ _) ?_;show wpAny _ _ (dictGet d (.str (T k) t)>>=_) _ _ s;refine on (jd ho ?_);rw[h];exact Mh (H u0 _ (C.toks (s.toks+1)))
noncomputable def JK(d:Addr)(es:List DictEntry)(n:Nat)(key:Value)(b:Bool):Tr:=⟨[],λ_=>[],λ_=>[],.call (.builtin "dict.__contains__") ⟨[.ref d,key],[]⟩,[(d,oD es n)],λ_=>.ok (.ret (.bool b)),λ_=>[oD es n],λ_=>[]⟩
theorem AK{w:World}{hb:Md}{lv:Nat}(d:Addr)(n:Nat)(kvs:List KV)(k:List Nat)(t:Tok)(b:Bool)(h:(lk kvs k).isSome=b):af w hb lv (JK d (eS w.params kvs) n (.str (T k) t) b):=by
 refine⟨λMt os G A s R hA C H=>?_,λ_=>⟨rfl,rfl⟩⟩;have ho:=(C.own _ (.head _)).1;have hd:=jQ G C (.head _);refine aB PySem.slot_dict_contains ⟨_,ho,rfl⟩ PySem.entry_dict_contains (PySem.args_dict_contains _ _) ?_;show wpAny _ _ (dictGet d (.str (T k) t)>>=_) _ _ s;refine on (jd ho ?_);have C':=C.toks (s.toks+1);subst h;cases q:lk kvs k with
 |some v=>rw[q]at H;exact Mh (H u0 _ C')
 |none=>
  rw[q]at H;show wpAny _ _ (Builtin.Dict.pendingKey? d _>>=_) _ _ _;exact on (wpAny_pendingKey_other hd (Mh (H u0 _ C')))
noncomputable def FP(d:Addr)(es:List DictEntry)(n:Nat)(key v:Value)(es':List DictEntry)(n':Nat):Tr:=⟨[],λ_=>[],λ_=>[],.call (.builtin "dict.__setitem__") ⟨[.ref d,key,v],[]⟩,[(d,oD es n)],λ_=>.ok (.ret .none),λ_=>[oD es' n'],λ_=>[]⟩
theorem ie(es:List DictEntry)(n:Nat)(e:DictEntry):Obj.mapDictKeys (·.push e) (oD es n)=oD (es++[e]) (n+1):=by
 show(⟨_,_,.dict ((Array.mk es).push e) (n+1),_⟩:Obj)=_;have h1:(Array.mk es).push e=Array.mk (es++[e]):=by simp
 rw[h1]
section
variable{w:World}{hb:Md}{lv:Nat}(d:Addr)(n:Nat)
theorem tU(kvs:List KV)(k:List Nat)(t:Tok)(v:Value)(h:lk kvs k=none)(hz:kvs.length<=10000):af w hb lv (FP d (eS w.params kvs) n (.str (T k) t) v (eS w.params (kvs++[((k,t),v)])) (n+1)):=by
 refine⟨λMt os G A s R hA C H=>?_,λ_=>⟨rfl,rfl⟩⟩;have ho:=(C.own _ (.head _)).1;have hkey:(strKind pw w).is (T k) (.str (T k) t)=true:=NZ _ _ _ _;refine aB P7 ⟨_,ho,rfl⟩ PY (P8 _ _ _) ?_;show wpAny _ _ (Builtin.Dict.notOrdered "__setitem__" ⟨[.ref d,_,v],[]⟩>>=_) _ _ s;refine on (Oa ⟨_,ho,rfl⟩ ?_);show wpAny _ _ (dictSet d _ v>>=_) _ _ s;refine on ?_;unfold dictSet
 try with_reducible refine MX ?_
 refine on ((strKind pw w).pyHash hkey ?_);unfold dictSetHashed
 try with_reducible refine MX ?_
 refine on (NN (s:={s with toks:=s.toks+1}) hkey ho rfl (qo w kvs) ?_);rw[w7];have hn:(kvs.findIdx? λp=>p.1.1==k)=none:=by
  unfold lk at h;rw[d0]at h;cases q:kvs.findIdx? λp=>p.1.1==k with
  |none=>rfl
  |some i=>
   rw[q]at h;obtain⟨hlt,_⟩:=No.mp q;simp[hlt]at h
 rw[hn];have hsz:(Array.mk (eS w.params kvs)).size<=sizeLine:=by
  show(eS w.params kvs).length<=2^24;unfold eS;rw[Mc];omega
 refine on (NQ (Oc (hz:=hsz) (s:={s with toks:=s.toks+1}) ho rfl ?_));have C':=(C.toks (s.toks+1)).update (i:=0) (p:=(d,oD (eS w.params kvs) n)) rfl (f:=Obj.mapDictKeys (·.push ⟨(strKind pw w).hash (T k),.str (T k) t,v⟩)) rfl;refine Mh (H u0 _ ?_);show am Mt os [(d,oD (eS w.params (kvs++[((k,t),v)])) (n+1))] _;have e:eS w.params (kvs++[((k,t),v)])=eS w.params kvs++[⟨(strKind pw w).hash (T k),.str (T k) t,v⟩]:=by
  unfold eS;rw[Mi];rfl
 rw[e,<-ie];exact C'
theorem xh(kvs:List KI)(k:Int)(t:Tok)(v:Value)(h:uy kvs k=none)(hz:kvs.length<=10000):af w hb lv (FP d (eI kvs) n (.int k t) v (eI (kvs++[((k,t),v)])) (n+1)):=by
 refine⟨λMt os G A s R hA C H=>?_,λ_=>⟨rfl,rfl⟩⟩;have ho:=(C.own _ (.head _)).1;have hkey:(intKind pw w).is k (.int k t)=true:=QD _ _ _ _;refine aB P7 ⟨_,ho,rfl⟩ PY (P8 _ _ _) ?_;show wpAny _ _ (Builtin.Dict.notOrdered "__setitem__" ⟨[.ref d,_,v],[]⟩>>=_) _ _ s;refine on (Oa ⟨_,ho,rfl⟩ ?_);show wpAny _ _ (dictSet d _ v>>=_) _ _ s;refine on ?_;unfold dictSet
 try with_reducible refine MX ?_
 refine on ((intKind pw w).pyHash hkey ?_);unfold dictSetHashed
 try with_reducible refine MX ?_
 refine on (NN (s:={s with toks:=s.toks+1}) hkey ho rfl (zd w kvs) ?_);rw[DZ];have hn:(kvs.findIdx? λp=>p.1.1==k)=none:=by
  unfold uy at h;rw[d0]at h;cases q:kvs.findIdx? λp=>p.1.1==k with
  |none=>rfl
  |some i=>
   rw[q]at h;obtain⟨hlt,_⟩:=No.mp q;simp[hlt]at h
 rw[hn];have hsz:(Array.mk (eI kvs)).size<=sizeLine:=by
  show(eI kvs).length<=2^24;unfold eI;rw[Mc];omega
 refine on (NQ (Oc (hz:=hsz) (s:={s with toks:=s.toks+1}) ho rfl ?_));have C':=(C.toks (s.toks+1)).update (i:=0) (p:=(d,oD (eI kvs) n)) rfl (f:=Obj.mapDictKeys (·.push ⟨(intKind pw w).hash k,.int k t,v⟩)) rfl;refine Mh (H u0 _ ?_);show am Mt os [(d,oD (eI (kvs++[((k,t),v)])) (n+1))] _;have e:eI (kvs++[((k,t),v)])=eI kvs++[⟨(intKind pw w).hash k,.int k t,v⟩]:=by
  unfold eI;rw[Mi];rfl
 rw[e,<-ie];exact C'
end
end
section
theorem n9{σ:Type}(s:σ)(n:Nat->Nat):∃u:U,u.n=n/\∀d,u.u σ d=s:=by
 classical
 refine⟨⟨n,λτ d=>if h:τ=σ then h▸s else d⟩,rfl,λd=>?_⟩;simp
noncomputable def bK(P:Params)(o:Obj)(ss:List (List Nat)):Prop:=o.ExactSet/\gc λes ep t=>o.data=.set es ep t/\(∀e∈es.toList,et λy tk=>e=(hS P (T y),.str (T y) tk)/\y∈ss)/\(∀y∈ss,∃e∈es.toList,∃tk,e.2=.str (T y) tk)/\es.size<=ss.length/\es.size<scanBound/\t.fits es.size=true
noncomputable def uC(P:Params)(ss:List (List Nat)):Obj:={cls:=.type "set",data:=.set ⟨ss.map λy=>(hS P (T y),.str (T y) 0)⟩ 0 ⟨ss.length,⟨List.replicate ss.length 0⟩, #[],0,true,0,true⟩}
theorem mZ(P:Params)(ss:List (List Nat))(h:ss.length<4096):bK P (uC P ss) ss:=by
 refine⟨⟨rfl,rfl,rfl⟩,_,_,_,rfl,λe he=>?_,λy hy=>?_,?_,?_,?_⟩
 .obtain⟨y,hy,rfl⟩:=ML.mp he;exact⟨y,0,rfl,hy⟩
 .exact⟨_,ML.mpr ⟨y,hy,rfl⟩,0,rfl⟩
 .show(ss.map _).length<=_;rw[Mc];exact Me _
 .show(ss.map _).length<4096;rw[Mc];exact h
 .show((List.replicate ss.length 0).length==(ss.map _).length&&decide ((List.replicate ss.length 0).length+0<=ss.length))=true;simp
theorem zx(x:Str):∃l,x=T l:=⟨x.cps.toList,by cases x with |mk c=>cases c;rfl⟩
theorem bK.of{w:World}{o:Obj}{ss:List (List Nat)}(h:bK w.params o ss){s:Shared}{a:Addr}(ho:s.heap.get? a=some o):∃n,n<=ss.length/\n<scanBound/\s.heap.SetOf (strKind pw w) a (λk=>ss.contains k.cps.toList) n:=by
 obtain⟨h1,es,ep,t,hd,h2,h3,h4,h5,h6⟩:=h;refine⟨es.size,h4,h5,o,es,ep,t,ho,h1,hd,λe he=>?_,λk=>?_,h5,h6,rfl⟩
 .obtain⟨y,tk,rfl,_⟩:=h2 e he;exact⟨⟨T y,NZ _ _ _ _,rfl⟩,rfl⟩
 .obtain⟨l,rfl⟩:=zx k;constructor
  .intro hc;obtain⟨e,he,tk,e2⟩:=h3 l (by simpa using hc);exact⟨e,he,by rw[e2];exact NZ _ _ _ _⟩
  .rintro⟨e,he,hk⟩;obtain⟨y,tk,rfl,hy⟩:=h2 e he;have:=p7 l y tk;have hk':Value.isStrOf (T l) (.str (T y) tk)=true:=hk;rw[this]at hk';have:y=l:=by simpa using hk'
   subst this;simpa using hy
theorem bK.back{w:World}{h:Heap}{a:Addr}{S:Str->Bool}{n:Nat}{ss:List (List Nat)}(hs:h.SetOf (strKind pw w) a S n)(hS:∀y,S (T y)=true↔y∈ss)(hn:n<=ss.length):∃o,h.get? a=some o/\bK w.params o ss:=by
 obtain⟨o,es,ep,t,ho,h1,hd,h2,h3,h4,h5,rfl⟩:=hs;refine⟨o,ho,h1,es,ep,t,hd,λe he=>?_,λy hy=>?_,hn,h4,h5⟩
 .obtain⟨⟨k,hk,hh⟩,_⟩:=h2 e he;obtain⟨l,rfl⟩:=zx k;obtain⟨tk,h7⟩:=Qw (show Value.isStrOf (T l) e.2=true from hk);refine⟨l,tk,?_,(hS l).mp ((h3 _).mpr ⟨e,he,hk⟩)⟩;obtain⟨e1,e2⟩:=e;simp only at hh h7;subst h7;rw[hh];rfl
 .obtain⟨e,he,hk⟩:=(h3 _).mp ((hS y).mpr hy);obtain⟨tk,h7⟩:=Qw (show Value.isStrOf (T y) e.2=true from hk);exact⟨e,he,tk,h7⟩
noncomputable abbrev aL(d:Data):Obj:={cls:=.type "set",data:=d}
open Classical in
noncomputable def nK(P:Params)(ss:List (List Nat))(u:U):Data:=if bK P (aL (u.u Data default)) ss then u.u Data default else(uC P ss).data
theorem yj(P:Params)(ss:List (List Nat))(u:U)(h:ss.length<4096):bK P (aL (nK P ss u)) ss:=by
 unfold nK;split
 .assumption
 .exact mZ P ss h
theorem rC(P:Params)(led:Bool):bK P (aL (.set #[] 0 (.fresh 0 0 led))) []:=⟨⟨rfl,rfl,rfl⟩,_,_,_,rfl,λe he=>by simp at he,λy hy=>(nomatch hy),Me _,by decide,rfl⟩
theorem am.same{Mt:Heap}{os:OsState}{M:ah}{s:Shared}(C:am Mt os M s){i:Nat}{p:Addr×Obj}(e:M[i]?=some p){h':Heap}{o:Obj}(hs:Heap.SameBut p.1 s.heap h')(ho:h'.get? p.1=some o):
  am Mt os (M.set i (p.1,o)) {s with heap:=h'}:=by
 have hm:p∈M:=ME e;refine⟨λb o' e'=>?_,λq hq=>?_,?_,C.gens,C.os⟩
 .refine(hs.2 b λz=>?_).trans (C.keep b o' e');rw[z,(C.own p hm).2]at e';cases e'
 .obtain⟨j,hj⟩:=OH.mp hq;rw[Ok]at hj
  by_cases h:i=j
  .subst h;have hl:i<M.length:=(Mj.mp e).1;simp only[hl,if_true]at hj;cases hj;exact⟨ho,(C.own p hm).2⟩
  .simp only[h,if_false]at hj;have hq':q∈M:=ME hj;have ne:q.1≠p.1:=by
    intro z;have h1:(M.map (·.1))[j]?=some q.1:=by rw[Mf,hj];rfl
    have h2:(M.map (·.1))[i]?=some p.1:=by rw[Mf,e];rfl
    have hli:i<(M.map (·.1)).length:=(Mj.mp h2).1;have:=(Pc hli C.nd).mp (h2.trans (z▸h1.symm));exact h this
   exact⟨(hs.2 q.1 ne).trans (C.own q hq').1,(C.own q hq').2⟩
 .rw[iG e];exact C.nd
noncomputable def BX(a:Addr)(sd:Data)(y:List Nat)(t:Tok)(b:Bool):Tr:=⟨[],λ_=>[],λ_=>[],.call (.builtin "set.__contains__") ⟨[.ref a,.str (T y) t],[]⟩,[(a,aL sd)],λ_=>.ok (.ret (.bool b)),λ_=>[aL sd],λ_=>[]⟩
section
variable{w:World}{hb:Md}{lv:Nat}
theorem jD(a:Addr)(sd:Data)(ss:List (List Nat))(y:List Nat)(t:Tok)(b:Bool)(hs:bK w.params (aL sd) ss)(h:ss.contains y=b):af w hb lv (BX a sd y t b):=by
 refine⟨λMt os G A s R hA C H=>?_,λ_=>⟨rfl,rfl⟩⟩;have ho:=(C.own _ (.head _)).1;obtain⟨n,_,_,hS⟩:=hs.of ho;refine aB F.slot_set_contains hS.typeIs entry_set_contains (F.args_set_contains_2 _ _) ?_;have hkey:(strKind pw w).is (T y) (.str (T y) t)=true:=NZ _ _ _ _;unfold Builtin.«frozenset.__contains__» Builtin.Frozenset.oneOther;simp only[QQ,bind_assoc];unfold Builtin.Frozenset.addrOf Builtin.Frozenset.withSetAsKey setContains;refine on (Mh ?_)
 try dsimp only
 refine on (Mh ?_)
 try dsimp only
 refine on (wpAny_tryCatch ?_);refine MX ?_;refine on ((strKind pw w).pyHash hkey ?_);refine on (wpAny_setFind_of (s:={s with toks:=s.toks+1}) hkey rfl hS λr hr=>?_);refine Mh ?_;show wpAny _ _ (ret (Value.bool r.isSome)) _ _ _;rw[hr];subst h;exact Mh (H u0 _ (C.toks _))
end
noncomputable def zB(P:Params)(a:Addr)(sd:Data)(y:List Nat)(t:Tok)(ss:List (List Nat)):Tr:=⟨[],λ_=>[],λ_=>[],.call (.builtin "set.add") ⟨[.ref a,.str (T y) t],[]⟩,[(a,aL sd)],λ_=>.ok (.ret .none),λu=>[aL (nK P (y::ss) u)],λ_=>[]⟩
theorem xq{w:World}{hb:Md}{lv:Nat}(a:Addr)(sd:Data)(ss:List (List Nat))(y:List Nat)(t:Tok)(hs:bK w.params (aL sd) ss)(hl:ss.length<=1000):af w hb lv (zB w.params a sd y t ss):=by
 refine⟨λMt os G A s R hA C H=>?_,λ_=>⟨rfl,rfl⟩⟩;have ho:=(C.own _ (.head _)).1;obtain⟨n,hn,_,hS⟩:=hs.of ho;have hkey:(strKind pw w).is (T y) (.str (T y) t)=true:=NZ _ _ _ _;refine aB F.slot_set_add hS.typeIs F.entry_set_add (F.args_set_add_2 _ _) ?_;unfold Builtin.«set.add» Builtin.Frozenset.oneOther;simp only[QQ,bind_assoc];unfold Builtin.Frozenset.addrOf setAdd;refine on (Mh ?_)
 try dsimp only
 refine on (Mh ?_)
 try dsimp only
 refine on ?_;refine MX ?_;refine on ((strKind pw w).pyHash hkey ?_);refine wpAny_setAddHashed_of (s:={s with toks:=s.toks+1}) hkey rfl hS (Nat.lt_of_le_of_lt (QR (M4 hn hl)) (by decide)) λh' hsb hS'=>?_
 show wpAny _ _ (ret Value.none) _ _ _;have hS2:∀z,(λk':Str=>ss.contains k'.cps.toList||decide (k'=T y)) (T z)=true↔z∈y::ss:=λz=>by
  show(ss.contains z||decide (T z=T y))=true↔_;rw[Q7,decide_eq_true_iff,yC,My];simp only[OJ];exact Or.comm
 obtain⟨o',ho',hs'⟩:=bK.back hS' hS2 (by
  show(if _ then n else n+1)<=ss.length+1;split
  .exact Pd hn
  .exact QR hn)
 have C':=(C.toks (s.toks+1)).same (i:=0) (p:=(a,aL sd)) rfl hsb ho';obtain⟨u,_,hu⟩:=n9 o'.data (λ_=>0);have eo:o'=aL o'.data:=by
  obtain⟨⟨h1,h2,h3⟩,_⟩:=hs';obtain⟨c,d,dt,sl⟩:=o';simp only at h1 h2 h3;subst h1 h2 h3;rfl
 have e:aL (nK w.params (y::ss) u)=o':=by
  unfold nK;rw[hu,if_pos (by rw[<-eo];exact hs'),<-eo]
 refine Mh (H u _ ?_);show am Mt os [(a,aL (nK w.params (y::ss) u))] _;rw[e];exact C'
noncomputable abbrev qC(d:Addr)(i sz ep:Nat):Obj:={cls:=.type "dict_keyiterator",data:=.fields #[.ref d,.int (Int.ofNat i) 0,.int (Int.ofNat sz) 0,.int (Int.ofNat ep) 0]}
noncomputable abbrev lO(i sz ep:Nat):Obj:={cls:=.type "dict_keyiterator",data:=.fields #[.none,.int (Int.ofNat i) 0,.int (Int.ofNat sz) 0,.int (Int.ofNat ep) 0]}
noncomputable abbrev kR(d:Addr)(i sz ep:Nat):Obj:={cls:=.type "dict_valueiterator",data:=.fields #[.ref d,.int (Int.ofNat i) 0,.int (Int.ofNat sz) 0,.int (Int.ofNat ep) 0]}
noncomputable abbrev jL(i sz ep:Nat):Obj:={cls:=.type "dict_valueiterator",data:=.fields #[.none,.int (Int.ofNat i) 0,.int (Int.ofNat sz) 0,.int (Int.ofNat ep) 0]}
noncomputable def FQ(it d:Addr)(es:List DictEntry)(n i sz:Nat)(v:Value):Tr:=⟨[],λ_=>[],λ_=>[],.call (.builtin "dict_keyiterator.__next__") ⟨[.ref it],[]⟩,[(it,qC d i sz n),(d,oD es n)],λ_=>.ok (.ret v),λ_=>[qC d (i+1) sz n,oD es n],λ_=>[]⟩
noncomputable def L9(it d:Addr)(es:List DictEntry)(n i sz:Nat)(v:Value):Tr:=⟨[],λ_=>[],λ_=>[],.call (.builtin "dict_valueiterator.__next__") ⟨[.ref it],[]⟩,[(it,kR d i sz n),(d,oD es n)],λ_=>.ok (.ret v),λ_=>[kR d (i+1) sz n,oD es n],λ_=>[]⟩
noncomputable def Bx(it d:Addr)(es:List DictEntry)(n i sz:Nat):Tr:=⟨[],λ_=>[],λ_=>[],.call (.builtin "dict_keyiterator.__next__") ⟨[.ref it],[]⟩,[(it,qC d i sz n),(d,oD es n)],λx=>.error (.ref (x.n 1+ab)),λ_=>[lO i sz n,oD es n],λx=>[(x.n 0+ab,aj []),(x.n 1+ab,dq (x.n 0+ab))]⟩
noncomputable def BA(it d:Addr)(es:List DictEntry)(n i sz:Nat):Tr:=⟨[],λ_=>[],λ_=>[],.call (.builtin "dict_valueiterator.__next__") ⟨[.ref it],[]⟩,[(it,kR d i sz n),(d,oD es n)],λx=>.error (.ref (x.n 1+ab)),λ_=>[jL i sz n,oD es n],λx=>[(x.n 0+ab,aj []),(x.n 1+ab,dq (x.n 0+ab))]⟩
section
variable{w:World}{hb:Md}{lv:Nat}(it d:Addr)(n i sz:Nat)
theorem eK(P:Params)(kvs:List KV):(eS P kvs).length=kvs.length:=Mc _
theorem oE(P:Params){kvs:List KV}{i:Nat}{p:KV}(h:kvs[i]?=some p):(Array.mk (eS P kvs))[i]?=some ⟨hS P (T p.1.1),.str (T p.1.1) p.1.2,p.2⟩:=by
 rw[NK];unfold eS;rw[Mf,h];rfl
theorem lE(kvs:List KV)(y:List Nat)(t:Tok)(v:Value)(hz:kvs.length=sz)(hx:kvs[i]?=some ((y,t),v)):af w hb lv (FQ it d (eS w.params kvs) n i sz (.str (T y) t)):=by
 refine⟨λMt os G A s R hA C H=>?_,λ_=>⟨rfl,rfl⟩⟩;have ho:=(C.own _ (.head _)).1;have hod:=(C.own _ (.tail _ (.head _))).1;have hT:s.TypeIs (.ref it) "dict_keyiterator":=⟨_,ho,rfl⟩;refine aB PD hT PA (Po _) ?_;refine on (Mh ?_);refine on ?_;refine on ?_
 first |refine on (Ny hT (Mh ?_)) |refine on (NX hT (Mh ?_))
 refine on (OM ho rfl ?_);have hown:Builtin.Dict_items.ownsTuple "dict_keyiterator"=false:=by decide
 rw[hown];show wpAny _ _ (if(Value.ref d==Value.none)=true then _ else _) _ _ s;rw[if_neg (show ¬((Value.ref d==Value.none)=true)from MK)];refine on (Mh ?_);refine on (Nu hod rfl ?_);have hsz:((Array.mk (eS w.params kvs)).size:Int)=Int.ofNat sz:=by show Int.ofNat (eS w.params kvs).length=_;rw[eK,hz]
 rw[if_neg (by rw[hsz];simp)];refine on (Mh ?_);refine on (OE hod rfl ?_);rw[if_neg (by simp)];refine Mh ?_;have hg:=oE w.params hx;have h0:¬(Int.ofNat i<0):=by show ¬((i:Int)<0);omega
 have h1:(Int.ofNat i).toNat=i:=rfl;simp only[h0,if_false,h1,hg];refine on ?_
 first |refine on (Ny hT (Mh ?_)) |refine on (NX hT (Mh ?_))
 refine on (Qf hT ?_);show wpAny _ _ (setField (.ref it) 1 (rawInt (Int.ofNat i+1))>>=_) _ _ s;refine on (MY ho rfl (by simp) ?_);have C':=C.update (i:=0) (p:=(it,qC d i sz n)) rfl (f:=Obj.mapFields (·.setIfInBounds 1 (rawInt (Int.ofNat i+1)))) rfl;have hT':Shared.TypeIs {s with heap:=s.heap.update it (Obj.mapFields (·.setIfInBounds 1 (rawInt (Int.ofNat i+1))))} (.ref it) "dict_keyiterator":=⟨_,(C'.own _ (.head _)).1,rfl⟩;refine on (MX ?_);refine on (Qf (s:={s with heap:=s.heap.update it (Obj.mapFields (·.setIfInBounds 1 (rawInt (Int.ofNat i+1))))}) hT' ?_);show wpAny _ _ (pure (Value.str (T y) t)) _ _ _;exact Mh (Mh (H u0 _ C'))
theorem xl(lv:Nat)(kvs:List KV)(hz:kvs.length=sz)(hx:kvs[i]?=none):ba w lv (Bx it d (eS w.params kvs) n i sz):=by
 refine⟨λMt os G A s R hA C H=>?_,λ_=>⟨rfl,rfl⟩⟩;have ho:=(C.own _ (.head _)).1;have hod:=(C.own _ (.tail _ (.head _))).1;have hT:s.TypeIs (.ref it) "dict_keyiterator":=⟨_,ho,rfl⟩;refine aB PD hT PA (Po _) ?_;refine on (Mh ?_);refine on ?_;refine on ?_
 first |refine on (Ny hT (Mh ?_)) |refine on (NX hT (Mh ?_))
 refine on (OM ho rfl ?_);have hown:Builtin.Dict_items.ownsTuple "dict_keyiterator"=false:=by decide
 rw[hown];show wpAny _ _ (if(Value.ref d==Value.none)=true then _ else _) _ _ s;rw[if_neg (show ¬((Value.ref d==Value.none)=true)from MK)];refine on (Mh ?_);refine on (Nu hod rfl ?_);have hsz:((Array.mk (eS w.params kvs)).size:Int)=Int.ofNat sz:=by show Int.ofNat (eS w.params kvs).length=_;rw[eK,hz]
 rw[if_neg (by rw[hsz];simp)];refine on (Mh ?_);refine on (OE hod rfl ?_);rw[if_neg (by simp)];refine Mh ?_;have hg:(Array.mk (eS w.params kvs))[i]?=none:=by
  rw[NK];unfold eS;rw[Mf,hx];rfl
 have h0:¬(Int.ofNat i<0):=by show ¬((i:Int)<0);omega
 have h1:(Int.ofNat i).toNat=i:=rfl;simp only[h0,if_false,h1,hg];refine on ?_
 first |refine on (Ny hT (Mh ?_)) |refine on (NX hT (Mh ?_))
 show wpAny _ _ (setField (.ref it) 0 .none>>=_) _ _ s;refine on (MY ho rfl (by simp) ?_);have C':=C.update (i:=0) (p:=(it,qC d i sz n)) rfl (f:=Obj.mapFields (·.setIfInBounds 0 .none)) rfl;exact fV G C' (hA.2.2.1 rfl) λx s' C'=>H x s' C'
theorem iZ(kvs:List KV)(y:List Nat)(t:Tok)(v:Value)(hz:kvs.length=sz)(hx:kvs[i]?=some ((y,t),v)):af w hb lv (L9 it d (eS w.params kvs) n i sz v):=by
 refine⟨λMt os G A s R hA C H=>?_,λ_=>⟨rfl,rfl⟩⟩;have ho:=(C.own _ (.head _)).1;have hod:=(C.own _ (.tail _ (.head _))).1;have hT:s.TypeIs (.ref it) "dict_valueiterator":=⟨_,ho,rfl⟩;refine aB Pp hT Pj (Pf _) ?_;refine on (Mh ?_);refine on ?_;refine on ?_
 first |refine on (Nz hT (Mh ?_)) |refine on (NY hT (Mh ?_))
 refine on (OM ho rfl ?_);have hown:Builtin.Dict_items.ownsTuple "dict_valueiterator"=false:=by decide
 rw[hown];show wpAny _ _ (if(Value.ref d==Value.none)=true then _ else _) _ _ s;rw[if_neg (show ¬((Value.ref d==Value.none)=true)from MK)];refine on (Mh ?_);refine on (Nu hod rfl ?_);have hsz:((Array.mk (eS w.params kvs)).size:Int)=Int.ofNat sz:=by show Int.ofNat (eS w.params kvs).length=_;rw[eK,hz]
 rw[if_neg (by rw[hsz];simp)];refine on (Mh ?_);refine on (OE hod rfl ?_);rw[if_neg (by simp)];refine Mh ?_;have hg:=oE w.params hx;have h0:¬(Int.ofNat i<0):=by show ¬((i:Int)<0);omega
 have h1:(Int.ofNat i).toNat=i:=rfl;simp only[h0,if_false,h1,hg];refine on ?_
 first |refine on (Nz hT (Mh ?_)) |refine on (NY hT (Mh ?_))
 refine on (OK hT ?_);show wpAny _ _ (setField (.ref it) 1 (rawInt (Int.ofNat i+1))>>=_) _ _ s;refine on (MY ho rfl (by simp) ?_);have C':=C.update (i:=0) (p:=(it,kR d i sz n)) rfl (f:=Obj.mapFields (·.setIfInBounds 1 (rawInt (Int.ofNat i+1)))) rfl;have hT':Shared.TypeIs {s with heap:=s.heap.update it (Obj.mapFields (·.setIfInBounds 1 (rawInt (Int.ofNat i+1))))} (.ref it) "dict_valueiterator":=⟨_,(C'.own _ (.head _)).1,rfl⟩;refine on (MX ?_);refine on (OK (s:={s with heap:=s.heap.update it (Obj.mapFields (·.setIfInBounds 1 (rawInt (Int.ofNat i+1))))}) hT' ?_);refine on (OK (s:={s with heap:=s.heap.update it (Obj.mapFields (·.setIfInBounds 1 (rawInt (Int.ofNat i+1))))}) hT' ?_);show wpAny _ _ (pure v) _ _ _;exact Mh (Mh (H u0 _ C'))
theorem xy(lv:Nat)(kvs:List KV)(hz:kvs.length=sz)(hx:kvs[i]?=none):ba w lv (BA it d (eS w.params kvs) n i sz):=by
 refine⟨λMt os G A s R hA C H=>?_,λ_=>⟨rfl,rfl⟩⟩;have ho:=(C.own _ (.head _)).1;have hod:=(C.own _ (.tail _ (.head _))).1;have hT:s.TypeIs (.ref it) "dict_valueiterator":=⟨_,ho,rfl⟩;refine aB Pp hT Pj (Pf _) ?_;refine on (Mh ?_);refine on ?_;refine on ?_
 first |refine on (Nz hT (Mh ?_)) |refine on (NY hT (Mh ?_))
 refine on (OM ho rfl ?_);have hown:Builtin.Dict_items.ownsTuple "dict_valueiterator"=false:=by decide
 rw[hown];show wpAny _ _ (if(Value.ref d==Value.none)=true then _ else _) _ _ s;rw[if_neg (show ¬((Value.ref d==Value.none)=true)from MK)];refine on (Mh ?_);refine on (Nu hod rfl ?_);have hsz:((Array.mk (eS w.params kvs)).size:Int)=Int.ofNat sz:=by show Int.ofNat (eS w.params kvs).length=_;rw[eK,hz]
 rw[if_neg (by rw[hsz];simp)];refine on (Mh ?_);refine on (OE hod rfl ?_);rw[if_neg (by simp)];refine Mh ?_;have hg:(Array.mk (eS w.params kvs))[i]?=none:=by
  rw[NK];unfold eS;rw[Mf,hx];rfl
 have h0:¬(Int.ofNat i<0):=by show ¬((i:Int)<0);omega
 have h1:(Int.ofNat i).toNat=i:=rfl;simp only[h0,if_false,h1,hg];refine on ?_
 first |refine on (Nz hT (Mh ?_)) |refine on (NY hT (Mh ?_))
 show wpAny _ _ (setField (.ref it) 0 .none>>=_) _ _ s;refine on (MY ho rfl (by simp) ?_);have C':=C.update (i:=0) (p:=(it,kR d i sz n)) rfl (f:=Obj.mapFields (·.setIfInBounds 0 .none)) rfl;exact fV G C' (hA.2.2.1 rfl) λx s' C'=>H x s' C'
end
end
theorem tH{kvs:List KV}{k:List Nat}(h:lk kvs k=none):(kvs.findIdx? λp=>p.1.1==k)=none:=by
 unfold lk at h;rw[d0]at h;cases q:kvs.findIdx? λp=>p.1.1==k with
 |none=>rfl
 |some i=>
  rw[q]at h;obtain⟨hlt,_⟩:=No.mp q;simp[hlt]at h
noncomputable def L5(d:Addr)(es:List DictEntry)(n:Nat)(key:Value)(es':List DictEntry)(n':Nat):Tr:=⟨[],λ_=>[],λ_=>[],.call (.builtin "dict.__delitem__") ⟨[.ref d,key],[]⟩,[(d,oD es n)],λ_=>.ok (.ret .none),λ_=>[oD es' n'],λ_=>[]⟩
theorem AJ{w:World}{hb:Md}{lv:Nat}(d:Addr)(n:Nat)(kvs:List KV)(k:List Nat)(t u:Tok)(v:Value)(h:lk kvs k=none)(hz:kvs.length<=10000):af w hb lv (L5 d (eS w.params (kvs++[((k,u),v)])) n (.str (T k) t) (eS w.params kvs) (n+1)):=by
 refine⟨λMt os G A s R hA C H=>?_,λ_=>⟨rfl,rfl⟩⟩;have ho:=(C.own _ (.head _)).1;have hkey:(strKind pw w).is (T k) (.str (T k) t)=true:=NZ _ _ _ _;refine aB F.slot_dict_delitem ⟨_,ho,rfl⟩ F.entry_dict_delitem (F.args_dict_delitem_2 _ _) ?_;unfold Builtin.«dict.__delitem__»;refine on ?_;unfold Builtin.Dict.dictSlotArgs;refine on (Oa ⟨_,ho,rfl⟩ ?_);show wpAny _ _ (pure (Value.ref d,_)) _ _ s;refine Mh ?_;show wpAny _ _ (Builtin.Dict.takeOut d _>>=_) _ _ s;refine on ?_;unfold Builtin.Dict.takeOut
 try with_reducible refine MX ?_
 refine on ((strKind pw w).pyHash hkey ?_);refine on (NN (s:={s with toks:=s.toks+1}) hkey ho rfl (qo w _) ?_);rw[w7];have hi:((kvs++[((k,u),v)]).findIdx? λp=>p.1.1==k)=some kvs.length:=by
  rw[List.findIdx?_append,tH h];simp
 rw[hi];refine on (Nu (s:={s with toks:=s.toks+1}) ho rfl ?_);have hg:=oE w.params (kvs:=kvs++[((k,u),v)]) (i:=kvs.length) (p:=((k,u),v)) (by simp);simp only[hg];have el:eS w.params (kvs++[((k,u),v)])=eS w.params kvs++[⟨hS w.params (T k),.str (T k) u,v⟩]:=by
  unfold eS;rw[Mi];rfl
 have e3:(Array.mk (eS w.params (kvs++[((k,u),v)]))).eraseIdxIfInBounds kvs.length=Array.mk (eS w.params kvs):=by
  have q:∀(l:List DictEntry) (x:DictEntry),(l++[x]).eraseIdx l.length=l:=by
   intro l x
   induction l with
   |nil=>rfl
   |cons a l ih=>simpa using ih
  have hl:(eS w.params kvs).length=kvs.length:=eK _ _;rw[el];simp[Array.eraseIdxIfInBounds,<-hl,q]
 have hsz:(Array.mk (eS w.params (kvs++[((k,u),v)]))).size<=sizeLine:=by
  show(eS w.params (kvs++[((k,u),v)])).length<=2^24;rw[eK];simp;omega
 have hf:((Array.mk (eS w.params (kvs++[((k,u),v)]))).eraseIdxIfInBounds kvs.length).size<=(Array.mk (eS w.params (kvs++[((k,u),v)]))).size+1:=by
  rw[e3];show(eS w.params kvs).length<=(eS w.params (kvs++[((k,u),v)])).length+1;rw[eK,eK];simp;omega
 refine on (Oc (hz:=hsz) (hf:=hf) (s:={s with toks:=s.toks+1}) ho rfl ?_);have C':=(C.toks (s.toks+1)).update (i:=0) (p:=(d,oD (eS w.params (kvs++[((k,u),v)])) n)) rfl (f:=Obj.mapDictKeys (·.eraseIdxIfInBounds kvs.length)) rfl;refine Mh ?_;refine on (Qp (Mh (H u0 _ ?_)));have e4:Obj.mapDictKeys (·.eraseIdxIfInBounds kvs.length) (oD (eS w.params (kvs++[((k,u),v)])) n)=oD (eS w.params kvs) (n+1):=by
  show(⟨_,_,.dict ((Array.mk (eS w.params (kvs++[((k,u),v)]))).eraseIdxIfInBounds kvs.length) (n+1),_⟩:Obj)=_;rw[e3]
 show am Mt os [(d,oD (eS w.params kvs) (n+1))] _;rw[<-e4];exact C'
noncomputable def Jg(it l:Addr)(i:Nat)(vs:List Value)(n:Nat)(x:Value):Tr:=⟨[],λ_=>[],λ_=>[],.builtin "list_iterator.__next__" ⟨[.ref it],[]⟩,[(it,aI l i),(l,oL vs n)],λ_=>.ok (.ret x),λ_=>[aI l (i+1),oL vs n],λ_=>[]⟩
theorem xm{w:World}{hb:Md}{lv:Nat}(it l:Addr)(i:Nat)(vs:List Value)(n:Nat)(x:Value)(hx:vs[i]?=some x):af w hb lv (Jg it l i vs n x):=by
 refine⟨λMt os G A s R hA C H=>?_,λ_=>⟨rfl,rfl⟩⟩;have ho:=(C.own _ (.head _)).1;have hol:=(C.own _ (.tail _ (.head _))).1;refine Nf NV ?_;rw[MV slot_listiter_next.plain _];show wpAny _ _ (field (.ref it) 0>>=_) _ _ s;refine on (MM ho rfl (x:=.ref l) rfl ?_);show wpAny _ _ (if(Value.ref l==Value.none)=true then _ else _) _ _ s;rw[if_neg (show ¬((Value.ref l==Value.none)=true)from MK)];show wpAny _ _ (field (.ref it) 1>>=_) _ _ s;refine on (MM ho rfl (x:=.int (Int.ofNat i) 0) rfl ?_);show wpAny _ _ (seqItems? (.ref l)>>=_) _ _ s;refine on (Nm hol rfl ?_);have hx':(Array.mk vs)[(Int.ofNat i).toNat]?=some x:=by
  show(Array.mk vs)[i]?=some x;simpa using hx
 simp only[hx'];refine on (MY ho rfl (by simp) ?_);refine Mh ?_;have C':=C.update (i:=0) (p:=(it,aI l i)) rfl (f:=Obj.mapFields (·.setIfInBounds 1 (rawInt (Int.ofNat i+1)))) rfl;exact H u0 _ C'
noncomputable def By(it l:Addr)(i:Nat)(vs:List Value)(n:Nat):Tr:=⟨[],λ_=>[],λ_=>[],.builtin "list_iterator.__next__" ⟨[.ref it],[]⟩,[(it,aI l i),(l,oL vs n)],λx=>.error (.ref (x.n 1+ab)),λ_=>[ar i,oL vs n],λx=>[(x.n 0+ab,aj []),(x.n 1+ab,dq (x.n 0+ab))]⟩
theorem xw{w:World}{lv:Nat}(it l:Addr)(i:Nat)(vs:List Value)(n:Nat)(hx:vs[i]?=none):ba w lv (By it l i vs n):=by
 refine⟨λMt os G A s R hA C H=>?_,λ_=>⟨rfl,rfl⟩⟩;have ho:=(C.own _ (.head _)).1;have hol:=(C.own _ (.tail _ (.head _))).1;refine Nf NV ?_;rw[MV slot_listiter_next.plain _];show wpAny _ _ (field (.ref it) 0>>=_) _ _ s;refine on (MM ho rfl (x:=.ref l) rfl ?_);show wpAny _ _ (if(Value.ref l==Value.none)=true then _ else _) _ _ s;rw[if_neg (show ¬((Value.ref l==Value.none)=true)from MK)];show wpAny _ _ (field (.ref it) 1>>=_) _ _ s;refine on (MM ho rfl (x:=.int (Int.ofNat i) 0) rfl ?_);show wpAny _ _ (seqItems? (.ref l)>>=_) _ _ s;refine on (Nm hol rfl ?_);have hx':(Array.mk vs)[(Int.ofNat i).toNat]?=none:=by
  show(Array.mk vs)[i]?=none;simpa using hx
 simp only[hx'];refine on (NQ (on (MY ho rfl (by simp) ?_)));have C1:=C.update (i:=0) (p:=(it,aI l i)) rfl (f:=Obj.mapFields (·.setIfInBounds 0 .none)) rfl;exact fV G C1 (hA.2.2.1 rfl) λx s' C'=>H x s' C'
section
noncomputable abbrev sK(P:Params):=PySem.SetTable.fresh 0 0 (Bool.not (PySem.Params.followText P "set-order"))
noncomputable def oA(L:ah)(k:Nat):Obj:=(L.getD k default).2
noncomputable def aA(L:ah)(k:Nat):Addr:=(L.getD k default).1
noncomputable def su(o:Obj):List Value:=match o.data with
 |.seq a _=>a.toList
 |.fields a=>a.toList
 |_=>[]
noncomputable def BK(o:Obj):Nat:=match o.data with
 |.seq _ n=>n
 |_=>0
noncomputable def BG(l:List Value)(k:Nat):Tok:=match l.getD k .none with
 |.int _ t=>t
 |.str _ t=>t
 |_=>0
noncomputable def AG(l:List Value)(k:Nat):Int:=match l.getD k .none with
 |.int i _=>i
 |_=>0
noncomputable def vP(o:Obj):Nat:=(AG (su o) 1).toNat
section
variable{w:World}
noncomputable def bX(i j:Nat):RP w:=rX mF [i,j] (λL _=>((su (oA L 1))[vP (oA L 0)]?).map λv=>Bz (aA L 0) (aA L 1) (vP (oA L 0)) (su (oA L 1)) v) λL c x h=>by
 obtain⟨v,hv,rfl⟩:=MW.mp h;exact ql _ _ _ _ _ hv
noncomputable def qG(i j:Nat):RP w:=rX mF [i,j] (λL _=>((su (oA L 1))[vP (oA L 0)]?).map λv=>sL (aA L 0) (aA L 1) (vP (oA L 0)) (su (oA L 1)) (BK (oA L 1)) v) λL c x h=>by
 obtain⟨v,hv,rfl⟩:=MW.mp h;exact d8 _ _ _ _ _ _ hv
noncomputable def ky(i j:Nat){k:Nat}{vs:List Value}{v:Value}(h:vs[k]?=some v):RP w:=rX mF [i,j] (λL _=>some (Bz (aA L 0) (aA L 1) k vs v)) λL c x e=>by
 cases e;exact ql _ _ _ _ _ h
noncomputable def cH(i j:Nat){k:Nat}{vs:List Value}{v:Value}(h:vs[k]?=some v):RP w:=rX mF [i,j] (λL _=>some (sL (aA L 0) (aA L 1) k vs (BK (oA L 1)) v)) λL c x e=>by
 cases e;exact d8 _ _ _ _ _ _ h
noncomputable def x8(i j:Nat){k:Nat}{vs:List Value}(h:vs[k]?=none):RP w:=rX mT [i,j] (λL _=>some (px (aA L 0) (aA L 1) k vs)) λL c x e=>by
 cases e;exact qm _ _ _ _ h
noncomputable def nq(i j:Nat){k:Nat}{vs:List Value}(h:vs[k]?=none):RP w:=rX mT [i,j] (λL _=>some (qR (aA L 0) (aA L 1) k vs (BK (oA L 1)))) λL c x e=>by
 cases e;exact oZ _ _ _ _ _ h
noncomputable def f6(i j:Nat):RP w:=rX mT [i,j] (λL _=>bif ((su (oA L 1))[vP (oA L 0)]?).isNone then some (px (aA L 0) (aA L 1) (vP (oA L 0)) (su (oA L 1)))else none) λL c x e=>by
 cases q:((su (oA L 1))[vP (oA L 0)]?).isNone with
 |false=>rw[q]at e;cases e
 |true=>rw[q]at e;cases e;exact qm _ _ _ _ (PV.mp q)
noncomputable def Bm(i j:Nat):RP w:=rX mT [i,j] (λL _=>bif ((su (oA L 1))[vP (oA L 0)]?).isNone then some (qR (aA L 0) (aA L 1) (vP (oA L 0)) (su (oA L 1)) (BK (oA L 1)))else none) λL c x e=>by
 cases q:((su (oA L 1))[vP (oA L 0)]?).isNone with
 |false=>rw[q]at e;cases e
 |true=>rw[q]at e;cases e;exact oZ _ _ _ _ _ (PV.mp q)
noncomputable def gu(i:Nat){k:Int}(h:decide (k<=0)=false):RP w:=rX mF [i] (λL _=>some (JR (aA L 0) (AG (su (oA L 0)) 0) k)) λL c x e=>by
 cases e;exact xo _ _ _ h
noncomputable def EV(i:Nat){k:Int}(h:decide (k<=0)=true):RP w:=rX mT [i] (λL _=>some (vh (aA L 0) (AG (su (oA L 0)) 0) k)) λL c x e=>by
 cases e;exact xp _ _ _ h
noncomputable def IU(id:String)(a b:Int)(r:Bool)(k:∀t u,af w mF 0 (tB id [.int a t,.int b u] λ_=>.bool r)):RP w:=rX mF [] (λ_ c=>some (tB id [.int a (BG c 0),.int b (BG c 1)] λ_=>.bool r)) λL c x e=>by
 cases e;exact k _ _
noncomputable def bE{a b:Int}{r:Bool}(h:decide (a<b)=r):RP w:=IU "int.__lt__" a b r λ_ _=>tZ _ _ _ _ _ h
noncomputable def dX{a b:Int}{r:Bool}(h:decide (a>b)=r):RP w:=IU "int.__gt__" a b r λ_ _=>tX _ _ _ _ _ h
noncomputable def qF{a b:Int}{r:Bool}(h:(a==b)=r):RP w:=IU "int.__eq__" a b r λ_ _=>Ed _ _ _ _ _ h
noncomputable def ph:RP w:=rX mF [] (λ_ c=>some (tB "int.__ne__" [.int (AG c 0) (BG c 0),.int (AG c 1) (BG c 1)] λ_=>.bool (AG c 0 != AG c 1))) λL c x e=>by
 cases e;exact Ee _ _ _ _ _ rfl
noncomputable def ni{a:Int}{r:Bool}(h:(a != 0)=r):RP w:=rX mF [] (λ_ c=>some (tB "int.__bool__" [.int a (BG c 0)] λ_=>.bool r)) λL c x e=>by
 cases e;exact qf _ _ _ h
noncomputable def dF(i:Nat){vs:List Value}(h:vs.length<=10000):RP w:=rX mF [i] (λL c=>some (sx (aA L 0) vs (BK (oA L 0)) (c.getD 1 .none))) λL c x e=>by
 cases e;exact c7 _ _ _ _ h
noncomputable def b6(i:Nat){vs:List Value}{k:Int}{v:Value}(h0:0<=k)(hf:Builtin.List.listFitsIndex k=true)(h:vs[k.toNat]?=some v):RP w:=rX mF [i] (λL c=>some (j9 (aA L 0) vs (BK (oA L 0)) k (BG c 1) v)) λL c x e=>by
 cases e;exact fh _ _ _ _ _ _ h0 hf h
end
end
noncomputable def FG(P:Params):List (List Nat)->(Nat->Tok)->List Value->List DictEntry
 |l::ls,k,v::vs=>⟨PyData.keyHash P (T l),.str (T l) (k 0),v⟩::FG P ls (λi=>k (i+1)) vs
 |_,_,_=>[]
noncomputable def frm(P:Params)(ls:List (List Nat))(k:Nat->Tok)(vs:List Value)(n:Nat):Obj:={cls:=.type "frame",data:=.dict ⟨FG P ls k vs⟩ n}
noncomputable def au(P:Params)(ls:List (List Nat))(k:Nat->Tok)(vs:List Value)(n:Nat)(sl:Array (Option Value)):Obj:={cls:=.type "frame",data:=.dict ⟨FG P ls k vs⟩ n,slots:=sl}
noncomputable def aD(P:Params)(ls:List (List Nat))(k:Nat->Tok)(vs:List Value)(n:Nat):Obj:={cls:=.type "dict",data:=.dict ⟨FG P ls k vs⟩ n}
noncomputable def oI(c d:Addr):Obj:=⟨.ref c,some d,.plain, #[]⟩
noncomputable def kx(k:Nat->Tok)(m:Nat)(ts:List Tok):Nat->Tok:=λi=>match Nat.blt i m with
 |true=>k i
 |false=>ts.getD (i-m) 0
noncomputable def kl(ts:List Tok):Nat->Tok:=λi=>ts.getD i 0
noncomputable def sN:List (List Nat):=[[95,110,111,100,101,50,105,110,102,111],[95,114,101,97,100,121,95,110,111,100,101,115],[95,110,112,97,115,115,101,100,111,117,116],[95,110,102,105,110,105,115,104,101,100]]
noncomputable def mz:List (List Nat):=[[115,101,108,102],[110,111,100,101],[112,114,101,100,101,99,101,115,115,111,114,115],[110,111,100,101,105,110,102,111],[112,114,101,100],[112,114,101,100,95,105,110,102,111]]
noncomputable def sF:List (List Nat):=[[115,101,108,102],[114,101,115,117,108,116],[110,50,105],[110,111,100,101]]
noncomputable def be:List (List Nat):=[[115,101,108,102],[110,111,100,101,115],[110,50,105],[110,111,100,101],[110,111,100,101,105,110,102,111],[115,116,97,116],[115,117,99,99,101,115,115,111,114],[115,117,99,99,101,115,115,111,114,95,105,110,102,111]]
noncomputable def fB:List (List Nat):=[[115,101,108,102],[110,50,105],[115,116,97,99,107],[105,116,115,116,97,99,107],[115,101,101,110],[110,111,100,101,50,115,116,97,99,107,105],[110,111,100,101]]
noncomputable def dW(da:Addr)(nm np:Value)(ls:Addr):Obj:=⟨.ref 387,some da,.plain, #[some nm,some np,some (.ref ls)]⟩
noncomputable def aG(S:Stmt)(it:Addr)(e:Env):Code:=.forLoop (cq S) (.ref it) (ao S) (dQ S) e
noncomputable def ku(S:Stmt)(e:Env):Code:=.whileLoop (aE S) (ao S) (dQ S) e
noncomputable def ow(loc:Addr):Env:=jp (bA pT 29 3) (T [84,111,112,111,108,111,103,105,99,97,108,83,111,114,116,101,114,46,97,100,100,46,60,108,111,99,97,108,115,62,46]) 3 434 433 loc
noncomputable abbrev ov:List Stmt:=dD (bA pT 29 3)
noncomputable def nA(loc:Addr):Env:=jp (bA pT 29 4) (T [84,111,112,111,108,111,103,105,99,97,108,83,111,114,116,101,114,46,112,114,101,112,97,114,101,46,60,108,111,99,97,108,115,62,46]) 3 439 438 loc
noncomputable abbrev EX:List Stmt:=dD (bA pT 29 4)
noncomputable def yY(loc:Addr):Env:=jp (bA pT 29 5) (T [84,111,112,111,108,111,103,105,99,97,108,83,111,114,116,101,114,46,103,101,116,95,114,101,97,100,121,46,60,108,111,99,97,108,115,62,46]) 3 446 445 loc
noncomputable abbrev BS:List Stmt:=dD (bA pT 29 5)
noncomputable def bS(loc:Addr):Env:=jp (bA pT 29 8) (T [84,111,112,111,108,111,103,105,99,97,108,83,111,114,116,101,114,46,100,111,110,101,46,60,108,111,99,97,108,115,62,46]) 3 467 466 loc
noncomputable abbrev f8:List Stmt:=dD (bA pT 29 8)
noncomputable def hX(loc:Addr):Env:=jp (bA pT 29 9) (T [84,111,112,111,108,111,103,105,99,97,108,83,111,114,116,101,114,46,95,102,105,110,100,95,99,121,99,108,101,46,60,108,111,99,97,108,115,62,46]) 3 474 473 loc
noncomputable abbrev Kt:List Stmt:=dD (bA pT 29 9)
noncomputable def rk(loc:Addr):Env:=jp (bA pT 23 5) (T [83,101,113,117,101,110,99,101,77,97,116,99,104,101,114,46,95,95,99,104,97,105,110,95,98,46,60,108,111,99,97,108,115,62,46]) 3 310 309 loc
noncomputable abbrev Hi:List Stmt:=dD (bA pT 23 5)
noncomputable def cp(loc:Addr):Env:=jp (bA pT 23 6) (T [83,101,113,117,101,110,99,101,77,97,116,99,104,101,114,46,102,105,110,100,95,108,111,110,103,101,115,116,95,109,97,116,99,104,46,60,108,111,99,97,108,115,62,46]) 3 318 317 loc
noncomputable abbrev HC:List Stmt:=dD (bA pT 23 6)
noncomputable def d5(loc:Addr):Env:=jp (bA pT 23 7) (T [83,101,113,117,101,110,99,101,77,97,116,99,104,101,114,46,103,101,116,95,109,97,116,99,104,105,110,103,95,98,108,111,99,107,115,46,60,108,111,99,97,108,115,62,46]) 3 325 324 loc
noncomputable abbrev DS:List Stmt:=dD (bA pT 23 7)
noncomputable def lS(loc:Addr):Env:=jp (bA pT 23 8) (T [83,101,113,117,101,110,99,101,77,97,116,99,104,101,114,46,103,101,116,95,111,112,99,111,100,101,115,46,60,108,111,99,97,108,115,62,46]) 3 332 331 loc
noncomputable abbrev IT:List Stmt:=dD (bA pT 23 8)
noncomputable def cD(lX:List (Str×Addr))(loc:Addr):Env:=⟨fE (dP pT 32),loc,3,lX,T [95,108,97,119,95,103,111,110,101,46,60,108,111,99,97,108,115,62,46],some 500,.ref 499,some loc,0⟩
noncomputable abbrev DT:List Stmt:=dD (dP pT 32)
noncomputable abbrev yn:List Stmt:=dD (dP pT 33)
noncomputable def aH(loc:Addr):Env:=jp (dP pT 34) (T [95,108,97,119,95,114,117,110,115,46,60,108,111,99,97,108,115,62,46]) 3 512 511 loc
noncomputable abbrev E5:List Stmt:=dD (dP pT 34)
noncomputable def Hw(f:Stmt)(q:Str)(g fa cd loc:Addr)(lX:List (Str×Addr)):Env:=⟨fE f,loc,g,lX,q,some fa,.ref cd,some loc,0⟩
noncomputable def br(lX:List (Str×Addr))(loc:Addr):Env:=Hw (dP pT 35) (T [108,97,119,46,60,108,111,99,97,108,115,62,46]) 3 517 516 loc lX
noncomputable abbrev bB:List Stmt:=dD (dP pT 35)
noncomputable abbrev qD(it:Addr):Obj:={cls:=.type "method-wrapper",data:=.fields #[.builtin "list_iterator.__next__",.ref it]}
noncomputable abbrev vN:Stmt:=aP Kt 5
noncomputable abbrev iN:Stmt:=aP (ao vN) 1
noncomputable abbrev iM:Stmt:=aP (ao iN) 1
noncomputable def ax(o:Obj)(sl:Array (Option Value)):Obj:={o with slots:=sl}
noncomputable def FM(L:Addr)(pl:List Value):Obj:={cls:=.type "traceback",data:=.fields ([Value.none,.ref L,.none,.none,.none]++pl).toArray}
noncomputable def uL(a tb:Addr):Obj:={cls:=.type "StopIteration",data:=.fields #[.ref a,.ref tb,.none,.none,.bool false,.none]}
theorem EN{w:World}{Mt:Heap}{os:OsState}{A:Around}{s:Shared}{env e2 e3:Env}{L1 L2 L3 e a:Addr}{o1 o2 o3:Obj}{Q:Unit->Shared->Prop}{E:Value->Shared->Prop}(G:Gr w Mt)
  (C:am Mt os [(L1,o1),(L2,o2),(L3,o3),(e,dq a)] s) (hfr:A.frames=some [env,e2,e3]) (f1:env.frame=some L1) (f2:e2.frame=some L2) (f3:e3.frame=some L3)
  (k1:env.scope.kind≠ .module) (k2:e2.scope.kind≠ .module) (k3:e3.scope.kind≠ .module) (d1:∀vs,o1.data≠ .fields vs) (d2:∀vs,o2.data≠ .fields vs) (d3:∀vs,o3.data≠ .fields vs)
  (H:∀s1 s2 s3 x pl s',am Mt os [(L1,ax o1 s1),(L2,ax o2 s2),(L3,ax o3 s3),(e,uL a (x+ab)),(x+ab,FM L1 pl)] s'->Q () s'):
  wpAny (model pw w) A (noteFrame (.ref e) env) (λ_ s'=>wpAny (model pw w) A (setFlight (.ref e) none) Q E s') E s:=by
 have c1:=C.own _ (.head _);have c2:=C.own _ (.tail _ (.head _));have c3:=C.own _ (.tail _ (.tail _ (.head _)));have ce:=C.own _ (.tail _ (.tail _ (.tail _ (.head _))));unfold noteFrame;simp only[f1];refine on (MM ce.1 rfl (x:=.none) rfl ?_);rw[if_neg (by decide)];have hF:s.heap.FunFrames Mt [env,e2,e3]:=⟨k1,⟨L1,o1,f1,c1.2,c1.1,d1⟩,k2,⟨L2,o2,f2,c2.2,c2.1,d2⟩,k3,⟨L3,o3,f3,c3.2,c3.1,d3⟩,trivial⟩;refine on (wpAny_frameOf_fun hfr hF f1 λh1 hs=>?_);have hmem:[env,e2,e3].filterMap (·.frame)=[L1,L2,L3]:=by simp[List.filterMap,f1,f2,f3]
 rw[hmem]at hs;obtain⟨s1,g1⟩:=hs.2.2 L1 o1 c1.1;obtain⟨s2,g2⟩:=hs.2.2 L2 o2 c2.1;obtain⟨s3,g3⟩:=hs.2.2 L3 o3 c3.1;have nd:=C.nd;simp only[Ml,Na,NF,My,Pq,or_false,not_or]at nd;have he:e∉[L1,L2,L3]:=by simp;exact⟨λq=>nd.1.2.2 q.symm,λq=>nd.2.1.2 q.symm,λq=>nd.2.2.1 q.symm⟩
 have C1:am Mt os [(L1,ax o1 s1),(L2,ax o2 s2),(L3,ax o3 s3),(e,dq a)] {s with heap:=h1}:=by
  refine⟨λb o hb=>(hs.2.1 b λhm=>?_).trans (C.keep b o hb),λp hp=>?_,C.nd,C.gens,C.os⟩
  .simp only[My,Pq,or_false]at hm;rcases hm with rfl |rfl |rfl
   .rw[c1.2]at hb;cases hb
   .rw[c2.2]at hb;cases hb
   .rw[c3.2]at hb;cases hb
  .simp only[My,Pq,or_false]at hp;rcases hp with rfl |rfl |rfl |rfl
   .exact⟨g1,c1.2⟩
   .exact⟨g2,c2.2⟩
   .exact⟨g3,c3.2⟩
   .exact⟨(hs.2.1 _ he).trans ce.1,ce.2⟩
 refine on (wpAny_entryPlaceOf λpl hpl=>?_);unfold EntryCells.newEntry newFields;refine on (NM ?_ (hpl.sizeOk5 _ _ _ _ _));have hz:=cC G C1;have e0:h1.objs.size-ab+ab=h1.objs.size:=MJ hz;let tb0:Obj:={cls:=.type "traceback",data:=.fields ([Value.none,.ref L1,.none,rawInt L1,.none]++(if pl.isEmpty then List.replicate 6 Value.none else pl)).toArray};have C2:=C1.alloc (o:=tb0) rfl;have q1:=(C2.own (e,dq a) (by simp)).1;refine MY q1 rfl (by simp) ?_;have C3:=C2.update (i:=3) (p:=(e,dq a)) rfl (f:=Obj.mapFields (·.setIfInBounds 1 (Value.ref h1.objs.size))) rfl;unfold setFlight;have q2:=(C3.own (e,Obj.mapFields (·.setIfInBounds 1 (Value.ref h1.objs.size)) (dq a)) (by simp)).1;refine on (MM q2 rfl (x:=.ref h1.objs.size) rfl ?_);rw[if_pos (show(Value.ref h1.objs.size != Value.none)=true from by simp)];have q3:=(C3.own (h1.objs.size,tb0) (by simp)).1;refine MY q3 rfl (by simp only[List.size_toArray,Mn,Mg,MC]<;>omega) ?_;have C4:=C3.update (i:=4) (p:=(h1.objs.size,tb0)) rfl (f:=Obj.mapFields (·.setIfInBounds 3 Value.none)) rfl;have:=H s1 s2 s3 (h1.objs.size-ab) (if pl.isEmpty then List.replicate 6 Value.none else pl);rw[e0]at this;refine this _ ?_;have ee:FM L1 (if pl.isEmpty then List.replicate 6 Value.none else pl)=Obj.mapFields (·.setIfInBounds 3 Value.none) tb0:=by
  show _=(⟨_,_,.fields _,_⟩:Obj);unfold FM;congr 2
 rw[ee];exact C4
noncomputable abbrev Hy:Stmt:=aP (ao iM) 0
noncomputable def kB(t:Expr)(e:Env):Sem Bool:=PySem.W.Fast.tw15418851999007992765 t e (PySem.W.Fast.tw14044960220447912780 t e)
noncomputable def kd(b:List Stmt)(e:Env):Sem Flow:=PySem.W.Fast.tw12563942051412417395 b e
noncomputable def BH(v:Value)(e:Env)(hs:List ExceptHandler):Sem Flow:=PySem.W.Fast.tw14206642085496868694 v e hs
theorem ja(t:Expr)(e:Env):kB t e=isTrue t e (eval t e):=by unfold kB;rw[<-O2,<-PySem.W.Fast.te15418851999007992765]
theorem mj(b:List Stmt)(e:Env):kd b e=execs b e:=by unfold kd;rw[<-NW]
theorem yu(v:Value)(e:Env)(hs:List ExceptHandler):BH v e hs=handleBy v e hs:=by unfold BH;rw[<-PySem.W.Fast.te14206642085496868694]
section
variable{prog:Program}{w:World}{A:Around}{R:Result->Shared->Prop}{s:Shared}
theorem kg{test:Expr}{body orelse:List Stmt}{env:Env}
  (h:wpAny (model prog w) A (isTrue test env (eval test env)) (λb NG=>
    if b then wpAny (model prog w) A (execs body env) (λf MD=>match f with
      |.next |.cont=>codeAny (model prog w) A (.whileLoop test body orelse env) R MD
      |.brk=>R (.ok .next) MD
      |.ret v=>R (.ok (.ret v)) MD) (notedBy (model prog w) A env λe s'=>R (.error e) s') NG
    else wpAny (model prog w) A (execs orelse env) (λf MD=>R (.ok f) MD) (notedBy (model prog w) A env λe s'=>R (.error e) s') NG)
    (notedBy (model prog w) A env λe s'=>R (.error e) s') s):codeAny (model prog w) A (.whileLoop test body orelse env) R s:=by
 refine ND ?_;rw[NC (show(Code.whileLoop test body orelse env).weight=0 from rfl)];show wpAny _ A ((whileTurn test body orelse env).onRaise (λx=>do noteFrame x env;theTreesLotGoes x)) _ _ s;refine ON ?_;simp only[whileTurn];refine on (M6 h (λb NG Ni=>?_) λ_ _ h'=>h');cases b with
 |false=>
  simp only[M7,if_false]at Ni ⊢;exact on (M6 Ni (λf MD MP=>Mh MP) λ_ _ h'=>h')
 |true=>
  simp only[if_true]at Ni ⊢;refine on (M6 Ni (λf MD MP=>?_) λ_ _ h'=>h');cases f with
  |next=>exact Mh ⟨rfl,MP⟩
  |cont=>exact Mh ⟨rfl,MP⟩
  |brk=>exact Mh MP
  |ret v=>exact Mh MP
end
noncomputable def Ks(e:Expr)(q:Str)(cd loc cl:Addr):Env:=⟨pO e,cl,3,[],q,none,.ref cd,some loc,0⟩
noncomputable def eF(e:Expr)(it acc:Addr)(env:Env):Code:=.compLoop e 0 (.ref it) (.ref acc) env
noncomputable def yU(e:Expr)(it acc:Addr)(env:Env):Code:=.compStart e 0 (.ref it) (.ref acc) env
noncomputable def cI:List (List Nat):=[[105]]
noncomputable abbrev fz:Expr:=zu (aP EX 2)
noncomputable def ec(loc cl:Addr):Env:=Ks fz (T [84,111,112,111,108,111,103,105,99,97,108,83,111,114,116,101,114,46,112,114,101,112,97,114,101,46,60,108,111,99,97,108,115,62,46]) 438 loc cl
section
section
variable(loc so n2i sl il se nd mw it ls:Addr)(kk:Nat->Tok)(v x:Value)(stk its sc:List Value)(a b m p:Nat)(fs:Array (Option Value))(y:List Nat)(yt:Tok)(w:World)
noncomputable def tA(hl:(stk++[x]).length<=10000)(hk:(stk++[x]).length=stk.length+1)(hx:sc[p]?=some (.str (T y) yt))(w:World):=
 cY (mT) 50 (λP=>ku iM (hX loc))
 (λP=>[(loc,au P fB kk [.ref so,.ref n2i,.ref sl,.ref il,.ref se,.ref nd,v] 7 fs),(sl,oL (stk++[x]) a),(il,oL (its++[.ref mw]) b),(mw,qD it),(it,aI ls p),(ls,oL sc m)]) (λP=>[])
 0x1451080881071c7082144186142 (λw=>[rF 0 [1] [] λhh=>aF sl (stk++[x]) a ((List.length stk)+1) hk hl,rF 0 [2] [] λhh=>c8 il its b (nZ hh 2) (.ref mw),rF 0 [4,5] [] λhh=>xm it ls p sc m (.str (T y) yt) hx])
 [0,1,2,3,4,5] [] (λP ch=>(.ok .next)) (λP ch=>[(loc,au P fB kk [.ref so,.ref n2i,.ref sl,.ref il,.ref se,.ref nd,.str (T y) yt] 7 fs),(sl,oL (stk++[x]) a),(il,oL (its++[.ref mw]) b),(mw,qD it),(it,aI ls (p+1)),(ls,oL sc m)]) (λP ch=>[]) w
noncomputable def ru:=
 cY (mT) 50 (λP=>ku iM (hX loc))
 (λP=>[(loc,au P fB kk [.ref so,.ref n2i,.ref sl,.ref il,.ref se,.ref nd,v] 7 fs),(sl,oL [] a)]) (λP=>[])
 68706626 (λw=>[rF 0 [1] [] λhh=>aF sl [] a 0 rfl (by decide)])
 [0,1] [] (λP ch=>(Except.ok PySem.Flow.brk)) (λP ch=>[(loc,au P fB kk [.ref so,.ref n2i,.ref sl,.ref il,.ref se,.ref nd,v] 7 fs),(sl,oL [] a)]) (λP ch=>[]) w
noncomputable def tC(hl:(stk++[x]).length<=10000)(hk:(stk++[x]).length=stk.length+1)(w:World):=
 aq (mT) 50 (λP=>kB (aE iM) (hX loc))
 (λP=>[(loc,au P fB kk [.ref so,.ref n2i,.ref sl,.ref il,.ref se,.ref nd,v] 7 fs),(sl,oL (stk++[x]) a)]) (λP=>[])
 1073541 (λw=>[rF 0 [1] [] λhh=>aF sl (stk++[x]) a ((List.length stk)+1) hk hl])
 [0,1] [] (λP ch=>.ok true) (λP ch=>[(loc,au P fB kk [.ref so,.ref n2i,.ref sl,.ref il,.ref se,.ref nd,v] 7 fs),(sl,oL (stk++[x]) a)]) (λP ch=>[]) w
noncomputable def ty(hx:sc[p]?=none)(w:World):=
 aq (mT) 50 (λP=>kd (ao Hy) (hX loc))
 (λP=>[(loc,au P fB kk [.ref so,.ref n2i,.ref sl,.ref il,.ref se,.ref nd,v] 7 fs),(il,oL (its++[.ref mw]) b),(mw,qD it),(it,aI ls p),(ls,oL sc m)]) (λP=>[])
 0x41c21c4186182085 (λw=>[rF 0 [1] [] λhh=>c8 il its b (nZ hh 1) (.ref mw),rT 0 [3,4] [] λhh=>xw it ls p sc m hx])
 [0,1,2,3,4,6] [] (λP ch=>.error (.ref (((ch 3).n 1)+ab))) (λP ch=>[(loc,au P fB kk [.ref so,.ref n2i,.ref sl,.ref il,.ref se,.ref nd,v] 7 fs),(il,oL (its++[.ref mw]) b),(mw,qD it),(it,ar p),(ls,oL sc m),(((ch 3).n 1)+ab,dq (aZ ch 3))]) (λP ch=>[]) w
noncomputable def tz(e e0 tb:Addr)(kk:Nat->Tok)(v:Value)(stk its:List Value)(a b c:Nat)(fs:Array (Option Value))(kvs:List KV)(x:List Nat)(xt u:Tok)(kv:Value)(pl:List Value)(hl:stk.length<=10000)(hi:its.length<=10000)(hk:kvs.length<=10000)(hn:lk kvs x=none)(w:World):=
 aq (mT) 50 (λP=>BH (.ref e) (hX loc) (Ii Hy))
 (λP=>[(loc,au P fB kk [.ref so,.ref n2i,.ref sl,.ref il,.ref se,.ref nd,v] 7 fs),(sl,oL (stk++[.str (T x) xt]) a),(il,oL (its++[.ref mw]) b),(nd,oD (eS P (kvs++[((x,u),kv)])) c),(e,uL e0 tb),(tb,FM loc pl)]) (λP=>[])
 0x21071c71c510820418618614528a242241042 (λw=>[rF 0 [1] [] λhh=>jB sl stk a (.str (T x) xt) hl,rF 0 [3] [] λhh=>AJ nd c kvs x xt u kv hn hk,rF 0 [2] [] λhh=>jB il its b (.ref mw) hi])
 [0,1,2,3] [] (λP ch=>.ok PySem.Flow.next) (λP ch=>[(loc,au P fB kk [.ref so,.ref n2i,.ref sl,.ref il,.ref se,.ref nd,v] 7 fs),(sl,oL stk (a+1)),(il,oL its (b+1)),(nd,oD (eS P kvs) (c+1))]) (λP ch=>[]) w
end
end
theorem et.of{α β:Sort _}{P:α->β->Prop}{a:α}(h:∃b,P a b):et P:=h.elim λb p=>⟨a,b,p⟩
noncomputable def rm:DecidableEq (Addr×Obj):=λa b=>Classical.propDecidable (a=b)
noncomputable def cZ(x:Addr×Obj)(l:ah):Nat:=@List.count _ (@instBEqOfDecidableEq _ rm) x l
noncomputable def pg(x b:Addr×Obj):Nat:=cZ x [b]
theorem eA(x:Addr×Obj)(a b:ah):cZ x (a++b)=cZ x a+cZ x b:=@List.count_append _ (@instBEqOfDecidableEq _ rm) _ _ _
theorem jg(x:Addr×Obj):cZ x []=0:=rfl
theorem eJ(x b:Addr×Obj)(l:ah):cZ x (b::l)=pg x b+cZ x l:=by
 show cZ x ([b]++l)=_;rw[eA];rfl
theorem ae{l l':ah}(h:∀x,cZ x l=cZ x l'):l.Perm l':=
 (@Qx _ (@instBEqOfDecidableEq _ rm) (by letI:=rm;infer_instance) l l').mpr h
theorem th{l l':ah}(h:l.Perm l')(y:Addr×Obj):cZ y l=cZ y l':=(@Qx _ (@instBEqOfDecidableEq _ rm) (by letI:=rm;infer_instance) _ _).mp h y
theorem s8(x:Addr×Obj)(M:ah)(Z:Zs):cZ x (fl M Z)=cZ x M+cZ x Z.flatten:=by rw[cf,eA]
theorem iA(x:Addr×Obj)(z:ah)(Z:Zs):cZ x (z::Z).flatten=cZ x z+cZ x Z.flatten:=by rw[MN,eA]
theorem ge(x:Addr×Obj):cZ x ([]:Zs).flatten=0:=rfl
set_option genCtorIdx true in
inductive Px where
 |o
 |z (i:Nat)
 |c (i:Nat) (e:Px)
 |a (x y:Px)
noncomputable def Px.dec:Nat->Nat->List Px->Px
 |0,_,_=>.o
 |f+1,n,s=>match n%64 with
  |0=>s.headD .o
  |1=>dec f (n/64) (.o::s)
  |2=>match s with
   |y::x::s=>dec f (n/64) (.a x y::s)
   |_=>.o
  |k+3=>bif Nat.beq (k%2) 0 then(match s with
   |e::s=>dec f (n/64) (.c (k/2) e::s)
   |_=>.o)else dec f (n/64) (.z (k/2)::s)
noncomputable def Px.den(cs:ah)(zs:List ah):Px->ah
 |.o=>[]
 |.z i=>List.getD zs i []
 |.c i e=>List.getD cs i default::e.den cs zs
 |.a x y=>x.den cs zs++y.den cs zs
noncomputable def Px.lv:Px->List Nat
 |.o=>[]
 |.z i=>[2*i+1]
 |.c i e=>2*i::e.lv
 |.a x y=>x.lv++y.lv
noncomputable def yf(cs:ah)(zs:List ah)(y:Addr×Obj)(k:Nat):Nat:=bif k%2==0 then pg y (cs.getD (k/2) default)else cZ y (zs.getD (k/2) [])
theorem gZ(cs:ah)(zs:List ah)(y:Addr×Obj):∀e:Px,cZ y (e.den cs zs)=(e.lv.map (yf cs zs y)).sum
 |.o=>rfl
 |.z i=>by
  have e1:(2*i+1)%2=1:=by omega
  have e2:(2*i+1)/2=i:=by omega
  show cZ y (zs.getD i [])=yf cs zs y (2*i+1)+0;unfold yf;rw[e1,e2];rfl
 |.c i e=>by
  have e1:(2*i)%2=0:=by omega
  have e2:(2*i)/2=i:=by omega
  have e3:yf cs zs y (2*i)=pg y (cs.getD i default):=by unfold yf;rw[e1,e2];rfl
  show cZ y (cs.getD i default::e.den cs zs)=yf cs zs y (2*i)+(e.lv.map (yf cs zs y)).sum;rw[eJ,gZ cs zs y e,e3]
  try exact Nat.add_comm _ _
 |.a x z=>by
  show cZ y (x.den cs zs++z.den cs zs)=((x.lv++z.lv).map (yf cs zs y)).sum;rw[eA,gZ cs zs y x,gZ cs zs y z,Mi,PE]
noncomputable def BW(x:Nat):List Nat->Option (List Nat)
 |[]=>none
 |y::l=>bif Nat.beq x y then some l else(BW x l).map (y:: ·)
noncomputable def uZ:List Nat->List Nat->Bool
 |[],l=>l.isEmpty
 |x::a,l=>(BW x l).elim false λr=>uZ a r
theorem qM{x:Nat}(f:Nat->Nat):∀{l r:List Nat},BW x l=some r->f x+(r.map f).sum=(l.map f).sum
 |y::l,r,h=>by
  have h:(bif Nat.beq x y then some l else(BW x l).map (y:: ·))=some r:=h;cases e:Nat.beq x y with
  |true=>
   rw[e]at h;cases h;rw[NH e];rfl
  |false=>
   rw[e]at h;obtain⟨q,hq,rfl⟩:=MW.mp h;rw[Ml,Ml,P0,P0,<-qM f hq];omega
theorem jV(f:Nat->Nat):∀{a b:List Nat},uZ a b=true->(a.map f).sum=(b.map f).sum
 |[],b,h=>by rw[Pr.mp h]
 |x::a,b,h=>by
  have h:(BW x b).elim false (λr=>uZ a r)=true:=h;cases hr:BW x b with
  |none=>rw[hr]at h;cases h
  |some r=>
   rw[hr]at h;rw[Ml,P0,jV f h,qM f hr]
noncomputable abbrev pX(n:Nat):Px:=Px.dec 99 n []
theorem aN(cs:ah)(zs:List ah)(n m:Nat){y:Addr×Obj}(h:uZ (pX n).lv (pX m).lv=true:=by kernel_rfl):cZ y ((pX n).den cs zs)=cZ y ((pX m).den cs zs):=by
 rw[gZ,gZ,jV _ h]
theorem IX(cs:ah)(zs:List ah)(n m i j:Nat){y:Addr×Obj}(h0:cZ y ((pX i).den cs zs)=cZ y ((pX j).den cs zs))(h:uZ ((pX n).lv++(pX j).lv) ((pX m).lv++(pX i).lv)=true:=by kernel_rfl):cZ y ((pX n).den cs zs)=cZ y ((pX m).den cs zs):=by
 have e:=jV (yf cs zs y) h;rw[Mi,Mi,PE,PE,<-gZ,<-gZ,<-gZ,<-gZ,h0]at e;exact Nat.add_right_cancel e
structure Nd where
 nm:List Nat
 tk:Tok
 kt:Tok
 np:Int
 nt:Tok
 sc:List Pt
 m:Nat
 a:Addr
 da:Addr
 ls:Addr
noncomputable def rS(d:Nd):ah:=[(d.a,dW d.da (.str (T d.nm) d.tk) (.int d.np d.nt) d.ls),(d.ls,oL (vT d.sc) d.m)]
noncomputable def ag:List Nd->ah
 |[]=>[]
 |d::ns=>rS d++ag ns
noncomputable def ac(ns:List Nd):List KV:=ns.map λd=>((d.nm,d.kt),.ref d.a)
theorem dE(a b:List Nd):ag (a++b)=ag a++ag b:=by
 induction a with
 |nil=>rfl
 |cons d a ih=>show rS d++ag (a++b)=rS d++ag a++ag b;rw[ih,Ms]
noncomputable def dn(y:List Nat)(f:Nd->Nd):List Nd->List Nd
 |[]=>[]
 |d::ns=>if d.nm==y then f d::ns else d::dn y f ns
theorem eO(y:List Nat)(f:Nd->Nd)(d:Nd)(ns:List Nd):dn y f (d::ns)=if d.nm==y then f d::ns else d::dn y f ns:=rfl
theorem fK(y:List Nat):∀ns:List Nd,(∃d∈ns,d.nm=y)->gc λA d B=>ns=A++d::B/\d.nm=y/\(lk (ac ns) y=some (.ref d.a))/\∀f,dn y f ns=A++f d::B
 |[],h=>by obtain⟨d,h,_⟩:=h;cases h
 |d::ns,h=>by
  by_cases e:d.nm=y
  .refine⟨[],d,ns,rfl,e,?_,λf=>?_⟩
   .unfold lk ac;simp[e]
   .rw[eO];simp[e]
  .obtain⟨A,d',B,h1,h2,h3,h4⟩:=fK y ns (by
    obtain⟨d',hm,e'⟩:=h;rcases My.mp hm with rfl |hm
    .exact(e e').elim
    .exact⟨d',hm,e'⟩)
   refine⟨d::A,d',B,by rw[h1];rfl,h2,?_,λf=>?_⟩
   .unfold lk ac at h3 ⊢;rw[Ml,Nq];rw[show((d.nm,d.kt).1==y)=false from beq_eq_false_iff_ne.mpr e];exact h3
   .rw[eO];rw[if_neg (by simpa using e),h4];rfl
theorem lG(A B:List Nd):ac (A++B)=ac A++ac B:=Mi
theorem gR(y:List Nat)(f:Nd->Nd)(hf:∀d,(f d).nm=d.nm/\(f d).kt=d.kt/\(f d).a=d.a):∀ns,ac (dn y f ns)=ac ns
 |[]=>rfl
 |d::ns=>by
  rw[eO];split
  .show(((f d).nm,(f d).kt),Value.ref (f d).a)::ac ns=_;rw[(hf d).1,(hf d).2.1,(hf d).2.2];rfl
  .show _::ac (dn y f ns)=_;rw[gR y f hf ns];rfl
theorem gW(y z:List Nat)(f:Nd->Nd)(hf:∀d,(f d).nm=d.nm):∀ns,(∃d∈ns,d.nm=z)->∃d∈dn y f ns,d.nm=z
 |[],h=>by obtain⟨d,h,_⟩:=h;cases h
 |d::ns,h=>by
  rw[eO];obtain⟨d',hm,e⟩:=h;split
  .rcases My.mp hm with rfl |hm
   .exact⟨f d',.head _,by rw[hf];exact e⟩
   .exact⟨d',.tail _ hm,e⟩
  .rcases My.mp hm with rfl |hm
   .exact⟨d',.head _,e⟩
   .obtain⟨d'',h1,h2⟩:=gW y z f hf ns ⟨d',hm,e⟩;exact⟨d'',.tail _ h1,h2⟩
noncomputable def n6(P:Params)(so sd n2i a:Addr)(k:Nat->Tok)(rv pv nv:Value)(kvs:List KV)(n:Nat)(x:List Nat)(t:Tok):Tr:=
 ⟨[],λuu=>[],λuu=>[],.call (.ref 427) ⟨[.ref so,.str (T x) t],[]⟩,[(so,oI 484 sd),(sd,aD P sN k [.ref n2i,rv,pv,nv] 4),(n2i,oD (eS P kvs) n)],λuu=>(.ok (.ret (.ref a))),λuu=>[oI 484 sd,aD P sN k [.ref n2i,rv,pv,nv] 4,oD (eS P kvs) n],λuu=>[]⟩
theorem mU(so sd n2i a:Addr)(k:Nat->Tok)(rv pv nv:Value)(kvs:List KV)(n:Nat)(x:List Nat)(t:Tok)(h:lk kvs x=some (.ref a))(w:World):af w mT 40 (n6 w.params so sd n2i a k rv pv nv kvs n x t):=
 cx (mT) 40 (λP=>n6 P so sd n2i a k rv pv nv kvs n x t) 0x82081081c71c7181145041045081041148088208203 (λw=>[rF 0 [2] [] λhh=>ff n2i n kvs x t (some (.ref a)) h])
 [0,1,2] [] (λch=>⟨λi=>[].getD i 0,(ch 0).u⟩) w
noncomputable def n5(P:Params)(so sd n2i:Addr)(k:Nat->Tok)(rv pv nv:Value)(kvs:List KV)(n:Nat)(x:List Nat)(t:Tok):Tr:=
 ⟨[],λuu=>[],λuu=>[],.call (.ref 427) ⟨[.ref so,.str (T x) t],[]⟩,[(so,oI 484 sd),(sd,aD P sN k [.ref n2i,rv,pv,nv] 4),(n2i,oD (eS P kvs) n)],λuu=>(.ok (.ret (.ref ((uu.n 0)+ab)))),λuu=>[oI 484 sd,aD P sN k [.ref n2i,rv,pv,nv] 4,oD (eS P (kvs++[((x,t),.ref ((uu.n 0)+ab))])) (n+1)],λuu=>[((uu.n 0)+ab,dW ((uu.n 1)+ab) (.str (T x) t) (.int 0 (uu.n 2)) ((uu.n 3)+ab)),((uu.n 1)+ab,oD [] 0),((uu.n 3)+ab,oL [] 0)]⟩
theorem gO(so sd n2i:Addr)(k:Nat->Tok)(rv pv nv:Value)(kvs:List KV)(n:Nat)(x:List Nat)(t:Tok)(h:lk kvs x=none)(hl:kvs.length<=10000)(w:World):af w mT 40 (n5 w.params so sd n2i k rv pv nv kvs n x t):=
 cx (mT) 40 (λP=>n5 P so sd n2i k rv pv nv kvs n x t) 0x2082041c720604514104114204104520a04a04108104128104204204104104a04a08128204104a2ca04a04108104128104204204104104a04a08128204104a2ca04a04108104128104204204104104a04a08128204104a2cb08b2cb2c30410412812810410410410410410410810410410410810410810810420412012081081c71c7181145041045081041148088208203 (λw=>[rF 0 [2] [] λhh=>ff n2i n kvs x t none h,rF 0 [2] [] λhh=>tU n2i n kvs x t (.ref (aZ hh 7)) h hl])
 [0,1,2,5,4,7] [] (λch=>⟨λi=>[nZ ch 7,nZ ch 6,nZ ch 12,nZ ch 14].getD i 0,(ch 0).u⟩) w
section
section
variable(it tp loc so sd n2i a ls da:Addr)(k kk:Nat->Tok)(rv pv nv:Value)(kvs:List KV)(n m i:Nat)(y:List Nat)(u:Tok)(nd:List Nat)(ndt:Tok)(nfv np nm pv0 piv0:Value)(ps sc:List Value)
noncomputable def Dp(hx:ps[i]?=some (.str (T y) u))(h:lk kvs y=some (.ref a))(hl:sc.length<=10000)(w:World):=
 aT (mT) 60 (λP=>aG (aP ov 4) it (ow loc))
 (λP=>[(it,eU tp i),(tp,aj ps),(loc,frm P mz kk [.ref so,.str (T nd) ndt,.ref tp,nfv,pv0,piv0] 6),(so,oI 484 sd),(sd,aD P sN k [.ref n2i,rv,pv,nv] 4),(n2i,oD (eS P kvs) n),(a,dW da nm np ls),(ls,oL sc m)]) (λP=>[])
 0x41cc30c30b04b0410810412c10420420410410410412c204104b1c71c40472480410412010412010412071c7105 (λw=>[ky 0 1 hx,rT 40 [3,4,5] [] λhh=>mU so sd n2i a k rv pv nv kvs n y u h w,dF 7 hl])
 [0,1,2,3,4,5,6,7] [] (λP ch=>.ok (.again (aG (aP ov 4) it (ow loc)))) (λP ch=>[(it,eU tp (i+1)),(tp,aj ps),(loc,frm P mz kk [.ref so,.str (T nd) ndt,.ref tp,nfv,.str (T y) u,.ref a] 6),(so,oI 484 sd),(sd,aD P sN k [.ref n2i,rv,pv,nv] 4),(n2i,oD (eS P kvs) n),(a,dW da nm np ls),(ls,oL (sc++[.str (T nd) ndt]) (m+1))]) (λP ch=>[]) w
noncomputable def Af(hx:ps[i]?=some (.str (T y) u))(h:lk kvs y=some (.ref a))(hl:sc.length<=10000)(w:World):=
 aT (mT) 60 (λP=>aG (aP ov 4) it (ow loc))
 (λP=>[(it,eU tp i),(tp,aj ps),(loc,frm P mz kk [.ref so,.str (T nd) ndt,.ref tp,nfv] 4),(so,oI 484 sd),(sd,aD P sN k [.ref n2i,rv,pv,nv] 4),(n2i,oD (eS P kvs) n),(a,dW da nm np ls),(ls,oL sc m)]) (λP=>[])
 0x41cc30c30b04b0410810412c10420420410410410412c204104b1c71c40472480410412010412010412071c7105 (λw=>[ky 0 1 hx,rT 40 [3,4,5] [] λhh=>mU so sd n2i a k rv pv nv kvs n y u h w,dF 7 hl])
 [0,1,2,3,4,5,6,7] [] (λP ch=>.ok (.again (aG (aP ov 4) it (ow loc)))) (λP ch=>[(it,eU tp (i+1)),(tp,aj ps),(loc,frm P mz (kx kk 4 [nZ ch 1,nZ ch 3]) [.ref so,.str (T nd) ndt,.ref tp,nfv,.str (T y) u,.ref a] 6),(so,oI 484 sd),(sd,aD P sN k [.ref n2i,rv,pv,nv] 4),(n2i,oD (eS P kvs) n),(a,dW da nm np ls),(ls,oL (sc++[.str (T nd) ndt]) (m+1))]) (λP ch=>[]) w
noncomputable def yP(vs ps:List Value)(n:Nat)(hx:ps[i]?=none)(w:World):=
 cY (mT) 60 (λP=>aG (aP ov 4) it (ow loc))
 (λP=>[(it,eU tp i),(tp,aj ps),(loc,frm P mz kk vs n)]) (λP=>[])
 35930434 (λw=>[x8 0 1 hx])
 [0,1,2] [] (λP ch=>(.ok .next)) (λP ch=>[(it,dg i),(tp,aj ps),(loc,frm P mz kk vs n)]) (λP ch=>[]) w
end
end
noncomputable def iI(x:Pt)(d:Nd):Nd:={d with sc:=d.sc++[x],m:=d.m+1}
noncomputable def cn(x:Pt)(ns:List Nd)(p:Pt):List Nd:=dn p.1 (iI x) ns
theorem gr(x p:Pt)(ns:List Nd):ac (cn x ns p)=ac ns:=gR _ (iI x) (λd=>⟨rfl,rfl,rfl⟩) ns
theorem cy(l:List Pt):(vT l).length=l.length:=Mc _
theorem uz{a b:List KV}{y:List Nat}{v:Value}(h:lk a y=some v):lk (a++b) y=some v:=by
 unfold lk at h ⊢;rw[N7];cases q:a.find? λp=>p.1.1==y with
 |none=>rw[q]at h;cases h
 |some z=>rw[q]at h;exact h
theorem Dr{A B:List Nd}{d:Nd}:((d.a,dW d.da (.str (T d.nm) d.tk) (.int d.np d.nt) d.ls)::(d.ls,oL (vT d.sc) d.m)::(ag A++ag B)).Perm (ag (A++d::B)):=by
 rw[dE];exact ae λy=>by
  simp only[ag,rS,eA,eJ,jg];ac_rfl
theorem Dq{A B:List Nd}{d:Nd}{x:Pt}:((d.a,dW d.da (.str (T d.nm) d.tk) (.int d.np d.nt) d.ls)::(d.ls,oL (vT d.sc++[.str (T x.1) x.2]) (d.m+1))::(ag A++ag B)).Perm (ag (A++{d with sc:=d.sc++[x],m:=d.m+1}::B)):=by
 rw[show vT d.sc++[Value.str (T x.1) x.2]=vT (d.sc++[x])from by rw[fM];rfl];exact Dr (d:={d with sc:=d.sc++[x],m:=d.m+1})
theorem Do(it tp loc so sd n2i:Addr)(k kk:Nat->Tok)(rv pv nv:Value)(n:Nat)(x:Pt)(nfv:Value)(ps:List Pt)(ex:List KV)(w:World):∀(rest pre:List Pt) (v0 v1:Value) (ns:List Nd),ps=pre++rest->(∀p∈rest,∃d∈ns,d.nm=p.1)->(∀d∈ns,d.sc.length+rest.length<=10000)->
  ak w mT 60 (aG (aP ov 4) it (ow loc)) ([(it,eU tp pre.length),(tp,aj (vT ps)),(loc,frm w.params mz kk [.ref so,.str (T x.1) x.2,.ref tp,nfv,v0,v1] 6),(so,oI 484 sd),(sd,aD w.params sN k [.ref n2i,rv,pv,nv] 4),(n2i,oD (eS w.params (ac ns++ex)) n)]++ag ns)
   λr N=>r=.ok .next/\et λo o'=>N.Perm ([(it,o),(tp,aj (vT ps)),(loc,o'),(so,oI 484 sd),(sd,aD w.params sN k [.ref n2i,rv,pv,nv] 4),(n2i,oD (eS w.params (ac ns++ex)) n)]++ag (rest.foldl (cn x) ns))
 |[],pre,v0,v1,ns,e,hp,hl=>by
  have hx:(vT ps)[pre.length]?=none:=by rw[e];simp[vT]
  refine(((yP it tp loc kk pre.length _ (vT ps) 6 hx w).frame ([(so,oI 484 sd),(sd,aD w.params sN k [.ref n2i,rv,pv,nv] 4),(n2i,oD (eS w.params (ac ns++ex)) n)]++ag ns))).mono ?_;refine fq λch=>?_
  exact⟨_,⟨rfl,_,_,.refl _⟩,.refl _⟩
 |p::rest,pre,v0,v1,ns,e,hp,hl=>by
  obtain⟨A,d,B,h1,h2,h3,h4⟩:=fK p.1 ns (hp p (.head _));have hx:(vT ps)[pre.length]?=some (.str (T p.1) p.2):=by rw[e];simp[vT]
  have hd:=hl d (by rw[h1];simp);refine(((Dp it tp loc so sd n2i d.a d.ls d.da k kk rv pv nv (ac ns++ex) n d.m pre.length p.1 p.2 x.1 x.2 nfv (.int d.np d.nt) (.str (T d.nm) d.tk) v0 v1 (vT ps) (vT d.sc) hx (uz h3) (by rw[cy];simp at hd;omega) w).frame (ag A++ag B)).perm ?_).runs ?_
  .refine ae λy=>?_
   rw[h1,dE];exact(aN [_,_,_,_,_,_,_,_] [_,_] 0x20861113cd2c91c50c1 0x20821850c11113cd2c91c1:)
  .refine fq λch=>?_
   have ih:=Do it tp loc so sd n2i k kk rv pv nv n x nfv ps ex w rest (pre++[p]) (.str (T p.1) p.2) (.ref d.a) (cn x ns p) (by rw[e];simp) (λq hq=>gW _ _ (iI x) (λ_=>rfl) _ (hp q (.tail _ hq))) (λd' hd'=>by
    have e1:cn x ns p=A++{d with sc:=d.sc++[x],m:=d.m+1}::B:=h4 (iI x);rw[e1]at hd';rcases MT.mp hd' with h |h
    .have:=hl d' (by rw[h1];exact MI _ h);simp at this;omega
    .rcases My.mp h with rfl |h
     .simp at hd ⊢;omega
     .have:=hl d' (by rw[h1];exact MH _ (.tail _ h));simp at this;omega)
   rw[gr,Mn]at ih;have e1:cn x ns p=A++{d with sc:=d.sc++[x],m:=d.m+1}::B:=h4 (iI x);exact ih.perm (Mu [_,_,_,_,_,_] (by rw[e1];exact Dq.symm))
noncomputable abbrev Ah(u:U):Obj×Obj:=u.u (Obj×Obj) default
noncomputable def vj(P:Params)(it tp loc so sd n2i:Addr)(k kk:Nat->Tok)(rv pv nv:Value)(n:Nat)(x:Pt)(nfv:Value)(ps:List Pt)(vs:List Value)(ex:List KV)(ns:List Nd):Tr:=
 ⟨[ag ns],λ_=>[ag (ps.foldl (cn x) ns)],λ_=>[],aG (aP ov 4) it (ow loc),[(it,eU tp 0),(tp,aj vs),(loc,frm P mz kk [.ref so,.str (T x.1) x.2,.ref tp,nfv] 4),(so,oI 484 sd),(sd,aD P sN k [.ref n2i,rv,pv,nv] 4),(n2i,oD (eS P (ac ns++ex)) n)],λ_=>.ok .next,λu=>[(Ah u).1,aj vs,(Ah u).2,oI 484 sd,aD P sN k [.ref n2i,rv,pv,nv] 4,oD (eS P (ac ns++ex)) n],λ_=>[]⟩
theorem lA(it tp loc so sd n2i:Addr)(k kk:Nat->Tok)(rv pv nv:Value)(n:Nat)(x:Pt)(nfv:Value)(ps:List Pt)(vs:List Value)(ex:List KV)(ns:List Nd)(hv:vT ps=vs)(hp:∀p∈ps,∃d∈ns,d.nm=p.1)(hl:∀d∈ns,d.sc.length+ps.length<=10000)(w:World):
  af w mT 60 (vj w.params it tp loc so sd n2i k kk rv pv nv n x nfv ps vs ex ns):=by
 subst hv;refine ak.tri (Q:=λr N=>r=.ok .next/\et λo o'=>N.Perm ([(it,o),(tp,aj (vT ps)),(loc,o'),(so,oI 484 sd),(sd,aD w.params sN k [.ref n2i,rv,pv,nv] 4),(n2i,oD (eS w.params (ac ns++ex)) n)]++ag (ps.foldl (cn x) ns))) (λ_=>⟨rfl,rfl⟩) ?_ ?_
 .cases ps with
  |nil=>
   refine((((yP it tp loc kk 0 [.ref so,.str (T x.1) x.2,.ref tp,nfv] [] 4 rfl w).frame ([(so,oI 484 sd),(sd,aD w.params sN k [.ref n2i,rv,pv,nv] 4),(n2i,oD (eS w.params (ac ns++ex)) n)]++ag ns))).mono ?_).perm ?_
   .refine fq λch=>?_
    exact⟨_,⟨rfl,_,_,.refl _⟩,.refl _⟩
   .refine ae λy=>?_
    exact(aN [_,_,_,_,_,_] [_] 0x208434b2411c50c1 0x208110714334b241:)
  |cons p rest=>
   obtain⟨A,d,B,h1,h2,h3,h4⟩:=fK p.1 ns (hp p (.head _));have hd:=hl d (by rw[h1];simp);refine(((Af it tp loc so sd n2i d.a d.ls d.da k kk rv pv nv (ac ns++ex) n d.m 0 p.1 p.2 x.1 x.2 nfv (.int d.np d.nt) (.str (T d.nm) d.tk) (vT (p::rest)) (vT d.sc) rfl (uz h3) (by rw[cy];simp at hd;omega) w).frame (ag A++ag B)).perm ?_).runs ?_
   .refine List.Perm.trans (Mu [_,_,_,_,_,_] (Dr (A:=A) (B:=B) (d:=d))) ?_;rw[<-h1,cf];exact Mu [_,_,_,_,_,_] (by show(ag ns).Perm [ag ns].flatten;rw[MN,M9,Mq])
   .refine fq λch=>?_
    have e1:cn x ns p=A++{d with sc:=d.sc++[x],m:=d.m+1}::B:=h4 (iI x);have ih:=Do it tp loc so sd n2i k (kx kk 4 [(nZ ch 1),(nZ ch 3)]) rv pv nv n x nfv (p::rest) ex w rest [p] (.str (T p.1) p.2) (.ref d.a) (cn x ns p) rfl (λq hq=>gW _ _ (iI x) (λ_=>rfl) _ (hp q (.tail _ hq))) (λd' hd'=>by
     rw[e1]at hd';rcases MT.mp hd' with h |h
     .have:=hl d' (by rw[h1];exact MI _ h);simp at this;omega
     .rcases My.mp h with rfl |h
      .simp at hd ⊢;omega
      .have:=hl d' (by rw[h1];exact MH _ (.tail _ h));simp at this;omega)
    rw[gr]at ih;exact ih.perm (Mu [_,_,_,_,_,_] (by rw[e1];exact Dq.symm))
 .rintro r N ⟨rfl,o,o',h⟩;obtain⟨u,_,hu⟩:=n9 (o,o') (λ_=>0);refine⟨u,rfl,h.trans (ae λy=>?_)⟩;have e:Ah u=(o,o'):=hu _
  (simp only[vj,e,eA,s8,eJ,jg,ge,iA,bO,bP,Mq];ac_rfl)
section
section
variable(so sd n2i:Addr)(k:Nat->Tok)(pv nt:Tok)(pvi nvi:Int)(n:Nat)(x p0 p1 p2:Pt)(ns:List Nd)
noncomputable def Ha(hv:vT []=[])(h:lk (ac ns) x.1=none)(hz:(ac ns).length<=10000)(hp:∀p:Pt,p∈([]:List Pt)->∃d∈ns,d.nm=p.1)(hl:∀d∈ns,d.sc.length+([]:List Pt).length<=10000)(w:World):=
 cY (mT) 70 (λP=>.call (.ref 434) ⟨[.ref so,.str (T x.1) x.2],[]⟩)
 (λP=>[(so,oI 484 sd),(sd,aD P sN k [.ref n2i,.none,.int pvi pv,.int nvi nt] 4),(n2i,oD (eS P (ac ns)) n)]) (λP=>[ag ns])
 0x10d08808820928128104204104a04108108104104128128204a08104128208808808808224104a04a04108104128104204204104104104128204104a249244049185041041141041141041149181145041045081041149089249249243 (λw=>[rT 40 [0,1,2] [] λhh=>gO so sd n2i k .none (.int pvi pv) (.int nvi nt) (ac ns) n x.1 x.2 h hz w,rT 60 [8,3,4,0,1,2] [0] λhh=>lA (aZ hh 14) (aZ hh 0) (aZ hh 1) so sd n2i k (kl [nZ hh 2,nZ hh 3,nZ hh 4,nZ hh 8]) .none (.int pvi pv) (.int nvi nt) (n+1) x (.ref (aZ hh 7)) [] [] [((x.1,x.2),.ref (aZ hh 7))] ns hv hp hl w])
 [0,1,2,5,7] [0] (λP ch=>(.ok (.ret .none))) (λP ch=>[(so,oI 484 sd),(sd,aD P sN k [.ref n2i,.none,.int pvi pv,.int nvi nt] 4),(n2i,oD (eS P ((ac ns)++[((x.1,x.2),.ref (aZ ch 7))])) (n+1)),(aZ ch 7,dW (((ch 7).n 1)+ab) (.str (T x.1) x.2) (.int 0 (nZ ch 12)) (((ch 7).n 3)+ab)),(((ch 7).n 3)+ab,oL [] 0)]) (λP ch=>[ag (List.foldl (cn x) ns [])]) w
noncomputable def Hb(hv:vT [p0]=[.str (T p0.1) p0.2])(h:lk (ac ns) x.1=none)(hz:(ac ns).length<=10000)(hp:∀p:Pt,p∈[p0]->∃d∈ns,d.nm=p.1)(hl:∀d∈ns,d.sc.length+[p0].length<=10000)(w:World):=
 cY (mT) 70 (λP=>.call (.ref 434) ⟨[.ref so,.str (T x.1) x.2,.str (T p0.1) p0.2],[]⟩)
 (λP=>[(so,oI 484 sd),(sd,aD P sN k [.ref n2i,.none,.int pvi pv,.int nvi nt] 4),(n2i,oD (eS P (ac ns)) n)]) (λP=>[ag ns])
 0x10d08808820928128104204104a04108108104104128128204a08104128208808808808224104a04a04108104128104204204104104104128204104a249244049185041041141041141041149181145041045081041149089249249243 (λw=>[rT 40 [0,1,2] [] λhh=>gO so sd n2i k .none (.int pvi pv) (.int nvi nt) (ac ns) n x.1 x.2 h hz w,rT 60 [8,3,4,0,1,2] [0] λhh=>lA (aZ hh 14) (aZ hh 0) (aZ hh 1) so sd n2i k (kl [nZ hh 2,nZ hh 3,nZ hh 4,nZ hh 8]) .none (.int pvi pv) (.int nvi nt) (n+1) x (.ref (aZ hh 7)) [p0] [.str (T p0.1) p0.2] [((x.1,x.2),.ref (aZ hh 7))] ns hv hp hl w])
 [0,1,2,5,7] [0] (λP ch=>(.ok (.ret .none))) (λP ch=>[(so,oI 484 sd),(sd,aD P sN k [.ref n2i,.none,.int pvi pv,.int nvi nt] 4),(n2i,oD (eS P ((ac ns)++[((x.1,x.2),.ref (aZ ch 7))])) (n+1)),(aZ ch 7,dW (((ch 7).n 1)+ab) (.str (T x.1) x.2) (.int 1 (nZ ch 12)) (((ch 7).n 3)+ab)),(((ch 7).n 3)+ab,oL [] 0)]) (λP ch=>[ag (List.foldl (cn x) ns [p0])]) w
noncomputable def Hc(hv:vT [p0,p1]=[.str (T p0.1) p0.2,.str (T p1.1) p1.2])(h:lk (ac ns) x.1=none)(hz:(ac ns).length<=10000)(hp:∀p:Pt,p∈[p0,p1]->∃d∈ns,d.nm=p.1)(hl:∀d∈ns,d.sc.length+[p0,p1].length<=10000)(w:World):=
 cY (mT) 70 (λP=>.call (.ref 434) ⟨[.ref so,.str (T x.1) x.2,.str (T p0.1) p0.2,.str (T p1.1) p1.2],[]⟩)
 (λP=>[(so,oI 484 sd),(sd,aD P sN k [.ref n2i,.none,.int pvi pv,.int nvi nt] 4),(n2i,oD (eS P (ac ns)) n)]) (λP=>[ag ns])
 0x10d08808820928128104204104a04108108104104128128204a08104128208808808808224104a04a04108104128104204204104104104128204104a249244049185041041141041141041149181145041045081041149089249249243 (λw=>[rT 40 [0,1,2] [] λhh=>gO so sd n2i k .none (.int pvi pv) (.int nvi nt) (ac ns) n x.1 x.2 h hz w,rT 60 [8,3,4,0,1,2] [0] λhh=>lA (aZ hh 14) (aZ hh 0) (aZ hh 1) so sd n2i k (kl [nZ hh 2,nZ hh 3,nZ hh 4,nZ hh 8]) .none (.int pvi pv) (.int nvi nt) (n+1) x (.ref (aZ hh 7)) [p0,p1] [.str (T p0.1) p0.2,.str (T p1.1) p1.2] [((x.1,x.2),.ref (aZ hh 7))] ns hv hp hl w])
 [0,1,2,5,7] [0] (λP ch=>(.ok (.ret .none))) (λP ch=>[(so,oI 484 sd),(sd,aD P sN k [.ref n2i,.none,.int pvi pv,.int nvi nt] 4),(n2i,oD (eS P ((ac ns)++[((x.1,x.2),.ref (aZ ch 7))])) (n+1)),(aZ ch 7,dW (((ch 7).n 1)+ab) (.str (T x.1) x.2) (.int 2 (nZ ch 12)) (((ch 7).n 3)+ab)),(((ch 7).n 3)+ab,oL [] 0)]) (λP ch=>[ag (List.foldl (cn x) ns [p0,p1])]) w
noncomputable def Hd(hv:vT [p0,p1,p2]=[.str (T p0.1) p0.2,.str (T p1.1) p1.2,.str (T p2.1) p2.2])(h:lk (ac ns) x.1=none)(hz:(ac ns).length<=10000)(hp:∀p:Pt,p∈[p0,p1,p2]->∃d∈ns,d.nm=p.1)(hl:∀d∈ns,d.sc.length+[p0,p1,p2].length<=10000)(w:World):=
 cY (mT) 70 (λP=>.call (.ref 434) ⟨[.ref so,.str (T x.1) x.2,.str (T p0.1) p0.2,.str (T p1.1) p1.2,.str (T p2.1) p2.2],[]⟩)
 (λP=>[(so,oI 484 sd),(sd,aD P sN k [.ref n2i,.none,.int pvi pv,.int nvi nt] 4),(n2i,oD (eS P (ac ns)) n)]) (λP=>[ag ns])
 0x10d08808820928128104204104a04108108104104128128204a08104128208808808808224104a04a04108104128104204204104104104128204104a249244049185041041141041141041149181145041045081041149089249249243 (λw=>[rT 40 [0,1,2] [] λhh=>gO so sd n2i k .none (.int pvi pv) (.int nvi nt) (ac ns) n x.1 x.2 h hz w,rT 60 [8,3,4,0,1,2] [0] λhh=>lA (aZ hh 14) (aZ hh 0) (aZ hh 1) so sd n2i k (kl [nZ hh 2,nZ hh 3,nZ hh 4,nZ hh 8]) .none (.int pvi pv) (.int nvi nt) (n+1) x (.ref (aZ hh 7)) [p0,p1,p2] [.str (T p0.1) p0.2,.str (T p1.1) p1.2,.str (T p2.1) p2.2] [((x.1,x.2),.ref (aZ hh 7))] ns hv hp hl w])
 [0,1,2,5,7] [0] (λP ch=>(.ok (.ret .none))) (λP ch=>[(so,oI 484 sd),(sd,aD P sN k [.ref n2i,.none,.int pvi pv,.int nvi nt] 4),(n2i,oD (eS P ((ac ns)++[((x.1,x.2),.ref (aZ ch 7))])) (n+1)),(aZ ch 7,dW (((ch 7).n 1)+ab) (.str (T x.1) x.2) (.int 3 (nZ ch 12)) (((ch 7).n 3)+ab)),(((ch 7).n 3)+ab,oL [] 0)]) (λP ch=>[ag (List.foldl (cn x) ns [p0,p1,p2])]) w
end
end
section
variable{lX:List (Str×Addr)}
noncomputable abbrev Hx(lX:List (Str×Addr))(loc ploc lloc:Addr):List Env:=[hX loc,nA ploc,br lX lloc]
noncomputable abbrev sG(lX:List (Str×Addr))(loc ploc lloc:Addr):Md:=⟨true,some (Hx lX loc ploc lloc)⟩
theorem b0.none_of{m:Md}{lv l:Nat}{A:Around}(h:b0 m lv A)(hb:m.hb=true)(e:l<=lv):b0 mT l A:=⟨by have:=h.1;omega,by have:=h.2.1;omega,λ_=>h.2.2.1 hb,λ_ h=>nomatch h⟩
theorem ck.frame{α:Type}{w:World}{hb:Md}{lv:Nat}{t:Sem α}{M:ah}{Q:Except Value α->ah->Prop}(h:ck w hb lv t M Q)(F:ah):ck w hb lv t (M++F) λr N=>Fr (Q r) F N:=λMt os G A s S E hA C H=>by
 obtain⟨MG,Nn,NB,back⟩:=Mine.frame G C;exact h MG os Nn A s S E hA NB λr N s' q C'=>H r (N++F) s' ⟨N,q,rfl⟩ (back _ _ C')
theorem ck.perm{α:Type}{w:World}{hb:Md}{lv:Nat}{t:Sem α}{M M':ah}{Q:Except Value α->ah->Prop}(h:ck w hb lv t M Q)(p:M.Perm M'):ck w hb lv t M' Q:=λMt os G A s S E hA C H=>h Mt os G A s S E hA (C.perm p.symm) H
theorem xz{loc:Addr}:(hX loc).scope.kind≠ .module:=by show(fE (bA pT 29 9)).kind≠ .module;decide+kernel
theorem rH{loc:Addr}:(nA loc).scope.kind≠ .module:=by show(fE (bA pT 29 4)).kind≠ .module;decide+kernel
theorem ul{loc:Addr}:(br lX loc).scope.kind≠ .module:=by show(fE (dP pT 35)).kind≠ .module;decide+kernel
theorem Ax(loc ploc lloc so n2i sl il se nd mw it ls:Addr)(kk:Nat->Tok)(v:Value)(stk its sc:List Value)(a b c m p:Nat)(fs:Array (Option Value))(po lo:Obj)(kvs:List KV)(x:List Nat)(xt u:Tok)(kv:Value)(F:ah)
  (hx:sc[p]?=none) (hl:stk.length<=9000) (hi:its.length<=9000) (hk:kvs.length<=9000) (hn:lk kvs x=none) (d2:∀vs,po.data≠ .fields vs) (d3:∀vs,lo.data≠ .fields vs) (w:World) (Q:Result->ah->Prop)
  (IH:∀fs' s2 s3,ak w (sG lX loc ploc lloc) 60 (ku iM (hX loc)) ([(loc,au w.params fB kk [.ref so,.ref n2i,.ref sl,.ref il,.ref se,.ref nd,v] 7 fs'),(ploc,ax po s2),(lloc,ax lo s3),(sl,oL stk (a+1)),(il,oL its (b+1)),(nd,oD (eS w.params kvs) (c+1)),(ls,oL sc m)]++F) Q):
  ak w (sG lX loc ploc lloc) 60 (ku iM (hX loc)) ([(loc,au w.params fB kk [.ref so,.ref n2i,.ref sl,.ref il,.ref se,.ref nd,v] 7 fs),(ploc,po),(lloc,lo),(sl,oL (stk++[.str (T x) xt]) a),(il,oL (its++[.ref mw]) b),(nd,oD (eS w.params (kvs++[((x,u),kv)])) c),(mw,qD it),(it,aI ls p),(ls,oL sc m)]++F) Q:=by
 intro Mt os G A s R hA C H;have hA50:b0 mT 50 A:=hA.none_of rfl (by decide);refine kg ?_;rw[<-ja];refine(((tC loc so n2i sl il se nd kk v (.str (T x) xt) stk a fs (by simp;omega) (by simp) w).frame ([(ploc,po),(lloc,lo),(il,oL (its++[.ref mw]) b),(nd,oD (eS w.params (kvs++[((x,u),kv)])) c),(mw,qD it),(it,aI ls p),(ls,oL sc m)]++F)).perm ?_) Mt os G A s _ _ hA50 C ?_
 .refine ae λy=>?_
  exact(aN [_,_,_,_,_,_,_,_,_] [_] 0x8211344f34b2470450c1 0x841534433cd2c91c1:)
 rintro r N s1 ⟨N',⟨ch,rfl,rfl⟩,rfl⟩ C1;show wpAny _ A (execs _ _) _ _ s1;refine NS (rest:=[]) ?_;refine wpAny_Try_except (body:=ao Hy) (orelse:=[]) ?_;rw[<-mj];refine(((ty loc so n2i sl il se nd mw it ls kk v its sc b m p fs hx w).frame ([(sl,oL (stk++[.str (T x) xt]) a),(ploc,po),(lloc,lo),(nd,oD (eS w.params (kvs++[((x,u),kv)])) c)]++F)).perm ?_) Mt os G A s1 _ _ hA50 (C1.perm (.refl _)) ?_
 .refine ae λy=>?_
  exact(aN [_,_,_,_,_,_,_,_,_] [_] 0x8211344f3412c91c50c1 0x821113c934714304b4c1:)
 rintro r N s2 ⟨N',⟨ch,rfl,rfl⟩,rfl⟩ C2;have C3:am Mt os ([(loc,au w.params fB kk [.ref so,.ref n2i,.ref sl,.ref il,.ref se,.ref nd,v] 7 fs),(ploc,po),(lloc,lo),((ch 3).n 1+ab,dq (aZ ch 3))]++([(sl,oL (stk++[.str (T x) xt]) a),(il,oL (its++[.ref mw]) b),(nd,oD (eS w.params (kvs++[((x,u),kv)])) c),(mw,qD it),(it,ar p),(ls,oL sc m)]++F)) s2:=C2.perm (ae λy=>by
  exact(aN [_,_,_,_,_,_,_,_,_,_] [_] 0x208455344f04d2c91c50c1 0x208454b3c91c504d4d10c1:))
 obtain⟨MG,Nn,C4,back⟩:=Mine.frame G C3;refine EN Nn C4 (hA.2.2.2 _ rfl) rfl rfl rfl xz rH ul (λvs h=>nomatch h) d2 d3 λz1 z2 z3 xx pl s3 C5=>?_
 have C6:=back _ _ C5;rw[<-yu];refine(((tz loc so n2i sl il se nd mw ((ch 3).n 1+ab) (aZ ch 3) (xx+ab) kk v stk its a b c z1 kvs x xt u kv pl (by omega) (by omega) (by omega) hn w).frame ([(ploc,ax po z2),(lloc,ax lo z3),(mw,qD it),(it,ar p),(ls,oL sc m)]++F)).perm ?_) Mt os G A s3 _ _ hA50 (C6.perm (.refl _)) ?_
 .refine ae λy=>?_
  have e1:ax (au w.params fB kk [.ref so,.ref n2i,.ref sl,.ref il,.ref se,.ref nd,v] 7 fs) z1=au w.params fB kk [.ref so,.ref n2i,.ref sl,.ref il,.ref se,.ref nd,v] 7 z1:=rfl
  (simp only[eA,s8,eJ,jg,ge,e1];ac_rfl)
 rintro r N s4 ⟨N',⟨ch',rfl,rfl⟩,rfl⟩ C7;show wpAny _ A (execs [] _) _ _ s4;refine OF ?_;refine IH z1 z2 z3 Mt os G A s4 R hA ?_ H;refine am.left (F:=[(mw,qD it),(it,ar p)]) (C7.perm (ae λy=>?_));exact(aN [_,_,_,_,_,_,_,_,_] [_] 0x8211344f34b0491c50c1 0x8f3410842534471432c1:)
end
section
variable{lX:List (Str×Addr)}
structure k6 where
 d:Nd
 t:Tok
 kt:Tok
 ix:Int
 xt:Tok
 mw:Addr
 it:Addr
 p:Nat
noncomputable def ej(es:List k6):List Value:=es.map λe=>.str (T e.d.nm) e.t
noncomputable def eL(es:List k6):List Value:=es.map λe=>.ref e.mw
noncomputable def dK(es:List k6):List KV:=es.map λe=>((e.d.nm,e.kt),.int e.ix e.xt)
noncomputable def jn:List k6->ah
 |[]=>[]
 |e::rs=>[(e.mw,qD e.it),(e.it,aI e.d.ls e.p)]++jn rs
noncomputable def iS:List k6->Option (Pt×List k6)
 |[]=>none
 |e::rs=>(e.d.sc[e.p]?).elim (iS rs) λy=>some (y,{e with p:=e.p+1}::rs)
theorem lW(e:k6)(rs:List k6):iS (e::rs)=(e.d.sc[e.p]?).elim (iS rs) λy=>some (y,{e with p:=e.p+1}::rs):=rfl
structure Fo where
 (loc ploc lloc so n2i sl il se nd:Addr)
 (po lo:Obj)
structure kn where
 (kk:Nat->Tok)
 (fs s2 s3:Array (Option Value))
 (a b c:Nat)
noncomputable def sE(P:Params)(A:Fo)(X:kn)(v:Value)(rs:List k6):ah:=
 [(A.loc,au P fB X.kk [.ref A.so,.ref A.n2i,.ref A.sl,.ref A.il,.ref A.se,.ref A.nd,v] 7 X.fs),(A.ploc,ax A.po X.s2),(A.lloc,ax A.lo X.s3),(A.sl,oL (ej rs.reverse) X.a),(A.il,oL (eL rs.reverse) X.b),(A.nd,oD (eS P (dK rs.reverse)) X.c)]++jn rs
theorem fQ{d:Nd}{ns:List Nd}(h:d∈ns):∃F,((d.a,dW d.da (.str (T d.nm) d.tk) (.int d.np d.nt) d.ls)::(d.ls,oL (vT d.sc) d.m)::F).Perm (ag ns):=by
 obtain⟨A,B,rfl⟩:=List.append_of_mem h;refine⟨ag A++ag B,ae λy=>?_⟩;rw[dE];show cZ y _=cZ y (ag A++(rS d++ag B));exact(aN [_,_] [_,_] 84681092 139688423492:)
theorem rU{d:Nd}{ns:List Nd}(h:d∈ns):∃F,((d.ls,oL (vT d.sc) d.m)::F).Perm (ag ns):=(fQ h).elim λF hF=>⟨_,(List.Perm.swap _ _ _).trans hF⟩
theorem cJ(l:List Pt)(i:Nat):(vT l)[i]?=(l[i]?).map λp=>Value.str (T p.1) p.2:=Mf ..
noncomputable def ij(ns:List Nd):List k6->Prop
 |[]=>True
 |e::rs=>e.d∈ns/\lk (dK rs.reverse) e.d.nm=none/\ij ns rs
theorem qI{ns:List Nd}:∀{rs:List k6},ij ns rs->∀y rs',iS rs=some (y,rs')->ij ns rs'/\rs'.length<=rs.length
 |[],_,_,_,h=>by cases h
 |e::rs,hk,y,rs',h=>by
  rw[lW]at h;cases hy:e.d.sc[e.p]? with
  |some z=>
   rw[hy]at h;cases M2 (show some _=_ from h);exact⟨hk,Me _⟩
  |none=>
   rw[hy]at h;obtain⟨h1,h2⟩:=qI hk.2.2 y rs' h;exact⟨h1,Pd h2⟩
theorem Jy(w:World)(A:Fo)(ns:List Nd)(v:Value)(d2:∀vs,A.po.data≠ .fields vs)(d3:∀vs,A.lo.data≠ .fields vs):∀(rs:List k6) (X:kn),ij ns rs->rs.length<=9000->
  ak w (sG lX A.loc A.ploc A.lloc) 60 (ku iM (hX A.loc)) (sE w.params A X v rs++ag ns) λr N=>∃X',match iS rs with
   |none=>r=.ok .brk/\N.Perm (sE w.params A X' v []++ag ns)
   |some (y,rs')=>r=.ok .next/\N.Perm (sE w.params A X' (.str (T y.1) y.2) rs'++ag ns)
 |[],X,hk,hl=>by
  have t:=(ru A.loc A.so A.n2i A.sl A.il A.se A.nd X.kk v X.a X.fs w).frame ([(A.ploc,ax A.po X.s2),(A.lloc,ax A.lo X.s3),(A.il,oL [] X.b),(A.nd,oD (eS w.params (dK [])) X.c)]++ag ns);intro Mt os G Ar s R hA C H;refine(t.perm ?_) Mt os G Ar s R (hA.none_of rfl (by decide)) C ?_
  .refine ae λy=>?_
   exact(aN [_,_,_,_,_,_] [_] 0x208434b2470450c1 0x210204534b0c91c1:)
  .rintro r N s' ⟨N',⟨ch,rfl,rfl⟩,rfl⟩ C';refine H _ _ s' ⟨X,rfl,ae λy=>?_⟩ C';exact(aN [_,_,_,_,_,_] [_] 0x208434b2470450c1 0x210204534b0c91c1:)
 |e::rs,X,hk,hl=>by
  obtain⟨F,hF⟩:=rU hk.1;have e1:ej (e::rs).reverse=ej rs.reverse++[.str (T e.d.nm) e.t]:=by simp[ej]
  have e2:eL (e::rs).reverse=eL rs.reverse++[.ref e.mw]:=by simp[eL]
  have e3:dK (e::rs).reverse=dK rs.reverse++[((e.d.nm,e.kt),.int e.ix e.xt)]:=by simp[dK]
  have l1:(ej rs.reverse).length=rs.length:=by simp[ej]
  have l2:(eL rs.reverse).length=rs.length:=by simp[eL]
  have l3:(dK rs.reverse).length=rs.length:=by simp[dK]
  rw[Mg]at hl;have eM:sE w.params A X v (e::rs)=[(A.loc,au w.params fB X.kk [.ref A.so,.ref A.n2i,.ref A.sl,.ref A.il,.ref A.se,.ref A.nd,v] 7 X.fs),(A.ploc,ax A.po X.s2),(A.lloc,ax A.lo X.s3),(A.sl,oL (ej rs.reverse++[.str (T e.d.nm) e.t]) X.a),(A.il,oL (eL rs.reverse++[.ref e.mw]) X.b),(A.nd,oD (eS w.params (dK rs.reverse++[((e.d.nm,e.kt),.int e.ix e.xt)])) X.c)]++((e.mw,qD e.it)::(e.it,aI e.d.ls e.p)::jn rs):=by
   unfold sE;rw[e1,e2,e3];rfl
  rw[eM];cases hy:e.d.sc[e.p]? with
  |some y=>
   have t:=(tA A.loc A.so A.n2i A.sl A.il A.se A.nd e.mw e.it e.d.ls X.kk v (.str (T e.d.nm) e.t) (ej rs.reverse) (eL rs.reverse) (vT e.d.sc) X.a X.b e.d.m e.p X.fs y.1 y.2 (by rw[Mn,l1];simp;omega) (by simp) (by rw[cJ,hy];rfl) w).frame ([(A.ploc,ax A.po X.s2),(A.lloc,ax A.lo X.s3),(A.nd,oD (eS w.params (dK rs.reverse++[((e.d.nm,e.kt),.int e.ix e.xt)])) X.c)]++jn rs++F);intro Mt os G Ar s R hA C H;refine(t.perm ?_) Mt os G Ar s R (hA.none_of rfl (by decide)) C ?_
   .refine List.Perm.trans (ae λz=>?_) (Mu _ hF);exact(aN [_,_,_,_,_,_,_,_,_] [_,_] 0x8218211344f04d2c91c50c1 0x831821c510d4d12c93c1:)
   .rintro r N s' ⟨N',⟨ch,rfl,rfl⟩,rfl⟩ C';refine H _ _ s' ⟨X,?_⟩ C';have hp:iS (e::rs)=some (y,{e with p:=e.p+1}::rs):=by rw[lW,hy];rfl
    rw[hp];refine⟨rfl,?_⟩;have eM2:sE w.params A X (.str (T y.1) y.2) ({e with p:=e.p+1}::rs)=[(A.loc,au w.params fB X.kk [.ref A.so,.ref A.n2i,.ref A.sl,.ref A.il,.ref A.se,.ref A.nd,.str (T y.1) y.2] 7 X.fs),(A.ploc,ax A.po X.s2),(A.lloc,ax A.lo X.s3),(A.sl,oL (ej rs.reverse++[.str (T e.d.nm) e.t]) X.a),(A.il,oL (eL rs.reverse++[.ref e.mw]) X.b),(A.nd,oD (eS w.params (dK rs.reverse++[((e.d.nm,e.kt),.int e.ix e.xt)])) X.c)]++((e.mw,qD e.it)::(e.it,aI e.d.ls (e.p+1))::jn rs):=by
     unfold sE;rw[show ej ({e with p:=e.p+1}::rs).reverse=ej rs.reverse++[.str (T e.d.nm) e.t]by simp[ej],show eL ({e with p:=e.p+1}::rs).reverse=eL rs.reverse++[.ref e.mw]by simp[eL],show dK ({e with p:=e.p+1}::rs).reverse=dK rs.reverse++[((e.d.nm,e.kt),.int e.ix e.xt)]by simp[dK]];rfl
    rw[eM2];refine List.Perm.trans (ae λz=>?_) (Mu _ hF);exact(aN [_,_,_,_,_,_,_,_,_] [_,_] 0x8218211344f04d2c91c50c1 0x831821c510d4d12c93c1:)
  |none=>
   have hp:iS (e::rs)=iS rs:=by
    rw[lW,hy];rfl
   have t:=Ax (lX:=lX) A.loc A.ploc A.lloc A.so A.n2i A.sl A.il A.se A.nd e.mw e.it e.d.ls X.kk v (ej rs.reverse) (eL rs.reverse) (vT e.d.sc) X.a X.b X.c e.d.m e.p X.fs (ax A.po X.s2) (ax A.lo X.s3) (dK rs.reverse) e.d.nm e.t e.kt (.int e.ix e.xt) (jn rs++F) (by rw[cJ,hy];rfl) (by omega) (by omega) (by omega) hk.2.1 d2 d3 w
    (λr N=>∃X',match iS (e::rs)with
     |none=>r=.ok .brk/\N.Perm (sE w.params A X' v []++ag ns)
     |some (y,rs')=>r=.ok .next/\N.Perm (sE w.params A X' (.str (T y.1) y.2) rs'++ag ns)) ?_
   .refine t.perm (List.Perm.trans (ae λz=>?_) (Mu _ hF));exact(aN [_,_,_,_,_,_,_,_,_] [_,_] 0x821844d13cd2c91c50c1 0x831821c511344f34b241:)
   .intro fs' z2 z3;rw[hp];have ih:=Jy w A ns v d2 d3 rs ⟨X.kk,fs',z2,z3,X.a+1,X.b+1,X.c+1⟩ hk.2.2 (by omega);refine ih.perm (List.Perm.trans (Mu _ hF.symm) (ae λz=>?_));exact(aN [_,_,_,_,_,_,_] [_,_] 0x8f18210d2c91c50c1 0x8218434b2471433c1:)
end
section
section
variable(w:World)(loc so n2i sl il se nd a da ls:Addr)(kk:Nat->Tok)(c n m aa b:Nat)(fs:Array (Option Value))(sv:Data)(ss:List (List Nat))(kvs kns:List KV)(y:List Nat)(yt:Tok)(nmv npv:Value)(sc its stk:List Value)
noncomputable def tx(w:World):=
 aq (mT) 50 (λP=>kB (aE iN) (hX loc))
 (λP=>[]) (λP=>[])
 0 (λw=>[])
 [] [] (λP ch=>.ok true) (λP ch=>[]) (λP ch=>[]) w
noncomputable def tw(hs:bK w.params (aL sv) ss)(hy:ss.contains y=true)(hk:(lk kvs y).isSome=false):=
 vH (λP=>bK P (aL sv) ss) mT 50 (λP=>kd [aP (ao iN) 0] (hX loc)) (λP=>[(loc,au P fB kk [.ref so,.ref n2i,.ref sl,.ref il,.ref se,.ref nd,.str (T y) yt] 7 fs),(se,aL sv),(nd,oD (eS P kvs) c)]) (λP=>[])
 74059054235279685 (λw hs=>[rF 0 [1] [] (tr:=λhh=>(BX se sv y yt Bool.true)) λhh=>jD _ _ _ _ _ _ hs hy,rF 0 [2] [] (tr:=λhh=>(JK nd (eS w.params kvs) c (.str (T y) yt) Bool.false)) λhh=>AK _ _ _ _ _ _ hk]) [0,1,2] [] (λP ch=>.ok PySem.Flow.next) (λP ch=>[(loc,au P fB kk [.ref so,.ref n2i,.ref sl,.ref il,.ref se,.ref nd,.str (T y) yt] 7 fs),(se,aL sv),(nd,oD (eS P kvs) c)]) (λP ch=>[]) w hs
noncomputable def wW(hs:bK w.params (aL sv) ss)(hss:ss.length<=1000)(hy:ss.contains y=false)(hk:lk kvs y=none)(hkl:kvs.length<=10000)(hn:lk kns y=some (.ref a))(hi:its.length<=10000)(hst:stk.length<=10000):=
 vH (λP=>bK P (aL sv) ss) mT 50 (λP=>kd [aP (ao iN) 0] (hX loc)) (λP=>[(loc,au P fB kk [.ref so,.ref n2i,.ref sl,.ref il,.ref se,.ref nd,.str (T y) yt] 7 fs),(se,aL sv),(nd,oD (eS P kvs) c),(n2i,oD (eS P kns) n),(a,dW da nmv npv ls),(ls,oL sc m),(il,oL its b),(sl,oL stk aa)]) (λP=>[])
 0x10530c30c1441c714510214104408d08234d34234234d08a08a28208224124104204104904108108104104104104908104124420820514104b2cb2c5105186186144186145 (λw hs=>[rF 0 [1] [] (tr:=λhh=>(BX se sv y yt Bool.false)) λhh=>jD _ _ _ _ _ _ hs hy,rF 0 [1] [] (tr:=λhh=>(zB w.params se sv y yt ss)) λhh=>xq _ _ _ _ _ hs hss,rF 0 [3] [] (tr:=λhh=>(JM n2i (eS w.params kns) n (.str (T y) yt) (.ref a))) λhh=>fg _ _ _ _ _ _ hn,rF 0 [6] [] (tr:=λhh=>(sx il its b (.ref (aZ hh 6)))) λhh=>c7 _ _ _ _ hi,rF 0 [7] [] (tr:=λhh=>(tL (.ref sl) [(sl,oL stk aa)] (List.length stk))) λhh=>aF _ _ _ _ rfl hst,rF 0 [2] [] (tr:=λhh=>(FP nd (eS w.params kvs) c (.str (T y) yt) (.int (Int.ofNat (List.length stk)) (nZ hh 8)) (eS w.params (kvs++[((y,yt),.int (Int.ofNat (List.length stk)) (nZ hh 8))])) (c+1))) λhh=>tU _ _ _ _ _ _ hk hkl,rF 0 [7] [] (tr:=λhh=>(sx sl stk aa (.str (T y) yt))) λhh=>c7 _ _ _ _ hst]) [0,1,2,3,4,5,6,7,8,9] [] (λP ch=>.ok PySem.Flow.next) (λP ch=>[(loc,au P fB kk [.ref so,.ref n2i,.ref sl,.ref il,.ref se,.ref nd,.str (T y) yt] 7 fs),(se,aL (nK P (y::ss) (ch 1))),(nd,oD (eS P (kvs++[((y,yt),.int (Int.ofNat (List.length stk)) (nZ ch 8))])) (c+1)),(n2i,oD (eS P kns) n),(a,dW da nmv npv ls),(ls,oL sc m),(il,oL (its++[.ref (aZ ch 6)]) (b+1)),(sl,oL (stk++[.str (T y) yt]) (aa+1)),(aZ ch 4,aI ls 0),(aZ ch 6,qD (aZ ch 4))]) (λP ch=>[]) w hs
end
end
section
variable{lX:List (Str×Addr)}
theorem rp(st:Stmt)(env:Env):execs [st] env=exec st env:=by
 rw[execs_cons];have:(λf:Flow=>(match f with |.next=>execs [] env |f=>pure f:Sem Flow))=pure:=by
  funext f;cases f<;>rfl
 show(exec st env>>=λf=>match f with |.next=>execs [] env |f=>pure f)=exec st env;rw[this,bind_pure]
noncomputable abbrev oq:=List Nat×List (List Nat)×Nat
noncomputable def pi:List oq->Option (List Nat×List oq)
 |[]=>none
 |(nm,sc,p)::rs=>(sc[p]?).elim (pi rs) λy=>some (y,(nm,sc,p+1)::rs)
noncomputable def sD(G:List (List Nat×List (List Nat))):Nat->List (List Nat)->List oq->List Nat->Option (List (List Nat))
 |0,_,_,_=>none
 |f+1,aw,rs,v=>bif rs.any (·.1==v)then none else bif aw.contains v then(pi rs).elim (some aw) λq=>sD G f aw q.2 q.1
  else(G.find? (·.1==v)).bind λx=>(pi ((v,x.2,0)::rs)).elim (some (v::aw)) λq=>sD G f (v::aw) q.2 q.1
noncomputable def lu(G:List (List Nat×List (List Nat)))(f:Nat)(aw:List (List Nat))(rs:List oq):Option (List (List Nat)):=(pi rs).elim (some aw) λq=>sD G f aw q.2 q.1
theorem pV{G:List (List Nat×List (List Nat))}{f:Nat}{aw:List (List Nat)}{rs:List oq}{v:List Nat}{r:List (List Nat)}(h:sD G (f+1) aw rs v=some r):
  rs.any (·.1==v)=false/\((aw.contains v=true/\lu G f aw rs=some r)\/(aw.contains v=false/\∃x,G.find? (·.1==v)=some x/\lu G f (v::aw) ((v,x.2,0)::rs)=some r)):=by
 have h:(bif rs.any (·.1==v)then none else bif aw.contains v then lu G f aw rs else(G.find? (·.1==v)).bind λx=>lu G f (v::aw) ((v,x.2,0)::rs))=some r:=h;cases h1:rs.any (·.1==v)with
 |true=>rw[h1]at h;exact nS h
 |false=>
  rw[h1]at h;refine⟨rfl,?_⟩;cases h2:aw.contains v with
  |true=>rw[h2]at h;exact .inl ⟨rfl,h⟩
  |false=>rw[h2]at h;exact .inr ⟨rfl,Mk.mp h⟩
noncomputable def k7(rs:List k6):List oq:=rs.map λe=>(e.d.nm,e.d.sc.map (·.1),e.p)
noncomputable def fA(ns:List Nd):List (List Nat×List (List Nat)):=ns.map λd=>(d.nm,d.sc.map (·.1))
theorem nz:∀rs:List k6,pi (k7 rs)=(iS rs).map λq=>(q.1.1,k7 q.2)
 |[]=>rfl
 |e::rs=>by
  show(((e.d.sc.map (·.1))[e.p]?).elim (pi (k7 rs)) λy=>some (y,(e.d.nm,e.d.sc.map (·.1),e.p+1)::k7 rs))=(iS (e::rs)).map _;rw[lW];rw[Mf];cases e.d.sc[e.p]? with
  |some y=>rfl
  |none=>exact nz rs
theorem o6{rs:List k6}{v:List Nat}(h:(k7 rs).any (·.1==v)=false):lk (dK rs.reverse) v=none:=by
 unfold lk;rw[Option.map_eq_none_iff,O8];intro q hq;obtain⟨e,he,rfl⟩:=ML.mp hq;rw[Ps]at he;intro hc;have:(k7 rs).any (·.1==v)=true:=Pk.mpr ⟨_,ML.mpr ⟨e,he,rfl⟩,hc⟩;rw[h]at this;cases this
noncomputable def rt(P:Params)(A:Fo)(X:kn)(v:Value)(rs:List k6)(sv:Data)(n:Nat)(ns:List Nd):ah:=sE P A X v rs++[(A.se,aL sv),(A.n2i,oD (eS P (ac ns)) n)]++ag ns
theorem tD{ns:List Nd}{v:List Nat}{q:List Nat×List (List Nat)}(h:(fA ns).find? (·.1==v)=some q):∃d∈ns,d.nm=v/\q=(d.nm,d.sc.map (·.1))/\lk (ac ns) v=some (.ref d.a):=by
 unfold fA at h;rw[PO]at h;obtain⟨d,hd,rfl⟩:=MW.mp h;have h1:=Q8 hd;have h2:=PW hd;have h3:d.nm=v:=by simpa using h1
 refine⟨d,h2,h3,rfl,?_⟩;unfold lk ac;rw[PO];have:((λp:KV=>p.1.1==v)∘λd:Nd=>(((d.nm,d.kt),Value.ref d.a):KV))=((λq:List Nat×List (List Nat)=>q.1==v)∘λd:Nd=>(d.nm,d.sc.map (·.1))):=rfl;rw[this,hd];rfl
theorem Av(w:World)(A:Fo)(ns:List Nd)(n:Nat)(d2:∀vs,A.po.data≠ .fields vs)(d3:∀vs,A.lo.data≠ .fields vs):∀(f:Nat) (aw:List (List Nat)) (rs:List k6) (X:kn) (v:Pt) (sv:Data) (seen':List (List Nat)),
  sD (fA ns) f aw (k7 rs) v.1=some seen'->ij ns rs->rs.length+f<=900->aw.length+f<=900->bK w.params (aL sv) aw->
  ak w (sG lX A.loc A.ploc A.lloc) 60 (ku iN (hX A.loc)) (rt w.params A X (.str (T v.1) v.2) rs sv n ns) λr N=>r=.ok .next/\gc λX' v' sv'=>bK w.params (aL sv') seen'/\N.Perm (rt w.params A X' v' [] sv' n ns):=by
 intro f
 induction f with
 |zero=>intro aw rs X v sv seen' h;cases h
 |succ f ih=>
  intro aw rs X v sv seen' h hk l1 l2 hs Mt os G Ar s R hA C H;have hA50:b0 mT 50 Ar:=hA.none_of rfl (by decide);refine kg ?_;rw[<-ja];refine(((tx A.loc w).frame (rt w.params A X (.str (T v.1) v.2) rs sv n ns))) Mt os G Ar s _ _ hA50 C ?_;rintro r N s1 ⟨N',⟨ch,rfl,rfl⟩,rfl⟩ C1;show wpAny _ Ar (execs (ao iN) _) _ _ s1;rw[show ao iN=[aP (ao iN) 0,iM]from rfl];refine NS ?_;rw[<-rp,<-mj];obtain⟨hany,h⟩:=pV h;have hn:=o6 hany;have rest:∀(rs2:List k6) (X2:kn) (sv2:Data) (seen2:List (List Nat)) (s2:Shared),ij ns rs2->rs2.length<=rs.length+1->seen2.length<=aw.length+1->bK w.params (aL sv2) seen2->
    lu (fA ns) f seen2 (k7 rs2)=some seen'->am Mt os (rt w.params A X2 (.str (T v.1) v.2) rs2 sv2 n ns) s2->
    wpAny (model pw w) Ar (execs [iM] (hX A.loc)) (λf_1 MD=>match f_1 with
     |.next |.cont=>codeAny (model pw w) Ar (.whileLoop (aE iN) (ao iN) (dQ iN) (hX A.loc)) R MD
     |.brk=>R (.ok .next) MD
     |.ret v=>R (.ok (.ret v)) MD) (notedBy (model pw w) Ar (hX A.loc) λe s'=>R (.error e) s') s2:=by
   intro rs2 X2 sv2 seen2 s2 hk2 hr2 hs2 hse2 hf C2;refine NS (rest:=[]) ?_;refine wpAny_While (test:=aE iM) (body:=ao iM) (orelse:=dQ iM) ?_;refine(((Jy (lX:=lX) w A ns (.str (T v.1) v.2) d2 d3 rs2 X2 hk2 (by omega)).frame [(A.se,aL sv2),(A.n2i,oD (eS w.params (ac ns)) n)]).perm ?_) Mt os G Ar s2 _ hA C2 ?_
   .refine ae λy=>?_
    exact(aN [_,_,_,_,_,_,_,_] [_,_] 0x244f04218210d2c91c50c1 0x218244f04210d2c91c50c1:)
   rintro r N s3 ⟨N',⟨X3,hq⟩,rfl⟩ C3;unfold lu at hf;rw[nz]at hf;cases hp:iS rs2 with
   |none=>
    rw[hp]at hq hf;obtain⟨rfl,hN⟩:=hq;have hf:=M2 (show some _=_ from hf);subst hf;refine H _ _ s3 ⟨rfl,X3,.str (T v.1) v.2,sv2,hse2,?_⟩ (C3.perm (.refl _));refine(hN.append_right _).trans (ae λy=>?_);exact(aN [_,_,_,_,_,_,_,_] [_] 0x244f04210204d2c91c50c1 0x210244f04204d2c91c50c1:)
   |some q=>
    obtain⟨y,rs'⟩:=q;rw[hp]at hq hf;obtain⟨rfl,hN⟩:=hq;obtain⟨hk3,hl3⟩:=qI hk2 y rs' hp;show wpAny _ Ar (execs [] _) _ _ s3;refine OF ?_;refine ih seen2 rs' X3 y sv2 seen' hf hk3 (by omega) (by omega) hse2 Mt os G Ar s3 R hA (C3.perm ?_) H;refine(hN.append_right _).trans (ae λz=>?_);exact(aN [_,_,_,_,_,_,_,_] [_,_] 0x244f04218210d2c91c50c1 0x218244f04210d2c91c50c1:)
  rcases h with⟨hc,h⟩ |⟨hc,q,hg,h⟩
  .refine(((tw w A.loc A.so A.n2i A.sl A.il A.se A.nd X.kk X.c X.fs sv aw (dK rs.reverse) v.1 v.2 hs hc (by rw[hn];rfl)).frame ([(A.ploc,ax A.po X.s2),(A.lloc,ax A.lo X.s3),(A.sl,oL (ej rs.reverse) X.a),(A.il,oL (eL rs.reverse) X.b)]++jn rs++[(A.n2i,oD (eS w.params (ac ns)) n)]++ag ns)).perm ?_) Mt os G Ar s1 _ _ hA50 (C1.perm (.refl _)) ?_
   .refine ae λy=>?_
    exact(aN [_,_,_,_,_,_,_,_] [_,_] 0x208609104210f34b2411c50c1 0x20860854410841cf34b243041:)
   rintro r N s2 ⟨N',⟨ch,rfl,rfl⟩,rfl⟩ C2;refine rest rs X sv aw s2 hk (by omega) (by omega) hs h (C2.perm (ae λy=>?_));exact(aN [_,_,_,_,_,_,_,_] [_,_] 0x208609104210f34b2411c50c1 0x21821510421073cd2c90c1:)
  .obtain⟨d,hd,hdn,rfl,hlk⟩:=tD hg;obtain⟨F,hF⟩:=fQ hd;have l1':(dK rs.reverse).length=rs.length:=by simp[dK]
   have l2':(eL rs.reverse).length=rs.length:=by simp[eL]
   have l3':(ej rs.reverse).length=rs.length:=by simp[ej]
   refine(((wW w A.loc A.so A.n2i A.sl A.il A.se A.nd d.a d.da d.ls X.kk X.c n d.m X.a X.b X.fs sv aw (dK rs.reverse) (ac ns) v.1 v.2 (.str (T d.nm) d.tk) (.int d.np d.nt) (vT d.sc) (eL rs.reverse) (ej rs.reverse) hs (by omega) hc hn (by omega) hlk (by omega) (by omega)).frame ([(A.ploc,ax A.po X.s2),(A.lloc,ax A.lo X.s3)]++jn rs++F)).perm ?_) Mt os G Ar s1 _ _ hA50 (C1.perm (.refl _)) ?_
   .refine ae λy=>?_
    exact(IX [_,_,_,_,_,_,_,_,_,_] [_,_,_] 0x20860845530513cd2c91c50c1 0x208808f2c10844554c314d041 37318 8 (th hF y):)
   rintro r N s2 ⟨N',⟨ch,rfl,rfl⟩,rfl⟩ C2;let e:k6:=⟨d,v.2,v.2,Int.ofNat (ej rs.reverse).length,nZ ch 8,aZ ch 6,aZ ch 4,0⟩;have e1:ej (e::rs).reverse=ej rs.reverse++[.str (T v.1) v.2]:=by simp[ej,e,hdn]
   have e2:eL (e::rs).reverse=eL rs.reverse++[.ref (aZ ch 6)]:=by simp[eL,e]
   have e3:dK (e::rs).reverse=dK rs.reverse++[((v.1,v.2),.int (Int.ofNat (ej rs.reverse).length) (nZ ch 8))]:=by simp[dK,e,hdn]
   have hn':lk (dK rs.reverse) e.d.nm=none:=by show lk _ d.nm=none;rw[hdn];exact hn
   refine rest (e::rs) ⟨X.kk,X.fs,X.s2,X.s3,X.a+1,X.b+1,X.c+1⟩ (nK w.params (v.1::aw) (ch 1)) (v.1::aw) s2 ⟨hd,hn',hk⟩ (Me _) (Me _) (yj _ _ _ (by simp;omega)) ?_ (C2.perm (ae λy=>?_))
   .show lu (fA ns) f (v.1::aw) ((d.nm,d.sc.map (·.1),0)::k7 rs)=some seen';rw[hdn];exact h
   .have e5:jn (e::rs)=[(aZ ch 6,qD (aZ ch 4)),(aZ ch 4,aI d.ls 0)]++jn rs:=rfl
    (simp only[rt,sE,e1,e2,e3,e5];exact(IX [_,_,_,_,_,_,_,_,_,_,_,_] [_,_,_] 0x20860846570554d13cd2c91c50c1 0x22024cf0420840c50556571c9441 53958 8 (th hF y):))
end
section
variable{lX:List (Str×Addr)}
noncomputable abbrev F3:=kn×Value×Data
noncomputable def Aw:kn:=⟨λ_=>0, #[], #[], #[],0,0,0⟩
open Classical in
noncomputable def aK(P:Params)(aw:List (List Nat))(u:U):F3:=if bK P (aL (u.u F3 (Aw,.none,default)).2.2) aw then u.u F3 (Aw,.none,default)else(Aw,.none,(uC P aw).data)
theorem mI(P:Params)(aw:List (List Nat))(u:U)(h:aw.length<4096):bK P (aL (aK P aw u).2.2) aw:=by
 unfold aK;split
 .assumption
 .exact mZ P aw h
noncomputable def qS(P:Params)(loc ploc lloc so n2i sl il se nd:Addr)(po lo:Obj)(kk:Nat->Tok)(fs s2 s3:Array (Option Value))(a b c n:Nat)(v:Pt)(sv:Data)(ns:List Nd)(seen':List (List Nat)):Tr:=
 ⟨[ag ns],λ_=>[ag ns],λ_=>[],ku iN (hX loc),[(loc,au P fB kk [.ref so,.ref n2i,.ref sl,.ref il,.ref se,.ref nd,.str (T v.1) v.2] 7 fs),(ploc,ax po s2),(lloc,ax lo s3),(sl,oL [] a),(il,oL [] b),(nd,oD [] c),(se,aL sv),(n2i,oD (eS P (ac ns)) n)],λ_=>.ok .next,λu=>[au P fB (aK P seen' u).1.kk [.ref so,.ref n2i,.ref sl,.ref il,.ref se,.ref nd,(aK P seen' u).2.1] 7 (aK P seen' u).1.fs,ax po (aK P seen' u).1.s2,ax lo (aK P seen' u).1.s3,oL [] (aK P seen' u).1.a,oL [] (aK P seen' u).1.b,oD [] (aK P seen' u).1.c,aL (aK P seen' u).2.2,oD (eS P (ac ns)) n],λ_=>[]⟩
theorem yZ(loc ploc lloc so n2i sl il se nd:Addr)(po lo:Obj)(kk:Nat->Tok)(fs s2 s3:Array (Option Value))(a b c n:Nat)(v:Pt)(sv:Data)(ns:List Nd)(seen' aw:List (List Nat))(f:Nat)(w:World)
  (hf:sD (fA ns) f aw [] v.1=some seen') (hs:bK w.params (aL sv) aw) (l1:f<=400) (l2:aw.length<=400) (d2:∀vs,po.data≠ .fields vs) (d3:∀vs,lo.data≠ .fields vs):
  af w (sG lX loc ploc lloc) 60 (qS w.params loc ploc lloc so n2i sl il se nd po lo kk fs s2 s3 a b c n v sv ns seen'):=by
 refine ak.tri (λ_=>⟨rfl,rfl⟩) ((Av (lX:=lX) w ⟨loc,ploc,lloc,so,n2i,sl,il,se,nd,po,lo⟩ ns n d2 d3 f aw [] ⟨kk,fs,s2,s3,a,b,c⟩ v sv seen' hf trivial (by simp;omega) (by omega) hs).perm ?_) ?_
 .refine ae λy=>?_
  exact(aN [_,_,_,_,_,_,_,_] [_] 0x210244f04204d2c91c50c1 0x208110d2c91c50d13c1:)
 .rintro r N ⟨rfl,X',v',sv',hs',hN⟩;obtain⟨u,_,hu⟩:=n9 (X',v',sv') (λ_=>0);have e:aK w.params seen' u=(X',v',sv'):=by
   unfold aK;rw[hu,if_pos hs']
  refine⟨u,rfl,hN.trans (ae λy=>?_)⟩
  (simp only[qS,e,rt,sE,jn,ej,eL,dK,Pu,Na,eS,bO,bP];exact(aN [_,_,_,_,_,_,_,_] [_] 0x210244f04204d2c91c50c1 0x208110204d2c91c50d13c1:))
end
section
section
variable(w:World)(lX:List (Str×Addr))(it loc ploc lloc so n2i sl il se nd:Addr)(po lo:Obj)(kk:Nat->Tok)(fs s2 s3:Array (Option Value))(a b c n i sz f:Nat)(y:Pt)(vv v:Value)(sv:Data)(ns:List Nd)(aw seen':List (List Nat))
noncomputable def tv(hz:(ac ns).length=sz)(hx:(ac ns)[i]?=some ((y.1,y.2),vv))(hs:bK w.params (aL sv) aw)(hy:aw.contains y.1=true):=
 qW (λP=>bK P (aL sv) aw) mT 70 (λP=>aG vN it (hX loc)) (λP=>[(it,qC n2i i sz n),(n2i,oD (eS P (ac ns)) n),(loc,au P fB kk [.ref so,.ref n2i,.ref sl,.ref il,.ref se,.ref nd,v] 7 fs),(se,aL sv)]) (λP=>[])
 0x42081c71c7105 (λw hs=>[rF 0 [0,1] [] (tr:=λhh=>(FQ it n2i (eS w.params (ac ns)) n i sz (.str (T y.1) y.2))) λhh=>lE _ _ _ _ _ _ _ _ _ hz hx,rF 0 [3] [] (tr:=λhh=>(BX se sv y.1 y.2 Bool.true)) λhh=>jD _ _ _ _ _ _ hs hy]) [0,1,2,3] [] (λP ch=>.ok (.again (aG vN it (hX loc)))) (λP ch=>[(it,qC n2i (i+1) sz n),(n2i,oD (eS P (ac ns)) n),(loc,au P fB kk [.ref so,.ref n2i,.ref sl,.ref il,.ref se,.ref nd,.str (T y.1) y.2] 7 fs),(se,aL sv)]) (λP ch=>[]) w hs
noncomputable def Ay(hz:(ac ns).length=sz)(hx:(ac ns)[i]?=some ((y.1,y.2),vv))(hs:bK w.params (aL sv) aw)(hy:aw.contains y.1=false)(hf:sD (fA ns) f aw [] y.1=some seen')(l1:f<=400)(l2:aw.length<=400)(d2:∀vs,po.data≠ .fields vs)(d3:∀vs,lo.data≠ .fields vs):=
 qW (λP=>bK P (aL sv) aw) (sG lX loc ploc lloc) 70 (λP=>aG vN it (hX loc)) (λP=>[(it,qC n2i i sz n),(n2i,oD (eS P (ac ns)) n),(loc,au P fB kk [.ref so,.ref n2i,.ref sl,.ref il,.ref se,.ref nd,v] 7 fs),(se,aL sv),(ploc,ax po s2),(lloc,ax lo s3),(sl,oL [] a),(il,oL [] b),(nd,oD [] c)]) (λP=>[ag ns])
 73219235708170501 (λw hs=>[rF 0 [0,1] [] (tr:=λhh=>(FQ it n2i (eS w.params (ac ns)) n i sz (.str (T y.1) y.2))) λhh=>lE _ _ _ _ _ _ _ _ _ hz hx,rF 0 [3] [] (tr:=λhh=>(BX se sv y.1 y.2 Bool.false)) λhh=>jD _ _ _ _ _ _ hs hy,rM (λhh=>(sG lX loc ploc lloc)) 60 [2,4,5,6,7,8,3,1] [0] (tr:=λhh=>(qS w.params loc ploc lloc so n2i sl il se nd po lo kk fs s2 s3 a b c n y sv ns seen')) λhh=>yZ _ _ _ _ _ _ _ _ _ _ _ _ _ _ _ _ _ _ _ _ _ _ _ _ _ _ hf hs l1 l2 d2 d3]) [0,1,2,3,4,5,6,7,8] [0] (λP ch=>.ok (.again (aG vN it (hX loc)))) (λP ch=>[(it,qC n2i (i+1) sz n),(n2i,oD (eS P (ac ns)) n),(loc,au P fB (Mine.kn.kk (aK P seen' (ch 3)).1) [.ref so,.ref n2i,.ref sl,.ref il,.ref se,.ref nd,(aK P seen' (ch 3)).2.1] 7 (Mine.kn.fs (aK P seen' (ch 3)).1)),(se,aL (aK P seen' (ch 3)).2.2),(ploc,ax po (Mine.kn.s2 (aK P seen' (ch 3)).1)),(lloc,ax lo (Mine.kn.s3 (aK P seen' (ch 3)).1)),(sl,oL [] (Mine.kn.a (aK P seen' (ch 3)).1)),(il,oL [] (Mine.kn.b (aK P seen' (ch 3)).1)),(nd,oD [] (Mine.kn.c (aK P seen' (ch 3)).1))]) (λP ch=>[ag ns]) w hs
noncomputable def wV(hz:(ac ns).length=sz)(hx:(ac ns)[i]?=some ((y.1,y.2),vv))(hs:bK w.params (aL sv) aw)(hy:aw.contains y.1=false)(hf:sD (fA ns) f aw [] y.1=some seen')(l1:f<=400)(l2:aw.length<=400)(d2:∀vs,po.data≠ .fields vs)(d3:∀vs,lo.data≠ .fields vs):=
 qW (λP=>bK P (aL sv) aw) (sG lX loc ploc lloc) 70 (λP=>aG vN it (hX loc)) (λP=>[(it,qC n2i i sz n),(n2i,oD (eS P (ac ns)) n),(loc,au P fB kk [.ref so,.ref n2i,.ref sl,.ref il,.ref se,.ref nd] 6 fs),(se,aL sv),(ploc,ax po s2),(lloc,ax lo s3),(sl,oL [] a),(il,oL [] b),(nd,oD [] c)]) (λP=>[ag ns])
 73219235708170501 (λw hs=>[rF 0 [0,1] [] (tr:=λhh=>(FQ it n2i (eS w.params (ac ns)) n i sz (.str (T y.1) y.2))) λhh=>lE _ _ _ _ _ _ _ _ _ hz hx,rF 0 [3] [] (tr:=λhh=>(BX se sv y.1 y.2 Bool.false)) λhh=>jD _ _ _ _ _ _ hs hy,rM (λhh=>(sG lX loc ploc lloc)) 60 [2,4,5,6,7,8,3,1] [0] (tr:=λhh=>(qS w.params loc ploc lloc so n2i sl il se nd po lo (kx kk 6 [nZ hh 1]) fs s2 s3 a b c n y sv ns seen')) λhh=>yZ _ _ _ _ _ _ _ _ _ _ _ _ _ _ _ _ _ _ _ _ _ _ _ _ _ _ hf hs l1 l2 d2 d3]) [0,1,2,3,4,5,6,7,8] [0] (λP ch=>.ok (.again (aG vN it (hX loc)))) (λP ch=>[(it,qC n2i (i+1) sz n),(n2i,oD (eS P (ac ns)) n),(loc,au P fB (Mine.kn.kk (aK P seen' (ch 3)).1) [.ref so,.ref n2i,.ref sl,.ref il,.ref se,.ref nd,(aK P seen' (ch 3)).2.1] 7 (Mine.kn.fs (aK P seen' (ch 3)).1)),(se,aL (aK P seen' (ch 3)).2.2),(ploc,ax po (Mine.kn.s2 (aK P seen' (ch 3)).1)),(lloc,ax lo (Mine.kn.s3 (aK P seen' (ch 3)).1)),(sl,oL [] (Mine.kn.a (aK P seen' (ch 3)).1)),(il,oL [] (Mine.kn.b (aK P seen' (ch 3)).1)),(nd,oD [] (Mine.kn.c (aK P seen' (ch 3)).1))]) (λP ch=>[ag ns]) w hs
noncomputable def pW(m:Nat)(vs:List Value)(fs:Array (Option Value))(ns:List Nd)(hz:(ac ns).length=sz)(hx:(ac ns)[i]?=none)(w:World):=
 cY (mT) 70 (λP=>aG vN it (hX loc))
 (λP=>[(it,qC n2i i sz n),(n2i,oD (eS P (ac ns)) n),(loc,au P fB kk vs m fs)]) (λP=>[])
 35930434 (λw=>[rT 0 [0,1] [] λhh=>xl it n2i n i sz 0 (ac ns) hz hx])
 [0,1,2] [] (λP ch=>(.ok .next)) (λP ch=>[(it,lO i sz n),(n2i,oD (eS P (ac ns)) n),(loc,au P fB kk vs m fs)]) (λP ch=>[]) w
end
end
section
variable{lX:List (Str×Addr)}
noncomputable def dO(G:List (List Nat×List (List Nat)))(f:Nat):List (List Nat)->List (List Nat)->Option (List (List Nat))
 |[],aw=>some aw
 |y::rest,aw=>bif aw.contains y then dO G f rest aw else bif Nat.ble aw.length 400 then(sD G f aw [] y).bind λs=>dO G f rest s else none
theorem kG{G:List (List Nat×List (List Nat))}{f:Nat}{y:List Nat}{rest aw r:List (List Nat)}(h:dO G f (y::rest) aw=some r):
  (aw.contains y=true/\dO G f rest aw=some r)\/(aw.contains y=false/\aw.length<=400/\∃s,sD G f aw [] y=some s/\dO G f rest s=some r):=by
 have h:(bif aw.contains y then dO G f rest aw else bif Nat.ble aw.length 400 then(sD G f aw [] y).bind λs=>dO G f rest s else none)=some r:=h;cases h1:aw.contains y with
 |true=>rw[h1]at h;exact .inl ⟨rfl,h⟩
 |false=>
  rw[h1]at h;obtain⟨h2,h⟩:=du h;exact .inr ⟨rfl,Mm h2,Mk.mp h⟩
noncomputable abbrev G8:=Obj×Obj×Obj×Obj×Obj×Obj×Array (Option Value)×Array (Option Value)
noncomputable def rq(P:Params)(it n2i loc se ploc lloc sl il nd:Addr)(po lo:Obj)(n:Nat)(ns:List Nd)(g:G8):ah:=
 [(it,g.1),(n2i,oD (eS P (ac ns)) n),(loc,g.2.1),(se,g.2.2.1),(ploc,ax po g.2.2.2.2.2.2.1),(lloc,ax lo g.2.2.2.2.2.2.2),(sl,g.2.2.2.1),(il,g.2.2.2.2.1),(nd,g.2.2.2.2.2.1)]++ag ns
theorem de(ns:List Nd):(ac ns).length=ns.length:=Mc _
theorem lr(G:List (List Nat×List (List Nat))):∀(f:Nat) (aw:List (List Nat)) (rs:List oq) (v:List Nat) (seen':List (List Nat)),sD G f aw rs v=some seen'->seen'.length<=aw.length+f
 |0,_,_,_,_,h=>nS h
 |f+1,aw,rs,v,seen',h=>by
  have hN:∀s2 r2,lu G f s2 r2=some seen'->seen'.length<=s2.length+f:=λs2 r2 h=>by
   unfold lu at h;cases hp:pi r2 with
   |none=>
    rw[hp]at h;cases M2 (show some _=_ from h);exact Pw _ _
   |some q=>
    rw[hp]at h;exact lr G f _ _ _ _ h
  rcases(pV h).2 with⟨_,h⟩ |⟨_,x,_,h⟩
  .have:=hN _ _ h;omega
  .have:=hN _ _ h;rw[Mg]at this;omega
theorem tt(w:World)(it loc ploc lloc so n2i sl il se nd:Addr)(po lo:Obj)(n f:Nat)(ns:List Nd)(lf:f<=400)(d2:∀vs,po.data≠ .fields vs)(d3:∀vs,lo.data≠ .fields vs):∀(rest pre:List Nd) (kk:Nat->Tok) (fs s2 s3:Array (Option Value)) (a b c:Nat) (v:Value) (sv:Data) (aw seen':List (List Nat)),
  ns=pre++rest->dO (fA ns) f (rest.map (·.nm)) aw=some seen'->bK w.params (aL sv) aw->
  ak w (sG lX loc ploc lloc) 70 (aG vN it (hX loc)) (rq w.params it n2i loc se ploc lloc sl il nd po lo n ns (qC n2i pre.length ns.length n,au w.params fB kk [.ref so,.ref n2i,.ref sl,.ref il,.ref se,.ref nd,v] 7 fs,aL sv,oL [] a,oL [] b,oD [] c,s2,s3))
   λr N=>r=.ok .next/\∃g,N.Perm (rq w.params it n2i loc se ploc lloc sl il nd po lo n ns g)
 |[],pre,kk,fs,s2,s3,a,b,c,v,sv,aw,seen',e,hf,hs=>by
  intro Mt os G Ar s R hA C H;refine(((pW it loc n2i kk n pre.length ns.length 7 [.ref so,.ref n2i,.ref sl,.ref il,.ref se,.ref nd,v] fs ns (de ns) (by rw[e];simp[ac]) w).frame ([(se,aL sv),(ploc,ax po s2),(lloc,ax lo s3),(sl,oL [] a),(il,oL [] b),(nd,oD [] c)]++ag ns)).perm ?_) Mt os G Ar s R (hA.none_of rfl (by decide)) C ?_
  .refine ae λy=>?_
   exact(aN [_,_,_,_,_,_,_,_,_] [_] 0x8211344f34b2411c50c1 0x841c50d344f34b241:)
  .rintro r N s' ⟨N',⟨ch,rfl,rfl⟩,rfl⟩ C';refine H _ _ s' ⟨rfl,(lO pre.length ns.length n,au w.params fB kk [.ref so,.ref n2i,.ref sl,.ref il,.ref se,.ref nd,v] 7 fs,aL sv,oL [] a,oL [] b,oD [] c,s2,s3),.refl _⟩ (C'.perm (ae λy=>?_));exact(aN [_,_,_,_,_,_,_,_,_] [_] 0x8211344f34b2411c50c1 0x841c50d344f34b241:)
 |d::rest,pre,kk,fs,s2,s3,a,b,c,v,sv,aw,seen',e,hf,hs=>by
  have hx:(ac ns)[pre.length]?=some ((d.nm,d.kt),.ref d.a):=by rw[e];simp[ac]
  rcases kG hf with⟨hc,hf⟩ |⟨hc,hl,seen1,hg,hf⟩
  .intro Mt os G Ar s R hA C H;refine(((tv w it loc so n2i sl il se nd kk fs n pre.length ns.length (d.nm,d.kt) (.ref d.a) v sv ns aw (de ns) hx hs hc).frame ([(ploc,ax po s2),(lloc,ax lo s3),(sl,oL [] a),(il,oL [] b),(nd,oD [] c)]++ag ns)).perm ?_) Mt os G Ar s R (hA.none_of rfl (by decide)) C ?_
   .refine ae λy=>?_
    exact(aN [_,_,_,_,_,_,_,_,_] [_] 0x8211344f34b0491c50c1 0x842471434d13cd2c1:)
   .rintro r N s' ⟨N',⟨ch,rfl,rfl⟩,rfl⟩ C';refine(tt w it loc ploc lloc so n2i sl il se nd po lo n f ns lf d2 d3 rest (pre++[d]) kk fs s2 s3 a b c (.str (T d.nm) d.kt) sv aw seen' (by rw[e];simp) hf hs) Mt os G Ar s' R hA (C'.perm (ae λy=>?_)) H
    (simp only[rq,Mn,Mg,MC,M3];exact(aN [_,_,_,_,_,_,_,_,_] [_] 0x8211344f34b0491c50c1 0x842471434d13cd2c1:))
  .refine(((Ay w lX it loc ploc lloc so n2i sl il se nd po lo kk fs s2 s3 a b c n pre.length ns.length f (d.nm,d.kt) (.ref d.a) v sv ns aw seen1 (de ns) hx hs hc hg lf hl d2 d3)).perm ?_).runs ?_
   .refine ae λy=>?_
    exact(aN [_,_,_,_,_,_,_,_,_] [_] 0x820444d13cd2c91c50c1 0x844d13cd2c91c50c1:)
   .refine fr λch=>?_
    have hl1:seen1.length<4096:=by
     have:=lr (fA ns) f aw [] d.nm seen1 hg;omega
    refine(tt w it loc ploc lloc so n2i sl il se nd po lo n f ns lf d2 d3 rest (pre++[d]) (aK w.params seen1 (ch 3)).1.kk (aK w.params seen1 (ch 3)).1.fs (aK w.params seen1 (ch 3)).1.s2 (aK w.params seen1 (ch 3)).1.s3 (aK w.params seen1 (ch 3)).1.a (aK w.params seen1 (ch 3)).1.b (aK w.params seen1 (ch 3)).1.c (aK w.params seen1 (ch 3)).2.1 (aK w.params seen1 (ch 3)).2.2 seen1 seen' (by rw[e];simp) hf (mI _ _ _ hl1)).perm (ae λy=>?_)
    (simp only[rq,Mn,Mg,MC,M3];exact(aN [_,_,_,_,_,_,_,_,_] [_] 0x844d13cd2c91c50c1 0x820444d13cd2c91c50c1:))
noncomputable def Kx:G8:=(default,default,default,default,default,default, #[], #[])
noncomputable abbrev gU(u:U):G8:=u.u G8 Kx
noncomputable def zG(P:Params)(it loc ploc lloc so n2i sl il se nd:Addr)(po lo:Obj)(kk:Nat->Tok)(fs:Array (Option Value))(n sz:Nat)(sv:Data)(ns:List Nd):Tr:=
 ⟨[ag ns],λ_=>[ag ns],λ_=>[],aG vN it (hX loc),[(it,qC n2i 0 sz n),(n2i,oD (eS P (ac ns)) n),(loc,au P fB kk [.ref so,.ref n2i,.ref sl,.ref il,.ref se,.ref nd] 6 fs),(se,aL sv),(ploc,po),(lloc,lo),(sl,oL [] 0),(il,oL [] 0),(nd,oD [] 0)],λ_=>.ok .next,λu=>[(gU u).1,oD (eS P (ac ns)) n,(gU u).2.1,(gU u).2.2.1,ax po (gU u).2.2.2.2.2.2.1,ax lo (gU u).2.2.2.2.2.2.2,(gU u).2.2.2.1,(gU u).2.2.2.2.1,(gU u).2.2.2.2.2.1],λ_=>[]⟩
theorem D4(it loc ploc lloc so n2i sl il se nd:Addr)(po lo:Obj)(kk:Nat->Tok)(fs:Array (Option Value))(n sz f:Nat)(sv:Data)(ns:List Nd)(seen':List (List Nat))(w:World)(hz:(ac ns).length=sz)
  (hf:dO (fA ns) f (ns.map (·.nm)) []=some seen') (hs:bK w.params (aL sv) []) (lf:f<=400) (d2:∀vs,po.data≠ .fields vs) (d3:∀vs,lo.data≠ .fields vs):
  af w (sG lX loc ploc lloc) 70 (zG w.params it loc ploc lloc so n2i sl il se nd po lo kk fs n sz sv ns):=by
 rw[de]at hz;subst hz;refine ak.tri (Q:=λr N=>r=.ok .next/\∃g,N.Perm (rq w.params it n2i loc se ploc lloc sl il nd po lo n ns g)) (λ_=>⟨rfl,rfl⟩) ?_ ?_
 .cases ns with
  |nil=>
   intro Mt os G Ar s R hA C H;refine(((pW it loc n2i kk n 0 0 6 [.ref so,.ref n2i,.ref sl,.ref il,.ref se,.ref nd] fs [] rfl rfl w).frame [(se,aL sv),(ploc,po),(lloc,lo),(sl,oL [] 0),(il,oL [] 0),(nd,oD [] 0)]).perm ?_) Mt os G Ar s R (hA.none_of rfl (by decide)) C ?_
   .refine ae λy=>?_
    exact(aN [_,_,_,_,_,_,_,_,_] [] 0x9344f34b2411c50c1 0x820411c50d344f34b241:)
   .rintro r N s' ⟨N',⟨ch,rfl,rfl⟩,rfl⟩ C';refine H _ _ s' ⟨rfl,(lO 0 0 n,au w.params fB kk [.ref so,.ref n2i,.ref sl,.ref il,.ref se,.ref nd] 6 fs,aL sv,oL [] 0,oL [] 0,oD [] 0,po.slots,lo.slots),.refl _⟩ (C'.perm (ae λy=>?_));exact(aN [_,_,_,_,_,_,_,_,_] [] 0x9344f34b2411c50c1 0x811c50d344f34b241:)
  |cons d rest=>
   have hx:(ac (d::rest))[0]?=some ((d.nm,d.kt),.ref d.a):=rfl;rcases kG hf with⟨hc,hf⟩ |⟨hc,hl,seen1,hg,hf⟩
   .cases hc
   refine(((wV w lX it loc ploc lloc so n2i sl il se nd po lo kk fs po.slots lo.slots 0 0 0 n 0 (d::rest).length f (d.nm,d.kt) (.ref d.a) sv (d::rest) [] seen1 (de _) hx hs hc hg lf hl d2 d3)).perm ?_).runs ?_
   .refine ae λy=>?_
    exact(aN [_,_,_,_,_,_,_,_,_,_,_] [_] 0x820421175414d13cd2c91c50c1 0x820421175414d13cd2c91c50c1:)
   .refine fr λch=>?_
    have hl1:seen1.length<4096:=by
     have:=lr (fA (d::rest)) f [] [] d.nm seen1 hg;simp at this;omega
    refine(tt (lX:=lX) w it loc ploc lloc so n2i sl il se nd po lo n f (d::rest) lf d2 d3 rest [d] (aK w.params seen1 (ch 3)).1.kk (aK w.params seen1 (ch 3)).1.fs (aK w.params seen1 (ch 3)).1.s2 (aK w.params seen1 (ch 3)).1.s3 (aK w.params seen1 (ch 3)).1.a (aK w.params seen1 (ch 3)).1.b (aK w.params seen1 (ch 3)).1.c (aK w.params seen1 (ch 3)).2.1 (aK w.params seen1 (ch 3)).2.2 seen1 seen' rfl hf (mI _ _ _ hl1)).perm (ae λy=>?_);exact(aN [_,_,_,_,_,_,_,_,_,_,_] [_] 0x821175414d13cd2c91c50c1 0x820421175414d13cd2c91c50c1:)
 .rintro r N ⟨rfl,g,hN⟩;obtain⟨u,_,hu⟩:=n9 g (λ_=>0);have e:gU u=g:=hu _;refine⟨u,rfl,hN.trans (ae λy=>?_)⟩
  (simp only[zG,e,rq,bO,bP];exact(aN [_,_,_,_,_,_,_,_,_] [_] 0x844d13cd2c91c50c1 0x820440814d13cd2c91c50c1:))
end
noncomputable def zF(P:Params)(lX:List (Str×Addr))(ploc lloc so sd n0:Addr)(po lo:Obj)(k:Nat->Tok)(rv pv nv:Value)(n f:Nat)(ns:List Nd)(seen':List (List Nat)):Tr:=
 ⟨[ag ns],λuu=>[ag ns],λuu=>[],.call (.ref 474) ⟨[.ref so],[]⟩,[(ploc,po),(lloc,lo),(so,oI 484 sd),(sd,aD P sN k [.ref (n0+ab),rv,pv,nv] 4),(n0+ab,oD (eS P (ac ns)) n)],λuu=>(.ok (.ret .none)),λuu=>[ax po (gU uu).2.2.2.2.2.2.1,ax lo (gU uu).2.2.2.2.2.2.2,oI 484 sd,aD P sN k [.ref (n0+ab),rv,pv,nv] 4,oD (eS P (ac ns)) n],λuu=>[]⟩
theorem D3(lX:List (Str×Addr))(ploc lloc so sd n0:Addr)(po lo:Obj)(k:Nat->Tok)(rv pv nv:Value)(n f:Nat)(ns:List Nd)(seen':List (List Nat))(hz:(ac ns).length<=10000)(hf:dO (fA ns) f (ns.map (·.nm)) []=some seen')(lf:f<=400)(d2:∀vs,po.data≠ .fields vs)(d3:∀vs,lo.data≠ .fields vs)(w:World):af w (⟨true,some [nA ploc,br lX lloc]⟩) 90 (zF w.params lX ploc lloc so sd n0 po lo k rv pv nv n f ns seen'):=
 cx (⟨true,some [nA ploc,br lX lloc]⟩) 90 (λP=>zF P lX ploc lloc so sd n0 po lo k rv pv nv n f ns seen') 0x43c924908908924a28a28a34d08d34234d08208204128a28a28a2011c70410470810411ca08a283 (λw=>[rM (λhh=>(sG lX (aZ hh 0) ploc lloc)) 70 [10,4,5,8,0,1,6,7,9] [0] λhh=>D4 (aZ hh 12) (aZ hh 0) ploc lloc so (n0+ab) (aZ hh 4) (aZ hh 6) (aZ hh 8) (aZ hh 10) po lo (kl [nZ hh 1,nZ hh 3,nZ hh 5,nZ hh 7,nZ hh 9,nZ hh 11]) ⟨[]⟩ n (Array.size ⟨eS w.params (ac ns)⟩) f (.set ⟨[]⟩ 0 (PySem.SetTable.fresh 0 0 (Bool.not (PySem.Params.followText w.params "set-order")))) ns seen' w (eK _ _).symm hf (rC _ _) lf d2 d3])
 [0,1,2,3,4] [0] (λch=>⟨λi=>[].getD i 0,(ch 13).u⟩) w
section
noncomputable def Lp(it n2i loc cl acc a da ls:Addr)(kk:Nat->Tok)(v nm:Value)(kvs:List KV)(n i sz m:Nat)(y:List Nat)(t t2 nt:Tok)(np:Int)(vs:List Value)(hz:kvs.length=sz)(hx:kvs[i]?=some ((y,t),.ref a))(h0:(np==0)=true)(hl:vs.length<=10000)(w:World):=
 aT (mT) 60 (λP=>eF fz it acc (ec loc cl))
 (λP=>[(it,kR n2i i sz n),(n2i,oD (eS P kvs) n),(cl,aD P cI kk [v] 1),(acc,oL vs m),(a,dW da (.str (T y) t2) (.int np nt) ls)]) (λP=>[])
 0x1090490410810412410420420410410410412420410491c42412410420410490410810810410410410490810412471c7105 (λw=>[rF 0 [0,1] [] λhh=>iZ it n2i n i sz kvs y t (.ref a) hz hx,qF h0,dF 3 hl])
 [0,1,2,3,4] [] (λP ch=>.ok (.again (eF fz it acc (ec loc cl)))) (λP ch=>[(it,kR n2i (i+1) sz n),(n2i,oD (eS P kvs) n),(cl,aD P cI kk [.ref a] 1),(acc,oL (vs++[.str (T y) t2]) (m+1)),(a,dW da (.str (T y) t2) (.int np nt) ls)]) (λP ch=>[]) w
section
variable(it n2i loc cl acc:Addr)(kvs:List KV)(n i sz:Nat)
noncomputable def Lo(a da ls:Addr)(kk:Nat->Tok)(v nm:Value)(kvs:List KV)(n i sz m:Nat)(y:List Nat)(t t2 nt:Tok)(np:Int)(vs:List Value)(hz:kvs.length=sz)(hx:kvs[i]?=some ((y,t),.ref a))(h0:(np==0)=false)(w:World):=
 aT (mT) 60 (λP=>eF fz it acc (ec loc cl))
 (λP=>[(it,kR n2i i sz n),(n2i,oD (eS P kvs) n),(cl,aD P cI kk [v] 1),(acc,oL vs m),(a,dW da (.str (T y) t2) (.int np nt) ls)]) (λP=>[])
 0x42412410420410490410810810410410410490810412471c7105 (λw=>[rF 0 [0,1] [] λhh=>iZ it n2i n i sz kvs y t (.ref a) hz hx,qF h0])
 [0,1,2,3,4] [] (λP ch=>.ok (.again (eF fz it acc (ec loc cl)))) (λP ch=>[(it,kR n2i (i+1) sz n),(n2i,oD (eS P kvs) n),(cl,aD P cI kk [.ref a] 1),(acc,oL vs m),(a,dW da (.str (T y) t2) (.int np nt) ls)]) (λP ch=>[]) w
noncomputable def IW(a da ls:Addr)(nm:Value)(kvs:List KV)(n i sz m:Nat)(y:List Nat)(t t2 nt:Tok)(np:Int)(vs:List Value)(hz:kvs.length=sz)(hx:kvs[i]?=some ((y,t),.ref a))(h0:(np==0)=true)(hl:vs.length<=10000)(w:World):=
 aT (mT) 60 (λP=>eF fz it acc (ec loc cl))
 (λP=>[(it,kR n2i i sz n),(n2i,oD (eS P kvs) n),(cl,oD [] 0),(acc,oL vs m),(a,dW da (.str (T y) t2) (.int np nt) ls)]) (λP=>[])
 0x1090490410810412410420420410410410412420410491c42412410420410490410810810410410410490810412471c7105 (λw=>[rF 0 [0,1] [] λhh=>iZ it n2i n i sz kvs y t (.ref a) hz hx,qF h0,dF 3 hl])
 [0,1,2,3,4] [] (λP ch=>.ok (.again (eF fz it acc (ec loc cl)))) (λP ch=>[(it,kR n2i (i+1) sz n),(n2i,oD (eS P kvs) n),(cl,aD P cI (kl [nZ ch 1]) [.ref a] 1),(acc,oL (vs++[.str (T y) t2]) (m+1)),(a,dW da (.str (T y) t2) (.int np nt) ls)]) (λP ch=>[]) w
noncomputable def IV(a da ls:Addr)(nm:Value)(kvs:List KV)(n i sz m:Nat)(y:List Nat)(t t2 nt:Tok)(np:Int)(vs:List Value)(hz:kvs.length=sz)(hx:kvs[i]?=some ((y,t),.ref a))(h0:(np==0)=false)(w:World):=
 aT (mT) 60 (λP=>eF fz it acc (ec loc cl))
 (λP=>[(it,kR n2i i sz n),(n2i,oD (eS P kvs) n),(cl,oD [] 0),(acc,oL vs m),(a,dW da (.str (T y) t2) (.int np nt) ls)]) (λP=>[])
 0x42412410420410490410810810410410410490810412471c7105 (λw=>[rF 0 [0,1] [] λhh=>iZ it n2i n i sz kvs y t (.ref a) hz hx,qF h0])
 [0,1,2,3,4] [] (λP ch=>.ok (.again (eF fz it acc (ec loc cl)))) (λP ch=>[(it,kR n2i (i+1) sz n),(n2i,oD (eS P kvs) n),(cl,aD P cI (kl [nZ ch 1]) [.ref a] 1),(acc,oL vs m),(a,dW da (.str (T y) t2) (.int np nt) ls)]) (λP ch=>[]) w
noncomputable def Ln(hz:kvs.length=sz)(hx:kvs[i]?=none)(w:World):=
 cY (mT) 60 (λP=>eF fz it acc (ec loc cl))
 (λP=>[(it,kR n2i i sz n),(n2i,oD (eS P kvs) n)]) (λP=>[])
 2113858 (λw=>[rT 0 [0,1] [] λhh=>xy it n2i n i sz 0 kvs hz hx])
 [0,1] [] (λP ch=>(.ok .next)) (λP ch=>[(it,jL i sz n),(n2i,oD (eS P kvs) n)]) (λP ch=>[]) w
end
end
noncomputable def aW(ns:List Nd):List Pt:=(ns.filter λd=>d.np==0).map λd=>(d.nm,d.tk)
theorem FN(w:World)(it n2i loc cl acc:Addr)(n:Nat)(ns:List Nd)(hn:ns.length<=9000):∀(rest pre:List Nd) (kk:Nat->Tok) (v:Value) (m:Nat),ns=pre++rest->m=(aW pre).length->
  ak w mT 60 (eF fz it acc (ec loc cl)) ([(it,kR n2i pre.length ns.length n),(n2i,oD (eS w.params (ac ns)) n),(cl,aD w.params cI kk [v] 1),(acc,oL (vT (aW pre)) m)]++ag ns)
   λr N=>r=.ok .next/\∃v',N.Perm ([(it,jL ns.length ns.length n),(n2i,oD (eS w.params (ac ns)) n),(cl,aD w.params cI kk [v'] 1),(acc,oL (vT (aW ns)) (aW ns).length)]++ag ns)
 |[],pre,kk,v,m,e,hm=>by
  rw[Mq]at e;subst e hm;refine(((Ln it n2i loc cl acc (ac ns) n ns.length ns.length (de ns) (by simp[ac]) w).frame ([(cl,aD w.params cI kk [v] 1),(acc,oL (vT (aW ns)) (aW ns).length)]++ag ns)).perm ?_).mono ?_
  .refine ae λy=>?_
   exact(aN [_,_,_,_] [_] 572030705750209 141818630593:)
  .refine fq λch=>?_
   refine⟨_,⟨rfl,v,ae λy=>?_⟩,.refl _⟩;exact(aN [_,_,_,_] [_] 572030705750209 141818630593:)
 |d::rest,pre,kk,v,m,e,hm=>by
  have hx:(ac ns)[pre.length]?=some ((d.nm,d.kt),.ref d.a):=by rw[e];simp[ac]
  have hd:d∈ns:=by rw[e];simp
  obtain⟨F,hF⟩:=fQ hd;have hl:(aW pre).length<=pre.length:=by unfold aW;rw[Mc];exact Qg _ _
  have hp:pre.length<=ns.length:=by rw[e];simp
  cases h0:(d.np==0)with
  |true=>
   have er:aW (pre++[d])=aW pre++[(d.nm,d.tk)]:=by unfold aW;rw[Oh,Mi];simp[h0]
   refine(((Lp it n2i loc cl acc d.a d.da d.ls kk v .none (ac ns) n pre.length ns.length m d.nm d.kt d.tk d.nt d.np (vT (aW pre)) (de ns) hx h0 (by rw[cy];omega) w).frame ([(d.ls,oL (vT d.sc) d.m)]++F)).perm ?_).runs ?_
   .exact Mu [_,_,_,_] hF
   .refine fq λch=>?_
    have ih:=FN w it n2i loc cl acc n ns hn rest (pre++[d]) kk (.ref d.a) (m+1) (by rw[e];simp) (by rw[er,hm];simp);rw[er,fM,Mn]at ih;exact ih.perm (Mu [_,_,_,_] hF.symm)
  |false=>
   have er:aW (pre++[d])=aW pre:=by unfold aW;rw[Oh,Mi];simp[h0]
   refine(((Lo it n2i loc cl acc d.a d.da d.ls kk v .none (ac ns) n pre.length ns.length m d.nm d.kt d.tk d.nt d.np (vT (aW pre)) (de ns) hx h0 w).frame ([(d.ls,oL (vT d.sc) d.m)]++F)).perm ?_).runs ?_
   .exact Mu [_,_,_,_] hF
   .refine fq λch=>?_
    have ih:=FN w it n2i loc cl acc n ns hn rest (pre++[d]) kk (.ref d.a) m (by rw[e];simp) (by rw[er,hm]);rw[er,Mn]at ih;exact ih.perm (Mu [_,_,_,_] hF.symm)
theorem wS{w:World}{hb:Md}{lv:Nat}{elt:Expr}{g:Comprehension}{rest:List Comprehension}{scope:Scope}{pos:Pos}{it acc:Addr}{env:Env}{M:ah}{Q:Result->ah->Prop}{io:Obj}
  (h:ak w hb lv (.compLoop (.ListComp elt (g::rest) scope pos) 0 (.ref it) (.ref acc) env) M Q) (hg:g.is_async=0) (hi:(it,io)∈M)
  (hk:(et λl i=>io=aI l i)\/(et λv left=>io=aY v left)\/(iJ λd i sz n=>io=kR d i sz n)\/(et λl i=>io=eU l i)):
  ak w hb lv (.compStart (.ListComp elt (g::rest) scope pos) 0 (.ref it) (.ref acc) env) M Q:=by
 obtain⟨tg,ir,ifs,as⟩:=g;simp only at hg;subst hg;intro Mt os G A s R hA C H;have h1:=h Mt os G A s R hA C H;have ho:=(C.own _ hi).1;refine codeAny_compStart_list h1 ?_;rcases hk with⟨l,i,rfl⟩ |⟨v,left,rfl⟩ |⟨d,i,sz,n,rfl⟩ |⟨l,i,rfl⟩
 .exact wpAny_pyIter_listiter ⟨_,ho,rfl,rfl⟩ h1
 .exact wpAny_pyIter_rangeiter ho h1
 .exact wpAny_pyIter_valiter ⟨_,ho,rfl,rfl⟩ h1
 .exact wpAny_pyIter_tupleiter ⟨_,ho,rfl,rfl⟩ h1
set_option backward.match.sparseCases false in
noncomputable def IA:(e:Expr)->Option (PLift (∃a g l b c,e=.ListComp a (g::l) b c/\g.is_async=0))
 |.ListComp a (g::l) b c=>if h:g.is_async=0 then some ⟨_,_,_,_,_,rfl,h⟩else none
 |_=>none
noncomputable def mS(e:Expr):Bool:=(IA e).isSome
theorem eP{w:World}{hb:Md}{lv:Nat}{e:Expr}{it acc:Addr}{env:Env}{M:ah}{Q:Result->ah->Prop}{io:Obj}(he:mS e=true)
  (h:ak w hb lv (eF e it acc env) M Q) (hi:(it,io)∈M)
  (hk:(et λl i=>io=aI l i)\/(et λv left=>io=aY v left)\/(iJ λd i sz n=>io=kR d i sz n)\/(et λl i=>io=eU l i)):
  ak w hb lv (yU e it acc env) M Q:=by
 obtain⟨⟨a,g,l,b,c,rfl,h0⟩,_⟩:=Oq.mp he;exact wS h h0 hi hk
noncomputable def zM(P:Params)(it n2i loc cl acc:Addr)(n sz:Nat)(ns:List Nd):Tr:=
 ⟨[ag ns],λ_=>[ag ns],λ_=>[],yU fz it acc (ec loc cl),[(it,kR n2i 0 sz n),(n2i,oD (eS P (ac ns)) n),(cl,oD [] 0),(acc,oL [] 0)],λ_=>.ok .next,λu=>[jL sz sz n,oD (eS P (ac ns)) n,aD P cI (kl [u.n 0]) [u.u Value .none] 1,oL (vT (aW ns)) (aW ns).length],λ_=>[]⟩
theorem Ek(it n2i loc cl acc:Addr)(n sz:Nat)(ns:List Nd)(hz:(ac ns).length=sz)(h1:1<=ns.length)(hn:ns.length<=9000)(w:World):af w mT 60 (zM w.params it n2i loc cl acc n sz ns):=by
 rw[de]at hz;subst hz;refine ak.tri (Q:=λr N=>r=.ok .next/\et λt v'=>N.Perm ([(it,jL ns.length ns.length n),(n2i,oD (eS w.params (ac ns)) n),(cl,aD w.params cI (kl [t]) [v'] 1),(acc,oL (vT (aW ns)) (aW ns).length)]++ag ns)) (λ_=>⟨rfl,rfl⟩) ?_ ?_
 .refine eP (io:=kR n2i 0 ns.length n) rfl ?_ (by rw[cf];exact .head _) (.inr (.inr (.inl ⟨_,_,_,_,rfl⟩)));cases ns with
  |nil=>simp at h1
  |cons d rest=>
   have hx:(ac (d::rest))[0]?=some ((d.nm,d.kt),.ref d.a):=rfl;obtain⟨F,hF⟩:=fQ (List.mem_cons_self (a:=d) (l:=rest));cases h0:(d.np==0)with
   |true=>
    have er:aW [d]=[(d.nm,d.tk)]:=by simp[aW,h0]
    refine(((IW it n2i loc cl acc d.a d.da d.ls .none (ac (d::rest)) n 0 (d::rest).length 0 d.nm d.kt d.tk d.nt d.np [] (de _) hx h0 (by simp) w).frame ([(d.ls,oL (vT d.sc) d.m)]++F)).perm ?_).runs ?_
    .rw[cf];exact Mu [_,_,_,_] (hF.trans (by rw[MN,M9,Mq]))
    .refine fq λch=>?_
     have e2:vT (aW [d])=[.str (T d.nm) d.tk]:=by rw[er];rfl
     refine((FN w it n2i loc cl acc n (d::rest) hn rest [d] (kl [(nZ ch 1)]) (.ref d.a) 1 rfl (by rw[er];rfl)).perm ?_).mono λr N h=>⟨N,⟨h.1,.of h.2⟩,.refl _⟩
     rw[e2];exact Mu [_,_,_,_] hF.symm
   |false=>
    have er:aW [d]=[]:=by simp[aW,h0]
    refine(((IV it n2i loc cl acc d.a d.da d.ls .none (ac (d::rest)) n 0 (d::rest).length 0 d.nm d.kt d.tk d.nt d.np [] (de _) hx h0 w).frame ([(d.ls,oL (vT d.sc) d.m)]++F)).perm ?_).runs ?_
    .rw[cf];exact Mu [_,_,_,_] (hF.trans (by rw[MN,M9,Mq]))
    .refine fq λch=>?_
     have e2:vT (aW [d])=[]:=by rw[er];rfl
     refine((FN w it n2i loc cl acc n (d::rest) hn rest [d] (kl [(nZ ch 1)]) (.ref d.a) 0 rfl (by rw[er];rfl)).perm ?_).mono λr N h=>⟨N,⟨h.1,.of h.2⟩,.refl _⟩
     rw[e2];exact Mu [_,_,_,_] hF.symm
 .rintro r N ⟨rfl,t,v',hN⟩;obtain⟨u,hu1,hu⟩:=n9 v' (λ_=>t);refine⟨u,rfl,hN.trans (ae λy=>?_)⟩
  (simp only[zM,hu .none,hu1,bO,bP];exact(aN [_,_,_,_] [_] 141886771393 0x20811020491c50c1:))
noncomputable def qV(P:Params)(lX:List (Str×Addr))(lloc so sd n0:Addr)(lo:Obj)(k:Nat->Tok)(pv nv:Value)(n f:Nat)(ns:List Nd)(seen':List (List Nat)):Tr:=
 ⟨[ag ns],λuu=>[ag ns],λuu=>[],.call (.ref 439) ⟨[.ref so],[]⟩,[(lloc,lo),(so,oI 484 sd),(sd,aD P sN k [.ref (n0+ab),.none,pv,nv] 4),(n0+ab,oD (eS P (ac ns)) n)],λuu=>(.ok (.ret .none)),λuu=>[ax lo (gU uu).2.2.2.2.2.2.2,oI 484 sd,aD P sN k [.ref (n0+ab),.ref ((uu.n 0)+ab),pv,nv] 4,oD (eS P (ac ns)) n],λuu=>[((uu.n 0)+ab,oL (vT (aW ns)) (List.length (aW ns)))]⟩
theorem xn(lX:List (Str×Addr))(lloc so sd n0:Addr)(lo:Obj)(k:Nat->Tok)(pv nv:Value)(n f:Nat)(ns:List Nd)(seen':List (List Nat))(hz:(ac ns).length<=10000)(h1:1<=ns.length)(hn:ns.length<=9000)(hf:dO (fA ns) f (ns.map (·.nm)) []=some seen')(lf:f<=400)(d3:∀vs,lo.data≠ .fields vs)(w:World):af w (⟨true,some [br lX lloc]⟩) 100 (qV w.params lX lloc so sd n0 lo k pv nv n f ns seen'):=
 cx (⟨true,some [br lX lloc]⟩) 100 (λP=>qV P lX lloc so sd n0 lo k pv nv n f ns seen') 0x2492440471810410460410460410462471c704604104604608118204104624d34d10b20828228228a2022022082081c11860410460810411891c1186041046081041189089243 (λw=>[rT 60 [6,3,8,7] [0] λhh=>Ek (aZ hh 6) (n0+ab) (aZ hh 0) (aZ hh 8) (aZ hh 7) n (Array.size ⟨eS w.params (ac ns)⟩) ns (eK _ _).symm h1 hn w,rM (λhh=>(Mine.Md.mk true (some [nA (aZ hh 0),br lX lloc]))) 90 [4,0,1,2,3] [0] λhh=>D3 lX (aZ hh 0) lloc so sd n0 (frm w.params fB (kl [nZ hh 1]) [.ref so] 1) lo k (.ref (aZ hh 7)) pv nv n f ns seen' hz hf lf (by exact λ_ h=>nomatch h) d3 w])
 [0,1,2,3,7] [0] (λch=>⟨λi=>[nZ ch 7].getD i 0,(ch 12).u⟩) w
section
section
variable(it tp loc so n2i a da ls:Addr)(kk:Nat->Tok)(v nmv npv:Value)(kvs:List KV)(vs:List Value)(n i:Nat)(y:List Nat)(t:Tok)
noncomputable def KL(hx:vs[i]?=some (.str (T y) t))(hk:lk kvs y=some (.ref a))(w:World):=
 aT (mT) 40 (λP=>aG (aP BS 4) it (yY loc))
 (λP=>[(it,eU tp i),(tp,aj vs),(loc,frm P sF kk [.ref so,.ref tp,.ref n2i,v] 4),(n2i,oD (eS P kvs) n),(a,dW da nmv npv ls)]) (λP=>[])
 0x2412410420410490410810810410412412420490810412442082071c11c7105 (λw=>[ky 0 1 hx,rF 0 [3] [] λhh=>fg n2i n kvs y t (.ref a) hk])
 [0,1,2,3,4] [] (λP ch=>.ok (.again (aG (aP BS 4) it (yY loc)))) (λP ch=>[(it,eU tp (i+1)),(tp,aj vs),(loc,frm P sF kk [.ref so,.ref tp,.ref n2i,.str (T y) t] 4),(n2i,oD (eS P kvs) n),(a,dW da nmv (.int (-1) 766) ls)]) (λP ch=>[]) w
noncomputable def H5(hx:vs[i]?=some (.str (T y) t))(hk:lk kvs y=some (.ref a))(w:World):=
 aT (mT) 40 (λP=>aG (aP BS 4) it (yY loc))
 (λP=>[(it,eU tp i),(tp,aj vs),(loc,frm P sF kk [.ref so,.ref tp,.ref n2i] 3),(n2i,oD (eS P kvs) n),(a,dW da nmv npv ls)]) (λP=>[])
 0x2412410420410490410810810410412412420490810412442082071c11c7105 (λw=>[ky 0 1 hx,rF 0 [3] [] λhh=>fg n2i n kvs y t (.ref a) hk])
 [0,1,2,3,4] [] (λP ch=>.ok (.again (aG (aP BS 4) it (yY loc)))) (λP ch=>[(it,eU tp (i+1)),(tp,aj vs),(loc,frm P sF (kx kk 3 [nZ ch 1]) [.ref so,.ref tp,.ref n2i,.str (T y) t] 4),(n2i,oD (eS P kvs) n),(a,dW da nmv (.int (-1) 766) ls)]) (λP ch=>[]) w
noncomputable def H3(vs:List Value)(hx:vs[i]?=none)(w:World):=
 cY (mT) 40 (λP=>aG (aP BS 4) it (yY loc))
 (λP=>[(it,eU tp i),(tp,aj vs)]) (λP=>[])
 35668290 (λw=>[x8 0 1 hx])
 [0,1] [] (λP ch=>(.ok .next)) (λP ch=>[(it,dg i),(tp,aj vs)]) (λP ch=>[]) w
end
end
noncomputable def FK(a b n:Nat):Nat:=if b==a then n else n+1
theorem lh{w:World}{A:Around}{R:Result->Shared->Prop}{s:Shared}{id:String}{B:Builtin}{args:Args}{S:PySem.Spec}
  (entry:entryFor table id=some B) (pl:plainId id=true) (g:Meets (B args) S) (h:S A R s):codeAny (model pw w) A (.builtin id args) R s:=by
 refine Nf entry ?_;rw[MV pl _];exact g pw w A R s h
theorem j4(vs us:List Value)(n:Nat):Obj.mapSeq (λx=>x++Array.mk us) (oL vs n)=oL (vs++us) (FK vs.length (vs++us).length n):=by
 show(⟨_,_,.seq (Array.mk vs++Array.mk us) (if(Array.mk vs++Array.mk us).size==(Array.mk vs).size then n else n+1),_⟩:Obj)=_;have h1:Array.mk vs++Array.mk us=Array.mk (vs++us):=by simp
 rw[h1];rfl
noncomputable def Je(l:Addr)(vs:List Value)(n:Nat):Tr:=⟨[],λ_=>[],λ_=>[],.call (.builtin "list.clear") ⟨[.ref l],[]⟩,[(l,oL vs n)],λ_=>.ok (.ret .none),λ_=>[oL [] (FK vs.length 0 n)],λ_=>[]⟩
theorem xg{w:World}{hb:Md}{lv:Nat}(l:Addr)(vs:List Value)(n:Nat)(hl:vs.length<=10000):af w hb lv (Je l vs n):=by
 refine⟨λMt os G A s R hA C H=>?_,λ_=>⟨rfl,rfl⟩⟩;have ho:=(C.own _ (.head _)).1;refine bu F.slot_list_clear ⟨_,ho,rfl⟩ F.entry_list_clear (F.args_list_clear_1 _) (AutoSeq1.list_clear_list_0 l ⟨vs⟩ n (by show vs.length<=2^24;omega)) ⟨ho,?_⟩;exact H u0 _ (C.update (i:=0) (p:=(l,oL vs n)) rfl (f:=Obj.mapSeq λ_=> #[]) rfl)
noncomputable def Bv(l b:Addr)(vs us:List Value)(n n2:Nat):Tr:=⟨[],λ_=>[],λ_=>[],.builtin "list.__iadd__" ⟨[.ref l,.ref b],[]⟩,[(l,oL vs n),(b,oL us n2)],λ_=>.ok (.ret (.ref l)),λ_=>[oL (vs++us) (FK vs.length (vs++us).length n),oL us n2],λ_=>[]⟩
theorem gP{w:World}{hb:Md}{lv:Nat}(l b:Addr)(vs us:List Value)(n n2:Nat)(hl:vs.length+us.length<=10000):af w hb lv (Bv l b vs us n n2):=by
 refine⟨λMt os G A s R hA C H=>?_,λ_=>⟨rfl,rfl⟩⟩;have ho:=(C.own _ (.head _)).1;have ho2:=(C.own _ (.tail _ (.head _))).1;refine lh QI F.slot_list_iadd.plain (AutoSeq1.list___iadd___list_list_0 l ⟨vs⟩ n b ⟨us⟩ n2 (by
  have:(Array.mk vs).size+(Array.mk us).size<=10000:=hl;have hz:sizeLine=16777216:=rfl;simp[Builtin.List.listTooLong];omega) (by show vs.length<=2^24;omega) (by show vs.length+us.length<=2^24+1;omega)) ⟨ho,ho2,?_⟩
 have C':=C.update (i:=0) (p:=(l,oL vs n)) rfl (f:=Obj.mapSeq λx=>x++Array.mk us) rfl;rw[j4]at C';exact H u0 _ C'
theorem oN(l:Addr)(items:Array Value)(n:Nat)(b:Addr)(items2:Array Value)(n2:Nat)(hs0:¬(!items.isEmpty&&Builtin.List.listTooLong (items.size+items2.size))=true)(hs1:items.size<=sizeLine)(hs2:items.size+items2.size<=sizeLine+1):
  Meets (Builtin.«list.__iadd__» ⟨[.ref l,.ref b],[]⟩) (λ_ R s=>s.heap.get? l=some {cls:=.type "list",dict:=none,data:=.seq items n,slots:= #[]}/\s.heap.get? b=some {cls:=.type "tuple",dict:=none,data:=.seq items2 n2,slots:= #[]}/\R (.ok (.ret (Value.ref l))) {s with heap:=s.heap.update l (Obj.mapSeq λx=>x++items2),toks:=s.toks}):=
 .of_wp λprog w A R s h=>by
  obtain⟨hp,g,d,tk,os⟩:=s;obtain⟨hl,hb,h⟩:=h;have f1:=AutoSeq1.idx_int;have f2:=AutoSeq1.sub_tuple_tuple;have f3:=AutoSeq1.sub_list_list;have f4:=AutoSeq1.sub_tuple_list;have f5:=AutoSeq1.sub_list_tuple;have hz':(items++items2).size<=sizeLine+1:=by rw[Array.size_append];exact hs2
  wp_walk using(Q5 hl rfl (hz:=hs1) (_hz':=hz')),P1 hl,P1 hb;exact⟨_,rfl,h⟩
noncomputable def Bw(l b:Addr)(vs us:List Value)(n:Nat):Tr:=⟨[],λ_=>[],λ_=>[],.builtin "list.__iadd__" ⟨[.ref l,.ref b],[]⟩,[(l,oL vs n),(b,aj us)],λ_=>.ok (.ret (.ref l)),λ_=>[oL (vs++us) (FK vs.length (vs++us).length n),aj us],λ_=>[]⟩
theorem bC{w:World}{hb:Md}{lv:Nat}(l b:Addr)(vs us:List Value)(n:Nat)(hl:vs.length+us.length<=10000):af w hb lv (Bw l b vs us n):=by
 refine⟨λMt os G A s R hA C H=>?_,λ_=>⟨rfl,rfl⟩⟩;have ho:=(C.own _ (.head _)).1;have ho2:=(C.own _ (.tail _ (.head _))).1;refine lh QI F.slot_list_iadd.plain (oN l ⟨vs⟩ n b ⟨us⟩ 0 (by
  have:(Array.mk vs).size+(Array.mk us).size<=10000:=hl;have hz:sizeLine=16777216:=rfl;simp[Builtin.List.listTooLong];omega) (by show vs.length<=2^24;omega) (by show vs.length+us.length<=2^24+1;omega)) ⟨ho,ho2,?_⟩
 have C':=C.update (i:=0) (p:=(l,oL vs n)) rfl (f:=Obj.mapSeq λx=>x++Array.mk us) rfl;rw[j4]at C';exact H u0 _ C'
noncomputable def zz(l b:Addr)(vs us:List Value)(n n2:Nat):Tr:=⟨[],λ_=>[],λ_=>[],.call (.builtin "list.__add__") ⟨[.ref l,.ref b],[]⟩,[(l,oL vs n),(b,oL us n2)],λx=>.ok (.ret (.ref (x.n 0+ab))),λ_=>[oL vs n,oL us n2],λx=>[(x.n 0+ab,oL (vs++us) 0)]⟩
theorem AX{w:World}{hb:Md}{lv:Nat}(l b:Addr)(vs us:List Value)(n n2:Nat)(hl:vs.length+us.length<=10000):af w hb lv (zz l b vs us n n2):=by
 refine⟨λMt os G A s R hA C H=>?_,λ_=>⟨rfl,rfl⟩⟩;have ho:=(C.own _ (.head _)).1;have ho2:=(C.own _ (.tail _ (.head _))).1;refine bu F.slot_list_add ⟨_,ho,rfl⟩ F.entry_list_add (F.args_list_add_2 _ _) (AutoSeq1.list___add___list_list_0 l ⟨vs⟩ n b ⟨us⟩ n2 (by show vs.length+us.length<=2^24;omega)) ⟨ho,ho2,?_⟩;have e0:s.heap.objs.size-ab+ab=s.heap.objs.size:=MJ (cC G C);have C2:=C.alloc (o:=oL (vs++us) 0) rfl;have h1:Array.mk vs++Array.mk us=Array.mk (vs++us):=by simp
 rw[h1];have:=H (uN (s.heap.objs.size-ab)) _ (by
  show am Mt os (_++[(s.heap.objs.size-ab+ab,oL (vs++us) 0)]) _;rw[e0];exact C2)
 simp only[zz,uN,e0]at this;exact this
theorem am.grow{Mt:Heap}{os:OsState}{M:ah}{s:Shared}(C:am Mt os M s){h':Heap}(hk:∀b o,s.heap.get? b=some o->h'.get? b=some o):am Mt os M {s with heap:=h'}:=
 ⟨λb o hb=>hk _ _ (C.keep b o hb),λp hp=>⟨hk _ _ (C.own p hp).1,(C.own p hp).2⟩,C.nd,C.gens,C.os⟩
noncomputable def zC(l:Addr)(vs:List Value)(n:Nat):Tr:=⟨[],λ_=>[],λ_=>[],.builtin "tuple.__new__" ⟨[.type "tuple",.ref l],[]⟩,[(l,oL vs n)],λx=>.ok (.ret (.ref (x.n 0+ab))),λ_=>[oL vs n],λx=>[(x.n 0+ab,aj vs)]⟩
theorem A6{w:World}{hb:Md}{lv:Nat}(l:Addr)(vs:List Value)(n:Nat)(hl:vs.length<=10000):af w hb lv (zC l vs n):=by
 refine⟨λMt os G A s R hA C H=>?_,λ_=>⟨rfl,rfl⟩⟩;have ho:=(C.own _ (.head _)).1;refine lh F.entry_tuple_new (by decide+kernel) (meets_tuple_new_list l (oL vs n) ⟨vs⟩ n rfl rfl (by show vs.length<=2^24;omega)) ⟨ho,λh' hk=>?_⟩;have C1:=C.grow hk;have e0:h'.objs.size-ab+ab=h'.objs.size:=MJ (cC (s:={s with heap:=h'}) G C1);have C2:=C1.alloc (o:=aj vs) rfl;have:=H (uN (h'.objs.size-ab)) _ (by
  show am Mt os (_++[(h'.objs.size-ab+ab,aj vs)]) _;rw[e0];exact C2)
 simp only[zC,uN,e0]at this;exact this
theorem A4{w:World}{hb:Md}{lv:Nat}(l:Addr)(vs:List Value)(m:Nat)(hm:vs.length=m)(hl:vs.length<=10000):af w hb lv (tL (.ref l) [(l,aj vs)] m):=by
 subst hm;refine⟨λMt os G A s R hA C H=>?_,λ_=>⟨rfl,rfl⟩⟩;have ho:=(C.own _ (.head _)).1;have ht:IsTup s.heap l ⟨vs⟩:=⟨_,ho,rfl,0,rfl⟩;refine Nf QO ?_;rw[MV QP _];have hb:(((Array.mk vs).size:Nat):Int)<2^63:=by show((vs.length:Nat):Int)<2^63;omega
 unfold Builtin.«len»;refine on (m:=oneArg "len" _) (Mh ?_);refine on (m:=callSpecial? (.ref l) (Str.ofString "__len__")) (Oy (name:=Str.ofString "__len__") ht.typeIs slot_tuple_len
  (Py slot_tuple_len ht.typeIs entry_tuple_len ?_ (args_tuple_len _)))
 show wpAny _ _ (do retInt (<-Builtin.Tuple.tupleItemsOf (.ref l)).size) _ _ s;refine on (tupleItemsOf_ ht ?_);refine on (wpAny_mkInt (Mh ⟨_,rfl,?_⟩));refine on (MX (Mh ?_));refine on (Qp ?_);show wpAny _ _ (if(((Array.mk vs).size:Nat):Int)<0 then _ else _) _ _ _;rw[if_neg (by omega)];show wpAny _ _ (if(((Array.mk vs).size:Nat):Int)>=2^63 then _ else _) _ _ _;rw[if_neg (by omega)];exact on (wpAny_mkInt (Mh (H (uN (s.toks+1)) _ ((C.toks _).toks _))))
noncomputable def cN(v:Int)(t:Tok)(d:Nd):Nd:={d with np:=v,nt:=t}
noncomputable def bU(ns:List Nd)(p:Pt):List Nd:=dn p.1 (cN (-1) 766) ns
theorem lI(ns:List Nd)(p:Pt):ac (bU ns p)=ac ns:=gR _ (cN (-1) 766) (λd=>⟨rfl,rfl,rfl⟩) ns
theorem un(rs:List Pt):∀ns:List Nd,ac (rs.foldl bU ns)=ac ns:=by
 induction rs with
 |nil=>intro ns;rfl
 |cons p rs ih=>intro ns;rw[Mv,ih,lI]
theorem qy(ns:List Nd)(p:Pt)(z:List Nat)(h:∃d∈ns,d.nm=z):∃d∈bU ns p,d.nm=z:=gW _ _ (cN (-1) 766) (λ_=>rfl) _ h
noncomputable abbrev H4:Stmt:=aP BS 4
theorem JA(w:World)(it tp loc so n2i:Addr)(n:Nat)(rs:List Pt):∀(rest pre:List Pt) (kk:Nat->Tok) (v:Value) (ns:List Nd),rs=pre++rest->(∀p∈rest,∃d∈ns,d.nm=p.1)->
  ak w mT 40 (aG H4 it (yY loc)) ([(it,eU tp pre.length),(tp,aj (vT rs)),(loc,frm w.params sF kk [.ref so,.ref tp,.ref n2i,v] 4),(n2i,oD (eS w.params (ac ns)) n)]++ag ns)
   λr N=>r=.ok .next/\∃v',N.Perm ([(it,dg rs.length),(tp,aj (vT rs)),(loc,frm w.params sF kk [.ref so,.ref tp,.ref n2i,v'] 4),(n2i,oD (eS w.params (ac ns)) n)]++ag (rest.foldl bU ns))
 |[],pre,kk,v,ns,e,hm=>by
  rw[Mq]at e;subst e;refine(((H3 it tp loc rs.length (vT rs) (by rw[cJ];simp) w).frame ([(loc,frm w.params sF kk [.ref so,.ref tp,.ref n2i,v] 4),(n2i,oD (eS w.params (ac ns)) n)]++ag ns)).perm ?_).mono ?_
  .refine ae λy=>?_
   exact(aN [_,_,_,_] [_] 572030705750209 141818630593:)
  .refine fq λch=>?_
   refine⟨_,⟨rfl,v,ae λy=>?_⟩,.refl _⟩;exact(aN [_,_,_,_] [_] 572030705750209 141818630593:)
 |p::rest,pre,kk,v,ns,e,hm=>by
  obtain⟨A,d,B,h1,h2,h3,h4⟩:=fK p.1 ns (hm p (.head _));have hx:(vT rs)[pre.length]?=some (.str (T p.1) p.2):=by rw[cJ,e];simp
  refine(((KL it tp loc so n2i d.a d.da d.ls kk v (.str (T d.nm) d.tk) (.int d.np d.nt) (ac ns) (vT rs) n pre.length p.1 p.2 hx h3 w).frame ([(d.ls,oL (vT d.sc) d.m)]++ag A++ag B)).perm ?_).runs ?_
  .refine ae λy=>?_
   rw[h1,dE,show ag (d::B)=rS d++ag B from rfl];exact(aN [_,_,_,_,_,_] [_,_] 0x20860843412c91c50c1 0x208218334110b247141:)
  .refine fq λch=>?_
   have ih:=JA w it tp loc so n2i n rs rest (pre++[p]) kk (.str (T p.1) p.2) (bU ns p) (by rw[e];simp) (λq hq=>qy _ _ _ (hm q (.tail _ hq)));rw[lI]at ih;refine ih.perm (ae λy=>?_);have e2:ag (bU ns p)=ag A++(rS (cN (-1) 766 d)++ag B):=by unfold bU;rw[h4,dE];rfl
   rw[e2]
   (simp only[rS,cN,Mn,Mg,MC,M3];exact(aN [_,_,_,_,_,_] [_,_] 0x208218d2c11091c50c1 0x20860842c1247143341:))
noncomputable def vA(P:Params)(it tp loc so n2i:Addr)(kk:Nat->Tok)(n:Nat)(vs:List Value)(rs:List Pt)(kvs:List KV)(ns:List Nd):Tr:=
 ⟨[ag ns],λ_=>[ag (rs.foldl bU ns)],λ_=>[],aG H4 it (yY loc),[(it,eU tp 0),(tp,aj vs),(loc,frm P sF kk [.ref so,.ref tp,.ref n2i] 3),(n2i,oD (eS P kvs) n)],λ_=>.ok .next,λu=>[dg rs.length,aj vs,frm P sF (kx kk 3 [u.n 0]) [.ref so,.ref tp,.ref n2i,u.u Value .none] 4,oD (eS P kvs) n],λ_=>[]⟩
theorem Ec(it tp loc so n2i:Addr)(kk:Nat->Tok)(n:Nat)(vs:List Value)(rs:List Pt)(kvs:List KV)(ns:List Nd)(hv:vT rs=vs)(hkv:kvs=ac ns)(h1:1<=rs.length)(hm:∀p∈rs,∃d∈ns,d.nm=p.1)(w:World):af w mT 40 (vA w.params it tp loc so n2i kk n vs rs kvs ns):=by
 subst hv hkv;refine ak.tri (Q:=λr N=>r=.ok .next/\et λt v'=>N.Perm ([(it,dg rs.length),(tp,aj (vT rs)),(loc,frm w.params sF (kx kk 3 [t]) [.ref so,.ref tp,.ref n2i,v'] 4),(n2i,oD (eS w.params (ac ns)) n)]++ag (rs.foldl bU ns))) (λ_=>⟨rfl,rfl⟩) ?_ ?_
 .cases rs with
  |nil=>simp at h1
  |cons p rest=>
   obtain⟨A,d,B,h1,h2,h3,h4⟩:=fK p.1 ns (hm p (.head _));refine(((H5 it tp loc so n2i d.a d.da d.ls kk (.str (T d.nm) d.tk) (.int d.np d.nt) (ac ns) (vT (p::rest)) n 0 p.1 p.2 rfl h3 w).frame ([(d.ls,oL (vT d.sc) d.m)]++ag A++ag B)).perm ?_).runs ?_
   .refine ae λy=>?_
    simp only[vA];rw[h1,dE,show ag (d::B)=rS d++ag B from rfl];exact(aN [_,_,_,_,_,_] [_,_] 0x20860843412c91c50c1 0x208108218334110b247141:)
   .refine fq λch=>?_
    have ih:=JA w it tp loc so n2i n (p::rest) rest [p] (kx kk 3 [(nZ ch 1)]) (.str (T p.1) p.2) (bU ns p) rfl (λq hq=>qy _ _ _ (hm q (.tail _ hq)));rw[lI]at ih;refine(ih.perm (ae λy=>?_)).mono λr N h=>⟨N,⟨h.1,.of h.2⟩,.refl _⟩
    have e2:ag (bU ns p)=ag A++(rS (cN (-1) 766 d)++ag B):=by unfold bU;rw[h4,dE];rfl
    rw[e2]
    (simp only[rS,cN,Mn,Mg,MC,M3];exact(aN [_,_,_,_,_,_] [_,_] 0x208218d2c11091c50c1 0x20860842c1247143341:))
 .rintro r N ⟨rfl,t,v',hN⟩;obtain⟨u,hu1,hu⟩:=n9 v' (λ_=>t);refine⟨u,rfl,hN.trans (ae λy=>?_)⟩
  (simp only[vA,hu .none,hu1,bO,bP];exact(aN [_,_,_,_] [_] 141886771393 0x20811020491c50c1:))
noncomputable def BC(P:Params)(it tp loc so n2i:Addr)(kk:Nat->Tok)(n:Nat)(r1:Pt)(rs:List Pt)(kvs:List KV)(ns:List Nd):Tr:=
 ⟨[ag ns],λ_=>[ag ((r1::rs).foldl bU ns)],λ_=>[],aG H4 it (yY loc),[(it,eU tp 0),(tp,aj (.str (T r1.1) r1.2::vT rs)),(loc,frm P sF kk [.ref so,.ref tp,.ref n2i] 3),(n2i,oD (eS P kvs) n)],λ_=>.ok .next,λu=>[dg (rs.length+1),aj (.str (T r1.1) r1.2::vT rs),frm P sF (kx kk 3 [u.n 0]) [.ref so,.ref tp,.ref n2i,u.u Value .none] 4,oD (eS P kvs) n],λ_=>[]⟩
theorem AU(it tp loc so n2i:Addr)(kk:Nat->Tok)(n:Nat)(r1:Pt)(rs:List Pt)(kvs:List KV)(ns:List Nd)(hkv:kvs=ac ns)(hm:∀p∈(r1::rs),∃d∈ns,d.nm=p.1)(w:World):af w mT 40 (BC w.params it tp loc so n2i kk n r1 rs kvs ns):=
 Ec it tp loc so n2i kk n _ (r1::rs) kvs ns rfl hkv (by simp) hm w
noncomputable def zK(P:Params)(so sd n0 rl:Addr)(k:Nat->Tok)(pv nv:Int)(tp tn:Tok)(n m:Nat)(ns:List Nd)(r1:Pt)(rs:List Pt)(z:Nat):Tr:=
 ⟨[ag ns],λuu=>[ag (List.foldl bU ns (r1::rs))],λuu=>[],.call (.ref 446) ⟨[.ref so],[]⟩,[(so,oI 484 sd),(sd,aD P sN k [.ref (n0+ab),.ref (rl+ab),.int pv tp,.int nv tn] 4),(n0+ab,oD (eS P (ac ns)) n),(rl+ab,oL (.str (T r1.1) r1.2::vT rs) m)],λuu=>(.ok (.ret (.ref ((uu.n 0)+ab)))),λuu=>[oI 484 sd,aD P sN k [.ref (n0+ab),.ref (rl+ab),.int (pv+(Int.ofNat z)) (uu.n 1),.int nv tn] 4,oD (eS P (ac ns)) n,oL [] (m+1)],λuu=>[((uu.n 0)+ab,aj ((.str (T r1.1) r1.2)::(vT rs)))]⟩
theorem y9(so sd n0 rl:Addr)(k:Nat->Tok)(pv nv:Int)(tp tn:Tok)(n m:Nat)(ns:List Nd)(r1:Pt)(rs:List Pt)(z:Nat)(hz:(Value.str (T r1.1) r1.2::vT rs).length=z)(hl:(vT rs).length<=1000)(hm:∀p∈(r1::rs),∃d∈ns,d.nm=p.1)(w:World):af w mT 60 (zK w.params so sd n0 rl k pv nv tp tn n m ns r1 rs z):=
 cx (mT) 60 (λP=>zK P so sd n0 rl k pv nv tp tn n m ns r1 rs z) 0x24618604504104504508114204104508210224104604514104114204104524420820818114504104508104114910b08a08a28924918114504104508104114924928228228a102082181145041045081041149041181145041045081041149089243 (λw=>[rF 0 [3] [] λhh=>A6 (rl+ab) ((.str (T r1.1) r1.2)::(vT rs)) m (by simp;omega),rT 40 [6,5,4,2] [0] λhh=>AU (aZ hh 9) (aZ hh 5) (aZ hh 0) so (n0+ab) (kl [nZ hh 1,nZ hh 6,nZ hh 8]) n r1 rs (ac ns) ns (by simp) hm w,rF 0 [3] [] λhh=>xg (rl+ab) ((.str (T r1.1) r1.2)::(vT rs)) m (by simp;omega),rF 0 [5] [] λhh=>A4 (aZ hh 5) ((.str (T r1.1) r1.2)::(vT rs)) z hz (by simp;omega)])
 [0,1,2,3,5] [0] (λch=>⟨λi=>[nZ ch 5,nZ ch 15].getD i 0,(ch 0).u⟩) w
noncomputable def vC(P:Params)(so sd n0 rl:Addr)(k:Nat->Tok)(pv nv:Int)(tp tn:Tok)(n m:Nat)(r1:Value)(rs:List Value):Tr:=
 ⟨[],λuu=>[],λuu=>[],.call (.ref 453) ⟨[.ref so],[]⟩,[(so,oI 484 sd),(sd,aD P sN k [.ref (n0+ab),.ref (rl+ab),.int pv tp,.int nv tn] 4),(rl+ab,oL (r1::rs) m)],λuu=>(.ok (.ret (.bool true))),λuu=>[oI 484 sd,aD P sN k [.ref (n0+ab),.ref (rl+ab),.int pv tp,.int nv tn] 4,oL (r1::rs) m],λuu=>[]⟩
theorem tY(so sd n0 rl:Addr)(k:Nat->Tok)(pv nv:Int)(tp tn:Tok)(n m:Nat)(r1:Value)(rs:List Value)(hl:rs.length<=1000)(hlt:decide (nv<pv)=false)(w:World):af w mT 60 (vC w.params so sd n0 rl k pv nv tp tn n m r1 rs):=
 cx (mT) 60 (λP=>vC P so sd n0 rl k pv nv tp tn n m r1 rs) 0x821071c2082086045141041142041045201044181145041045081041148181145041045081041148181145041045081041148088203 (λw=>[bE hlt,rF 0 [2] [] λhh=>aF (rl+ab) (r1::rs) m (List.length (r1::rs)) rfl (by simp;omega)])
 [0,1,2] [] (λch=>⟨λi=>[].getD i 0,(ch 0).u⟩) w
noncomputable def vB(P:Params)(so sd n0 rl:Addr)(k:Nat->Tok)(pv nv:Int)(tp tn:Tok)(n m:Nat):Tr:=
 ⟨[],λuu=>[],λuu=>[],.call (.ref 453) ⟨[.ref so],[]⟩,[(so,oI 484 sd),(sd,aD P sN k [.ref (n0+ab),.ref (rl+ab),.int pv tp,.int nv tn] 4),(rl+ab,oL [] m)],λuu=>(.ok (.ret (.bool false))),λuu=>[oI 484 sd,aD P sN k [.ref (n0+ab),.ref (rl+ab),.int pv tp,.int nv tn] 4,oL [] m],λuu=>[]⟩
theorem AV(so sd n0 rl:Addr)(k:Nat->Tok)(pv nv:Int)(tp tn:Tok)(n m:Nat)(hlt:decide (nv<pv)=false)(w:World):af w mT 60 (vB w.params so sd n0 rl k pv nv tp tn n m):=
 cx (mT) 60 (λP=>vB P so sd n0 rl k pv nv tp tn n m) 0x821071c2082086045141041142041045201044181145041045081041148181145041045081041148181145041045081041148088203 (λw=>[bE hlt,rF 0 [2] [] λhh=>aF (rl+ab) [] m 0 rfl (by decide)])
 [0,1,2] [] (λch=>⟨λi=>[].getD i 0,(ch 0).u⟩) w
section
variable(it loc so sd n2i tp rl ls a da la:Addr)(k kk:Nat->Tok)(pv nv v3 v4 v5 v6 v7 nmv:Value)(kvs:List KV)(vs rv:List Value)(n i m m2:Nat)(np:Int)(nt:Tok)(y:List Nat)(t:Tok)(hx:vs[i]?=some (.str (T y) t))(hk:lk kvs y=some (.ref a))
noncomputable def DA(hz:(np-1==0)=true)(hr:rv.length<=9000)(w:World):=
 aT (mT) 40 (λP=>aG (aP (ao (aP f8 3)) 4) it (bS loc))
 (λP=>[(it,aI ls i),(ls,oL vs m),(loc,frm P be kk [.ref so,.ref tp,.ref n2i,v3,v4,v5,v6,v7] 8),(n2i,oD (eS P kvs) n),(a,dW da nmv (.int np nt) la),(so,oI 484 sd),(sd,aD P sN k [.ref n2i,.ref (rl+ab),pv,nv] 4),(rl+ab,oL rv m2)]) (λP=>[])
 0x10730c30c2c128a04104a0810412871090490410810412410420420410410410412420410491c90490410810412410420420410410490490812420410490822412410420410490410810810410410410490810412471c71082081c71c7105 (λw=>[cH 0 1 hx,rF 0 [3] [] λhh=>fg n2i n kvs y t (.ref a) hk,qF hz,dF 7 (vs:=rv) (by omega)])
 [0,1,2,3,4,5,6,7] [] (λP ch=>.ok (.again (aG (aP (ao (aP f8 3)) 4) it (bS loc)))) (λP ch=>[(it,aI ls (i+1)),(ls,oL vs m),(loc,frm P be kk [.ref so,.ref tp,.ref n2i,v3,v4,v5,.str (T y) t,.ref a] 8),(n2i,oD (eS P kvs) n),(a,dW da nmv (.int (np-1) (nZ ch 6)) la),(so,oI 484 sd),(sd,aD P sN k [.ref n2i,.ref (rl+ab),pv,nv] 4),(rl+ab,oL (rv++[.str (T y) t]) (m2+1))]) (λP ch=>[]) w
noncomputable def Dz(hz:(np-1==0)=false)(hr:rv.length<=9000)(w:World):=
 aT (mT) 40 (λP=>aG (aP (ao (aP f8 3)) 4) it (bS loc))
 (λP=>[(it,aI ls i),(ls,oL vs m),(loc,frm P be kk [.ref so,.ref tp,.ref n2i,v3,v4,v5,v6,v7] 8),(n2i,oD (eS P kvs) n),(a,dW da nmv (.int np nt) la),(so,oI 484 sd),(sd,aD P sN k [.ref n2i,.ref (rl+ab),pv,nv] 4),(rl+ab,oL rv m2)]) (λP=>[])
 0x1090490410810412410420420410410410412420410491c90490410810412410420420410410490490812420410490822412410420410490410810810410410410490810412471c71082081c71c7105 (λw=>[cH 0 1 hx,rF 0 [3] [] λhh=>fg n2i n kvs y t (.ref a) hk,qF hz])
 [0,1,2,3,4,5,6,7] [] (λP ch=>.ok (.again (aG (aP (ao (aP f8 3)) 4) it (bS loc)))) (λP ch=>[(it,aI ls (i+1)),(ls,oL vs m),(loc,frm P be kk [.ref so,.ref tp,.ref n2i,v3,v4,v5,.str (T y) t,.ref a] 8),(n2i,oD (eS P kvs) n),(a,dW da nmv (.int (np-1) (nZ ch 6)) la),(so,oI 484 sd),(sd,aD P sN k [.ref n2i,.ref (rl+ab),pv,nv] 4),(rl+ab,oL rv m2)]) (λP ch=>[]) w
noncomputable def Dy(hz:(np-1==0)=true)(hr:rv.length<=9000)(w:World):=
 aT (mT) 40 (λP=>aG (aP (ao (aP f8 3)) 4) it (bS loc))
 (λP=>[(it,aI ls i),(ls,oL vs m),(loc,frm P be kk [.ref so,.ref tp,.ref n2i,v3,v4,v5] 6),(n2i,oD (eS P kvs) n),(a,dW da nmv (.int np nt) la),(so,oI 484 sd),(sd,aD P sN k [.ref n2i,.ref (rl+ab),pv,nv] 4),(rl+ab,oL rv m2)]) (λP=>[])
 0x10730c30c2c128a04104a0810412871090490410810412410420420410410410412420410491c90490410810412410420420410410490490812420410490822412410420410490410810810410410410490810412471c71082081c71c7105 (λw=>[cH 0 1 hx,rF 0 [3] [] λhh=>fg n2i n kvs y t (.ref a) hk,qF hz,dF 7 (vs:=rv) (by omega)])
 [0,1,2,3,4,5,6,7] [] (λP ch=>.ok (.again (aG (aP (ao (aP f8 3)) 4) it (bS loc)))) (λP ch=>[(it,aI ls (i+1)),(ls,oL vs m),(loc,frm P be (kx kk 6 [nZ ch 1,nZ ch 3]) [.ref so,.ref tp,.ref n2i,v3,v4,v5,.str (T y) t,.ref a] 8),(n2i,oD (eS P kvs) n),(a,dW da nmv (.int (np-1) (nZ ch 6)) la),(so,oI 484 sd),(sd,aD P sN k [.ref n2i,.ref (rl+ab),pv,nv] 4),(rl+ab,oL (rv++[.str (T y) t]) (m2+1))]) (λP ch=>[]) w
noncomputable def Dx(hz:(np-1==0)=false)(hr:rv.length<=9000)(w:World):=
 aT (mT) 40 (λP=>aG (aP (ao (aP f8 3)) 4) it (bS loc))
 (λP=>[(it,aI ls i),(ls,oL vs m),(loc,frm P be kk [.ref so,.ref tp,.ref n2i,v3,v4,v5] 6),(n2i,oD (eS P kvs) n),(a,dW da nmv (.int np nt) la),(so,oI 484 sd),(sd,aD P sN k [.ref n2i,.ref (rl+ab),pv,nv] 4),(rl+ab,oL rv m2)]) (λP=>[])
 0x1090490410810412410420420410410410412420410491c90490410810412410420420410410490490812420410490822412410420410490410810810410410410490810412471c71082081c71c7105 (λw=>[cH 0 1 hx,rF 0 [3] [] λhh=>fg n2i n kvs y t (.ref a) hk,qF hz])
 [0,1,2,3,4,5,6,7] [] (λP ch=>.ok (.again (aG (aP (ao (aP f8 3)) 4) it (bS loc)))) (λP ch=>[(it,aI ls (i+1)),(ls,oL vs m),(loc,frm P be (kx kk 6 [nZ ch 1,nZ ch 3]) [.ref so,.ref tp,.ref n2i,v3,v4,v5,.str (T y) t,.ref a] 8),(n2i,oD (eS P kvs) n),(a,dW da nmv (.int (np-1) (nZ ch 6)) la),(so,oI 484 sd),(sd,aD P sN k [.ref n2i,.ref (rl+ab),pv,nv] 4),(rl+ab,oL rv m2)]) (λP ch=>[]) w
end
noncomputable def vm(P:Params)(it loc ls:Addr)(vs:List Value)(i m:Nat):Tr:=
 ⟨[],λuu=>[],λuu=>[],aG (aP (ao (aP f8 3)) 4) it (bS loc),[(it,aI ls i),(ls,oL vs m)],λuu=>(.ok .next),λuu=>[ar i,oL vs m],λuu=>[]⟩
theorem oR(it loc ls:Addr)(vs:List Value)(i m:Nat)(hx:vs[i]?=none)(w:World):af w mT 40 (vm w.params it loc ls vs i m):=
 cx (mT) 40 (λP=>vm P it loc ls vs i m) 35668290 (λw=>[nq 0 1 hx])
 [0,1] [] (λch=>⟨λi=>[].getD i 0,(ch 0).u⟩) w
noncomputable def fC(d:Nd):Addr×Obj:=(d.a,dW d.da (.str (T d.nm) d.tk) (.int d.np d.nt) d.ls)
noncomputable def gT(d:Nd):Addr×Obj:=(d.ls,oL (vT d.sc) d.m)
noncomputable def dR:List Nd->ah
 |[]=>[]
 |d::ns=>fC d::dR ns
noncomputable def f9:List Nd->ah
 |[]=>[]
 |d::ns=>gT d::f9 ns
theorem s9(y:Addr×Obj):∀ns,cZ y (ag ns)=cZ y (dR ns)+cZ y (f9 ns)
 |[]=>rfl
 |d::ns=>by
  show cZ y (rS d++ag ns)=cZ y (fC d::dR ns)+cZ y (gT d::f9 ns);rw[eA,s9 y ns];show cZ y [fC d,gT d]+_=_
  (simp only[eJ,jg];ac_rfl)
theorem dC(a b:List Nd):dR (a++b)=dR a++dR b:=by
 induction a with
 |nil=>rfl
 |cons d a ih=>show _::dR (a++b)=_;rw[ih];rfl
theorem i6(a b:List Nd):f9 (a++b)=f9 a++f9 b:=by
 induction a with
 |nil=>rfl
 |cons d a ih=>show _::f9 (a++b)=_;rw[ih];rfl
theorem g9(y:List Nat):∀ns:List Nd,(∃d∈ns,d.nm=y)->gc λA d B=>ns=A++d::B/\d.nm=y/\∀e∈A,e.nm≠y
 |[],h=>by obtain⟨d,h,_⟩:=h;cases h
 |d::ns,h=>by
  by_cases e:d.nm=y
  .exact⟨[],d,ns,rfl,e,λ_ h=>nomatch h⟩
  .obtain⟨A,d',B,h1,h2,h3⟩:=g9 y ns (by
    obtain⟨d',hm,e'⟩:=h;rcases My.mp hm with rfl |hm
    .exact(e e').elim
    .exact⟨d',hm,e'⟩)
   refine⟨d::A,d',B,by rw[h1];rfl,h2,λe' he=>?_⟩;rcases My.mp he with rfl |he
   .exact e
   .exact h3 e' he
theorem lw{A B:List Nd}{d:Nd}(h:∀e∈A,e.nm≠d.nm):(A++d::B).find? (·.nm==d.nm)=some d:=by
 induction A with
 |nil=>simp
 |cons e A ih=>
  rw[MZ,Nq,show(e.nm==d.nm)=false from beq_eq_false_iff_ne.mpr (h e (.head _))];exact ih λe' he=>h e' (.tail _ he)
theorem pD{A B:List Nd}{d:Nd}(f:Nd->Nd)(h:∀e∈A,e.nm≠d.nm):dn d.nm f (A++d::B)=A++f d::B:=by
 induction A with
 |nil=>show dn d.nm f (d::B)=_;rw[eO];simp
 |cons e A ih=>
  show dn d.nm f (e::(A++d::B))=_;rw[eO];rw[if_neg (by simpa using h e (.head _)),ih λe' he=>h e' (.tail _ he)];rfl
theorem uA{A B:List Nd}{d:Nd}(h:∀e∈A,e.nm≠d.nm):lk (ac (A++d::B)) d.nm=some (.ref d.a):=by
 induction A with
 |nil=>unfold lk ac;simp
 |cons e A ih=>
  have:=ih λe' he=>h e' (.tail _ he)
  unfold lk ac at this ⊢;rw[MZ,Ml,Nq,show((e.nm,e.kt).1==d.nm)=false from beq_eq_false_iff_ne.mpr (h e (.head _))];exact this
noncomputable def dp(t:Tok)(d:Nd):Nd:={d with np:=d.np-1,nt:=t}
noncomputable def o9(y:List Nat)(ns:List Nd):Bool:=match ns.find? (·.nm==y)with
 |some d=>d.np-1==0
 |none=>false
noncomputable def aR(t:Tok)(q:List Nd×List Pt)(p:Pt):List Nd×List Pt:=(dn p.1 (dp t) q.1,bif o9 p.1 q.1 then q.2++[p]else q.2)
noncomputable def co:List Pt->(Nat->Tok)->List Nd×List Pt->List Nd×List Pt
 |[],_,q=>q
 |p::sc,ts,q=>co sc (λi=>ts (i+1)) (aR (ts 0) q p)
noncomputable def FT(t:Tok)(ts:Nat->Tok):Nat->Tok
 |0=>t
 |i+1=>ts i
theorem lH(t:Tok)(q:List Nd×List Pt)(p:Pt):ac (aR t q p).1=ac q.1:=gR _ (dp t) (λd=>⟨rfl,rfl,rfl⟩) q.1
theorem qx(t:Tok)(q:List Nd×List Pt)(p:Pt)(z:List Nat)(h:∃d∈q.1,d.nm=z):∃d∈(aR t q p).1,d.nm=z:=gW _ _ (dp t) (λ_=>rfl) _ h
theorem pQ(t:Tok)(q:List Nd×List Pt)(p:Pt):(aR t q p).2.length<=q.2.length+1:=by
 unfold aR;cases o9 p.1 q.1<;>simp
noncomputable abbrev om:Stmt:=aP f8 3
noncomputable abbrev Hr:Stmt:=aP (ao om) 4
structure Jm where
 it:Addr
 loc:Addr
 so:Addr
 sd:Addr
 n2i:Addr
 tp:Addr
 rl:Addr
 ls:Addr
 k:Nat->Tok
 pv:Value
 nv:Value
 n:Nat
 kvs:List KV
noncomputable def oj(P:Params)(A:Jm)(li:Obj)(fr:Obj)(all:List Pt)(m m2:Nat)(q:List Nd×List Pt):ah:=
 [(A.it,li),(A.ls,oL (vT all) m),(A.loc,fr),(A.n2i,oD (eS P A.kvs) A.n),(A.so,oI 484 A.sd),(A.sd,aD P sN A.k [.ref A.n2i,.ref (A.rl+ab),A.pv,A.nv] 4),(A.rl+ab,oL (vT q.2) m2)]++dR q.1
theorem Ap(w:World)(A:Jm)(kk:Nat->Tok)(v3 v4 v5:Value)(m:Nat)(all:List Pt):∀(rest pre:List Pt) (q:List Nd×List Pt) (v6 v7:Value) (m2:Nat),all=pre++rest->
  (∀p∈rest,(∃e∈q.1,e.nm=p.1)/\lk A.kvs p.1=lk (ac q.1) p.1)->q.2.length+rest.length<=9000->
  ak w mT 40 (aG Hr A.it (bS A.loc)) (oj w.params A (aI A.ls pre.length) (frm w.params be kk [.ref A.so,.ref A.tp,.ref A.n2i,v3,v4,v5,v6,v7] 8) all m m2 q)
   λr N=>r=.ok .next/\iJ λts v6' v7' m'=>N.Perm (oj w.params A (ar all.length) (frm w.params be kk [.ref A.so,.ref A.tp,.ref A.n2i,v3,v4,v5,v6',v7'] 8) all m m' (co rest ts q))
 |[],pre,q,v6,v7,m2,e,hm,hl=>by
  rw[Mq]at e;subst e;refine((((oR A.it A.loc A.ls (vT all) all.length m (by rw[cJ];simp) w).runs).frame ([(A.loc,frm w.params be kk [.ref A.so,.ref A.tp,.ref A.n2i,v3,v4,v5,v6,v7] 8),(A.n2i,oD (eS w.params A.kvs) A.n),(A.so,oI 484 A.sd),(A.sd,aD w.params sN A.k [.ref A.n2i,.ref (A.rl+ab),A.pv,A.nv] 4),(A.rl+ab,oL (vT q.2) m2)]++dR q.1)).perm ?_).mono ?_
  .refine ae λy=>?_
   exact(aN [_,_,_,_,_,_,_] [_] 0x8210f34b2470450c1 0x841433cd2c91c1:)
  .refine fq λch=>?_
   refine⟨_,⟨rfl,λ_=>0,v6,v7,m2,ae λy=>?_⟩,.refl _⟩;exact(aN [_,_,_,_,_,_,_] [_] 0x8210f34b2470420450c1 0x841433cd2c91c1:)
 |p::rest,pre,q,v6,v7,m2,e,hm,hl=>by
  obtain⟨A1,d,B1,h1,h2,h3⟩:=g9 p.1 q.1 (hm p (.head _)).1;have hx:(vT all)[pre.length]?=some (.str (T p.1) p.2):=by rw[cJ,e];simp
  rw[<-h2]at h3;have hk:lk A.kvs p.1=some (.ref d.a):=by rw[(hm p (.head _)).2,h1,<-h2];exact uA h3
  have hz:o9 p.1 q.1=(d.np-1==0):=by unfold o9;rw[h1,<-h2,lw h3]
  have hu:∀t,dn p.1 (dp t) q.1=A1++dp t d::B1:=λt=>by rw[h1,<-h2];exact pD _ h3
  have hr:(vT q.2).length<=9000:=by rw[cy];simp at hl;omega
  have ih:=λ(t:Tok) (m2:Nat)=>Ap w A kk v3 v4 v5 m all rest (pre++[p]) (aR t q p) (.str (T p.1) p.2) (.ref d.a) m2 (by rw[e];simp)
   (λz hzz=>⟨qx _ _ _ _ (hm z (.tail _ hzz)).1,by rw[lH];exact(hm z (.tail _ hzz)).2⟩) (by have:=pQ t q p;simp at hl;omega)
  have hi:dR q.1=dR A1++(fC d::dR B1):=by rw[h1,dC];rfl
  cases h0:(d.np-1==0)with
  |true=>
   refine(((DA A.it A.loc A.so A.sd A.n2i A.tp A.rl A.ls d.a d.da d.ls A.k kk A.pv A.nv v3 v4 v5 v6 v7 (.str (T d.nm) d.tk) A.kvs (vT all) (vT q.2) A.n pre.length m m2 d.np d.nt p.1 p.2 hx hk h0 hr w).frame (dR A1++dR B1)).perm ?_).runs ?_
   .refine ae λy=>?_
    (simp only[oj,hi,fC];exact(aN [_,_,_,_,_,_,_,_] [_,_] 0x20861113cd2c91c50c1 0x208918444f34b1c50c1:))
   .refine fq λch=>?_
    have ed:aR (nZ ch 6) q p=(A1++dp (nZ ch 6) d::B1,q.2++[p]):=by unfold aR;rw[hu,hz,h0];rfl
    have e2:vT (q.2++[p])=vT q.2++[.str (T p.1) p.2]:=by rw[fM];rfl
    have ih:=ih (nZ ch 6) (m2+1);rw[ed]at ih;refine(ih.perm (ae λy=>?_)).mono λr N h=>⟨N,⟨h.1,?_⟩,.refl _⟩
    ·(simp only[oj,dC,dR,fC,dp,e2,Mn,Mg,MC,M3];exact(aN [_,_,_,_,_,_,_,_] [_,_] 0x20911843cd2c91c50c1 0x208610f34b2511c50c1:))
    .obtain⟨_,ts,a,b,c,h⟩:=h;refine⟨FT (nZ ch 6) ts,a,b,c,?_⟩;show N.Perm (oj _ _ _ _ _ _ _ (co rest ts (aR (nZ ch 6) q p)));rw[ed];exact h
  |false=>
   refine(((Dz A.it A.loc A.so A.sd A.n2i A.tp A.rl A.ls d.a d.da d.ls A.k kk A.pv A.nv v3 v4 v5 v6 v7 (.str (T d.nm) d.tk) A.kvs (vT all) (vT q.2) A.n pre.length m m2 d.np d.nt p.1 p.2 hx hk h0 hr w).frame (dR A1++dR B1)).perm ?_).runs ?_
   .refine ae λy=>?_
    (simp only[oj,hi,fC];exact(aN [_,_,_,_,_,_,_,_] [_,_] 0x20861113cd2c91c50c1 0x208918444f34b1c50c1:))
   .refine fq λch=>?_
    have ed:aR (nZ ch 6) q p=(A1++dp (nZ ch 6) d::B1,q.2):=by unfold aR;rw[hu,hz,h0];rfl
    have ih:=ih (nZ ch 6) m2;rw[ed]at ih;refine(ih.perm (ae λy=>?_)).mono λr N h=>⟨N,⟨h.1,?_⟩,.refl _⟩
    ·(simp only[oj,dC,dR,fC,dp,Mn,Mg,MC,M3];exact(aN [_,_,_,_,_,_,_,_] [_,_] 0x20911843cd2c91c50c1 0x208610f34b2511c50c1:))
    .obtain⟨_,ts,a,b,c,h⟩:=h;refine⟨FT (nZ ch 6) ts,a,b,c,?_⟩;show N.Perm (oj _ _ _ _ _ _ _ (co rest ts (aR (nZ ch 6) q p)));rw[ed];exact h
noncomputable abbrev gV(u:U):Value×Value:=u.u (Value×Value) (.none,.none)
noncomputable def u3(u:U):Nat->Tok:=λi=>u.n (i+3)
noncomputable def f3(m a b:Nat)(ts:Nat->Tok):Nat->Nat
 |0=>m
 |1=>a
 |2=>b
 |i+3=>ts i
noncomputable def vk(P:Params)(it loc so sd n2i tp rl ls:Addr)(k kk:Nat->Tok)(pv nv v3 v4 v5 v6 v7:Value)(kvs:List KV)(n m m2:Nat)(sc rd:List Pt)(os:List Nd):Tr:=
 ⟨[dR os],λu=>[dR (co sc (u3 u) (os,rd)).1],λ_=>[],aG Hr it (bS loc),[(it,aI ls 0),(ls,oL (vT sc) m),(loc,frm P be kk [.ref so,.ref tp,.ref n2i,v3,v4,v5,v6,v7] 8),(n2i,oD (eS P kvs) n),(so,oI 484 sd),(sd,aD P sN k [.ref n2i,.ref (rl+ab),pv,nv] 4),(rl+ab,oL (vT rd) m2)],λ_=>.ok .next,λu=>[ar sc.length,oL (vT sc) m,frm P be kk [.ref so,.ref tp,.ref n2i,v3,v4,v5,(gV u).1,(gV u).2] 8,oD (eS P kvs) n,oI 484 sd,aD P sN k [.ref n2i,.ref (rl+ab),pv,nv] 4,oL (vT (co sc (u3 u) (os,rd)).2) (u.n 0)],λ_=>[]⟩
theorem AN(it loc so sd n2i tp rl ls:Addr)(k kk:Nat->Tok)(pv nv v3 v4 v5 v6 v7:Value)(kvs:List KV)(n m m2:Nat)(sc rd:List Pt)(os:List Nd)
  (hm:∀p∈sc,(∃e∈os,e.nm=p.1)/\lk kvs p.1=lk (ac os) p.1) (hl:rd.length+sc.length<=9000) (w:World):af w mT 40 (vk w.params it loc so sd n2i tp rl ls k kk pv nv v3 v4 v5 v6 v7 kvs n m m2 sc rd os):=by
 refine ak.tri (Q:=λr N=>r=.ok .next/\iJ λts v6' v7' m'=>N.Perm (oj w.params ⟨it,loc,so,sd,n2i,tp,rl,ls,k,pv,nv,n,kvs⟩ (ar sc.length) (frm w.params be kk [.ref so,.ref tp,.ref n2i,v3,v4,v5,v6',v7'] 8) sc m m' (co sc ts (os,rd)))) (λ_=>⟨rfl,rfl⟩) ?_ ?_
 .refine(Ap w ⟨it,loc,so,sd,n2i,tp,rl,ls,k,pv,nv,n,kvs⟩ kk v3 v4 v5 m sc sc [] (os,rd) v6 v7 m2 rfl hm hl).perm (ae λy=>?_);exact(aN [_,_,_,_,_,_,_] [_] 0x843cd2c91c50c1 0x820443cd2c91c50c1:)
 .rintro r N ⟨rfl,ts,v6',v7',m',hN⟩;obtain⟨u,hu1,hu⟩:=n9 (v6',v7') (f3 m' 0 0 ts);have e3:u3 u=ts:=by funext i;show u.n (i+3)=_;rw[hu1];rfl
  have e0:u.n 0=m':=by rw[hu1];rfl
  refine⟨u,rfl,hN.trans (ae λy=>?_)⟩
  (simp only[vk,oj,hu,e3,e0,bO,bP];exact(aN [_,_,_,_,_,_,_] [_] 0x843cd2c91c50c1 0x820440813cd2c91c50c1:))
noncomputable def mh(P:Params)(it loc so sd n2i tp rl ls:Addr)(k kk:Nat->Tok)(pv nv v3 v4 v5:Value)(kvs:List KV)(n m m2:Nat)(sc rd:List Pt)(os:List Nd):Tr:=
 ⟨[dR os],λu=>[dR (co sc (u3 u) (os,rd)).1],λ_=>[],aG Hr it (bS loc),[(it,aI ls 0),(ls,oL (vT sc) m),(loc,frm P be kk [.ref so,.ref tp,.ref n2i,v3,v4,v5] 6),(n2i,oD (eS P kvs) n),(so,oI 484 sd),(sd,aD P sN k [.ref n2i,.ref (rl+ab),pv,nv] 4),(rl+ab,oL (vT rd) m2)],λ_=>.ok .next,λu=>[ar sc.length,oL (vT sc) m,frm P be (kx kk 6 [u.n 1,u.n 2]) [.ref so,.ref tp,.ref n2i,v3,v4,v5,(gV u).1,(gV u).2] 8,oD (eS P kvs) n,oI 484 sd,aD P sN k [.ref n2i,.ref (rl+ab),pv,nv] 4,oL (vT (co sc (u3 u) (os,rd)).2) (u.n 0)],λ_=>[]⟩
theorem tM(it loc so sd n2i tp rl ls:Addr)(k kk:Nat->Tok)(pv nv v3 v4 v5:Value)(kvs:List KV)(n m m2:Nat)(sc rd:List Pt)(os:List Nd)
  (h1:1<=sc.length) (hm:∀p∈sc,(∃e∈os,e.nm=p.1)/\lk kvs p.1=lk (ac os) p.1) (hl:rd.length+sc.length<=9000) (w:World):af w mT 40 (mh w.params it loc so sd n2i tp rl ls k kk pv nv v3 v4 v5 kvs n m m2 sc rd os):=by
 refine ak.tri (Q:=λr N=>r=.ok .next/\sM λts a b v6' v7' m'=>N.Perm (oj w.params ⟨it,loc,so,sd,n2i,tp,rl,ls,k,pv,nv,n,kvs⟩ (ar sc.length) (frm w.params be (kx kk 6 [a,b]) [.ref so,.ref tp,.ref n2i,v3,v4,v5,v6',v7'] 8) sc m m' (co sc ts (os,rd)))) (λ_=>⟨rfl,rfl⟩) ?_ ?_
 .cases sc with
  |nil=>simp at h1
  |cons p rest=>
   obtain⟨A1,d,B1,g1,g2,g3⟩:=g9 p.1 os (hm p (.head _)).1;rw[<-g2]at g3;have hk:lk kvs p.1=some (.ref d.a):=by rw[(hm p (.head _)).2,g1,<-g2];exact uA g3
   have hz:o9 p.1 os=(d.np-1==0):=by unfold o9;rw[g1,<-g2,lw g3]
   have hu:∀t,dn p.1 (dp t) os=A1++dp t d::B1:=λt=>by rw[g1,<-g2];exact pD _ g3
   have hr:(vT rd).length<=9000:=by rw[cy];simp at hl;omega
   have ih:=λ(a b t:Tok) (m2:Nat)=>Ap w ⟨it,loc,so,sd,n2i,tp,rl,ls,k,pv,nv,n,kvs⟩ (kx kk 6 [a,b]) v3 v4 v5 m (p::rest) rest [p] (aR t (os,rd) p) (.str (T p.1) p.2) (.ref d.a) m2 rfl
    (λz hzz=>⟨qx _ _ _ _ (hm z (.tail _ hzz)).1,by rw[lH];exact(hm z (.tail _ hzz)).2⟩) (by have:=pQ t (os,rd) p;simp at hl this;omega)
   have hi:dR os=dR A1++(fC d::dR B1):=by rw[g1,dC];rfl
   cases h0:(d.np-1==0)with
   |true=>
    refine(((Dy it loc so sd n2i tp rl ls d.a d.da d.ls k kk pv nv v3 v4 v5 (.str (T d.nm) d.tk) kvs (vT (p::rest)) (vT rd) n 0 m m2 d.np d.nt p.1 p.2 rfl hk h0 hr w).frame (dR A1++dR B1)).perm ?_).runs ?_
    .refine ae λy=>?_
     (simp only[mh,hi,fC];exact(aN [_,_,_,_,_,_,_,_] [_,_] 0x20861113cd2c91c50c1 0x208108918444f34b1c50c1:))
    .refine fq λch=>?_
     have ed:aR (nZ ch 6) (os,rd) p=(A1++dp (nZ ch 6) d::B1,rd++[p]):=by unfold aR;rw[hu,hz,h0];rfl
     have e2:vT (rd++[p])=vT rd++[.str (T p.1) p.2]:=by rw[fM];rfl
     have ih:=ih (nZ ch 1) (nZ ch 3) (nZ ch 6) (m2+1);rw[ed]at ih;refine(ih.perm (ae λy=>?_)).mono λr N h=>⟨N,⟨h.1,?_⟩,.refl _⟩
     ·(simp only[oj,dC,dR,fC,dp,e2,Mn,Mg,MC,M3];exact(aN [_,_,_,_,_,_,_,_] [_,_] 0x20911843cd2c91c50c1 0x208610f34b2511c50c1:))
     .obtain⟨_,ts,a,b,c,h⟩:=h;refine⟨FT (nZ ch 6) ts,nZ ch 1,nZ ch 3,a,b,c,?_⟩;show N.Perm (oj _ _ _ _ _ _ _ (co rest ts (aR (nZ ch 6) (os,rd) p)));rw[ed];exact h
   |false=>
    refine(((Dx it loc so sd n2i tp rl ls d.a d.da d.ls k kk pv nv v3 v4 v5 (.str (T d.nm) d.tk) kvs (vT (p::rest)) (vT rd) n 0 m m2 d.np d.nt p.1 p.2 rfl hk h0 hr w).frame (dR A1++dR B1)).perm ?_).runs ?_
    .refine ae λy=>?_
     (simp only[mh,hi,fC];exact(aN [_,_,_,_,_,_,_,_] [_,_] 0x20861113cd2c91c50c1 0x208108918444f34b1c50c1:))
    .refine fq λch=>?_
     have ed:aR (nZ ch 6) (os,rd) p=(A1++dp (nZ ch 6) d::B1,rd):=by unfold aR;rw[hu,hz,h0];rfl
     have ih:=ih (nZ ch 1) (nZ ch 3) (nZ ch 6) m2;rw[ed]at ih;refine(ih.perm (ae λy=>?_)).mono λr N h=>⟨N,⟨h.1,?_⟩,.refl _⟩
     ·(simp only[oj,dC,dR,fC,dp,Mn,Mg,MC,M3];exact(aN [_,_,_,_,_,_,_,_] [_,_] 0x20911843cd2c91c50c1 0x208610f34b2511c50c1:))
     .obtain⟨_,ts,a,b,c,h⟩:=h;refine⟨FT (nZ ch 6) ts,nZ ch 1,nZ ch 3,a,b,c,?_⟩;show N.Perm (oj _ _ _ _ _ _ _ (co rest ts (aR (nZ ch 6) (os,rd) p)));rw[ed];exact h
 .rintro r N ⟨rfl,ts,a,b,v6',v7',m',hN⟩;obtain⟨u,hu1,hu⟩:=n9 (v6',v7') (f3 m' a b ts);have e3:u3 u=ts:=by funext i;show u.n (i+3)=_;rw[hu1];rfl
  have e0:u.n 0=m':=by rw[hu1];rfl
  have e1:u.n 1=a:=by rw[hu1];rfl
  have e2:u.n 2=b:=by rw[hu1];rfl
  refine⟨u,rfl,hN.trans (ae λy=>?_)⟩
  (simp only[mh,oj,hu,e3,e0,e1,e2,bO,bP];exact(aN [_,_,_,_,_,_,_] [_] 0x843cd2c91c50c1 0x820440813cd2c91c50c1:))
section
section
variable(it loc so sd n2i tp rl ls a da:Addr)(k kk:Nat->Tok)(pv:Value)(nv:Int)(nmv v3 v4 v5:Value)(kvs:List KV)(vs:List Value)(n i m m2:Nat)(nt tn:Tok)(y:List Nat)(t:Tok)(sc rd:List Pt)(os:List Nd)
noncomputable def Dv(hx:vs[i]?=some (.str (T y) t))(hk:lk kvs y=some (.ref a))(w:World):=
 aT (mT) 50 (λP=>aG om it (bS loc))
 (λP=>[(it,eU tp i),(tp,aj vs),(loc,frm P be kk [.ref so,.ref tp,.ref n2i] 3),(n2i,oD (eS P kvs) n),(a,dW da nmv (.int (-1) nt) ls),(ls,oL [] m),(so,oI 484 sd),(sd,aD P sN k [.ref n2i,.ref (rl+ab),pv,.int nv tn] 4),(rl+ab,oL (vT rd) m2)]) (λP=>[dR os])
 0xc30c04b04104b04b0812c204104b0823012cb04104b0810412c710e08a08a2890490410810412410420420410410410412420410491c90490410810412410420420410410490490812420410491c11011c71c90490410810412410420420410410410412420410491c71c41c82082071c7105 (λw=>[ky 0 1 hx,rF 0 [3] [] λhh=>ff n2i n kvs y t (some (.ref a)) hk,ph,rT 40 [9,5] [] λhh=>oR (aZ hh 9) loc ls [] 0 m rfl w])
 [0,1,2,3,4,5,6,7,8] [0] (λP ch=>.ok (.again (aG om it (bS loc)))) (λP ch=>[(it,eU tp (i+1)),(tp,aj vs),(loc,frm P be (kx kk 3 [nZ ch 1,nZ ch 3,nZ ch 5]) [.ref so,.ref tp,.ref n2i,.str (T y) t,.ref a,.int (-1) nt] 6),(n2i,oD (eS P kvs) n),(a,dW da nmv (.int (-2) 769) ls),(ls,oL [] m),(so,oI 484 sd),(sd,aD P sN k [.ref n2i,.ref (rl+ab),pv,.int (nv+1) (nZ ch 13)] 4),(rl+ab,oL (vT rd) m2)]) (λP ch=>[dR os]) w
noncomputable def Hs(hx:vs[i]?=some (.str (T y) t))(hk:lk kvs y=some (.ref a))(h1:1<=sc.length)(hm:∀p∈sc,(∃e∈os,e.nm=p.1)/\lk kvs p.1=lk (ac os) p.1)(hl:rd.length+sc.length<=9000)(w:World):=
 aT (mT) 50 (λP=>aG om it (bS loc))
 (λP=>[(it,eU tp i),(tp,aj vs),(loc,frm P be kk [.ref so,.ref tp,.ref n2i] 3),(n2i,oD (eS P kvs) n),(a,dW da nmv (.int (-1) nt) ls),(ls,oL (vT sc) m),(so,oI 484 sd),(sd,aD P sN k [.ref n2i,.ref (rl+ab),pv,.int nv tn] 4),(rl+ab,oL (vT rd) m2)]) (λP=>[dR os])
 0xc30c04b04104b04b0812c204104b0823012cb04104b0810412c710e08a08a2890490410810412410420420410410410412420410491c90490410810412410420420410410490490812420410491c11011c71c90490410810412410420420410410410412420410491c71c41c82082071c7105 (λw=>[ky 0 1 hx,rF 0 [3] [] λhh=>ff n2i n kvs y t (some (.ref a)) hk,ph,rT 40 [9,5,2,3,6,7,8] [0] λhh=>tM (aZ hh 9) loc so sd n2i tp rl ls k (kx kk 3 [nZ hh 1,nZ hh 3,nZ hh 5]) pv (.int nv tn) (.str (T y) t) (.ref a) (.int (-1) nt) kvs n m m2 sc rd os h1 hm hl w])
 [0,1,2,3,4,5,6,7,8] [0] (λP ch=>.ok (.again (aG om it (bS loc)))) (λP ch=>[(it,eU tp (i+1)),(tp,aj vs),(loc,frm P be (kx (kx kk 3 [nZ ch 1,nZ ch 3,nZ ch 5]) 6 [(ch 10).n 1,(ch 10).n 2]) [.ref so,.ref tp,.ref n2i,.str (T y) t,.ref a,.int (-1) nt,(gV (ch 10)).1,(gV (ch 10)).2] 8),(n2i,oD (eS P kvs) n),(a,dW da nmv (.int (-2) 769) ls),(ls,oL (vT sc) m),(so,oI 484 sd),(sd,aD P sN k [.ref n2i,.ref (rl+ab),pv,.int (nv+1) (nZ ch 13)] 4),(rl+ab,oL (vT (co sc (u3 (ch 10)) (os,rd)).2) (nZ ch 10))]) (λP ch=>[dR (co sc (u3 (ch 10)) (os,rd)).1]) w
noncomputable def Dw(hx:vs[i]?=some (.str (T y) t))(hk:lk kvs y=some (.ref a))(w:World):=
 aT (mT) 50 (λP=>aG om it (bS loc))
 (λP=>[(it,eU tp i),(tp,aj vs),(loc,frm P be kk [.ref so,.ref tp,.ref n2i,v3,v4,v5] 6),(n2i,oD (eS P kvs) n),(a,dW da nmv (.int (-1) nt) ls),(ls,oL [] m),(so,oI 484 sd),(sd,aD P sN k [.ref n2i,.ref (rl+ab),pv,.int nv tn] 4),(rl+ab,oL (vT rd) m2)]) (λP=>[dR os])
 0xc30c04b04104b04b0812c204104b0823012cb04104b0810412c710e08a08a2890490410810412410420420410410410412420410491c90490410810412410420420410410490490812420410491c11011c71c90490410810412410420420410410410412420410491c71c41c82082071c7105 (λw=>[ky 0 1 hx,rF 0 [3] [] λhh=>ff n2i n kvs y t (some (.ref a)) hk,ph,rT 40 [9,5] [] λhh=>oR (aZ hh 9) loc ls [] 0 m rfl w])
 [0,1,2,3,4,5,6,7,8] [0] (λP ch=>.ok (.again (aG om it (bS loc)))) (λP ch=>[(it,eU tp (i+1)),(tp,aj vs),(loc,frm P be kk [.ref so,.ref tp,.ref n2i,.str (T y) t,.ref a,.int (-1) nt] 6),(n2i,oD (eS P kvs) n),(a,dW da nmv (.int (-2) 769) ls),(ls,oL [] m),(so,oI 484 sd),(sd,aD P sN k [.ref n2i,.ref (rl+ab),pv,.int (nv+1) (nZ ch 13)] 4),(rl+ab,oL (vT rd) m2)]) (λP ch=>[dR os]) w
noncomputable def Ht(hx:vs[i]?=some (.str (T y) t))(hk:lk kvs y=some (.ref a))(h1:1<=sc.length)(hm:∀p∈sc,(∃e∈os,e.nm=p.1)/\lk kvs p.1=lk (ac os) p.1)(hl:rd.length+sc.length<=9000)(w:World):=
 aT (mT) 50 (λP=>aG om it (bS loc))
 (λP=>[(it,eU tp i),(tp,aj vs),(loc,frm P be kk [.ref so,.ref tp,.ref n2i,v3,v4,v5] 6),(n2i,oD (eS P kvs) n),(a,dW da nmv (.int (-1) nt) ls),(ls,oL (vT sc) m),(so,oI 484 sd),(sd,aD P sN k [.ref n2i,.ref (rl+ab),pv,.int nv tn] 4),(rl+ab,oL (vT rd) m2)]) (λP=>[dR os])
 0xc30c04b04104b04b0812c204104b0823012cb04104b0810412c710e08a08a2890490410810412410420420410410410412420410491c90490410810412410420420410410490490812420410491c11011c71c90490410810412410420420410410410412420410491c71c41c82082071c7105 (λw=>[ky 0 1 hx,rF 0 [3] [] λhh=>ff n2i n kvs y t (some (.ref a)) hk,ph,rT 40 [9,5,2,3,6,7,8] [0] λhh=>tM (aZ hh 9) loc so sd n2i tp rl ls k kk pv (.int nv tn) (.str (T y) t) (.ref a) (.int (-1) nt) kvs n m m2 sc rd os h1 hm hl w])
 [0,1,2,3,4,5,6,7,8] [0] (λP ch=>.ok (.again (aG om it (bS loc)))) (λP ch=>[(it,eU tp (i+1)),(tp,aj vs),(loc,frm P be (kx kk 6 [(ch 10).n 1,(ch 10).n 2]) [.ref so,.ref tp,.ref n2i,.str (T y) t,.ref a,.int (-1) nt,(gV (ch 10)).1,(gV (ch 10)).2] 8),(n2i,oD (eS P kvs) n),(a,dW da nmv (.int (-2) 769) ls),(ls,oL (vT sc) m),(so,oI 484 sd),(sd,aD P sN k [.ref n2i,.ref (rl+ab),pv,.int (nv+1) (nZ ch 13)] 4),(rl+ab,oL (vT (co sc (u3 (ch 10)) (os,rd)).2) (nZ ch 10))]) (λP ch=>[dR (co sc (u3 (ch 10)) (os,rd)).1]) w
noncomputable def Hu(v6 v7:Value)(kvs:List KV)(vs:List Value)(n i m m2:Nat)(nt tn:Tok)(y:List Nat)(t:Tok)(sc rd:List Pt)(os:List Nd)(hx:vs[i]?=some (.str (T y) t))(hk:lk kvs y=some (.ref a))(hm:∀p∈sc,(∃e∈os,e.nm=p.1)/\lk kvs p.1=lk (ac os) p.1)(hl:rd.length+sc.length<=9000)(w:World):=
 aT (mT) 50 (λP=>aG om it (bS loc))
 (λP=>[(it,eU tp i),(tp,aj vs),(loc,frm P be kk [.ref so,.ref tp,.ref n2i,v3,v4,v5,v6,v7] 8),(n2i,oD (eS P kvs) n),(a,dW da nmv (.int (-1) nt) ls),(ls,oL (vT sc) m),(so,oI 484 sd),(sd,aD P sN k [.ref n2i,.ref (rl+ab),pv,.int nv tn] 4),(rl+ab,oL (vT rd) m2)]) (λP=>[dR os])
 0xc30c04b04104b04b0812c204104b0823012cb04104b0810412c710e08a08a2890490410810412410420420410410410412420410491c90490410810412410420420410410490490812420410491c11011c71c90490410810412410420420410410410412420410491c71c41c82082071c7105 (λw=>[ky 0 1 hx,rF 0 [3] [] λhh=>ff n2i n kvs y t (some (.ref a)) hk,ph,rT 40 [9,5,2,3,6,7,8] [0] λhh=>AN (aZ hh 9) loc so sd n2i tp rl ls k kk pv (.int nv tn) (.str (T y) t) (.ref a) (.int (-1) nt) v6 v7 kvs n m m2 sc rd os hm hl w])
 [0,1,2,3,4,5,6,7,8] [0] (λP ch=>.ok (.again (aG om it (bS loc)))) (λP ch=>[(it,eU tp (i+1)),(tp,aj vs),(loc,frm P be kk [.ref so,.ref tp,.ref n2i,.str (T y) t,.ref a,.int (-1) nt,(gV (ch 10)).1,(gV (ch 10)).2] 8),(n2i,oD (eS P kvs) n),(a,dW da nmv (.int (-2) 769) ls),(ls,oL (vT sc) m),(so,oI 484 sd),(sd,aD P sN k [.ref n2i,.ref (rl+ab),pv,.int (nv+1) (nZ ch 13)] 4),(rl+ab,oL (vT (co sc (u3 (ch 10)) (os,rd)).2) (nZ ch 10))]) (λP ch=>[dR (co sc (u3 (ch 10)) (os,rd)).1]) w
noncomputable def Hv(loc:Addr)(vs:List Value)(i:Nat)(hx:vs[i]?=none)(w:World):=
 cY (mT) 50 (λP=>aG om it (bS loc))
 (λP=>[(it,eU tp i),(tp,aj vs)]) (λP=>[])
 35668290 (λw=>[x8 0 1 hx])
 [0,1] [] (λP ch=>(.ok .next)) (λP ch=>[(it,dg i),(tp,aj vs)]) (λP ch=>[]) w
end
end
theorem bH.mono{w:World}{hb:Md}{lv:Nat}{c:Code}{M:ah}{Q Q':Except Value Fin->ah->Prop}(h:bH w hb lv c M Q)(i:∀r N,Q r N->Mo (Q' r) N):bH w hb lv c M Q':=λMt os G A s R hA C H=>
 h Mt os G A s R hA C λr N s' q C'=>let⟨N',q',p⟩:=i r N q;H r N' s' q' (C'.perm p)
theorem qX(f:Nd->Nd)(d:Nd)(B:List Nd)(y:List Nat)(hy:d.nm≠y):∀A:List Nd,et λA' B'=>dn y f (A++B)=A'++B'/\dn y f (A++d::B)=A'++d::B'
 |[]=>⟨[],dn y f B,rfl,by show dn y f (d::B)=_;(conv=>lhs;rw[eO]);rw[if_neg (by simpa using hy)];rfl⟩
 |a::A=>by
  show et λA' B'=>dn y f (a::(A++B))=_/\dn y f (a::(A++d::B))=_
  by_cases h:a.nm=y
  .refine⟨f a::A,B,?_,?_⟩<;>(conv=>lhs;rw[eO])<;>rw[if_pos (by simpa using h)]<;>rfl
  .obtain⟨A',B',h1,h2⟩:=qX f d B y hy A;refine⟨a::A',B',?_,?_⟩<;>(conv=>lhs;rw[eO])<;>rw[if_neg (by simpa using h)]
   .rw[h1];rfl
   .rw[h2];rfl
theorem tE(d:Nd)(A B:List Nd)(y:List Nat)(hy:d.nm≠y):(A++d::B).find? (·.nm==y)=(A++B).find? (·.nm==y):=by
 rw[N7,N7,Nq,show(d.nm==y)=false from beq_eq_false_iff_ne.mpr hy]
theorem A9(d:Nd)(A B:List Nd)(y:List Nat)(hy:d.nm≠y):lk (ac (A++d::B)) y=lk (ac (A++B)) y:=by
 unfold lk;rw[lG,lG,N7,N7];rw[show ac (d::B)=((d.nm,d.kt),Value.ref d.a)::ac B from rfl,Nq,show(((d.nm,d.kt),Value.ref d.a).1.1==y)=false from beq_eq_false_iff_ne.mpr hy]
theorem pP(d:Nd):∀(sc:List Pt) (ts:Nat->Tok) (A B:List Nd) (rd:List Pt),(∀p∈sc,d.nm≠p.1)->et λA' B'=>(co sc ts (A++B,rd)).1=A'++B'/\co sc ts (A++d::B,rd)=(A'++d::B',(co sc ts (A++B,rd)).2)
 |[],ts,A,B,rd,h=>⟨A,B,rfl,rfl⟩
 |p::sc,ts,A,B,rd,h=>by
  obtain⟨A1,B1,h1,h2⟩:=qX (dp (ts 0)) d B p.1 (h p (.head _)) A;have hz:o9 p.1 (A++d::B)=o9 p.1 (A++B):=by unfold o9;rw[tE d A B p.1 (h p (.head _))]
  have e1:aR (ts 0) (A++B,rd) p=(A1++B1,bif o9 p.1 (A++B)then rd++[p]else rd):=by unfold aR;rw[h1]
  have e2:aR (ts 0) (A++d::B,rd) p=(A1++d::B1,bif o9 p.1 (A++B)then rd++[p]else rd):=by unfold aR;rw[h2,hz]
  obtain⟨A',B',g1,g2⟩:=pP d sc (λi=>ts (i+1)) A1 B1 (bif o9 p.1 (A++B)then rd++[p]else rd) λq hq=>h q (.tail _ hq)
  refine⟨A',B',?_,?_⟩
  .show(co sc (λi=>ts (i+1)) (aR (ts 0) (A++B,rd) p)).1=_;rw[e1];exact g1
  .show co sc (λi=>ts (i+1)) (aR (ts 0) (A++d::B,rd) p)=(_,(co sc (λi=>ts (i+1)) (aR (ts 0) (A++B,rd) p)).2);rw[e1,e2];exact g2
theorem qA(y:List Nat)(f:Nd->Nd)(hf:∀d,gT (f d)=gT d):∀ns,f9 (dn y f ns)=f9 ns
 |[]=>rfl
 |d::ns=>by
  rw[eO];split
  .show gT (f d)::f9 ns=_;rw[hf];rfl
  .show gT d::f9 (dn y f ns)=_;rw[qA y f hf ns];rfl
theorem qz:∀(sc:List Pt) (ts:Nat->Tok) (q:List Nd×List Pt),f9 (co sc ts q).1=f9 q.1
 |[],_,_=>rfl
 |p::sc,ts,q=>by
  show f9 (co sc (λi=>ts (i+1)) (aR (ts 0) q p)).1=_;rw[qz sc _ _];exact qA _ (dp (ts 0)) (λ_=>rfl) _
theorem mY:∀(sc:List Pt) (ts:Nat->Tok) (q:List Nd×List Pt),ac (co sc ts q).1=ac q.1
 |[],_,_=>rfl
 |p::sc,ts,q=>by
  show ac (co sc (λi=>ts (i+1)) (aR (ts 0) q p)).1=_;rw[mY sc _ _,lH]
noncomputable def bJ(ts:Nat->Tok)(q:List Nd×List Pt)(p:Pt):List Nd×List Pt:=match q.1.find? (·.nm==p.1)with
 |some d=>co d.sc ts (dn p.1 (cN (-2) 769) q.1,q.2)
 |none=>q
noncomputable def i5(q:List Nd×List Pt)(p:Pt):Prop:=∃d,q.1.find? (·.nm==p.1)=some d/\d.np= -1/\(∀s∈d.sc,s.1≠p.1/\∃e∈q.1,e.nm=s.1)/\q.2.length+d.sc.length<=9000
theorem iF(ts:Nat->Tok)(q:List Nd×List Pt)(p:Pt):ac (bJ ts q p).1=ac q.1:=by
 unfold bJ;split
 .rw[mY];exact gR _ (cN (-2) 769) (λd=>⟨rfl,rfl,rfl⟩) _
 .rfl
theorem BI:vT []=[]:=rfl
structure BZ where
 it:Addr
 loc:Addr
 so:Addr
 sd:Addr
 n2i:Addr
 tp:Addr
 rl:Addr
 k:Nat->Tok
 pv:Value
 n:Nat
 vs:List Value
noncomputable def lp(P:Params)(A:BZ)(kvs:List KV)(li:Obj)(fr:Obj)(nv:Int)(tn:Tok)(m2:Nat)(q:List Nd×List Pt):ah:=
 [(A.it,li),(A.tp,aj A.vs),(A.loc,fr),(A.n2i,oD (eS P kvs) A.n),(A.so,oI 484 A.sd),(A.sd,aD P sN A.k [.ref A.n2i,.ref (A.rl+ab),A.pv,.int nv tn] 4),(A.rl+ab,oL (vT q.2) m2)]++ag q.1
noncomputable def IS(P:Params)(A:BZ)(o:Obj):Prop:=(∃kk,o=frm P be kk [.ref A.so,.ref A.tp,.ref A.n2i] 3)\/(iJ λkk v3 v4 v5=>o=frm P be kk [.ref A.so,.ref A.tp,.ref A.n2i,v3,v4,v5] 6)\/
 (sM λkk v3 v4 v5 v6 v7=>o=frm P be kk [.ref A.so,.ref A.tp,.ref A.n2i,v3,v4,v5,v6,v7] 8)
theorem oF{ns:List Nd}{y:List Nat}{d:Nd}(h:ns.find? (·.nm==y)=some d):et λA B=>ns=A++d::B/\d.nm=y/\∀e∈A,e.nm≠d.nm:=by
 have hm:∃e∈ns,e.nm=y:=⟨d,PW h,by simpa using Q8 h⟩;obtain⟨A,d',B,h1,h2,h3⟩:=g9 y ns hm;rw[<-h2]at h3;have:=lw (B:=B) h3;rw[<-h1,h2]at this;rw[h]at this;cases this;exact⟨A,B,h1,h2,h3⟩
theorem vM{P:Params}{A:BZ}{kvs:List KV}{li fr:Obj}{nv:Int}{tn:Tok}{m2:Nat}{q:List Nd×List Pt}{I L:ah}{ci cl:Addr×Obj}{rd:List Pt}(hM:∀y,cZ y (ag q.1)=cZ y I+cZ y L+pg y ci+pg y cl)(hr:q.2=rd):
  (fl [(A.it,li),(A.tp,aj A.vs),(A.loc,fr),(A.n2i,oD (eS P kvs) A.n),ci,cl,(A.so,oI 484 A.sd),(A.sd,aD P sN A.k [.ref A.n2i,.ref (A.rl+ab),A.pv,.int nv tn] 4),(A.rl+ab,oL (vT rd) m2)] [I]++L).Perm (lp P A kvs li fr nv tn m2 q):=by
 subst hr;refine ae λy=>?_
 simp only[lp,hM y,eA,s8,eJ,jg,ge,iA];ac_rfl
theorem Aq(w:World)(A:BZ)(i:Nat)(fr:Obj)(nv:Int)(tn:Tok)(m2:Nat)(q:List Nd×List Pt)(p:Pt)(kvs:List KV)(hf:IS w.params A fr)(hx:A.vs[i]?=some (.str (T p.1) p.2))(hd:i5 q p)(hkv:kvs=ac q.1):
  bH w mT 50 (aG om A.it (bS A.loc)) (lp w.params A kvs (eU A.tp i) fr nv tn m2 q)
   λr N=>r=.ok (.again (aG om A.it (bS A.loc)))/\iJ λts fr' tn' m2'=>IS w.params A fr'/\N.Perm (lp w.params A kvs (eU A.tp (i+1)) fr' (nv+1) tn' m2' (bJ ts q p)):=by
 obtain⟨d,hfd,hnp,hsc,hln⟩:=hd;obtain⟨A1,B1,h1,h2,h3⟩:=oF hfd;have hk:lk kvs p.1=some (.ref d.a):=by rw[hkv,h1,<-h2];exact uA h3
 have hm:∀s∈d.sc,(∃e∈A1++B1,e.nm=s.1)/\lk kvs s.1=lk (ac (A1++B1)) s.1:=λs hs=>by
  have hne:d.nm≠s.1:=by rw[h2];exact λh=>(hsc s hs).1 h.symm
  refine⟨?_,by rw[hkv,h1];exact A9 d A1 B1 s.1 hne⟩;obtain⟨e,he,en⟩:=(hsc s hs).2;rw[h1]at he;rcases MT.mp he with he |he
  .exact⟨e,MI _ he,en⟩
  .rcases My.mp he with rfl |he
   .exact(hne en).elim
   .exact⟨e,MH _ he,en⟩
 have hdone:∀ts,et λA' B'=>(co d.sc ts (A1++B1,q.2)).1=A'++B'/\bJ ts q p=(A'++cN (-2) 769 d::B',(co d.sc ts (A1++B1,q.2)).2):=λts=>by
  obtain⟨A',B',g1,g2⟩:=pP (cN (-2) 769 d) d.sc ts A1 B1 q.2 (λs hs=>by show d.nm≠s.1;rw[h2];exact λh=>(hsc s hs).1 h.symm);refine⟨A',B',g1,?_⟩;unfold bJ;rw[hfd];simp only;rw[show dn p.1 (cN (-2) 769) q.1=A1++cN (-2) 769 d::B1 from by rw[h1,<-h2];exact pD _ h3];exact g2
 have hM:∀y,cZ y (ag q.1)=cZ y (dR (A1++B1))+cZ y (f9 (A1++B1))+pg y (fC d)+pg y (gT d):=λy=>by
  rw[s9,h1,dC,i6,dC,i6,show dR (d::B1)=fC d::dR B1 from rfl,show f9 (d::B1)=gT d::f9 B1 from rfl]
  (simp only[eA,eJ];ac_rfl)
 have hE:∀ts y,cZ y (ag (bJ ts q p).1)=cZ y (dR (co d.sc ts (A1++B1,q.2)).1)+cZ y (f9 (A1++B1))+pg y (fC (cN (-2) 769 d))+pg y (gT d):=λts y=>by
  obtain⟨A',B',g1,g2⟩:=hdone ts;have g3:f9 (A'++B')=f9 (A1++B1):=by rw[<-g1];exact qz _ _ _
  have g4:cZ y (f9 (A'++B'))=cZ y (f9 (A1++B1)):=by rw[g3]
  rw[g2,s9,g1];simp only;rw[i6,eA]at g4;rw[dC,i6,dC,show dR (cN (-2) 769 d::B')=fC (cN (-2) 769 d)::dR B' from rfl,show f9 (cN (-2) 769 d::B')=gT d::f9 B' from rfl];simp only[eA,eJ];omega
 have hR:∀ts,(bJ ts q p).2=(co d.sc ts (A1++B1,q.2)).2:=λts=>by
  obtain⟨A',B',g1,g2⟩:=hdone ts;rw[g2]
 have en:(.int d.np d.nt:Value)=.int (-1) d.nt:=by rw[hnp]
 have hM1:∀y,cZ y (ag q.1)=cZ y (dR (A1++B1))+cZ y (f9 (A1++B1))+pg y (d.a,dW d.da (.str (T d.nm) d.tk) (.int (-1) d.nt) d.ls)+pg y (gT d):=λy=>by rw[hM y,<-en];rfl
 have hM0:d.sc=[]->∀y,cZ y (ag q.1)=cZ y (dR (A1++B1))+cZ y (f9 (A1++B1))+pg y (d.a,dW d.da (.str (T d.nm) d.tk) (.int (-1) d.nt) d.ls)+pg y (d.ls,oL [] d.m):=λes y=>by rw[hM1 y];unfold gT;rw[es];rfl
 have hE0:d.sc=[]->∀ts y,cZ y (ag (bJ ts q p).1)=cZ y (dR (A1++B1))+cZ y (f9 (A1++B1))+pg y (fC (cN (-2) 769 d))+pg y (d.ls,oL [] d.m):=λes ts y=>by rw[hE ts y];unfold gT;rw[es];rfl
 have hR0:d.sc=[]->∀ts,(bJ ts q p).2=q.2:=λes ts=>by rw[hR ts,es];rfl
 rcases hf with⟨kk,rfl⟩ |⟨kk,v3,v4,v5,rfl⟩ |⟨kk,v3,v4,v5,v6,v7,rfl⟩
 .rcases QF d.sc.length with h0 |h0
  .have es:d.sc=[]:=N4.mp h0;refine(((Dv A.it A.loc A.so A.sd A.n2i A.tp A.rl d.ls d.a d.da A.k kk A.pv nv (.str (T d.nm) d.tk) kvs A.vs A.n i d.m m2 d.nt tn p.1 p.2 q.2 (A1++B1) hx hk w).frame (f9 (A1++B1))).perm ?_).mono ?_
   .exact vM (hM0 es) rfl
   .refine fq λch=>?_
    exact⟨_,⟨rfl,λ_=>0,frm w.params be (kx kk 3 [nZ ch 1,nZ ch 3,nZ ch 5]) [.ref A.so,.ref A.tp,.ref A.n2i,.str (T p.1) p.2,.ref d.a,.int (-1) d.nt] 6,nZ ch 13,m2,.inr (.inl ⟨_,_,_,_,rfl⟩),vM (hE0 es _) (hR0 es _)⟩,.refl _⟩
  .refine(((Hs A.it A.loc A.so A.sd A.n2i A.tp A.rl d.ls d.a d.da A.k kk A.pv nv (.str (T d.nm) d.tk) kvs A.vs A.n i d.m m2 d.nt tn p.1 p.2 d.sc q.2 (A1++B1) hx hk h0 hm hln w).frame (f9 (A1++B1))).perm ?_).mono ?_
   .exact vM hM1 rfl
   .refine fq λch=>?_
    exact⟨_,⟨rfl,u3 (ch 10),frm w.params be (kx (kx kk 3 [nZ ch 1,nZ ch 3,nZ ch 5]) 6 [(ch 10).n 1,(ch 10).n 2]) [.ref A.so,.ref A.tp,.ref A.n2i,.str (T p.1) p.2,.ref d.a,.int (-1) d.nt,(gV (ch 10)).1,(gV (ch 10)).2] 8,nZ ch 13,nZ ch 10,.inr (.inr ⟨_,_,_,_,_,_,rfl⟩),vM (hE _) (hR _)⟩,.refl _⟩
 .rcases QF d.sc.length with h0 |h0
  .have es:d.sc=[]:=N4.mp h0;refine(((Dw A.it A.loc A.so A.sd A.n2i A.tp A.rl d.ls d.a d.da A.k kk A.pv nv (.str (T d.nm) d.tk) v3 v4 v5 kvs A.vs A.n i d.m m2 d.nt tn p.1 p.2 q.2 (A1++B1) hx hk w).frame (f9 (A1++B1))).perm ?_).mono ?_
   .exact vM (hM0 es) rfl
   .refine fq λch=>?_
    exact⟨_,⟨rfl,λ_=>0,frm w.params be kk [.ref A.so,.ref A.tp,.ref A.n2i,.str (T p.1) p.2,.ref d.a,.int (-1) d.nt] 6,nZ ch 13,m2,.inr (.inl ⟨_,_,_,_,rfl⟩),vM (hE0 es _) (hR0 es _)⟩,.refl _⟩
  .refine(((Ht A.it A.loc A.so A.sd A.n2i A.tp A.rl d.ls d.a d.da A.k kk A.pv nv (.str (T d.nm) d.tk) v3 v4 v5 kvs A.vs A.n i d.m m2 d.nt tn p.1 p.2 d.sc q.2 (A1++B1) hx hk h0 hm hln w).frame (f9 (A1++B1))).perm ?_).mono ?_
   .exact vM hM1 rfl
   .refine fq λch=>?_
    exact⟨_,⟨rfl,u3 (ch 10),frm w.params be (kx kk 6 [(ch 10).n 1,(ch 10).n 2]) [.ref A.so,.ref A.tp,.ref A.n2i,.str (T p.1) p.2,.ref d.a,.int (-1) d.nt,(gV (ch 10)).1,(gV (ch 10)).2] 8,nZ ch 13,nZ ch 10,.inr (.inr ⟨_,_,_,_,_,_,rfl⟩),vM (hE _) (hR _)⟩,.refl _⟩
 .refine(((Hu A.it A.loc A.so A.sd A.n2i A.tp A.rl d.ls d.a d.da A.k kk A.pv nv (.str (T d.nm) d.tk) v3 v4 v5 v6 v7 kvs A.vs A.n i d.m m2 d.nt tn p.1 p.2 d.sc q.2 (A1++B1) hx hk hm hln w).frame (f9 (A1++B1))).perm ?_).mono ?_
  .exact vM hM1 rfl
  .refine fq λch=>?_
   exact⟨_,⟨rfl,u3 (ch 10),frm w.params be kk [.ref A.so,.ref A.tp,.ref A.n2i,.str (T p.1) p.2,.ref d.a,.int (-1) d.nt,(gV (ch 10)).1,(gV (ch 10)).2] 8,nZ ch 13,nZ ch 10,.inr (.inr ⟨_,_,_,_,_,_,rfl⟩),vM (hE _) (hR _)⟩,.refl _⟩
noncomputable def aM:List Pt->(Nat->Nat->Tok)->List Nd×List Pt->List Nd×List Pt
 |[],_,q=>q
 |p::ys,ts,q=>aM ys (λi=>ts (i+1)) (bJ (ts 0) q p)
noncomputable def bI:List Pt->List Nd×List Pt->Prop
 |[],_=>True
 |p::r,q=>i5 q p/\∀ts,bI r (bJ ts q p)
noncomputable def Ma(t:Nat->Tok)(ts:Nat->Nat->Tok):Nat->Nat->Tok
 |0=>t
 |i+1=>ts i
theorem kN:∀(ys:List Pt) (ts:Nat->Nat->Tok) (q:List Nd×List Pt),ac (aM ys ts q).1=ac q.1
 |[],_,_=>rfl
 |p::ys,ts,q=>by
  show ac (aM ys (λi=>ts (i+1)) (bJ (ts 0) q p)).1=_;rw[kN ys _ _,iF]
theorem tl(w:World)(A:BZ)(kvs:List KV)(all:List Pt)(hA:A.vs=vT all):∀(rest pre:List Pt) (fr:Obj) (nv:Int) (tn:Tok) (m2:Nat) (q:List Nd×List Pt),all=pre++rest->IS w.params A fr->bI rest q->kvs=ac q.1->
  ak w mT 50 (aG om A.it (bS A.loc)) (lp w.params A kvs (eU A.tp pre.length) fr nv tn m2 q)
   λr N=>r=.ok .next/\iJ λts fr' tn' m2'=>N.Perm (lp w.params A kvs (dg all.length) fr' (nv+Int.ofNat rest.length) tn' m2' (aM rest ts q))
 |[],pre,fr,nv,tn,m2,q,e,hf,hc,hk=>by
  rw[Mq]at e;subst e;refine(((Hv A.it A.tp A.loc A.vs all.length (by rw[hA,cJ];simp) w).frame ([(A.loc,fr),(A.n2i,oD (eS w.params kvs) A.n),(A.so,oI 484 A.sd),(A.sd,aD w.params sN A.k [.ref A.n2i,.ref (A.rl+ab),A.pv,.int nv tn] 4),(A.rl+ab,oL (vT q.2) m2)]++ag q.1)).perm ?_).mono ?_
  .refine ae λy=>?_
   exact(aN [_,_,_,_,_,_,_] [_] 0x8210f34b2470450c1 0x841433cd2c91c1:)
  .refine fq λch=>?_
   refine⟨_,⟨rfl,λ_ _=>0,fr,tn,m2,ae λy=>?_⟩,.refl _⟩;have e0:nv+Int.ofNat ([]:List Pt).length=nv:=Int.add_zero nv
   (simp only[lp,aM,e0];exact(aN [_,_,_,_,_,_,_] [_] 0x8210f34b2470450c1 0x841433cd2c91c1:))
 |p::rest,pre,fr,nv,tn,m2,q,e,hf,hc,hk=>by
  have hx:A.vs[pre.length]?=some (.str (T p.1) p.2):=by rw[hA,cJ,e];simp
  refine(Aq w A pre.length fr nv tn m2 q p kvs hf hx hc.1 hk).runs ?_;rintro r N ⟨rfl,ts,fr',tn',m2',hf',hN⟩;refine((tl w A kvs all hA rest (pre++[p]) fr' (nv+1) tn' m2' (bJ ts q p) (by rw[e];simp) hf' (hc.2 ts) (by rw[iF];exact hk)).perm (by rw[Mn];exact hN.symm)).mono λr N h=>⟨N,⟨h.1,?_⟩,.refl _⟩
  obtain⟨_,tss,a,b,c,h⟩:=h;refine⟨Ma ts tss,a,b,c,?_⟩;have e1:nv+Int.ofNat (p::rest).length=nv+1+Int.ofNat rest.length:=by
   show nv+((rest.length+1:Nat):Int)=nv+1+((rest.length:Nat):Int);omega
  rw[e1];exact h
noncomputable abbrev GD:Type:=(Nat->Nat->Tok)×Obj×Nat×Tok
noncomputable abbrev gD(u:U):GD:=u.u GD (λ_ _=>0,default,0,0)
noncomputable def zE(P:Params)(it loc so sd n2i tp rl:Addr)(k kk:Nat->Tok)(pv:Value)(nv:Int)(tn:Tok)(n m2:Nat)(ys rd:List Pt)(vs:List Value)(kvs:List KV)(ns:List Nd):Tr:=
 ⟨[ag ns],λu=>[ag (aM ys (gD u).1 (ns,rd)).1],λ_=>[],aG om it (bS loc),[(it,eU tp 0),(tp,aj vs),(loc,frm P be kk [.ref so,.ref tp,.ref n2i] 3),(n2i,oD (eS P kvs) n),(so,oI 484 sd),(sd,aD P sN k [.ref n2i,.ref (rl+ab),pv,.int nv tn] 4),(rl+ab,oL (vT rd) m2)],λ_=>.ok .next,λu=>[dg ys.length,aj vs,(gD u).2.1,oD (eS P kvs) n,oI 484 sd,aD P sN k [.ref n2i,.ref (rl+ab),pv,.int (nv+Int.ofNat ys.length) (gD u).2.2.2] 4,oL (vT (aM ys (gD u).1 (ns,rd)).2) (gD u).2.2.1],λ_=>[]⟩
theorem kL(it loc so sd n2i tp rl:Addr)(k kk:Nat->Tok)(pv:Value)(nv:Int)(tn:Tok)(n m2:Nat)(ys rd:List Pt)(vs:List Value)(kvs:List KV)(ns:List Nd)(hv:vT ys=vs)(hkv:kvs=ac ns)(hc:bI ys (ns,rd))(w:World):
  af w mT 50 (zE w.params it loc so sd n2i tp rl k kk pv nv tn n m2 ys rd vs kvs ns):=by
 subst hv;refine ak.tri (Q:=λr N=>r=.ok .next/\iJ λts fr' tn' m2'=>N.Perm (lp w.params ⟨it,loc,so,sd,n2i,tp,rl,k,pv,n,vT ys⟩ kvs (dg ys.length) fr' (nv+Int.ofNat ys.length) tn' m2' (aM ys ts (ns,rd)))) (λ_=>⟨rfl,rfl⟩) ?_ ?_
 .refine(tl w ⟨it,loc,so,sd,n2i,tp,rl,k,pv,n,vT ys⟩ kvs ys rfl ys [] (frm w.params be kk [.ref so,.ref tp,.ref n2i] 3) nv tn m2 (ns,rd) rfl (.inl ⟨kk,rfl⟩) hc hkv).perm (ae λy=>?_);exact(aN [_,_,_,_,_,_,_] [_] 0x843cd2c91c50c1 0x820443cd2c91c50c1:)
 .rintro r N ⟨rfl,ts,fr',tn',m2',hN⟩;obtain⟨u,hu1,hu⟩:=n9 ((ts,fr',m2',tn'):GD) (λ_=>0);refine⟨u,rfl,hN.trans (ae λy=>?_)⟩
  (simp only[zE,lp,hu,bO,bP];exact(aN [_,_,_,_,_,_,_] [_] 0x843cd2c91c50c1 0x820440813cd2c91c50c1:))
noncomputable def nR(P:Params)(so sd n0 rl:Addr)(k:Nat->Tok)(pv:Value)(nv:Int)(tn:Tok)(n m2:Nat)(ns:List Nd)(y1:Pt)(ys rd:List Pt):Tr:=
 ⟨[ag ns],λuu=>[ag (aM ys (gD uu).1 (ns,rd)).1],λuu=>[],.call (.ref 467) ⟨[.ref so,.str (T y1.1) y1.2],[]⟩,[(so,oI 484 sd),(sd,aD P sN k [.ref (n0+ab),.ref (rl+ab),pv,.int nv tn] 4),(n0+ab,oD (eS P (ac ns)) n),(rl+ab,oL (vT rd) m2)],λuu=>(.ok (.ret .none)),λuu=>[oI 484 sd,aD P sN k [.ref (n0+ab),.ref (rl+ab),pv,.int (nv+(Int.ofNat (List.length ys))) (gD uu).2.2.2] 4,oD (eS P (ac ns)) n,oL (vT (aM ys (gD uu).1 (ns,rd)).2) (gD uu).2.2.1],λuu=>[]⟩
theorem tN(so sd n0 rl:Addr)(k:Nat->Tok)(pv:Value)(nv:Int)(tn:Tok)(n m2:Nat)(ns:List Nd)(y1:Pt)(ys rd:List Pt)(hv:vT ys=[.str (T y1.1) y1.2])(hc:bI ys (ns,rd))(w:World):af w mT 70 (nR w.params so sd n0 rl k pv nv tn n m2 ns y1 ys rd):=
 cx (mT) 70 (λP=>nR P so sd n0 rl k pv nv tn n m2 ns y1 ys rd) 0x10b08908924a28a18114504104508104114a18114504104508104114a08a28a283 (λw=>[rT 50 [6,4,5,2,0,1,3] [0] λhh=>kL (aZ hh 8) (aZ hh 1) so sd (n0+ab) (aZ hh 0) rl k (kl [nZ hh 2,nZ hh 3,nZ hh 7]) pv nv tn n m2 ys rd [.str (T y1.1) y1.2] (ac ns) ns hv (by simp) hc w])
 [0,1,2,3] [0] (λch=>⟨λi=>[].getD i 0,(ch 9).u⟩) w
noncomputable def nU(P:Params)(so sd n0 rl:Addr)(k:Nat->Tok)(pv:Value)(nv:Int)(tn:Tok)(n m2:Nat)(ns:List Nd)(y1 y2:Pt)(ys rd:List Pt):Tr:=
 ⟨[ag ns],λuu=>[ag (aM ys (gD uu).1 (ns,rd)).1],λuu=>[],.call (.ref 467) ⟨[.ref so,.str (T y1.1) y1.2,.str (T y2.1) y2.2],[]⟩,[(so,oI 484 sd),(sd,aD P sN k [.ref (n0+ab),.ref (rl+ab),pv,.int nv tn] 4),(n0+ab,oD (eS P (ac ns)) n),(rl+ab,oL (vT rd) m2)],λuu=>(.ok (.ret .none)),λuu=>[oI 484 sd,aD P sN k [.ref (n0+ab),.ref (rl+ab),pv,.int (nv+(Int.ofNat (List.length ys))) (gD uu).2.2.2] 4,oD (eS P (ac ns)) n,oL (vT (aM ys (gD uu).1 (ns,rd)).2) (gD uu).2.2.1],λuu=>[]⟩
theorem tO(so sd n0 rl:Addr)(k:Nat->Tok)(pv:Value)(nv:Int)(tn:Tok)(n m2:Nat)(ns:List Nd)(y1 y2:Pt)(ys rd:List Pt)(hv:vT ys=[.str (T y1.1) y1.2,.str (T y2.1) y2.2])(hc:bI ys (ns,rd))(w:World):af w mT 70 (nU w.params so sd n0 rl k pv nv tn n m2 ns y1 y2 ys rd):=
 cx (mT) 70 (λP=>nU P so sd n0 rl k pv nv tn n m2 ns y1 y2 ys rd) 0x10b08908924a28a18114504104508104114a18114504104508104114a08a28a283 (λw=>[rT 50 [6,4,5,2,0,1,3] [0] λhh=>kL (aZ hh 8) (aZ hh 1) so sd (n0+ab) (aZ hh 0) rl k (kl [nZ hh 2,nZ hh 3,nZ hh 7]) pv nv tn n m2 ys rd [.str (T y1.1) y1.2,.str (T y2.1) y2.2] (ac ns) ns hv (by simp) hc w])
 [0,1,2,3] [0] (λch=>⟨λi=>[].getD i 0,(ch 9).u⟩) w
noncomputable def nV(P:Params)(so sd n0 rl:Addr)(k:Nat->Tok)(pv:Value)(nv:Int)(tn:Tok)(n m2:Nat)(ns:List Nd)(y1 y2 y3:Pt)(ys rd:List Pt):Tr:=
 ⟨[ag ns],λuu=>[ag (aM ys (gD uu).1 (ns,rd)).1],λuu=>[],.call (.ref 467) ⟨[.ref so,.str (T y1.1) y1.2,.str (T y2.1) y2.2,.str (T y3.1) y3.2],[]⟩,[(so,oI 484 sd),(sd,aD P sN k [.ref (n0+ab),.ref (rl+ab),pv,.int nv tn] 4),(n0+ab,oD (eS P (ac ns)) n),(rl+ab,oL (vT rd) m2)],λuu=>(.ok (.ret .none)),λuu=>[oI 484 sd,aD P sN k [.ref (n0+ab),.ref (rl+ab),pv,.int (nv+(Int.ofNat (List.length ys))) (gD uu).2.2.2] 4,oD (eS P (ac ns)) n,oL (vT (aM ys (gD uu).1 (ns,rd)).2) (gD uu).2.2.1],λuu=>[]⟩
theorem tP(so sd n0 rl:Addr)(k:Nat->Tok)(pv:Value)(nv:Int)(tn:Tok)(n m2:Nat)(ns:List Nd)(y1 y2 y3:Pt)(ys rd:List Pt)(hv:vT ys=[.str (T y1.1) y1.2,.str (T y2.1) y2.2,.str (T y3.1) y3.2])(hc:bI ys (ns,rd))(w:World):af w mT 70 (nV w.params so sd n0 rl k pv nv tn n m2 ns y1 y2 y3 ys rd):=
 cx (mT) 70 (λP=>nV P so sd n0 rl k pv nv tn n m2 ns y1 y2 y3 ys rd) 0x10b08908924a28a18114504104508104114a18114504104508104114a08a28a283 (λw=>[rT 50 [6,4,5,2,0,1,3] [0] λhh=>kL (aZ hh 8) (aZ hh 1) so sd (n0+ab) (aZ hh 0) rl k (kl [nZ hh 2,nZ hh 3,nZ hh 7]) pv nv tn n m2 ys rd [.str (T y1.1) y1.2,.str (T y2.1) y2.2,.str (T y3.1) y3.2] (ac ns) ns hv (by simp) hc w])
 [0,1,2,3] [0] (λch=>⟨λi=>[].getD i 0,(ch 9).u⟩) w
noncomputable def nW(P:Params)(so sd n0 rl:Addr)(k:Nat->Tok)(pv:Value)(nv:Int)(tn:Tok)(n m2:Nat)(ns:List Nd)(y1 y2 y3 y4:Pt)(ys rd:List Pt):Tr:=
 ⟨[ag ns],λuu=>[ag (aM ys (gD uu).1 (ns,rd)).1],λuu=>[],.call (.ref 467) ⟨[.ref so,.str (T y1.1) y1.2,.str (T y2.1) y2.2,.str (T y3.1) y3.2,.str (T y4.1) y4.2],[]⟩,[(so,oI 484 sd),(sd,aD P sN k [.ref (n0+ab),.ref (rl+ab),pv,.int nv tn] 4),(n0+ab,oD (eS P (ac ns)) n),(rl+ab,oL (vT rd) m2)],λuu=>(.ok (.ret .none)),λuu=>[oI 484 sd,aD P sN k [.ref (n0+ab),.ref (rl+ab),pv,.int (nv+(Int.ofNat (List.length ys))) (gD uu).2.2.2] 4,oD (eS P (ac ns)) n,oL (vT (aM ys (gD uu).1 (ns,rd)).2) (gD uu).2.2.1],λuu=>[]⟩
theorem tQ(so sd n0 rl:Addr)(k:Nat->Tok)(pv:Value)(nv:Int)(tn:Tok)(n m2:Nat)(ns:List Nd)(y1 y2 y3 y4:Pt)(ys rd:List Pt)(hv:vT ys=[.str (T y1.1) y1.2,.str (T y2.1) y2.2,.str (T y3.1) y3.2,.str (T y4.1) y4.2])(hc:bI ys (ns,rd))(w:World):af w mT 70 (nW w.params so sd n0 rl k pv nv tn n m2 ns y1 y2 y3 y4 ys rd):=
 cx (mT) 70 (λP=>nW P so sd n0 rl k pv nv tn n m2 ns y1 y2 y3 y4 ys rd) 0x10b08908924a28a18114504104508104114a18114504104508104114a08a28a283 (λw=>[rT 50 [6,4,5,2,0,1,3] [0] λhh=>kL (aZ hh 8) (aZ hh 1) so sd (n0+ab) (aZ hh 0) rl k (kl [nZ hh 2,nZ hh 3,nZ hh 7]) pv nv tn n m2 ys rd [.str (T y1.1) y1.2,.str (T y2.1) y2.2,.str (T y3.1) y3.2,.str (T y4.1) y4.2] (ac ns) ns hv (by simp) hc w])
 [0,1,2,3] [0] (λch=>⟨λi=>[].getD i 0,(ch 9).u⟩) w
noncomputable def nX(P:Params)(so sd n0 rl:Addr)(k:Nat->Tok)(pv:Value)(nv:Int)(tn:Tok)(n m2:Nat)(ns:List Nd)(y1 y2 y3 y4 y5:Pt)(ys rd:List Pt):Tr:=
 ⟨[ag ns],λuu=>[ag (aM ys (gD uu).1 (ns,rd)).1],λuu=>[],.call (.ref 467) ⟨[.ref so,.str (T y1.1) y1.2,.str (T y2.1) y2.2,.str (T y3.1) y3.2,.str (T y4.1) y4.2,.str (T y5.1) y5.2],[]⟩,[(so,oI 484 sd),(sd,aD P sN k [.ref (n0+ab),.ref (rl+ab),pv,.int nv tn] 4),(n0+ab,oD (eS P (ac ns)) n),(rl+ab,oL (vT rd) m2)],λuu=>(.ok (.ret .none)),λuu=>[oI 484 sd,aD P sN k [.ref (n0+ab),.ref (rl+ab),pv,.int (nv+(Int.ofNat (List.length ys))) (gD uu).2.2.2] 4,oD (eS P (ac ns)) n,oL (vT (aM ys (gD uu).1 (ns,rd)).2) (gD uu).2.2.1],λuu=>[]⟩
theorem tR(so sd n0 rl:Addr)(k:Nat->Tok)(pv:Value)(nv:Int)(tn:Tok)(n m2:Nat)(ns:List Nd)(y1 y2 y3 y4 y5:Pt)(ys rd:List Pt)(hv:vT ys=[.str (T y1.1) y1.2,.str (T y2.1) y2.2,.str (T y3.1) y3.2,.str (T y4.1) y4.2,.str (T y5.1) y5.2])(hc:bI ys (ns,rd))(w:World):af w mT 70 (nX w.params so sd n0 rl k pv nv tn n m2 ns y1 y2 y3 y4 y5 ys rd):=
 cx (mT) 70 (λP=>nX P so sd n0 rl k pv nv tn n m2 ns y1 y2 y3 y4 y5 ys rd) 0x10b08908924a28a18114504104508104114a18114504104508104114a08a28a283 (λw=>[rT 50 [6,4,5,2,0,1,3] [0] λhh=>kL (aZ hh 8) (aZ hh 1) so sd (n0+ab) (aZ hh 0) rl k (kl [nZ hh 2,nZ hh 3,nZ hh 7]) pv nv tn n m2 ys rd [.str (T y1.1) y1.2,.str (T y2.1) y2.2,.str (T y3.1) y3.2,.str (T y4.1) y4.2,.str (T y5.1) y5.2] (ac ns) ns hv (by simp) hc w])
 [0,1,2,3] [0] (λch=>⟨λi=>[].getD i 0,(ch 9).u⟩) w
noncomputable def nY(P:Params)(so sd n0 rl:Addr)(k:Nat->Tok)(pv:Value)(nv:Int)(tn:Tok)(n m2:Nat)(ns:List Nd)(y1 y2 y3 y4 y5 y6:Pt)(ys rd:List Pt):Tr:=
 ⟨[ag ns],λuu=>[ag (aM ys (gD uu).1 (ns,rd)).1],λuu=>[],.call (.ref 467) ⟨[.ref so,.str (T y1.1) y1.2,.str (T y2.1) y2.2,.str (T y3.1) y3.2,.str (T y4.1) y4.2,.str (T y5.1) y5.2,.str (T y6.1) y6.2],[]⟩,[(so,oI 484 sd),(sd,aD P sN k [.ref (n0+ab),.ref (rl+ab),pv,.int nv tn] 4),(n0+ab,oD (eS P (ac ns)) n),(rl+ab,oL (vT rd) m2)],λuu=>(.ok (.ret .none)),λuu=>[oI 484 sd,aD P sN k [.ref (n0+ab),.ref (rl+ab),pv,.int (nv+(Int.ofNat (List.length ys))) (gD uu).2.2.2] 4,oD (eS P (ac ns)) n,oL (vT (aM ys (gD uu).1 (ns,rd)).2) (gD uu).2.2.1],λuu=>[]⟩
theorem tT(so sd n0 rl:Addr)(k:Nat->Tok)(pv:Value)(nv:Int)(tn:Tok)(n m2:Nat)(ns:List Nd)(y1 y2 y3 y4 y5 y6:Pt)(ys rd:List Pt)(hv:vT ys=[.str (T y1.1) y1.2,.str (T y2.1) y2.2,.str (T y3.1) y3.2,.str (T y4.1) y4.2,.str (T y5.1) y5.2,.str (T y6.1) y6.2])(hc:bI ys (ns,rd))(w:World):af w mT 70 (nY w.params so sd n0 rl k pv nv tn n m2 ns y1 y2 y3 y4 y5 y6 ys rd):=
 cx (mT) 70 (λP=>nY P so sd n0 rl k pv nv tn n m2 ns y1 y2 y3 y4 y5 y6 ys rd) 0x10b08908924a28a18114504104508104114a18114504104508104114a08a28a283 (λw=>[rT 50 [6,4,5,2,0,1,3] [0] λhh=>kL (aZ hh 8) (aZ hh 1) so sd (n0+ab) (aZ hh 0) rl k (kl [nZ hh 2,nZ hh 3,nZ hh 7]) pv nv tn n m2 ys rd [.str (T y1.1) y1.2,.str (T y2.1) y2.2,.str (T y3.1) y3.2,.str (T y4.1) y4.2,.str (T y5.1) y5.2,.str (T y6.1) y6.2] (ac ns) ns hv (by simp) hc w])
 [0,1,2,3] [0] (λch=>⟨λi=>[].getD i 0,(ch 9).u⟩) w
noncomputable def FR(P:Params)(so sd n0 rl:Addr)(k:Nat->Tok)(pv:Value)(nv:Int)(tn:Tok)(n m2:Nat)(ns:List Nd)(y:Pt)(ys rd:List Pt):Tr:=
 ⟨[ag ns],λu=>[ag (aM (y::ys) (gD u).1 (ns,rd)).1],λ_=>[],.call (.ref 467) ⟨.ref so::.str (T y.1) y.2::vT ys,[]⟩,[(so,oI 484 sd),(sd,aD P sN k [.ref (n0+ab),.ref (rl+ab),pv,.int nv tn] 4),(n0+ab,oD (eS P (ac ns)) n),(rl+ab,oL (vT rd) m2)],λ_=>.ok (.ret .none),λu=>[oI 484 sd,aD P sN k [.ref (n0+ab),.ref (rl+ab),pv,.int (nv+Int.ofNat (y::ys).length) (gD u).2.2.2] 4,oD (eS P (ac ns)) n,oL (vT (aM (y::ys) (gD u).1 (ns,rd)).2) (gD u).2.2.1],λ_=>[]⟩
noncomputable def zk(u:U)(x:Pt)(c:Nat):Nd:=⟨x.1,x.2,x.2,Int.ofNat c,u.n 0,[],0,u.n 1+ab,u.n 2+ab,u.n 3+ab⟩
noncomputable def bw(u:U)(x:Pt)(ps:List Pt)(ns:List Nd):List Nd:=ps.foldl (cn x) ns++[zk u x ps.length]
theorem um(x:Pt)(ps:List Pt):∀ns,ac (ps.foldl (cn x) ns)=ac ns:=by
 induction ps with
 |nil=>intro ns;rfl
 |cons p ps ih=>intro ns;rw[Mv,ih,gr]
theorem rI(u:U)(x:Pt)(ps:List Pt)(ns:List Nd):ac (bw u x ps ns)=ac ns++[((x.1,x.2),.ref (u.n 1+ab))]:=by
 unfold bw;rw[lG,um];rfl
noncomputable def vi(P:Params)(so sd n2i:Addr)(k:Nat->Tok)(pv nt:Tok)(pvi nvi:Int)(n:Nat)(x:Pt)(ps:List Pt)(ns:List Nd):Tr:=
 ⟨[ag ns],λu=>[ag (bw u x ps ns)],λ_=>[],.call (.ref 434) ⟨.ref so::.str (T x.1) x.2::vT ps,[]⟩,[(so,oI 484 sd),(sd,aD P sN k [.ref n2i,.none,.int pvi pv,.int nvi nt] 4),(n2i,oD (eS P (ac ns)) n)],λ_=>.ok (.ret .none),λu=>[oI 484 sd,aD P sN k [.ref n2i,.none,.int pvi pv,.int nvi nt] 4,oD (eS P (ac (bw u x ps ns))) (n+1)],λ_=>[]⟩
theorem wE{P:Params}{x:Pt}{ps:List Pt}{ns:List Nd}{n2i:Addr}{n:Nat}{p q:Addr×Obj}(u:U):
  (fl [p,q,(n2i,oD (eS P (ac ns++[((x.1,x.2),.ref (u.n 1+ab))])) (n+1)),(u.n 1+ab,dW (u.n 2+ab) (.str (T x.1) x.2) (.int (Int.ofNat ps.length) (u.n 0)) (u.n 3+ab)),(u.n 3+ab,oL [] 0)] [ag (ps.foldl (cn x) ns)]).Perm (fl [p,q,(n2i,oD (eS P (ac (bw u x ps ns))) (n+1))] [ag (bw u x ps ns)]):=ae λy=>by
 rw[rI]
 (simp only[bw,zk,dE,ag,rS,BI];exact(aN [_,_,_,_,_] [_] 0x820442c91c50c1 0x820420811430442c91c1:))
theorem lz(so sd n2i:Addr)(k:Nat->Tok)(pv nt:Tok)(pvi nvi:Int)(n:Nat)(x:Pt)(ps:List Pt)(ns:List Nd)(h3:ps.length<=3)(h:lk (ac ns) x.1=none)(hz:(ac ns).length<=10000)
  (hp:∀p∈ps,∃d∈ns,d.nm=p.1) (hl:∀d∈ns,d.sc.length+ps.length<=10000) (w:World):af w mT 70 (vi w.params so sd n2i k pv nt pvi nvi n x ps ns):=by
 refine ak.tri (Q:=λr N=>r=.ok (.ret .none)/\∃u,N.Perm (fl [(so,oI 484 sd),(sd,aD w.params sN k [.ref n2i,.none,.int pvi pv,.int nvi nt] 4),(n2i,oD (eS w.params (ac (bw u x ps ns))) (n+1))] [ag (bw u x ps ns)])) (λ_=>⟨rfl,rfl⟩) ?_ ?_
 .match ps,h3,hp,hl with
  |[],_,hp,hl=>
   refine(Ha so sd n2i k pv nt pvi nvi n x ns rfl h hz hp hl w).mono ?_;refine fr λch=>?_
   exact⟨_,⟨rfl,⟨λi=>[nZ ch 12,nZ ch 7,(ch 7).n 1,(ch 7).n 3].getD i 0,(ch 0).u⟩,wE _⟩,.refl _⟩
  |[a],_,hp,hl=>
   refine(Hb so sd n2i k pv nt pvi nvi n x a ns rfl h hz hp hl w).mono ?_;refine fr λch=>?_
   exact⟨_,⟨rfl,⟨λi=>[nZ ch 12,nZ ch 7,(ch 7).n 1,(ch 7).n 3].getD i 0,(ch 0).u⟩,wE _⟩,.refl _⟩
  |[a,b],_,hp,hl=>
   refine(Hc so sd n2i k pv nt pvi nvi n x a b ns rfl h hz hp hl w).mono ?_;refine fr λch=>?_
   exact⟨_,⟨rfl,⟨λi=>[nZ ch 12,nZ ch 7,(ch 7).n 1,(ch 7).n 3].getD i 0,(ch 0).u⟩,wE _⟩,.refl _⟩
  |[a,b,c],_,hp,hl=>
   refine(Hd so sd n2i k pv nt pvi nvi n x a b c ns rfl h hz hp hl w).mono ?_;refine fr λch=>?_
   exact⟨_,⟨rfl,⟨λi=>[nZ ch 12,nZ ch 7,(ch 7).n 1,(ch 7).n 3].getD i 0,(ch 0).u⟩,wE _⟩,.refl _⟩
  |_::_::_::_::_,h3,_,_=>simp at h3
 .rintro r N ⟨rfl,u,hN⟩;refine⟨u,rfl,hN.trans ?_⟩;simp only[vi,bO,bP,Mq];exact .refl _
section
open PySem PySem.W PyProof.Rows PySem.Builtin.Str
theorem pr(a n:Nat)(h:a<=n):strSliceIndices (some (a:Int)) none 1 n=(List.range (n-a)).map (a+ ·):=by
 unfold strSliceIndices;have h1:¬((a:Int)<0):=by omega
 have e:max 0 (min (a:Int) n)=a:=by omega
 simp only[h1,if_false,show(1:Int)>0 by decide,if_true,e,PP]
theorem ve(b n:Nat)(h:b<=n):strSliceIndices none (some (b:Int)) 1 n=(List.range b).map (0+ ·):=by
 unfold strSliceIndices;have h1:¬((b:Int)<0):=by omega
 have e:max 0 (min (b:Int) n)=b:=by omega
 simp only[h1,if_false,show(1:Int)>0 by decide,if_true,e];exact PP 0 b
theorem j5(l:List Nat)(t v:Tok)(i:Nat)(h:i+1<=l.length):sliceMade (T l) t (some (Int.ofNat i+1,v)) none none=.str (T (l.drop (i+1))):=by
 unfold sliceMade slicePicked;have e:strSliceIndices ((some (Int.ofNat i+1,v):Option (Int×Tok)).map (·.1)) ((none:Option (Int×Tok)).map (·.1)) (((none:Option (Int×Tok)).map (·.1)).getD 1) (T l).length=(List.range (l.length-(i+1))).map (i+1+ ·):=pr (i+1) l.length h;rw[e,pick_run];rw[if_neg]
 .show Made.str ⟨((l.drop (i+1)).take (l.length-(i+1))).toArray⟩=_;rw[List.take_of_length_le (by rw[List.length_drop];omega)]
 .simp only[Mc,Om,MF,beq_iff_eq,not_and];intro _;show ¬(l.length-(i+1)=l.length);omega
theorem j6(l:List Nat)(t v:Tok)(i:Nat)(h:i+1<l.length):sliceMade (T l) t none (some (Int.ofNat i+1,v)) none=.str (T (l.take (i+1))):=by
 unfold sliceMade slicePicked;have e:strSliceIndices ((none:Option (Int×Tok)).map (·.1)) ((some (Int.ofNat i+1,v):Option (Int×Tok)).map (·.1)) (((none:Option (Int×Tok)).map (·.1)).getD 1) (T l).length=(List.range (i+1)).map (0+ ·):=ve (i+1) l.length (by omega);rw[e,pick_run];rw[if_neg]
 .rfl
 .simp only[Mc,Om,MF,beq_iff_eq,not_and];intro _;show ¬(i+1=l.length);omega
theorem i9(l:List Nat)(i:Nat):subAt (T l) (T [47]) i=(l[i]?==some 47):=by
 show((Array.mk l).extract i (i+1)== #[47])=_;have e:(Array.mk l).extract i (i+1)=((l.drop i).take 1).toArray:=by
  apply Oz.mp;simp
 rw[e];cases h:l[i]? with
 |none=>
  have:l.drop i=[]:=by simpa using h
  rw[this];rfl
 |some c=>
  have:l.drop i=c::l.drop (i+1):=by
   obtain⟨hi,rfl⟩:=Mj.mp h;exact Oj hi
  rw[this];show(#[c]== #[47])=_
  by_cases hc:c=47
  .subst hc;rfl
  .have h1:(#[c]== #[47])=false:=beq_eq_false_iff_ne.mpr (by simpa using hc);have h2:(some c==some 47)=false:=beq_eq_false_iff_ne.mpr (by simpa using hc);rw[h1,h2]
noncomputable def jG(l:List Nat)(a:Option Nat)(i:Nat):Option Nat:=if(decide (i+1<=l.length)&&(l[i]?==some 47))=true then some i else a
theorem gi(c:Nat->Bool):∀(xs:List Nat) (a:Option Nat),(forIn (m:=Id) xs a λi s=>if c i=true then pure (ForInStep.yield (some i))else pure (ForInStep.yield s))=xs.foldl (λa i=>if c i=true then some i else a) a
 |[],a=>rfl
 |x::xs,a=>by
  rw[OG,Mv];cases h:c x with
  |true=>exact gi c xs (some x)
  |false=>exact gi c xs a
theorem lK(l:List Nat):lastOccurrence (T l) (T [47]) 0 (T l).length=(List.range' 0 (l.length+1)).foldl (jG l) none:=by
 unfold lastOccurrence;simp only[OO,Id.run,i9];have e:[:(T l).length+1].size=l.length+1:=by
  show(l.length+1-0+1-1)/1=_;rw[Nat.div_one];omega
 rw[e];exact gi (λi=>decide (i+1<=l.length)&&(l[i]?==some 47)) _ none
theorem jH(l:List Nat):∀(n m:Nat) (a:Option Nat),(∀i,m<=i->i<l.length->l[i]?≠some 47)->(List.range' m n).foldl (jG l) a=a
 |0,_,_,_=>rfl
 |n+1,m,a,h=>by
  rw[QS,Mv];have e:jG l a m=a:=by
   unfold jG;rw[if_neg];intro q;simp only[MF,decide_eq_true_eq,beq_iff_eq]at q;exact h m (Me _) (by omega) q.2
  rw[e];exact jH l n (m+1) a λi hi hl=>h i (by omega) hl
theorem lJ(X c:List Nat)(hc:47∉c):lastOccurrence (T (X++47::c)) (T [47]) 0 (T (X++47::c)).length=some X.length:=by
 rw[lK];have e:(X++47::c).length+1=X.length+(1+(c.length+1)):=by simp;omega
 rw[e,<-Qq (s:=0) (m:=X.length) (n:=1+(c.length+1)),NO,<-Qq,NO,M3];have e1:∀a,(List.range' X.length 1).foldl (jG (X++47::c)) a=some X.length:=λa=>by
  show jG (X++47::c) a X.length=_;unfold jG;rw[if_pos];simp
 rw[e1];refine jH _ _ _ _ λi hi hl h=>?_
 rw[Oi (by omega)]at h;obtain⟨j,hj⟩:∃j,i-X.length=j+1:=⟨i-X.length-1,by omega⟩;rw[hj,P5]at h;exact hc (ME h)
theorem tK(X c:List Nat)(t:Tok)(hc:47∉c)(hl:X.length+c.length<=8000)(w:World):ba w 20 (tV 129 [.str (T (X++47::c)) t] λx=>.str (T c) (x.n 0)):=by
 refine oQ (T (X++47::c)) (T c) t X.length (lJ X c hc) (by show c.length<=2^24;omega) λv=>?_
 rw[j5 _ _ _ _ (by simp)];have:(X++47::c).drop (X.length+1)=c:=by simp
 rw[this]
end
section
open PySem PySem.W PyProof.Rows PySem.Builtin.Str
theorem zr:∀(n:Nat) (acc:List Nat),(List.replicate n (T [47]).cps).foldl (·++ ·) (Array.mk acc)=Array.mk (acc++List.replicate n 47)
 |0,acc=>by simp
 |n+1,acc=>by
  rw[Qy,Mv];have e:Array.mk acc++(T [47]).cps=Array.mk (acc++[47]):=by
   show Array.mk acc++ #[47]=_;simp
  rw[e,zr n];congr 1;rw[Qy,Ms];rfl
theorem yT(c:Nat):(T [47]).cps.contains c=(c==47):=by
 show(#[47]:Array Nat).contains c=_
 by_cases h:c=47<;>simp[h]
theorem D1(Y c:List Nat)(z:Nat)(t:Tok)(hc:47∉c)(hcn:c≠[])(hz:z≠47)(hl:Y.length+c.length<=8000)(w:World):ba w 20 (tV 136 [.str (T (Y++[z]++47::c)) t] λx=>.str (T (Y++[z])) (x.n 0)):=by
 obtain⟨a,l,e⟩:et λa l=>Y++[z]++[47]=a::l:=by cases Y with
  |nil=>exact⟨z,[47],rfl⟩
  |cons y Y=>exact⟨y,Y++[z]++[47],rfl⟩
 have hlen:l.length=Y.length+1:=by
  have:=congrArg List.length e;simp at this;omega
 have hcl:1<=c.length:=by cases c with
  |nil=>exact(hcn rfl).elim
  |cons _ _=>simp
 have hmem:z∈a::l:=by rw[<-e];simp
 have hgo:(a::l).reverse.takeWhile (T [47]).cps.contains=[47]:=by
  rw[<-e];simp only[OV,Pg,Pu,MU,MZ];rw[List.takeWhile_cons_of_pos (by rw[yT];rfl),List.takeWhile_cons_of_neg (by rw[yT];simpa using hz)]
 have hhi:stripHi (T [47]).cps.contains true (T (a::l)) 0=l.length:=by
  show(a::l).length-((a::l).reverse.takeWhile (T [47]).cps.contains).length=_;rw[hgo];simp
 refine rD (T (Y++[z]++47::c)) (T (Y++[z])) (T (List.replicate (l.length+1) 47)) a l t (Y++[z]).length (by omega) (lJ _ c hc) (λv=>?_) (λv=>?_) ?_ ?_ (λv=>?_) ?_
 .rw[j6 _ _ _ _ (by simp;omega)];have:(Y++[z]++47::c).take ((Y++[z]).length+1)=Y++[z]++[47]:=by
   have q:Y++[z]++47::c=(Y++[z]++[47])++c:=by simp
   rw[q];exact PF (by simp)
  rw[this,e]
 .have h1:¬(Int.ofNat (l.length+1))<1:=by show ¬((l.length+1:Nat):Int)<1;omega
  have h2:((Int.ofNat (l.length+1)==1)||(T [47]).length==0)=false:=by
   have:(Int.ofNat (l.length+1)==1)=false:=beq_eq_false_iff_ne.mpr (by show((l.length+1:Nat):Int)≠1;omega);rw[this];rfl
  rw[if_neg h1,if_neg (by rw[h2];exact MK)];show Made.str ⟨(List.replicate (l.length+1) (T [47]).cps).foldl (·++ ·) (Array.mk [])⟩=_;rw[zr];rfl
 .show(List.replicate (l.length+1) 47).length<=2^24;rw[List.length_replicate];omega
 .show(a::l != List.replicate (l.length+1) 47)=true;rw[bne_iff_ne];intro h;rw[h]at hmem;exact hz (List.eq_of_mem_replicate hmem)
 .have h1:stripSame (T [47]).cps.contains false true (T (a::l))=false:=by
   unfold stripSame;show(stripLo (T [47]).cps.contains false (T (a::l))==0&&stripHi (T [47]).cps.contains true (T (a::l)) 0==(a::l).length)=false;rw[hhi];have:(l.length==(a::l).length)=false:=beq_eq_false_iff_ne.mpr (by simp);rw[this,PR]
  rw[h1];show Made.str (strSub (T (a::l)) 0 (stripHi (T [47]).cps.contains true (T (a::l)) 0))=_;rw[hhi];show Made.str ⟨(Array.mk (a::l)).extract 0 l.length⟩=_;have:(Array.mk (a::l)).extract 0 l.length=Array.mk (Y++[z]):=by
   apply Oz.mp;rw[Qr];show((a::l).drop 0).take (l.length-0)=_;rw[<-e,hlen];exact PF (by simp)
  rw[this]
 .show(Y++[z]).length<=2^24;simp;omega
theorem AL(c:List Nat)(t:Tok)(hc:47∉c)(hcn:c≠[])(w:World):ba w 20 (tV 136 [.str (T (47::c)) t] λx=>.str (T [47]) (x.n 0)):=by
 have hcl:1<=c.length:=by cases c with
  |nil=>exact(hcn rfl).elim
  |cons _ _=>simp
 refine jz (T (47::c)) t (lJ [] c hc) λv=>?_
 rw[j6 _ _ _ _ (by simp;omega)];rfl
end
section
open PySem PySem.W PyProof.Rows PySem.Builtin.Str
theorem p9(x:List Nat):∀(l:List (List Nat)) (acc:List Nat),l.foldl (λacc p=>acc++[47]++p) (x++acc)=x++l.foldl (λacc p=>acc++[47]++p) acc
 |[],acc=>rfl
 |p::l,acc=>by
  rw[Mv,Mv,<-p9 x l];simp only[Ms]
theorem aS(a b:List Nat)(l:List (List Nat)):jP (a::b::l)=a++47::jP (b::l):=by
 show l.foldl (λacc p=>acc++[47]++p) (a++[47]++b)=a++47::l.foldl (λacc p=>acc++[47]++p) b;have:=p9 (a++[47]) l b;simp only[Ms,OL]at this ⊢;exact this
theorem cQ(a:List Nat):jP [a]=a:=rfl
noncomputable def ix:List Nat->Nat->List Nat
 |[],_=>[]
 |c::l,m=>if c=47 then m::ix l (m+1)else ix l (m+1)
theorem iW:∀(c:List Nat) (l:List Nat) (m:Nat),47∉c->ix (c++l) m=ix l (m+c.length)
 |[],l,m,_=>rfl
 |a::c,l,m,h=>by
  show(if a=47 then _ else ix (c++l) (m+1))=_;rw[if_neg (λe=>h (by rw[e];exact .head _)),iW c l (m+1) λhc=>h (.tail _ hc)];congr 1;simp;omega
theorem j8(pre c post:List Nat):strSub (T (pre++(c++post))) pre.length (pre.length+c.length)=T c:=by
 unfold strSub;have:(Array.mk (pre++(c++post))).extract pre.length (pre.length+c.length)=Array.mk c:=by
  apply Oz.mp;rw[Qr];show((pre++(c++post)).drop pre.length).take (pre.length+c.length-pre.length)=c;rw[List.drop_left' rfl,Nat.add_sub_cancel_left];exact PF rfl
 show(⟨_⟩:Str)=_;rw[this]
theorem nx:∀(cs:List (List Nat)) (c pre:List Nat),(∀x∈c::cs,47∉x)->
  ((pre.length::(ix (jP (c::cs)) pre.length).map (·+1)).zip (ix (jP (c::cs)) pre.length++[(pre++jP (c::cs)).length])).map (λp=>strSub (T (pre++jP (c::cs))) p.1 p.2)=(c::cs).map λa=>T a
 |[],c,pre,h=>by
  have e:ix (jP [c]) pre.length=[]:=by
   have:=iW c [] pre.length (h c (.head _));rw[Mq]at this;exact this
  rw[e];show[strSub (T (pre++c)) pre.length (pre++c).length]=[T c];have:=j8 pre c [];rw[Mq]at this;rw[Mn,this]
 |b::cs,c,pre,h=>by
  rw[aS];have e:ix (c++47::jP (b::cs)) pre.length=(pre.length+c.length)::ix (jP (b::cs)) (pre.length+c.length+1):=by
   rw[iW c _ _ (h c (.head _))];show(if 47=47 then _ else _)=_;rw[if_pos rfl]
  rw[e];have ih:=nx cs b (pre++c++[47]) λx hx=>h x (.tail _ hx)
  have el:(pre++c++[47]).length=pre.length+c.length+1:=by simp;omega
  have ea:pre++c++[47]++jP (b::cs)=pre++(c++47::jP (b::cs)):=by simp
  rw[el,ea]at ih;rw[Ml,MZ,List.zip_cons_cons,Ml,ih,Ml (l:=b::cs)];congr 1;exact j8 pre c _
theorem jM(l:List Nat)(f:Nat->Array Nat×Nat->Id (ForInStep (Array Nat×Nat)))
  (hf:∀i q,f i q=if(decide (q.1.size<l.length+1)&&decide (q.2<=i)&&decide (i+1<=l.length)&&(l[i]?==some 47))=true then pure (.yield (q.1.push i,i+1))else pure (.yield (q.1,q.2))):
  ∀(r pre:List Nat) (found:Array Nat) (free:Nat),l=pre++r->found.size<=pre.length->free<=pre.length->((forIn (m:=Id) (List.range' pre.length (r.length+1)) (found,free) f).1).toList=found.toList++ix r pre.length
 |[],pre,found,free,e,h1,h2=>by
  subst e;show((forIn (m:=Id) (List.range' pre.length 1) (found,free) f).1).toList=_;rw[show List.range' pre.length 1=[pre.length]from rfl,OG,hf,if_neg]
  .simp[ix,pure,bind]
  .simp
 |c::r,pre,found,free,e,h1,h2=>by
  have hc:l[pre.length]?=some c:=by rw[e];simp
  have hl:pre.length+1<=l.length:=by rw[e];simp
  rw[show(c::r).length+1=r.length+1+1 from rfl,QS,OG,hf]
  by_cases h:c=47
  .rw[if_pos (by simp[hc,h,h2];omega)];have ih:=jM l f hf r (pre++[c]) (found.push pre.length) (pre.length+1) (by rw[e];simp) (by simp;omega) (by simp);rw[Mn]at ih;show((forIn (m:=Id) (List.range' (pre.length+1) (r.length+1)) _ f).1).toList=_;refine ih.trans ?_;simp[ix,h]
  .rw[if_neg (by simp[hc,h])];have ih:=jM l f hf r (pre++[c]) found free (by rw[e];simp) (by simp;omega) (by simp;omega);rw[Mn]at ih;show((forIn (m:=Id) (List.range' (pre.length+1) (r.length+1)) _ f).1).toList=_;refine ih.trans ?_;simp[ix,h]
theorem EQ(l:List Nat):occurrences (T l) (T [47]) 0 (T l).length ((T l).length+1)=ix l 0:=by
 unfold occurrences;simp only[OO,Id.run,i9];have e:[:(T l).length+1].size=l.length+1:=by
  show(l.length+1-0+1-1)/1=_;rw[Nat.div_one];omega
 rw[e];exact(jM l _ (λi q=>rfl) l [] #[] 0 rfl (Me _) (Me _)).trans (MU _)
theorem A7(x:Str):decide (Builtin.Str.strKind x<Builtin.Str.strKind (T [47]))=false:=by
 refine decide_eq_false ?_;have h1:Builtin.Str.strKind (T [47])=1:=by kernel_rfl
 rw[h1];unfold Builtin.Str.strKind;split
 .omega
 .split<;>omega
theorem nN(c:List Nat)(cs:List (List Nat))(h:∀x∈c::cs,47∉x):cR (T (jP (c::cs))) (T [47])=(c::cs).map λa=>T a:=by
 unfold cR;rw[A7];have hp:=nx cs c [] h;cases hl:decide ((T (jP (c::cs))).length<(T [47]).length)with
 |true=>
  have hz:(jP (c::cs)).length<1:=of_decide_eq_true hl;have he:jP (c::cs)=[]:=N4.mp (by omega);simp only[Bool.true_or];cases cs with
  |nil=>rfl
  |cons b cs=>rw[aS]at he;simp at he
 |false=>
  simp only[Bool.or_self];rw[EQ];cases he:(ix (jP (c::cs)) 0).isEmpty with
  |true=>
   have he':ix (jP (c::cs)) 0=[]:=by simpa using he
   simp only;cases cs with
   |nil=>rfl
   |cons b cs=>
    rw[aS,iW c _ _ (h c (.head _))]at he';have:ix (47::jP (b::cs)) (0+c.length)=(0+c.length)::ix (jP (b::cs)) (0+c.length+1):=by
     show(if 47=47 then _ else _)=_;rw[if_pos rfl]
    rw[this]at he';cases he'
  |false=>
   simp only;unfold partsBetween;exact hp
end
section
open PySem PySem.W PyProof.Rows PySem.Builtin.Str
noncomputable def cF(acc:List (List Nat))(c:List Nat):List (List Nat):=if c=[]\/c=[46]then acc else if c=[46,46]then acc.dropLast else acc++[c]
theorem uG:∀(l acc:List Pt),(l.foldl bQ acc).map (·.1)=(l.map (·.1)).foldl cF (acc.map (·.1))
 |[],acc=>rfl
 |c::l,acc=>by
  rw[Mv,Ml,Mv,uG l];congr 1;unfold bQ cF;split
  .rfl
  .split
   .rw[QJ]
   .rw[Mi];rfl
theorem kh:∀(l:List (List Nat)) (x:Xs),(fN l x).map (·.1)=l
 |[],_=>rfl
 |s::l,x=>by
  show s::(fN l _).map (·.1)=_;rw[kh l]
theorem rY(ps:List (List Nat))(h:Ch):(eb ps h).map (·.1)=ps.foldl cF []:=by
 unfold eb;rw[uG,kh];rfl
theorem nf(all:List (List Nat)):∀(l acc:List (List Nat)),(∀x∈l,x∈all)->(∀x∈acc,x∈all)->∀x∈l.foldl cF acc,x∈all
 |[],acc,_,ha=>ha
 |c::l,acc,hl,ha=>by
  refine nf all l (cF acc c) (λx hx=>hl x (.tail _ hx)) λx hx=>?_
  unfold cF at hx;split at hx
  .exact ha x hx
  .split at hx
   .exact ha x (OP _ hx)
   .rcases MT.mp hx with hx |hx
    .exact ha x hx
    .rw[MR.mp hx];exact hl _ (.head _)
theorem nc:∀(l acc:List (List Nat)),(l.foldl cF acc).length<=acc.length+l.length
 |[],acc=>Me _
 |c::l,acc=>by
  have:=nc l (cF acc c);have h2:(cF acc c).length<=acc.length+1:=by
   unfold cF;split
   .omega
   .split
    .rw[List.length_dropLast];omega
    .simp
  rw[Mv,Mg];omega
theorem fH:∀(l:List (List Nat)),(∀x∈l,x.length<=50)->(jP l).length<=l.length*51
 |[],_=>Me _
 |[a],h=>by rw[cQ];have:=h a (.head _);simp;omega
 |a::b::l,h=>by
  rw[aS];have:=fH (b::l) λx hx=>h x (.tail _ hx)
  have:=h a (.head _);simp at*;omega
theorem qQ:∀(l:List (List Nat)) (acc:Nat),(∀x∈l,x.length<=50)->(l.map λa=>T a).foldl (λacc x=>acc+x.length+(T [47]).length) acc<=acc+l.length*51
 |[],acc,_=>by simp
 |a::l,acc,h=>by
  rw[Ml,Mv];have:=qQ l (acc+(T a).length+(T [47]).length) λx hx=>h x (.tail _ hx)
  have h2:(T a).length<=50:=h a (.head _);have h3:(T [47]).length=1:=rfl;rw[Mg];omega
theorem gb(l:List Pt)(h:∀x∈l.map (·.1),x.length<=50)(hl:l.length<=200):Builtin.Str.tooLong (((l.map λp=>(T p.1,p.2)).map (·.1)).toArray.foldl (·+ ·.length+(T [47]).length) 0)=false:=by
 have e:(l.map λp=>(T p.1,p.2)).map (·.1)=(l.map (·.1)).map λa=>T a:=by rw[MA,MA];rfl
 have hs:((l.map λp=>(T p.1,p.2)).map (·.1)).toArray.foldl (·+ ·.length+(T [47]).length) 0<=200*51:=by
  rw[List.foldl_toArray,e];refine M4 (qQ _ 0 h) ?_;rw[Mc];omega
 unfold Builtin.Str.tooLong;refine decide_eq_false ?_;have hz:sizeLine=16777216:=rfl;omega
theorem vb(a b:Nat)(l:List Nat)(t v v':Tok):sliceMade (T (a::b::l)) t (some (1,v)) (some (2,v')) none=.str (T [b]):=by
 unfold sliceMade slicePicked;have e:strSliceIndices ((some (1,v):Option (Int×Tok)).map (·.1)) ((some (2,v'):Option (Int×Tok)).map (·.1)) (((none:Option (Int×Tok)).map (·.1)).getD 1) (T (a::b::l)).length=[1]:=by
  show strSliceIndices (some 1) (some 2) 1 (l.length+2)=[1];unfold strSliceIndices;have e1:max 0 (min (1:Int) ((l.length+2:Nat):Int))=((1:Nat):Int):=by omega
  have e2:max 0 (min (2:Int) ((l.length+2:Nat):Int))=((2:Nat):Int):=by omega
  simp only[show ¬((1:Int)<0)by decide,show ¬((2:Int)<0)by decide,if_false,show(1:Int)>0 by decide,if_true,e1,e2,PP];rfl
 rw[e,if_neg]
 .rfl
 .simp only[Mg,MC,MF,beq_iff_eq,not_and];intro _;show ¬(0+1=l.length+1+1);omega
theorem Ik(x:Nat)(c:List Nat)(ps:List (List Nat))(t:Tok)(hn:∀y∈(x::c)::ps,47∉y)(hb:∀y∈(x::c)::ps,y.length<=50)(hl:ps.length<=100)(w:World):
  ba w 60 (tV 143 [.str (T (47::jP ((x::c)::ps))) t] λu=>.str (T (47::jP (((x::c)::ps).foldl cF []))) (u.n 0)):=by
 have hx:x≠47:=λh=>hn _ (.head _) (by rw[h];exact .head _)
 have hq:=fH _ hb;have hsp:=nN (x::c) ps hn;have hsr:∀w:World,ba w 20 (cS (T (47::jP ((x::c)::ps))) t (T (jP ((x::c)::ps)))):=λw=>by
  obtain⟨r,hr⟩:∃r,jP ((x::c)::ps)=x::r:=by
   cases ps with
   |nil=>exact⟨c,rfl⟩
   |cons b ps=>exact⟨c++47::jP (b::ps),by rw[aS];rfl⟩
  rw[hr];have hrl:r.length<=10000:=by have:=congrArg List.length hr;simp at this hq;omega
  exact mX x r t hrl (by simpa using hx) (λv=>j6 (47::x::r) t v 0 (by simp)) (λv v'=>vb 47 x r t v v') (λv=>j5 (47::x::r) t v 0 (by simp))
 have hR:=rY ((x::c)::ps);have hm:∀y∈((x::c)::ps).foldl cF [],y.length<=50:=λy hy=>hb y (nf ((x::c)::ps) _ [] (λ_ h=>h) (λ_ h=>nomatch h) y hy)
 have hRl:(((x::c)::ps).foldl cF []).length<=101:=by have:=nc ((x::c)::ps) [];simp only[Mg,MC]at this;omega
 have htl:∀h,Builtin.Str.tooLong ((((eb ((x::c)::ps) h).map λp=>(T p.1,p.2)).map (·.1)).toArray.foldl (·+ ·.length+(T [47]).length) 0)=false:=λh=>by
  refine gb _ (by rw[hR];exact hm) ?_;have:=congrArg List.length (hR h);rw[Mc]at this;omega
 have hJl:=fH _ hm;simp only[Mg]at hq;cases hJ:jP (((x::c)::ps).foldl cF [])with
 |nil=>exact fy (jP ((x::c)::ps)) t (x::c) ps (by omega) hsr hsp (by omega) (λp hp=>by have:=hb p hp;omega) (λh=>by rw[hR,hJ]) htl w
 |cons a J=>
  rw[hJ]at hJl;simp only[Mg]at hJl;exact oY (jP ((x::c)::ps)) t (x::c) ps a J (by omega) hsr hsp (by omega) (λp hp=>by have:=hb p hp;omega) (λh=>by rw[hR,hJ]) (by omega) htl w
end
section
open PySem PySem.W PyProof.Rows PySem.Builtin.Str
theorem gk:∀(cs:List (List Nat)) (d:List Nat) (ds:List (List Nat)),cs≠[]->jP (cs++d::ds)=jP cs++47::jP (d::ds)
 |[],_,_,h=>(h rfl).elim
 |[a],d,ds,_=>by rw[OL,aS];rfl
 |a::b::cs,d,ds,_=>by
  have ih:=gk (b::cs) d ds (by simp);rw[MZ,MZ,aS,aS,<-MZ,ih];simp
theorem w9(cs:List (List Nat))(y:List Nat)(z:Nat):∃Y,jP (cs++[y++[z]])=Y++[z]:=by
 cases cs with
 |nil=>exact⟨y,rfl⟩
 |cons a cs=>exact⟨jP (a::cs)++47::y,by rw[gk _ _ _ (by simp)];simp[cQ]⟩
noncomputable def iP(c:List Nat):Prop:=c≠[]/\47∉c
theorem xU{c:List Nat}(h:iP c):et λy z=>c=y++[z]/\z≠47:=by
 rcases NI c with rfl |⟨y,z,rfl⟩
 .exact(h.1 rfl).elim
 .exact⟨y,z,by simp,λe=>h.2 (by simp[e])⟩
theorem m6{cs:List (List Nat)}(h:∀c∈cs,iP c)(hn:cs≠[]):et λY z=>jP cs=Y++[z]/\z≠47:=by
 rcases NI cs with rfl |⟨a,c,rfl⟩
 .exact(hn rfl).elim
 .obtain⟨y,z,rfl,hz⟩:=xU (h c (by simp));obtain⟨Y,hY⟩:=w9 a y z;exact⟨Y,z,by rw[NJ,hY],hz⟩
theorem xk(cs:List (List Nat))(d:Nat)(dl:List Nat)(ds:List (List Nat))(t u:Tok)(hc:∀c∈cs,iP c)(hd:d≠47)(hl:(jP cs).length+(jP ((d::dl)::ds)).length<=4000)(w:World):
  ba w 30 (tV 115 [.str (T (47::jP cs)) t,.str (T (jP ((d::dl)::ds))) u] λx=>.str (T (47::jP (cs++(d::dl)::ds))) (x.n 0)):=by
 obtain⟨lb,hlb⟩:∃r,jP ((d::dl)::ds)=d::r:=by
  cases ds with
  |nil=>exact⟨dl,rfl⟩
  |cons b ds=>exact⟨dl++47::jP (b::ds),by rw[aS];rfl⟩
 have h1:(decide (0+(T [47]).length<=(T (d::lb)).length)&&subAt (T (d::lb)) (T [47]) 0)=false:=by
  rw[i9];have:((d::lb)[0]?==some 47)=false:=beq_eq_false_iff_ne.mpr (by simpa using hd);rw[this,PR]
 rw[hlb]at hl ⊢
 by_cases hn:cs=[]
 .subst hn;have:=mV (w:=w) [] lb d t u (by simp at hl ⊢;omega) h1 rfl;rw[MU,hlb];exact this
 .rw[gk cs _ _ hn,hlb];obtain⟨Y,z,hY,hz⟩:=m6 hc hn;refine AW (w:=w) (jP cs) lb d t u (by simp at hl ⊢;omega) h1 ?_;rw[hY,i9];have:((47::(Y++[z]))[(T (47::(Y++[z]))).length-(T [47]).length]?==some 47)=false:=by
   have e:(T (47::(Y++[z]))).length-(T [47]).length=Y.length+1:=by
    show(47::(Y++[z])).length-1=_;simp
   rw[e];exact beq_eq_false_iff_ne.mpr (by simpa using hz)
  rw[this,PR]
theorem AM(cs:List (List Nat))(c:List Nat)(t:Tok)(hc:∀x∈cs,iP x)(hcc:iP c)(hl:(jP cs).length+c.length<=4000)(w:World):
  ba w 20 (tV 136 [.str (T (47::jP (cs++[c]))) t] λx=>.str (T (47::jP cs)) (x.n 0)):=by
 by_cases hn:cs=[]
 .subst hn;exact AL c t hcc.2 hcc.1 w
 .obtain⟨Y,z,hY,hz⟩:=m6 hc hn;rw[gk cs c [] hn,hY,cQ];have:=D1 (47::Y) c z t hcc.2 hcc.1 hz (by rw[hY]at hl;simp at hl ⊢;omega) w;simpa using this
theorem xd(cs:List (List Nat))(c:List Nat)(t:Tok)(hcc:iP c)(hl:(jP cs).length+c.length<=4000)(w:World):
  ba w 20 (tV 129 [.str (T (47::jP (cs++[c]))) t] λx=>.str (T c) (x.n 0)):=by
 by_cases hn:cs=[]
 .subst hn;exact tK [] c t hcc.2 (by simp;omega) w
 .rw[gk cs c [] hn,cQ];have:=tK (47::jP cs) c t hcc.2 (by simp;omega) w;simpa using this
end
noncomputable def d7(p r:List Nat):Prop:=et λcs c=>(∀x∈cs,iP x)/\iP c/\(jP cs).length+c.length<=4000/\p=47::jP (cs++[c])/\r=47::jP cs
noncomputable def h8(p r:List Nat):Prop:=∃cs,iP r/\(jP cs).length+r.length<=4000/\p=47::jP (cs++[r])
noncomputable def dJ(p q r:List Nat):Prop:=iJ λcs d dl ds=>(∀x∈cs,iP x)/\d≠47/\(jP cs).length+(jP ((d::dl)::ds)).length<=4000/\p=47::jP cs/\q=jP ((d::dl)::ds)/\r=47::jP (cs++(d::dl)::ds)
noncomputable def jy(p r:List Nat):Prop:=gc λx c ps=>(∀y∈(x::c)::ps,47∉y)/\(∀y∈(x::c)::ps,y.length<=50)/\ps.length<=100/\p=47::jP ((x::c)::ps)/\r=47::jP (((x::c)::ps).foldl cF [])
theorem lB(p r:List Nat)(t:Tok)(h:d7 p r)(w:World):ba w 20 (tV 136 [.str (T p) t] λx=>.str (T r) (x.n 0)):=by
 obtain⟨cs,c,h1,h2,h3,rfl,rfl⟩:=h;exact AM cs c t h1 h2 h3 w
theorem xe(p r:List Nat)(t:Tok)(h:h8 p r)(w:World):ba w 20 (tV 129 [.str (T p) t] λx=>.str (T r) (x.n 0)):=by
 obtain⟨cs,h1,h2,rfl⟩:=h;exact xd cs r t h1 h2 w
theorem eD(p q r:List Nat)(t u:Tok)(h:dJ p q r)(w:World):ba w 30 (tV 115 [.str (T p) t,.str (T q) u] λx=>.str (T r) (x.n 0)):=by
 obtain⟨cs,d,dl,ds,h1,h2,h3,rfl,rfl,rfl⟩:=h;exact xk cs d dl ds t u h1 h2 h3 w
theorem gQ(p r:List Nat)(t:Tok)(h:jy p r)(w:World):ba w 60 (tV 143 [.str (T p) t] λx=>.str (T r) (x.n 0)):=by
 obtain⟨x,c,ps,h1,h2,h3,rfl,rfl⟩:=h;exact Ik x c ps t h1 h2 h3 w
noncomputable abbrev cr:Stmt:=aP DT 3
noncomputable abbrev aQ(v:Value):Obj:={cls:=.type "cell",data:=.cell (some v)}
noncomputable def cu(ca:Addr):List (Str×Addr):=[(T [104,101,114,101],ca)]
noncomputable def kj:List (List Nat):=[[114,111,119],[112,105,101,99,101,115],[108,101,102,116],[115,111,114,116,101,114],[120]]
section
variable{w:World}{hb:Md}{lv:Nat}
theorem gm(x:Int)(t:Tok)(h:decide (x<0)=true):af w hb lv (tB "int.__abs__" [.int x t] λz=>.int (-x) (z.n 0)):=by
 have g:Gives (Builtin.«int.__abs__» ⟨[.int x t],[]⟩) (.int (-x)):=by
  show Gives (if x<0 then retInt (-x)else Builtin.Int.intSelf (.int x t) x) _;rw[if_pos (of_decide_eq_true h)];exact .of_eq rfl
 exact bg F.slot_int_abs (λs=>Ob s x t) Q9 (QT _) g
theorem oP(x:Int)(t:Tok)(h:decide (x<0)=false):af w hb lv (tB "int.__abs__" [.int x t] λ_=>.int x t):=by
 have g:Gives (Builtin.«int.__abs__» ⟨[.int x t],[]⟩) (.val (.int x t)):=by
  show Gives (if x<0 then retInt (-x)else Builtin.Int.intSelf (.int x t) x) _;rw[if_neg (of_decide_eq_false h)];exact .of_eq rfl
 exact bg F.slot_int_abs (λs=>Ob s x t) Q9 (QT _) g
end
noncomputable def eB:Expr:=bc (bc (zu (aP (ao (aP (ao cr) 0)) 0)) 1) 0
noncomputable def td(s:Scope):Scope:={s with names:=s.names.map λp=>match p.2 with
 |.free=>(p.1,.cell)
 |_=>p}
noncomputable def dw(ca loc cl:Addr):Env:=⟨td (pO eB),cl,3,cu ca,T [95,108,97,119,95,103,111,110,101,46,60,108,111,99,97,108,115,62,46],none,.ref 499,some loc,0⟩
noncomputable def sB:List (List Nat):=[[112,108,97,99,101]]
noncomputable abbrev FL(b:Int)(t u v:Tok):Obj:={cls:=.type "range",data:=.fields #[.int 0 t,.int b u,.int 1 v]}
noncomputable def JQ(r:Addr)(b:Int)(t u v:Tok):Tr:=⟨[],λ_=>[],λ_=>[],.call (.builtin "range.__iter__") ⟨[.ref r],[]⟩,[(r,FL b t u v)],λx=>.ok (.ret (.ref (x.n 0+ab))),λ_=>[FL b t u v],λx=>[(x.n 0+ab,aY 0 b)]⟩
theorem dT{w:World}{hb:Md}{lv:Nat}(r:Addr)(b:Int)(t u v:Tok)(h0:0<=b)(h1:b<=10000):af w hb lv (JQ r b t u v):=by
 have hs:Builtin.Range.rangeSize 0 b 1=b:=by
  unfold Builtin.Range.rangeSize;rw[if_pos (by decide)];split
  .rw[Int.ediv_one];omega
  .omega
 have f:∀i:Int,0<=i->i<=10001->Builtin.Range.rangeFitsLong i=true:=λi a c=>by
  unfold Builtin.Range.rangeFitsLong;simp;omega
 have hall:(Builtin.Range.rangeFitsLong 0&&Builtin.Range.rangeFitsLong b&&Builtin.Range.rangeFitsLong 1&&Builtin.Range.rangeFitsLong (Builtin.Range.rangeSize 0 b 1)&&(Builtin.Range.rangeSize 0 b 1==0||if(1:Int)>0 then Builtin.Range.rangeFitsLong (b+(1-1))else Builtin.Range.rangeFitsLong (b+(1+1))))=true:=by
  rw[hs,f 0 (by omega) (by omega),f b h0 (by omega),f 1 (by omega) (by omega),if_pos (by decide),f (b+(1-1)) (by omega) (by omega)];simp
 refine⟨λMt os G A s R hA C H=>?_,λ_=>⟨rfl,rfl⟩⟩;have ho:=(C.own _ (.head _)).1;refine bu Ph ⟨_,ho,rfl⟩ O9 (OW _) (N8 r 0 b 1 t u v (by rw[hall];simp)) ⟨ho,?_⟩;rw[hall,hs];have e0:s.heap.objs.size-ab+ab=s.heap.objs.size:=MJ (cC G C);have C2:=C.alloc (o:=aY 0 b) rfl;have:=H (uN (s.heap.objs.size-ab)) _ (by
  show am Mt os (_++[(s.heap.objs.size-ab+ab,aY 0 b)]) _;rw[e0];exact C2)
 simp only[JQ,uN,e0]at this;exact this
noncomputable def I2(ca:Addr):List (Str×Addr):=[(T [114,111,119],ca)]
noncomputable def ma:Expr:=zu (aP yn 0)
noncomputable def nQ(ca loc cl:Addr):Env:=⟨td (pO ma),cl,3,I2 ca,T [95,108,97,119,95,115,116,114,117,99,107,46,60,108,111,99,97,108,115,62,46],none,.ref 504,some loc,0⟩
noncomputable def Ds:List (List Nat):=[[107]]
section
section
variable(it lf loc ca cl acc:Addr)(kk:Nat->Tok)(v:Value)(vs as:List Value)(i n m:Nat)(h y r:List Nat)(ht t:Tok)
noncomputable def gA(rw pc lf so:Addr)(kk:Nat->Tok)(xv:Value)(vs:List Value)(i n1 n2:Nat)(ps:List Pt)(x:Int)(t ht:Tok)(h h2 h3:List Nat)(q:Pt)(hx:vs[i]?=some (.int x t))(hn:decide (x<0)=false)(hq:(vT ps)[(x-Int.ofNat 1).toNat]?=some (.str (T q.1) q.2))(h0:0<=x-Int.ofNat 1)(hf:Builtin.List.listFitsIndex (x-Int.ofNat 1)=true)(hj:dJ h q.1 h2)(hp:jy h2 h3)(w:World):=
 aT (mT) 100 (λP=>aG cr it (cD (cu ca) loc))
 (λP=>[(it,aI rw i),(rw,oL vs n1),(pc,oL (vT ps) n2),(loc,frm P kj kk [.ref rw,.ref pc,.ref lf,.ref so,xv] 5),(ca,aQ (.str (T h) ht))]) (λP=>[])
 0x2491011011071c7082102088041209041108208105 (λw=>[cH 0 1 hx,bE hn,rF 0 [] [] λhh=>oP x t hn,b6 2 h0 hf hq,rT 30 [] [] λhh=>eD h q.1 h2 ht q.2 hj w,rT 60 [] [] λhh=>gQ h2 h3 (nZ hh 8) hp w])
 [0,1,2,3,4] [] (λP ch=>.ok (.again (aG cr it (cD (cu ca) loc)))) (λP ch=>[(it,aI rw (i+1)),(rw,oL vs n1),(pc,oL (vT ps) n2),(loc,frm P kj kk [.ref rw,.ref pc,.ref lf,.ref so,.int x t] 5),(ca,aQ (.str (T h3) (nZ ch 9)))]) (λP ch=>[]) w
noncomputable def gB(rw pc lf so:Addr)(kk:Nat->Tok)(xv:Value)(vs:List Value)(i n1 n2:Nat)(ps:List Pt)(x:Int)(t ht:Tok)(h2 h3:List Nat)(q:Pt)(hx:vs[i]?=some (.int x t))(hn:decide (x<0)=true)(hq:(vT ps)[(-x-Int.ofNat 1).toNat]?=some (.str (T q.1) q.2))(h0:0<= -x-Int.ofNat 1)(hf:Builtin.List.listFitsIndex (-x-Int.ofNat 1)=true)(hj:dJ [47] q.1 h2)(hp:jy h2 h3)(w:World):=
 aT (mT) 100 (λP=>aG cr it (cD (cu ca) loc))
 (λP=>[(it,aI rw i),(rw,oL vs n1),(pc,oL (vT ps) n2),(loc,frm P kj kk [.ref rw,.ref pc,.ref lf,.ref so,xv] 5),(ca,aQ (.str (T [47]) ht))]) (λP=>[])
 0x2491011011071c7082102088041209041109108208105 (λw=>[cH 0 1 hx,bE hn,rF 0 [] [] λhh=>c9 (T [47]) (T [47]) ht (nZ hh 4) false rfl,rF 0 [] [] λhh=>gm x t hn,b6 2 h0 hf hq,rT 30 [] [] λhh=>eD [47] q.1 h2 ht q.2 hj w,rT 60 [] [] λhh=>gQ h2 h3 (nZ hh 10) hp w])
 [0,1,2,3,4] [] (λP ch=>.ok (.again (aG cr it (cD (cu ca) loc)))) (λP ch=>[(it,aI rw (i+1)),(rw,oL vs n1),(pc,oL (vT ps) n2),(loc,frm P kj kk [.ref rw,.ref pc,.ref lf,.ref so,.int x t] 5),(ca,aQ (.str (T h3) (nZ ch 11)))]) (λP ch=>[]) w
noncomputable def KG(hx:vs[i]?=some (.str (T y) t))(hd:d7 y r)(he:((T r).cps.toList==(T h).cps.toList)=true)(hl:as.length<=10000)(w:World):=
 aT (mT) 60 (λP=>eF eB it acc (dw ca loc cl))
 (λP=>[(it,aI lf i),(lf,oL vs n),(cl,aD P sB kk [v] 1),(acc,oL as m),(ca,aQ (.str (T h) ht))]) (λP=>[])
 0x1071091011c11c7105 (λw=>[cH 0 1 hx,rT 20 [] [] λhh=>lB y r t hd w,rF 0 [] [] λhh=>bW (T r) (T h) (nZ hh 2) ht true he,dF 3 hl])
 [0,1,2,3,4] [] (λP ch=>.ok (.again (eF eB it acc (dw ca loc cl)))) (λP ch=>[(it,aI lf (i+1)),(lf,oL vs n),(cl,aD P sB kk [.str (T y) t] 1),(acc,oL (as++[.str (T y) t]) (m+1)),(ca,aQ (.str (T h) ht))]) (λP ch=>[]) w
noncomputable def KF(hx:vs[i]?=some (.str (T y) t))(hd:d7 y r)(he:((T r).cps.toList==(T h).cps.toList)=false)(w:World):=
 aT (mT) 60 (λP=>eF eB it acc (dw ca loc cl))
 (λP=>[(it,aI lf i),(lf,oL vs n),(cl,aD P sB kk [v] 1),(acc,oL as m),(ca,aQ (.str (T h) ht))]) (λP=>[])
 74608537268678917 (λw=>[cH 0 1 hx,rT 20 [] [] λhh=>lB y r t hd w,rF 0 [] [] λhh=>bW (T r) (T h) (nZ hh 2) ht false he])
 [0,1,2,3,4] [] (λP ch=>.ok (.again (eF eB it acc (dw ca loc cl)))) (λP ch=>[(it,aI lf (i+1)),(lf,oL vs n),(cl,aD P sB kk [.str (T y) t] 1),(acc,oL as m),(ca,aQ (.str (T h) ht))]) (λP ch=>[]) w
noncomputable def HW(hx:vs[i]?=some (.str (T y) t))(hd:d7 y r)(he:((T r).cps.toList==(T h).cps.toList)=true)(hl:as.length<=10000)(w:World):=
 aT (mT) 60 (λP=>eF eB it acc (dw ca loc cl))
 (λP=>[(it,aI lf i),(lf,oL vs n),(cl,oD [] 0),(acc,oL as m),(ca,aQ (.str (T h) ht))]) (λP=>[])
 0x1071091011c11c7105 (λw=>[cH 0 1 hx,rT 20 [] [] λhh=>lB y r t hd w,rF 0 [] [] λhh=>bW (T r) (T h) (nZ hh 2) ht true he,dF 3 hl])
 [0,1,2,3,4] [] (λP ch=>.ok (.again (eF eB it acc (dw ca loc cl)))) (λP ch=>[(it,aI lf (i+1)),(lf,oL vs n),(cl,aD P sB (kl [nZ ch 1]) [.str (T y) t] 1),(acc,oL (as++[.str (T y) t]) (m+1)),(ca,aQ (.str (T h) ht))]) (λP ch=>[]) w
noncomputable def HV(hx:vs[i]?=some (.str (T y) t))(hd:d7 y r)(he:((T r).cps.toList==(T h).cps.toList)=false)(w:World):=
 aT (mT) 60 (λP=>eF eB it acc (dw ca loc cl))
 (λP=>[(it,aI lf i),(lf,oL vs n),(cl,oD [] 0),(acc,oL as m),(ca,aQ (.str (T h) ht))]) (λP=>[])
 74608537268678917 (λw=>[cH 0 1 hx,rT 20 [] [] λhh=>lB y r t hd w,rF 0 [] [] λhh=>bW (T r) (T h) (nZ hh 2) ht false he])
 [0,1,2,3,4] [] (λP ch=>.ok (.again (eF eB it acc (dw ca loc cl)))) (λP ch=>[(it,aI lf (i+1)),(lf,oL vs n),(cl,aD P sB (kl [nZ ch 1]) [.str (T y) t] 1),(acc,oL as m),(ca,aQ (.str (T h) ht))]) (λP ch=>[]) w
noncomputable def Jz(hx:vs[i]?=none)(w:World):=
 cY (mT) 60 (λP=>eF eB it acc (dw ca loc cl))
 (λP=>[(it,aI lf i),(lf,oL vs n)]) (λP=>[])
 2113858 (λw=>[nq 0 1 hx])
 [0,1] [] (λP ch=>(.ok .next)) (λP ch=>[(it,ar i),(lf,oL vs n)]) (λP ch=>[]) w
end
end
noncomputable def cK(l:List Nat):List Nat:=match l.reverse.dropWhile (· != 47)with
 |47::r=>bif r.isEmpty then[47]else r.reverse
 |_=>[]
noncomputable def bG(h:List Nat)(lfs:List Pt):List Pt:=lfs.filter λp=>cK p.1==h
theorem FJ(w:World)(it lf loc ca cl acc:Addr)(n:Nat)(h:List Nat)(ht:Tok)(lfs:List Pt)(hd:∀p∈lfs,d7 p.1 (cK p.1))(hn:lfs.length<=9000):∀(rest pre:List Pt) (kk:Nat->Tok) (v:Value) (m:Nat),lfs=pre++rest->m=(bG h pre).length->
  ak w mT 60 (eF eB it acc (dw ca loc cl)) [(it,aI lf pre.length),(lf,oL (vT lfs) n),(cl,aD w.params sB kk [v] 1),(acc,oL (vT (bG h pre)) m),(ca,aQ (.str (T h) ht))]
   λr N=>r=.ok .next/\∃v',N.Perm [(it,ar lfs.length),(lf,oL (vT lfs) n),(cl,aD w.params sB kk [v'] 1),(acc,oL (vT (bG h lfs)) (bG h lfs).length),(ca,aQ (.str (T h) ht))]
 |[],pre,kk,v,m,e,hm=>by
  rw[Mq]at e;subst e hm;refine(((Jz it lf loc ca cl acc (vT lfs) lfs.length n (by rw[cJ];simp) w).frame [(cl,aD w.params sB kk [v] 1),(acc,oL (vT (bG h lfs)) (bG h lfs).length),(ca,aQ (.str (T h) ht))]).perm ?_).mono ?_
  .refine ae λy=>?_
   exact(aN [_,_,_,_,_] [] 9561788666049 5421961665:)
  .refine fq λch=>?_
   refine⟨_,⟨rfl,v,ae λy=>?_⟩,.refl _⟩;exact(aN [_,_,_,_,_] [] 9561788666049 5421961665:)
 |p::rest,pre,kk,v,m,e,hm=>by
  have hx:(vT lfs)[pre.length]?=some (.str (T p.1) p.2):=by rw[cJ,e];simp
  have hp:p∈lfs:=by rw[e];simp
  have hl:(bG h pre).length<=pre.length:=Qg _ _;have hpl:pre.length<=lfs.length:=by rw[e];simp
  cases h0:(cK p.1==h)with
  |true=>
   have er:bG h (pre++[p])=bG h pre++[p]:=by unfold bG;rw[Oh];simp[h0]
   have e2:vT (bG h (pre++[p]))=vT (bG h pre)++[.str (T p.1) p.2]:=by rw[er,fM];rfl
   refine(KG it lf loc ca cl acc kk v (vT lfs) (vT (bG h pre)) pre.length n m h p.1 (cK p.1) ht p.2 hx (hd p hp) h0 (by rw[cy];omega) w).runs ?_;refine fr λch=>?_
   refine(FJ w it lf loc ca cl acc n h ht lfs hd hn rest (pre++[p]) kk (.str (T p.1) p.2) (m+1) (by rw[e];simp) (by rw[er,hm];simp)).perm (ae λy=>?_)
   (simp only[e2,Mn,Mg,MC,M3];exact(aN [_,_,_,_,_] [] 11964010689 11964010689:))
  |false=>
   have er:bG h (pre++[p])=bG h pre:=by unfold bG;rw[Oh];simp[h0]
   refine(KF it lf loc ca cl acc kk v (vT lfs) (vT (bG h pre)) pre.length n m h p.1 (cK p.1) ht p.2 hx (hd p hp) h0 w).runs ?_;refine fr λch=>?_
   refine(FJ w it lf loc ca cl acc n h ht lfs hd hn rest (pre++[p]) kk (.str (T p.1) p.2) m (by rw[e];simp) (by rw[er,hm])).perm (ae λy=>?_)
   (simp only[er,Mn,Mg,MC,M3];exact(aN [_,_,_,_,_] [] 11964010689 11964010689:))
noncomputable def BB(P:Params)(it lf loc ca cl acc:Addr)(n:Nat):Tr:=
 ⟨[],λ_=>[],λ_=>[],yU eB it acc (dw ca loc cl),[(it,aI lf 0),(lf,oL [] n)],λ_=>.ok .next,λ_=>[ar 0,oL [] n],λ_=>[]⟩
theorem AS(it lf loc ca cl acc:Addr)(n:Nat)(w:World):af w mT 60 (BB w.params it lf loc ca cl acc n):=by
 refine ak.tri (Q:=λr N=>r=.ok .next/\N.Perm [(it,ar 0),(lf,oL [] n)]) (λ_=>⟨rfl,rfl⟩) ?_ ?_
 .refine eP (io:=aI lf 0) rfl ?_ (by rw[cf];exact .head _) (.inl ⟨_,_,rfl⟩);refine(Jz it lf loc ca cl acc [] 0 n rfl w).mono ?_;refine fr λch=>?_
  exact⟨_,⟨rfl,.refl _⟩,.refl _⟩
 .rintro r N ⟨rfl,hN⟩;exact⟨u0,rfl,hN⟩
noncomputable def vx(P:Params)(it lf loc ca cl acc:Addr)(n:Nat)(h:List Nat)(ht:Tok)(lfs:List Pt):Tr:=
 ⟨[],λ_=>[],λ_=>[],yU eB it acc (dw ca loc cl),[(it,aI lf 0),(lf,oL (vT lfs) n),(cl,oD [] 0),(acc,oL [] 0),(ca,aQ (.str (T h) ht))],λ_=>.ok .next,λu=>[ar lfs.length,oL (vT lfs) n,aD P sB (kl [u.n 0]) [u.u Value .none] 1,oL (vT (bG h lfs)) (bG h lfs).length,aQ (.str (T h) ht)],λ_=>[]⟩
theorem D6(it lf loc ca cl acc:Addr)(n:Nat)(h:List Nat)(ht:Tok)(lfs:List Pt)(h1:1<=lfs.length)(hd:∀p∈lfs,d7 p.1 (cK p.1))(hn:lfs.length<=9000)(w:World):af w mT 60 (vx w.params it lf loc ca cl acc n h ht lfs):=by
 refine ak.tri (Q:=λr N=>r=.ok .next/\et λt v'=>N.Perm [(it,ar lfs.length),(lf,oL (vT lfs) n),(cl,aD w.params sB (kl [t]) [v'] 1),(acc,oL (vT (bG h lfs)) (bG h lfs).length),(ca,aQ (.str (T h) ht))]) (λ_=>⟨rfl,rfl⟩) ?_ ?_
 .refine eP (io:=aI lf 0) rfl ?_ (by rw[cf];exact .head _) (.inl ⟨_,_,rfl⟩);cases lfs with
  |nil=>simp at h1
  |cons p rest=>
   have hp:p∈p::rest:=.head _;cases h0:(cK p.1==h)with
   |true=>
    have er:bG h [p]=[p]:=by simp[bG,h0]
    have e2:vT (bG h [p])=[.str (T p.1) p.2]:=by rw[er];rfl
    refine(HW it lf loc ca cl acc (vT (p::rest)) [] 0 n 0 h p.1 (cK p.1) ht p.2 rfl (hd p hp) h0 (by simp) w).runs ?_;refine fr λch=>?_
    refine((FJ w it lf loc ca cl acc n h ht (p::rest) hd hn rest [p] (kl [(nZ ch 1)]) (.str (T p.1) p.2) 1 rfl (by rw[er];rfl)).perm (ae λy=>?_)).mono λr N h=>⟨N,⟨h.1,.of h.2⟩,.refl _⟩
    (simp only[e2,MU,Mg,MC,M3];exact(aN [_,_,_,_,_] [] 11964010689 11964010689:))
   |false=>
    have er:bG h [p]=[]:=by simp[bG,h0]
    have e2:vT (bG h [p])=[]:=by rw[er];rfl
    refine(HV it lf loc ca cl acc (vT (p::rest)) [] 0 n 0 h p.1 (cK p.1) ht p.2 rfl (hd p hp) h0 w).runs ?_;refine fr λch=>?_
    refine((FJ w it lf loc ca cl acc n h ht (p::rest) hd hn rest [p] (kl [(nZ ch 1)]) (.str (T p.1) p.2) 0 rfl (by rw[er];rfl)).perm (ae λy=>?_)).mono λr N h=>⟨N,⟨h.1,.of h.2⟩,.refl _⟩
    (simp only[e2,MU,Mg,MC,M3];exact(aN [_,_,_,_,_] [] 11964010689 11964010689:))
 .rintro r N ⟨rfl,t,v',hN⟩;obtain⟨u,hu1,hu⟩:=n9 v' (λ_=>t);refine⟨u,rfl,hN.trans (ae λy=>?_)⟩
  (simp only[vx,hu .none,hu1,bO,bP];exact(aN [_,_,_,_,_] [] 11964010689 8876776509633:))
noncomputable def Fd(P:Params)(it lf loc ca cl acc:Addr)(n:Nat)(h:List Nat)(ht:Tok)(lfs:List Pt)(vs:List Value)(k:Nat):Tr:=
 ⟨[],λ_=>[],λ_=>[],yU eB it acc (dw ca loc cl),[(it,aI lf 0),(lf,oL (vT lfs) n),(cl,oD [] 0),(acc,oL [] 0),(ca,aQ (.str (T h) ht))],λ_=>.ok .next,λu=>[ar lfs.length,oL (vT lfs) n,aD P sB (kl [u.n 0]) [u.u Value .none] 1,oL vs k,aQ (.str (T h) ht)],λ_=>[]⟩
theorem qe(it lf loc ca cl acc:Addr)(n:Nat)(h:List Nat)(ht:Tok)(lfs:List Pt)(vs:List Value)(k:Nat)(h1:1<=lfs.length)(hd:∀p∈lfs,d7 p.1 (cK p.1))(hn:lfs.length<=9000)(hv:vT (bG h lfs)=vs)(hk:vs.length=k)(w:World):af w mT 60 (Fd w.params it lf loc ca cl acc n h ht lfs vs k):=by
 subst hv hk;have:=D6 it lf loc ca cl acc n h ht lfs h1 hd hn w;unfold vx at this;rw[show(bG h lfs).length=(vT (bG h lfs)).length from(cy _).symm]at this;exact this
noncomputable def yo(P:Params)(so sd n2i:Addr)(k:Nat->Tok)(pv nt:Tok)(pvi nvi:Int)(n:Nat)(x:List Nat)(xt:Tok)(ns:List Nd):Tr:=
 ⟨[ag ns],λu=>[ag (bw u (x,xt) [] ns)],λ_=>[],.call (.ref 434) ⟨[.ref so,.str (T x) xt],[]⟩,[(so,oI 484 sd),(sd,aD P sN k [.ref n2i,.none,.int pvi pv,.int nvi nt] 4),(n2i,oD (eS P (ac ns)) n)],λ_=>.ok (.ret .none),λu=>[oI 484 sd,aD P sN k [.ref n2i,.none,.int pvi pv,.int nvi nt] 4,oD (eS P (ac (bw u (x,xt) [] ns))) (n+1)],λ_=>[]⟩
theorem qc(so sd n2i:Addr)(k:Nat->Tok)(pv nt:Tok)(pvi nvi:Int)(n:Nat)(x:List Nat)(xt:Tok)(ns:List Nd)(h:lk (ac ns) x=none)(hz:(ac ns).length<=10000)
  (hp:∀p∈([]:List Pt),∃d∈ns,d.nm=p.1) (hl:∀d∈ns,d.sc.length+([]:List Pt).length<=10000) (w:World):af w mT 70 (yo w.params so sd n2i k pv nt pvi nvi n x xt ns):=
 lz so sd n2i k pv nt pvi nvi n (x,xt) [] ns (by simp) h hz hp hl w
noncomputable def yp(P:Params)(so sd n2i:Addr)(k:Nat->Tok)(pv nt:Tok)(pvi nvi:Int)(n:Nat)(x:List Nat)(xt:Tok)(p0:Pt)(ns:List Nd):Tr:=
 ⟨[ag ns],λu=>[ag (bw u (x,xt) [p0] ns)],λ_=>[],.call (.ref 434) ⟨[.ref so,.str (T x) xt,.str (T p0.1) p0.2],[]⟩,[(so,oI 484 sd),(sd,aD P sN k [.ref n2i,.none,.int pvi pv,.int nvi nt] 4),(n2i,oD (eS P (ac ns)) n)],λ_=>.ok (.ret .none),λu=>[oI 484 sd,aD P sN k [.ref n2i,.none,.int pvi pv,.int nvi nt] 4,oD (eS P (ac (bw u (x,xt) [p0] ns))) (n+1)],λ_=>[]⟩
theorem xa(so sd n2i:Addr)(k:Nat->Tok)(pv nt:Tok)(pvi nvi:Int)(n:Nat)(x:List Nat)(xt:Tok)(p0:Pt)(ns:List Nd)(h:lk (ac ns) x=none)(hz:(ac ns).length<=10000)
  (hp:∀p∈([p0]:List Pt),∃d∈ns,d.nm=p.1) (hl:∀d∈ns,d.sc.length+([p0]:List Pt).length<=10000) (w:World):af w mT 70 (yp w.params so sd n2i k pv nt pvi nvi n x xt p0 ns):=
 lz so sd n2i k pv nt pvi nvi n (x,xt) [p0] ns (by simp) h hz hp hl w
noncomputable def yq(P:Params)(so sd n2i:Addr)(k:Nat->Tok)(pv nt:Tok)(pvi nvi:Int)(n:Nat)(x:List Nat)(xt:Tok)(p0 p1:Pt)(ns:List Nd):Tr:=
 ⟨[ag ns],λu=>[ag (bw u (x,xt) [p0,p1] ns)],λ_=>[],.call (.ref 434) ⟨[.ref so,.str (T x) xt,.str (T p0.1) p0.2,.str (T p1.1) p1.2],[]⟩,[(so,oI 484 sd),(sd,aD P sN k [.ref n2i,.none,.int pvi pv,.int nvi nt] 4),(n2i,oD (eS P (ac ns)) n)],λ_=>.ok (.ret .none),λu=>[oI 484 sd,aD P sN k [.ref n2i,.none,.int pvi pv,.int nvi nt] 4,oD (eS P (ac (bw u (x,xt) [p0,p1] ns))) (n+1)],λ_=>[]⟩
theorem xb(so sd n2i:Addr)(k:Nat->Tok)(pv nt:Tok)(pvi nvi:Int)(n:Nat)(x:List Nat)(xt:Tok)(p0 p1:Pt)(ns:List Nd)(h:lk (ac ns) x=none)(hz:(ac ns).length<=10000)
  (hp:∀p∈([p0,p1]:List Pt),∃d∈ns,d.nm=p.1) (hl:∀d∈ns,d.sc.length+([p0,p1]:List Pt).length<=10000) (w:World):af w mT 70 (yq w.params so sd n2i k pv nt pvi nvi n x xt p0 p1 ns):=
 lz so sd n2i k pv nt pvi nvi n (x,xt) [p0,p1] ns (by simp) h hz hp hl w
noncomputable def yr(P:Params)(so sd n2i:Addr)(k:Nat->Tok)(pv nt:Tok)(pvi nvi:Int)(n:Nat)(x:List Nat)(xt:Tok)(p0 p1 p2:Pt)(ns:List Nd):Tr:=
 ⟨[ag ns],λu=>[ag (bw u (x,xt) [p0,p1,p2] ns)],λ_=>[],.call (.ref 434) ⟨[.ref so,.str (T x) xt,.str (T p0.1) p0.2,.str (T p1.1) p1.2,.str (T p2.1) p2.2],[]⟩,[(so,oI 484 sd),(sd,aD P sN k [.ref n2i,.none,.int pvi pv,.int nvi nt] 4),(n2i,oD (eS P (ac ns)) n)],λ_=>.ok (.ret .none),λu=>[oI 484 sd,aD P sN k [.ref n2i,.none,.int pvi pv,.int nvi nt] 4,oD (eS P (ac (bw u (x,xt) [p0,p1,p2] ns))) (n+1)],λ_=>[]⟩
theorem xc(so sd n2i:Addr)(k:Nat->Tok)(pv nt:Tok)(pvi nvi:Int)(n:Nat)(x:List Nat)(xt:Tok)(p0 p1 p2:Pt)(ns:List Nd)(h:lk (ac ns) x=none)(hz:(ac ns).length<=10000)
  (hp:∀p∈([p0,p1,p2]:List Pt),∃d∈ns,d.nm=p.1) (hl:∀d∈ns,d.sc.length+([p0,p1,p2]:List Pt).length<=10000) (w:World):af w mT 70 (yr w.params so sd n2i k pv nt pvi nvi n x xt p0 p1 p2 ns):=
 lz so sd n2i k pv nt pvi nvi n (x,xt) [p0,p1,p2] ns (by simp) h hz hp hl w
section
section
variable(it loc ca rw pc lf so sd n0:Addr)(k kk:Nat->Tok)(xv:Value)(vs:List Value)(i n1 n2 n3 n:Nat)(ps:List Pt)(p0 p1:Pt)(x:Int)(t ht pv nt:Tok)(h h2 h3:List Nat)(q:Pt)(ns:List Nd)
noncomputable def KD(hx:vs[i]?=some (.int x t))(hn:decide (x<0)=true)(hr:((T h).cps.toList != (T [47]).cps.toList)=true)(a0:lk (ac ns) h=none)(az:(ac ns).length<=10000)(ap:∀p∈([]:List Pt),∃d∈ns,d.nm=p.1)(al:∀d∈ns,d.sc.length+([]:List Pt).length<=10000)(hq:(vT ps)[(-x-Int.ofNat 1).toNat]?=some (.str (T q.1) q.2))(h0:0<= -x-Int.ofNat 1)(hf:Builtin.List.listFitsIndex (-x-Int.ofNat 1)=true)(hj:dJ h q.1 h2)(hp:jy h2 h3)(w:World):=
 aT (mT) 110 (λP=>aG cr it (cD (cu ca) loc))
 (λP=>[(it,aI rw i),(rw,oL vs n1),(pc,oL (vT ps) n2),(loc,frm P kj kk [.ref rw,.ref pc,.ref lf,.ref so,xv] 5),(ca,aQ (.str (T h) ht)),(lf,oL [] n3),(so,oI 484 sd),(sd,aD P sN k [.ref (n0+ab),.none,.int 0 pv,.int 0 nt] 4),(n0+ab,oD (eS P (ac ns)) n)]) (λP=>[ag ns])
 0x92440440441c71c208408220104824104424a28a28810e08139210241110f08a08a28824204204104c04b2c104104104b0810412c8109108208105 (λw=>[cH 0 1 hx,bE hn,rF 0 [] [] λhh=>c9 (T h) (T [47]) ht (nZ hh 4) true hr,rT 60 [10,5] [] λhh=>AS (aZ hh 8) lf loc ca (aZ hh 10) (aZ hh 9) n3 w,rF 0 [13,11] [] λhh=>gP (aZ hh 12) (aZ hh 9) [] [] 0 0 (by decide),rT 70 [6,7,8] [0] λhh=>qc so sd (n0+ab) k pv nt 0 0 n h ht ns a0 az ap al w,dF 5 (vs:=[]) (by decide),rF 0 [] [] λhh=>gm x t hn,b6 2 h0 hf hq,rT 30 [] [] λhh=>eD h q.1 h2 ht q.2 hj w,rT 60 [] [] λhh=>gQ h2 h3 (nZ hh 20) hp w])
 [0,1,2,3,4,5,6,7,8] [0] (λP ch=>.ok (.again (aG cr it (cD (cu ca) loc)))) (λP ch=>[(it,aI rw (i+1)),(rw,oL vs n1),(pc,oL (vT ps) n2),(loc,frm P kj kk [.ref rw,.ref pc,.ref lf,.ref so,.int x t] 5),(ca,aQ (.str (T h3) (nZ ch 21))),(lf,oL [.str (T h) ht] (n3+1)),(so,oI 484 sd),(sd,aD P sN k [.ref (n0+ab),.none,.int 0 pv,.int 0 nt] 4),(n0+ab,oD (eS P (ac (bw (ch 14) (h,ht) [] ns))) (n+1))]) (λP ch=>[ag (bw (ch 14) (h,ht) [] ns)]) w
noncomputable def Kz(hx:vs[i]?=some (.int x t))(hn:decide (x<0)=true)(hr:((T h).cps.toList != (T [47]).cps.toList)=true)(lfs:List Pt)(h1:1<=lfs.length)(hd:∀p∈lfs,d7 p.1 (cK p.1))(hll:lfs.length<=9000)(hvl:(vT lfs).length<=9000)(hs:vT (bG h lfs)=[])(hk:([]:List Value).length=0)(a0:lk (ac ns) h=none)(az:(ac ns).length<=10000)(ap:∀p∈([]:List Pt),∃d∈ns,d.nm=p.1)(al:∀d∈ns,d.sc.length+([]:List Pt).length<=10000)(hq:(vT ps)[(-x-Int.ofNat 1).toNat]?=some (.str (T q.1) q.2))(h0:0<= -x-Int.ofNat 1)(hf:Builtin.List.listFitsIndex (-x-Int.ofNat 1)=true)(hj:dJ h q.1 h2)(hp:jy h2 h3)(w:World):=
 aT (mT) 110 (λP=>aG cr it (cD (cu ca) loc))
 (λP=>[(it,aI rw i),(rw,oL vs n1),(pc,oL (vT ps) n2),(loc,frm P kj kk [.ref rw,.ref pc,.ref lf,.ref so,xv] 5),(ca,aQ (.str (T h) ht)),(lf,oL (vT lfs) n3),(so,oI 484 sd),(sd,aD P sN k [.ref (n0+ab),.none,.int 0 pv,.int 0 nt] 4),(n0+ab,oD (eS P (ac ns)) n)]) (λP=>[ag ns])
 0x92440440441c71c208408220104824104424a28a28810e08139210241145110f08a08a28824204204104c04b2c104104104b0810412c8109108208105 (λw=>[cH 0 1 hx,bE hn,rF 0 [] [] λhh=>c9 (T h) (T [47]) ht (nZ hh 4) true hr,rT 60 [10,5,12,11,4] [] λhh=>qe (aZ hh 8) lf loc ca (aZ hh 10) (aZ hh 9) n3 h ht lfs [] 0 h1 hd hll hs hk w,rF 0 [13,11] [] λhh=>gP (aZ hh 12) (aZ hh 9) [] [] 0 0 (by decide),rT 70 [6,7,8] [0] λhh=>qc so sd (n0+ab) k pv nt 0 0 n h ht ns a0 az ap al w,dF 5 (vs:=(vT lfs)) (by omega),rF 0 [] [] λhh=>gm x t hn,b6 2 h0 hf hq,rT 30 [] [] λhh=>eD h q.1 h2 ht q.2 hj w,rT 60 [] [] λhh=>gQ h2 h3 (nZ hh 20) hp w])
 [0,1,2,3,4,5,6,7,8] [0] (λP ch=>.ok (.again (aG cr it (cD (cu ca) loc)))) (λP ch=>[(it,aI rw (i+1)),(rw,oL vs n1),(pc,oL (vT ps) n2),(loc,frm P kj kk [.ref rw,.ref pc,.ref lf,.ref so,.int x t] 5),(ca,aQ (.str (T h3) (nZ ch 21))),(lf,oL ((vT lfs)++[.str (T h) ht]) (n3+1)),(so,oI 484 sd),(sd,aD P sN k [.ref (n0+ab),.none,.int 0 pv,.int 0 nt] 4),(n0+ab,oD (eS P (ac (bw (ch 14) (h,ht) [] ns))) (n+1))]) (λP ch=>[ag (bw (ch 14) (h,ht) [] ns)]) w
noncomputable def KA(hx:vs[i]?=some (.int x t))(hn:decide (x<0)=true)(hr:((T h).cps.toList != (T [47]).cps.toList)=true)(lfs:List Pt)(h1:1<=lfs.length)(hd:∀p∈lfs,d7 p.1 (cK p.1))(hll:lfs.length<=9000)(hvl:(vT lfs).length<=9000)(hs:vT (bG h lfs)=[.str (T p0.1) p0.2])(hk:([.str (T p0.1) p0.2]:List Value).length=1)(a0:lk (ac ns) h=none)(az:(ac ns).length<=10000)(ap:∀p∈([p0]:List Pt),∃d∈ns,d.nm=p.1)(al:∀d∈ns,d.sc.length+([p0]:List Pt).length<=10000)(hq:(vT ps)[(-x-Int.ofNat 1).toNat]?=some (.str (T q.1) q.2))(h0:0<= -x-Int.ofNat 1)(hf:Builtin.List.listFitsIndex (-x-Int.ofNat 1)=true)(hj:dJ h q.1 h2)(hp:jy h2 h3)(w:World):=
 aT (mT) 110 (λP=>aG cr it (cD (cu ca) loc))
 (λP=>[(it,aI rw i),(rw,oL vs n1),(pc,oL (vT ps) n2),(loc,frm P kj kk [.ref rw,.ref pc,.ref lf,.ref so,xv] 5),(ca,aQ (.str (T h) ht)),(lf,oL (vT lfs) n3),(so,oI 484 sd),(sd,aD P sN k [.ref (n0+ab),.none,.int 0 pv,.int 0 nt] 4),(n0+ab,oD (eS P (ac ns)) n)]) (λP=>[ag ns])
 0x92440440441c71c208408220104824104424a28a28810e08139210241145110f08a08a28824204204104c04b2c104104104b0810412c8109108208105 (λw=>[cH 0 1 hx,bE hn,rF 0 [] [] λhh=>c9 (T h) (T [47]) ht (nZ hh 4) true hr,rT 60 [10,5,12,11,4] [] λhh=>qe (aZ hh 8) lf loc ca (aZ hh 10) (aZ hh 9) n3 h ht lfs [.str (T p0.1) p0.2] 1 h1 hd hll hs hk w,rF 0 [13,11] [] λhh=>gP (aZ hh 12) (aZ hh 9) [] [.str (T p0.1) p0.2] 0 1 (by simp),rT 70 [6,7,8] [0] λhh=>xa so sd (n0+ab) k pv nt 0 0 n h ht p0 ns a0 az ap al w,dF 5 (vs:=(vT lfs)) (by omega),rF 0 [] [] λhh=>gm x t hn,b6 2 h0 hf hq,rT 30 [] [] λhh=>eD h q.1 h2 ht q.2 hj w,rT 60 [] [] λhh=>gQ h2 h3 (nZ hh 20) hp w])
 [0,1,2,3,4,5,6,7,8] [0] (λP ch=>.ok (.again (aG cr it (cD (cu ca) loc)))) (λP ch=>[(it,aI rw (i+1)),(rw,oL vs n1),(pc,oL (vT ps) n2),(loc,frm P kj kk [.ref rw,.ref pc,.ref lf,.ref so,.int x t] 5),(ca,aQ (.str (T h3) (nZ ch 21))),(lf,oL ((vT lfs)++[.str (T h) ht]) (n3+1)),(so,oI 484 sd),(sd,aD P sN k [.ref (n0+ab),.none,.int 0 pv,.int 0 nt] 4),(n0+ab,oD (eS P (ac (bw (ch 14) (h,ht) [p0] ns))) (n+1))]) (λP ch=>[ag (bw (ch 14) (h,ht) [p0] ns)]) w
noncomputable def KB(hx:vs[i]?=some (.int x t))(hn:decide (x<0)=true)(hr:((T h).cps.toList != (T [47]).cps.toList)=true)(lfs:List Pt)(h1:1<=lfs.length)(hd:∀p∈lfs,d7 p.1 (cK p.1))(hll:lfs.length<=9000)(hvl:(vT lfs).length<=9000)(hs:vT (bG h lfs)=[.str (T p0.1) p0.2,.str (T p1.1) p1.2])(hk:([.str (T p0.1) p0.2,.str (T p1.1) p1.2]:List Value).length=2)(a0:lk (ac ns) h=none)(az:(ac ns).length<=10000)(ap:∀p∈([p0,p1]:List Pt),∃d∈ns,d.nm=p.1)(al:∀d∈ns,d.sc.length+([p0,p1]:List Pt).length<=10000)(hq:(vT ps)[(-x-Int.ofNat 1).toNat]?=some (.str (T q.1) q.2))(h0:0<= -x-Int.ofNat 1)(hf:Builtin.List.listFitsIndex (-x-Int.ofNat 1)=true)(hj:dJ h q.1 h2)(hp:jy h2 h3)(w:World):=
 aT (mT) 110 (λP=>aG cr it (cD (cu ca) loc))
 (λP=>[(it,aI rw i),(rw,oL vs n1),(pc,oL (vT ps) n2),(loc,frm P kj kk [.ref rw,.ref pc,.ref lf,.ref so,xv] 5),(ca,aQ (.str (T h) ht)),(lf,oL (vT lfs) n3),(so,oI 484 sd),(sd,aD P sN k [.ref (n0+ab),.none,.int 0 pv,.int 0 nt] 4),(n0+ab,oD (eS P (ac ns)) n)]) (λP=>[ag ns])
 0x92440440441c71c208408220104824104424a28a28810e08139210241145110f08a08a28824204204104c04b2c104104104b0810412c8109108208105 (λw=>[cH 0 1 hx,bE hn,rF 0 [] [] λhh=>c9 (T h) (T [47]) ht (nZ hh 4) true hr,rT 60 [10,5,12,11,4] [] λhh=>qe (aZ hh 8) lf loc ca (aZ hh 10) (aZ hh 9) n3 h ht lfs [.str (T p0.1) p0.2,.str (T p1.1) p1.2] 2 h1 hd hll hs hk w,rF 0 [13,11] [] λhh=>gP (aZ hh 12) (aZ hh 9) [] [.str (T p0.1) p0.2,.str (T p1.1) p1.2] 0 2 (by simp),rT 70 [6,7,8] [0] λhh=>xb so sd (n0+ab) k pv nt 0 0 n h ht p0 p1 ns a0 az ap al w,dF 5 (vs:=(vT lfs)) (by omega),rF 0 [] [] λhh=>gm x t hn,b6 2 h0 hf hq,rT 30 [] [] λhh=>eD h q.1 h2 ht q.2 hj w,rT 60 [] [] λhh=>gQ h2 h3 (nZ hh 20) hp w])
 [0,1,2,3,4,5,6,7,8] [0] (λP ch=>.ok (.again (aG cr it (cD (cu ca) loc)))) (λP ch=>[(it,aI rw (i+1)),(rw,oL vs n1),(pc,oL (vT ps) n2),(loc,frm P kj kk [.ref rw,.ref pc,.ref lf,.ref so,.int x t] 5),(ca,aQ (.str (T h3) (nZ ch 21))),(lf,oL ((vT lfs)++[.str (T h) ht]) (n3+1)),(so,oI 484 sd),(sd,aD P sN k [.ref (n0+ab),.none,.int 0 pv,.int 0 nt] 4),(n0+ab,oD (eS P (ac (bw (ch 14) (h,ht) [p0,p1] ns))) (n+1))]) (λP ch=>[ag (bw (ch 14) (h,ht) [p0,p1] ns)]) w
noncomputable def KC(p2:Pt)(x:Int)(t ht pv nt:Tok)(h h2 h3:List Nat)(q:Pt)(ns:List Nd)(hx:vs[i]?=some (.int x t))(hn:decide (x<0)=true)(hr:((T h).cps.toList != (T [47]).cps.toList)=true)(lfs:List Pt)(h1:1<=lfs.length)(hd:∀p∈lfs,d7 p.1 (cK p.1))(hll:lfs.length<=9000)(hvl:(vT lfs).length<=9000)(hs:vT (bG h lfs)=[.str (T p0.1) p0.2,.str (T p1.1) p1.2,.str (T p2.1) p2.2])(hk:([.str (T p0.1) p0.2,.str (T p1.1) p1.2,.str (T p2.1) p2.2]:List Value).length=3)(a0:lk (ac ns) h=none)(az:(ac ns).length<=10000)(ap:∀p∈([p0,p1,p2]:List Pt),∃d∈ns,d.nm=p.1)(al:∀d∈ns,d.sc.length+([p0,p1,p2]:List Pt).length<=10000)(hq:(vT ps)[(-x-Int.ofNat 1).toNat]?=some (.str (T q.1) q.2))(h0:0<= -x-Int.ofNat 1)(hf:Builtin.List.listFitsIndex (-x-Int.ofNat 1)=true)(hj:dJ h q.1 h2)(hp:jy h2 h3)(w:World):=
 aT (mT) 110 (λP=>aG cr it (cD (cu ca) loc))
 (λP=>[(it,aI rw i),(rw,oL vs n1),(pc,oL (vT ps) n2),(loc,frm P kj kk [.ref rw,.ref pc,.ref lf,.ref so,xv] 5),(ca,aQ (.str (T h) ht)),(lf,oL (vT lfs) n3),(so,oI 484 sd),(sd,aD P sN k [.ref (n0+ab),.none,.int 0 pv,.int 0 nt] 4),(n0+ab,oD (eS P (ac ns)) n)]) (λP=>[ag ns])
 0x92440440441c71c208408220104824104424a28a28810e08139210241145110f08a08a28824204204104c04b2c104104104b0810412c8109108208105 (λw=>[cH 0 1 hx,bE hn,rF 0 [] [] λhh=>c9 (T h) (T [47]) ht (nZ hh 4) true hr,rT 60 [10,5,12,11,4] [] λhh=>qe (aZ hh 8) lf loc ca (aZ hh 10) (aZ hh 9) n3 h ht lfs [.str (T p0.1) p0.2,.str (T p1.1) p1.2,.str (T p2.1) p2.2] 3 h1 hd hll hs hk w,rF 0 [13,11] [] λhh=>gP (aZ hh 12) (aZ hh 9) [] [.str (T p0.1) p0.2,.str (T p1.1) p1.2,.str (T p2.1) p2.2] 0 3 (by simp),rT 70 [6,7,8] [0] λhh=>xc so sd (n0+ab) k pv nt 0 0 n h ht p0 p1 p2 ns a0 az ap al w,dF 5 (vs:=(vT lfs)) (by omega),rF 0 [] [] λhh=>gm x t hn,b6 2 h0 hf hq,rT 30 [] [] λhh=>eD h q.1 h2 ht q.2 hj w,rT 60 [] [] λhh=>gQ h2 h3 (nZ hh 20) hp w])
 [0,1,2,3,4,5,6,7,8] [0] (λP ch=>.ok (.again (aG cr it (cD (cu ca) loc)))) (λP ch=>[(it,aI rw (i+1)),(rw,oL vs n1),(pc,oL (vT ps) n2),(loc,frm P kj kk [.ref rw,.ref pc,.ref lf,.ref so,.int x t] 5),(ca,aQ (.str (T h3) (nZ ch 21))),(lf,oL ((vT lfs)++[.str (T h) ht]) (n3+1)),(so,oI 484 sd),(sd,aD P sN k [.ref (n0+ab),.none,.int 0 pv,.int 0 nt] 4),(n0+ab,oD (eS P (ac (bw (ch 14) (h,ht) [p0,p1,p2] ns))) (n+1))]) (λP ch=>[ag (bw (ch 14) (h,ht) [p0,p1,p2] ns)]) w
noncomputable def Ky(hx:vs[i]?=some (.int x t))(hn:decide (x<0)=false)(hq:(vT ps)[(x-Int.ofNat 1).toNat]?=some (.str (T q.1) q.2))(h0:0<=x-Int.ofNat 1)(hf:Builtin.List.listFitsIndex (x-Int.ofNat 1)=true)(hj:dJ h q.1 h2)(hp:jy h2 h3)(w:World):=
 aT (mT) 100 (λP=>aG cr it (cD (cu ca) loc))
 (λP=>[(it,aI rw i),(rw,oL vs n1),(pc,oL (vT ps) n2),(loc,frm P kj kk [.ref rw,.ref pc,.ref lf,.ref so] 4),(ca,aQ (.str (T h) ht))]) (λP=>[])
 0x2491011011071c7082102088041209041108208105 (λw=>[cH 0 1 hx,bE hn,rF 0 [] [] λhh=>oP x t hn,b6 2 h0 hf hq,rT 30 [] [] λhh=>eD h q.1 h2 ht q.2 hj w,rT 60 [] [] λhh=>gQ h2 h3 (nZ hh 8) hp w])
 [0,1,2,3,4] [] (λP ch=>.ok (.again (aG cr it (cD (cu ca) loc)))) (λP ch=>[(it,aI rw (i+1)),(rw,oL vs n1),(pc,oL (vT ps) n2),(loc,frm P kj (kx kk 4 [nZ ch 1]) [.ref rw,.ref pc,.ref lf,.ref so,.int x t] 5),(ca,aQ (.str (T h3) (nZ ch 9)))]) (λP ch=>[]) w
noncomputable def gE(hx:vs[i]?=none)(w:World):=
 cY (mT) 100 (λP=>aG cr it (cD (cu ca) loc))
 (λP=>[(it,aI rw i),(rw,oL vs n1)]) (λP=>[])
 35668290 (λw=>[nq 0 1 hx])
 [0,1] [] (λP ch=>(.ok .next)) (λP ch=>[(it,ar i),(rw,oL vs n1)]) (λP ch=>[]) w
end
end
section
section
variable{w:World}{hb:Md}{lv:Nat}{c:Code}{M F:ah}{Q:Result->ah->Prop}
theorem bH.st{l:Nat}{f:Ch->ah}(h:bH w hb l c M λr N=>∃ch,r=.ok (.again c)/\N=f ch)(e:l<=lv)(k:∀ch,ak w hb lv c (f ch++F) Q):ak w hb lv c (M++F) Q:=λMt os G A s R hA C H=>
 h.frame F Mt os G A s R (hA.mono e) C λr N s' q C'=>by
  obtain⟨N',⟨ch,rfl,rfl⟩,rfl⟩:=q;exact k ch Mt os G A s' R hA C' H
theorem bH.st0{l:Nat}{f:Ch->ah}(h:bH w hb l c M λr N=>∃ch,r=.ok (.again c)/\N=f ch)(e:l<=lv)(k:∀ch,ak w hb lv c (f ch) Q):ak w hb lv c M Q:=λMt os G A s R hA C H=>
 h Mt os G A s R (hA.mono e) C λr N s' q C'=>by
  obtain⟨ch,rfl,rfl⟩:=q;exact k ch Mt os G A s' R hA C' H
theorem ak.st{l:Nat}{o:Ch->Result}{f:Ch->ah}(h:ak w hb l c M λr N=>∃ch,r=o ch/\N=f ch)(e:l<=lv)(k:∀ch,Q (o ch) (f ch++F)):ak w hb lv c (M++F) Q:=λMt os G A s R hA C H=>
 h.frame F Mt os G A s R (hA.mono e) C λr N s' q C'=>by
  obtain⟨N',⟨ch,rfl,rfl⟩,rfl⟩:=q;exact H _ _ _ (k ch) C'
end
end
section
open Classical in
noncomputable def iv{σ:Type}(p:σ->Prop)(d:σ)(u:U):σ:=if p (u.u σ d)then u.u σ d else d
theorem fv{σ:Type}{p:σ->Prop}{d:σ}(hd:p d)(u:U):p (iv p d u):=by
 unfold iv;split
 .assumption
 .exact hd
theorem va{σ:Type}{p:σ->Prop}(d:σ){s:σ}(hs:p s)(n:Nat->Nat):∃u,u.n=n/\iv p d u=s:=by
 obtain⟨u,e,hu⟩:=n9 s n;refine⟨u,e,?_⟩;unfold iv;rw[hu,if_pos hs]
theorem fS{σ:Type}{p:σ->Prop}(d:σ){s:σ}(hs:p s):∃u,iv p d u=s:=by
 obtain⟨u,_,hu⟩:=n9 s (λ_=>0);refine⟨u,?_⟩;unfold iv;rw[hu,if_pos hs]
section
variable{τ:Type}
noncomputable abbrev CU(τ:Type):=List (τ×Tok)×Nat×Tok×Value
noncomputable def bh(spec:List τ)(u:U):CU τ:=iv (λs:CU τ=>s.1.map (·.1)=spec) (spec.map (λx=>(x,0)),0,0,.none) u
theorem Al(spec:List τ)(s:CU τ)(hs:s.1.map (·.1)=spec)(n:Nat->Nat):∃u,u.n=n/\bh spec u=s:=va (p:=λs:CU τ=>s.1.map (·.1)=spec) _ hs n
theorem cO(spec:List τ)(u:U):(bh spec u).1.map (·.1)=spec:=fv (p:=λs:CU τ=>s.1.map (·.1)=spec) (by rw[MA];exact Od _) u
noncomputable def sH(P:Params)(ls:List (List Nat))(f:Bool)(o:Obj):Prop:=match f with
 |true=>o=oD [] 0
 |false=>et λt z=>o=aD P ls (kl [t]) [z] 1
noncomputable def dH(val:List (τ×Tok)->List Value)(P:Params)(spec:List τ)(e:Expr)(it cl acc:Addr)(env:Env)(ls:List (List Nat))(F:ah)(i0 iE:Obj):Tr:=
 ⟨[],λ_=>[],λ_=>[],yU e it acc env,(it,i0)::(cl,oD [] 0)::(acc,oL [] 0)::F,λ_=>.ok .next,λu=>iE::aD P ls (kl [(bh spec u).2.2.1]) [(bh spec u).2.2.2] 1::oL (val (bh spec u).1) (bh spec u).2.1::F.map (·.2),λ_=>[]⟩
noncomputable def mc(e:Expr)(it cl acc:Addr)(env:Env)(i0 iE:Obj):Tr:=
 ⟨[],λ_=>[],λ_=>[],yU e it acc env,[(it,i0)],λ_=>.ok .next,λu=>[iE],λ_=>[]⟩
theorem gz:∀F:ah,dG F (F.map (·.2))=F
 |[]=>rfl
 |p::F=>by
  show(p.1,p.2)::dG F (F.map (·.2))=_;rw[gz F]
noncomputable def oO(io:Obj):Prop:=(et λl i=>io=aI l i)\/(et λv left=>io=aY v left)\/(iJ λd i sz n=>io=kR d i sz n)\/(et λl i=>io=eU l i)
variable{w:World}{hb:Md}{lv:Nat}{e:Expr}{it cl acc:Addr}{env:Env}{ls:List (List Nat)}{F:ah}{io:Nat->Obj}{iE:Obj}{n:Nat}{el:Nat->List τ}{f:τ×Tok->Value}
noncomputable def iz(P:Params)(e:Expr)(it cl acc:Addr)(env:Env)(ls:List (List Nat))(F:ah)(f:τ×Tok->Value)(i':Obj)(xs:List τ)(vs:List Value)(r:Except Value Fin)(N:ah):Prop:=
 gc λ(o':Obj) (as:List (τ×Tok)) (m':Nat)=>r=.ok (.again (eF e it acc env))/\sH P ls false o'/\as.map (·.1)=xs/\N=(it,i')::(cl,o')::(acc,oL (vs++as.map f) m')::F
theorem mA{P:Params}{i' o':Obj}{vs:List Value}{r:Except Value Fin}{N:ah}{m:Nat}(e1:r=.ok (.again (eF e it acc env)))(e2:N=(it,i')::(cl,o')::(acc,oL vs m)::F)(ho:sH P ls false o'):iz P e it cl acc env ls F f i' [] vs r N:=
 ⟨o',[],m,e1,ho,rfl,by rw[e2,Na,Mq]⟩
theorem kD{P:Params}{i' o':Obj}{vs:List Value}{r:Except Value Fin}{N:ah}{m:Nat}{x:τ}{t:Tok}(e1:r=.ok (.again (eF e it acc env)))(e2:N=(it,i')::(cl,o')::(acc,oL (vs++[f (x,t)]) m)::F)(ho:sH P ls false o'):iz P e it cl acc env ls F f i' [x] vs r N:=
 ⟨o',[(x,t)],m,e1,ho,rfl,e2⟩
theorem Dt(turn:∀i b o vs m,i<n->sH w.params ls b o->vs.length<=5000->bH w hb lv (eF e it acc env) ((it,io i)::(cl,o)::(acc,oL vs m)::F) (iz w.params e it cl acc env ls F f (io (i+1)) (el i) vs))
  (fin:∀o vs m,ak w hb lv (eF e it acc env) ((it,io n)::(cl,o)::(acc,oL vs m)::F) λr N=>r=.ok .next/\N=(it,iE)::(cl,o)::(acc,oL vs m)::F) (hlen:∀i≤n,((List.range i).flatMap el).length<=5000):
  ∀k i,i+k=n->∀b o m (as:List (τ×Tok)),sH w.params ls b o->(i=0->b=true)->(b=true->i=0)->as.map (·.1)=(List.range i).flatMap el->
  ak w hb lv (eF e it acc env) ((it,io i)::(cl,o)::(acc,oL (as.map f) m)::F) λr N=>r=.ok .next/\iJ λ(b:Bool) (o:Obj) (as:List (τ×Tok)) (m:Nat)=>sH w.params ls b o/\(n=0->b=true)/\(b=true->n=0)/\as.map (·.1)=(List.range n).flatMap el/\N=(it,iE)::(cl,o)::(acc,oL (as.map f) m)::F:=by
 intro k
 induction k with
 |zero=>
  intro i hi b o m as ho h1 h2 ha;rw[Nat.add_zero]at hi;subst hi;exact(fin o _ m).mono λr N h=>⟨N,⟨h.1,b,o,as,m,ho,h1,h2,ha,h.2⟩,.refl _⟩
 |succ k ih=>
  intro i hi b o m as ho h1 h2 ha;refine(turn i b o (as.map f) m (by omega) ho (by rw[Mc,<-Mc (f:=(·.1)),ha];exact hlen i (by omega))).runs ?_;rintro r N ⟨o',as',m',rfl,ho',ha',rfl⟩;rw[<-Mi];refine ih (i+1) (by omega) false o' m' (as++as') ho' (λh=>by omega) (λh=>by cases h) ?_;rw[Mi,ha,ha',Oe,Of];simp
theorem oC(he:mS e=true)(hi:oO (io 0))(hn:1<=n)(turn:∀i b o vs m,i<n->sH w.params ls b o->vs.length<=5000->bH w hb lv (eF e it acc env) ((it,io i)::(cl,o)::(acc,oL vs m)::F) (iz w.params e it cl acc env ls F f (io (i+1)) (el i) vs))
  (fin:∀o vs m,ak w hb lv (eF e it acc env) ((it,io n)::(cl,o)::(acc,oL vs m)::F) λr N=>r=.ok .next/\N=(it,iE)::(cl,o)::(acc,oL vs m)::F) (hlen:∀i≤n,((List.range i).flatMap el).length<=5000) {spec:List τ} (hs:(List.range n).flatMap el=spec):
  af w hb lv (dH (List.map f) w.params spec e it cl acc env ls F (io 0) iE):=by
 refine ak.tri (t:=dH (List.map f) w.params spec e it cl acc env ls F (io 0) iE) (λ_=>⟨by simp[dH],rfl⟩) (eP (io:=io 0) he (Dt turn fin hlen n 0 (by omega) true (oD [] 0) 0 [] rfl (λ_=>rfl) (λ_=>rfl) rfl) (by rw[cf];exact MI _ (.head _)) hi) ?_;rintro r N ⟨rfl,b,o,as,m,ho,h1,h2,ha,rfl⟩;cases b with
 |true=>have:=h2 rfl;omega
 |false=>
  obtain⟨t,z,rfl⟩:=ho;obtain⟨u,hu⟩:=fS (p:=λs:CU τ=>s.1.map (·.1)=spec) (spec.map (λx=>(x,0)),0,0,.none) (s:=(as,m,t,z)) (ha.trans hs);refine⟨u,rfl,?_⟩;have hu':bh spec u=(as,m,t,z):=hu;simp only[dH,hu',bO,bP,Mq,gz];exact .refl _
theorem wQ{i0:Obj}(he:mS e=true)(hi:oO i0)(fin:ak w hb lv (eF e it acc env) [(it,i0)] λr N=>r=.ok .next/\N=[(it,iE)]):af w hb lv (mc e it cl acc env i0 iE):=by
 refine ak.tri (t:=mc e it cl acc env i0 iE) (λ_=>⟨rfl,rfl⟩) (eP (io:=i0) he fin (by rw[cf];exact .head _) hi) ?_;rintro r N ⟨rfl,rfl⟩;exact⟨u0,rfl,.refl _⟩
theorem bH.toE{Q':Except Value Fin->ah->Prop}{c:Code}{M:ah}{l:Nat}{o1:Ch->Except Value Fin}{g:Ch->ah}(h:bH w hb l c M λr N=>∃ch,r=o1 ch/\N=g ch)(e:l<=lv)(i:∀ch,Q' (o1 ch) (g ch)):bH w hb lv c M Q':=λMt os G A s R hA C H=>h Mt os G A s R (hA.mono e) C λr N s' q=>by
 obtain⟨ch,rfl,rfl⟩:=q;exact H _ _ s' (i ch)
theorem bH.to{Q Q':Except Value Fin->ah->Prop}{c:Code}{M:ah}{l:Nat}(h:bH w hb l c M Q)(e:l<=lv)(i:∀r N,Q r N->Q' r N):bH w hb lv c M Q':=λMt os G A s R hA C H=>h Mt os G A s R (hA.mono e) C λr N s' q=>H r N s' (i r N q)
end
theorem kH{i:Int}(h0:0<=i)(h1:i<=100):Builtin.List.listFitsIndex i=true:=by
 unfold Builtin.List.listFitsIndex;simp;omega
theorem mJ{i:Nat}(h:i<=100):Builtin.List.listFitsIndex (i:Int)=true:=kH (MS i) (by omega)
end
section
theorem kS{P:Params}{ls:List (List Nat)}{b:Bool}{o:Obj}(h:sH P ls b o):o=oD [] 0\/et λt z=>o=aD P ls (kl [t]) [z] 1:=by
 cases b with
 |true=>exact .inl h
 |false=>exact .inr h
theorem eR{τ:Type}{el:Nat->List τ}(h:∀i,(el i).length<=1):∀n,((List.range n).flatMap el).length<=n
 |0=>by simp
 |n+1=>by
  rw[Oe,Of,Mn];have h1:=eR h n;have h2:=h n;rw[List.flatMap_singleton];omega
noncomputable def fL(e:Expr)(it cl acc:Addr)(env:Env)(F:ah)(i0 iE:Obj):Tr:=
 ⟨[],λ_=>[],λ_=>[],yU e it acc env,(it,i0)::F,λ_=>.ok .next,λu=>iE::F.map (·.2),λ_=>[]⟩
theorem wR{w:World}{hb:Md}{lv:Nat}{e:Expr}{it cl acc:Addr}{env:Env}{F:ah}{i0 iE:Obj}(he:mS e=true)(hi:oO i0)(fin:ak w hb lv (eF e it acc env) ((it,i0)::F) λr N=>r=.ok .next/\N=(it,iE)::F):af w hb lv (fL e it cl acc env F i0 iE):=by
 refine ak.tri (t:=fL e it cl acc env F i0 iE) (λ_=>⟨by simp[fL],rfl⟩) (eP (io:=i0) he fin (by rw[cf];exact MI _ (.head _)) hi) ?_;rintro r N ⟨rfl,rfl⟩;refine⟨u0,rfl,?_⟩;simp only[fL,bO,bP,Mq,gz];exact .refl _
noncomputable abbrev yS(lv:Nat)(c:Code)(M:Params->ah)(n:Nat)(rs:∀w:World,List (RP w))(sel:List Nat)(o2:Params->Ch->ah):Prop:=
 (RB.L (xT hT mT lv (λ_=>c) M (λ_=>[]) n (λw _=>rs w) sel []) true,RB.L (xT hT mT lv (λ_=>c) M (λ_=>[]) n (λw _=>rs w) sel []) false)=(RB.R (xT hT mT lv (λ_=>c) M (λ_=>[]) n (λw _=>rs w) sel []) (oU (λ_ _=>.ok (.again c)) o2 (λ_ _=>[])) true,RB.R (xT hT mT lv (λ_=>c) M (λ_=>[]) n (λw _=>rs w) sel []) (oU (λ_ _=>.ok (.again c)) o2 (λ_ _=>[])) false)
theorem yS.use{lv:Nat}{c:Code}{M:Params->ah}{n:Nat}{rs:∀w:World,List (RP w)}{sel:List Nat}{o2:Params->Ch->ah}(h:yS lv c M n rs sel o2)(w:World):bH w mT lv c (M w.params) λr N=>∃ch,r=.ok (.again c)/\N=o2 w.params ch:=
 aT mT lv (λ_=>c) M (λ_=>[]) n rs sel [] (λ_ _=>.ok (.again c)) o2 (λ_ _=>[]) w (congrArg Prod.fst h) (congrArg Prod.snd h)
noncomputable abbrev An(c:Code)(M:Params->ah)(n:Nat)(rs:∀w:World,List (RP w))(sel:List Nat)(o2:Params->Ch->ah):Prop:=
 (RB.L (xS hT mT 60 (λ_=>c) M (λ_=>[]) n (λw _=>rs w) sel []) true,RB.L (xS hT mT 60 (λ_=>c) M (λ_=>[]) n (λw _=>rs w) sel []) false)=(RB.R (xS hT mT 60 (λ_=>c) M (λ_=>[]) n (λw _=>rs w) sel []) (oU (λ_ _=>.ok .next) o2 (λ_ _=>[])) true,RB.R (xS hT mT 60 (λ_=>c) M (λ_=>[]) n (λw _=>rs w) sel []) (oU (λ_ _=>.ok .next) o2 (λ_ _=>[])) false)
theorem An.use{c:Code}{M:Params->ah}{n:Nat}{rs:∀w:World,List (RP w)}{sel:List Nat}{o2:Params->Ch->ah}(h:An c M n rs sel o2)(w:World):ak w mT 60 c (M w.params) λr N=>∃ch,r=.ok .next/\N=o2 w.params ch:=
 cY mT 60 (λ_=>c) M (λ_=>[]) n rs sel [] (λ_ _=>.ok .next) o2 (λ_ _=>[]) w (congrArg Prod.fst h) (congrArg Prod.snd h)
noncomputable abbrev Hq{α:Type}(hb:Md)(lv:Nat)(t:Params->Sem α)(M:Params->ah)(n:Nat)(rs:∀w:World,List (RP w))(sel:List Nat)(o1:Params->Ch->Except Value α)(o2:Params->Ch->ah):Prop:=
 (RB.L (xR hT hb lv t M (λ_=>[]) n (λw _=>rs w) sel []) true,RB.L (xR hT hb lv t M (λ_=>[]) n (λw _=>rs w) sel []) false)=(RB.R (xR hT hb lv t M (λ_=>[]) n (λw _=>rs w) sel []) (oU o1 o2 (λ_ _=>[])) true,RB.R (xR hT hb lv t M (λ_=>[]) n (λw _=>rs w) sel []) (oU o1 o2 (λ_ _=>[])) false)
theorem Hq.use{α:Type}{hb:Md}{lv:Nat}{t:Params->Sem α}{M:Params->ah}{n:Nat}{rs:∀w:World,List (RP w)}{sel:List Nat}{o1:Params->Ch->Except Value α}{o2:Params->Ch->ah}(h:Hq hb lv t M n rs sel o1 o2)(w:World):sP hb lv t M (λ_=>[]) o1 o2 (λ_ _=>[]) w:=
 aq hb lv t M (λ_=>[]) n rs sel [] o1 o2 (λ_ _=>[]) w (congrArg Prod.fst h) (congrArg Prod.snd h)
noncomputable abbrev Hp(hb:Md)(lv:Nat)(t:Params->Tr)(n:Nat)(rs:∀w:World,List (RP w))(sel zsel:List Nat)(xf:Ch->U):Prop:=
 (RB.L (xI hb lv t n rs sel zsel) true,RB.L (xI hb lv t n rs sel zsel) false)=(RB.R (xI hb lv t n rs sel zsel) (oT t xf) true,RB.R (xI hb lv t n rs sel zsel) (oT t xf) false)
theorem Hp.use{hb:Md}{lv:Nat}{t:Params->Tr}{n:Nat}{rs:∀w:World,List (RP w)}{sel zsel:List Nat}{xf:Ch->U}(h:Hp hb lv t n rs sel zsel xf)(w:World)(hl:(t w.params).lenOk):af w hb lv (t w.params):=
 cx hb lv t n rs sel zsel xf w hl (congrArg Prod.fst h) (congrArg Prod.snd h)
section
variable{τ:Type}{w:World}{e:Expr}{it cl acc:Addr}{env:Env}{ls:List (List Nat)}{F:ah}{f:τ×Tok->Value}
section
variable{i0 i1:Obj}{b:Bool}{o:Obj}{vs:List Value}{m:Nat}(n:Nat)(rs:∀w:World,List (RP w))(sel:List Nat)(X:Ch->Value)
theorem BQ(ho:sH w.params ls b o)(E0:yS 60 (eF e it acc env) (λP=>(it,i0)::(cl,oD [] 0)::(acc,oL vs m)::F) n rs sel λP ch=>(it,i1)::(cl,aD P ls (kl [nZ ch 1]) [X ch] 1)::(acc,oL vs m)::F)
  (E1:∀t z,yS 60 (eF e it acc env) (λP=>(it,i0)::(cl,aD P ls (kl [t]) [z] 1)::(acc,oL vs m)::F) n rs sel λP ch=>(it,i1)::(cl,aD P ls (kl [t]) [X ch] 1)::(acc,oL vs m)::F):
  bH w mT 60 (eF e it acc env) ((it,i0)::(cl,o)::(acc,oL vs m)::F) (iz w.params e it cl acc env ls F f i1 [] vs):=by
 rcases kS ho with rfl |⟨t,z,rfl⟩
 .exact(E0.use w).toE (Me _) λch=>mA rfl rfl ⟨_,_,rfl⟩
 .exact((E1 t z).use w).toE (Me _) λch=>mA rfl rfl ⟨_,_,rfl⟩
theorem gJ(ho:sH w.params ls b o){x:τ}(t:Ch->Tok)(E0:yS 60 (eF e it acc env) (λP=>(it,i0)::(cl,oD [] 0)::(acc,oL vs m)::F) n rs sel λP ch=>(it,i1)::(cl,aD P ls (kl [nZ ch 1]) [X ch] 1)::(acc,oL (vs++[f (x,t ch)]) (m+1))::F)
  (E1:∀t' z,yS 60 (eF e it acc env) (λP=>(it,i0)::(cl,aD P ls (kl [t']) [z] 1)::(acc,oL vs m)::F) n rs sel λP ch=>(it,i1)::(cl,aD P ls (kl [t']) [X ch] 1)::(acc,oL (vs++[f (x,t ch)]) (m+1))::F):
  bH w mT 60 (eF e it acc env) ((it,i0)::(cl,o)::(acc,oL vs m)::F) (iz w.params e it cl acc env ls F f i1 [x] vs):=by
 rcases kS ho with rfl |⟨t',z,rfl⟩
 .exact(E0.use w).toE (Me _) λch=>kD rfl rfl ⟨_,_,rfl⟩
 .exact((E1 t' z).use w).toE (Me _) λch=>kD rfl rfl ⟨_,_,rfl⟩
end
variable{k:Nat}{el:Nat->List τ}{spec:List τ}
theorem lm{left:Int}(he:mS e=true)(hl:left=(k:Int))(hz:1<=k)(hn:k<=100)(h1:∀i,(el i).length<=1)(hs:(List.range k).flatMap el=spec)
  (E:An (eF e it acc env) (λ_=>[(it,aY left 0)]) 1851714 (λw=>[EV 0 (k:=0) rfl]) [0] λ_ _=>[(it,aY left 0)])
  (turn:∀(i:Nat) b o vs m,i<k->sH w.params ls b o->vs.length<=10000->decide (left-i<=0)=false->0<=(i:Int)->Builtin.List.listFitsIndex (i:Int)=true->bH w mT 60 (eF e it acc env) ((it,aY i (left-i))::(cl,o)::(acc,oL vs m)::F) (iz w.params e it cl acc env ls F f (aY (i+1) (left-i-1)) (el i) vs)):
  af w mT 60 (dH (List.map f) w.params spec e it cl acc env ls F (aY 0 left) (aY left 0)):=by
 have key:=oC (w:=w) (hb:=mT) (lv:=60) (e:=e) (it:=it) (cl:=cl) (acc:=acc) (env:=env) (ls:=ls) (F:=F) (io:=λi=>aY (i:Int) (left-i)) (iE:=aY left 0) (n:=k) (el:=el) (f:=f) he (.inr (.inl ⟨_,_,rfl⟩)) hz ?_ ?_ (λi hi=>M4 (eR h1 i) (by omega)) hs
 .have e0:left-((0:Nat):Int)=left:=by simp
  simp only[e0]at key;exact key
 .intro i b o vs m hi ho hv;have ei:aY ((i:Int)+1) (left-i-1)=aY ((i+1:Nat):Int) (left-((i+1:Nat):Int)):=by
   rw[show left-(i:Int)-1=left-((i+1:Nat):Int)by omega];rfl
  rw[<-ei];exact turn i b o vs m hi ho (M4 hv (by decide)) (decide_eq_false (by rw[hl];omega)) (MS i) (mJ (by omega))
 .intro o vs m;have en:left-((k:Nat):Int)=0:=by rw[hl];omega
  rw[en,<-hl];exact(E.use w).st (F:=(cl,o)::(acc,oL vs m)::F) (Me _) λch=>⟨rfl,rfl⟩
theorem xO(a b c d:Addr×Obj)(F:ah):(a::d::b::c::F).Perm (a::b::c::d::F):=.cons _ (List.perm_middle (l₁:=[b,c])).symm
theorem ji{VS:List Value}{la:Addr}{n0:Nat}(he:mS e=true)(hk:VS.length=k)(hz:1<=k)(hn:k<=100)(h1:∀i,(el i).length<=1)(hs:(List.range k).flatMap el=spec)
  (E:∀hx:VS[k]?=none,An (eF e it acc env) (λ_=>[(it,aI la k),(la,oL VS n0)]) 2113858 (λw=>[nq 0 1 hx]) [0,1] λ_ _=>[(it,ar k),(la,oL VS n0)])
  (turn:∀(i:Nat) b o vs m,i<k->sH w.params ls b o->vs.length<=10000->bH w mT 60 (eF e it acc env) ((it,aI la i)::(cl,o)::(acc,oL vs m)::(la,oL VS n0)::F) (iz w.params e it cl acc env ls ((la,oL VS n0)::F) f (aI la (i+1)) (el i) vs)):
  af w mT 60 (dH (List.map f) w.params spec e it cl acc env ls ((la,oL VS n0)::F) (aI la 0) (ar k)):=
 oC (io:=λi=>aI la i) (el:=el) he (.inl ⟨_,_,rfl⟩) hz (λi b o vs m hi ho hv=>turn i b o vs m hi ho (M4 hv (by decide)))
  (λo vs m=>((((E (Nh (by omega))).use w).frame ((cl,o)::(acc,oL vs m)::F)).perm (xO _ _ _ _ F)).mono (fq λch=>⟨_,⟨rfl,rfl⟩,xO _ _ _ _ F⟩)) (λi hi=>M4 (eR h1 i) (by omega)) hs
theorem oB{la:Addr}{n0:Nat}(he:mS e=true)(E:An (eF e it acc env) (λ_=>[(it,aI la 0),(la,oL [] n0)]) 2113858 (λw=>[nq 0 1 (k:=0) (vs:=[]) rfl]) [0,1] λ_ _=>[(it,ar 0),(la,oL [] n0)]):
  af w mT 60 (fL e it cl acc env [(la,oL [] n0)] (aI la 0) (ar 0)):=
 wR he (.inl ⟨_,_,rfl⟩) ((E.use w).mono<|fr λch=>by
  exact⟨_,⟨rfl,rfl⟩,.refl _⟩)
theorem Ao(he:mS e=true)(E:An (eF e it acc env) (λ_=>[(it,aY 0 0)]) 1851714 (λw=>[EV 0 (k:=0) rfl]) [0] λ_ _=>[(it,aY 0 0)]):af w mT 60 (mc e it cl acc env (aY 0 0) (aY 0 0)):=
 wQ he (.inr (.inl ⟨_,_,rfl⟩)) ((E.use w).mono λr N h=>h.elim λch h=>⟨N,h,.refl _⟩)
end
end
noncomputable def aX(B:List Stmt)(e:Env):Sem Bool:=PySem.W.R.bindR (PySem.W.Fast.tw12563942051412417395 B e) λf=>match f with
 |.next=>.pure true
 |_=>.unsupported "trSeq"
noncomputable def di(t:Expr)(it:Value)(B:List Stmt)(e:Env):Sem Bool:=PySem.W.R.bindR (PySem.W.Fast.tw9404975358583537561 it) λr=>match r with
 |none=>.unsupported "trFor"
 |some v=>PySem.W.R.bindR (PySem.W.Fast.tw17772580674575903948 t e v) λ_=>aX B e
noncomputable def ml(t:Expr)(B:List Stmt)(e:Env):Sem Bool:=PySem.W.R.bindR (kB t e) λb=>match b with
 |true=>aX B e
 |false=>.unsupported "trWh"
noncomputable def dm(x:Expr)(e:Env):Sem Value:=PySem.W.Fast.tw14044960220447912780 x e
theorem mi(x:Expr)(e:Env):dm x e=eval x e:=by unfold dm;rw[<-O2]
noncomputable abbrev E0:Value->Shared->Prop:=λ_ _=>False
noncomputable def EM:Flow->Sem Bool
 |.next=>.pure true
 |_=>.unsupported "trSeq"
theorem hH(B:List Stmt)(e:Env):aX B e=(execs B e).bind EM:=by
 unfold aX;rw[<-N0,<-NW];congr 1
section
variable{M:PySem.Model}{A:Around}{s:Shared}{E:Value->Shared->Prop}
theorem k4{B:List Stmt}{e:Env}{K:Shared->Prop}(h:wpAny M A (aX B e) (λ_ s'=>K s') E0 s):wpAny M A (execs B e) (λf s'=>f=.next/\K s') E s:=λΓ p hΓ=>by
 have:=h Γ p hΓ;rw[hH,Nv]at this;refine Nw M Γ _ (λf p' s' h'=>?_) (λ_ _ _ (h':False)=>h'.elim) _ _ this;cases f with
 |next=>exact⟨rfl,h'⟩
 |_=>exact(show False from h').elim
theorem dS(B2:List Stmt)(e:Env):∀B1,execs (B1++B2) e=(execs B1 e).bind λf=>match f with |.next=>execs B2 e |f=>.pure f
 |[]=>rfl
 |st::r=>by
  show((exec st e).bind λf=>match f with |.next=>execs (r++B2) e |f=>.pure f)=((exec st e).bind λf=>match f with |.next=>execs r e |f=>.pure f).bind _;rw[Sem.bind_assoc];congr 1;funext f;cases f with
  |next=>exact dS B2 e r
  |_=>rfl
theorem kF{B1 B2:List Stmt}{e:Env}{Q:Flow->Shared->Prop}(h:wpAny M A (aX B1 e) (λ_ s'=>wpAny M A (execs B2 e) Q E s') E0 s):wpAny M A (execs (B1++B2) e) Q E s:=by
 rw[dS];refine on (M6 (k4 h) (λf s' h'=>?_) λ_ _ x=>x);obtain⟨rfl,h'⟩:=h';exact h'
end
section
variable{prog:Program}{w:World}{A:Around}{R:Result->Shared->Prop}{s:Shared}
theorem oH{B1 B2:List Stmt}{e:Env}(h:wpAny (model prog w) (A.deeper e) (aX B1 e) (λ_ s'=>wpAny (model prog w) (A.deeper e) (execs B2 e) (λf s'=>R (.ok (.ret (match f with |.ret v=>v |_=>.none))) s') E0 s') E0 s):codeAny (model prog w) A (.func (B1++B2) e) R s:=
 codeAny_func (kF (M6 h (λ_ s' h'=>M6 h' (λ_ _ x=>x) λ_ _ x=>x.elim) λ_ _ x=>x))
theorem rz{t:Expr}{it:Value}{B1 B2 orelse:List Stmt}{e:Env}(ht:∀v,letOwnedTupleGo t it v=pure ())
  (h:wpAny (model prog w) A (di t it B1 e) (λ_ s'=>wpAny (model prog w) A (execs B2 e) (λf MD=>match f with
   |.next |.cont=>codeAny (model prog w) A (.forLoop t it (B1++B2) orelse e) R MD
   |.brk=>R (.ok .next) MD
   |.ret v=>R (.ok (.ret v)) MD) E0 s') E0 s):codeAny (model prog w) A (.forLoop t it (B1++B2) orelse e) R s:=by
 refine ND ?_;rw[NC (show(Code.forLoop t it (B1++B2) orelse e).weight=0 from rfl)];show wpAny _ A ((forTurn t it (B1++B2) orelse e).onRaise (λx=>do noteFrame x e;theTreesLotGoes x)) _ _ s;refine ON ?_;intro Γ p hΓ;have h:=λp=>h Γ p hΓ
 simp only[forTurn,NT,Sem.wp_cmd_standAt,Sem.wp_onRaise];have h1:=h t.pos;unfold di at h1;rw[<-N0,Nv,<-PySem.W.Fast.te9404975358583537561]at h1;refine Nw _ Γ _ (λr NL MQ MG=>?_) (λ_ _ _ (h':False)=>h'.elim) _ _ h1;cases r with
 |none=>exact(show False from MG).elim
 |some v=>
  have MG:Sem.wp _ Γ ((PySem.W.Fast.tw17772580674575903948 t e v).bind λ_=>aX B1 e) _ _ NL MQ:=MG;rw[Nv,<-O3]at MG;show Sem.wp _ Γ (letOwnedTupleGo t it v>>=λ_=>assign t e v>>=λ_=>execs (B1++B2) e>>=_) _ _ NL MQ;rw[ht v];show Sem.wp _ Γ (assign t e v>>=λ_=>execs (B1++B2) e>>=_) _ _ NL MQ;rw[NT];refine Nw _ Γ _ (λ_ On NG Ni=>?_) (λ_ _ _ (h':False)=>h'.elim) _ _ MG;rw[NT,dS,Nv];rw[hH,Nv]at Ni;refine Nw _ Γ _ (λf NP MD MP=>?_) (λ_ _ _ (h':False)=>h'.elim) _ _ Ni;cases f with
  |next=>
   have MP:wpAny (model prog w) A (execs B2 e) _ E0 MD:=MP;refine Nw _ Γ _ (λf Rb Rc Nj=>?_) (λ_ _ _ (h':False)=>h'.elim) _ _ (MP Γ NP hΓ);cases f with
   |next=>exact⟨rfl,Nj⟩
   |cont=>exact⟨rfl,Nj⟩
   |brk=>exact Nj
   |ret v=>exact Nj
  |_=>exact(show False from MP).elim
theorem od{t:Expr}{B1 B2 orelse:List Stmt}{e:Env}
  (h:wpAny (model prog w) A (ml t B1 e) (λ_ s'=>wpAny (model prog w) A (execs B2 e) (λf MD=>match f with
   |.next |.cont=>codeAny (model prog w) A (.whileLoop t (B1++B2) orelse e) R MD
   |.brk=>R (.ok .next) MD
   |.ret v=>R (.ok (.ret v)) MD) E0 s') E0 s):codeAny (model prog w) A (.whileLoop t (B1++B2) orelse e) R s:=by
 refine ND ?_;rw[NC (show(Code.whileLoop t (B1++B2) orelse e).weight=0 from rfl)];show wpAny _ A ((whileTurn t (B1++B2) orelse e).onRaise (λx=>do noteFrame x e;theTreesLotGoes x)) _ _ s;refine ON ?_;intro Γ p hΓ;have h1:=h Γ p hΓ;unfold ml at h1;rw[<-N0,Nv,ja]at h1;simp only[whileTurn,NT];refine Nw _ Γ _ (λb NL MQ MG=>?_) (λ_ _ _ (h':False)=>h'.elim) _ _ h1;cases b with
 |false=>exact(show False from MG).elim
 |true=>
  simp only[if_true];show Sem.wp _ Γ (execs (B1++B2) e>>=_) _ _ NL MQ;have Ni:Sem.wp _ Γ (aX B1 e) _ _ NL MQ:=MG;rw[NT,dS,Nv];rw[hH,Nv]at Ni;refine Nw _ Γ _ (λf NP MD MP=>?_) (λ_ _ _ (h':False)=>h'.elim) _ _ Ni;cases f with
  |next=>
   have MP:wpAny (model prog w) A (execs B2 e) _ E0 MD:=MP;refine Nw _ Γ _ (λf Rb Rc Nj=>?_) (λ_ _ _ (h':False)=>h'.elim) _ _ (MP Γ NP hΓ);cases f with
   |next=>exact⟨rfl,Nj⟩
   |cont=>exact⟨rfl,Nj⟩
   |brk=>exact Nj
   |ret v=>exact Nj
  |_=>exact(show False from MP).elim
end
noncomputable def TR{α:Type}(w:World)(hb:Md)(lv:Nat)(t:Sem α)(M:ah)(Q:α->ah->Prop):Prop:=∀Mt os,Gr w Mt->∀A s (S:α->Shared->Prop),b0 hb lv A->am Mt os M s->
 (∀a N s',Q a N->am Mt os N s'->S a s')->wpAny (model pw w) A t S E0 s
section
variable{w:World}{hb:Md}{lv:Nat}{M F:ah}
theorem ck.tr{α:Type}{t:Sem α}{l:Nat}{o:Ch->Except Value α}{o':Ch->α}{g:Ch->ah}(h:ck w hb l t M λr N=>∃ch,r=o ch/\N=g ch)(e:l<=lv)(ho:∀ch,o ch=.ok (o' ch)):TR w hb lv t (M++F) λa N=>∃ch,a=o' ch/\N=g ch++F:=λMt os G A s S hA C H=>
 (h.frame F) Mt os G A s S E0 (hA.mono e) C λr N s' q C'=>by
  obtain⟨N',⟨ch,rfl,rfl⟩,rfl⟩:=q;rw[ho];exact H _ _ s' ⟨ch,rfl,rfl⟩ C'
theorem TR.perm{α:Type}{t:Sem α}{M':ah}{Q:α->ah->Prop}(h:TR w hb lv t M Q)(p:M.Perm M'):TR w hb lv t M' Q:=λMt os G A s S hA C H=>h Mt os G A s S hA (C.perm p.symm) H
theorem TR.mono{α:Type}{t:Sem α}{Q Q':α->ah->Prop}(h:TR w hb lv t M Q)(i:∀a N,Q a N->Mo (Q' a) N):TR w hb lv t M Q':=λMt os G A s S hA C H=>
 h Mt os G A s S hA C λa N s' q C'=>let⟨N',q',p⟩:=i a N q;H a N' s' q' (C'.perm p)
theorem TR.seq{B1 B2:List Stmt}{e:Env}{Q1:Bool->ah->Prop}{Q:Flow->ah->Prop}(h:TR w hb lv (aX B1 e) M Q1)(k:∀a N,Q1 a N->TR w hb lv (execs B2 e) N Q):TR w hb lv (execs (B1++B2) e) M Q:=λMt os G A s S hA C H=>
 kF (h Mt os G A s _ hA C λa N s' q C'=>k a N q Mt os G A s' S hA C' H)
theorem TR.seq1{B:List Stmt}{e:Env}{Q:Flow->ah->Prop}(h:TR w hb lv (aX B e) M λ_ N=>Q .next N):TR w hb lv (execs B e) M Q:=λMt os G A s S hA C H=>
 M6 (k4 (h Mt os G A s (λ_ s'=>S .next s') hA C λa N s' q C'=>H _ _ s' q C')) (λf s' h'=>by
  obtain⟨rfl,h'⟩:=h';exact h') λ_ _ x=>x
theorem TR.ex{B:List Stmt}{e:Env}{Q:Flow->ah->Prop}(h:TR w hb lv (kd B e) M Q):TR w hb lv (execs B e) M Q:=by
 rw[<-mj];exact h
noncomputable def iw(N:ah)(a:Value)(d:PyData):Prop:=∀Mt os s,am Mt os N s->∃as,Reads s.heap a d as
theorem TR.is{t:Expr}{e:Env}{Q:Bool->ah->Prop}(h:TR w hb lv (kB t e) M Q):TR w hb lv (isTrue t e (eval t e)) M Q:=by
 rw[<-ja];exact h
theorem TR.isNe{l r:Expr}{p1:Pos}{e:Env}{whole:Sem Value}{Q1:Value->ah->Prop}{Q2:Value->Value->ah->Prop}{Q:Bool->ah->Prop}(hm:behindInMarks .NotEq r=false)(h5:5<=lv)
  (hl:TR w hb lv (dm l e) M Q1) (hr:∀a N,Q1 a N->TR w hb lv (dm r e) N (Q2 a))
  (hd:∀a b N,Q2 a b N->et λda db=>iw N a da/\iw N b db/\da.canLay0=true/\db.canLay0=true/\da.depth<=20/\et λN' F=>N.Perm (N'++F)/\Q (!PyData.eqv da db) N'):TR w hb lv (isTrue (.Compare l [.NotEq] [r] p1) e whole) M Q:=λMt os G A s S hA C H=>by
 have hroom:A.units+20<cLine:=by have:=hA.2.1;show A.units+20<9900;omega
 refine wpAny_isTrue_Compare1 ?_ hm;rw[<-mi];refine hl Mt os G A s _ hA C λa N s1 q1 C1=>?_
 rw[<-mi];refine hr a N q1 Mt os G A s1 _ hA C1 λb N2 s2 q2 C2=>?_
 obtain⟨da,db,ra,rb,ca,cb,dd,N',F',pm,k⟩:=hd a b N2 q2;obtain⟨_,ra⟩:=ra Mt os s2 C2;obtain⟨_,rb⟩:=rb Mt os s2 C2;exact SeqAt.compareNe_reads ra rb ca cb (by have:min da.depth db.depth<=da.depth:=Nat.min_le_left _ _;omega) (wpAny_truthy_bool (H _ _ s2 k (C2.perm pm).left))
theorem TR.isAnd{x y:Expr}{p:Pos}{e:Env}{whole:Sem Value}{Q1 Q:Bool->ah->Prop}(h:TR w hb lv (isTrue x e (eval x e)) M Q1)(kf:∀N,Q1 false N->Q false N)(kt:∀N,Q1 true N->TR w hb lv (isTrue y e (eval y e)) N Q):TR w hb lv (isTrue (.BoolOp .And [x,y] p) e whole) M Q:=λMt os G A s S hA C H=>
 Qz (Qc (h Mt os G A s _ hA C λb N s1 q1 C1=>by
  cases b with
  |false=>
   simp only[M7,if_false];exact H _ _ s1 (kf N q1) C1
  |true=>
   simp only[if_true];refine Qc (kt N q1 Mt os G A s1 _ hA C1 λc N2 s2 q2 C2=>?_);cases c with
   |false=>
    simp only[M7,if_false];exact H _ _ s2 q2 C2
   |true=>
    simp only[if_true];exact wpAny_allTrue_And_nil (H _ _ s2 q2 C2)))
theorem TR.isOr{x y:Expr}{p:Pos}{e:Env}{whole:Sem Value}{Q1 Q:Bool->ah->Prop}(h:TR w hb lv (isTrue x e (eval x e)) M Q1)(kt:∀N,Q1 true N->Q true N)(kf:∀N,Q1 false N->TR w hb lv (isTrue y e (eval y e)) N Q):TR w hb lv (isTrue (.BoolOp .Or [x,y] p) e whole) M Q:=λMt os G A s S hA C H=>
 Qz (Qh (h Mt os G A s _ hA C λb N s1 q1 C1=>by
  cases b with
  |true=>
   simp only[if_true];exact H _ _ s1 (kt N q1) C1
  |false=>
   simp only[M7,if_false];refine Qh (kf N q1 Mt os G A s1 _ hA C1 λc N2 s2 q2 C2=>?_);cases c with
   |true=>
    simp only[if_true];exact H _ _ s2 q2 C2
   |false=>
    simp only[M7,if_false];exact wpAny_allTrue_Or_nil (H _ _ s2 q2 C2)))
theorem TR.ifS{t:Expr}{body orelse rest:List Stmt}{p:Pos}{e:Env}{Qb:Bool->ah->Prop}{Q:Flow->ah->Prop}(ht:TR w hb lv (isTrue t e (eval t e)) M Qb)
  (k:∀b N,Qb b N->TR w hb lv (execs (bif b then body else orelse) e) N λf N'=>match f with |.next=>TR w hb lv (execs rest e) N' Q |f=>Q f N'):TR w hb lv (execs (.If t body orelse p::rest) e) M Q:=λMt os G A s S hA C H=>
 NS (wpAny_If (ht Mt os G A s _ hA C λb N s1 q1 C1=>by
  have k':=k b N q1 Mt os G A s1 (λf s'=>match f with |.next=>wpAny (model pw w) A (execs rest e) S E0 s' |f=>S f s') hA C1 λf N3 s3 q3 C3=>by
   cases f with
   |next=>exact q3 Mt os G A s3 S hA C3 H
   |_=>exact H _ _ _ q3 C3
  cases b with
  |true=>exact k'
  |false=>exact k'))
theorem TR.nil{e:Env}{Q:Flow->ah->Prop}(h:Q .next M):TR w hb lv (execs [] e) M Q:=λMt os G A s S hA C H=>OF (H _ _ s h C)
theorem TR.forS{t:Expr}{it:Value}{B1 B2 orelse:List Stmt}{e:Env}{Q1:Bool->ah->Prop}{Q:Result->ah->Prop}(ht:∀v,letOwnedTupleGo t it v=pure ())
  (h:TR w hb lv (di t it B1 e) M Q1)
  (k:∀a N1,Q1 a N1->TR w hb lv (execs B2 e) N1 λf N=>match f with |.next |.cont=>ak w hb lv (.forLoop t it (B1++B2) orelse e) N Q |.brk=>Q (.ok .next) N |.ret v=>Q (.ok (.ret v)) N):ak w hb lv (.forLoop t it (B1++B2) orelse e) M Q:=λMt os G A s R hA C H=>
 rz ht (h Mt os G A s _ hA C λa N s1 q1 C1=>by
  refine k a N q1 Mt os G A s1 _ hA C1 λf N2 s2 q2 C2=>?_
  cases f with
  |next=>exact q2 Mt os G A s2 R hA C2 H
  |cont=>exact q2 Mt os G A s2 R hA C2 H
  |brk=>exact H _ _ _ q2 C2
  |ret v=>exact H _ _ _ q2 C2)
theorem TR.whileS{t:Expr}{B1 B2 orelse:List Stmt}{e:Env}{Q1:Bool->ah->Prop}{Q:Result->ah->Prop}
  (h:TR w hb lv (ml t B1 e) M Q1)
  (k:∀a N1,Q1 a N1->TR w hb lv (execs B2 e) N1 λf N=>match f with |.next |.cont=>ak w hb lv (.whileLoop t (B1++B2) orelse e) N Q |.brk=>Q (.ok .next) N |.ret v=>Q (.ok (.ret v)) N):ak w hb lv (.whileLoop t (B1++B2) orelse e) M Q:=λMt os G A s R hA C H=>
 od (h Mt os G A s _ hA C λa N s1 q1 C1=>by
  refine k a N q1 Mt os G A s1 _ hA C1 λf N2 s2 q2 C2=>?_
  cases f with
  |next=>exact q2 Mt os G A s2 R hA C2 H
  |cont=>exact q2 Mt os G A s2 R hA C2 H
  |brk=>exact H _ _ _ q2 C2
  |ret v=>exact H _ _ _ q2 C2)
theorem TR.funcS{B1 B2:List Stmt}{e:Env}{Q1:Bool->ah->Prop}{Q:Result->ah->Prop}
  (h:TR w (hb.push (.func (B1++B2) e)) lv (aX B1 e) M Q1)
  (k:∀a N1,Q1 a N1->TR w (hb.push (.func (B1++B2) e)) lv (execs B2 e) N1 λf N=>Q (.ok (.ret (match f with |.ret v=>v |_=>.none))) N):ak w hb (lv+1) (.func (B1++B2) e) M Q:=λMt os G A s R hA C H=>by
 have hA':b0 (hb.push (.func (B1++B2) e)) lv (A.deeper e):=hA.under rfl;exact oH (h Mt os G _ s _ hA' C λa N s1 q1 C1=>by
  exact k a N q1 Mt os G _ s1 _ hA' C1 λf N2 s2 q2 C2=>H _ _ _ q2 C2)
end
theorem iw.str{N:ah}(x:Str)(t:Tok):iw N (.str x t) (.str x):=λ_ _ _ _=>⟨[],.str x t⟩
theorem iw.int{N:ah}(x:Int)(t:Tok):iw N (.int x t) (.int x):=λ_ _ _ _=>⟨[],.int x t⟩
noncomputable def sO(N:ah):List Value->List PyData->Prop
 |[],[]=>True
 |v::vs,d::ds=>iw N v d/\sO N vs ds
 |_,_=>False
theorem sO.all{N:ah}:∀{vs:List Value} {ds:List PyData},sO N vs ds->∀Mt os s,am Mt os N s->∃as,ReadsAll s.heap vs ds as
 |[],[],_,_,_,_,_=>⟨[],.nil⟩
 |v::vs,d::ds,h,Mt,os,s,C=>by
  obtain⟨as,h1⟩:=h.1 Mt os s C;obtain⟨bs,h2⟩:=sO.all h.2 Mt os s C;exact⟨_,.cons h1 h2⟩
theorem iw.list{N:ah}{a:Addr}{vs:List Value}{ds:List PyData}{n:Nat}(hm:(a,oL vs n)∈N)(h:sO N vs ds):iw N (.ref a) (.list ds):=λMt os s C=>by
 obtain⟨as,h1⟩:=h.all Mt os s C;exact⟨_,.list (C.own _ hm).1 rfl rfl h1⟩
theorem iw.tup{N:ah}{a:Addr}{vs:List Value}{ds:List PyData}(hm:(a,aj vs)∈N)(h:sO N vs ds):iw N (.ref a) (.tuple ds):=λMt os s C=>by
 obtain⟨as,h1⟩:=h.all Mt os s C;exact⟨_,.tuple (C.own _ hm).1 rfl rfl h1⟩
theorem sO.of{N:ah}{α:Type}{f:α->Value}{g:α->PyData}:∀(l:List α),(∀x∈l,iw N (f x) (g x))->sO N (l.map f) (l.map g)
 |[],_=>trivial
 |x::l,h=>⟨h x (.head _),sO.of l λy hy=>h y (.tail _ hy)⟩
theorem tc{α:Type}{g:α->PyData}(l:List α)(h:∀x∈l,(g x).canLay0=true):(PyData.list (l.map g)).canLay0=true:=by
 show PyData.canLayAll0 (l.map g)=true
 induction l with
 |nil=>rfl
 |cons x l ih=>
  show((g x).canLay0&&PyData.canLayAll0 (l.map g))=true;rw[h x (.head _),ih λy hy=>h y (.tail _ hy)];rfl
theorem iB{α:Type}{g:α->PyData}{k:Nat}(l:List α)(h:∀x∈l,(g x).depth<=k):PyData.depthAll (l.map g)<=k:=by
 induction l with
 |nil=>exact Nt _
 |cons x l ih=>
  show max (g x).depth (PyData.depthAll (l.map g))<=k;exact Nat.max_le.mpr ⟨h x (.head _),ih λy hy=>h y (.tail _ hy)⟩
noncomputable def cc(l:List Nat):List (List Nat):=l.map λc=>[c]
noncomputable def bn(l:List Nat):List Nat:=47::jP (cc l)
noncomputable def kw(l:List Nat):Prop:=(∀c∈l,97<=c/\c<=111)/\l.length<=20
theorem lM{l:List Nat}(h:kw l):∀c∈cc l,iP c:=λc hc=>by
 obtain⟨x,hx,rfl⟩:=ML.mp hc;have:=h.1 x hx;refine⟨by simp,?_⟩;simp;omega
theorem o7{l:List Nat}:∀c∈cc l,c.length<=50:=λc hc=>by
 obtain⟨x,hx,rfl⟩:=ML.mp hc;simp
theorem ly{l:List Nat}(h:kw l):(jP (cc l)).length<=1020:=by
 have:=fH (cc l) o7;have h2:(cc l).length=l.length:=Mc _;have:=h.2;omega
noncomputable def sa:Nat->List (List Nat)
 |0=>[]
 |1=>[[46]]
 |_=>[[120],[46,46]]
noncomputable def cE(x:Int):List Nat:=if x>0 then[96+x.toNat]else[46,46]
noncomputable def i8(p:Nat)(x:Int):List (List Nat):=sa p++[cE x]
noncomputable def cw(hs:List Nat)(x:Int):List Nat:=if x>0 then hs++[96+x.toNat]else hs.dropLast
theorem pb:∀(l:List Nat) (acc:List (List Nat)),(∀c∈l,97<=c)->(cc l).foldl cF acc=acc++cc l
 |[],acc,_=>by simp[cc]
 |c::l,acc,h=>by
  have hc:=h c (.head _);show(cc l).foldl cF (cF acc [c])=_;have e:cF acc [c]=acc++[[c]]:=by
   unfold cF;rw[if_neg (by simp;omega),if_neg (by simp)]
  rw[e,pb l _ λy hy=>h y (.tail _ hy),Ms];rfl
theorem zl(hs:List Nat)(x:Int)(p:Nat)(h:∀c∈hs,97<=c)(h1:1<=x\/x<0)(h2:x<=15):(cc hs++i8 p x).foldl cF []=cc (cw hs x):=by
 rw[NO,pb hs [] h,MU];have hp:∀acc:List (List Nat),(sa p).foldl cF acc=acc:=λacc=>by
  unfold sa;split
  .rfl
  .show cF acc [46]=acc;unfold cF;rw[if_pos (by simp)]
  .show cF (cF acc [120]) [46,46]=acc;have e:cF acc [120]=acc++[[120]]:=by
    unfold cF;rw[if_neg (by simp),if_neg (by simp)]
   rw[e];unfold cF;rw[if_neg (by simp),if_pos rfl];simp
 unfold i8;rw[NO,hp];show cF (cc hs) (cE x)=_;unfold cE cw
 by_cases hx:x>0
 .rw[if_pos hx,if_pos hx];unfold cF;rw[if_neg (by simp;omega),if_neg (by simp)];simp[cc]
 .rw[if_neg hx,if_neg hx];unfold cF;rw[if_neg (by simp),if_pos rfl];simp[cc,QJ]
theorem eW(p:Nat)(x:Int):gc λd dl ds=>i8 p x=(d::dl)::ds/\d≠47/\ds.length<=2:=by
 unfold i8 sa cE;split<;>split<;>exact⟨_,_,_,rfl,by omega,by simp⟩
theorem lU(p:Nat)(x:Int)(h2:x<=15):∀y∈i8 p x,47∉y/\y.length<=50:=by
 intro y hy;unfold i8 sa cE at hy;split at hy<;>split at hy<;>simp at hy
 all_goals first |(subst hy;refine⟨?_,?_⟩<;>simp<;>omega) |(rcases hy with rfl |rfl<;>refine⟨?_,?_⟩<;>simp<;>omega) |(rcases hy with rfl |rfl |rfl<;>refine⟨?_,?_⟩<;>simp<;>omega)
noncomputable def kz(p:Nat)(x:Int):List Nat:=jP (i8 p x)
noncomputable def fD(x:Int):Prop:=(1<=x\/x<0)/\x<=15/\ -15<=x
theorem qb{hs:List Nat}(h:kw hs)(p:Nat)(x:Int)(hx:fD x):dJ (bn hs) (kz p x) (47::jP (cc hs++i8 p x)):=by
 obtain⟨d,dl,ds,e,hd,hl⟩:=eW p x;refine⟨cc hs,d,dl,ds,lM h,hd,?_,rfl,by unfold kz;rw[e],by rw[e]⟩;have a1:=ly h;have a2:=fH (i8 p x) λy hy=>(lU p x hx.2.1 y hy).2
 rw[e]at a2;simp at a2;omega
theorem uJ{hs:List Nat}(h:kw hs)(p:Nat)(x:Int)(hx:fD x):jy (47::jP (cc hs++i8 p x)) (bn (cw hs x)):=by
 have e:=zl hs x p (λc hc=>(h.1 c hc).1) hx.1 hx.2.1;have hm:∀y∈cc hs++i8 p x,47∉y/\y.length<=50:=λy hy=>by
  rcases MT.mp hy with hy |hy
  .exact⟨(lM h y hy).2,o7 y hy⟩
  .exact lU p x hx.2.1 y hy
 have hl:(cc hs++i8 p x).length<=50:=by
  obtain⟨d,dl,ds,e,hd,hl⟩:=eW p x;rw[e,Mn,Mg,show(cc hs).length=hs.length from Mc _];have:=h.2;omega
 have hne:gc λy c ps=>cc hs++i8 p x=(y::c)::ps:=by
  cases hs with
  |nil=>
   obtain⟨d,dl,ds,e,hd,hl⟩:=eW p x;exact⟨d,dl,ds,e⟩
  |cons a l=>exact⟨a,[],_,rfl⟩
 obtain⟨y,c,ps,e2⟩:=hne;rw[e2]at hm hl e;refine⟨y,c,ps,λz hz=>(hm z hz).1,λz hz=>(hm z hz).2,by simp at hl;omega,by rw[e2],?_⟩;unfold bn;rw[e]
theorem hB{hs:List Nat}(h:kw hs)(x:Int)(hx:fD x)(hl:hs.length<=19):kw (cw hs x):=by
 unfold cw;split
 .rename_i hp;refine⟨λc hc=>?_,by simp;omega⟩;rcases MT.mp hc with hc |hc
  .exact h.1 c hc
  .simp at hc;have:=hx.2.1;omega
 .exact⟨λc hc=>h.1 c (OP _ hc),by simp;omega⟩
theorem wU{l:List Nat}(h:kw l)(hn:l≠[]):d7 (bn l) (bn l.dropLast)/\cK (bn l)=bn l.dropLast:=by
 rcases NI l with rfl |⟨a,c,rfl⟩
 .exact(hn rfl).elim
 rw[NJ]at h ⊢;have hc:c≠47:=by have:=h.1 c (by simp);omega
 have ha:kw a:=⟨λy hy=>h.1 y (by simp[hy]),by have:=h.2;simp at this;omega⟩;have e1:cc (a++[c])=cc a++[[c]]:=by simp[cc]
 rw[Qo];refine⟨⟨cc a,[c],lM ha,⟨by simp,by simp;exact λe=>hc e.symm⟩,?_,by unfold bn;rw[e1],rfl⟩,?_⟩
 .have:=ly ha;simp;omega
 .unfold bn;rw[e1];unfold cK;cases a with
  |nil=>
   show(match[c,47].dropWhile (· != 47)with |47::r=>bif r.isEmpty then[47]else r.reverse |_=>[])=[47];rw[PS (by simpa using hc)];rfl
  |cons b a=>
   have e2:jP (cc (b::a)++[[c]])=jP (cc (b::a))++47::jP [[c]]:=gk _ _ _ (by simp[cc]);rw[e2,show jP [[c]]=[c]from rfl];have e3:(47::(jP (cc (b::a))++[47,c])).reverse=c::47::((jP (cc (b::a))).reverse++[47]):=by simp
   rw[e3,PS (by simpa using hc),List.dropWhile_cons_of_neg (by simp)];show(bif ((jP (cc (b::a))).reverse++[47]).isEmpty then[47]else((jP (cc (b::a))).reverse++[47]).reverse)=_;have e4:((jP (cc (b::a))).reverse++[47]).isEmpty=false:=by simp
   rw[e4];simp
theorem vK{l:List Nat}(h:kw l):((T (bn l)).cps.toList != (T [47]).cps.toList)= !l.isEmpty:=by
 cases l with
 |nil=>rfl
 |cons a l=>
  show((47::jP (cc (a::l))) != [47])=true;have:jP (cc (a::l))≠[]:=by
   cases l with
   |nil=>simp[cc,cQ]
   |cons b l=>
    show jP ([a]::[b]::cc l)≠[];rw[aS];simp
  simp[this]
structure PN where
 nm:List Nat
 np:Int
 sc:List (List Nat)
noncomputable def iK(d:Nd):PN:=⟨d.nm,d.np,d.sc.map (·.1)⟩
noncomputable def aO(ns:List Nd):List PN:=ns.map iK
noncomputable def pC(y:List Nat)(f:PN->PN):List PN->List PN
 |[]=>[]
 |d::g=>if d.nm==y then f d::g else d::pC y f g
theorem gI(y:List Nat)(f:Nd->Nd)(f':PN->PN)(h:∀d,iK (f d)=f' (iK d)):∀ns,aO (dn y f ns)=pC y f' (aO ns)
 |[]=>rfl
 |d::ns=>by
  show(if d.nm==y then f d::ns else d::dn y f ns).map iK=if d.nm==y then f' (iK d)::aO ns else iK d::pC y f' (aO ns)
  split
  .rw[Ml,h];rfl
  .rw[Ml,<-gI y f f' h ns];rfl
noncomputable def pF(x:List Nat)(g:List PN)(p:List Nat):List PN:=pC p (λd=>{d with sc:=d.sc++[x]}) g
noncomputable def Ae(x:List Nat)(ps:List (List Nat))(g:List PN):List PN:=ps.foldl (pF x) g++[⟨x,Int.ofNat ps.length,[]⟩]
theorem mu(x:Pt):∀(ps:List Pt) (ns:List Nd),aO (ps.foldl (cn x) ns)=(ps.map (·.1)).foldl (pF x.1) (aO ns)
 |[],_=>rfl
 |p::ps,ns=>by
  rw[Mv,mu x ps,Ml,Mv];congr 1;exact gI _ _ _ (λd=>by unfold iK iI;simp) ns
theorem ri(u:U)(x:Pt)(ps:List Pt)(ns:List Nd):aO (bw u x ps ns)=Ae x.1 (ps.map (·.1)) (aO ns):=by
 unfold bw Ae;rw[<-mu x ps ns];unfold aO;rw[Mi,Mc];rfl
theorem pE(ns:List Nd):(aO ns).length=ns.length:=Mc _
theorem k9{ns:List Nd}{p:List Nat}(h:(aO ns).any (·.nm==p)=true):∃d∈ns,d.nm=p:=by
 obtain⟨x,hx,e⟩:=Pk.mp h;obtain⟨d,hd,rfl⟩:=ML.mp hx;exact⟨d,hd,eq_of_beq e⟩
theorem Ad{ns:List Nd}{p:List Nat}(h:(aO ns).all (λd=> !(d.nm==p))=true):lk (ac ns) p=none:=by
 unfold lk;have:(ac ns).find? (λq=>q.1.1==p)=none:=by
  rw[O8];intro x hx;obtain⟨d,hd,rfl⟩:=ML.mp hx;have:=MO.mp h _ (Mw hd);simpa[iK]using this
 rw[this];rfl
noncomputable def vc(g:List PN):Bool:=Nat.ble g.length 100&&g.all λd=>Nat.ble d.sc.length 100
theorem sr{ns:List Nd}(h:vc (aO ns)=true):ns.length<=100/\∀d∈ns,d.sc.length<=100:=by
 obtain⟨a,b⟩:=Mr.mp h;refine⟨by have:=Mm a;rwa[pE]at this,λd hd=>?_⟩;have:=Mm (MO.mp b _ (Mw hd));simpa[iK]using this
structure PG where
 hs:List Nat
 ls:List (List Nat)
 g:List PN
noncomputable def sn(q:PG):List (List Nat):=(q.ls.map bn).filter λp=>cK p==bn q.hs
noncomputable def uO(q:PG):Bool:=Nat.ble (sn q).length 3&&q.g.all (λd=> !(d.nm==bn q.hs))&&(sn q).all (λp=>q.g.any (·.nm==p))&&vc q.g&&Nat.ble q.ls.length 100
noncomputable def gw(x:Int)(q:PG):Option PG:=bif !(Nat.ble q.hs.length 19)then none else
 bif decide (x<0)&& !q.hs.isEmpty then(bif uO q then some ⟨q.hs.dropLast,q.ls++[q.hs],Ae (bn q.hs) (sn q) q.g⟩else none)
 else some ⟨cw q.hs x,q.ls,q.g⟩
structure GS where
 hs:List Nat
 ht:Tok
 ls:List (List Nat×Tok)
 n3:Nat
 n:Nat
 xv:Value
 ns:List Nd
 i:Nat
structure GA where
 it:Addr
 loc:Addr
 ca:Addr
 rw:Addr
 pc:Addr
 lf:Addr
 so:Addr
 sd:Addr
 n0:Addr
 k:Nat->Tok
 kk:Nat->Tok
 vs:List Value
 n1:Nat
 n2:Nat
 ps:List Pt
 pv:Tok
 nt:Tok
noncomputable def bM(ls:List (List Nat×Tok)):List Pt:=ls.map λp=>(bn p.1,p.2)
noncomputable def GS.abs(S:GS):PG:=⟨S.hs,S.ls.map (·.1),aO S.ns⟩
noncomputable def GS.wf(S:GS):Prop:=kw S.hs/\∀p∈S.ls,kw p.1/\p.1≠[]
noncomputable def gF(P:Params)(A:GA)(S:GS):ah:=fl [(A.lf,oL (vT (bM S.ls)) S.n3),(A.so,oI 484 A.sd),(A.sd,aD P sN A.k [.ref (A.n0+ab),.none,.int 0 A.pv,.int 0 A.nt] 4),(A.n0+ab,oD (eS P (ac S.ns)) S.n)] [ag S.ns]
noncomputable def gM(P:Params)(A:GA)(S:GS):ah:=[(A.it,aI A.rw S.i),(A.rw,oL A.vs A.n1),(A.pc,oL (vT A.ps) A.n2),(A.loc,frm P kj A.kk [.ref A.rw,.ref A.pc,.ref A.lf,.ref A.so,S.xv] 5),(A.ca,aQ (.str (T (bn S.hs)) S.ht))]++gF P A S
noncomputable def bT(x:Int):Int:=bif decide (x<0)then-x-Int.ofNat 1 else x-Int.ofNat 1
noncomputable def jT(ps:List Pt)(x:Int):Prop:=et λ(q:Pt) (p:Nat)=>ps[(bT x).toNat]?=some q/\q.1=kz p x
theorem sq(h:List Nat)(ls:List (List Nat×Tok)):(bG h (bM ls)).map (·.1)=((ls.map (·.1)).map bn).filter λp=>cK p==h:=by
 unfold bG bM;rw[MA]
 induction ls with
 |nil=>rfl
 |cons a ls ih=>
  simp only[Ml,List.filter_cons,Function.comp];cases h0:(cK (bn a.1)==h)with
  |true=>simp only[if_true,Ml];rw[ih]
  |false=>simp only[M7,if_false];rw[ih]
theorem gh(i:Int)(h0:0<=i)(h1:i<=100):Builtin.List.listFitsIndex i=true:=by
 unfold Builtin.List.listFitsIndex;simp;omega
theorem rB(A:GA)(S:GS)(x:Int)(t:Tok)(q':PG)(w:World){Q:Result->ah->Prop}(hx:A.vs[S.i]?=some (.int x t))(ox:fD x)(hp:jT A.ps x)(wf:S.wf)(hs:gw x S.abs=some q')
  (k:∀S':GS,S'.abs=q'->S'.wf->S'.i=S.i+1->ak w mT 110 (aG cr A.it (cD (cu A.ca) A.loc)) (gM w.params A S') Q):
  ak w mT 110 (aG cr A.it (cD (cu A.ca) A.loc)) (gM w.params A S) Q:=by
 obtain⟨q,p,hq,eq⟩:=hp;obtain⟨hs0,ht,ls,n3,n,xv,ns,i⟩:=S;obtain⟨wf1,wf2⟩:=wf;simp only at wf1 wf2 hx k;have hj:dJ (bn hs0) q.1 (47::jP (cc hs0++i8 p x)):=by rw[eq];exact qb wf1 p x ox
 have hn:=uJ wf1 p x ox;have hqv:(vT A.ps)[(bT x).toNat]?=some (.str (T q.1) q.2):=by rw[cJ,hq];rfl
 unfold gw at hs;simp only[GS.abs]at hs;cases hl:Nat.ble hs0.length 19 with
 |false=>rw[hl]at hs;cases hs
 |true=>
 rw[hl]at hs;have hl:=Mm hl;cases hx0:decide (x<0)with
 |false=>
  rw[hx0]at hs;cases hs;have hx1:¬x<0:=of_decide_eq_false hx0;unfold bT at hqv;rw[hx0]at hqv;have h0:0<=x-Int.ofNat 1:=by have:=ox.1;simp only[Mx];omega
  refine(gA A.it A.loc A.ca A.rw A.pc A.lf A.so A.kk xv A.vs i A.n1 A.n2 A.ps x t ht (bn hs0) _ _ q hx hx0 hqv h0 (gh _ h0 (by have:=ox.2.1;simp only[Mx];omega)) hj hn w).st (F:=gF w.params A ⟨hs0,ht,ls,n3,n,xv,ns,i⟩) (by omega) λch=>?_
  exact k ⟨cw hs0 x,_,ls,n3,n,_,ns,i+1⟩ rfl ⟨hB wf1 x ox hl,wf2⟩ rfl
 |true=>
  rw[hx0]at hs;have hx1:x<0:=of_decide_eq_true hx0;unfold bT at hqv;rw[hx0]at hqv;have h0:0<= -x-Int.ofNat 1:=by simp only[Mx];omega
  have hf:=gh _ h0 (by have:=ox.2.2;simp only[Mx];omega);have est:cw hs0 x=hs0.dropLast:=by unfold cw;rw[if_neg (by omega)]
  cases hem:hs0.isEmpty with
  |true=>
   have:=Pr.mp hem;subst this;cases hs;refine(gB A.it A.loc A.ca A.rw A.pc A.lf A.so A.kk xv A.vs i A.n1 A.n2 A.ps x t ht _ _ q hx hx0 hqv h0 hf hj hn w).st (F:=gF w.params A ⟨[],ht,ls,n3,n,xv,ns,i⟩) (by omega) λch=>?_
   exact k ⟨cw [] x,_,ls,n3,n,_,ns,i+1⟩ rfl ⟨hB wf1 x ox hl,wf2⟩ rfl
  |false=>
   have hne:hs0≠[]:=λe=>by rw[e]at hem;cases hem
   rw[hem]at hs;simp only[Bool.not_true,Bool.true_and,PT,cond_true,cond_false]at hs;cases hok:uO ⟨hs0,ls.map (·.1),aO ns⟩with
   |false=>rw[hok]at hs;cases hs
   |true=>
   rw[hok]at hs;cases hs;unfold uO at hok;simp only[MF]at hok;obtain⟨⟨⟨⟨b1,b2⟩,b3⟩,b4⟩,b5⟩:=hok;have b1:=Mm b1;have b5:=Mm b5;have hsel:(bG (bn hs0) (bM ls)).map (·.1)=sn ⟨hs0,ls.map (·.1),aO ns⟩:=sq _ _;have hlen:(bG (bn hs0) (bM ls)).length=(sn ⟨hs0,ls.map (·.1),aO ns⟩).length:=by rw[<-hsel,Mc]
   have hr:((T (bn hs0)).cps.toList != (T [47]).cps.toList)=true:=by rw[vK wf1,hem];rfl
   have a0':=Ad b2;obtain⟨c1,c2⟩:=sr b4;have az:(ac ns).length<=10000:=by unfold ac;rw[Mc];omega
   have ap:∀p∈bG (bn hs0) (bM ls),∃d∈ns,d.nm=p.1:=λp hp=>by
    have:p.1∈sn ⟨hs0,ls.map (·.1),aO ns⟩:=by rw[<-hsel];exact Mw hp
    exact k9 (MO.mp b3 _ this)
   have al:∀d∈ns,d.sc.length+(bG (bn hs0) (bM ls)).length<=10000:=λd hd=>by have:=c2 d hd;omega
   have hd:∀p∈bM ls,d7 p.1 (cK p.1):=λp hp=>by
    obtain⟨y,hy,rfl⟩:=ML.mp hp;obtain⟨d1,d2⟩:=wU (wf2 y hy).1 (wf2 y hy).2;show d7 (bn y.1) (cK (bn y.1));rw[d2];exact d1
   have hll:(bM ls).length<=9000:=by unfold bM;rw[Mc];simp at b5;omega
   have hvl:(vT (bM ls)).length<=9000:=by rw[cy];exact hll
   have wfn:kw (cw hs0 x)/\∀p∈ls++[(hs0,ht)],kw p.1/\p.1≠[]:=⟨hB wf1 x ox hl,λp hp=>by
    rcases MT.mp hp with hp |hp
    .exact wf2 p hp
    .rw[MR]at hp;subst hp;exact⟨wf1,hne⟩⟩
   have elf:bM (ls++[(hs0,ht)])=bM ls++[(bn hs0,ht)]:=by unfold bM;rw[Mi];rfl
   have evf:vT (bM (ls++[(hs0,ht)]))=vT (bM ls)++[.str (T (bn hs0)) ht]:=by rw[elf,fM];rfl
   have fin:∀sel vl,bG (bn hs0) (bM ls)=sel->vT (bM ls)=vl->∀(u:U) (ht':Tok) (xv':Value),ak w mT 110 (aG cr A.it (cD (cu A.ca) A.loc)) ([(A.it,aI A.rw (i+1)),(A.rw,oL A.vs A.n1),(A.pc,oL (vT A.ps) A.n2),(A.loc,frm w.params kj A.kk [.ref A.rw,.ref A.pc,.ref A.lf,.ref A.so,xv'] 5),(A.ca,aQ (.str (T (bn (cw hs0 x))) ht'))]++fl [(A.lf,oL (vl++[.str (T (bn hs0)) ht]) (n3+1)),(A.so,oI 484 A.sd),(A.sd,aD w.params sN A.k [.ref (A.n0+ab),.none,.int 0 A.pv,.int 0 A.nt] 4),(A.n0+ab,oD (eS w.params (ac (bw u (bn hs0,ht) sel ns))) (n+1))] [ag (bw u (bn hs0,ht) sel ns)]) Q:=λsel vl es ev u ht' xv'=>by
    subst es ev;have:=k ⟨cw hs0 x,ht',ls++[(hs0,ht)],n3+1,n+1,xv',bw u (bn hs0,ht) (bG (bn hs0) (bM ls)) ns,i+1⟩ (by
     unfold GS.abs;simp only;rw[ri,hsel,est,Mi];rfl) wfn rfl
    unfold gM gF at this;simp only[evf]at this;exact this
   have b1:(bG (bn hs0) (bM ls)).length<=3:=by rw[hlen];exact b1
   by_cases hel:ls=[]
   .have e0:bG (bn hs0) (bM ls)=[]:=by rw[hel];rfl
    rw[e0]at ap al;rw[show gM w.params A ⟨hs0,ht,ls,n3,n,xv,ns,i⟩=gM w.params A ⟨hs0,ht,[],n3,n,xv,ns,i⟩by rw[hel]];exact(KD A.it A.loc A.ca A.rw A.pc A.lf A.so A.sd A.n0 A.k A.kk xv A.vs i A.n1 A.n2 n3 n A.ps x t ht A.pv A.nt (bn hs0) _ _ q ns hx hx0 hr a0' az ap al hqv h0 hf hj hn w).st0 (by omega) λch=>fin _ [] e0 (by rw[hel];rfl) _ _ _
   .have h1:1<=(bM ls).length:=by unfold bM;rw[Mc];exact List.length_pos_iff.mpr hel
    match hsd:bG (bn hs0) (bM ls),b1 with
    |[],_=>
     rw[hsd]at ap al;exact(Kz A.it A.loc A.ca A.rw A.pc A.lf A.so A.sd A.n0 A.k A.kk xv A.vs i A.n1 A.n2 n3 n A.ps x t ht A.pv A.nt (bn hs0) _ _ q ns hx hx0 hr (bM ls) h1 hd hll hvl (by rw[hsd];rfl) rfl a0' az ap (by simpa using al) hqv h0 hf hj hn w).st0 (by omega) λch=>fin _ _ hsd rfl _ _ _
    |[p0],_=>
     rw[hsd]at ap al;exact(KA A.it A.loc A.ca A.rw A.pc A.lf A.so A.sd A.n0 A.k A.kk xv A.vs i A.n1 A.n2 n3 n A.ps p0 x t ht A.pv A.nt (bn hs0) _ _ q ns hx hx0 hr (bM ls) h1 hd hll hvl (by rw[hsd];rfl) rfl a0' az ap (by simpa using al) hqv h0 hf hj hn w).st0 (by omega) λch=>fin _ _ hsd rfl _ _ _
    |[p0,p1],_=>
     rw[hsd]at ap al;exact(KB A.it A.loc A.ca A.rw A.pc A.lf A.so A.sd A.n0 A.k A.kk xv A.vs i A.n1 A.n2 n3 n A.ps p0 p1 x t ht A.pv A.nt (bn hs0) _ _ q ns hx hx0 hr (bM ls) h1 hd hll hvl (by rw[hsd];rfl) rfl a0' az ap (by simpa using al) hqv h0 hf hj hn w).st0 (by omega) λch=>fin _ _ hsd rfl _ _ _
    |[p0,p1,p2],_=>
     rw[hsd]at ap al;exact(KC A.it A.loc A.ca A.rw A.pc A.lf A.so A.sd A.n0 A.k A.kk xv A.vs i A.n1 A.n2 n3 n A.ps p0 p1 p2 x t ht A.pv A.nt (bn hs0) _ _ q ns hx hx0 hr (bM ls) h1 hd hll hvl (by rw[hsd];rfl) rfl a0' az ap (by simpa using al) hqv h0 hf hj hn w).st0 (by omega) λch=>fin _ _ hsd rfl _ _ _
    |_::_::_::_::_,b1=>simp at b1
section
noncomputable def ga:List Int->PG->Option PG
 |[],q=>some q
 |x::l,q=>(gw x q).bind λq=>ga l q
noncomputable def vI(l:List (Int×Tok)):List Value:=l.map λp=>.int p.1 p.2
theorem cT(l:List (Int×Tok))(i:Nat):(vI l)[i]?=l[i]?.map λp=>.int p.1 p.2:=Mf
theorem eQ{α:Type}{l rest:List α}{i:Nat}{x:α}(h:l.drop i=x::rest):l[i]?=some x/\l.drop (i+1)=rest:=by
 refine⟨?_,?_⟩
 .have:=congrArg (·[0]?) h;simpa using this
 .have:=congrArg (List.drop 1) h;simpa[Nat.add_comm]using this
theorem tq{α:Type}{l:List α}{i:Nat}(h:l.drop i=[]):l[i]?=none:=by
 have:=OQ.mp h;exact Nh this
noncomputable def gN(P:Params)(A:GA)(i:Nat)(S:GS):ah:=[(A.it,ar i),(A.rw,oL A.vs A.n1),(A.pc,oL (vT A.ps) A.n2),(A.loc,frm P kj A.kk [.ref A.rw,.ref A.pc,.ref A.lf,.ref A.so,S.xv] 5),(A.ca,aQ (.str (T (bn S.hs)) S.ht))]++gF P A S
theorem kK(A:GA)(w:World)(row:List (Int×Tok))(hv:A.vs=vI row)(q':PG):∀(rest:List (Int×Tok)) (S:GS),row.drop S.i=rest->(∀p∈rest,fD p.1/\jT A.ps p.1)->S.wf->ga (rest.map (·.1)) S.abs=some q'->
  ak w mT 110 (aG cr A.it (cD (cu A.ca) A.loc)) (gM w.params A S) λr N=>r=.ok .next/\et λi S'=>S'.abs=q'/\N=gN w.params A i S'
 |[],S,hr,ho,wf,hq=>by
  cases hq;have hx:A.vs[S.i]?=none:=by rw[hv,cT,tq hr];rfl
  exact(gE A.it A.loc A.ca A.rw A.vs S.i A.n1 hx w).st (F:=[(A.pc,oL (vT A.ps) A.n2),(A.loc,frm w.params kj A.kk [.ref A.rw,.ref A.pc,.ref A.lf,.ref A.so,S.xv] 5),(A.ca,aQ (.str (T (bn S.hs)) S.ht))]++gF w.params A S) (by omega) λch=>⟨rfl,S.i,S,rfl,rfl⟩
 |(x,t)::rest,S,hr,ho,wf,hq=>by
  obtain⟨h1,h2⟩:=eQ hr;have ox:=ho (x,t) (.head _);obtain⟨q1,hs,hq⟩:=Mk.mp (show(gw x S.abs).bind (λq=>ga (rest.map (·.1)) q)=some q' from hq);refine rB A S x t q1 w (by rw[hv,cT,h1];rfl) ox.1 ox.2 wf hs λS' e1 wf' e2=>?_
  exact kK A w row hv q' rest S' (by rw[e2];exact h2) (λp hp=>ho p (.tail _ hp)) wf' (by rw[e1];exact hq)
noncomputable def Bb(g:List PN):List Nd:=g.map λd=>⟨d.nm,0,0,d.np,0,d.sc.map λx=>(x,0),0,0,0,0⟩
theorem sW(g:List PN):aO (Bb g)=g:=by
 unfold aO Bb;rw[MA]
 conv=>rhs;rw[<-Od g]
 refine QA λd _=>?_
 obtain⟨a,b,c⟩:=d;simp[iK,MA,Function.comp_def]
noncomputable abbrev GU:=List Nd×Nat×Tok×Nat×Tok×Value×Obj
open Classical in
noncomputable def d4(g:List PN)(u:U):GU:=if aO (u.u GU ([],0,0,0,0,.none,default)).1=g then u.u GU ([],0,0,0,0,.none,default)else(Bb g,0,0,0,0,.none,default)
theorem tG(g:List PN)(u:U):aO (d4 g u).1=g:=by
 unfold d4;split
 .assumption
 .exact sW g
theorem wY(g:List PN)(d:GU)(h:aO d.1=g):∃u,d4 g u=d:=by
 obtain⟨u,_,hu⟩:=n9 d (λ_=>0);refine⟨u,?_⟩;unfold d4;rw[hu,if_pos h]
noncomputable def qU(P:Params)(it loc ca rw pc lf so sd n0:Addr)(k kk:Nat->Tok)(row:List (Int×Tok))(n1 n2:Nat)(ps:List Pt)(pv nt ht:Tok)(hs:List Nat)(g:List PN):Tr:=
 ⟨[],λ_=>[],λu=>[ag (d4 g u).1],aG cr it (cD (cu ca) loc),[(it,aI rw 0),(rw,oL (vI row) n1),(pc,oL (vT ps) n2),(loc,frm P kj kk [.ref rw,.ref pc,.ref lf,.ref so] 4),(ca,aQ (.str (T [47]) ht)),(lf,oL [] 0),(so,oI 484 sd),(sd,aD P sN k [.ref (n0+ab),.none,.int 0 pv,.int 0 nt] 4),(n0+ab,oD [] 0)],λ_=>.ok .next,λu=>[ar (d4 g u).2.2.2.1,oL (vI row) n1,oL (vT ps) n2,frm P kj (kx kk 4 [(d4 g u).2.2.2.2.1]) [.ref rw,.ref pc,.ref lf,.ref so,(d4 g u).2.2.2.2.2.1] 5,aQ (.str (T (bn hs)) (d4 g u).2.2.1),(d4 g u).2.2.2.2.2.2,oI 484 sd,aD P sN k [.ref (n0+ab),.none,.int 0 pv,.int 0 nt] 4,oD (eS P (ac (d4 g u).1)) (d4 g u).2.1],λ_=>[]⟩
theorem xj(it loc ca rw pc lf so sd n0:Addr)(k kk:Nat->Tok)(row:List (Int×Tok))(n1 n2:Nat)(ps:List Pt)(pv nt ht:Tok)(hs:List Nat)(g:List PN)(ls:List (List Nat))(x:Int)(t:Tok)(rest:List (Int×Tok))(e:row=(x,t)::rest)(hx:1<=x)
  (ho:∀p∈row,fD p.1/\jT ps p.1) (hq:ga (row.map (·.1)) ⟨[],[],[]⟩=some ⟨hs,ls,g⟩) (w:World):af w mT 110 (qU w.params it loc ca rw pc lf so sd n0 k kk row n1 n2 ps pv nt ht hs g):=by
 subst e;refine ak.tri (λ_=>⟨rfl,rfl⟩) (Q:=λr N=>r=.ok .next/\gc λtk i S'=>S'.abs=⟨hs,ls,g⟩/\N=gN w.params ⟨it,loc,ca,rw,pc,lf,so,sd,n0,k,kx kk 4 [tk],vI ((x,t)::rest),n1,n2,ps,pv,nt⟩ i S') ?_ ?_
 .obtain⟨ox,q,p,hqq,eq⟩:=ho (x,t) (.head _);have w0:kw []:=⟨(λ_ h=>nomatch h),by simp⟩;have hx0:decide (x<0)=false:=decide_eq_false (by omega);have h0:0<=x-Int.ofNat 1:=by simp only[Mx];omega
  have hj:dJ [47] q.1 (47::jP (cc []++i8 p x)):=by rw[eq];exact qb w0 p x ox
  have hn:=uJ w0 p x ox;unfold bT at hqq;simp only[hx0]at hqq;have hqv:(vT ps)[(x-Int.ofNat 1).toNat]?=some (.str (T q.1) q.2):=by
   rw[cJ,show ps[(x-Int.ofNat 1).toNat]?=some q from hqq];rfl
  refine(Ky it loc ca rw pc lf so kk (vI ((x,t)::rest)) 0 n1 n2 ps x t ht [47] _ _ q rfl hx0 hqv h0 (gh _ h0 (by have:=ox.2.1;simp only[Mx];omega)) hj hn w).st (F:=fl [(lf,oL [] 0),(so,oI 484 sd),(sd,aD w.params sN k [.ref (n0+ab),.none,.int 0 pv,.int 0 nt] 4),(n0+ab,oD [] 0)] []) (by omega) λch=>?_
  have e1:gw x ⟨[],[],[]⟩=some ⟨cw [] x,[],[]⟩:=by
   unfold gw;rw[hx0];rfl
  have l:=kK ⟨it,loc,ca,rw,pc,lf,so,sd,n0,k,kx kk 4 [nZ ch 1],vI ((x,t)::rest),n1,n2,ps,pv,nt⟩ w ((x,t)::rest) rfl ⟨hs,ls,g⟩ rest ⟨cw [] x,nZ ch 9,[],0,0,.int x t,[],1⟩ rfl (λp hp=>ho p (.tail _ hp)) ⟨hB w0 x ox (by simp),λ_ h=>nomatch h⟩ (by
   have hq:(gw x ⟨[],[],[]⟩).bind (λq=>ga (rest.map (·.1)) q)=some _:=hq;rw[e1]at hq;exact hq)
  exact ak.mono l λr N h=>⟨N,⟨h.1,let⟨i,S,p⟩:=h.2;⟨_,i,S,p⟩⟩,.refl _⟩
 .rintro r N ⟨rfl,tk,i,S',e1,rfl⟩;obtain⟨hs0,hn,ls0,n3,n,xv,ns,j⟩:=S';obtain⟨u,hu⟩:=wY g (ns,n,hn,i,tk,xv,oL (vT (bM ls0)) n3) (congrArg PG.g e1);refine⟨u,rfl,?_⟩;have eh:hs0=hs:=congrArg PG.hs e1;subst eh;simp only[qU,hu];exact .refl _
end
noncomputable def JO(l:Addr)(vs:List Value)(n:Nat)(x:Value)(b:Bool):Tr:=⟨[],λ_=>[],λ_=>[],.call (.builtin "list.__contains__") ⟨[.ref l,x],[]⟩,[(l,oL vs n)],λ_=>.ok (.ret (.bool b)),λ_=>[oL vs n],λ_=>[]⟩
noncomputable def JB(x:Int):Value->Bool
 |.int a _=>a==x
 |_=>false
theorem AY{w:World}{hb:Md}{lv:Nat}(l:Addr)(row:List (Int×Tok))(n:Nat)(x:Int)(t:Tok)(b:Bool)(h:(row.map (·.1)).any (·==x)=b):af w hb lv (JO l (vI row) n (.int x t) b):=by
 refine⟨λMt os G A s R hA C H=>?_,λ_=>⟨rfl,rfl⟩⟩;have ho:=(C.own _ (.head _)).1;have e:(Array.mk (vI row)).any (JB x)=b:=by
  rw[<-h,<-QL];unfold vI;rw[List.any_map,List.any_map];rfl
 refine bu PySem.F.slot_list_contains ⟨_,ho,rfl⟩ PySem.F.entry_list_contains (PySem.F.args_list_contains_2 _ _) (MeetsSeq.list_contains l ⟨vI row⟩ n (.int x t) (JB x) λy hy=>?_) ⟨ho,?_⟩
 .obtain⟨p,_,rfl⟩:=ML.mp (by simpa using hy:y∈vI row);exact MeetsSeq.EqGives.int _ _ _ _
 .rw[e];exact H u0 s C
noncomputable def nk{w:World}(i:Nat){row:List (Int×Tok)}{k:Int}{b:Bool}(h:(row.map (·.1)).any (·==k)=b):RP w:=rX mF [i] (λL c=>some (JO (aA L 0) (vI row) (BK (oA L 0)) (.int k (BG c 1)) b)) λL c x e=>by
 cases e;exact AY _ _ _ _ _ _ h
noncomputable abbrev bm:Stmt:=aP E5 2
noncomputable abbrev bv:List Stmt:=ao bm
noncomputable def av:List (List Nat):=[[114,111,119],[108,97,115,116],[114,117,110,115],[106],[107],[119,111,114,100],[113],[112]]
noncomputable abbrev jZ:Stmt:=aP bv 2
noncomputable abbrev iu:Expr:=bc (aE jZ) 0
noncomputable abbrev jY:Expr:=bc (aE jZ) 1
section
section
variable(it loc rw la rs:Addr)(kk:Nat->Tok)(jj:Int)(jt:Tok)(z:Value×Value×Value×Value)(row last:List (Int×Tok))(n m:Nat)(v left x:Int)(t:Tok)(w:World)
noncomputable def LO(hl:decide (left<=0)=false)(h0:0<=v)(hf:Builtin.List.listFitsIndex v=true)(hx:(vI row)[v.toNat]?=some (.int x t))(hi:(last.map (·.1)).any (·==x)=true)(hp:decide (x>0)=true)(w:World):=
 aq (mT) 60 (λP=>di (cq bm) (.ref it) (bv.take 2) (aH loc))
 (λP=>[(it,aY v left),(loc,frm P av kk [.ref rw,.ref la,.ref rs,.int jj jt,z.1,z.2.1,z.2.2.1,z.2.2.2] 8),(rw,oL (vI row) n),(la,oL (vI last) m)]) (λP=>[])
 0x618618c10a10a10a2822422492461861841071c71861082061071c7186186105 (λw=>[gu 0 hl,b6 2 h0 hf hx,nk 3 hi,b6 2 h0 hf hx,dX hp,bX 5 4,bX 5 4,f6 5 4])
 [0,1,2,3] [] (λP ch=>.ok true) (λP ch=>[(it,aY (v+1) (left-1)),(loc,frm P av kk [.ref rw,.ref la,.ref rs,.int jj jt,.int v (nZ ch 0),.str (T [101,113,117,97,108]) (nZ ch 7),.int jj jt,.int v (nZ ch 0)] 8),(rw,oL (vI row) n),(la,oL (vI last) m)]) (λP ch=>[]) w
noncomputable def LR(hl:decide (left<=0)=false)(h0:0<=v)(hf:Builtin.List.listFitsIndex v=true)(hx:(vI row)[v.toNat]?=some (.int x t))(hi:(last.map (·.1)).any (·==x)=true)(hp:decide (x>0)=false)(w:World):=
 aq (mT) 60 (λP=>di (cq bm) (.ref it) (bv.take 2) (aH loc))
 (λP=>[(it,aY v left),(loc,frm P av kk [.ref rw,.ref la,.ref rs,.int jj jt,z.1,z.2.1,z.2.2.1,z.2.2.2] 8),(rw,oL (vI row) n),(la,oL (vI last) m)]) (λP=>[])
 0x618618c10a10a10a2822422492461861841071c71861082061071c7186186105 (λw=>[gu 0 hl,b6 2 h0 hf hx,nk 3 hi,b6 2 h0 hf hx,dX hp,bX 5 4,bX 5 4,f6 5 4])
 [0,1,2,3] [] (λP ch=>.ok true) (λP ch=>[(it,aY (v+1) (left-1)),(loc,frm P av kk [.ref rw,.ref la,.ref rs,.int jj jt,.int v (nZ ch 0),.str (T [100,101,108,101,116,101]) (nZ ch 7),.int jj jt,.int v (nZ ch 0)] 8),(rw,oL (vI row) n),(la,oL (vI last) m)]) (λP ch=>[]) w
noncomputable def LQ(hl:decide (left<=0)=false)(h0:0<=v)(hf:Builtin.List.listFitsIndex v=true)(hx:(vI row)[v.toNat]?=some (.int x t))(hi:(last.map (·.1)).any (·==x)=false)(w:World):=
 aq (mT) 60 (λP=>di (cq bm) (.ref it) (bv.take 2) (aH loc))
 (λP=>[(it,aY v left),(loc,frm P av kk [.ref rw,.ref la,.ref rs,.int jj jt,z.1,z.2.1,z.2.2.1,z.2.2.2] 8),(rw,oL (vI row) n),(la,oL (vI last) m)]) (λP=>[])
 0x18618630428428428a0890892491861861082061071c7186186105 (λw=>[gu 0 hl,b6 2 h0 hf hx,nk 3 hi,bX 5 4,bX 5 4,f6 5 4])
 [0,1,2,3] [] (λP ch=>.ok true) (λP ch=>[(it,aY (v+1) (left-1)),(loc,frm P av kk [.ref rw,.ref la,.ref rs,.int jj jt,.int v (nZ ch 0),.str (T [100,101,108,101,116,101]) (nZ ch 4),.int jj jt,.int v (nZ ch 0)] 8),(rw,oL (vI row) n),(la,oL (vI last) m)]) (λP ch=>[]) w
noncomputable def I7(hl:decide (left<=0)=false)(h0:0<=v)(hf:Builtin.List.listFitsIndex v=true)(hx:(vI row)[v.toNat]?=some (.int x t))(hi:(last.map (·.1)).any (·==x)=true)(hp:decide (x>0)=true)(w:World):=
 aq (mT) 60 (λP=>di (cq bm) (.ref it) (bv.take 2) (aH loc))
 (λP=>[(it,aY v left),(loc,frm P av kk [.ref rw,.ref la,.ref rs,.int jj jt] 4),(rw,oL (vI row) n),(la,oL (vI last) m)]) (λP=>[])
 0x618618c10a10a10a2822422492461861841071c71861082061071c7186186105 (λw=>[gu 0 hl,b6 2 h0 hf hx,nk 3 hi,b6 2 h0 hf hx,dX hp,bX 5 4,bX 5 4,f6 5 4])
 [0,1,2,3] [] (λP ch=>.ok true) (λP ch=>[(it,aY (v+1) (left-1)),(loc,frm P av (kx kk 4 [nZ ch 1,nZ ch 8,nZ ch 14,nZ ch 15]) [.ref rw,.ref la,.ref rs,.int jj jt,.int v (nZ ch 0),.str (T [101,113,117,97,108]) (nZ ch 7),.int jj jt,.int v (nZ ch 0)] 8),(rw,oL (vI row) n),(la,oL (vI last) m)]) (λP ch=>[]) w
noncomputable def I9(hl:decide (left<=0)=false)(h0:0<=v)(hf:Builtin.List.listFitsIndex v=true)(hx:(vI row)[v.toNat]?=some (.int x t))(hi:(last.map (·.1)).any (·==x)=true)(hp:decide (x>0)=false)(w:World):=
 aq (mT) 60 (λP=>di (cq bm) (.ref it) (bv.take 2) (aH loc))
 (λP=>[(it,aY v left),(loc,frm P av kk [.ref rw,.ref la,.ref rs,.int jj jt] 4),(rw,oL (vI row) n),(la,oL (vI last) m)]) (λP=>[])
 0x618618c10a10a10a2822422492461861841071c71861082061071c7186186105 (λw=>[gu 0 hl,b6 2 h0 hf hx,nk 3 hi,b6 2 h0 hf hx,dX hp,bX 5 4,bX 5 4,f6 5 4])
 [0,1,2,3] [] (λP ch=>.ok true) (λP ch=>[(it,aY (v+1) (left-1)),(loc,frm P av (kx kk 4 [nZ ch 1,nZ ch 8,nZ ch 14,nZ ch 15]) [.ref rw,.ref la,.ref rs,.int jj jt,.int v (nZ ch 0),.str (T [100,101,108,101,116,101]) (nZ ch 7),.int jj jt,.int v (nZ ch 0)] 8),(rw,oL (vI row) n),(la,oL (vI last) m)]) (λP ch=>[]) w
noncomputable def I8(hl:decide (left<=0)=false)(h0:0<=v)(hf:Builtin.List.listFitsIndex v=true)(hx:(vI row)[v.toNat]?=some (.int x t))(hi:(last.map (·.1)).any (·==x)=false)(w:World):=
 aq (mT) 60 (λP=>di (cq bm) (.ref it) (bv.take 2) (aH loc))
 (λP=>[(it,aY v left),(loc,frm P av kk [.ref rw,.ref la,.ref rs,.int jj jt] 4),(rw,oL (vI row) n),(la,oL (vI last) m)]) (λP=>[])
 0x18618630428428428a0890892491861861082061071c7186186105 (λw=>[gu 0 hl,b6 2 h0 hf hx,nk 3 hi,bX 5 4,bX 5 4,f6 5 4])
 [0,1,2,3] [] (λP ch=>.ok true) (λP ch=>[(it,aY (v+1) (left-1)),(loc,frm P av (kx kk 4 [nZ ch 1,nZ ch 5,nZ ch 11,nZ ch 12]) [.ref rw,.ref la,.ref rs,.int jj jt,.int v (nZ ch 0),.str (T [100,101,108,101,116,101]) (nZ ch 4),.int jj jt,.int v (nZ ch 0)] 8),(rw,oL (vI row) n),(la,oL (vI last) m)]) (λP ch=>[]) w
noncomputable def LP(loc:Addr)(io ro lo:Obj)(kk:Nat->Tok)(jj k:Int)(jt kt wt:Tok)(wd:List Nat)(p q:Value)(w:World):=
 aq (mT) 60 (λP=>dm (bc iu 0) (aH loc))
 (λP=>[(it,io),(loc,frm P av kk [.ref rw,.ref la,.ref rs,.int jj jt,.int k kt,.str (T wd) wt,q,p] 8),(rw,ro),(la,lo)]) (λP=>[])
 6 (λw=>[])
 [0,1,2,3] [] (λP ch=>.ok (.ref rs)) (λP ch=>[(it,io),(loc,frm P av kk [.ref rw,.ref la,.ref rs,.int jj jt,.int k kt,.str (T wd) wt,q,p] 8),(rw,ro),(la,lo)]) (λP ch=>[]) w
noncomputable def JI:=
 aq (mT) 60 (λP=>dm (bc iu 1) (aH loc))
 (λP=>[]) (λP=>[])
 0 (λw=>[])
 [0] [] (λP ch=>.ok (.ref (aZ ch 0))) (λP ch=>[(aZ ch 0,oL [] 0)]) (λP ch=>[]) w
noncomputable def LS(loc:Addr)(io ro lo:Obj)(kk:Nat->Tok)(jj k:Int)(jt kt wt:Tok)(wd:List Nat)(p q:Value)(ta:Addr)(vs:List Value)(n:Nat)(wa:List Nat)(wb t1 t2 t3 t4:Tok)(i1 i2 i3 i4:Int)(he:((T wa).cps.toList==(T wd).cps.toList)=true)(w:World):=
 aq (mT) 60 (λP=>kB jY (aH loc))
 (λP=>[(it,io),(loc,frm P av kk [.ref rw,.ref la,.ref rs,.int jj jt,.int k kt,.str (T wd) wt,q,p] 8),(rw,ro),(la,lo),(rs,oL (vs++[.ref ta]) n),(ta,aj [.str (T wa) wb,.int i1 t1,.int i2 t2,.int i3 t3,.int i4 t4])]) (λP=>[])
 0x418228228228a284249242086 (λw=>[rF 0 [4] [] λhh=>c8 rs vs n (nZ hh 1) (.ref ta),rF 0 [] [] λhh=>bW (T wa) (T wd) wb wt true he])
 [0,1,2,3,4,5] [] (λP ch=>.ok true) (λP ch=>[(it,io),(loc,frm P av kk [.ref rw,.ref la,.ref rs,.int jj jt,.int k kt,.str (T wd) wt,q,p] 8),(rw,ro),(la,lo),(rs,oL (vs++[.ref ta]) n),(ta,aj [.str (T wa) wb,.int i1 t1,.int i2 t2,.int i3 t3,.int i4 t4])]) (λP ch=>[]) w
noncomputable def LN(loc:Addr)(io ro lo:Obj)(kk:Nat->Tok)(jj k:Int)(jt kt wt:Tok)(wd:List Nat)(p q:Value)(ta:Addr)(vs:List Value)(n:Nat)(wa:List Nat)(wb t1 t2 t3 t4:Tok)(i1 i2 i3 i4:Int)(he:((T wa).cps.toList==(T wd).cps.toList)=false)(w:World):=
 aq (mT) 60 (λP=>kB jY (aH loc))
 (λP=>[(it,io),(loc,frm P av kk [.ref rw,.ref la,.ref rs,.int jj jt,.int k kt,.str (T wd) wt,q,p] 8),(rw,ro),(la,lo),(rs,oL (vs++[.ref ta]) n),(ta,aj [.str (T wa) wb,.int i1 t1,.int i2 t2,.int i3 t3,.int i4 t4])]) (λP=>[])
 0x418228228228a284249242086 (λw=>[rF 0 [4] [] λhh=>c8 rs vs n (nZ hh 1) (.ref ta),rF 0 [] [] λhh=>bW (T wa) (T wd) wb wt false he])
 [0,1,2,3,4,5] [] (λP ch=>.ok false) (λP ch=>[(it,io),(loc,frm P av kk [.ref rw,.ref la,.ref rs,.int jj jt,.int k kt,.str (T wd) wt,q,p] 8),(rw,ro),(la,lo),(rs,oL (vs++[.ref ta]) n),(ta,aj [.str (T wa) wb,.int i1 t1,.int i2 t2,.int i3 t3,.int i4 t4])]) (λP ch=>[]) w
noncomputable def LM(loc:Addr)(io ro lo:Obj)(kk:Nat->Tok)(jj k:Int)(jt kt wt:Tok)(wd:List Nat)(p q:Value)(ta:Addr)(vs:List Value)(n:Nat)(wa:List Nat)(wb t1 t2 t3 t4:Tok)(i1 i2 i3 i4:Int)(hlen:vs.length<=1000)(w:World):=
 aq (mT) 60 (λP=>aX (ao jZ) (aH loc))
 (λP=>[(it,io),(loc,frm P av kk [.ref rw,.ref la,.ref rs,.int jj jt,.int k kt,.str (T wd) wt,q,p] 8),(rw,ro),(la,lo),(rs,oL (vs++[.ref ta]) n),(ta,aj [.str (T wa) wb,.int i1 t1,.int i2 t2,.int i3 t3,.int i4 t4])]) (λP=>[])
 0x210924924618618638430430430c08b08b2cb08a08a08a28a10924908218228228228a284249242086 (λw=>[rF 0 [4] [] λhh=>c8 rs vs n (nZ hh 1) (.ref ta),rF 0 [4] [] λhh=>c8 rs vs n (nZ hh 5) (.ref ta),bX 7 6,bX 7 6,f6 7 6,rF 0 [4] [] λhh=>jB rs vs n (.ref ta) (by omega)])
 [0,1,2,3,4] [] (λP ch=>.ok true) (λP ch=>[(it,io),(loc,frm P av kk [.ref rw,.ref la,.ref rs,.int jj jt,.int k kt,.str (T wd) wt,.int i3 t3,.int i1 t1] 8),(rw,ro),(la,lo),(rs,oL vs (n+1))]) (λP ch=>[]) w
noncomputable def LV(loc:Addr)(io ro lo:Obj)(kk:Nat->Tok)(jj k p q:Int)(jt kt wt pt qt:Tok)(vs:List Value)(n:Nat)(hlen:vs.length<=1000)(w:World):=
 aq (mT) 60 (λP=>kd (bv.drop 3) (aH loc))
 (λP=>[(it,io),(loc,frm P av kk [.ref rw,.ref la,.ref rs,.int jj jt,.int k kt,.str (T [101,113,117,97,108]) wt,.int q qt,.int p pt] 8),(rw,ro),(la,lo),(rs,oL vs n)]) (λP=>[])
 0x106182086186249249186182086106 (λw=>[rF 0 [] [] λhh=>bW (T [101,113,117,97,108]) (T [101,113,117,97,108]) wt (nZ hh 0) true rfl,dF 4 (vs:=vs) (by omega)])
 [0,1,2,3,4,5] [] (λP ch=>.ok PySem.Flow.next) (λP ch=>[(it,io),(loc,frm P av kk [.ref rw,.ref la,.ref rs,.int (jj+1) (nZ ch 3),.int k kt,.str (T [101,113,117,97,108]) wt,.int q qt,.int p pt] 8),(rw,ro),(la,lo),(rs,oL (vs++[.ref (aZ ch 7)]) (n+1)),(aZ ch 7,aj [.str (T [101,113,117,97,108]) wt,.int p pt,.int (k+1) (nZ ch 6),.int q qt,.int (jj+1) (nZ ch 3)])]) (λP ch=>[]) w
noncomputable def LW(loc:Addr)(io ro lo:Obj)(kk:Nat->Tok)(jj k p q:Int)(jt kt wt pt qt:Tok)(vs:List Value)(n:Nat)(hlen:vs.length<=1000)(w:World):=
 aq (mT) 60 (λP=>kd (bv.drop 3) (aH loc))
 (λP=>[(it,io),(loc,frm P av kk [.ref rw,.ref la,.ref rs,.int jj jt,.int k kt,.str (T [100,101,108,101,116,101]) wt,.int q qt,.int p pt] 8),(rw,ro),(la,lo),(rs,oL vs n)]) (λP=>[])
 0x4186082186189249246106 (λw=>[rF 0 [] [] λhh=>bW (T [100,101,108,101,116,101]) (T [101,113,117,97,108]) wt (nZ hh 0) false rfl,dF 4 (vs:=vs) (by omega)])
 [0,1,2,3,4,5] [] (λP ch=>.ok PySem.Flow.next) (λP ch=>[(it,io),(loc,frm P av kk [.ref rw,.ref la,.ref rs,.int jj jt,.int k kt,.str (T [100,101,108,101,116,101]) wt,.int q qt,.int p pt] 8),(rw,ro),(la,lo),(rs,oL (vs++[.ref (aZ ch 4)]) (n+1)),(aZ ch 4,aj [.str (T [100,101,108,101,116,101]) wt,.int p pt,.int (k+1) (nZ ch 3),.int q qt,.int jj jt])]) (λP ch=>[]) w
noncomputable def I6(hl:decide (left<=0)=true)(w:World):=
 cY (mT) 60 (λP=>aG bm it (aH loc))
 (λP=>[(it,aY v left)]) (λP=>[])
 35406146 (λw=>[EV 0 hl])
 [0] [] (λP ch=>(.ok .next)) (λP ch=>[(it,aY v left)]) (λP ch=>[]) w
end
end
noncomputable abbrev RQ:=Bool×Int×Int×Int×Int
noncomputable def fI(last:List Int)(x:Int):Bool:=last.any (·==x)&&decide (x>0)
noncomputable def oo(b:Bool)(j:Int):Int:=bif b then j+1 else j
noncomputable def dh(last:List Int)(x k:Int)(q:List RQ×Int):List RQ×Int:=match q.1 with
 |r::rs=>bif r.1==fI last x then((fI last x,r.2.1,k+1,r.2.2.2.1,oo (fI last x) q.2)::rs,oo (fI last x) q.2)else((fI last x,k,k+1,q.2,oo (fI last x) q.2)::r::rs,oo (fI last x) q.2)
 |[]=>([(fI last x,k,k+1,q.2,oo (fI last x) q.2)],oo (fI last x) q.2)
noncomputable def qN(last:List Int):Int->List Int->List RQ×Int->List RQ×Int
 |_,[],q=>q
 |k,x::l,q=>qN last (k+1) l (dh last x k q)
noncomputable abbrev RC:=RQ×Addr×Tok×Tok×Tok×Tok×Tok
noncomputable def aJ:Bool->List Nat
 |true=>[101,113,117,97,108]
 |false=>[100,101,108,101,116,101]
noncomputable def cP(r:RC):Addr×Obj:=(r.2.1,aj [.str (T (aJ r.1.1)) r.2.2.1,.int r.1.2.1 r.2.2.2.1,.int r.1.2.2.1 r.2.2.2.2.1,.int r.1.2.2.2.1 r.2.2.2.2.2.1,.int r.1.2.2.2.2 r.2.2.2.2.2.2])
noncomputable def bV(rs:List RC):List Value:=(rs.map λr=>Value.ref r.2.1).reverse
theorem cL(r:RC)(rs:List RC):bV (r::rs)=bV rs++[.ref r.2.1]:=by
 unfold bV;rw[Ml,Pg]
theorem g5(rs:List RC):(bV rs).length=rs.length:=by
 unfold bV;rw[OX,Mc]
theorem nJ(v:Value)(it:Value):letOwnedTupleGo (cq bm) it v=pure ():=by kernel_rfl
noncomputable abbrev fu:Stmt:=.If (.BoolOp .And [.Compare (bc iu 0) [.NotEq] [bc iu 1] iu.pos,jY] (aE jZ).pos) (ao jZ) [] jZ.pos
theorem kZ:bv=bv.take 2++fu::bv.drop 3:=by kernel_rfl
theorem jc:∀a b:Bool,((T (aJ a)).cps.toList==(T (aJ b)).cps.toList)=(a==b):=by decide
structure RA where
 it:Addr
 loc:Addr
 rw:Addr
 la:Addr
 rs:Addr
noncomputable def sk(P:Params)(A:RA)(row last:List (Int×Tok))(n m:Nat)(v left:Int)(o:Obj)(rs:List RC)(e:Nat):ah:=
 [(A.it,aY v left),(A.loc,o),(A.rw,oL (vI row) n),(A.la,oL (vI last) m),(A.rs,oL (bV rs) e)]++rs.map cP
noncomputable def uR(P:Params)(A:RA)(j:Int)(o:Obj):Prop:=(et λkk jt=>o=frm P av kk [.ref A.rw,.ref A.la,.ref A.rs,.int j jt] 4)\/sM λkk jt z1 z2 z3 z4=>o=frm P av kk [.ref A.rw,.ref A.la,.ref A.rs,.int j jt,z1,z2,z3,z4] 8
noncomputable def jO(P:Params)(A:RA)(j:Int)(o:Obj):Prop:=sM λkk jt z1 z2 z3 z4=>o=frm P av kk [.ref A.rw,.ref A.la,.ref A.rs,.int j jt,z1,z2,z3,z4] 8
section
variable(w:World)(A:RA)(row last:List (Int×Tok))(n m:Nat)
theorem I3(v left j x:Int)(t:Tok)(o:Obj)(F:ah)(ho:uR w.params A j o)(hl:decide (left<=0)=false)(h0:0<=v)(hf:Builtin.List.listFitsIndex v=true)(hx:(vI row)[v.toNat]?=some (.int x t)):
  TR w mT 60 (di (cq bm) (.ref A.it) (bv.take 2) (aH A.loc)) ([(A.it,aY v left),(A.loc,o),(A.rw,oL (vI row) n),(A.la,oL (vI last) m)]++F)
   λa N=>iJ λkk jt kt wt=>N=[(A.it,aY (v+1) (left-1)),(A.loc,frm w.params av kk [.ref A.rw,.ref A.la,.ref A.rs,.int j jt,.int v kt,.str (T (aJ (fI (last.map (·.1)) x))) wt,.int j jt,.int v kt] 8),(A.rw,oL (vI row) n),(A.la,oL (vI last) m)]++F:=by
 unfold fI;cases hi:(last.map (·.1)).any (·==x)with
 |false=>
  rcases ho with⟨kk,jt,rfl⟩ |⟨kk,jt,z1,z2,z3,z4,rfl⟩
  .exact((I8 A.it A.loc A.rw A.la A.rs kk j jt row last n m v left x t hl h0 hf hx hi w).tr (Me _) λ_=>rfl).mono λa N h=>h.elim λch h=>⟨N,⟨_,_,_,_,h.2⟩,.refl _⟩
  .exact((LQ A.it A.loc A.rw A.la A.rs kk j jt (z1,z2,z3,z4) row last n m v left x t hl h0 hf hx hi w).tr (Me _) λ_=>rfl).mono λa N h=>h.elim λch h=>⟨N,⟨_,_,_,_,h.2⟩,.refl _⟩
 |true=>cases hp:decide (x>0)with
  |false=>
   rcases ho with⟨kk,jt,rfl⟩ |⟨kk,jt,z1,z2,z3,z4,rfl⟩
   .exact((I9 A.it A.loc A.rw A.la A.rs kk j jt row last n m v left x t hl h0 hf hx hi hp w).tr (Me _) λ_=>rfl).mono λa N h=>h.elim λch h=>⟨N,⟨_,_,_,_,h.2⟩,.refl _⟩
   .exact((LR A.it A.loc A.rw A.la A.rs kk j jt (z1,z2,z3,z4) row last n m v left x t hl h0 hf hx hi hp w).tr (Me _) λ_=>rfl).mono λa N h=>h.elim λch h=>⟨N,⟨_,_,_,_,h.2⟩,.refl _⟩
  |true=>
   rcases ho with⟨kk,jt,rfl⟩ |⟨kk,jt,z1,z2,z3,z4,rfl⟩
   .exact((I7 A.it A.loc A.rw A.la A.rs kk j jt row last n m v left x t hl h0 hf hx hi hp w).tr (Me _) λ_=>rfl).mono λa N h=>h.elim λch h=>⟨N,⟨_,_,_,_,h.2⟩,.refl _⟩
   .exact((LO A.it A.loc A.rw A.la A.rs kk j jt (z1,z2,z3,z4) row last n m v left x t hl h0 hf hx hi hp w).tr (Me _) λ_=>rfl).mono λa N h=>h.elim λch h=>⟨N,⟨_,_,_,_,h.2⟩,.refl _⟩
theorem I4(io:Obj)(b:Bool)(kk:Nat->Tok)(j v p q:Int)(jt kt wt pt qt:Tok)(rs:List RC)(e:Nat)(hl:rs.length<=1000):
  TR w mT 60 (execs (bv.drop 3) (aH A.loc)) ([(A.it,io),(A.loc,frm w.params av kk [.ref A.rw,.ref A.la,.ref A.rs,.int j jt,.int v kt,.str (T (aJ b)) wt,.int q qt,.int p pt] 8),(A.rw,oL (vI row) n),(A.la,oL (vI last) m),(A.rs,oL (bV rs) e)]++rs.map cP)
   λf N=>f=.next/\gc λ(r:RC) (o':Obj) (e':Nat)=>r.1=(b,p,v+1,q,oo b j)/\jO w.params A (oo b j) o'/\N=[(A.it,io),(A.loc,o'),(A.rw,oL (vI row) n),(A.la,oL (vI last) m),(A.rs,oL (bV (r::rs)) e')]++(r::rs).map cP:=by
 have hv:(bV rs).length<=1000:=by rw[g5];exact hl
 refine TR.ex ?_;cases b with
 |true=>
  refine((LV A.it A.rw A.la A.rs A.loc io (oL (vI row) n) (oL (vI last) m) kk j v p q jt kt wt pt qt (bV rs) e hv w).tr (Me _) λ_=>rfl).mono λa N h=>h.elim λch h=>⟨N,⟨h.1,((true,p,v+1,q,j+1),aZ ch 7,wt,pt,nZ ch 6,qt,nZ ch 3),frm w.params av kk [.ref A.rw,.ref A.la,.ref A.rs,.int (j+1) (nZ ch 3),.int v kt,.str (T (aJ true)) wt,.int q qt,.int p pt] 8,e+1,rfl,⟨_,_,_,_,_,_,rfl⟩,?_⟩,.refl _⟩
  rw[h.2,cL];rfl
 |false=>
  refine((LW A.it A.rw A.la A.rs A.loc io (oL (vI row) n) (oL (vI last) m) kk j v p q jt kt wt pt qt (bV rs) e hv w).tr (Me _) λ_=>rfl).mono λa N h=>h.elim λch h=>⟨N,⟨h.1,((false,p,v+1,q,j),aZ ch 4,wt,pt,nZ ch 3,qt,jt),frm w.params av kk [.ref A.rw,.ref A.la,.ref A.rs,.int j jt,.int v kt,.str (T (aJ false)) wt,.int q qt,.int p pt] 8,e+1,rfl,⟨_,_,_,_,_,_,rfl⟩,?_⟩,.refl _⟩
  rw[h.2,cL];rfl
noncomputable def nE(r:RC):PyData:=.tuple [.str (T (aJ r.1.1)),.int r.1.2.1,.int r.1.2.2.1,.int r.1.2.2.2.1,.int r.1.2.2.2.2]
theorem yh(r:RC):(nE r).canLay0=true:=by
 have h:∀b,PyData.strOk (T (aJ b))=true:=by decide+kernel
 unfold nE;simp only[PyData.canLay0,PyData.canLayAll0,h,Bool.and_self]
theorem sh(r:RC):(nE r).depth<=3:=by
 unfold nE;simp[PyData.depth,PyData.depthAll]
theorem Bo{N:ah}(r:RC)(h:cP r∈N):iw N (.ref r.2.1) (nE r):=iw.tup h ⟨.str _ _,.int _ _,.int _ _,.int _ _,.int _ _,trivial⟩
theorem l0{N:ah}{rs:List RC}{a:Addr}{e:Nat}(hm:(a,oL (bV rs) e)∈N)(h:∀r∈rs,cP r∈N):iw N (.ref a) (.list (rs.reverse.map nE)):=iw.list hm (by
 unfold bV;rw[<-Pz];exact sO.of _ λr hr=>Bo r (h r (Ps.mp hr)))
theorem g6(rs:List RC):(PyData.list (rs.reverse.map nE)).canLay0=true:=tc _ λr _=>yh r
theorem iq(rs:List RC):(PyData.list (rs.reverse.map nE)).depth<=20:=by
 show PyData.depthAll _+1<=20;have:=iB (g:=nE) (k:=3) rs.reverse λr _=>sh r
 omega
noncomputable def zt(b:Bool):List RC->Bool
 |r::_=>r.1.1==b
 |[]=>false
theorem pp(io:Obj)(b:Bool)(kk:Nat->Tok)(j v:Int)(jt kt wt:Tok)(p q:Value)(rs:List RC)(e:Nat):
  TR w mT 60 (isTrue (aE fu) (aH A.loc) (eval (aE fu) (aH A.loc))) ([(A.it,io),(A.loc,frm w.params av kk [.ref A.rw,.ref A.la,.ref A.rs,.int j jt,.int v kt,.str (T (aJ b)) wt,q,p] 8),(A.rw,oL (vI row) n),(A.la,oL (vI last) m),(A.rs,oL (bV rs) e)]++rs.map cP)
   λc N=>c=zt b rs/\N=[(A.it,io),(A.loc,frm w.params av kk [.ref A.rw,.ref A.la,.ref A.rs,.int j jt,.int v kt,.str (T (aJ b)) wt,q,p] 8),(A.rw,oL (vI row) n),(A.la,oL (vI last) m),(A.rs,oL (bV rs) e)]++rs.map cP:=by
 refine TR.isAnd (Q1:=λc N=>c= !rs.isEmpty/\N=[(A.it,io),(A.loc,frm w.params av kk [.ref A.rw,.ref A.la,.ref A.rs,.int j jt,.int v kt,.str (T (aJ b)) wt,q,p] 8),(A.rw,oL (vI row) n),(A.la,oL (vI last) m),(A.rs,oL (bV rs) e)]++rs.map cP) ?_ ?_ ?_
 .refine TR.isNe (by kernel_rfl) (by decide) ((LP A.it A.rw A.la A.rs A.loc io (oL (vI row) n) (oL (vI last) m) kk j v jt kt wt (aJ b) p q w).tr (F:=[(A.rs,oL (bV rs) e)]++rs.map cP) (Me _) λ_=>rfl) (λa N h=>h.elim λ_ h=>((JI A.loc w).tr (F:=N) (Me _) λ_=>rfl).mono λb' N' h'=>h'.elim λch h'=>⟨N',⟨h.1,_,h'.1,h'.2.trans (by rw[h.2];rfl)⟩,.refl _⟩) ?_ (Q2:=λa b' N=>a=.ref A.rs/\∃k,b'=.ref k/\N=(k,oL [] 0)::([(A.it,io),(A.loc,frm w.params av kk [.ref A.rw,.ref A.la,.ref A.rs,.int j jt,.int v kt,.str (T (aJ b)) wt,q,p] 8),(A.rw,oL (vI row) n),(A.la,oL (vI last) m),(A.rs,oL (bV rs) e)]++rs.map cP));rintro a b' N ⟨rfl,k,rfl,rfl⟩;refine⟨_,_,l0 (rs:=rs) (e:=e) (.tail _ (.tail _ (.tail _ (.tail _ (.tail _ (.head _)))))) (λr hr=>.tail _ (.tail _ (.tail _ (.tail _ (.tail _ (.tail _ (Mw hr))))))),iw.list (ds:=[]) (.head _) trivial,g6 rs,rfl,iq rs,_,[(k,oL [] 0)],(Mz (l₁:=[(k,oL [] 0)])),?_,rfl⟩;have:PyData.eqv (.list (rs.reverse.map nE)) (.list [])=rs.isEmpty:=by
   rw[PyData.eqv,<-Qs];cases rs.reverse<;>rfl
  rw[this]
 .rintro N ⟨h1,h2⟩;cases rs with
  |nil=>exact⟨rfl,h2⟩
  |cons r rs=>cases h1
 .rintro N ⟨h1,rfl⟩;cases rs with
  |nil=>cases h1
  |cons r rs=>
   rw[cL];refine TR.is ?_;cases hb:(r.1.1==b)with
   |true=>exact((LS A.it A.rw A.la A.rs A.loc io (oL (vI row) n) (oL (vI last) m) kk j v jt kt wt (aJ b) p q r.2.1 (bV rs) e (aJ r.1.1) _ _ _ _ _ _ _ _ _ (by rw[jc,hb]) w).tr (F:=rs.map cP) (Me _) λ_=>rfl).mono λa N h=>h.elim λch h=>⟨N,⟨h.1.trans hb.symm,h.2⟩,.refl _⟩
   |false=>exact((LN A.it A.rw A.la A.rs A.loc io (oL (vI row) n) (oL (vI last) m) kk j v jt kt wt (aJ b) p q r.2.1 (bV rs) e (aJ r.1.1) _ _ _ _ _ _ _ _ _ (by rw[jc,hb]) w).tr (F:=rs.map cP) (Me _) λ_=>rfl).mono λa N h=>h.elim λch h=>⟨N,⟨h.1.trans hb.symm,h.2⟩,.refl _⟩
theorem e6:aG bm A.it (aH A.loc)=.forLoop (cq bm) (.ref A.it) (bv.take 2++fu::bv.drop 3) (dQ bm) (aH A.loc):=by
 unfold aG;rw[<-kZ]
theorem g8(v left j x:Int)(t:Tok)(o:Obj)(rs:List RC)(e:Nat)(Q:Result->ah->Prop)(ho:uR w.params A j o)(hl:decide (left<=0)=false)(h0:0<=v)(hf:Builtin.List.listFitsIndex v=true)(hx:(vI row)[v.toNat]?=some (.int x t))(hr:rs.length<=1000)
  (k:∀j' o' rs' e',(rs'.map (·.1),j')=dh (last.map (·.1)) x v (rs.map (·.1),j)->jO w.params A j' o'->ak w mT 60 (aG bm A.it (aH A.loc)) (sk w.params A row last n m (v+1) (left-1) o' rs' e') Q):
  ak w mT 60 (aG bm A.it (aH A.loc)) (sk w.params A row last n m v left o rs e) Q:=by
 rw[e6];refine TR.forS (λv=>nJ v _) (I3 w A row last n m v left j x t o ((A.rs,oL (bV rs) e)::rs.map cP) ho hl h0 hf hx) ?_;rintro a N ⟨kk,jt,kt,wt,rfl⟩;generalize hb:fI (last.map (·.1)) x=b;refine TR.ifS (pp w A row last n m (aY (v+1) (left-1)) b kk j v jt kt wt (.int v kt) (.int j jt) rs e) ?_;rintro c N ⟨hc,rfl⟩;have fin:∀(p q:Int) (pt qt:Tok) (rs2:List RC) (e2:Nat),rs2.length<=1000->((b,p,v+1,q,oo b j)::rs2.map (·.1),oo b j)=dh (last.map (·.1)) x v (rs.map (·.1),j)->
   TR w mT 60 (execs (bv.drop 3) (aH A.loc)) ([(A.it,aY (v+1) (left-1)),(A.loc,frm w.params av kk [.ref A.rw,.ref A.la,.ref A.rs,.int j jt,.int v kt,.str (T (aJ b)) wt,.int q qt,.int p pt] 8),(A.rw,oL (vI row) n),(A.la,oL (vI last) m),(A.rs,oL (bV rs2) e2)]++rs2.map cP)
    λf N=>match f with |.next |.cont=>ak w mT 60 (.forLoop (cq bm) (.ref A.it) (bv.take 2++fu::bv.drop 3) (dQ bm) (aH A.loc)) N Q |.brk=>Q (.ok .next) N |.ret v=>Q (.ok (.ret v)) N:=λp q pt qt rs2 e2 hl2 he=>by
  refine(I4 w A row last n m (aY (v+1) (left-1)) b kk j v p q jt kt wt pt qt rs2 e2 hl2).mono ?_;rintro f N ⟨rfl,r,o',e',h1,h2,rfl⟩;refine⟨_,?_,.refl _⟩;show ak _ _ _ _ _ _;rw[<-e6];exact k (oo b j) o' (r::rs2) e' (by rw[Ml,h1];exact he) h2
 cases c with
 |false=>
  refine TR.nil (fin v j kt jt rs e hr ?_);cases rs with
  |nil=>simp only[dh,hb,Na]
  |cons r rs=>
   have hc:false=(r.1.1==b):=hc;simp only[dh,hb,Ml,<-hc,cond_false]
 |true=>
  cases rs with
  |nil=>cases hc
  |cons r rs=>
   have hc:true=(r.1.1==b):=hc;rw[cL];refine TR.seq1 (((LM A.it A.rw A.la A.rs A.loc (aY (v+1) (left-1)) (oL (vI row) n) (oL (vI last) m) kk j v jt kt wt (aJ b) (.int v kt) (.int j jt) r.2.1 (bV rs) e (aJ r.1.1) _ _ _ _ _ _ _ _ _ (by rw[g5];exact Oo hr) w).tr (F:=rs.map cP) (Me _) λ_=>rfl).mono ?_);rintro a N ⟨ch,_,rfl⟩;refine⟨_,fin _ _ _ _ rs (e+1) (Oo hr) ?_,.refl _⟩;simp only[dh,hb,Ml,<-hc,cond_true]
theorem ft{l:List Int}{x v j j':Int}{rs rs':List RC}(hs:(rs'.map (·.1),j')=dh l x v (rs.map (·.1),j)):rs'.length<=rs.length+1:=by
 have h2:(rs'.map (·.1)).length=(dh l x v (rs.map (·.1),j)).1.length:=by rw[<-hs]
 rw[Mc]at h2;rw[h2];unfold dh;cases rs with
 |nil=>exact Me 1
 |cons r rs=>
  simp only[Ml];cases(r.1.1==fI l x)<;>simp
theorem g7(hn:row.length<=100)(Q:Result->ah->Prop):∀(rest:List (Int×Tok)) (i:Nat) (v left j:Int) (o:Obj) (rs:List RC) (e:Nat),row.drop i=rest->v=i->left=rest.length->jO w.params A j o->rs.length+rest.length<=1000->
  (∀v' l' j' o' rs' e',(rs'.map (·.1),j')=qN (last.map (·.1)) v (rest.map (·.1)) (rs.map (·.1),j)->jO w.params A j' o'->Q (.ok .next) (sk w.params A row last n m v' l' o' rs' e'))->
  ak w mT 60 (aG bm A.it (aH A.loc)) (sk w.params A row last n m v left o rs e) Q
 |[],i,v,left,j,o,rs,e,hd,hv,hl,ho,hr,k=>(I6 A.it A.loc v left (decide_eq_true (by rw[hl];decide)) w).st (F:=[(A.loc,o),(A.rw,oL (vI row) n),(A.la,oL (vI last) m),(A.rs,oL (bV rs) e)]++rs.map cP) (Me _) λch=>k v left j o rs e rfl ho
 |(x,t)::rest,i,v,left,j,o,rs,e,hd,hv,hl,ho,hr,k=>by
  obtain⟨h1,h2⟩:=eQ hd;have hi:i<row.length:=(Mj.mp h1).1;refine g8 w A row last n m v left j x t o rs e Q (.inr ho) (decide_eq_false ?_) ?_ ?_ ?_ ?_ λj' o' rs' e' hs ho'=>?_
  .rw[hl,Mg];clear hr hd k ho hn;omega
  .rw[hv];exact MS i
  .rw[hv];exact mJ (M4 (Qd hi) hn)
  .rw[hv,cT,M0,h1];rfl
  .exact M4 (Pw _ _) hr
  .have hlen:=ft hs;refine g7 hn Q rest (i+1) (v+1) (left-1) j' o' rs' e' h2 (by rw[hv];rfl) (by rw[hl,Mg];clear hr hd k ho hn;omega) ho' (by rw[Mg]at hr;clear hn k;omega) λv' l' j2 o2 rs2 e2 h3 h4=>k v' l' j2 o2 rs2 e2 (by rw[h3,hs];rfl) h4
end
noncomputable abbrev RU:=List RC×Nat×(Nat->Tok)×Tok×Value×Value×Value×Value×Int×Int
noncomputable def bD(q:List RQ×Int)(u:U):RU:=iv (λs:RU=>s.1.map (·.1)=q.1) (q.1.map (λx=>(x,0,0,0,0,0,0)),0,λ_=>0,0,.none,.none,.none,.none,0,0) u
theorem qL(q:List RQ×Int)(u:U):(bD q u).1.map (·.1)=q.1:=fv (p:=λs:RU=>s.1.map (·.1)=q.1) (by rw[MA];exact Od _) u
theorem lZ(q:List RQ×Int)(s:RU)(hs:s.1.map (·.1)=q.1)(n:Nat->Nat):∃u,u.n=n/\bD q u=s:=va (p:=λs:RU=>s.1.map (·.1)=q.1) _ hs n
noncomputable def bf(row last:List Int):List RQ×Int:=qN last 0 row ([],0)
noncomputable def n7(P:Params)(it loc rw la rs:Addr)(kk:Nat->Tok)(jt:Tok)(row last:List (Int×Tok))(n m:Nat)(left:Int)(q:List RQ×Int):Tr:=
 ⟨[],λ_=>[],λu=>[(bD q u).1.map cP],aG bm it (aH loc),[(it,aY 0 left),(loc,frm P av kk [.ref rw,.ref la,.ref rs,.int 0 jt] 4),(rw,oL (vI row) n),(la,oL (vI last) m),(rs,oL [] 0)],λ_=>.ok .next,λu=>[aY (bD q u).2.2.2.2.2.2.2.2.1 (bD q u).2.2.2.2.2.2.2.2.2,frm P av (bD q u).2.2.1 [.ref rw,.ref la,.ref rs,.int q.2 (bD q u).2.2.2.1,(bD q u).2.2.2.2.1,(bD q u).2.2.2.2.2.1,(bD q u).2.2.2.2.2.2.1,(bD q u).2.2.2.2.2.2.2.1] 8,oL (vI row) n,oL (vI last) m,oL (bV (bD q u).1) (bD q u).2.1],λ_=>[]⟩
theorem ue(it loc rw la rs:Addr)(kk:Nat->Tok)(jt:Tok)(row last:List (Int×Tok))(n m:Nat)(left:Int)(q:List RQ×Int)(h1:1<=row.length)(hn:row.length<=100)(hl:left=row.length)(hq:bf (row.map (·.1)) (last.map (·.1))=q)(w:World):
  af w mT 60 (n7 w.params it loc rw la rs kk jt row last n m left q):=by
 subst hq;refine ak.tri (λ_=>⟨rfl,rfl⟩) (Q:=λr N=>r=.ok .next/\yA λv' l' o' rs' e'=>rs'.map (·.1)=(bf (row.map (·.1)) (last.map (·.1))).1/\jO w.params ⟨it,loc,rw,la,rs⟩ (bf (row.map (·.1)) (last.map (·.1))).2 o'/\N=sk w.params ⟨it,loc,rw,la,rs⟩ row last n m v' l' o' rs' e') ?_ ?_
 .cases row with
  |nil=>exact absurd h1 (by decide)
  |cons x row=>
   refine g8 w ⟨it,loc,rw,la,rs⟩ (x::row) last n m 0 left 0 x.1 x.2 _ [] 0 _ (.inl ⟨kk,jt,rfl⟩) (decide_eq_false ?_) (Int.le_refl 0) rfl rfl (by decide) λj' o' rs' e' hs ho'=>?_
   .rw[hl,Mg];clear hn h1;omega
   .have hlen:=ft hs;refine g7 w ⟨it,loc,rw,la,rs⟩ (x::row) last n m hn _ row 1 (0+1) (left-1) j' o' rs' e' rfl rfl (by rw[hl,Mg];clear hn h1 hlen;omega) ho' (by rw[Mg]at hn;simp only[MC]at hlen;clear h1 hl hs;omega) λv' l' j2 o2 rs2 e2 h3 h4=>?_
    have e:(rs2.map (·.1),j2)=bf ((x::row).map (·.1)) (last.map (·.1)):=by rw[h3,hs];rfl
    exact⟨rfl,v',l',o2,rs2,e2,congrArg Prod.fst e,by rw[<-e];exact h4,rfl⟩
 .rintro r N ⟨rfl,v',l',o',rs',e',h1,⟨kk',jt',z1,z2,z3,z4,rfl⟩,rfl⟩;obtain⟨u,_,hu⟩:=lZ (bf (row.map (·.1)) (last.map (·.1))) (rs',e',kk',jt',z1,z2,z3,z4,v',l') h1 λ_=>0
  refine⟨u,rfl,?_⟩;simp only[n7,hu,sk];rw[cf,Nx,M9,MU,MN,M9,Mq,Mq];exact .refl _
noncomputable def BD(P:Params)(it loc:Addr):Tr:=
 ⟨[],λ_=>[],λ_=>[],aG bm it (aH loc),[(it,aY 0 0)],λ_=>.ok .next,λ_=>[aY 0 0],λ_=>[]⟩
theorem uf(it loc:Addr)(w:World):af w mT 60 (BD w.params it loc):=
 ak.tri (λ_=>⟨rfl,rfl⟩) (I6 it loc 0 0 rfl w) λr N h=>h.elim λch h=>⟨u0,h.1,h.2▸ .refl _⟩
noncomputable def zO(P:Params)(rw la:Addr)(row last:List (Int×Tok))(n1 n2:Nat)(m:Nat)(q:List RQ×Int):Tr:=
 ⟨[],λuu=>[],λuu=>[List.map cP (bD q uu).1],.call (.ref 512) ⟨[.ref rw,.ref la],[]⟩,[(rw,oL (vI row) n1),(la,oL (vI last) n2)],λuu=>(.ok (.ret (.ref ((uu.n 0)+ab)))),λuu=>[oL (vI row) n1,oL (vI last) n2],λuu=>[((uu.n 0)+ab,oL (bV (bD q uu).1) (bD q uu).2.1)]⟩
theorem Em(rw la:Addr)(row last:List (Int×Tok))(n1 n2:Nat)(m:Nat)(q:List RQ×Int)(hm:(vI row).length=m+1)(hl:(vI row).length<=1000)(hb:0<=Int.ofNat (m+1))(hb2:Int.ofNat (m+1)<=10000)(h1:1<=row.length)(h2:row.length<=100)(h3:Int.ofNat (m+1)=row.length)(hq:bf (row.map (·.1)) (last.map (·.1))=q)(w:World):af w mT 100 (zO w.params rw la row last n1 n2 m q):=
 cx (mT) 100 (λP=>zO P rw la row last n1 n2 m q) 0x710a1092490890892420820840870410411c71c70871c71c3 (λw=>[rF 0 [0] [] λhh=>aF rw (vI row) n1 (m+1) hm (by omega),rF 0 [4] [] λhh=>dT (aZ hh 10) (Int.ofNat (m+1)) (nZ hh 8) (nZ hh 7) (nZ hh 9) hb hb2,rT 60 [5,2,0,1,3] [] λhh=>ue (aZ hh 11) (aZ hh 0) rw la (aZ hh 3) (kl [nZ hh 1,nZ hh 2,nZ hh 4,nZ hh 6]) (nZ hh 5) row last n1 n2 (Int.ofNat (m+1)) q h1 h2 h3 hq w])
 [0,1,3] [0] (λch=>⟨λi=>[nZ ch 3].getD i 0,(ch 12).u⟩) w
noncomputable def I5(rw la:Addr)(lo:Obj)(n1:Nat)(w:World):=
 cY (mT) 100 (λP=>.call (.ref 512) ⟨[.ref rw,.ref la],[]⟩)
 (λP=>[(rw,oL [] n1),(la,lo)]) (λP=>[])
 0x710a1092490890892420820840870410411c71c70871c71c3 (λw=>[rF 0 [0] [] λhh=>aF rw [] n1 0 rfl (by decide),rF 0 [4] [] λhh=>dT (aZ hh 10) 0 (nZ hh 8) (nZ hh 7) (nZ hh 9) (by decide) (by decide),rT 60 [5] [] λhh=>uf (aZ hh 11) (aZ hh 0) w])
 [0,1,3] [] (λP ch=>(.ok (.ret (.ref (aZ ch 3))))) (λP ch=>[(rw,oL [] n1),(la,lo),(aZ ch 3,oL [] 0)]) (λP ch=>[]) w
noncomputable def kc(rw la:Addr)(row last:List (Int×Tok))(n1 n2:Nat):Tr:=
 ⟨[],λ_=>[],λu=>[(bD (bf (row.map (·.1)) (last.map (·.1))) u).1.map cP],.call (.ref 512) ⟨[.ref rw,.ref la],[]⟩,[(rw,oL (vI row) n1),(la,oL (vI last) n2)],λu=>.ok (.ret (.ref (u.n 0+ab))),λ_=>[oL (vI row) n1,oL (vI last) n2],λu=>[(u.n 0+ab,oL (bV (bD (bf (row.map (·.1)) (last.map (·.1))) u).1) (bD (bf (row.map (·.1)) (last.map (·.1))) u).2.1)]⟩
theorem ug(rw la:Addr)(row last:List (Int×Tok))(n1 n2:Nat)(hr:row.length<=100)(w:World):af w mT 100 (kc rw la row last n1 n2):=by
 match row,hr with
 |[],_=>
  refine ak.tri (λ_=>⟨rfl,rfl⟩) (I5 rw la (oL (vI last) n2) n1 w) ?_;refine fr λch=>?_
  obtain⟨u,e1,e2⟩:=lZ (bf (([]:List (Int×Tok)).map (·.1)) (last.map (·.1))) (([],0,λ_=>0,0,.none,.none,.none,.none,0,0):RU) rfl (λ_=>nZ ch 3);refine⟨u,?_,?_⟩
  .simp only[kc,e1]
  .simp only[kc,e1,e2];exact .refl _
 |x::rest,hr=>
  have hm:(vI (x::rest)).length=rest.length+1:=by rw[show vI=List.map λp=>Value.int p.1 p.2 from rfl,Mc];rfl
  have hl:rest.length+1<=100:=hr;exact Em rw la (x::rest) last n1 n2 rest.length _ hm (by rw[hm];omega) (MS _) (by simp only[Mx];omega) (M5 1 _) hr rfl rfl w
noncomputable def qT(P:Params)(rw pc:Addr)(row:List (Int×Tok))(n1 n2:Nat)(ps:List Pt)(hs:List Nat)(g:List PN)(ls:List (List Nat))(x:Int)(t:Tok)(rest:List (Int×Tok)):Tr:=
 ⟨[],λuu=>[],λuu=>[ag (d4 g uu).1],.call (.ref 500) ⟨[.ref rw,.ref pc],[]⟩,[(rw,oL (vI row) n1),(pc,oL (vT ps) n2)],λuu=>(.ok (.ret (.ref ((uu.n 0)+ab)))),λuu=>[oL (vI row) n1,oL (vT ps) n2],λuu=>[((uu.n 1)+ab,aD P sN (kl [uu.n 2,uu.n 3,uu.n 4,uu.n 5]) [.ref ((uu.n 6)+ab),.none,.int 0 (uu.n 7),.int 0 (uu.n 8)] 4),((uu.n 9)+ab,oI 484 ((uu.n 1)+ab)),((uu.n 6)+ab,oD (eS P (ac (d4 g uu).1)) (d4 g uu).2.1),((uu.n 0)+ab,aj [.ref ((uu.n 9)+ab),.str (T (47::(jP (cc hs)))) (d4 g uu).2.2.1])]⟩
theorem xi(rw pc:Addr)(row:List (Int×Tok))(n1 n2:Nat)(ps:List Pt)(hs:List Nat)(g:List PN)(ls:List (List Nat))(x:Int)(t:Tok)(rest:List (Int×Tok))(e:row=(x,t)::rest)(hx:1<=x)(ho:∀p∈row,fD p.1/\jT ps p.1)(hq:ga (row.map (·.1)) ⟨[],[],[]⟩=some ⟨hs,ls,g⟩)(w:World):af w mT 120 (qT w.params rw pc row n1 n2 ps hs g ls x t rest):=
 cx (mT) 120 (λP=>qT P rw pc row n1 n2 ps hs g ls x t rest) 0x20710e0850851471c730a28a04b04104b04b0812c204104b30a28a04b04104b04b0812c204104b30a28a04b04104b04b0812c204104b30a28a04b04104b04b0812c204104b30230c30c0430410412c12c10410410410420410410410420410420420410810411c72080871c71c3 (λw=>[rT 110 [9,0,1,2,3,4,6,5,8] [] λhh=>xj (aZ hh 24) (aZ hh 0) (aZ hh 1) rw pc (aZ hh 5) (aZ hh 8) (aZ hh 7) (nZ hh 12) (kl [nZ hh 14,nZ hh 16,nZ hh 19,nZ hh 22]) (kl [nZ hh 2,nZ hh 3,nZ hh 6,nZ hh 23]) row n1 n2 ps (nZ hh 17) (nZ hh 20) (nZ hh 4) hs g ls x t rest e hx ho hq w])
 [0,1,5,6,8,10] [0] (λch=>⟨λi=>[nZ ch 26,nZ ch 7,nZ ch 14,nZ ch 16,nZ ch 19,nZ ch 22,nZ ch 12,nZ ch 17,nZ ch 20,nZ ch 8].getD i 0,(ch 25).u⟩) w
noncomputable def sw(row:List Int)(i:Nat):List Int:=match row[i]?,row[i+1]? with
 |some x,some y=>bif decide (x>0)&&decide (y<0)then[(i:Int)]else[]
 |_,_=>[]
noncomputable def b8(row:List Int):List Int:=(List.range (row.length-1)).flatMap (sw row)
theorem oc:vI=List.map λp=>Value.int p.1 p.2:=rfl
theorem nO(row:List Int)(i:Nat):(sw row i).length<=1:=by
 unfold sw;split
 .rename_i x y _ _;cases(decide (x>0)&&decide (y<0))<;>simp
 .simp
theorem En(it rw loc ca cl acc:Addr)(row:List (Int×Tok))(n:Nat)(left:Int)(h2:2<=row.length)(hn:row.length<=100)(hl:left=row.length-1)(w:World):
  af w mT 60 (dH vI w.params (b8 (row.map (·.1))) ma it cl acc (nQ ca loc cl) Ds [(rw,oL (vI row) n),(ca,aQ (.ref rw))] (aY 0 left) (aY left 0)):=by
 refine lm (k:=row.length-1) rfl (by omega) (by omega) (by omega) (nO _) (by unfold b8;rw[Mc]) (by kernel_rfl) λi b o vs m hi ho hv hlf h0 hf=>?_
 obtain⟨x,hx⟩:∃x,row[i]?=some x:=⟨_,Mp (by omega)⟩;obtain⟨y,hy⟩:∃y,row[i+1]?=some y:=⟨_,Mp (by omega)⟩;have hi2:i+1<=100:=by clear ho hv hl;omega
 have e1:(i:Int)+Int.ofNat 1=((i+1:Nat):Int):=rfl;have hx':(vI row)[(i:Int).toNat]?=some (.int x.1 x.2):=by rw[cT,M0,hx];rfl
 have h1:0<=(i:Int)+Int.ofNat 1:=MS (i+1);have hg:Builtin.List.listFitsIndex ((i:Int)+Int.ofNat 1)=true:=mJ hi2;have hy':(vI row)[((i:Int)+Int.ofNat 1).toNat]?=some (.int y.1 y.2):=by rw[cT,e1,M0,hy];rfl
 have ee:sw (row.map (·.1)) i=bif decide (x.1>0)&&decide (y.1<0)then[(i:Int)]else[]:=by
  unfold sw;rw[Mf,Mf,hx,hy];rfl
 rw[ee];cases hp:decide (x.1>0)with
 |false=>exact BQ 0x4108208189186105 (λw=>[gu 0 hlf,b6 3 h0 hf hx',dX hp]) [0,1,2,3,4] (λch=>.int i (nZ ch 0)) ho (by kernel_rfl) λ_ _=>by kernel_rfl
 |true=>cases hq:decide (y.1<0)with
  |false=>exact BQ 0x104208202086244108208189186105 (λw=>[gu 0 hlf,b6 3 h0 hf hx',dX hp,b6 3 h1 hg hy',bE hq]) [0,1,2,3,4] (λch=>.int i (nZ ch 0)) ho (by kernel_rfl) λ_ _=>by kernel_rfl
  |true=>exact gJ 0x106104208202086244108208189186105 (λw=>[gu 0 hlf,b6 3 h0 hf hx',dX hp,b6 3 h1 hg hy',bE hq,dF 2 hv]) [0,1,2,3,4] (λch=>.int i (nZ ch 0)) ho (λch=>nZ ch 0) (by kernel_rfl) λ_ _=>by kernel_rfl
theorem ui(it cl acc loc ca:Addr)(w:World):af w mT 60 (mc ma it cl acc (nQ ca loc cl) (aY 0 0) (aY 0 0)):=
 Ao rfl (by kernel_rfl)
noncomputable def Fc(r:Addr)(t u v:Tok):Tr:=⟨[],λ_=>[],λ_=>[],.call (.builtin "range.__iter__") ⟨[.ref r],[]⟩,[(r,FL (-1) t u v)],λx=>.ok (.ret (.ref (x.n 0+ab))),λ_=>[FL (-1) t u v],λx=>[(x.n 0+ab,aY 0 0)]⟩
theorem ud{w:World}{hb:Md}{lv:Nat}(r:Addr)(t u v:Tok):af w hb lv (Fc r t u v):=by
 refine⟨λMt os G A s R hA C H=>?_,λ_=>⟨rfl,rfl⟩⟩;have ho:=(C.own _ (.head _)).1;refine bu Ph ⟨_,ho,rfl⟩ O9 (OW _) (N8 r 0 (-1) 1 t u v (by decide)) ⟨ho,?_⟩;have e0:s.heap.objs.size-ab+ab=s.heap.objs.size:=MJ (cC G C);have C2:=C.alloc (o:=aY 0 0) rfl;have:=H (uN (s.heap.objs.size-ab)) _ (by
  show am Mt os (_++[(s.heap.objs.size-ab+ab,aY 0 0)]) _;rw[e0];exact C2)
 simp only[Fc,uN,e0]at this;exact this
section
noncomputable def zQ(P:Params)(rw:Addr)(row:List (Int×Tok))(n1:Nat)(m:Nat):Tr:=
 ⟨[],λuu=>[],λuu=>[],.call (.ref 505) ⟨[.ref rw],[]⟩,[(rw,oL (vI row) n1)],λuu=>(.ok (.ret (.ref ((uu.n 0)+ab)))),λuu=>[oL (vI row) n1],λuu=>[((uu.n 0)+ab,(oL (vI (bh (b8 (row.map (·.1))) uu).1) (bh (b8 (row.map (·.1))) uu).2.1))]⟩
theorem Ep(rw:Addr)(row:List (Int×Tok))(n1:Nat)(m:Nat)(hm:(vI row).length=m+1)(hl:(vI row).length<=1000)(hb:0<=Int.ofNat (m+1)-Int.ofNat 1)(hb2:Int.ofNat (m+1)-Int.ofNat 1<=10000)(h1:2<=row.length)(h2:row.length<=100)(h3:Int.ofNat (m+1)-Int.ofNat 1=row.length-1)(w:World):af w mT 100 (zQ w.params rw row n1 m):=
 cx (mT) 100 (λP=>zQ P rw row n1 m) 0xb2cb1091082080880882020820820840870410410871c3 (λw=>[rF 0 [0] [] λhh=>aF rw (vI row) n1 (m+1) hm (by omega),rF 0 [3] [] λhh=>dT (aZ hh 7) ((Int.ofNat (m+1))-1) (nZ hh 5) (nZ hh 4) (nZ hh 6) hb hb2,rT 60 [4,6,5,0,2] [] λhh=>En (aZ hh 8) rw (aZ hh 0) (aZ hh 1) (aZ hh 10) (aZ hh 9) row n1 ((Int.ofNat (m+1))-1) h1 h2 h3 w])
 [0,5] [] (λch=>⟨λi=>[nZ ch 9].getD i 0,(ch 11).u⟩) w
section
variable(rw:Addr)(x:Value)(n1:Nat)(w:World)
noncomputable def Jd:=
 cY (mT) 100 (λP=>.call (.ref 505) ⟨[.ref rw],[]⟩)
 (λP=>[(rw,oL [x] n1)]) (λP=>[])
 0xb1091082080880882020820820840870410410871c3 (λw=>[rF 0 [0] [] λhh=>aF rw [x] n1 (List.length [x]) rfl (by simp),rF 0 [3] [] λhh=>dT (aZ hh 7) ((Int.ofNat (List.length [x]))-1) (nZ hh 5) (nZ hh 4) (nZ hh 6) (by simp) (by simp),rT 60 [4] [] λhh=>ui (aZ hh 8) (aZ hh 10) (aZ hh 9) (aZ hh 0) (aZ hh 1) w])
 [0,5] [] (λP ch=>(.ok (.ret (.ref (aZ ch 9))))) (λP ch=>[(rw,oL [x] n1),(aZ ch 9,oL [] 0)]) (λP ch=>[]) w
noncomputable def Jc:=
 cY (mT) 100 (λP=>.call (.ref 505) ⟨[.ref rw],[]⟩)
 (λP=>[(rw,oL [] n1)]) (λP=>[])
 0xb1091082080880882020820820840870410410871c3 (λw=>[rF 0 [0] [] λhh=>aF rw [] n1 0 rfl (by decide),rF 0 [3] [] λhh=>ud (aZ hh 7) (nZ hh 5) (nZ hh 4) (nZ hh 6),rT 60 [4] [] λhh=>ui (aZ hh 8) (aZ hh 10) (aZ hh 9) (aZ hh 0) (aZ hh 1) w])
 [0,5] [] (λP ch=>(.ok (.ret (.ref (aZ ch 9))))) (λP ch=>[(rw,oL [] n1),(aZ ch 9,oL [] 0)]) (λP ch=>[]) w
end
end
noncomputable def hG(rw:Addr)(row:List (Int×Tok))(n1:Nat):Tr:=
 ⟨[],λ_=>[],λ_=>[],.call (.ref 505) ⟨[.ref rw],[]⟩,[(rw,oL (vI row) n1)],λu=>.ok (.ret (.ref (u.n 0+ab))),λ_=>[oL (vI row) n1],λu=>[(u.n 0+ab,oL (vI (bh (b8 (row.map (·.1))) u).1) (bh (b8 (row.map (·.1))) u).2.1)]⟩
theorem uk(rw:Addr)(row:List (Int×Tok))(n1:Nat)(hr:row.length<=100)(w:World):af w mT 100 (hG rw row n1):=by
 have fin0:∀row':List (Int×Tok),row'.length<=1->∀k:Nat,∃u,Except.ok (Flow.ret (.ref (k+ab)))=(hG rw row' n1).r u/\([(rw,oL (vI row') n1),(k+ab,oL [] 0)]:ah)=fl (dG (hG rw row' n1).pre ((hG rw row' n1).post u)++(hG rw row' n1).new u) ((hG rw row' n1).zq u++(hG rw row' n1).zn u):=λrow' h k=>by
  have e:b8 (row'.map (·.1))=[]:=by
   unfold b8;rw[Mc,show row'.length-1=0 from Nat.sub_eq_zero_of_le h];rfl
  obtain⟨u,e1,e2⟩:=Al (b8 (row'.map (·.1))) (([],0,0,.none):CU Int) (by rw[e];rfl) (λ_=>k);refine⟨u,?_,?_⟩
  .simp only[hG,e1]
  .simp only[hG,e1,e2];rfl
 match row,hr with
 |[],_=>
  refine ak.tri (λ_=>⟨rfl,rfl⟩) (Jc rw n1 w) ?_;refine fr λch=>?_
  obtain⟨u,e1,e2⟩:=fin0 [] (by decide) (nZ ch 9);exact⟨u,e1,e2▸ .refl _⟩
 |[x],_=>
  refine ak.tri (λ_=>⟨rfl,rfl⟩) (Jd rw (.int x.1 x.2) n1 w) ?_;refine fr λch=>?_
  obtain⟨u,e1,e2⟩:=fin0 [x] (Me 1) (nZ ch 9);exact⟨u,e1,e2▸ .refl _⟩
 |x::y::rest,hr=>
  have hm:(vI (x::y::rest)).length=(rest.length+1)+1:=by rw[oc,Mc];rfl
  have hl:rest.length+2<=100:=hr;exact Ep rw (x::y::rest) n1 (rest.length+1) hm (by rw[hm];omega) (by simp only[Mx];omega) (by simp only[Mx];omega) (M5 2 _) hr rfl w
noncomputable def kA:List (List Nat):=[[105,115,106,117,110,107],[97],[98],[97,117,116,111,106,117,110,107],[109,97,116,99,104,105,110,103,95,98,108,111,99,107,115],[111,112,99,111,100,101,115],[102,117,108,108,98,99,111,117,110,116],[98,50,106],[98,106,117,110,107],[98,112,111,112,117,108,97,114]]
noncomputable def sC:List (List Nat):=[[115,101,108,102],[98],[98,50,106],[105],[101,108,116],[105,110,100,105,99,101,115],[106,117,110,107],[105,115,106,117,110,107],[112,111,112,117,108,97,114],[110]]
noncomputable abbrev pK:Stmt:=aP Hi 2
noncomputable abbrev xZ(it:Addr)(i:Int):Obj:={cls:=.type "enumerate",data:=.fields #[.none,.bool false,.ref it,.int i 0,.none,.none]}
noncomputable def JN(l:Addr)(vs:List Value)(n:Nat):Tr:=⟨[],λ_=>[],λ_=>[],.builtin "enumerate.__new__" ⟨[.type "enumerate",.ref l],[]⟩,[(l,oL vs n)],λx=>.ok (.ret (.ref (x.n 0+1+ab))),λ_=>[oL vs n],λx=>[(x.n 0+ab,aI l 0),(x.n 0+1+ab,xZ (x.n 0+ab) 0)]⟩
theorem qd{w:World}{hb:Md}{lv:Nat}(l:Addr)(vs:List Value)(n:Nat):af w hb lv (JN l vs n):=by
 refine⟨λMt os G A s R hA C H=>?_,λ_=>⟨rfl,rfl⟩⟩;have ho:=(C.own _ (.head _)).1;refine Nf PySem.F.entry_enumerate_new ?_;rw[MV (by decide+kernel:plainId "enumerate.__new__"=true)];refine meets_enumerate_new l ⟨vs⟩ n pw w A R s ⟨ho,?_⟩;have e0:s.heap.objs.size-ab+ab=s.heap.objs.size:=MJ (cC G C);have C2:=(C.alloc (o:=aI l 0) rfl);have C3:=C2.alloc (o:=xZ s.heap.objs.size 0) rfl;have hz:(s.heap.push (aI l 0)).objs.size=s.heap.objs.size+1:=Heap.size_push ..;have e1:s.heap.objs.size-ab+1+ab=s.heap.objs.size+1:=by omega
 have:=H (uN (s.heap.objs.size-ab)) {s with heap:=(s.heap.push (aI l 0)).push (xZ s.heap.objs.size 0)} (by
  show am Mt os [(l,oL vs n),(s.heap.objs.size-ab+ab,aI l 0),(s.heap.objs.size-ab+1+ab,xZ (s.heap.objs.size-ab+ab) 0)] _;rw[e0,e1];simp only[hz]at C3;exact C3)
 simp only[JN,uN,e1]at this;show R (.ok (.ret (.ref (s.heap.push (aI l 0)).objs.size))) {s with heap:=(s.heap.push (aI l 0)).push (xZ s.heap.objs.size 0)};rw[hz];exact this
noncomputable abbrev pd(it:Addr)(i:Int)(old:Value):Obj:={cls:=.type "enumerate",data:=.fields #[.none,.bool false,.ref it,.int i 0,.none,old]}
section
noncomputable def sy(t:Expr)(B:List Stmt)(e:Env)(v:Value):Sem Bool:=PySem.W.R.bindR (PySem.W.Fast.tw17772580674575903948 t e v) λ_=>aX B e
section
variable{prog:Program}{w:World}{A:Around}{R:Result->Shared->Prop}{s:Shared}
theorem wX{t:Expr}{it:Value}{B orelse:List Stmt}{e:Env}
  (h:wpAny (model prog w) A (pyNext it) (λr MQ=>∃v,r=some v/\wpAny (model prog w) A (letOwnedTupleGo t it v) (λ_ NG=>wpAny (model prog w) A (sy t B e v) (λ_ MD=>codeAny (model prog w) A (.forLoop t it B orelse e) R MD) E0 NG) E0 MQ) E0 s):
  codeAny (model prog w) A (.forLoop t it B orelse e) R s:=by
 refine ND ?_;rw[NC (show(Code.forLoop t it B orelse e).weight=0 from rfl)];show wpAny _ A ((forTurn t it B orelse e).onRaise (λx=>do noteFrame x e;theTreesLotGoes x)) _ _ s;refine ON ?_;simp only[forTurn];refine on (P2 (on (wpAny_onRaise (M6 h (λr MQ MG=>?_) λ_ _ h'=>h'.elim))));obtain⟨v,rfl,MG⟩:=MG;refine on (M6 MG (λ_ NG Ni=>?_) λ_ _ h'=>h'.elim);intro Γ p hΓ;have Ni:=Ni Γ p hΓ;unfold sy at Ni;rw[<-N0,Nv,<-O3]at Ni;rw[NT];refine Nw _ Γ _ (λ_ On NG MP=>?_) (λ_ _ _ (h':False)=>h'.elim) _ _ Ni;rw[NT];rw[hH,Nv]at MP;refine Nw _ Γ _ (λf NP MD Nj=>?_) (λ_ _ _ (h':False)=>h'.elim) _ _ MP;cases f with
 |next=>exact⟨rfl,Nj⟩
 |_=>exact(show False from Nj).elim
end
section
variable{w:World}{hb:Md}{lv:Nat}{F:ah}
noncomputable def tI(o:Obj)(l:Addr)(k:Nat):Prop:=o.cls=.type "list_iterator"/\o.data=.fields #[.ref l,.int k 0]
theorem ii{M:Model}{prog:Program}{w:World}{A:Around}{E:Value->Shared->Prop}{s:Shared}{it l:Addr}{i:Nat}{items:Array Value}{Q:Value->Shared->Prop}(hh:A.handled=none)
  (hit:s.heap.IsListIter it l i) (hl:s.heap.IsList l items) (hx:items[i]?=none)
  (hE:∀h' e,Heap.ExtBut it s.heap h'->(∃o,h'.get? it=some o)->(∃o,h'.get? e=some o/\o.cls=.type "StopIteration")->E (.ref e) {s with heap:=h'}):
  wpAny (model prog w) A (Builtin.SmallTypes.nextOf (.ref it)) Q E s:=by
 obtain⟨o,ho,hc,hd⟩:=id hit;obtain⟨ol,hol,_,nl,hdl⟩:=hl;unfold Builtin.SmallTypes.nextOf;refine on (Oy (name:=Str.ofString "__next__") hit.typeIs Og
  (Py Og hit.typeIs NV ?_ (O5 _)))
 show wpAny _ _ (field (.ref it) 0>>=_) _ _ s;refine on (MM ho hd (x:=.ref l) rfl ?_);show wpAny _ _ (if(Value.ref l==Value.none)=true then _ else _) _ _ s;rw[if_neg (show ¬((Value.ref l==Value.none)=true)from MK)];show wpAny _ _ (field (.ref it) 1>>=_) _ _ s;refine on (MM ho hd (x:=.int i 0) rfl ?_);show wpAny _ _ (seqItems? (.ref l)>>=_) _ _ s;refine on (Nm hol hdl ?_);simp only[M0,hx];refine on (NQ (on (MY ho hd (by simp) ?_)));show wpAny _ _ (newExc (.type "StopIteration") []>>=_) _ _ _;refine on ?_;simp only[newExc,newTuple];refine on (NM ?_ (by size_fits));refine on (m:=firstArgMember _ _) (Qn (a:=Value.none) (by first |rfl |(simp only[firstArgMember];rfl)) ?_);refine NM ?_ (by size_fits);simp only[raiseNew];refine on (PX ?_)
 first |rw[show A.in1.handled=none from hh] |rw[hh]
 refine on (Mh (Qj ?_));exact hE _ _ (((Qu ..).extBut.push _).push _) ⟨_,Nl _ (Nl _ (OI _ ho (Obj.isFreed_of_fields (Obj.data_mapFields hd _))))⟩ ⟨_,Qt _ rfl,rfl⟩
theorem ip{prog:Program}{w:World}{A:Around}{E:Value->Shared->Prop}{s:Shared}{e it l:Addr}{i:Nat}{items:Array Value}{old:Value}{Q:Option Value->Shared->Prop}(hh:A.handled=none)
  (he:IsEnum s.heap e it i old) (hit:s.heap.IsListIter it l i) (hl:s.heap.IsList l items) (hx:items[i]?=none)
  (hQ:∀h',Heap.ExtBut it s.heap h'->(∃o,h'.get? it=some o)->Q none {s with heap:=h'}):wpAny (model prog w) A (pyNext (.ref e)) Q E s:=by
 have hT:s.TypeIs (.ref e) "enumerate":=⟨_,he,rfl⟩;unfold pyNext;refine on (wpAny_attempt (Oy (name:=Str.ofString "__next__") hT Qi
  (Py Qi hT F.entry_enumerate_next ?_ (F.args_enumerate_next_1 _))))
 show wpAny _ _ (field (.ref e) 2>>=_) _ _ _;refine on (MM he rfl (x:=.ref it) rfl ?_);refine on (ii (M:=model prog w) hh hit hl hx λh' x he' hi hx'=>?_);obtain⟨o,ho,hc⟩:=hx';refine on (wpAny_isInstance (T:="StopIteration") (b:=true) ⟨o,ho,hc⟩ isSubtype_stop ?_);exact Mh (hQ _ he' hi)
theorem TR.forEn{elts:List Expr}{x1:Nat}{pos:Pos}{B orelse:List Stmt}{env:Env}{e it l:Addr}{k n:Nat}{old x:Value}{vs:List Value}{oi:Obj}{Q:Result->ah->Prop}(hx:vs[k]?=some x)(hoi:tI oi l k)
  (h:∀(a:Nat) (tk:Tok) (oi':Obj),tI oi' l (k+1)->TR w hb lv (sy (.Tuple elts x1 pos) B env (.ref (a+ab))) ([(e,pd it ((k:Int)+1) x),(it,oi'),(l,oL vs n)]++F++[(a+ab,aj [.int k tk,x])]) λ_ N=>ak w hb lv (.forLoop (.Tuple elts x1 pos) (.ref e) B orelse env) N Q):
  ak w hb lv (.forLoop (.Tuple elts x1 pos) (.ref e) B orelse env) ([(e,pd it k old),(it,oi),(l,oL vs n)]++F) Q:=λMt os G A s R hA C H=>by
 have c1:=C.own (e,pd it k old) (.head _);have c2:=C.own (it,oi) (.tail _ (.head _));have c3:=C.own (l,oL vs n) (.tail _ (.tail _ (.head _)));have nd:=C.nd;have hne:e≠it:=by
  intro q;subst q;simp at nd
 refine wX (wpAny_pyNext_enum_item c1.1 ⟨_,c2.1,hoi.1,hoi.2⟩ ⟨_,c3.1,rfl,_,rfl⟩ (by simpa using hx) hne λh' a1 a2 a3 a4 a5=>⟨_,rfl,?_⟩);refine wpAny_letOwnedTupleGo_enum a1 λh2 b1 b2=>?_
 have e0:s.heap.objs.size-ab+ab=s.heap.objs.size:=MJ (cC G C);obtain⟨oi',d1,d2,d3⟩:=a2;have hez:e≠s.heap.objs.size:=Pb (N5 c1.1);have hiz:it≠s.heap.objs.size:=Pb (N5 c2.1);have old2:∀b o,b≠e->b≠it->s.heap.get? b=some o->h2.get? b=some o:=λb o q1 q2 q3=>(b2.2 b q1).trans (a5 b o q1 q2 q3)
 have fr:Mt.get? s.heap.objs.size=none:=by
  cases q:Mt.get? s.heap.objs.size with
  |none=>rfl
  |some o'=>exact absurd (N5 (C.keep _ _ q)) (Nat.lt_irrefl _)
 simp only[MZ,MU,Ml,NF,My,not_or]at nd;have C2:am Mt os ([(e,pd it ((k:Int)+1) x),(it,oi'),(l,oL vs n)]++F++[(s.heap.objs.size,aj [.int k s.toks,x])]) {s with heap:=h2,toks:=s.toks+1}:=by
  refine⟨λb o q=>?_,λp hp=>?_,?_,C.gens,C.os⟩
  .refine old2 b o (λq2=>?_) (λq2=>?_) (C.keep b o q)
   .rw[q2,c1.2]at q;cases q
   .rw[q2,c2.2]at q;cases q
  .rcases MT.mp hp with hp |hp
   .rcases MT.mp hp with hp |hp
    .rcases My.mp hp with rfl |hp
     .exact⟨b1,c1.2⟩
     rcases My.mp hp with rfl |hp
     .exact⟨(b2.2 it (Ne.symm hne)).trans d1,c2.2⟩
     rcases My.mp hp with rfl |hp
     .exact⟨old2 _ _ (λq=>nd.1.2.1 q.symm) (λq=>nd.2.1.1 q.symm) c3.1,c3.2⟩
     .cases hp
    .have c4:=C.own p (.tail _ (.tail _ (.tail _ hp)));have hm:p.1∈F.map (·.1):=Mw hp;exact⟨old2 _ _ (λq=>nd.1.2.2 (q▸hm)) (λq=>nd.2.1.2 (q▸hm)) c4.1,c4.2⟩
   .rw[MR]at hp;subst hp;exact⟨(b2.2 _ (Ne.symm hez)).trans a3,fr⟩
  .have nd0:=C.nd;rw[Mi,N6];refine⟨nd0,by simp,?_⟩;intro y hy z hz;simp only[Ml,Na,MR]at hz;subst hz;obtain⟨p,hp,rfl⟩:=ML.mp (show y∈List.map (·.1) ([(e,pd it k old),(it,oi),(l,oL vs n)]++F)from hy);exact Pb (N5 (C.own p hp).1)
 have:=h (s.heap.objs.size-ab) s.toks oi' ⟨d2,d3⟩ Mt os G A {s with heap:=h2,toks:=s.toks+1} (λ_ MD=>codeAny (model pw w) A (.forLoop (.Tuple elts x1 pos) (.ref e) B orelse env) R MD) hA (by rw[e0];exact C2) λ_ N s' q C'=>q Mt os G A s' R hA C' H
 rw[e0]at this;exact this
theorem mP{elts:List Expr}{x1:Nat}{pos:Pos}{B:List Stmt}{env:Env}{e it l:Addr}{k n:Nat}{old:Value}{vs:List Value}{oi:Obj}{Q:Result->ah->Prop}(hm:hb.hb=true)(hx:vs[k]?=none)(hoi:tI oi l k)(h:∀oi',Q (.ok .next) ([(e,pd it k old),(it,oi'),(l,oL vs n)]++F)):
  ak w hb lv (.forLoop (.Tuple elts x1 pos) (.ref e) B [] env) ([(e,pd it k old),(it,oi),(l,oL vs n)]++F) Q:=λMt os G A s R hA C H=>by
 have c1:=C.own (e,pd it k old) (.head _);have c2:=C.own (it,oi) (.tail _ (.head _));have c3:=C.own (l,oL vs n) (.tail _ (.tail _ (.head _)));have nd:=C.nd;simp only[MZ,MU,Ml,NF,My,not_or]at nd;refine ND ?_;rw[NC (show(Code.forLoop (.Tuple elts x1 pos) (.ref e) B [] env).weight=0 from rfl)];show wpAny _ A ((forTurn (.Tuple elts x1 pos) (.ref e) B [] env).onRaise (λx=>do noteFrame x env;theTreesLotGoes x)) _ _ s;refine ON ?_;simp only[forTurn];refine on (P2 (on (wpAny_onRaise (ip (hA.2.2.1 hm) c1.1 ⟨_,c2.1,hoi.1,hoi.2⟩ ⟨_,c3.1,rfl,_,rfl⟩ (by simpa using hx) λh' b1 b2=>Mh ⟨rfl,codeAny_block (OF ?_)⟩))));obtain⟨oi',b2⟩:=b2;refine H _ _ _ (h oi') ?_;have it0:∀b o,Mt.get? b=some o->b≠it:=λb o q q2=>by rw[q2,c2.2]at q;cases q
 refine⟨λb o q=>b1 b o (it0 b o q) (C.keep b o q),λp hp=>?_,?_,C.gens,C.os⟩
 .rcases My.mp hp with rfl |hp
  .exact⟨b1 _ _ nd.1.1 c1.1,c1.2⟩
  rcases My.mp hp with rfl |hp
  .exact⟨b2,c2.2⟩
  have hp2:p∈[(e,pd it k old),(it,oi),(l,oL vs n)]++F:=.tail _ (.tail _ hp);refine⟨b1 _ _ (λq=>?_) (C.own p hp2).1,(C.own p hp2).2⟩;rcases My.mp hp with rfl |hp
  .exact nd.2.1.1 q.symm
  .exact nd.2.1.2 (q▸Mw (f:=(·.1)) hp)
 .have:=C.nd;simpa using this
end
end
noncomputable def L7(d:Addr)(es:List DictEntry)(n:Nat)(key v:Value)(es':List DictEntry)(n':Nat):Tr:=⟨[],λ_=>[],λ_=>[],.call (.builtin "dict.setdefault") ⟨[.ref d,key,v],[]⟩,[(d,oD es n)],λ_=>.ok (.ret v),λ_=>[oD es' n'],λ_=>[]⟩
theorem uh{w:World}{hb:Md}{lv:Nat}(d:Addr)(n:Nat)(kvs:List KV)(k:List Nat)(t:Tok)(v:Value)(h:lk kvs k=none)(hz:kvs.length<=10000):af w hb lv (L7 d (eS w.params kvs) n (.str (T k) t) v (eS w.params (kvs++[((k,t),v)])) (n+1)):=by
 refine⟨λMt os G A s R hA C H=>?_,λ_=>⟨rfl,rfl⟩⟩;have ho:=(C.own _ (.head _)).1;have hd:=jQ G C (.head _);have hkey:(strKind pw w).is (T k) (.str (T k) t)=true:=NZ _ _ _ _;refine aB F.slot_dict_setdefault ⟨_,ho,rfl⟩ F.entry_dict_setdefault (F.args_dict_setdefault_3 _ _ _) ?_;unfold Builtin.«dict.setdefault»;refine on ?_;unfold Builtin.Dict.keyAndDefault;refine on (Oa ⟨_,ho,rfl⟩ ?_);show wpAny _ _ (pure (d,Value.str (T k) t,some v)) _ _ s;refine Mh ?_;show wpAny _ _ (if(d==sysModules)=true then _ else(dictSetDefault d (Value.str (T k) t) v>>=_)) _ _ s;rw[if_neg (by rw[hd];exact MK)];refine on ?_;unfold dictSetDefault
 try with_reducible refine MX ?_
 refine on ((strKind pw w).pyHash hkey ?_);refine on (NN (s:={s with toks:=s.toks+1}) hkey ho rfl (qo w kvs) ?_);rw[w7];have hn:(kvs.findIdx? λp=>p.1.1==k)=none:=by
  unfold lk at h;rw[d0]at h;cases q:kvs.findIdx? λp=>p.1.1==k with
  |none=>rfl
  |some i=>
   rw[q]at h;obtain⟨hlt,_⟩:=No.mp q;simp[hlt]at h
 rw[hn];have hsz:(Array.mk (eS w.params kvs)).size<=sizeLine:=by
  show(eS w.params kvs).length<=2^24;unfold eS;rw[Mc];omega
 refine on (NQ (on (Oc (hz:=hsz) (s:={s with toks:=s.toks+1}) ho rfl ?_)));have C':=(C.toks (s.toks+1)).update (i:=0) (p:=(d,oD (eS w.params kvs) n)) rfl (f:=Obj.mapDictKeys (·.push ⟨(strKind pw w).hash (T k),.str (T k) t,v⟩)) rfl;refine Mh (Mh (H u0 _ ?_));show am Mt os [(d,oD (eS w.params (kvs++[((k,t),v)])) (n+1))] _;have e:eS w.params (kvs++[((k,t),v)])=eS w.params kvs++[⟨(strKind pw w).hash (T k),.str (T k) t,v⟩]:=by
  unfold eS;rw[Mi];rfl
 rw[e,<-ie];exact C'
section
section
variable(loc d tu sf bb:Addr)(kk:Nat->Tok)(z1 z2 z3:Value)(kvs:List KV)(m:Nat)(j:Int)(jt:Tok)(x:List Nat)(xt:Tok)(h:lk kvs x=none)(hz:kvs.length<=10000)(w:World)
noncomputable def Kk:=
 aq (mT) 60 (λP=>sy (cq pK) (ao pK) (rk loc) (.ref tu))
 (λP=>[(loc,frm P sC kk [.ref sf,.ref bb,.ref d,z1,z2,z3] 6),(d,oD (eS P kvs) m),(tu,aj [.int j jt,.str (T x) xt])]) (λP=>[])
 0x1052cb2cb1451441461861851451452842042042080870871c7 (λw=>[bX 3 2,bX 3 2,f6 3 2,rF 0 [1] [] λhh=>uh d m kvs x xt (.ref (aZ hh 6)) h hz,dF 6 (vs:=[]) (by decide)])
 [0,1,6] [] (λP ch=>.ok true) (λP ch=>[(loc,frm P sC kk [.ref sf,.ref bb,.ref d,.int j jt,.str (T x) xt,.ref (aZ ch 6)] 6),(d,oD (eS P (kvs++[((x,xt),.ref (aZ ch 6))])) (m+1)),(aZ ch 6,oL [.int j jt] 1)]) (λP ch=>[]) w
noncomputable def Hh:=
 aq (mT) 60 (λP=>sy (cq pK) (ao pK) (rk loc) (.ref tu))
 (λP=>[(loc,frm P sC kk [.ref sf,.ref bb,.ref d] 3),(d,oD (eS P kvs) m),(tu,aj [.int j jt,.str (T x) xt])]) (λP=>[])
 0x1052cb2cb1451441461861851451452842042042080870871c7 (λw=>[bX 3 2,bX 3 2,f6 3 2,rF 0 [1] [] λhh=>uh d m kvs x xt (.ref (aZ hh 6)) h hz,dF 6 (vs:=[]) (by decide)])
 [0,1,6] [] (λP ch=>.ok true) (λP ch=>[(loc,frm P sC (kx kk 3 [nZ ch 4,nZ ch 5,nZ ch 8]) [.ref sf,.ref bb,.ref d,.int j jt,.str (T x) xt,.ref (aZ ch 6)] 6),(d,oD (eS P (kvs++[((x,xt),.ref (aZ ch 6))])) (m+1)),(aZ ch 6,oL [.int j jt] 1)]) (λP ch=>[]) w
end
end
noncomputable abbrev BJ:=Pt×Addr×Nat×Tok
noncomputable def b9(r:BJ):KV:=(r.1,.ref r.2.1)
noncomputable def dN(r:BJ):Addr×Obj:=(r.2.1,oL [.int (r.2.2.1:Int) r.2.2.2] 1)
noncomputable def Jh(e:Expr):List Expr:=(Au e).1
noncomputable def Ji(e:Expr):Nat:=(Au e).2.2.1
noncomputable def Jj(e:Expr):Pos:=(Au e).2.2.2.1
noncomputable def pe(P:Params)(sf bb d:Addr)(f:Bool)(o:Obj):Prop:=match f with
 |true=>∃kk,o=frm P sC kk [.ref sf,.ref bb,.ref d] 3
 |false=>iJ λkk z1 z2 z3=>o=frm P sC kk [.ref sf,.ref bb,.ref d,z1,z2,z3] 6
theorem ju:gc λelts x1 pos=>cq pK=.Tuple elts x1 pos:=⟨Jh (cq pK),Ji (cq pK),Jj (cq pK),by kernel_rfl⟩
theorem kQ:dQ pK=[]:=by kernel_rfl
theorem xJ{kvs:List KV}{k:List Nat}(h:k∉kvs.map (·.1.1)):lk kvs k=none:=by
 unfold lk;have:kvs.find? (λp=>p.1.1==k)=none:=O8.mpr λp hp e=>h (by rw[<-eq_of_beq e];exact Mw hp)
 rw[this];rfl
structure CA where
 e:Addr
 it:Addr
 bb:Addr
 loc:Addr
 d:Addr
 sf:Addr
noncomputable def yR(w:World)(A:CA)(b:List Pt)(n:Nat)(k:Nat)(old:Value)(oi o:Obj)(m:Nat)(bs:List BJ):ah:=
 [(A.e,pd A.it k old),(A.it,oi),(A.bb,oL (vT b) n)]++([(A.loc,o),(A.d,oD (eS w.params (bs.map b9)) m)]++bs.map dN)
theorem pL(w:World)(A:CA)(b:List Pt)(n:Nat)(hb:(b.map (·.1)).Nodup)(hl:b.length<=1000)(Q:Result->ah->Prop):∀(rest:List Pt) (k:Nat) (bs:List BJ) (m:Nat) (f:Bool) (o oi:Obj) (old:Value),b.drop k=rest->k+rest.length=b.length->bs.map (·.1)=b.take k->bs.map (·.2.2.1)=List.range k->
  pe w.params A.sf A.bb A.d f o->tI oi A.bb k->
  (∀bs' m' f' o' oi' old',bs'.map (·.1)=b->bs'.map (·.2.2.1)=List.range b.length->pe w.params A.sf A.bb A.d f' o'->(f'=(f&&rest.isEmpty))->Q (.ok .next) (yR w A b n b.length old' oi' o' m' bs'))->
  ak w mT 60 (aG pK A.e (rk A.loc)) (yR w A b n k old oi o m bs) Q
 |[],k,bs,m,f,o,oi,old,hd,hk,h1,h2,ho,hoi,H=>by
  obtain⟨elts,x1,pos,ht⟩:=ju;unfold aG;rw[ht,kQ];have ek:k=b.length:=by simpa using hk
  subst ek;refine mP rfl (by unfold vT;rw[Mf,Nh (Me _)];rfl) hoi λoi'=>?_
  exact H bs m f o oi' old (by rw[h1,QU]) h2 ho (by simp)
 |x::rest,k,bs,m,f,o,oi,old,hd,hk,h1,h2,ho,hoi,H=>by
  obtain⟨g1,g2⟩:=eQ hd;have hx:(vT b)[k]?=some (.str (T x.1) x.2):=by unfold vT;rw[Mf,g1];rfl
  have hkl:k<b.length:=(Mj.mp g1).1;have hbl:bs.length=k:=by rw[<-Mc (f:=(·.1)),h1,OB];omega
  have hnew:lk (bs.map b9) x.1=none:=by
   refine xJ λhm=>?_
   have e1:(bs.map b9).map (·.1.1)=((b.map (·.1)).take k):=by
    rw[MA,<-List.map_take,<-h1,MA];rfl
   rw[e1]at hm;obtain⟨i,hi⟩:=OH.mp hm;have hik:i<k:=by have:=(Mj.mp hi).1;rw[OB]at this;omega
   rw[List.getElem?_take_of_lt hik]at hi;have hk2:(b.map (·.1))[k]?=some x.1:=by rw[Mf,g1];rfl
   have:=(Pc (by rw[Mc];omega) hb).mp (hi.trans hk2.symm);omega
  have hz:(bs.map b9).length<=10000:=by rw[Mc,hbl];omega
  obtain⟨elts,x1,pos,ht⟩:=ju;have step:∀(a:Nat) (tk:Tok) (oi':Obj),tI oi' A.bb (k+1)->TR w mT 60 (sy (cq pK) (ao pK) (rk A.loc) (.ref (a+ab))) ([(A.e,pd A.it ((k:Int)+1) (.str (T x.1) x.2)),(A.it,oi'),(A.bb,oL (vT b) n)]++([(A.loc,o),(A.d,oD (eS w.params (bs.map b9)) m)]++bs.map dN)++[(a+ab,aj [.int k tk,.str (T x.1) x.2])])
    λ_ N=>gc λ(o':Obj) (r:BJ) (m':Nat)=>pe w.params A.sf A.bb A.d false o'/\r.1=x/\r.2.2.1=k/\N=yR w A b n (k+1) (.str (T x.1) x.2) oi' o' m' (bs++[r]):=by
   intro a tk oi' hoi';have fin:∀(o':Obj) (c:Nat) (N:ah),pe w.params A.sf A.bb A.d false o'->N=[(A.loc,o'),(A.d,oD (eS w.params (bs.map b9++[((x.1,x.2),.ref (c+ab))])) (m+1)),(c+ab,oL [.int (k:Int) tk] 1)]++([(A.e,pd A.it ((k:Int)+1) (.str (T x.1) x.2)),(A.it,oi'),(A.bb,oL (vT b) n)]++bs.map dN)->
     Mo (λN'=>gc λ(o':Obj) (r:BJ) (m':Nat)=>pe w.params A.sf A.bb A.d false o'/\r.1=x/\r.2.2.1=k/\N'=yR w A b n (k+1) (.str (T x.1) x.2) oi' o' m' (bs++[r])) N:=by
    intro o' c N ho' hN;refine⟨_,⟨o',(x,c+ab,k,tk),m+1,ho',rfl,rfl,rfl⟩,?_⟩;rw[hN];unfold yR;rw[Mi,Mi,show((k+1:Nat):Int)=(k:Int)+1 from rfl];obtain⟨x1,x2⟩:=x;exact ae λy=>by exact(aN [_,_,_,_,_,_] [_] 0x208434b2411c50c1 0x20820c110714134b241:)
   cases f with
   |true=>
    obtain⟨kk,rfl⟩:=ho;have h:=(Hh A.loc A.d (a+ab) A.sf A.bb kk (bs.map b9) m k tk x.1 x.2 hnew hz w).tr (F:=[(A.e,pd A.it ((k:Int)+1) (.str (T x.1) x.2)),(A.it,oi'),(A.bb,oL (vT b) n)]++bs.map dN) (Me _) λ_=>rfl
    refine TR.perm (h.mono λ_ N hN=>hN.elim λch hN=>fin _ _ _ ⟨_,_,_,_,rfl⟩ hN.2) (ae λy=>by exact(aN [_,_,_,_,_,_] [_] 0x208434b2411c50c1 0x20c108210714134b241:))
   |false=>
    obtain⟨kk,z1,z2,z3,rfl⟩:=ho;have h:=(Kk A.loc A.d (a+ab) A.sf A.bb kk z1 z2 z3 (bs.map b9) m k tk x.1 x.2 hnew hz w).tr (F:=[(A.e,pd A.it ((k:Int)+1) (.str (T x.1) x.2)),(A.it,oi'),(A.bb,oL (vT b) n)]++bs.map dN) (Me _) λ_=>rfl
    refine TR.perm (h.mono λ_ N hN=>hN.elim λch hN=>fin _ _ _ ⟨_,_,_,_,rfl⟩ hN.2) (ae λy=>by exact(aN [_,_,_,_,_,_] [_] 0x208434b2411c50c1 0x20c108210714134b241:))
  rw[ht]at step;unfold aG;rw[ht];refine TR.forEn hx hoi λa tk oi' hoi'=>(step a tk oi' hoi').mono ?_
  rintro u N ⟨o',r,m',ho',hr1,hr2,rfl⟩;refine⟨_,?_,.refl _⟩;have:=pL w A b n hb hl Q rest (k+1) (bs++[r]) m' false o' oi' (.str (T x.1) x.2) g2 (by rw[Mg]at hk;omega) (by rw[Mi,h1,Ml,Na,hr1,QK,g1];rfl) (by rw[Mi,h2,Ml,Na,hr2,Oe]) ho' hoi' λbs2 m2 f2 o2 oi2 old2 q1 q2 q3 q4=>H bs2 m2 f2 o2 oi2 old2 q1 q2 q3 (by rw[q4];cases f<;>rfl)
  unfold aG at this;rw[ht]at this;exact this
noncomputable abbrev BU:=List BJ×Nat×Value×Obj×(Nat->Tok)×Value×Value×Value
noncomputable def dL(b:List Pt)(bs:List BJ):Prop:=bs.map (·.1)=b/\bs.map (·.2.2.1)=List.range b.length
noncomputable def Hg(b:List Pt):List BJ:=b.zipIdx.map λx=>(x.1,0,x.2,0)
theorem Aj(b:List Pt):dL b (Hg b):=by
 unfold dL Hg;rw[MA,MA];refine⟨?_,?_⟩
 .show b.zipIdx.map Prod.fst=b;simp
 .show b.zipIdx.map Prod.snd=_;rw[List.zipIdx_map_snd,List.range_eq_range']
noncomputable def fY(b:List Pt)(u:U):BU:=iv (λs:BU=>dL b s.1) (Hg b,0,.none,default,λ_=>0,.none,.none,.none) u
theorem wN(b:List Pt)(u:U):dL b (fY b u).1:=fv (p:=λs:BU=>dL b s.1) (Aj b) u
theorem wL(b:List Pt)(s:BU)(hs:dL b s.1):∃u,fY b u=s:=fS (p:=λs:BU=>dL b s.1) _ hs
noncomputable def zD(P:Params)(e it bb loc d sf:Addr)(kk:Nat->Tok)(b:List Pt)(n:Nat):Tr:=
 ⟨[],λ_=>[],λu=>[(fY b u).1.map dN],aG pK e (rk loc),[(e,xZ it 0),(it,aI bb 0),(bb,oL (vT b) n),(loc,frm P sC kk [.ref sf,.ref bb,.ref d] 3),(d,oD [] 0)],λ_=>.ok .next,λu=>[pd it b.length (fY b u).2.2.1,(fY b u).2.2.2.1,oL (vT b) n,frm P sC (fY b u).2.2.2.2.1 [.ref sf,.ref bb,.ref d,(fY b u).2.2.2.2.2.1,(fY b u).2.2.2.2.2.2.1,(fY b u).2.2.2.2.2.2.2] 6,oD (eS P ((fY b u).1.map b9)) (fY b u).2.1],λ_=>[]⟩
theorem D0(e it bb loc d sf:Addr)(kk:Nat->Tok)(b:List Pt)(n:Nat)(h1:1<=b.length)(h2:b.length<=1000)(hb:(b.map (·.1)).Nodup)(w:World):af w mT 60 (zD w.params e it bb loc d sf kk b n):=by
 refine ak.tri (λ_=>⟨rfl,rfl⟩) (Q:=λr N=>r=.ok .next/\yA λbs m o' oi' old=>dL b bs/\pe w.params sf bb d false o'/\N=yR w ⟨e,it,bb,loc,d,sf⟩ b n b.length old oi' o' m bs) ?_ ?_
 .have:=pL w ⟨e,it,bb,loc,d,sf⟩ b n hb h2 (λr N=>r=.ok .next/\yA λbs m o' oi' old=>dL b bs/\pe w.params sf bb d false o'/\N=yR w ⟨e,it,bb,loc,d,sf⟩ b n b.length old oi' o' m bs) b 0 [] 0 true _ (aI bb 0) .none rfl (by simp) rfl rfl ⟨kk,rfl⟩ ⟨rfl,rfl⟩ λbs m f o oi old q1 q2 q3 q4=>?_
  .exact this
  .have:f=false:=by
    rw[q4];cases b with
    |nil=>exact absurd h1 (by decide)
    |cons x b=>rfl
   subst this;exact⟨rfl,bs,m,o,oi,old,⟨q1,q2⟩,q3,rfl⟩
 .rintro r N ⟨rfl,bs,m,o',oi',old,hbs,⟨kk',z1,z2,z3,rfl⟩,rfl⟩;obtain⟨u,hu⟩:=wL b (bs,m,old,oi',kk',z1,z2,z3) hbs;refine⟨u,rfl,ae λy=>?_⟩
  (simp only[yR,zD,hu,bO,bP,MU];exact(aN [_,_,_,_,_] [_] 0x8210b2411c50c1 0x820440811c50cb241:))
noncomputable def py(P:Params)(e it bb loc d sf:Addr)(kk:Nat->Tok)(n:Nat):Tr:=
 ⟨[],λ_=>[],λu=>[],aG pK e (rk loc),[(e,xZ it 0),(it,aI bb 0),(bb,oL [] n),(loc,frm P sC kk [.ref sf,.ref bb,.ref d] 3),(d,oD [] 0)],λ_=>.ok .next,λu=>[xZ it 0,u.u Obj default,oL [] n,frm P sC kk [.ref sf,.ref bb,.ref d] 3,oD [] 0],λ_=>[]⟩
theorem AI(e it bb loc d sf:Addr)(kk:Nat->Tok)(n:Nat)(w:World):af w mT 60 (py w.params e it bb loc d sf kk n):=by
 refine ak.tri (λ_=>⟨rfl,rfl⟩) (Q:=λr N=>r=.ok .next/\∃oi',N=[(e,xZ it 0),(it,oi'),(bb,oL [] n)]++[(loc,frm w.params sC kk [.ref sf,.ref bb,.ref d] 3),(d,oD [] 0)]) ?_ ?_
 .obtain⟨elts,x1,pos,ht⟩:=ju;unfold py aG;rw[ht,kQ];exact mP (k:=0) (vs:=[]) (old:=.none) (F:=[(loc,frm w.params sC kk [.ref sf,.ref bb,.ref d] 3),(d,oD [] 0)]) rfl rfl ⟨rfl,rfl⟩ λoi'=>⟨rfl,oi',rfl⟩
 .rintro r N ⟨rfl,oi',rfl⟩;obtain⟨u,_,hu⟩:=n9 oi' (λ_=>0);refine⟨u,rfl,?_⟩;simp only[py,hu];exact .refl _
noncomputable def zP(P:Params)(pa bb:Addr)(oa:Obj)(b:List Pt)(n:Nat)(m:Nat):Tr:=
 ⟨[],λuu=>[],λuu=>[List.map dN (fY b uu).1],.call (.ref 364) ⟨[.none,.ref pa,.ref bb,.bool false],[]⟩,[(pa,oa),(bb,oL (vT b) n)],λuu=>(.ok (.ret (.ref ((uu.n 0)+ab)))),λuu=>[oa,oL (vT b) n],λuu=>[((uu.n 1)+ab,aD P kA (kl [uu.n 2,uu.n 3,uu.n 4,uu.n 5,uu.n 6,uu.n 7,uu.n 8,uu.n 9,uu.n 11,uu.n 13]) [.none,.ref pa,.ref bb,.bool false,.none,.none,.none,.ref ((uu.n 10)+ab),.ref ((uu.n 12)+ab),.ref ((uu.n 14)+ab)] 10),((uu.n 0)+ab,oI 364 ((uu.n 1)+ab)),((uu.n 10)+ab,oD (eS P (List.map b9 (fY b uu).1)) (fY b uu).2.1),((uu.n 12)+ab,aL (.set ⟨[]⟩ 0 (sK P)))]⟩
theorem Eo(pa bb:Addr)(oa:Obj)(b:List Pt)(n:Nat)(h1:1<=b.length)(h2:b.length<=1000)(hb:(b.map (·.1)).Nodup)(m:Nat)(hm:(vT b).length=m+1)(hm2:(vT b).length<=1000)(w:World):af w mT 100 (zP w.params pa bb oa b n m):=
 cx (mT) 100 (λP=>zP P pa bb oa b n m) 0x704820104120204104834d34408d04134d1c71c120104120120204808104120d49209248249208208204134d34704820104120204104834d3471c704804104804808120204104835144245109144208208104440240241040240241010208234104d3471c704804104804808120204104834d34704820104120204104834234d0c11c804104120104120104120c1c71c120104120120204808104120c1c71c120104120120204808104120c1c71c120104120120204808104120c1c71c120104120120204808104120c30704820104120204104830c08c30c30304a1c804104120104120104120a1c71c120104120120204808104120b1c71c120104120120204808104120b1c71c120104120120204808104120b2c70482010412020410482cb08b2cb2c304a1c804104120104120104120a08a28a28a2830492472010410480410480410482471c70480410480480812020410482491c71c12010412012020480810412091c71c12010412012020480810412091c71c1201041201202048081041209242249249249249249043041041201201041041041041041041081041041041081041081081042 (λw=>[rF 0 [1] [] λhh=>qd bb (vT b) n,rT 60 [11,10,1,8,9] [] λhh=>D0 ((nZ hh 54)+519) (aZ hh 54) bb (aZ hh 46) (aZ hh 50) (aZ hh 1) (kl [nZ hh 47,nZ hh 49,nZ hh 53]) b n h1 h2 hb w,rF 0 [1] [] λhh=>aF bb (vT b) n (m+1) hm (by omega)])
 [0,1,2,3,9,12] [0] (λch=>⟨λi=>[nZ ch 1,nZ ch 0,nZ ch 10,nZ ch 12,nZ ch 14,nZ ch 16,nZ ch 30,nZ ch 32,nZ ch 45,nZ ch 52,nZ ch 50,nZ ch 58,nZ ch 56,nZ ch 64,nZ ch 62].getD i 0,(ch 55).u⟩) w
noncomputable def vF(P:Params)(pa bb:Addr)(oa:Obj)(n:Nat):Tr:=
 ⟨[],λuu=>[],λuu=>[],.call (.ref 364) ⟨[.none,.ref pa,.ref bb,.bool false],[]⟩,[(pa,oa),(bb,oL [] n)],λuu=>(.ok (.ret (.ref ((uu.n 0)+ab)))),λuu=>[oa,oL [] n],λuu=>[((uu.n 1)+ab,aD P kA (kl [uu.n 2,uu.n 3,uu.n 4,uu.n 5,uu.n 6,uu.n 7,uu.n 8,uu.n 9,uu.n 11,uu.n 13]) [.none,.ref pa,.ref bb,.bool false,.none,.none,.none,.ref ((uu.n 10)+ab),.ref ((uu.n 12)+ab),.ref ((uu.n 14)+ab)] 10),((uu.n 0)+ab,oI 364 ((uu.n 1)+ab)),((uu.n 10)+ab,oD [] 0),((uu.n 12)+ab,aL (.set ⟨[]⟩ 0 (sK P)))]⟩
theorem A2(pa bb:Addr)(oa:Obj)(n:Nat)(w:World):af w mT 100 (vF w.params pa bb oa n):=
 cx (mT) 100 (λP=>vF P pa bb oa n) 0x704820104120204104834d34408d04134d1c71c120104120120204808104120d49209248249208208204134d34704820104120204104834d3471c704804104804808120204104835144245109144208208104440240241040240241010208234104d3471c704804104804808120204104834d34704820104120204104834234d0c11c804104120104120104120c1c71c120104120120204808104120c1c71c120104120120204808104120c1c71c120104120120204808104120c1c71c120104120120204808104120c30704820104120204104830c08c30c30304a1c804104120104120104120a1c71c120104120120204808104120b1c71c120104120120204808104120b1c71c120104120120204808104120b2c70482010412020410482cb08b2cb2c304a1c804104120104120104120a08a28a28a2830492472010410480410480410482471c70480410480480812020410482491c71c12010412012020480810412091c71c12010412012020480810412091c71c1201041201202048081041209242249249249249249043041041201201041041041041041041081041041041081041081081042 (λw=>[rF 0 [1] [] λhh=>qd bb [] n,rT 60 [11,10,1,8,9] [] λhh=>AI ((nZ hh 54)+519) (aZ hh 54) bb (aZ hh 46) (aZ hh 50) (aZ hh 1) (kl [nZ hh 47,nZ hh 49,nZ hh 53]) n w,rF 0 [1] [] λhh=>aF bb [] n 0 rfl (by decide)])
 [0,1,2,3,9,12] [] (λch=>⟨λi=>[nZ ch 1,nZ ch 0,nZ ch 10,nZ ch 12,nZ ch 14,nZ ch 16,nZ ch 30,nZ ch 32,nZ ch 45,nZ ch 52,nZ ch 50,nZ ch 58,nZ ch 56,nZ ch 64,nZ ch 62].getD i 0,(ch 0).u⟩) w
noncomputable abbrev EP(a b:Int)(t u v:Tok):Obj:={cls:=.type "range",data:=.fields #[.int a t,.int b u,.int 1 v]}
noncomputable def Fb(r:Addr)(a b:Int)(t u v:Tok):Tr:=⟨[],λ_=>[],λ_=>[],.call (.builtin "range.__iter__") ⟨[.ref r],[]⟩,[(r,EP a b t u v)],λx=>.ok (.ret (.ref (x.n 0+ab))),λ_=>[EP a b t u v],λx=>[(x.n 0+ab,aY a (b-a))]⟩
theorem mW{w:World}{hb:Md}{lv:Nat}(r:Addr)(a b:Int)(t u v:Tok)(h0:0<=a)(hab:a<=b)(h1:b<=10000):af w hb lv (Fb r a b t u v):=by
 have hs:Builtin.Range.rangeSize a b 1=b-a:=by
  unfold Builtin.Range.rangeSize;rw[if_pos (by decide)];split
  .rw[Int.ediv_one];omega
  .omega
 have f:∀i:Int,-2<=i->i<=10001->Builtin.Range.rangeFitsLong i=true:=λi a c=>by
  unfold Builtin.Range.rangeFitsLong;simp;omega
 have hall:(Builtin.Range.rangeFitsLong a&&Builtin.Range.rangeFitsLong b&&Builtin.Range.rangeFitsLong 1&&Builtin.Range.rangeFitsLong (Builtin.Range.rangeSize a b 1)&&(Builtin.Range.rangeSize a b 1==0||if(1:Int)>0 then Builtin.Range.rangeFitsLong (b+(1-1))else Builtin.Range.rangeFitsLong (b+(1+1))))=true:=by
  rw[hs,f a (by omega) (by omega),f b (by omega) (by omega),f 1 (by omega) (by omega),if_pos (by decide),f (b+(1-1)) (by omega) (by omega),f (b-a) (by omega) (by omega)];simp
 refine⟨λMt os G A s R hA C H=>?_,λ_=>⟨rfl,rfl⟩⟩;have ho:=(C.own _ (.head _)).1;refine bu Ph ⟨_,ho,rfl⟩ O9 (OW _) (N8 r a b 1 t u v (by rw[hall];simp)) ⟨ho,?_⟩;rw[hall,hs];have e0:s.heap.objs.size-ab+ab=s.heap.objs.size:=MJ (cC G C);have C2:=C.alloc (o:=aY a (b-a)) rfl;have:=H (uN (s.heap.objs.size-ab)) _ (by
  show am Mt os (_++[(s.heap.objs.size-ab+ab,aY a (b-a))]) _;rw[e0];exact C2)
 simp only[Fb,uN,e0]at this;exact this
noncomputable def cV:List (List Nat):=[[115,101,108,102],[97,108,111],[97,104,105],[98,108,111],[98,104,105],[97],[98],[98,50,106],[105,115,98,106,117,110,107],[98,101,115,116,115,105,122,101],[98,101,115,116,106],[98,101,115,116,105],[106,50,108,101,110],[110,111,116,104,105,110,103],[105],[106,50,108,101,110,103,101,116],[110,101,119,106,50,108,101,110],[106],[107]]
noncomputable def d6:List (List Nat):=[[115,101,108,102],[108,98],[108,97],[113,117,101,117,101],[109,97,116,99,104,105,110,103,95,98,108,111,99,107,115],[97,108,111],[97,104,105],[98,108,111],[98,104,105],[105],[106],[107],[120],[105,49],[106,49],[107,49],[110,111,110,95,97,100,106,97,99,101,110,116],[105,50],[106,50],[107,50]]
noncomputable def nh:List (List Nat):=[[115,101,108,102],[105],[106],[97,110,115,119,101,114],[97,105],[98,106],[115,105,122,101],[116,97,103]]
noncomputable abbrev cW:Stmt:=aP HC 7
noncomputable abbrev ry:Stmt:=aP (ao cW) 2
noncomputable abbrev ew:Stmt:=aP DS 5
noncomputable abbrev x4(d:Addr):Obj:={cls:=.type "builtin_function_or_method",data:=.fields #[.builtin "dict.get",.ref d]}
noncomputable def vt(P:Params)(it l loc:Addr)(v:Value)(n:Nat):Tr:=
 ⟨[],λuu=>[],λuu=>[],aG ry it (cp loc),[(it,aI l 1),(l,oL [v] n)],λuu=>(.ok .next),λuu=>[ar 1,oL [v] n],λuu=>[]⟩
theorem lC(it l loc:Addr)(v:Value)(n:Nat)(w:World):af w mT 60 (vt w.params it l loc v n):=
 cx (mT) 60 (λP=>vt P it l loc v n) 35668290 (λw=>[Bm 0 1])
 [0,1] [] (λch=>⟨λi=>[].getD i 0,(ch 0).u⟩) w
noncomputable def vu(P:Params)(it l loc:Addr)(n:Nat):Tr:=
 ⟨[],λuu=>[],λuu=>[],aG ry it (cp loc),[(it,aI l 0),(l,oL [] n)],λuu=>(.ok .next),λuu=>[ar 0,oL [] n],λuu=>[]⟩
theorem oV(it l loc:Addr)(n:Nat)(w:World):af w mT 60 (vu w.params it l loc n):=
 cx (mT) 60 (λP=>vu P it l loc n) 35668290 (λw=>[Bm 0 1])
 [0,1] [] (λch=>⟨λi=>[].getD i 0,(ch 0).u⟩) w
noncomputable def Jf(d:Addr)(es:List DictEntry)(n:Nat)(key:Value)(rest:List Value)(v:Value):Tr:=⟨[],λ_=>[],λ_=>[],.builtin "dict.get" ⟨.ref d::key::rest,[]⟩,[(d,oD es n)],λ_=>.ok (.ret v),λ_=>[oD es n],λ_=>[]⟩
theorem fO{w:World}{hb:Md}{lv:Nat}(d:Addr)(n:Nat)(kvs:List KI)(k:Int)(t:Tok)(dv:Value)(r:Option Value)(h:uy kvs k=r):af w hb lv (Jf d (eI kvs) n (.int k t) [dv] (r.getD dv)):=by
 refine⟨λMt os G A s R hA C H=>?_,λ_=>⟨rfl,rfl⟩⟩;have ho:=(C.own _ (.head _)).1;have hd:=jQ G C (.head _);refine Nf Pn ?_;rw[MV F.slot_dict_get.plain _];show wpAny _ _ (dictGet d (.int k t)>>=_) _ _ s;refine on (yw ho ?_);rw[h];have C':=C.toks (s.toks+1);cases r with
 |some v=>exact Mh (H u0 _ C')
 |none=>
  show wpAny _ _ (Builtin.Dict.missed d _>>=_) _ _ _;exact on (O7 hd (Mh (H u0 _ C')))
theorem gL{w:World}{hb:Md}{lv:Nat}(d:Addr)(n:Nat)(k:Int)(t:Tok)(v:Value):af w hb lv (FP d [] n (.int k t) v (eI [((k,t),v)]) (n+1)):=xh d n [] k t v rfl (by decide)
noncomputable def vo(P:Params)(it l loc g d1 nj sf aa bb bd ib jl no:Addr)(kk:Nat->Tok)(alo ahi blo bhi bi bj bs i j:Int)(t1 t2 t3 t4 t5 t6 t7 t8 jt:Tok)(n n1:Nat):Tr:=
 ⟨[],λuu=>[],λuu=>[],aG ry it (cp loc),[(it,aI l 0),(l,oL [.int j jt] n),(loc,frm P cV kk [.ref sf,.int alo t1,.int ahi t2,.int blo t3,.int bhi t4,.ref aa,.ref bb,.ref bd,.ref ib,.int bs t7,.int bj t6,.int bi t5,.ref jl,.ref no,.int i t8,.ref g,.ref nj] 17),(g,x4 d1),(d1,oD (eI []) n1),(nj,oD [] 0)],λuu=>(.ok .next),λuu=>[ar 1,oL [.int j jt] n,frm P cV (kx kk 17 [uu.n 3,uu.n 4]) [.ref sf,.int alo t1,.int ahi t2,.int blo t3,.int bhi t4,.ref aa,.ref bb,.ref bd,.ref ib,.int 1 (uu.n 0),.int ((j-1)+1) (uu.n 1),.int ((i-1)+1) (uu.n 2),.ref jl,.ref no,.int i t8,.ref g,.ref nj,.int j jt,.int 1 (uu.n 0)] 19,⟨.type "builtin_function_or_method",none,.fields ⟨[.builtin "dict.get",.ref d1]⟩,⟨[]⟩⟩,oD (eI []) n1,oD (eI [((j,jt),.int 1 (uu.n 0))]) 1],λuu=>[]⟩
theorem tW(it l loc g d1 nj sf aa bb bd ib jl no:Addr)(kk:Nat->Tok)(alo ahi blo bhi bi bj bs i j:Int)(t1 t2 t3 t4 t5 t6 t7 t8 jt:Tok)(n n1:Nat)(h1:decide (j<blo)=false)(h2:decide (j>=bhi)=false)(h3:decide (Int.ofNat 1>bs)=true)(w:World):af w mT 60 (vo w.params it l loc g d1 nj sf aa bb bd ib jl no kk alo ahi blo bhi bi bj bs i j t1 t2 t3 t4 t5 t6 t7 t8 jt n n1):=
 cx (mT) 60 (λP=>vo P it l loc g d1 nj sf aa bb bd ib jl no kk alo ahi blo bhi bi bj bs i j t1 t2 t3 t4 t5 t6 t7 t8 jt n n1) 0x1071c71c71ce10c10c10c10c3022c22cb2c70820821c70820821c71071c428a1c71c70821092492022020871c41c71071c71c4142 (λw=>[qG 0 1,bE h1,rF 0 [] [] λhh=>qg j bhi jt t4 false h2,rF 0 [4] [] λhh=>fO d1 n1 [] (j-1) (nZ hh 5) (.int 0 (nZ hh 6)) none rfl,rF 0 [5] [] λhh=>gL nj 0 j jt (.int 1 (nZ hh 9)),dX h3,bX 7 6,bX 7 6,bX 7 6,f6 7 6,rT 60 [0,1] [] λhh=>lC it l loc (.int j jt) n w])
 [0,1,2,3,4,5] [] (λch=>⟨λi=>[nZ ch 9,nZ ch 18,nZ ch 15,nZ ch 1,nZ ch 10].getD i 0,(ch 0).u⟩) w
noncomputable def vp(P:Params)(it l loc g d1 nj sf aa bb bd ib jl no:Addr)(kk:Nat->Tok)(alo ahi blo bhi bi bj bs i j:Int)(t1 t2 t3 t4 t5 t6 t7 t8 jt:Tok)(z1 z2:Value)(n n1:Nat):Tr:=
 ⟨[],λuu=>[],λuu=>[],aG ry it (cp loc),[(it,aI l 0),(l,oL [.int j jt] n),(loc,frm P cV kk [.ref sf,.int alo t1,.int ahi t2,.int blo t3,.int bhi t4,.ref aa,.ref bb,.ref bd,.ref ib,.int bs t7,.int bj t6,.int bi t5,.ref jl,.ref no,.int i t8,.ref g,.ref nj,z1,z2] 19),(g,x4 d1),(d1,oD (eI []) n1),(nj,oD [] 0)],λuu=>(.ok .next),λuu=>[ar 1,oL [.int j jt] n,frm P cV kk [.ref sf,.int alo t1,.int ahi t2,.int blo t3,.int bhi t4,.ref aa,.ref bb,.ref bd,.ref ib,.int bs t7,.int bj t6,.int bi t5,.ref jl,.ref no,.int i t8,.ref g,.ref nj,.int j jt,.int 1 (uu.n 0)] 19,⟨.type "builtin_function_or_method",none,.fields ⟨[.builtin "dict.get",.ref d1]⟩,⟨[]⟩⟩,oD (eI []) n1,oD (eI [((j,jt),.int 1 (uu.n 0))]) 1],λuu=>[]⟩
theorem AP(it l loc g d1 nj sf aa bb bd ib jl no:Addr)(kk:Nat->Tok)(alo ahi blo bhi bi bj bs i j:Int)(t1 t2 t3 t4 t5 t6 t7 t8 jt:Tok)(z1 z2:Value)(n n1:Nat)(h1:decide (j<blo)=false)(h2:decide (j>=bhi)=false)(h3:decide (Int.ofNat 1>bs)=false)(w:World):af w mT 60 (vp w.params it l loc g d1 nj sf aa bb bd ib jl no kk alo ahi blo bhi bi bj bs i j t1 t2 t3 t4 t5 t6 t7 t8 jt z1 z2 n n1):=
 cx (mT) 60 (λP=>vp P it l loc g d1 nj sf aa bb bd ib jl no kk alo ahi blo bhi bi bj bs i j t1 t2 t3 t4 t5 t6 t7 t8 jt z1 z2 n n1) 0x41071c428a1c71c70821092492022020871c41c71071c71c4142 (λw=>[qG 0 1,bE h1,rF 0 [] [] λhh=>qg j bhi jt t4 false h2,rF 0 [4] [] λhh=>fO d1 n1 [] (j-1) (nZ hh 5) (.int 0 (nZ hh 6)) none rfl,rF 0 [5] [] λhh=>gL nj 0 j jt (.int 1 (nZ hh 9)),dX h3,rT 60 [0,1] [] λhh=>lC it l loc (.int j jt) n w])
 [0,1,2,3,4,5] [] (λch=>⟨λi=>[nZ ch 9].getD i 0,(ch 0).u⟩) w
noncomputable def vq(P:Params)(it l loc g d1 nj sf aa bb bd ib jl no:Addr)(kk:Nat->Tok)(alo ahi blo bhi bi bj bs i j:Int)(t1 t2 t3 t4 t5 t6 t7 t8 jt:Tok)(z1 z2:Value)(j0 k0:Int)(u0 u1:Tok)(n n1:Nat):Tr:=
 ⟨[],λuu=>[],λuu=>[],aG ry it (cp loc),[(it,aI l 0),(l,oL [.int j jt] n),(loc,frm P cV kk [.ref sf,.int alo t1,.int ahi t2,.int blo t3,.int bhi t4,.ref aa,.ref bb,.ref bd,.ref ib,.int bs t7,.int bj t6,.int bi t5,.ref jl,.ref no,.int i t8,.ref g,.ref nj,z1,z2] 19),(g,x4 d1),(d1,oD (eI [((j0,u0),.int k0 u1)]) n1),(nj,oD [] 0)],λuu=>(.ok .next),λuu=>[ar 1,oL [.int j jt] n,frm P cV kk [.ref sf,.int alo t1,.int ahi t2,.int blo t3,.int bhi t4,.ref aa,.ref bb,.ref bd,.ref ib,.int (k0+1) (uu.n 0),.int ((j-(k0+1))+1) (uu.n 1),.int ((i-(k0+1))+1) (uu.n 2),.ref jl,.ref no,.int i t8,.ref g,.ref nj,.int j jt,.int (k0+1) (uu.n 0)] 19,⟨.type "builtin_function_or_method",none,.fields ⟨[.builtin "dict.get",.ref d1]⟩,⟨[]⟩⟩,oD (eI [((j0,u0),.int k0 u1)]) n1,oD (eI [((j,jt),.int (k0+1) (uu.n 0))]) 1],λuu=>[]⟩
theorem AQ(it l loc g d1 nj sf aa bb bd ib jl no:Addr)(kk:Nat->Tok)(alo ahi blo bhi bi bj bs i j:Int)(t1 t2 t3 t4 t5 t6 t7 t8 jt:Tok)(z1 z2:Value)(j0 k0:Int)(u0 u1:Tok)(n n1:Nat)(h1:decide (j<blo)=false)(h2:decide (j>=bhi)=false)(hj:uy [((j0,u0),.int k0 u1)] (j-Int.ofNat 1)=some (.int k0 u1))(h3:decide (k0+Int.ofNat 1>bs)=true)(w:World):af w mT 60 (vq w.params it l loc g d1 nj sf aa bb bd ib jl no kk alo ahi blo bhi bi bj bs i j t1 t2 t3 t4 t5 t6 t7 t8 jt z1 z2 j0 k0 u0 u1 n n1):=
 cx (mT) 60 (λP=>vq P it l loc g d1 nj sf aa bb bd ib jl no kk alo ahi blo bhi bi bj bs i j t1 t2 t3 t4 t5 t6 t7 t8 jt z1 z2 j0 k0 u0 u1 n n1) 0x1071c71c71ce10c10c10c10c3022c22cb2c70820821c70820821c71071c428a1c71c70821092492022020871c41c71071c71c4142 (λw=>[qG 0 1,bE h1,rF 0 [] [] λhh=>qg j bhi jt t4 false h2,rF 0 [4] [] λhh=>fO d1 n1 [((j0,u0),.int k0 u1)] (j-1) (nZ hh 5) (.int 0 (nZ hh 6)) (some (.int k0 u1)) hj,rF 0 [5] [] λhh=>gL nj 0 j jt (.int (k0+1) (nZ hh 9)),dX h3,bX 7 6,bX 7 6,bX 7 6,f6 7 6,rT 60 [0,1] [] λhh=>lC it l loc (.int j jt) n w])
 [0,1,2,3,4,5] [] (λch=>⟨λi=>[nZ ch 9,nZ ch 18,nZ ch 15].getD i 0,(ch 0).u⟩) w
noncomputable def vr(P:Params)(it l loc g d1 nj sf aa bb bd ib jl no:Addr)(kk:Nat->Tok)(alo ahi blo bhi bi bj bs i j:Int)(t1 t2 t3 t4 t5 t6 t7 t8 jt:Tok)(z1 z2:Value)(j0 k0:Int)(u0 u1:Tok)(n n1:Nat):Tr:=
 ⟨[],λuu=>[],λuu=>[],aG ry it (cp loc),[(it,aI l 0),(l,oL [.int j jt] n),(loc,frm P cV kk [.ref sf,.int alo t1,.int ahi t2,.int blo t3,.int bhi t4,.ref aa,.ref bb,.ref bd,.ref ib,.int bs t7,.int bj t6,.int bi t5,.ref jl,.ref no,.int i t8,.ref g,.ref nj,z1,z2] 19),(g,x4 d1),(d1,oD (eI [((j0,u0),.int k0 u1)]) n1),(nj,oD [] 0)],λuu=>(.ok .next),λuu=>[ar 1,oL [.int j jt] n,frm P cV kk [.ref sf,.int alo t1,.int ahi t2,.int blo t3,.int bhi t4,.ref aa,.ref bb,.ref bd,.ref ib,.int bs t7,.int bj t6,.int bi t5,.ref jl,.ref no,.int i t8,.ref g,.ref nj,.int j jt,.int (k0+1) (uu.n 0)] 19,⟨.type "builtin_function_or_method",none,.fields ⟨[.builtin "dict.get",.ref d1]⟩,⟨[]⟩⟩,oD (eI [((j0,u0),.int k0 u1)]) n1,oD (eI [((j,jt),.int (k0+1) (uu.n 0))]) 1],λuu=>[]⟩
theorem AR(it l loc g d1 nj sf aa bb bd ib jl no:Addr)(kk:Nat->Tok)(alo ahi blo bhi bi bj bs i j:Int)(t1 t2 t3 t4 t5 t6 t7 t8 jt:Tok)(z1 z2:Value)(j0 k0:Int)(u0 u1:Tok)(n n1:Nat)(h1:decide (j<blo)=false)(h2:decide (j>=bhi)=false)(hj:uy [((j0,u0),.int k0 u1)] (j-Int.ofNat 1)=some (.int k0 u1))(h3:decide (k0+Int.ofNat 1>bs)=false)(w:World):af w mT 60 (vr w.params it l loc g d1 nj sf aa bb bd ib jl no kk alo ahi blo bhi bi bj bs i j t1 t2 t3 t4 t5 t6 t7 t8 jt z1 z2 j0 k0 u0 u1 n n1):=
 cx (mT) 60 (λP=>vr P it l loc g d1 nj sf aa bb bd ib jl no kk alo ahi blo bhi bi bj bs i j t1 t2 t3 t4 t5 t6 t7 t8 jt z1 z2 j0 k0 u0 u1 n n1) 0x41071c428a1c71c70821092492022020871c41c71071c71c4142 (λw=>[qG 0 1,bE h1,rF 0 [] [] λhh=>qg j bhi jt t4 false h2,rF 0 [4] [] λhh=>fO d1 n1 [((j0,u0),.int k0 u1)] (j-1) (nZ hh 5) (.int 0 (nZ hh 6)) (some (.int k0 u1)) hj,rF 0 [5] [] λhh=>gL nj 0 j jt (.int (k0+1) (nZ hh 9)),dX h3,rT 60 [0,1] [] λhh=>lC it l loc (.int j jt) n w])
 [0,1,2,3,4,5] [] (λch=>⟨λi=>[nZ ch 9].getD i 0,(ch 0).u⟩) w
section
section
variable(it loc sf aa bb bd ib jl no:Addr)(kk:Nat->Tok)(alo ahi blo bhi bi bj bs i left:Int)(t1 t2 t3 t4 t5 t6 t7:Tok)(z1 z2 z3 z4 z5:Value)(a:List Pt)(bs2:List BJ)(na n1 m:Nat)(x:List Nat)(xt:Tok)(kv:List KI)
noncomputable def DE(hl:decide (left<=0)=false)(h0:0<=i)(hf:Builtin.List.listFitsIndex i=true)(hx:(vT a)[i.toNat]?=some (.str (T x) xt))(hk:lk (bs2.map b9) x=none)(w:World):=
 aT (mT) 70 (λP=>aG cW it (cp loc))
 (λP=>[(it,aY i left),(loc,frm P cV kk [.ref sf,.int alo t1,.int ahi t2,.int blo t3,.int bhi t4,.ref aa,.ref bb,.ref bd,.ref ib,.int bs t7,.int bj t6,.int bi t5,.ref jl,.ref no] 14),(aa,oL (vT a) na),(bd,oD (eS P (bs2.map b9)) m),(no,oL [] 0),(jl,oD (eI kv) n1)]) (λP=>[])
 0x1861843422422491061071c718620820818618618a08228a282282286186105 (λw=>[gu 0 hl,b6 2 h0 hf hx,rF 0 [3] [] λhh=>eC bd m (List.map b9 bs2) x xt (.ref no) none hk,rT 60 [8,4] [] λhh=>oV (aZ hh 9) no loc 0 w])
 [0,1,2,3,4,5,7] [] (λP ch=>.ok (.again (aG cW it (cp loc)))) (λP ch=>[(it,aY (i+1) (left-1)),(loc,frm P cV (kx kk 14 [nZ ch 1,nZ ch 4,nZ ch 6]) [.ref sf,.int alo t1,.int ahi t2,.int blo t3,.int bhi t4,.ref aa,.ref bb,.ref bd,.ref ib,.int bs t7,.int bj t6,.int bi t5,.ref (aZ ch 5),.ref no,.int i (nZ ch 0),.ref (aZ ch 3),.ref (aZ ch 5)] 17),(aa,oL (vT a) na),(bd,oD (eS P (List.map b9 bs2)) m),(no,oL [] 0),(jl,oD (eI kv) n1),(aZ ch 5,oD [] 0)]) (λP ch=>[]) w
noncomputable def DF(hl:decide (left<=0)=false)(h0:0<=i)(hf:Builtin.List.listFitsIndex i=true)(hx:(vT a)[i.toNat]?=some (.str (T x) xt))(hk:lk (bs2.map b9) x=none)(w:World):=
 aT (mT) 70 (λP=>aG cW it (cp loc))
 (λP=>[(it,aY i left),(loc,frm P cV kk [.ref sf,.int alo t1,.int ahi t2,.int blo t3,.int bhi t4,.ref aa,.ref bb,.ref bd,.ref ib,.int bs t7,.int bj t6,.int bi t5,.ref jl,.ref no,z1,z2,z3] 17),(aa,oL (vT a) na),(bd,oD (eS P (bs2.map b9)) m),(no,oL [] 0),(jl,oD (eI kv) n1)]) (λP=>[])
 0x1861843422422491061071c718620820818618618a08228a282282286186105 (λw=>[gu 0 hl,b6 2 h0 hf hx,rF 0 [3] [] λhh=>eC bd m (List.map b9 bs2) x xt (.ref no) none hk,rT 60 [8,4] [] λhh=>oV (aZ hh 9) no loc 0 w])
 [0,1,2,3,4,7] [] (λP ch=>.ok (.again (aG cW it (cp loc)))) (λP ch=>[(it,aY (i+1) (left-1)),(loc,frm P cV kk [.ref sf,.int alo t1,.int ahi t2,.int blo t3,.int bhi t4,.ref aa,.ref bb,.ref bd,.ref ib,.int bs t7,.int bj t6,.int bi t5,.ref (aZ ch 5),.ref no,.int i (nZ ch 0),.ref (aZ ch 3),.ref (aZ ch 5)] 17),(aa,oL (vT a) na),(bd,oD (eS P (List.map b9 bs2)) m),(no,oL [] 0),(aZ ch 5,oD [] 0)]) (λP ch=>[]) w
noncomputable def DG(hl:decide (left<=0)=false)(h0:0<=i)(hf:Builtin.List.listFitsIndex i=true)(hx:(vT a)[i.toNat]?=some (.str (T x) xt))(hk:lk (bs2.map b9) x=none)(w:World):=
 aT (mT) 70 (λP=>aG cW it (cp loc))
 (λP=>[(it,aY i left),(loc,frm P cV kk [.ref sf,.int alo t1,.int ahi t2,.int blo t3,.int bhi t4,.ref aa,.ref bb,.ref bd,.ref ib,.int bs t7,.int bj t6,.int bi t5,.ref jl,.ref no,z1,z2,z3,z4,z5] 19),(aa,oL (vT a) na),(bd,oD (eS P (bs2.map b9)) m),(no,oL [] 0),(jl,oD (eI kv) n1)]) (λP=>[])
 0x1861843422422491061071c718620820818618618a08228a282282286186105 (λw=>[gu 0 hl,b6 2 h0 hf hx,rF 0 [3] [] λhh=>eC bd m (List.map b9 bs2) x xt (.ref no) none hk,rT 60 [8,4] [] λhh=>oV (aZ hh 9) no loc 0 w])
 [0,1,2,3,4,7] [] (λP ch=>.ok (.again (aG cW it (cp loc)))) (λP ch=>[(it,aY (i+1) (left-1)),(loc,frm P cV kk [.ref sf,.int alo t1,.int ahi t2,.int blo t3,.int bhi t4,.ref aa,.ref bb,.ref bd,.ref ib,.int bs t7,.int bj t6,.int bi t5,.ref (aZ ch 5),.ref no,.int i (nZ ch 0),.ref (aZ ch 3),.ref (aZ ch 5),z4,z5] 19),(aa,oL (vT a) na),(bd,oD (eS P (List.map b9 bs2)) m),(no,oL [] 0),(aZ ch 5,oD [] 0)]) (λP ch=>[]) w
noncomputable def DH(lj:Addr)(j:Int)(jt:Tok)(n2:Nat)(hl:decide (left<=0)=false)(h0:0<=i)(hf:Builtin.List.listFitsIndex i=true)(hx:(vT a)[i.toNat]?=some (.str (T x) xt))(hk:lk (bs2.map b9) x=some (.ref lj))(h1:decide (j<blo)=false)(h2:decide (j>=bhi)=false)(h3:decide (Int.ofNat 1>bs)=true)(w:World):=
 aT (mT) 70 (λP=>aG cW it (cp loc))
 (λP=>[(it,aY i left),(loc,frm P cV kk [.ref sf,.int alo t1,.int ahi t2,.int blo t3,.int bhi t4,.ref aa,.ref bb,.ref bd,.ref ib,.int bs t7,.int bj t6,.int bi t5,.ref jl,.ref no] 14),(aa,oL (vT a) na),(bd,oD (eS P (bs2.map b9)) m),(no,oL [] 0),(jl,oD ([]) n1),(lj,oL [.int j jt] n2)]) (λP=>[])
 0x1861843822c22cb1061071c718620820818618618a08228a282282286186105 (λw=>[gu 0 hl,b6 2 h0 hf hx,rF 0 [3] [] λhh=>eC bd m (List.map b9 bs2) x xt (.ref no) (some (.ref lj)) hk,rT 60 [9,6,1,7,5,8] [] λhh=>tW (aZ hh 9) lj loc (aZ hh 3) jl (aZ hh 5) sf aa bb bd ib jl no (kx kk 14 [nZ hh 1,nZ hh 4,nZ hh 6]) alo ahi blo bhi bi bj bs i j t1 t2 t3 t4 t5 t6 t7 (nZ hh 0) jt n2 n1 h1 h2 h3 w])
 [0,1,2,3,4,5,6,8] [] (λP ch=>.ok (.again (aG cW it (cp loc)))) (λP ch=>[(it,aY (i+1) (left-1)),(loc,frm P cV (kx kk 14 [nZ ch 1,nZ ch 4,nZ ch 6,(ch 10).n 3,(ch 10).n 4]) [.ref sf,.int alo t1,.int ahi t2,.int blo t3,.int bhi t4,.ref aa,.ref bb,.ref bd,.ref ib,.int 1 (nZ ch 10),.int ((j-1)+1) ((ch 10).n 1),.int ((i-1)+1) ((ch 10).n 2),.ref (aZ ch 5),.ref no,.int i (nZ ch 0),.ref (aZ ch 3),.ref (aZ ch 5),.int j jt,.int 1 (nZ ch 10)] 19),(aa,oL (vT a) na),(bd,oD (eS P (List.map b9 bs2)) m),(no,oL [] 0),(jl,oD (eI []) n1),(lj,oL [.int j jt] n2),(aZ ch 5,oD (eI [((j,jt),.int 1 (nZ ch 10))]) 1)]) (λP ch=>[]) w
noncomputable def DI(lj:Addr)(j:Int)(jt:Tok)(n2:Nat)(hl:decide (left<=0)=false)(h0:0<=i)(hf:Builtin.List.listFitsIndex i=true)(hx:(vT a)[i.toNat]?=some (.str (T x) xt))(hk:lk (bs2.map b9) x=some (.ref lj))(h1:decide (j<blo)=false)(h2:decide (j>=bhi)=false)(h3:decide (Int.ofNat 1>bs)=true)(w:World):=
 aT (mT) 70 (λP=>aG cW it (cp loc))
 (λP=>[(it,aY i left),(loc,frm P cV kk [.ref sf,.int alo t1,.int ahi t2,.int blo t3,.int bhi t4,.ref aa,.ref bb,.ref bd,.ref ib,.int bs t7,.int bj t6,.int bi t5,.ref jl,.ref no,z1,z2,z3] 17),(aa,oL (vT a) na),(bd,oD (eS P (bs2.map b9)) m),(no,oL [] 0),(jl,oD ([]) n1),(lj,oL [.int j jt] n2)]) (λP=>[])
 0x1861843822c22cb1061071c718620820818618618a08228a282282286186105 (λw=>[gu 0 hl,b6 2 h0 hf hx,rF 0 [3] [] λhh=>eC bd m (List.map b9 bs2) x xt (.ref no) (some (.ref lj)) hk,rT 60 [9,6,1,7,5,8] [] λhh=>tW (aZ hh 9) lj loc (aZ hh 3) jl (aZ hh 5) sf aa bb bd ib jl no kk alo ahi blo bhi bi bj bs i j t1 t2 t3 t4 t5 t6 t7 (nZ hh 0) jt n2 n1 h1 h2 h3 w])
 [0,1,2,3,4,6,8] [] (λP ch=>.ok (.again (aG cW it (cp loc)))) (λP ch=>[(it,aY (i+1) (left-1)),(loc,frm P cV (kx kk 17 [(ch 10).n 3,(ch 10).n 4]) [.ref sf,.int alo t1,.int ahi t2,.int blo t3,.int bhi t4,.ref aa,.ref bb,.ref bd,.ref ib,.int 1 (nZ ch 10),.int ((j-1)+1) ((ch 10).n 1),.int ((i-1)+1) ((ch 10).n 2),.ref (aZ ch 5),.ref no,.int i (nZ ch 0),.ref (aZ ch 3),.ref (aZ ch 5),.int j jt,.int 1 (nZ ch 10)] 19),(aa,oL (vT a) na),(bd,oD (eS P (List.map b9 bs2)) m),(no,oL [] 0),(lj,oL [.int j jt] n2),(aZ ch 5,oD (eI [((j,jt),.int 1 (nZ ch 10))]) 1)]) (λP ch=>[]) w
noncomputable def DJ(lj:Addr)(j:Int)(jt:Tok)(n2:Nat)(hl:decide (left<=0)=false)(h0:0<=i)(hf:Builtin.List.listFitsIndex i=true)(hx:(vT a)[i.toNat]?=some (.str (T x) xt))(hk:lk (bs2.map b9) x=some (.ref lj))(h1:decide (j<blo)=false)(h2:decide (j>=bhi)=false)(h3:decide (Int.ofNat 1>bs)=false)(w:World):=
 aT (mT) 70 (λP=>aG cW it (cp loc))
 (λP=>[(it,aY i left),(loc,frm P cV kk [.ref sf,.int alo t1,.int ahi t2,.int blo t3,.int bhi t4,.ref aa,.ref bb,.ref bd,.ref ib,.int bs t7,.int bj t6,.int bi t5,.ref jl,.ref no,z1,z2,z3,z4,z5] 19),(aa,oL (vT a) na),(bd,oD (eS P (bs2.map b9)) m),(no,oL [] 0),(jl,oD ([]) n1),(lj,oL [.int j jt] n2)]) (λP=>[])
 0x1861843822c22cb1061071c718620820818618618a08228a282282286186105 (λw=>[gu 0 hl,b6 2 h0 hf hx,rF 0 [3] [] λhh=>eC bd m (List.map b9 bs2) x xt (.ref no) (some (.ref lj)) hk,rT 60 [9,6,1,7,5,8] [] λhh=>AP (aZ hh 9) lj loc (aZ hh 3) jl (aZ hh 5) sf aa bb bd ib jl no kk alo ahi blo bhi bi bj bs i j t1 t2 t3 t4 t5 t6 t7 (nZ hh 0) jt z4 z5 n2 n1 h1 h2 h3 w])
 [0,1,2,3,4,6,8] [] (λP ch=>.ok (.again (aG cW it (cp loc)))) (λP ch=>[(it,aY (i+1) (left-1)),(loc,frm P cV kk [.ref sf,.int alo t1,.int ahi t2,.int blo t3,.int bhi t4,.ref aa,.ref bb,.ref bd,.ref ib,.int bs t7,.int bj t6,.int bi t5,.ref (aZ ch 5),.ref no,.int i (nZ ch 0),.ref (aZ ch 3),.ref (aZ ch 5),.int j jt,.int 1 (nZ ch 10)] 19),(aa,oL (vT a) na),(bd,oD (eS P (List.map b9 bs2)) m),(no,oL [] 0),(lj,oL [.int j jt] n2),(aZ ch 5,oD (eI [((j,jt),.int 1 (nZ ch 10))]) 1)]) (λP ch=>[]) w
noncomputable def DK(j0 k0:Int)(u0 u1:Tok)(lj:Addr)(j:Int)(jt:Tok)(n2:Nat)(hl:decide (left<=0)=false)(h0:0<=i)(hf:Builtin.List.listFitsIndex i=true)(hx:(vT a)[i.toNat]?=some (.str (T x) xt))(hk:lk (bs2.map b9) x=some (.ref lj))(h1:decide (j<blo)=false)(h2:decide (j>=bhi)=false)(hj:uy [((j0,u0),.int k0 u1)] (j-Int.ofNat 1)=some (.int k0 u1))(h3:decide (k0+Int.ofNat 1>bs)=true)(w:World):=
 aT (mT) 70 (λP=>aG cW it (cp loc))
 (λP=>[(it,aY i left),(loc,frm P cV kk [.ref sf,.int alo t1,.int ahi t2,.int blo t3,.int bhi t4,.ref aa,.ref bb,.ref bd,.ref ib,.int bs t7,.int bj t6,.int bi t5,.ref jl,.ref no,z1,z2,z3,z4,z5] 19),(aa,oL (vT a) na),(bd,oD (eS P (bs2.map b9)) m),(no,oL [] 0),(jl,oD (eI [((j0,u0),.int k0 u1)]) n1),(lj,oL [.int j jt] n2)]) (λP=>[])
 0x1861843822c22cb1061071c718620820818618618a08228a282282286186105 (λw=>[gu 0 hl,b6 2 h0 hf hx,rF 0 [3] [] λhh=>eC bd m (List.map b9 bs2) x xt (.ref no) (some (.ref lj)) hk,rT 60 [9,6,1,7,5,8] [] λhh=>AQ (aZ hh 9) lj loc (aZ hh 3) jl (aZ hh 5) sf aa bb bd ib jl no kk alo ahi blo bhi bi bj bs i j t1 t2 t3 t4 t5 t6 t7 (nZ hh 0) jt z4 z5 j0 k0 u0 u1 n2 n1 h1 h2 hj h3 w])
 [0,1,2,3,4,6,8] [] (λP ch=>.ok (.again (aG cW it (cp loc)))) (λP ch=>[(it,aY (i+1) (left-1)),(loc,frm P cV kk [.ref sf,.int alo t1,.int ahi t2,.int blo t3,.int bhi t4,.ref aa,.ref bb,.ref bd,.ref ib,.int (k0+1) (nZ ch 10),.int ((j-(k0+1))+1) ((ch 10).n 1),.int ((i-(k0+1))+1) ((ch 10).n 2),.ref (aZ ch 5),.ref no,.int i (nZ ch 0),.ref (aZ ch 3),.ref (aZ ch 5),.int j jt,.int (k0+1) (nZ ch 10)] 19),(aa,oL (vT a) na),(bd,oD (eS P (List.map b9 bs2)) m),(no,oL [] 0),(lj,oL [.int j jt] n2),(aZ ch 5,oD (eI [((j,jt),.int (k0+1) (nZ ch 10))]) 1)]) (λP ch=>[]) w
noncomputable def DL(j0 k0:Int)(u0 u1:Tok)(lj:Addr)(j:Int)(jt:Tok)(n2:Nat)(hl:decide (left<=0)=false)(h0:0<=i)(hf:Builtin.List.listFitsIndex i=true)(hx:(vT a)[i.toNat]?=some (.str (T x) xt))(hk:lk (bs2.map b9) x=some (.ref lj))(h1:decide (j<blo)=false)(h2:decide (j>=bhi)=false)(hj:uy [((j0,u0),.int k0 u1)] (j-Int.ofNat 1)=some (.int k0 u1))(h3:decide (k0+Int.ofNat 1>bs)=false)(w:World):=
 aT (mT) 70 (λP=>aG cW it (cp loc))
 (λP=>[(it,aY i left),(loc,frm P cV kk [.ref sf,.int alo t1,.int ahi t2,.int blo t3,.int bhi t4,.ref aa,.ref bb,.ref bd,.ref ib,.int bs t7,.int bj t6,.int bi t5,.ref jl,.ref no,z1,z2,z3,z4,z5] 19),(aa,oL (vT a) na),(bd,oD (eS P (bs2.map b9)) m),(no,oL [] 0),(jl,oD (eI [((j0,u0),.int k0 u1)]) n1),(lj,oL [.int j jt] n2)]) (λP=>[])
 0x1861843822c22cb1061071c718620820818618618a08228a282282286186105 (λw=>[gu 0 hl,b6 2 h0 hf hx,rF 0 [3] [] λhh=>eC bd m (List.map b9 bs2) x xt (.ref no) (some (.ref lj)) hk,rT 60 [9,6,1,7,5,8] [] λhh=>AR (aZ hh 9) lj loc (aZ hh 3) jl (aZ hh 5) sf aa bb bd ib jl no kk alo ahi blo bhi bi bj bs i j t1 t2 t3 t4 t5 t6 t7 (nZ hh 0) jt z4 z5 j0 k0 u0 u1 n2 n1 h1 h2 hj h3 w])
 [0,1,2,3,4,6,8] [] (λP ch=>.ok (.again (aG cW it (cp loc)))) (λP ch=>[(it,aY (i+1) (left-1)),(loc,frm P cV kk [.ref sf,.int alo t1,.int ahi t2,.int blo t3,.int bhi t4,.ref aa,.ref bb,.ref bd,.ref ib,.int bs t7,.int bj t6,.int bi t5,.ref (aZ ch 5),.ref no,.int i (nZ ch 0),.ref (aZ ch 3),.ref (aZ ch 5),.int j jt,.int (k0+1) (nZ ch 10)] 19),(aa,oL (vT a) na),(bd,oD (eS P (List.map b9 bs2)) m),(no,oL [] 0),(lj,oL [.int j jt] n2),(aZ ch 5,oD (eI [((j,jt),.int (k0+1) (nZ ch 10))]) 1)]) (λP ch=>[]) w
noncomputable def HA(v left:Int)(hl:decide (left<=0)=true)(w:World):=
 cY (mT) 70 (λP=>aG cW it (cp loc))
 (λP=>[(it,aY v left)]) (λP=>[])
 35406146 (λw=>[EV 0 hl])
 [0] [] (λP ch=>(.ok .next)) (λP ch=>[(it,aY v left)]) (λP ch=>[]) w
end
end
noncomputable def tJ:List (List Nat)->List Nat->Option Nat
 |[],_=>none
 |y::l,x=>match y==x with
  |true=>some 0
  |false=>(tJ l x).map (·+1)
noncomputable abbrev FS:=Option (Int×Int)×Int×Int×Int
noncomputable def fZ(i j k:Int)(s:FS):FS:=(some (j,k),bif decide (k>s.2.2.2)then(i-k+1,j-k+1,k)else s.2)
noncomputable def js(blo bhi i:Int)(jo:Option Nat)(s:FS):Option FS:=match jo with
 |none=>some (none,s.2)
 |some j=>bif decide ((j:Int)<blo)||decide ((j:Int)>=bhi)then none else match s.1 with
  |none=>some (fZ i j 1 s)
  |some (j',k')=>bif decide (j'=(j:Int)-1)then some (fZ i j (k'+1) s)else none
noncomputable def kJ(la lb:List (List Nat))(blo bhi:Int):Nat->Nat->FS->Option FS
 |0,_,s=>some s
 |n+1,i,s=>(la[i]?).bind λx=>(js blo bhi i (tJ lb x) s).bind λs=>kJ la lb blo bhi n (i+1) s
theorem pY{la lb:List (List Nat)}{blo bhi:Int}{n i:Nat}{s r:FS}(h:kJ la lb blo bhi (n+1) i s=some r):∃x,la[i]?=some x/\∃s',js blo bhi i (tJ lb x) s=some s'/\kJ la lb blo bhi n (i+1) s'=some r:=by
 obtain⟨x,h1,h⟩:=Mk.mp (show(la[i]?).bind (λx=>(js blo bhi i (tJ lb x) s).bind λs=>kJ la lb blo bhi n (i+1) s)=some r from h);exact⟨x,h1,Mk.mp h⟩
theorem AH{lb:List (List Nat)}{x:List Nat}:∀{bs:List BJ},bs.map (·.1.1)=lb->(tJ lb x=none->lk (bs.map b9) x=none)/\∀j,tJ lb x=some j->∃r,bs[j]?=some r/\lk (bs.map b9) x=some (.ref r.2.1):=by
 intro bs h;subst h
 induction bs with
 |nil=>exact⟨λ_=>rfl,λj h=>by cases h⟩
 |cons r bs ih=>
  simp only[Ml,tJ];have hl:lk (b9 r::bs.map b9) x=if r.1.1==x then some (.ref r.2.1)else lk (bs.map b9) x:=by
   unfold lk;rw[Nq];show Option.map _ (match r.1.1==x with |true=>some (b9 r) |false=>_)=_;cases r.1.1==x<;>rfl
  cases hx:r.1.1==x with
  |true=>
   rw[hx]at hl;refine⟨λh=>by(simp only at h;cases h),λj h=>?_⟩;simp only at h;cases h;exact⟨r,rfl,hl⟩
  |false=>
   rw[hx]at hl;simp only[M7,if_false]at hl;rw[hl];refine⟨λh=>ih.1 ?_,λj h=>?_⟩
   .cases q:tJ (bs.map (·.1.1)) x with
    |none=>rfl
    |some j=>rw[q]at h;cases h
   .cases q:tJ (bs.map (·.1.1)) x with
    |none=>rw[q]at h;cases h
    |some j'=>
     rw[q]at h;cases h;obtain⟨r',h1,h2⟩:=ih.2 j' q;exact⟨r',by simpa using h1,h2⟩
structure FA where
 it:Addr
 loc:Addr
 sf:Addr
 aa:Addr
 bb:Addr
 bd:Addr
 ib:Addr
 no:Addr
 alo:Int
 ahi:Int
 blo:Int
 bhi:Int
 t1:Tok
 t2:Tok
 t3:Tok
 t4:Tok
inductive ez (P:Params) (A:FA) (jl:Addr) (b3:Int×Int×Int):Nat->Obj->Prop where
 |i0 {kk:Nat->Tok} {t5 t6 t7:Tok}:ez P A jl b3 0 (frm P cV kk [.ref A.sf,.int A.alo A.t1,.int A.ahi A.t2,.int A.blo A.t3,.int A.bhi A.t4,.ref A.aa,.ref A.bb,.ref A.bd,.ref A.ib,.int b3.2.2 t7,.int b3.2.1 t6,.int b3.1 t5,.ref jl,.ref A.no] 14)
 |i1 {kk:Nat->Tok} {t5 t6 t7:Tok} {z1 z2 z3:Value}:ez P A jl b3 1 (frm P cV kk [.ref A.sf,.int A.alo A.t1,.int A.ahi A.t2,.int A.blo A.t3,.int A.bhi A.t4,.ref A.aa,.ref A.bb,.ref A.bd,.ref A.ib,.int b3.2.2 t7,.int b3.2.1 t6,.int b3.1 t5,.ref jl,.ref A.no,z1,z2,z3] 17)
 |i2 {f:Nat} {kk:Nat->Tok} {t5 t6 t7:Tok} {z1 z2 z3 z4 z5:Value}:ez P A jl b3 (f+2) (frm P cV kk [.ref A.sf,.int A.alo A.t1,.int A.ahi A.t2,.int A.blo A.t3,.int A.bhi A.t4,.ref A.aa,.ref A.bb,.ref A.bd,.ref A.ib,.int b3.2.2 t7,.int b3.2.1 t6,.int b3.1 t5,.ref jl,.ref A.no,z1,z2,z3,z4,z5] 19)
noncomputable def uP(cur:Option (Int×Int))(o:Obj):Prop:=match cur with
 |none=>∃n,o=oD [] n
 |some (j,k)=>gc λu0 u1 n=>o=oD (eI [((j,u0),.int k u1)]) n
noncomputable def iR(f:Nat)(s:FS):Prop:=match f with
 |0 |1=>s.1=none/\s.2.2.2=0
 |_=>1<=s.2.2.2
noncomputable def mm(w:World)(A:FA)(a:List Pt)(na m:Nat)(bs:List BJ)(i:Int)(left:Int)(o:Obj)(jl:Addr)(jo:Obj)(X:ah):ah:=
 [(A.it,aY i left),(A.loc,o),(A.aa,oL (vT a) na),(A.bd,oD (eS w.params (bs.map b9)) m),(A.no,oL [] 0),(jl,jo)]++(bs.map dN++X)
theorem s6{bs:List BJ}{j:Nat}{r:BJ}(h:bs[j]?=some r):bs=bs.take j++r::bs.drop (j+1):=by
 obtain⟨hl,e⟩:=Mj.mp h;rw[<-e,<-Oj hl];exact(Ng j bs).symm
section
variable(c1 c2 c3 c4 c5 c6 cl cj:Addr×Obj)(B Pm Sm X:ah)
theorem pS:([c1,c2,c3,c4,c5,c6,cl]++(Pm++(Sm++X))).Perm ([c1,c2,c3,c4,c5,c6]++((Pm++cl::Sm)++X)):=ae λy=>by exact(aN [_,_,_,_,_,_,_] [_,_,_] 0x820881843cd2c91c50c1 0x822020c610f34b247141:)
theorem pB:([c1,c2,c3,c4,c5,c6]++((Pm++cl::Sm)++X)).Perm ([c1,c2,c3,c4,c5,cl,c6]++(Pm++(Sm++X))):=ae λy=>by exact(aN [_,_,_,_,_,_,_] [_,_,_] 0x822023c610d2c91c50c1 0x8208818434b24714f0c1:)
theorem Lm:([c1,c2,c3,c4,c5,c6]++((Pm++cl::Sm)++(cj::X))).Perm ([c1,c2,c3,c4,c5,cj,cl,c6]++(Pm++(Sm++X))):=ae λy=>by exact(aN [_,_,_,_,_,_,_,_] [_,_,_] 0x20912023c610d2c91c50c1 0x208220610d2c91c544f0c1:)
theorem Ll:([c1,c2,c3,c4,c5,c6]++(B++(cj::X))).Perm ([c1,c2,c3,c4,c5,cj,c6]++(B++X)):=ae λy=>by exact(aN [_,_,_,_,_,_,_] [_,_] 0x823c610d2c91c50c1 0x8218434b24714f0c1:)
end
noncomputable def AA(w:World)(A:FA)(a:List Pt)(na m:Nat)(bs:List BJ)(X:ah)(Q:Result->ah->Prop)(i:Nat)(left:Int)(s':FS)(jo:Obj)(jl:Addr)(f:Nat):Prop:=
 ∀f' o' jl' jo' X',iR f' s'->ez w.params A jl' s'.2 f' o'->uP s'.1 jo'->1<=f'->X'=(bif f==0 then(jl,jo)::X else X)->ak w mT 70 (aG cW A.it (cp A.loc)) (mm w A a na m bs (i+1) (left-1) o' jl' jo' X') Q
section
variable{w:World}{A:FA}{a:List Pt}{na m:Nat}{bs:List BJ}{i left:Int}{o:Obj}{jl:Addr}{jo:Obj}{X Pm Sm:ah}{cl cj:Addr×Obj}(hM:bs.map dN=Pm++cl::Sm)
include hM
theorem DM:([(A.it,aY i left),(A.loc,o),(A.aa,oL (vT a) na),(A.bd,oD (eS w.params (bs.map b9)) m),(A.no,oL [] 0),(jl,jo),cl]++(Pm++(Sm++X))).Perm (mm w A a na m bs i left o jl jo X):=by
 unfold mm;rw[hM];exact pS ..
theorem FH:(mm w A a na m bs i left o jl jo X).Perm ([(A.it,aY i left),(A.loc,o),(A.aa,oL (vT a) na),(A.bd,oD (eS w.params (bs.map b9)) m),(A.no,oL [] 0),cl,(jl,jo)]++(Pm++(Sm++X))):=by
 unfold mm;rw[hM];exact pB ..
theorem HB:(mm w A a na m bs i left o jl jo (cj::X)).Perm ([(A.it,aY i left),(A.loc,o),(A.aa,oL (vT a) na),(A.bd,oD (eS w.params (bs.map b9)) m),(A.no,oL [] 0),cj,cl,(jl,jo)]++(Pm++(Sm++X))):=by
 unfold mm;rw[hM];exact Lm ..
end
section
variable(w:World)(A:FA)(a b:List Pt)(na m:Nat)(bs:List BJ)(X:ah)(Q:Result->ah->Prop)(i:Nat)(left:Int)(f:Nat)(s:FS)(o jo:Obj)(jl:Addr)(x:Pt)(hl:decide (left<=0)=false)(hf:Builtin.List.listFitsIndex (i:Int)=true)(hx':(vT a)[(i:Int).toNat]?=some (.str (T x.1) x.2))(ho:ez w.params A jl s.2 f o)(hst:iR f s)
include hl hf hx' ho hst
theorem Ku(hk:lk (bs.map b9) x.1=none)(kv:List ((Int×Tok)×Value))(n1:Nat)(k:AA w A a na m bs X Q i left (none,s.2) (oD (eI kv) n1) jl f):ak w mT 70 (aG cW A.it (cp A.loc)) (mm w A a na m bs i left o jl (oD (eI kv) n1) X) Q:=by
 have h0:(0:Int)<=i:=MS i;refine ez.rec (motive:=λf o _=>iR f s->AA w A a na m bs X Q i left (none,s.2) (oD (eI kv) n1) jl f->ak w mT 70 (aG cW A.it (cp A.loc)) (mm w A a na m bs i left o jl (oD (eI kv) n1) X) Q) ?_ ?_ ?_ ho hst k
 .intro kk t5 t6 t7 hst k;exact bH.st (F:=bs.map dN++X) (DE A.it A.loc A.sf A.aa A.bb A.bd A.ib jl A.no kk A.alo A.ahi A.blo A.bhi s.2.1 s.2.2.1 s.2.2.2 i left A.t1 A.t2 A.t3 A.t4 t5 t6 t7 a bs na n1 m x.1 x.2 kv hl h0 hf hx' hk w) (Me _) λch=>(k 1 _ (aZ ch 5) (oD [] 0) _ ⟨rfl,hst.2⟩ ez.i1 ⟨0,rfl⟩ (Me 1) rfl).perm (Ll _ _ _ _ _ _ _ _ _)
 .intro kk t5 t6 t7 z1 z2 z3 hst k;exact bH.st (F:=bs.map dN++X) (DF A.it A.loc A.sf A.aa A.bb A.bd A.ib jl A.no kk A.alo A.ahi A.blo A.bhi s.2.1 s.2.2.1 s.2.2.2 i left A.t1 A.t2 A.t3 A.t4 t5 t6 t7 z1 z2 z3 a bs na n1 m x.1 x.2 kv hl h0 hf hx' hk w) (Me _) λch=>k 1 _ (aZ ch 5) (oD [] 0) _ ⟨rfl,hst.2⟩ ez.i1 ⟨0,rfl⟩ (Me 1) rfl
 .intro f kk t5 t6 t7 z1 z2 z3 z4 z5 hst k;exact bH.st (F:=bs.map dN++X) (DG A.it A.loc A.sf A.aa A.bb A.bd A.ib jl A.no kk A.alo A.ahi A.blo A.bhi s.2.1 s.2.2.1 s.2.2.2 i left A.t1 A.t2 A.t3 A.t4 t5 t6 t7 z1 z2 z3 z4 z5 a bs na n1 m x.1 x.2 kv hl h0 hf hx' hk w) (Me _) λch=>k 2 _ (aZ ch 5) (oD [] 0) _ hst ez.i2 ⟨0,rfl⟩ (by decide) rfl
variable(r:BJ)(j:Nat)(Pm Sm:ah)(hM:bs.map dN=Pm++(r.2.1,oL [.int (j:Int) r.2.2.2] 1)::Sm)(hk:lk (bs.map b9) x.1=some (.ref r.2.1))(hw1:decide ((j:Int)<A.blo)=false)(hw2:decide ((j:Int)>=A.bhi)=false)
include hM hk hw1 hw2
theorem Kv(n1:Nat)(k:AA w A a na m bs X Q i left (fZ i j 1 s) (oD [] n1) jl f):ak w mT 70 (aG cW A.it (cp A.loc)) (mm w A a na m bs i left o jl (oD [] n1) X) Q:=by
 have h0:(0:Int)<=i:=MS i;refine ez.rec (motive:=λf o _=>iR f s->AA w A a na m bs X Q i left (fZ i j 1 s) (oD [] n1) jl f->ak w mT 70 (aG cW A.it (cp A.loc)) (mm w A a na m bs i left o jl (oD [] n1) X) Q) ?_ ?_ ?_ ho hst k
 .intro kk t5 t6 t7 hst k;have h3:decide ((1:Int)>s.2.2.2)=true:=by rw[hst.2];rfl
  rw[show fZ i j 1 s=(some ((j:Int),(1:Int)),(i:Int)-1+1,(j:Int)-1+1,(1:Int))by unfold fZ;rw[h3];rfl]at k;exact(bH.st (F:=Pm++(Sm++X)) (DH A.it A.loc A.sf A.aa A.bb A.bd A.ib jl A.no kk A.alo A.ahi A.blo A.bhi s.2.1 s.2.2.1 s.2.2.2 i left A.t1 A.t2 A.t3 A.t4 t5 t6 t7 a bs na n1 m x.1 x.2 r.2.1 j r.2.2.2 1 hl h0 hf hx' hk hw1 hw2 h3 w) (Me _) λch=>(k 2 _ (aZ ch 5) _ _ (show(1:Int)<=1 by decide) ez.i2 ⟨_,_,_,rfl⟩ (by decide) rfl).perm (HB hM)).perm (DM hM)
 .intro kk t5 t6 t7 z1 z2 z3 hst k;have h3:decide ((1:Int)>s.2.2.2)=true:=by rw[hst.2];rfl
  rw[show fZ i j 1 s=(some ((j:Int),(1:Int)),(i:Int)-1+1,(j:Int)-1+1,(1:Int))by unfold fZ;rw[h3];rfl]at k;exact(bH.st (F:=Pm++(Sm++X)) (DI A.it A.loc A.sf A.aa A.bb A.bd A.ib jl A.no kk A.alo A.ahi A.blo A.bhi s.2.1 s.2.2.1 s.2.2.2 i left A.t1 A.t2 A.t3 A.t4 t5 t6 t7 z1 z2 z3 a bs na n1 m x.1 x.2 r.2.1 j r.2.2.2 1 hl h0 hf hx' hk hw1 hw2 h3 w) (Me _) λch=>(k 2 _ (aZ ch 5) _ X (show(1:Int)<=1 by decide) ez.i2 ⟨_,_,_,rfl⟩ (by decide) rfl).perm (FH hM)).perm (DM hM)
 .intro f kk t5 t6 t7 z1 z2 z3 z4 z5 hst k;have hst:1<=s.2.2.2:=hst;have h3:decide ((1:Int)>s.2.2.2)=false:=decide_eq_false (Int.not_lt.mpr hst);rw[show fZ i j 1 s=(some ((j:Int),(1:Int)),s.2)by unfold fZ;rw[h3];rfl]at k;exact(bH.st (F:=Pm++(Sm++X)) (DJ A.it A.loc A.sf A.aa A.bb A.bd A.ib jl A.no kk A.alo A.ahi A.blo A.bhi s.2.1 s.2.2.1 s.2.2.2 i left A.t1 A.t2 A.t3 A.t4 t5 t6 t7 z1 z2 z3 z4 z5 a bs na n1 m x.1 x.2 r.2.1 j r.2.2.2 1 hl h0 hf hx' hk hw1 hw2 h3 w) (Me _) λch=>(k 2 _ (aZ ch 5) _ X hst ez.i2 ⟨_,_,_,rfl⟩ (by decide) rfl).perm (FH hM)).perm (DM hM)
theorem Kw(j0 k0:Int)(u0 u1:Tok)(n1:Nat)(hc:s.1=some (j0,k0))(hd:j0=(j:Int)-1)(k:AA w A a na m bs X Q i left (fZ i j (k0+1) s) (oD (eI [((j0,u0),.int k0 u1)]) n1) jl f):ak w mT 70 (aG cW A.it (cp A.loc)) (mm w A a na m bs i left o jl (oD (eI [((j0,u0),.int k0 u1)]) n1) X) Q:=by
 have h0:(0:Int)<=i:=MS i;have hlk:uy [((j0,u0),.int k0 u1)] ((j:Int)-Int.ofNat 1)=some (.int k0 u1):=by
  unfold uy;have:(j0==(j:Int)-Int.ofNat 1)=true:=by simpa using hd
  simp only[Nq,this];rfl
 refine ez.rec (motive:=λf o _=>iR f s->AA w A a na m bs X Q i left (fZ i j (k0+1) s) (oD (eI [((j0,u0),.int k0 u1)]) n1) jl f->ak w mT 70 (aG cW A.it (cp A.loc)) (mm w A a na m bs i left o jl (oD (eI [((j0,u0),.int k0 u1)]) n1) X) Q) ?_ ?_ ?_ ho hst k
 .intro _ _ _ _ hst _;exact absurd (hc.symm.trans hst.1) (by intro h;cases h)
 .intro _ _ _ _ _ _ _ hst _;exact absurd (hc.symm.trans hst.1) (by intro h;cases h)
 .intro f kk t5 t6 t7 z1 z2 z3 z4 z5 hst k;have hst:1<=s.2.2.2:=hst;cases h3:decide (k0+1>s.2.2.2)with
  |true=>
   rw[show fZ i j (k0+1) s=(some ((j:Int),k0+1),(i:Int)-(k0+1)+1,(j:Int)-(k0+1)+1,k0+1)by unfold fZ;rw[h3];rfl]at k;exact(bH.st (F:=Pm++(Sm++X)) (DK A.it A.loc A.sf A.aa A.bb A.bd A.ib jl A.no kk A.alo A.ahi A.blo A.bhi s.2.1 s.2.2.1 s.2.2.2 i left A.t1 A.t2 A.t3 A.t4 t5 t6 t7 z1 z2 z3 z4 z5 a bs na n1 m x.1 x.2 j0 k0 u0 u1 r.2.1 j r.2.2.2 1 hl h0 hf hx' hk hw1 hw2 hlk h3 w) (Me _) λch=>(k 2 _ (aZ ch 5) _ X (show(1:Int)<=k0+1 from Int.le_of_lt (Int.lt_of_le_of_lt hst (of_decide_eq_true h3))) ez.i2 ⟨_,_,_,rfl⟩ (by decide) rfl).perm (FH hM)).perm (DM hM)
  |false=>
   rw[show fZ i j (k0+1) s=(some ((j:Int),k0+1),s.2)by unfold fZ;rw[h3];rfl]at k;exact(bH.st (F:=Pm++(Sm++X)) (DL A.it A.loc A.sf A.aa A.bb A.bd A.ib jl A.no kk A.alo A.ahi A.blo A.bhi s.2.1 s.2.2.1 s.2.2.2 i left A.t1 A.t2 A.t3 A.t4 t5 t6 t7 z1 z2 z3 z4 z5 a bs na n1 m x.1 x.2 j0 k0 u0 u1 r.2.1 j r.2.2.2 1 hl h0 hf hx' hk hw1 hw2 hlk h3 w) (Me _) λch=>(k 2 _ (aZ ch 5) _ X hst ez.i2 ⟨_,_,_,rfl⟩ (by decide) rfl).perm (FH hM)).perm (DM hM)
end
theorem p3(w:World)(A:FA)(a b:List Pt)(na m:Nat)(bs:List BJ)(hbs:dL b bs)(ha:a.length<=100)(X:ah)(Q:Result->ah->Prop)(i:Nat)(left:Int)(f:Nat)(s s':FS)(o jo:Obj)(jl:Addr)(x:Pt)
  (hx:a[i]?=some x) (hl:decide (left<=0)=false) (hs:js A.blo A.bhi i (tJ (b.map (·.1)) x.1) s=some s') (hst:iR f s) (ho:ez w.params A jl s.2 f o) (hjo:uP s.1 jo)
  (k:AA w A a na m bs X Q i left s' jo jl f):ak w mT 70 (aG cW A.it (cp A.loc)) (mm w A a na m bs i left o jl jo X) Q:=by
 have hil:i<a.length:=(Mj.mp hx).1;have hf:Builtin.List.listFitsIndex (i:Int)=true:=mJ (by omega);have hx':(vT a)[(i:Int).toNat]?=some (.str (T x.1) x.2):=by rw[M0];unfold vT;rw[Mf,hx];rfl
 have hb1:bs.map (·.1.1)=b.map (·.1):=by rw[<-hbs.1,MA];rfl
 obtain⟨lk1,lk2⟩:=AH (x:=x.1) hb1;cases hj:tJ (b.map (·.1)) x.1 with
 |none=>
  rw[hj]at hs;cases hs;obtain⟨kv,n1,rfl⟩:et λkv n1=>jo=oD (eI kv) n1:=by
   cases hc:s.1 with
   |none=>rw[hc]at hjo;obtain⟨n,rfl⟩:=hjo;exact⟨[],n,rfl⟩
   |some p=>rw[hc]at hjo;obtain⟨u0,u1,n,rfl⟩:=hjo;exact⟨_,n,rfl⟩
  exact Ku w A a na m bs X Q i left f s o jl x hl hf hx' ho hst (lk1 hj) kv n1 k
 |some j=>
  obtain⟨r,hr,hk⟩:=lk2 j hj;rw[hj]at hs;have hrj:r.2.2.1=j:=by
   have h1:(bs.map (·.2.2.1))[j]?=some r.2.2.1:=by rw[Mf,hr];rfl
   rw[hbs.2]at h1;obtain⟨h2,h3⟩:=Mj.mp h1;rw[List.getElem_range]at h3;exact h3.symm
  have hM:bs.map dN=(bs.take j).map dN++(r.2.1,oL [.int (j:Int) r.2.2.2] 1)::(bs.drop (j+1)).map dN:=by
   conv=>lhs;rw[s6 hr]
   rw[Mi,Ml];unfold dN;rw[hrj]
  simp only[js]at hs;cases hw:(decide ((j:Int)<A.blo)||decide ((j:Int)>=A.bhi))with
  |true=>rw[hw]at hs;cases hs
  |false=>
   rw[hw]at hs;simp only[cond_false]at hs;obtain⟨hw1,hw2⟩:=Nr.mp hw;cases hc:s.1 with
   |none=>
    rw[hc]at hjo;obtain⟨n1,rfl⟩:=hjo;simp only[hc]at hs;cases hs;exact Kv w A a na m bs X Q i left f s o jl x hl hf hx' ho hst r j _ _ hM hk hw1 hw2 n1 k
   |some p=>
    obtain⟨j0,k0⟩:=p;rw[hc]at hjo;obtain⟨u0,u1,n1,rfl⟩:=hjo;simp only[hc]at hs;cases hd:decide (j0=(j:Int)-1)with
    |false=>rw[hd]at hs;cases hs
    |true=>
     rw[hd]at hs;simp only[cond_true]at hs;cases hs;exact Kw w A a na m bs X Q i left f s o jl x hl hf hx' ho hst r j _ _ hM hk hw1 hw2 j0 k0 u0 u1 n1 hc (of_decide_eq_true hd) k
theorem pZ(w:World)(A:FA)(a b:List Pt)(na m:Nat)(bs:List BJ)(hbs:dL b bs)(ha:a.length<=100)(X:ah)(Q:Result->ah->Prop):∀(n i:Nat) (left:Int) (f:Nat) (s s':FS) (o jo:Obj) (jl:Addr),
  left=n->kJ (a.map (·.1)) (b.map (·.1)) A.blo A.bhi n i s=some s'->iR f s->1<=f->ez w.params A jl s.2 f o->uP s.1 jo->
  (∀f' o' jl' jo' i' left',iR f' s'->1<=f'->ez w.params A jl' s'.2 f' o'->Q (.ok .next) (mm w A a na m bs i' left' o' jl' jo' X))->
  ak w mT 70 (aG cW A.it (cp A.loc)) (mm w A a na m bs i left o jl jo X) Q
 |0,i,left,f,s,s',o,jo,jl,hl,hr,hst,hf,ho,hjo,H=>by
  cases hr;refine(HA A.it A.loc i left (decide_eq_true (by rw[hl];decide)) w).st (F:=[(A.loc,o),(A.aa,oL (vT a) na),(A.bd,oD (eS w.params (bs.map b9)) m),(A.no,oL [] 0),(jl,jo)]++(bs.map dN++X)) (Me _) λch=>?_
  exact H f o jl jo i left hst hf ho
 |n+1,i,left,f,s,s',o,jo,jl,hl,hr,hst,hf,ho,hjo,H=>by
  obtain⟨_,hx0,s1,hs,hr⟩:=pY hr;rw[Mf]at hx0;obtain⟨x,hx,rfl⟩:=MW.mp hx0;refine p3 w A a b na m bs hbs ha X Q i left f s s1 o jo jl x hx (decide_eq_false (by omega)) hs hst ho hjo λf' o' jl' jo' X' h1 h2 h3 h4 h5=>?_
  have e:X'=X:=by
   rw[h5];cases f with
   |zero=>omega
   |succ f=>rfl
  subst e;exact pZ w A a b na m bs hbs ha X' Q n (i+1) (left-1) f' s1 s' o' jo' jl' (by omega) hr h1 h4 h2 h3 H
noncomputable def jr(la lb:List (List Nat))(alo ahi blo bhi:Int):Option FS:=kJ la lb blo bhi (ahi-alo).toNat alo.toNat (none,alo,blo,0)
theorem AB(w:World)(A:FA)(a b:List Pt)(na m:Nat)(bs:List BJ)(hbs:dL b bs)(ha:a.length<=100)(h0:0<=A.alo)(h1:A.alo<A.ahi)(s':FS)(hs:jr (a.map (·.1)) (b.map (·.1)) A.alo A.ahi A.blo A.bhi=some s')(o:Obj)(jl:Addr)(ho:ez w.params A jl (A.alo,A.blo,0) 0 o):
  ak w mT 70 (aG cW A.it (cp A.loc)) (mm w A a na m bs A.alo (A.ahi-A.alo) o jl (oD [] 0) []) λr N=>r=.ok .next/\yA λf' o' jl' i' left'=>iR f' s'/\1<=f'/\ez w.params A jl' s'.2 f' o'/\
   N=[(A.it,aY i' left'),(A.loc,o'),(A.aa,oL (vT a) na),(A.bd,oD (eS w.params (bs.map b9)) m),(A.no,oL [] 0),(jl,oD [] 0)]++bs.map dN:=by
 unfold jr at hs;obtain⟨n,hn⟩:∃n,(A.ahi-A.alo).toNat=n+1:=⟨(A.ahi-A.alo).toNat-1,by omega⟩;rw[hn]at hs;obtain⟨_,hx0,s1,hq,hs⟩:=pY hs;rw[Mf]at hx0;obtain⟨x,hx,rfl⟩:=MW.mp hx0;have hal:((A.alo.toNat:Nat):Int)=A.alo:=Int.toNat_of_nonneg h0;have key:=p3 w A a b na m bs hbs ha [] (λr N=>r=.ok .next/\sM λf' o' jl' jo' i' left'=>iR f' s'/\1<=f'/\ez w.params A jl' s'.2 f' o'/\N=mm w A a na m bs i' left' o' jl' jo' [(jl,oD [] 0)]) A.alo.toNat (A.ahi-A.alo) 0 (none,A.alo,A.blo,0) s1 o (oD [] 0) jl x hx (decide_eq_false (by omega)) hq ⟨rfl,rfl⟩ ho ⟨0,rfl⟩ λf' o' jl' jo' X' h1 h2 h3 h4 h5=>by
  have e:X'=[(jl,oD [] 0)]:=by rw[h5];rfl
  subst e;exact pZ w A a b na m bs hbs ha _ _ n (A.alo.toNat+1) (A.ahi-A.alo-1) f' s1 s' o' jo' jl' (by omega) hs h1 h4 h2 h3 λf2 o2 jl2 jo2 i2 left2 g1 g2 g3=>⟨rfl,f2,o2,jl2,jo2,i2,left2,g1,g2,g3,rfl⟩
 rw[hal]at key;refine key.cut ?_;rintro r N ⟨rfl,f',o',jl',jo',i',left',g1,g2,g3,rfl⟩;refine⟨_,[(jl',jo')],⟨rfl,f',o',jl',i',left',g1,g2,g3,rfl⟩,ae λy=>?_⟩;exact(aN [_,_,_,_,_,_,_] [_] 0x823c110d2c91c50c1 0x8304210d2c91c53c1:)
noncomputable abbrev LU:=(Nat->Tok)×(Tok×Tok×Tok)×Addr×(Value×Value×Value×Value×Value)×Int×Int
noncomputable abbrev dj(u:U):LU:=u.u LU (λ_=>0,(0,0,0),0,(.none,.none,.none,.none,.none),0,0)
noncomputable def vw(P:Params)(f:Nat)(s:FS)(it loc sf aa bb bd ib no jl:Addr)(kk:Nat->Tok)(alo ahi blo bhi left:Int)(t1 t2 t3 t4 t5 t6 t7:Tok)(a:List Pt)(na m:Nat)(bs:List BJ):Tr:=
 ⟨[bs.map dN],λ_=>[bs.map dN],λ_=>[],aG cW it (cp loc),[(it,aY alo left),(loc,frm P cV kk [.ref sf,.int alo t1,.int ahi t2,.int blo t3,.int bhi t4,.ref aa,.ref bb,.ref bd,.ref ib,.int 0 t7,.int blo t6,.int alo t5,.ref jl,.ref no] 14),(aa,oL (vT a) na),(bd,oD (eS P (bs.map b9)) m),(no,oL [] 0),(jl,oD [] 0)],λ_=>.ok .next,λu=>[aY (dj u).2.2.2.2.1 (dj u).2.2.2.2.2,match f with
  |1=>frm P cV (dj u).1 [.ref sf,.int alo t1,.int ahi t2,.int blo t3,.int bhi t4,.ref aa,.ref bb,.ref bd,.ref ib,.int s.2.2.2 (dj u).2.1.2.2,.int s.2.2.1 (dj u).2.1.2.1,.int s.2.1 (dj u).2.1.1,.ref (dj u).2.2.1,.ref no,(dj u).2.2.2.1.1,(dj u).2.2.2.1.2.1,(dj u).2.2.2.1.2.2.1] 17
  |_=>frm P cV (dj u).1 [.ref sf,.int alo t1,.int ahi t2,.int blo t3,.int bhi t4,.ref aa,.ref bb,.ref bd,.ref ib,.int s.2.2.2 (dj u).2.1.2.2,.int s.2.2.1 (dj u).2.1.2.1,.int s.2.1 (dj u).2.1.1,.ref (dj u).2.2.1,.ref no,(dj u).2.2.2.1.1,(dj u).2.2.2.1.2.1,(dj u).2.2.2.1.2.2.1,(dj u).2.2.2.1.2.2.2.1,(dj u).2.2.2.1.2.2.2.2] 19,oL (vT a) na,oD (eS P (bs.map b9)) m,oL [] 0,oD [] 0],λ_=>[]⟩
theorem ES{f:Nat}{s:FS}(h:iR f s)(h1:1<=f)(hz:s.2.2.2=0):f=1:=match f,h,h1 with
 |1,_,_=>rfl
 |_+2,h,_=>absurd (hz▸(show 1<=s.2.2.2 from h)) (by decide)
theorem ET{f:Nat}{s:FS}(h:iR f s)(h1:1<=f)(hz:1<=s.2.2.2):∃n,f=n+2:=match f,h,h1 with
 |1,h,_=>absurd ((show s.1=none/\s.2.2.2=0 from h).2▸hz) (by decide)
 |f+2,_,_=>⟨f,rfl⟩
theorem D5(w:World)(f:Nat)(s:FS)(it loc sf aa bb bd ib no jl:Addr)(kk:Nat->Tok)(alo ahi blo bhi left:Int)(t1 t2 t3 t4 t5 t6 t7:Tok)(a b:List Pt)(na m:Nat)(bs:List BJ)(hbs:dL b bs)(ha:a.length<=100)(h0:0<=alo)(h1:alo<ahi)(hl:left=ahi-alo)
  (hs:jr (a.map (·.1)) (b.map (·.1)) alo ahi blo bhi=some s) (hf:(f=1/\s.2.2.2=0)\/(f=2/\1<=s.2.2.2)):af w mT 70 (vw w.params f s it loc sf aa bb bd ib no jl kk alo ahi blo bhi left t1 t2 t3 t4 t5 t6 t7 a na m bs):=by
 subst hl;refine ak.tri (λ_=>⟨rfl,rfl⟩) ((AB w ⟨it,loc,sf,aa,bb,bd,ib,no,alo,ahi,blo,bhi,t1,t2,t3,t4⟩ a b na m bs hbs ha h0 h1 s hs _ jl (.i0 (kk:=kk) (t5:=t5) (t6:=t6) (t7:=t7))).perm (ae λy=>by exact(aN [_,_,_,_,_,_] [_] 0x208110d2c91c50c1 0x208110d2c91c50c1:))) ?_;rintro r N ⟨rfl,f',o',jl',i',left',g1,g2,g3,rfl⟩;rcases hf with⟨rfl,hz⟩ |⟨rfl,hz⟩
 .obtain rfl:f'=1:=ES g1 g2 hz;cases g3 with |@i1 kk' t5' t6' t7' z1 z2 z3=>
  obtain⟨u,_,hu⟩:=n9 ((kk',(t5',t6',t7'),jl',(z1,z2,z3,.none,.none),i',left'):LU) (λ_=>0);refine⟨u,rfl,ae λy=>?_⟩
  (simp only[vw,dj,hu,dG];exact(aN [_,_,_,_,_,_] [_] 581447456673985 0x208110204d2c91c50c1:))
 .obtain⟨f2,rfl⟩:∃n,f'=n+2:=ET g1 g2 hz;cases g3 with |@i2 _ kk' t5' t6' t7' z1 z2 z3 z4 z5=>
  obtain⟨u,_,hu⟩:=n9 ((kk',(t5',t6',t7'),jl',(z1,z2,z3,z4,z5),i',left'):LU) (λ_=>0);refine⟨u,rfl,ae λy=>?_⟩
  (simp only[vw,dj,hu,dG];exact(aN [_,_,_,_,_,_] [_] 581447456673985 0x208110204d2c91c50c1:))
noncomputable def L8(a:Addr)(sd:Data)(y:List Nat)(t:Tok)(b:Bool):Tr:=⟨[],λ_=>[],λ_=>[],.builtin "set.__contains__" ⟨[.ref a,.str (T y) t],[]⟩,[(a,aL sd)],λ_=>.ok (.ret (.bool b)),λ_=>[aL sd],λ_=>[]⟩
noncomputable def vn(P:Params)(it loc:Addr)(v left:Int):Tr:=
 ⟨[],λuu=>[],λuu=>[],aG cW it (cp loc),[(it,aY v left)],λuu=>(.ok .next),λuu=>[aY v left],λuu=>[]⟩
theorem AO(it loc:Addr)(v left:Int)(hl:decide (left<=0)=true)(w:World):af w mT 70 (vn w.params it loc v left):=
 cx (mT) 70 (λP=>vn P it loc v left) 35406146 (λw=>[EV 0 hl])
 [0] [] (λch=>⟨λi=>[].getD i 0,(ch 0).u⟩) w
section
noncomputable abbrev gs(d:Addr)(i j k:Int)(t1 t2 t3:Tok):Obj:=⟨.ref 257,some d,.seq ⟨[.int i t1,.int j t2,.int k t3]⟩ 0,⟨[]⟩⟩
noncomputable def em(P:Params)(sm sd aa bb bd jk:Addr)(kq:Nat->Tok)(mb op bp:Value)(a b:List Pt)(na nb m:Nat)(bs:List BJ)(alo ahi blo bhi:Int)(t1 t2 t3 t4:Tok)(r:Int×Int×Int):Tr:=
 ⟨[bs.map dN],λ_=>[bs.map dN],λ_=>[],.call (.ref 318) ⟨[.ref sm,.int alo t1,.int ahi t2,.int blo t3,.int bhi t4],[]⟩,[(sm,oI 364 sd),(sd,aD P kA kq [.none,.ref aa,.ref bb,.bool false,mb,op,.none,.ref bd,.ref jk,bp] 10),(aa,oL (vT a) na),(bb,oL (vT b) nb),(bd,oD (eS P (bs.map b9)) m),(jk,aL (.set ⟨[]⟩ 0 (PySem.SetTable.fresh 0 0 (Bool.not (PySem.Params.followText P "set-order")))))],λu=>.ok (.ret (.ref (u.n 0+ab))),λ_=>[oI 364 sd,aD P kA kq [.none,.ref aa,.ref bb,.bool false,mb,op,.none,.ref bd,.ref jk,bp] 10,oL (vT a) na,oL (vT b) nb,oD (eS P (bs.map b9)) m,aL (.set ⟨[]⟩ 0 (PySem.SetTable.fresh 0 0 (Bool.not (PySem.Params.followText P "set-order"))))],λu=>[(u.n 1+ab,oD [] 0),(u.n 0+ab,gs (u.n 1+ab) r.1 r.2.1 r.2.2 (u.n 2) (u.n 3) (u.n 4))]⟩
section
variable(w:World)(g:Nat)(sm sd aa bb bd jk:Addr)(kq:Nat->Tok)(mb op bp:Value)(a b:List Pt)(na nb m:Nat)(bs:List BJ)(alo ahi blo bhi:Int)(t1 t2 t3 t4:Tok)(c:Option (Int×Int))(bi bj bz:Int)
theorem kp(hbs:dL b bs)(ha:a.length<=100)(h0:0<=alo)(h1:alo<ahi)(hr:alo<=ahi)(hr2:ahi<=10000)(hs:jr (a.map (·.1)) (b.map (·.1)) alo ahi blo bhi=some (c,bi,bj,bz))(hz:g=1/\bz=0\/g=2/\1<=bz)(k pa:Nat)(mid:∀w:World,List (RP w))
  (E:Hp mT 100 (λP=>em P sm sd aa bb bd jk kq mb op bp a b na nb m bs alo ahi blo bhi t1 t2 t3 t4 (bi,bj,bz)) pa (λw=>[bX 9 8,bX 9 8,bX 9 8,bX 9 8,f6 9 8,bX 13 12,bX 13 12,bX 13 12,f6 13 12,rF 0 [18] [] λhh=>mW (aZ hh 39) alo ahi t1 t2 (nZ hh 38) h0 hr hr2,rT 70 [19,6,2,4,17,16] [0] λhh=>D5 w g (c,(bi,(bj,bz))) (aZ hh 40) (aZ hh 0) sm aa bb bd (aZ hh 12) (aZ hh 36) (aZ hh 34) (kl [nZ hh 1,nZ hh 2,nZ hh 3,nZ hh 4,nZ hh 5,nZ hh 20,nZ hh 21,nZ hh 22,nZ hh 23,nZ hh 31,nZ hh 32,nZ hh 33,nZ hh 35,nZ hh 37]) alo ahi blo bhi (ahi-alo) t1 t2 t3 t4 t1 t3 (nZ hh 24) a b na m bs hbs ha h0 h1 rfl hs hz]++mid w++[
   rF 0 [22,21] [] λhh=>bC (aZ hh (k+1)) (aZ hh k) [] [.int bi (dj (hh 41)).2.1.1,.int bj (dj (hh 41)).2.1.2.1,.int bz (dj (hh 41)).2.1.2.2] 0 (by simp)])
   [0,1,2,3,4,5,23,24] [0] λch=>⟨λi=>[nZ ch (k+4),nZ ch (k+3),(dj (ch 41)).2.1.1,(dj (ch 41)).2.1.2.1,(dj (ch 41)).2.1.2.2].getD i 0,λ_ d=>d⟩):
  af w mT 100 (em w.params sm sd aa bb bd jk kq mb op bp a b na nb m bs alo ahi blo bhi t1 t2 t3 t4 (bi,bj,bz)):=E.use w (λ_=>⟨rfl,rfl⟩)
theorem Hz:af w mT 100 (em w.params sm sd aa bb bd jk kq mb op bp a b na nb m bs 0 0 0 0 t1 t2 t3 t4 (0,0,0)):=
 cx mT 100 (λP=>em P sm sd aa bb bd jk kq mb op bp a b na nb m bs 0 0 0 0 t1 t2 t3 t4 (0,0,0)) 0x4104105d08174204105d05d05b1020410410410410420410410410996596420810426596596596590c108108104104104108108104104204204108104b2cb0442c208b2c210b2c210b0822cb0842cb0846045d75c25c25d70820822cb0412cb2cb2cb2cb2cb5044844844844920910914512cb2cb2cb2cb2cb2cb40438438438438438e08d08d34d08a08228a2822822860451410411420410452c60451410411420410452c60451410411420410452c60451410411420410452c22cb2cb2cb2cb2cb043 (λw=>[bX 9 8,bX 9 8,bX 9 8,bX 9 8,f6 9 8,bX 13 12,bX 13 12,bX 13 12,f6 13 12,rF 0 [18] [] λhh=>mW (aZ hh 39) 0 0 t1 t2 (nZ hh 38) (by decide) (by decide) (by decide),rT 70 [19] [] λhh=>AO (aZ hh 40) (aZ hh 0) 0 0 rfl w,rF 0 [] [] λhh=>tX 0 0 t1 t1 false rfl,rF 0 [] [] λhh=>tZ 0 0 (nZ hh 43) t2 false rfl,rF 0 [] [] λhh=>tX 0 0 t1 t1 false rfl,rF 0 [] [] λhh=>tZ 0 0 (nZ hh 46) t2 false rfl,rF 0 [22,21] [] λhh=>bC (aZ hh 57) (aZ hh 56) [] [.int 0 t1,.int 0 t3,.int 0 (nZ hh 24)] 0 (by simp)])
 [0,1,2,3,4,5,23,24] [0] (λch=>⟨λi=>[nZ ch 60,nZ ch 59,t1,t3,nZ ch 24].getD i 0,λ_ d=>d⟩) w
end
end
noncomputable def rW(la lb:List (List Nat))(i j:Int):Bool:=decide (0<=i)&&decide (0<=j)&&match la[i.toNat]?,lb[j.toNat]? with
 |some x,some y=> !(x==y)
 |_,_=>false
noncomputable def zv(la lb:List (List Nat))(alo blo bi bj:Int):Bool:= !decide (bi>alo)||(!decide (bj>blo)||rW la lb (bi-1) (bj-1))
noncomputable def zw(la lb:List (List Nat))(ahi bhi bi bj bz:Int):Bool:= !decide (bi+bz<ahi)||(!decide (bj+bz<bhi)||rW la lb (bi+bz) (bj+bz))
noncomputable def mN(la lb:List (List Nat))(alo ahi blo bhi:Int):Option (Int×Int×Int):=bif decide (0<=alo)&&decide (alo<ahi)&&decide (ahi<=10000)then
  (jr la lb alo ahi blo bhi).bind λs=>bif zv la lb alo blo s.2.1 s.2.2.1&&zw la lb ahi bhi s.2.1 s.2.2.1 s.2.2.2&&(decide (1<=s.2.2.2)||(decide (s.2.2.2=0)&& !decide (s.2.1>alo)&&decide (s.2.1+s.2.2.2<ahi)&& !decide (s.2.2.1+s.2.2.2<bhi)))then some s.2 else none
 else bif decide (alo=0)&&decide (ahi=0)&&decide (blo=0)&&decide (bhi=0)then some (0,0,0)else none
theorem tF{la lb:List (List Nat)}{alo ahi blo bhi:Int}{r:Int×Int×Int}(h:mN la lb alo ahi blo bhi=some r):
  (0<=alo/\alo<ahi/\ahi<=10000/\∃c,jr la lb alo ahi blo bhi=some (c,r)/\zv la lb alo blo r.1 r.2.1=true/\zw la lb ahi bhi r.1 r.2.1 r.2.2=true/\
   (1<=r.2.2\/(r.2.2=0/\decide (r.1>alo)=false/\decide (r.1+r.2.2<ahi)=true/\decide (r.2.1+r.2.2<bhi)=false)))\/(alo=0/\ahi=0/\blo=0/\bhi=0/\r=(0,0,0)):=by
 unfold mN at h;cases hc:(decide (0<=alo)&&decide (alo<ahi)&&decide (ahi<=10000))with
 |true=>
  rw[hc]at h;obtain⟨hc,hc3⟩:=Mr.mp hc;obtain⟨hc1,hc2⟩:=Mr.mp hc;obtain⟨⟨c,s⟩,hs,h⟩:=Mk.mp h;obtain⟨hq,h⟩:=du h;cases h;obtain⟨hq,hz⟩:=Mr.mp hq;obtain⟨hs1,hs2⟩:=Mr.mp hq;refine .inl ⟨of_decide_eq_true hc1,of_decide_eq_true hc2,of_decide_eq_true hc3,c,hs,hs1,hs2,?_⟩;rcases Bool.or_eq_true_iff.mp hz with hz |hz
  .exact .inl (of_decide_eq_true hz)
  .obtain⟨hz,v2⟩:=Mr.mp hz;obtain⟨hz,v1⟩:=Mr.mp hz;obtain⟨hz,w1⟩:=Mr.mp hz;rw[Ol]at v2 w1;exact .inr ⟨of_decide_eq_true hz,w1,v1,v2⟩
 |false=>
  rw[hc]at h;obtain⟨hc,h⟩:=du h;cases h;obtain⟨hc,e4⟩:=Mr.mp hc;obtain⟨hc,e3⟩:=Mr.mp hc;obtain⟨e1,e2⟩:=Mr.mp hc;exact .inr ⟨of_decide_eq_true e1,of_decide_eq_true e2,of_decide_eq_true e3,of_decide_eq_true e4,rfl⟩
noncomputable abbrev zT(a b:List Pt)(i j:Int)(x y:List Nat)(xt yt:Tok):Prop:=0<=i/\Builtin.List.listFitsIndex i=true/\(vT a)[i.toNat]?=some (.str (T x) xt)/\0<=j/\Builtin.List.listFitsIndex j=true/\(vT b)[j.toNat]?=some (.str (T y) yt)/\((T x).cps.toList==(T y).cps.toList)=false
theorem i7{a b:List Pt}{i j:Int}(ha:a.length<=100)(hb:b.length<=100)(h:rW (a.map (·.1)) (b.map (·.1)) i j=true):
  iJ (zT a b i j):=by
 unfold rW at h;obtain⟨h,h3⟩:=Mr.mp h;obtain⟨h1,h2⟩:=Mr.mp h;have h1:=of_decide_eq_true h1;have h2:=of_decide_eq_true h2;cases hx:a[i.toNat]? with
 |none=>rw[Mf,hx]at h3;cases h3
 |some x=>
  cases hy:b[j.toNat]? with
  |none=>rw[Mf,Mf,hx,hy]at h3;cases h3
  |some y=>
   rw[Mf,Mf,hx,hy]at h3;have l1:=(Mj.mp hx).1;have l2:=(Mj.mp hy).1;refine⟨x.1,y.1,x.2,y.2,h1,kH h1 (by omega),by unfold vT;rw[Mf,hx];rfl,h2,kH h2 (by omega),by unfold vT;rw[Mf,hy];rfl,?_⟩;have h3:(!(x.1==y.1))=true:=h3;rw[Ol]at h3;exact h3
section
variable{w:World}{sm sd aa bb bd jk:Addr}{kq:Nat->Tok}{mb op bp:Value}{a b:List Pt}{na nb m:Nat}{bs:List BJ}{alo ahi blo bhi:Int}{t1 t2 t3 t4:Tok}{c:Option (Int×Int)}{bi bj bz:Int}(hbs:dL b bs)(ha:a.length<=100)(h0:0<=alo)(h1:alo<ahi)(hr:alo<=ahi)(hr2:ahi<=10000)(hs:jr (a.map (·.1)) (b.map (·.1)) alo ahi blo bhi=some (c,bi,bj,bz))
include hbs ha h0 h1 hr hr2 hs
theorem HD(hz:1<=bz)(w1:decide (bi>alo)=false)(v1:decide (bi+bz<ahi)=false):af w mT 100 (em w.params sm sd aa bb bd jk kq mb op bp a b na nb m bs alo ahi blo bhi t1 t2 t3 t4 (bi,bj,bz)):=kp w 2 sm sd aa bb bd jk kq mb op bp a b na nb m bs alo ahi blo bhi t1 t2 t3 t4 c bi bj bz hbs ha h0 h1 hr hr2 hs (.inr ⟨rfl,hz⟩) 56 0x4104105d08174204105d05d05b1020410410410410420410410410996596420810426596596596590c108108104104104108108104104204204108104b2cb0442c208b2c210b2c210b0822cb0842cb0846045d75c25c25d70820822cb0412cb2cb2cb2cb2cb5044844844844920910914512cb2cb2cb2cb2cb2cb40438438438438438e08d08d34d08a08228a2822822860451410411420410452c60451410411420410452c60451410411420410452c60451410411420410452c22cb2cb2cb2cb2cb043 (λw=>[dX w1,bE v1,dX w1,bE v1]) (by kernel_rfl)
theorem HF(hz:1<=bz)(w1:decide (bi>alo)=false)(v1:decide (bi+bz<ahi)=true)(v2:decide (bj+bz<bhi)=false):af w mT 100 (em w.params sm sd aa bb bd jk kq mb op bp a b na nb m bs alo ahi blo bhi t1 t2 t3 t4 (bi,bj,bz)):=kp w 2 sm sd aa bb bd jk kq mb op bp a b na nb m bs alo ahi blo bhi t1 t2 t3 t4 c bi bj bz hbs ha h0 h1 hr hr2 hs (.inr ⟨rfl,hz⟩) 60 0x4104105d08174204105d05d05b1020410410410410420410410410996596420810426596596596590c108108104104104108108104104204204108104b2cb0442c208b2c42c208b2c210b2c210b0822cb10b0822cb0842cb0846045d75c25c25d70820822cb0412cb2cb2cb2cb2cb5044844844844920910914512cb2cb2cb2cb2cb2cb40438438438438438e08d08d34d08a08228a2822822860451410411420410452c60451410411420410452c60451410411420410452c60451410411420410452c22cb2cb2cb2cb2cb043 (λw=>[dX w1,bE v1,bE v2,dX w1,bE v1,bE v2]) (by kernel_rfl)
theorem HG(hz:1<=bz)(w1:decide (bi>alo)=false)(v1:decide (bi+bz<ahi)=true)(v2:decide (bj+bz<bhi)=true){x2 y2:List Nat}{x2t y2t:Tok}(n2:zT a b (bi+bz) (bj+bz) x2 y2 x2t y2t):af w mT 100 (em w.params sm sd aa bb bd jk kq mb op bp a b na nb m bs alo ahi blo bhi t1 t2 t3 t4 (bi,bj,bz)):=kp w 2 sm sd aa bb bd jk kq mb op bp a b na nb m bs alo ahi blo bhi t1 t2 t3 t4 c bi bj bz hbs ha h0 h1 hr hr2 hs (.inr ⟨rfl,hz⟩) 71 0x104104174205d0810417417416c40810410410410410810410410426596590820410996596596596430420420410410410420420410410810810420412cb2c128208228a28c08c1082080822cb2cb10b0822cb10b0822cb0842cb0841082080822cb2c41c71c208b2cb28208228a28c08c1082080822cb2cb10b0822cb10b0822cb0842cb0846045d75c25c25d70820822cb0412cb2cb2cb2cb2cb5044844844844920910914512cb2cb2cb2cb2cb2cb40438438438438438e08d08d34d08a08228a2822822860451410411420410452c60451410411420410452c60451410411420410452c60451410411420410452c22cb2cb2cb2cb2cb043 (λw=>[dX w1,bE v1,bE v2,b6 3 n2.2.2.2.1 n2.2.2.2.2.1 n2.2.2.2.2.2.1,b6 2 n2.1 n2.2.1 n2.2.2.1,b6 3 n2.2.2.2.1 n2.2.2.2.2.1 n2.2.2.2.2.2.1,rF 0 [] [] λhh=>bW (T x2) (T y2) x2t y2t false n2.2.2.2.2.2.2,dX w1,bE v1,bE v2,b6 3 n2.2.2.2.1 n2.2.2.2.2.1 n2.2.2.2.2.2.1]) (by kernel_rfl)
theorem HH(hz:1<=bz)(w1:decide (bi>alo)=true)(w2:decide (bj>blo)=false)(v1:decide (bi+bz<ahi)=false):af w mT 100 (em w.params sm sd aa bb bd jk kq mb op bp a b na nb m bs alo ahi blo bhi t1 t2 t3 t4 (bi,bj,bz)):=kp w 2 sm sd aa bb bd jk kq mb op bp a b na nb m bs alo ahi blo bhi t1 t2 t3 t4 c bi bj bz hbs ha h0 h1 hr hr2 hs (.inr ⟨rfl,hz⟩) 58 0x4104105d08174204105d05d05b1020410410410410420410410410996596420810426596596596590c108108104104104108108104104204204108104b2cb0442c208b2c210b2c42cb0842c208b2c210b2c42cb0846045d75c25c25d70820822cb0412cb2cb2cb2cb2cb5044844844844920910914512cb2cb2cb2cb2cb2cb40438438438438438e08d08d34d08a08228a2822822860451410411420410452c60451410411420410452c60451410411420410452c60451410411420410452c22cb2cb2cb2cb2cb043 (λw=>[dX w1,dX w2,bE v1,dX w1,dX w2,bE v1]) (by kernel_rfl)
theorem HI(hz:1<=bz)(w1:decide (bi>alo)=true)(w2:decide (bj>blo)=false)(v1:decide (bi+bz<ahi)=true)(v2:decide (bj+bz<bhi)=false):af w mT 100 (em w.params sm sd aa bb bd jk kq mb op bp a b na nb m bs alo ahi blo bhi t1 t2 t3 t4 (bi,bj,bz)):=kp w 2 sm sd aa bb bd jk kq mb op bp a b na nb m bs alo ahi blo bhi t1 t2 t3 t4 c bi bj bz hbs ha h0 h1 hr hr2 hs (.inr ⟨rfl,hz⟩) 62 0x4104105d08174204105d05d05b1020410410410410420410410410996596420810426596596596590c108108104104104108108104104204204108104b2cb0442c208b2c42c208b2c210b2c42cb0842c208b2c42c208b2c210b2c42cb0846045d75c25c25d70820822cb0412cb2cb2cb2cb2cb5044844844844920910914512cb2cb2cb2cb2cb2cb40438438438438438e08d08d34d08a08228a2822822860451410411420410452c60451410411420410452c60451410411420410452c60451410411420410452c22cb2cb2cb2cb2cb043 (λw=>[dX w1,dX w2,bE v1,bE v2,dX w1,dX w2,bE v1,bE v2]) (by kernel_rfl)
theorem HJ(hz:1<=bz)(w1:decide (bi>alo)=true)(w2:decide (bj>blo)=false)(v1:decide (bi+bz<ahi)=true)(v2:decide (bj+bz<bhi)=true){x2 y2:List Nat}{x2t y2t:Tok}(n2:zT a b (bi+bz) (bj+bz) x2 y2 x2t y2t):af w mT 100 (em w.params sm sd aa bb bd jk kq mb op bp a b na nb m bs alo ahi blo bhi t1 t2 t3 t4 (bi,bj,bz)):=kp w 2 sm sd aa bb bd jk kq mb op bp a b na nb m bs alo ahi blo bhi t1 t2 t3 t4 c bi bj bz hbs ha h0 h1 hr hr2 hs (.inr ⟨rfl,hz⟩) 73 0x104104174205d0810417417416c40810410410410410810410410426596590820410996596596596430420420410410410420420410410810810420412cb2c128208228a28c08c1082080822cb2cb10b0822cb10b0822cb0842cb10b2c210420820208b2cb1071c70822cb2ca08208a28a30230420820208b2cb2c42c208b2c42c208b2c210b2c42cb0846045d75c25c25d70820822cb0412cb2cb2cb2cb2cb5044844844844920910914512cb2cb2cb2cb2cb2cb40438438438438438e08d08d34d08a08228a2822822860451410411420410452c60451410411420410452c60451410411420410452c60451410411420410452c22cb2cb2cb2cb2cb043 (λw=>[dX w1,dX w2,bE v1,bE v2,b6 3 n2.2.2.2.1 n2.2.2.2.2.1 n2.2.2.2.2.2.1,b6 2 n2.1 n2.2.1 n2.2.2.1,b6 3 n2.2.2.2.1 n2.2.2.2.2.1 n2.2.2.2.2.2.1,rF 0 [] [] λhh=>bW (T x2) (T y2) x2t y2t false n2.2.2.2.2.2.2,dX w1,dX w2,bE v1,bE v2,b6 3 n2.2.2.2.1 n2.2.2.2.2.1 n2.2.2.2.2.2.1]) (by kernel_rfl)
theorem HL(hz:1<=bz)(w1:decide (bi>alo)=true)(w2:decide (bj>blo)=true)(v1:decide (bi+bz<ahi)=false){x1 y1:List Nat}{x1t y1t:Tok}(n1:zT a b (bi-1) (bj-1) x1 y1 x1t y1t):af w mT 100 (em w.params sm sd aa bb bd jk kq mb op bp a b na nb m bs alo ahi blo bhi t1 t2 t3 t4 (bi,bj,bz)):=kp w 2 sm sd aa bb bd jk kq mb op bp a b na nb m bs alo ahi blo bhi t1 t2 t3 t4 c bi bj bz hbs ha h0 h1 hr hr2 hs (.inr ⟨rfl,hz⟩) 73 0x104104174205d0810417417416c40810410410410410810410410426596590820410996596596596430420420410410410420420410410810810420412cb2c110b0822cb08a08208a28a30230420820208b2cb10b2c42cb0842c208b2c210420820208b2c41c71c208b2ca08208a28a30230420820208b2cb10b2c42cb0846045d75c25c25d70820822cb0412cb2cb2cb2cb2cb5044844844844920910914512cb2cb2cb2cb2cb2cb40438438438438438e08d08d34d08a08228a2822822860451410411420410452c60451410411420410452c60451410411420410452c60451410411420410452c22cb2cb2cb2cb2cb043 (λw=>[dX w1,dX w2,b6 3 n1.2.2.2.1 n1.2.2.2.2.1 n1.2.2.2.2.2.1,b6 2 n1.1 n1.2.1 n1.2.2.1,b6 3 n1.2.2.2.1 n1.2.2.2.2.1 n1.2.2.2.2.2.1,rF 0 [] [] λhh=>bW (T x1) (T y1) x1t y1t false n1.2.2.2.2.2.2,bE v1,dX w1,dX w2,b6 3 n1.2.2.2.1 n1.2.2.2.2.1 n1.2.2.2.2.2.1,bE v1]) (by kernel_rfl)
theorem HM(hz:1<=bz)(w1:decide (bi>alo)=true)(w2:decide (bj>blo)=true)(v1:decide (bi+bz<ahi)=true)(v2:decide (bj+bz<bhi)=false){x1 y1:List Nat}{x1t y1t:Tok}(n1:zT a b (bi-1) (bj-1) x1 y1 x1t y1t):af w mT 100 (em w.params sm sd aa bb bd jk kq mb op bp a b na nb m bs alo ahi blo bhi t1 t2 t3 t4 (bi,bj,bz)):=kp w 2 sm sd aa bb bd jk kq mb op bp a b na nb m bs alo ahi blo bhi t1 t2 t3 t4 c bi bj bz hbs ha h0 h1 hr hr2 hs (.inr ⟨rfl,hz⟩) 77 0x104104174205d0810417417416c40810410410410410810410410426596590820410996596596596430420420410410410420420410410810810420412cb2c110b0822cb10b0822cb08a08208a28a30230420820208b2cb10b2c42cb0842c208b2c42c208b2c210420820208b2c41c71c208b2ca08208a28a30230420820208b2cb10b2c42cb0846045d75c25c25d70820822cb0412cb2cb2cb2cb2cb5044844844844920910914512cb2cb2cb2cb2cb2cb40438438438438438e08d08d34d08a08228a2822822860451410411420410452c60451410411420410452c60451410411420410452c60451410411420410452c22cb2cb2cb2cb2cb043 (λw=>[dX w1,dX w2,b6 3 n1.2.2.2.1 n1.2.2.2.2.1 n1.2.2.2.2.2.1,b6 2 n1.1 n1.2.1 n1.2.2.1,b6 3 n1.2.2.2.1 n1.2.2.2.2.1 n1.2.2.2.2.2.1,rF 0 [] [] λhh=>bW (T x1) (T y1) x1t y1t false n1.2.2.2.2.2.2,bE v1,bE v2,dX w1,dX w2,b6 3 n1.2.2.2.1 n1.2.2.2.2.1 n1.2.2.2.2.2.1,bE v1,bE v2]) (by kernel_rfl)
theorem HN(hz:1<=bz)(w1:decide (bi>alo)=true)(w2:decide (bj>blo)=true)(v1:decide (bi+bz<ahi)=true)(v2:decide (bj+bz<bhi)=true){x1 y1:List Nat}{x1t y1t:Tok}(n1:zT a b (bi-1) (bj-1) x1 y1 x1t y1t){x2 y2:List Nat}{x2t y2t:Tok}(n2:zT a b (bi+bz) (bj+bz) x2 y2 x2t y2t):af w mT 100 (em w.params sm sd aa bb bd jk kq mb op bp a b na nb m bs alo ahi blo bhi t1 t2 t3 t4 (bi,bj,bz)):=kp w 2 sm sd aa bb bd jk kq mb op bp a b na nb m bs alo ahi blo bhi t1 t2 t3 t4 c bi bj bz hbs ha h0 h1 hr hr2 hs (.inr ⟨rfl,hz⟩) 88 0x4104105d08174204105d05d05b1020410410410410420410410410996596420810426596596596590c108108104104104108108104104204204108104b2cb04a08208a28a30230420820208b2cb2c42c208b2c42c208b2c228208228a28c08c1082080822cb2c42cb10b2c210420820208b2cb1071c70822cb2ca08208a28a30230420820208b2cb2c42c208b2c42c208b2c210420820208b2c41c71c208b2ca08208a28a30230420820208b2cb10b2c42cb0846045d75c25c25d70820822cb0412cb2cb2cb2cb2cb5044844844844920910914512cb2cb2cb2cb2cb2cb40438438438438438e08d08d34d08a08228a2822822860451410411420410452c60451410411420410452c60451410411420410452c60451410411420410452c22cb2cb2cb2cb2cb043 (λw=>[dX w1,dX w2,b6 3 n1.2.2.2.1 n1.2.2.2.2.1 n1.2.2.2.2.2.1,b6 2 n1.1 n1.2.1 n1.2.2.1,b6 3 n1.2.2.2.1 n1.2.2.2.2.1 n1.2.2.2.2.2.1,rF 0 [] [] λhh=>bW (T x1) (T y1) x1t y1t false n1.2.2.2.2.2.2,bE v1,bE v2,b6 3 n2.2.2.2.1 n2.2.2.2.2.1 n2.2.2.2.2.2.1,b6 2 n2.1 n2.2.1 n2.2.2.1,b6 3 n2.2.2.2.1 n2.2.2.2.2.1 n2.2.2.2.2.2.1,rF 0 [] [] λhh=>bW (T x2) (T y2) x2t y2t false n2.2.2.2.2.2.2,dX w1,dX w2,b6 3 n1.2.2.2.1 n1.2.2.2.2.1 n1.2.2.2.2.2.1,bE v1,bE v2,b6 3 n2.2.2.2.1 n2.2.2.2.2.1 n2.2.2.2.2.2.1]) (by kernel_rfl)
theorem DO(hz:bz=0)(w1:decide (bi>alo)=false)(v1:decide (bi+bz<ahi)=true)(v2:decide (bj+bz<bhi)=false):af w mT 100 (em w.params sm sd aa bb bd jk kq mb op bp a b na nb m bs alo ahi blo bhi t1 t2 t3 t4 (bi,bj,bz)):=kp w 1 sm sd aa bb bd jk kq mb op bp a b na nb m bs alo ahi blo bhi t1 t2 t3 t4 c bi bj bz hbs ha h0 h1 hr hr2 hs (.inl ⟨rfl,hz⟩) 60 0x4104105d08174204105d05d05b1020410410410410420410410410996596420810426596596596590c108108104104104108108104104204204108104b2cb0442c208b2c42c208b2c210b2c210b0822cb10b0822cb0842cb0846045d75c25c25d70820822cb0412cb2cb2cb2cb2cb5044844844844920910914512cb2cb2cb2cb2cb2cb40438438438438438e08d08d34d08a08228a2822822860451410411420410452c60451410411420410452c60451410411420410452c60451410411420410452c22cb2cb2cb2cb2cb043 (λw=>[dX w1,bE v1,bE v2,dX w1,bE v1,bE v2]) (by kernel_rfl)
end
theorem y7(w:World)(sm sd aa bb bd jk:Addr)(kq:Nat->Tok)(mb op bp:Value)(a b:List Pt)(na nb m:Nat)(bs:List BJ)(alo ahi blo bhi:Int)(t1 t2 t3 t4:Tok)(r:Int×Int×Int)(hbs:dL b bs)(ha:a.length<=100)(hb:b.length<=100)
  (hp:mN (a.map (·.1)) (b.map (·.1)) alo ahi blo bhi=some r):af w mT 100 (em w.params sm sd aa bb bd jk kq mb op bp a b na nb m bs alo ahi blo bhi t1 t2 t3 t4 r):=by
 rcases tF hp with⟨h0,h1,hr2,c,hs,hs1,hs2,hz⟩ |⟨rfl,rfl,rfl,rfl,rfl⟩
 .have hr:alo<=ahi:=Int.le_of_lt h1;obtain⟨bi,bj,bz⟩:=r;rcases hz with hz1 |⟨hz,w1,v1,v2⟩
  .have hs1:(!decide (bi>alo)||(!decide (bj>blo)||rW (a.map (·.1)) (b.map (·.1)) (bi-1) (bj-1)))=true:=hs1;have hs2:(!decide (bi+bz<ahi)||(!decide (bj+bz<bhi)||rW (a.map (·.1)) (b.map (·.1)) (bi+bz) (bj+bz)))=true:=hs2;cases w1:decide (bi>alo)with
   |false=>
    cases v1:decide (bi+bz<ahi)with
    |false=>exact HD hbs ha h0 h1 hr hr2 hs hz1 w1 v1
    |true=>
     cases v2:decide (bj+bz<bhi)with
     |false=>exact HF hbs ha h0 h1 hr hr2 hs hz1 w1 v1 v2
     |true=>
      rw[v1,v2]at hs2;obtain⟨x2,y2,x2t,y2t,n2⟩:=i7 ha hb hs2;exact HG hbs ha h0 h1 hr hr2 hs hz1 w1 v1 v2 n2
   |true=>
    cases w2:decide (bj>blo)with
    |false=>
     cases v1:decide (bi+bz<ahi)with
     |false=>exact HH hbs ha h0 h1 hr hr2 hs hz1 w1 w2 v1
     |true=>
      cases v2:decide (bj+bz<bhi)with
      |false=>exact HI hbs ha h0 h1 hr hr2 hs hz1 w1 w2 v1 v2
      |true=>
       rw[v1,v2]at hs2;obtain⟨x2,y2,x2t,y2t,n2⟩:=i7 ha hb hs2;exact HJ hbs ha h0 h1 hr hr2 hs hz1 w1 w2 v1 v2 n2
    |true=>
     rw[w1,w2]at hs1;obtain⟨x1,y1,x1t,y1t,n1⟩:=i7 ha hb hs1;cases v1:decide (bi+bz<ahi)with
     |false=>exact HL hbs ha h0 h1 hr hr2 hs hz1 w1 w2 v1 n1
     |true=>
      cases v2:decide (bj+bz<bhi)with
      |false=>exact HM hbs ha h0 h1 hr hr2 hs hz1 w1 w2 v1 v2 n1
      |true=>
       rw[v1,v2]at hs2;obtain⟨x2,y2,x2t,y2t,n2⟩:=i7 ha hb hs2;exact HN hbs ha h0 h1 hr hr2 hs hz1 w1 w2 v1 v2 n1 n2
  .have w1:decide (bi>alo)=false:=w1;have v1:decide (bi+bz<ahi)=true:=v1;have v2:decide (bj+bz<bhi)=false:=v2;exact DO hbs ha h0 h1 hr hr2 hs hz w1 v1 v2
 .exact Hz ..
noncomputable def JC:Option Value->Sem Bool
 |some .notImplemented=>.unsupported "lt"
 |some r=>PySem.W.Fast.tw3387353159717490800 r
 |none=>.unsupported "lt"
noncomputable def Fi(x y:Value):Sem Bool:=PySem.W.R.bindR (PySem.W.Fast.tw5748314443788414978 x (Str.ofString "__lt__") [y]) JC
noncomputable def KM(y dy:Addr)(i2 j2 k2:Int)(u1 u2 u3:Tok)(w:World):=
 aq (mF) 20 (λP=>PySem.W.Fast.tw6571733998842723752 (.ref y) (.type "tuple"))
 (λP=>[(y,gs dy i2 j2 k2 u1 u2 u3)]) (λP=>[])
 69 (λw=>[])
 [0] [] (λP ch=>.ok true) (λP ch=>[(y,⟨.ref 257,some dy,.seq ⟨[.int i2 u1,.int j2 u2,.int k2 u3]⟩ 0,⟨[]⟩⟩)]) (λP ch=>[]) w
noncomputable def Fh(x y dx dy:Addr)(i1 j1 k1 i2 j2 k2:Int)(t1 t2 t3 u1 u2 u3:Tok)(b:Bool):Tr:=
 ⟨[],λ_=>[],λ_=>[],.builtin "tuple.__lt__" ⟨[.ref x,.ref y],[]⟩,[(x,gs dx i1 j1 k1 t1 t2 t3),(y,gs dy i2 j2 k2 u1 u2 u3)],λ_=>.ok (.ret (.bool b)),λ_=>[gs dx i1 j1 k1 t1 t2 t3,gs dy i2 j2 k2 u1 u2 u3],λ_=>[]⟩
theorem A5{hb:Md}(x y dx dy:Addr)(i1 j1 k1 i2 j2 k2:Int)(t1 t2 t3 u1 u2 u3:Tok)(b:Bool)(he:(i1==i2)=false)(hl:decide (i1<i2)=b)(w:World):af w hb 30 (Fh x y dx dy i1 j1 k1 i2 j2 k2 t1 t2 t3 u1 u2 u3 b):=by
 refine⟨λMt os G A s R hA C H=>?_,λ_=>⟨rfl,rfl⟩⟩;subst hl;refine Nf F.entry_tuple_lt ?_;rw[MV F.slot_tuple_lt.plain _];unfold Builtin.«tuple.__lt__»;refine on (m:=slotArgs "__lt__" 1 _) (Mh ?_);have hA':b0 mF 29 A.in1:=(b0.in1 (hA.weak rfl rfl));have C0:am Mt os ([(y,gs dy i2 j2 k2 u1 u2 u3)]++[(x,gs dx i1 j1 k1 t1 t2 t3)]) s:=C.perm (List.Perm.swap _ _ _);show wpAny _ A.in1 (isInstance (.ref y) (.type "tuple")>>=_) _ _ s;refine on ?_;have hI:=((KM y dy i2 j2 k2 u1 u2 u3 w).tr (hb:=mF) (lv:=29) (F:=[(x,gs dx i1 j1 k1 t1 t2 t3)]) (by decide) λ_=>rfl) Mt os G A.in1 s;rw[PySem.W.Fast.te6571733998842723752];refine M6 (hI _ hA' C0 λr N s1 hq C1=>?_) (λ_ _ h=>h) λ_ _ h=>h.elim
 obtain⟨ch,rfl,rfl⟩:=hq;have C2:am Mt os [(x,gs dx i1 j1 k1 t1 t2 t3),(y,gs dy i2 j2 k2 u1 u2 u3)] s1:=C1.perm (List.Perm.swap _ _ _);have hx:=(C2.own _ (.head _)).1;have hy:=(C2.own _ (.tail _ (.head _))).1;show wpAny _ A.in1 (Builtin.Tuple.tupleItemsOf (.ref x)>>=_) _ _ s1;have items:∀{z dz:Addr} {a b c:Int} {v1 v2 v3:Tok} {Q:Array Value->Shared->Prop} {E:Value->Shared->Prop},s1.heap.get? z=some (gs dz a b c v1 v2 v3)->Q #[.int a v1,.int b v2,.int c v3] s1->wpAny (model pw w) A.in1 (Builtin.Tuple.tupleItemsOf (.ref z)) Q E s1:=by
  intro z dz a b c v1 v2 v3 Q E hz hQ;unfold Builtin.Tuple.tupleItemsOf;exact on (Nm hz rfl (Mh hQ))
 refine on (items hx ?_);refine on (items hy ?_);show wpAny _ A.in1 (forIn [(Value.int i1 t1,Value.int i2 u1),(Value.int j1 t2,Value.int j2 u2),(Value.int k1 t3,Value.int k2 u3)] _ _>>=_) _ _ s1;rw[OG];simp only[bind_assoc];refine on (wpAny_eqBool_int ?_);rw[he];simp only[PT,if_true];refine on (on (NQ (on (wpAny_lt_int ?_))));exact on (Mh (Mh (on (Mh (Mh (H u0 _ C2))))))
noncomputable def KQ(x y dx dy:Addr)(i1 j1 k1 i2 j2 k2:Int)(t1 t2 t3 u1 u2 u3:Tok)(b:Bool)(he:(i1==i2)=false)(hl:decide (i1<i2)=b)(w:World):=
 aq (mF) 40 (λP=>Fi (.ref x) (.ref y))
 (λP=>[(x,gs dx i1 j1 k1 t1 t2 t3),(y,gs dy i2 j2 k2 u1 u2 u3)]) (λP=>[])
 17666308051013 (λw=>[rF 30 [0,1] [] λhh=>A5 x y dx dy i1 j1 k1 i2 j2 k2 t1 t2 t3 u1 u2 u3 b he hl w])
 [0,1] [] (λP ch=>.ok b) (λP ch=>[(x,⟨.ref 257,some dx,.seq ⟨[.int i1 t1,.int j1 t2,.int k1 t3]⟩ 0,⟨[]⟩⟩),(y,⟨.ref 257,some dy,.seq ⟨[.int i2 u1,.int j2 u2,.int k2 u3]⟩ 0,⟨[]⟩⟩)]) (λP ch=>[]) w
noncomputable abbrev MB:=Addr×Addr×(Int×Int×Int)×Tok×Tok×Tok
noncomputable def cA(r:MB):Addr×Obj:=(r.1,gs r.2.1 r.2.2.1.1 r.2.2.1.2.1 r.2.2.1.2.2 r.2.2.2.1 r.2.2.2.2.1 r.2.2.2.2.2)
noncomputable def bo(ms:List MB):List Value:=ms.map λr=>.ref r.1
noncomputable def gn{α:Type}(ans:Nat->Nat->Option Bool):KasT α->Option α
 |.ret a=>some a
 |.ask i j k=>(ans i j).bind λb=>gn ans (k b)
theorem kM{α:Type}{ans:Nat->Nat->Option Bool}{cmp:Nat->Nat->(Bool->Shared->Prop)->Shared->Prop}{I:Shared->Prop}(hc:∀i j b,ans i j=some b->∀C s,I s->(∀s',I s'->C b s')->cmp i j C s){Q:α->Shared->Prop}{a:α}(hQ:∀s',I s'->Q a s'):
  ∀(t:KasT α) (s:Shared),gn ans t=some a->I s->t.kasWp cmp Q s
 |.ret b,s,h,hI=>by
  cases h;exact hQ s hI
 |.ask i j k,s,h,hI=>by
  obtain⟨b,hb,h⟩:=Mk.mp (show(ans i j).bind (λb=>gn ans (k b))=some a from h);exact hc i j b hb _ s hI λs' hI'=>kM hc hQ (k b) s' h hI'
noncomputable def sY(ks:List Int)(i j:Nat):Option Bool:=match ks[i]?,ks[j]? with
 |some a,some b=>bif a==b then none else some (decide (a<b))
 |_,_=>none
noncomputable def nM(ks:List Int):Option (List Nat):=match ks with
 |[]=>some []
 |[_]=>some [0]
 |ks=>(gn (sY ks) (kas_sort ks.length)).map λp=>p.toList
theorem Ba{w:World}{Mt:Heap}{os:OsState}(G:Gr w Mt){A:Around}{s:Shared}{M F:ah}{r1 r2:MB}(hA:b0 mF 40 A)(C0:am Mt os M s)(hM:M.Perm ([cA r1,cA r2]++F)){b:Bool}(he:(r1.2.2.1.1==r2.2.2.1.1)=false)(hl:decide (r1.2.2.1.1<r2.2.2.1.1)=b)
  {Q:Bool->Shared->Prop} (hQ:∀s',am Mt os M s'->Q b s'):wpAny (model pw w) A (keyLt' oneType' (.ref r1.1) (.ref r2.1)) Q (λ_ _=>False) s:=by
 have h:=((KQ r1.1 r2.1 r1.2.1 r2.2.1 r1.2.2.1.1 r1.2.2.1.2.1 r1.2.2.1.2.2 r2.2.2.1.1 r2.2.2.1.2.1 r2.2.2.1.2.2 r1.2.2.2.1 r1.2.2.2.2.1 r1.2.2.2.2.2 r2.2.2.2.1 r2.2.2.2.2.1 r2.2.2.2.2.2 b he hl w).tr (hb:=mF) (F:=F) (Me _) λ_=>rfl) Mt os G A s Q hA (C0.perm hM) λa N s' hq C'=>by
  obtain⟨ch,rfl,rfl⟩:=hq;exact hQ s' (C'.perm hM.symm)
 rw[keyLt'_oneType,oneLt'_eq];simp only[if_true];refine on (wpAny_cRoomFor (by have:=hA.2.1;show A.units<9900;omega) ?_);intro Γ p hΓ;have h:=h Γ p hΓ;unfold Fi at h;rw[<-N0,Nv,<-PySem.W.Fast.te5748314443788414978]at h;rw[NT];refine Nw _ Γ _ (λr On NG MP=>?_) (λ_ _ _ (h':False)=>h'.elim) _ _ h;cases r with
 |none=>exact(show False from MP).elim
 |some v=>
  cases v<;>first |exact(show False from MP).elim |(unfold JC at MP;rw[<-PySem.W.Fast.te3387353159717490800]at MP;exact MP)
theorem uB{w:World}{h:Heap}{r:MB}(hr:h.get? r.1=some (cA r).2):Looks (model pw w) h (typeOf (.ref r.1)) (.ref 257):=λA Q E s keep hQ=>QV (keep _ _ hr) hQ
noncomputable abbrev uD(u:U):Nat:=u.u Nat 0
noncomputable def vG(l:Addr)(ms out:List MB)(n:Nat):Tr:=⟨[ms.map cA],λ_=>[out.map cA],λ_=>[],.call (.builtin "list.sort") ⟨[.ref l],[]⟩,[(l,oL (bo ms) n)],λ_=>.ok (.ret .none),λu=>[oL (bo out) (uD u)],λ_=>[]⟩
theorem fj(vs:List Value)(n:Nat)(f:Array Value->Array Value):∃n',Obj.mapSeq f (oL vs n)=oL (f ⟨vs⟩).toList n':=⟨_,rfl⟩
theorem EW{ms:List MB}{i j:Nat}{r1 r2:MB}(hi:ms[i]?=some r1)(hj:ms[j]?=some r2)(ne:i≠j):∃F,(ms.map cA).Perm ([cA r1,cA r2]++F):=by
 obtain⟨F,f,_⟩:=gx [i,j] (ms.map cA) [cA r1,cA r2] (by simp[ne]) (by
  rw[lV,Mf,hi];show(cU [j] (ms.map cA)).map _=_;rw[lV,Mf,hj];rfl)
 exact⟨F,f⟩
theorem A3{hb:Md}(w:World)(l:Addr)(ms out:List MB)(n:Nat)(q:List Nat)(hlen:ms.length<=60)(hq:nM (ms.map (·.2.2.1.1))=some q)(ho:out=q.filterMap (ms[·]?))(hp:out.length=q.length)(hpm:out.Perm ms):af w hb 50 (vG l ms out n):=by
 refine⟨λMt os G A s R hA C H=>?_,λ_=>⟨rfl,rfl⟩⟩;have C:am Mt os ([(l,oL (bo ms) n)]++ms.map cA) s:=C.perm (ae λy=>by exact(aN [_] [_] 2181316801 540865:));have hol:=(C.own (l,oL (bo ms) n) (.head _)).1;refine aB F.slot_list_sort ⟨_,hol,rfl⟩ F.entry_list_sort (F.args_list_sort_1 _) ?_;rw[list_sort_plain];have hsz:(Array.mk (bo ms)).size=ms.length:=by show(bo ms).length=_;unfold bo;rw[Mc]
 refine on (listItems_at hol rfl ?_);refine on (Ou hol rfl ?_ (by rw[hsz,Op];omega) (Nt _));obtain⟨e1,he1⟩:=fj (bo ms) n λ_=> #[]
 have C1:=C.update (i:=0) (p:=(l,oL (bo ms) n)) rfl (f:=Obj.mapSeq λ_=> #[]) rfl;rw[show(Obj.mapSeq λ_=> #[]) (l,oL (bo ms) n).2=oL [] e1 from he1]at C1;have C1:am Mt os ([(l,oL [] e1)]++ms.map cA) {s with heap:=s.heap.update l (Obj.mapSeq λ_=> #[])}:=C1;have hol1:=(C1.own (l,oL [] e1) (.head _)).1;refine on (seqEpoch_at hol1 rfl ?_);refine on (wpAny_newTuple ?_ (by show(Array.mk (bo ms)).size<=_;rw[hsz,Op];omega));refine on (wpAny_newList ?_ (Nt _));refine MX ?_;have C2:=C1.grow (h':=((s.heap.update l (Obj.mapSeq λ_=> #[])).push (seqObj "tuple" ⟨bo ms⟩ 0)).push (seqObj "list" #[] 0)) λb o e=>Nl _ (Nl _ e)
 have fin:∀(st':SortSt) (s':Shared),am Mt os ([(l,oL [] e1)]++ms.map cA) s'->failedOf st'=none->(arrOf st').map (·.2)=⟨bo out⟩->
   wpAny (model pw w) A.in1 (do
    let touched:=(<-seqEpoch l) != e1
    Builtin.List.listUpdate (.ref l) λ_=>(arrOf st').map (·.2)
    if let some e:=failedOf st' then rule "list.sort.comparison-raised";throw e
    if touched then rule "list.sort.modified";raiseError "ValueError" "list modified during sort"
    ret .none) (λfin s'=>match fin with |.done f=>R (.ok f) s' |.again c'=>c'.quiet=true/\codeAny (model pw w) A c' R s') (λe s'=>R (.error e) s') s':=by
  intro st' s' C' hf hout;have hol':=(C'.own (l,oL [] e1) (.head _)).1;have hos:(Array.mk (bo out)).size<=60:=by
   show(bo out).length<=60;unfold bo;rw[Mc,hpm.length_eq];exact hlen
  rw[hout,hf];refine on (seqEpoch_at hol' rfl ?_);refine on (Ou hol' rfl ?_ (Nt _) (by rw[Op];omega));simp only[bne_self_eq_false,M7,if_false];obtain⟨e2,he2⟩:=fj [] e1 λ_=>⟨bo out⟩
  have C3:=C'.update (i:=0) (p:=(l,oL [] e1)) rfl (f:=Obj.mapSeq λ_=>⟨bo out⟩) rfl;rw[show(Obj.mapSeq λ_=>(⟨bo out⟩:Array Value)) (l,oL [] e1).2=oL (bo out) e2 from he2]at C3;obtain⟨u,_,hu⟩:=n9 e2 (λ_=>0);refine Mh (H u _ (C3.perm ?_));show List.Perm ((l,oL (bo out) e2)::ms.map cA) ([(l,oL (bo out) (uD u))]++([out.map cA].flatten));rw[show uD u=e2 from hu _];simp only[MN,M9,Mq];exact(hpm.symm.map cA).cons _
 rcases ms with _ |⟨r1,_ |⟨r2,rest⟩⟩
 .cases hq;rw[if_pos (by simp[bo]),if_pos (by simp[bo])];refine on (Mh ?_);refine on (Mh ?_);exact fin _ _ C2 (by kernel_rfl) (by rw[ho];kernel_rfl)
 .cases hq;rw[if_pos (by simp[bo]),if_pos (by simp[bo])];refine on (Mh ?_);refine on (Mh ?_);exact fin _ _ C2 (by kernel_rfl) (by rw[ho];kernel_rfl)
 .have hn2:¬(Array.mk (bo (r1::r2::rest))).size<2:=by rw[hsz];simp
  rw[if_neg hn2,if_neg hn2];have hvl:(bo (r1::r2::rest)).length=(r1::r2::rest).length:=hsz;refine on (kas_kind (T:=.ref 257) (by rw[hvl];simp) (λv hv=>?_) rfl (by decide) ?_)
  .unfold bo at hv;obtain⟨r,hr,rfl⟩:=ML.mp hv;exact uB (C2.own (cA r) (MH _ (Mw hr))).1
  .obtain⟨p,hp1,hp2⟩:∃p,gn (sY ((r1::r2::rest).map (·.2.2.1.1))) (kas_sort (bo (r1::r2::rest)).length)=some p/\p.toList=q:=by
    have hq:(gn (sY ((r1::r2::rest).map (·.2.2.1.1))) (kas_sort ((r1::r2::rest).map (·.2.2.1.1)).length)).map (λp=>p.toList)=some q:=hq;rw[Mc,<-hvl]at hq;cases hk:gn (sY ((r1::r2::rest).map (·.2.2.1.1))) (kas_sort (bo (r1::r2::rest)).length)with
    |none=>rw[hk]at hq;cases hq
    |some p=>rw[hk]at hq;exact⟨p,rfl,M2 hq⟩
   have est:SortSt.mk' oneType' ((Array.mk (bo (r1::r2::rest))).zip (Array.mk (bo (r1::r2::rest)))) #[] 7 none=kas_st oneType' (pairsOf (bo (r1::r2::rest))) (List.toArray (List.range (bo (r1::r2::rest)).length)):=by
    have e:=kas_range (pairsOf (bo (r1::r2::rest)));rw[pairsOf_size]at e;show SortSt.mk' oneType' (pairsOf (bo (r1::r2::rest))) #[] 7 none=SortSt.mk' oneType' ((List.toArray (List.range (bo (r1::r2::rest)).length)).map (kas_item (pairsOf (bo (r1::r2::rest))))) #[] 7 none;rw[e]
   dsimp only;rw[est];have run:=kas_runs (prog:=pw) (w:=w) (A:=A.in1) (κ:=oneType') (it:=pairsOf (bo (r1::r2::rest))) (E:=λe s'=>R (.error e) s') (n:=(bo (r1::r2::rest)).length) (G:=λp' s'=>p'=p/\am Mt os ([(l,oL [] e1)]++(r1::r2::rest).map cA) s')
    (Q:=λ_ st' s'=>arrOf st'=p.map (kas_item (pairsOf (bo (r1::r2::rest))))/\failedOf st'=none/\am Mt os ([(l,oL [] e1)]++(r1::r2::rest).map cA) s') (by rw[hvl];simp) (by rw[hvl];omega)
    (λp' st' s' a1 a2 a3 a4=>⟨a4.1▸a2,a3,a4.2⟩) (s:={s with heap:=((s.heap.update l (Obj.mapSeq λ_=> #[])).push (seqObj "tuple" ⟨bo (r1::r2::rest)⟩ 0)).push (seqObj "list" #[] 0)}) ?_
   .refine on (M6 run ?_ λ_ _ e=>e);rintro⟨⟨⟩,st'⟩ s' ⟨har,hf,C'⟩;refine fin st' s' C' hf ?_;apply Oz.mp;rw[har,Array.map_map,Array.toList_map,hp2];show _=bo out;have gen:∀(q:List Nat),(q.filterMap ((r1::r2::rest)[·]?)).length=q.length->q.map (λi=>(kas_item (pairsOf (bo (r1::r2::rest))) i).2)=bo (q.filterMap ((r1::r2::rest)[·]?)):=by
     intro q
     induction q with
     |nil=>intro _;rfl
     |cons i q ih=>
      intro hl;rw[Nk]at hl ⊢;cases hi:(r1::r2::rest)[i]? with
      |none=>
       rw[hi]at hl;simp only at hl;have:=P4 ((r1::r2::rest)[·]?) q;rw[Mg]at hl;omega
      |some r=>
       rw[hi]at hl;simp only[Mg]at hl ⊢;rw[Ml,ih (by omega),kas_item_eq];show _=Value.ref r.1::bo _;congr 1;show(bo (r1::r2::rest)).getD i Value.none=_;unfold bo;rw[Nc,Mf,hi];rfl
    rw[ho];exact gen q (by rw[<-ho];exact hp)
   .rw[<-kas_ask_eq];refine kM (I:=λs'=>am Mt os ([(l,oL [] e1)]++(r1::r2::rest).map cA) s') (λi j b hb D s1 hI hD=>?_) (λs' hI=>⟨rfl,hI⟩) _ _ hp1 C2;unfold sY at hb;rw[Mf,Mf]at hb;cases hi:(r1::r2::rest)[i]? with
    |none=>rw[hi]at hb;cases hb
    |some ra=>
     cases hj:(r1::r2::rest)[j]? with
     |none=>rw[hi,hj]at hb;cases hb
     |some rb=>
      rw[hi,hj]at hb;simp only[Np]at hb;cases he:(ra.2.2.1.1==rb.2.2.1.1)with
      |true=>rw[he]at hb;cases hb
      |false=>
       rw[he]at hb;have hb:=M2 hb;have ne:i≠j:=by
        rintro rfl;rw[hi]at hj;cases hj;simp at he
       obtain⟨F,hF⟩:=EW hi hj ne;have v1:(bo (r1::r2::rest)).getD i Value.none=.ref ra.1:=by unfold bo;rw[Nc,Mf,hi];rfl
       have v2:(bo (r1::r2::rest)).getD j Value.none=.ref rb.1:=by unfold bo;rw[Nc,Mf,hj];rfl
       unfold kas_ask;rw[v1,v2];refine Ba (F:=F++[(l,oL [] e1)]) G ((b0.in1 (hA.weak rfl rfl)).mono (by decide)) hI ?_ he hb hD;refine Mz.trans ?_;rw[<-Ms];exact hF.append_right _
noncomputable abbrev iO:Stmt:=aP DS 9
section
section
variable(loc sm qu bl mx:Addr)(kk:Nat->Tok)(la lb alo ahi blo bhi i j k:Int)(ta tb t1 t2 t3 t4 u1 u2 u3:Tok)(vs us:List Value)(n n2:Nat)(w:World)
noncomputable def HP(sd aa bb bd jk:Addr)(kq:Nat->Tok)(mb op bp:Value)(a b:List Pt)(na nb m:Nat)(bs:List BJ)(alo ahi blo bhi:Int)(t1 t2 t3 t4:Tok)(loc qu qa bl:Addr)(kk:Nat->Tok)(la lb:Int)(ta tb:Tok)(vs:List Value)(n:Nat)(hv:vs.length<=1000)(q1:Nat)(hq:(vs++[Value.ref qa]).length=q1+1)(hbs:dL b bs)(ha:a.length<=100)(hb:b.length<=100)(i j k:Int)(hp:mN (a.map (·.1)) (b.map (·.1)) alo ahi blo bhi=some (i,j,k))(w:World):=
 aq (mT) 110 (λP=>ml (aE ew) ((ao ew).take 2) (d5 loc))
 (λP=>[(sm,oI 364 sd),(sd,aD P kA kq [.none,.ref aa,.ref bb,.bool false,mb,op,.none,.ref bd,.ref jk,bp] 10),(aa,oL (vT a) na),(bb,oL (vT b) nb),(bd,oD (eS P (bs.map b9)) m),(jk,aL (.set ⟨[]⟩ 0 (sK P))),(loc,frm P d6 kk [.ref sm,.int lb tb,.int la ta,.ref qu,.ref bl] 5),(qu,oL (vs++[.ref qa]) n),(qa,aj [.int alo t1,.int ahi t2,.int blo t3,.int bhi t4])]) (λP=>[bs.map dN])
 0x2cb2cb2cb2cb5534d24d30930934d34934c24c24d34d24d30930934d34934c24c24d30814820410520410520410521012cb2cb18504104114104114104114b2cb2cb2cb2cb40438438438438438e08d08d34d10c30c30b10c30b (λw=>[rF 0 [7] [] λhh=>aF qu (vs++[.ref qa]) n (q1+1) hq (by simp;omega),rF 0 [7] [] λhh=>jB qu vs n (.ref qa) (by omega),bX 9 8,bX 9 8,bX 9 8,bX 9 8,f6 9 8,rT 100 [0,1,2,3,4,5] [0] λhh=>y7 w sm sd aa bb bd jk kq mb op bp a b na nb m bs alo ahi blo bhi t1 t2 t3 t4 (i,(j,k)) hbs ha hb hp])
 [0,1,2,3,4,5,6,7,13,8] [0] (λP ch=>.ok true) (λP ch=>[(sm,oI 364 sd),(sd,aD P kA kq [.none,.ref aa,.ref bb,.bool false,mb,op,.none,.ref bd,.ref jk,bp] 10),(aa,oL (vT a) na),(bb,oL (vT b) nb),(bd,oD (eS P (List.map b9 bs)) m),(jk,aL (.set ⟨[]⟩ 0 (sK P))),(loc,frm P d6 (kx kk 5 [nZ ch 8,nZ ch 9,nZ ch 10,nZ ch 11,nZ ch 16,nZ ch 17,nZ ch 18,nZ ch 19]) [.ref sm,.int lb tb,.int la ta,.ref qu,.ref bl,.int alo t1,.int ahi t2,.int blo t3,.int bhi t4,.int i ((ch 12).n 2),.int j ((ch 12).n 3),.int k ((ch 12).n 4),.ref (aZ ch 12)] 13),(qu,oL vs (n+1)),(aZ ch 12,⟨.ref 257,some (((ch 12).n 1)+ab),.seq ⟨[.int i ((ch 12).n 2),.int j ((ch 12).n 3),.int k ((ch 12).n 4)]⟩ 0,⟨[]⟩⟩),(qa,aj [.int alo t1,.int ahi t2,.int blo t3,.int bhi t4])]) (λP ch=>[List.map dN bs]) w
noncomputable def HQ(sd aa bb bd jk:Addr)(kq:Nat->Tok)(mb op bp:Value)(a b:List Pt)(na nb m:Nat)(bs:List BJ)(alo ahi blo bhi:Int)(t1 t2 t3 t4:Tok)(loc qu qa bl:Addr)(kk:Nat->Tok)(la lb:Int)(ta tb:Tok)(z1 z2 z3 z4 z5 z6 z7 z8:Value)(vs:List Value)(n:Nat)(hv:vs.length<=1000)(q1:Nat)(hq:(vs++[Value.ref qa]).length=q1+1)(hbs:dL b bs)(ha:a.length<=100)(hb:b.length<=100)(i j k:Int)(hp:mN (a.map (·.1)) (b.map (·.1)) alo ahi blo bhi=some (i,j,k))(w:World):=
 aq (mT) 110 (λP=>ml (aE ew) ((ao ew).take 2) (d5 loc))
 (λP=>[(sm,oI 364 sd),(sd,aD P kA kq [.none,.ref aa,.ref bb,.bool false,mb,op,.none,.ref bd,.ref jk,bp] 10),(aa,oL (vT a) na),(bb,oL (vT b) nb),(bd,oD (eS P (bs.map b9)) m),(jk,aL (.set ⟨[]⟩ 0 (sK P))),(loc,frm P d6 kk [.ref sm,.int lb tb,.int la ta,.ref qu,.ref bl,z1,z2,z3,z4,z5,z6,z7,z8] 13),(qu,oL (vs++[.ref qa]) n),(qa,aj [.int alo t1,.int ahi t2,.int blo t3,.int bhi t4])]) (λP=>[bs.map dN])
 0x2cb2cb2cb2cb5534d24d30930934d34934c24c24d34d24d30930934d34934c24c24d30814820410520410520410521012cb2cb18504104114104114104114b2cb2cb2cb2cb40438438438438438e08d08d34d10c30c30b10c30b (λw=>[rF 0 [7] [] λhh=>aF qu (vs++[.ref qa]) n (q1+1) hq (by simp;omega),rF 0 [7] [] λhh=>jB qu vs n (.ref qa) (by omega),bX 9 8,bX 9 8,bX 9 8,bX 9 8,f6 9 8,rT 100 [0,1,2,3,4,5] [0] λhh=>y7 w sm sd aa bb bd jk kq mb op bp a b na nb m bs alo ahi blo bhi t1 t2 t3 t4 (i,(j,k)) hbs ha hb hp])
 [0,1,2,3,4,5,6,7,13,8] [0] (λP ch=>.ok true) (λP ch=>[(sm,oI 364 sd),(sd,aD P kA kq [.none,.ref aa,.ref bb,.bool false,mb,op,.none,.ref bd,.ref jk,bp] 10),(aa,oL (vT a) na),(bb,oL (vT b) nb),(bd,oD (eS P (List.map b9 bs)) m),(jk,aL (.set ⟨[]⟩ 0 (sK P))),(loc,frm P d6 kk [.ref sm,.int lb tb,.int la ta,.ref qu,.ref bl,.int alo t1,.int ahi t2,.int blo t3,.int bhi t4,.int i ((ch 12).n 2),.int j ((ch 12).n 3),.int k ((ch 12).n 4),.ref (aZ ch 12)] 13),(qu,oL vs (n+1)),(aZ ch 12,⟨.ref 257,some (((ch 12).n 1)+ab),.seq ⟨[.int i ((ch 12).n 2),.int j ((ch 12).n 3),.int k ((ch 12).n 4)]⟩ 0,⟨[]⟩⟩),(qa,aj [.int alo t1,.int ahi t2,.int blo t3,.int bhi t4])]) (λP ch=>[List.map dN bs]) w
noncomputable def HS:=
 cY (mT) 90 (λP=>ku ew (d5 loc))
 (λP=>[(loc,frm P d6 kk [.ref sm,.int lb tb,.int la ta,.ref qu,.ref bl] 5),(qu,oL [] n)]) (λP=>[])
 68706626 (λw=>[rF 0 [1] [] λhh=>aF qu [] n 0 rfl (by decide)])
 [0,1] [] (λP ch=>(.ok .next)) (λP ch=>[(loc,frm P d6 kk [.ref sm,.int lb tb,.int la ta,.ref qu,.ref bl] 5),(qu,oL [] n)]) (λP ch=>[]) w
noncomputable def HT(z1 z2 z3 z4 z5 z6 z7 z8:Value)(n:Nat)(w:World):=
 cY (mT) 90 (λP=>ku ew (d5 loc))
 (λP=>[(loc,frm P d6 kk [.ref sm,.int lb tb,.int la ta,.ref qu,.ref bl,z1,z2,z3,z4,z5,z6,z7,z8] 13),(qu,oL [] n)]) (λP=>[])
 68706626 (λw=>[rF 0 [1] [] λhh=>aF qu [] n 0 rfl (by decide)])
 [0,1] [] (λP ch=>(.ok .next)) (λP ch=>[(loc,frm P d6 kk [.ref sm,.int lb tb,.int la ta,.ref qu,.ref bl,z1,z2,z3,z4,z5,z6,z7,z8] 13),(qu,oL [] n)]) (λP ch=>[]) w
end
end
section
noncomputable abbrev Q4:=Int×Int×Int×Int
noncomputable abbrev R3:=Int×Int×Int
noncomputable def uX(q:Q4)(r:R3):List Q4:=bif decide (q.1<r.1)&&decide (q.2.2.1<r.2.1)then[(q.1,r.1,q.2.2.1,r.2.1)]else[]
noncomputable def uY(q:Q4)(r:R3):List Q4:=bif decide (r.1+r.2.2<q.2.1)&&decide (r.2.1+r.2.2<q.2.2.2)then[(r.1+r.2.2,q.2.1,r.2.1+r.2.2,q.2.2.2)]else[]
noncomputable def kT(q:Q4)(r:R3):List Q4:=bif r.2.2 != 0 then uY q r++uX q r else[]
noncomputable def iC(la lb:List (List Nat)):Nat->List Q4->List R3->Option (List R3)
 |_,[],out=>some out
 |0,_::_,_=>none
 |n+1,q::qs,out=>(mN la lb q.1 q.2.1 q.2.2.1 q.2.2.2).bind λr=>iC la lb n (kT q r++qs) (bif r.2.2 != 0 then out++[r]else out)
noncomputable abbrev QE:=Addr×Q4×Tok×Tok×Tok×Tok
noncomputable def jW(q:QE):Addr×Obj:=(q.1,aj [.int q.2.1.1 q.2.2.1,.int q.2.1.2.1 q.2.2.2.1,.int q.2.1.2.2.1 q.2.2.2.2.1,.int q.2.1.2.2.2 q.2.2.2.2.2])
noncomputable def km(qs:List QE):List Value:=(qs.map λq=>Value.ref q.1).reverse
theorem u4(q:QE)(qs:List QE):km (q::qs)=km qs++[.ref q.1]:=by
 unfold km;rw[Ml,Pg]
theorem yg(a qs:List QE):km (a++qs)=km qs++km a:=by
 unfold km;rw[Mi,OV]
theorem qK(qs:List QE):(km qs).length=qs.length:=by
 unfold km;rw[OX,Mc]
theorem xN(ms:List MB):(bo ms).length=ms.length:=by
 unfold bo;rw[Mc]
structure SA where
 sm:Addr
 sd:Addr
 aa:Addr
 bb:Addr
 bd:Addr
 jk:Addr
 kq:Nat->Tok
 mb:Value
 op:Value
 bp:Value
noncomputable def sJ(P:Params)(S:SA)(a b:List Pt)(na nb m:Nat)(bs:List BJ):ah:=
 [(S.sm,oI 364 S.sd),(S.sd,aD P kA S.kq [.none,.ref S.aa,.ref S.bb,.bool false,S.mb,S.op,.none,.ref S.bd,.ref S.jk,S.bp] 10),(S.aa,oL (vT a) na),(S.bb,oL (vT b) nb),(S.bd,oD (eS P (bs.map b9)) m),(S.jk,aL (.set ⟨[]⟩ 0 (PySem.SetTable.fresh 0 0 (Bool.not (PySem.Params.followText P "set-order")))))]
structure B0 where
 loc:Addr
 qu:Addr
 bl:Addr
 la:Int
 lb:Int
 ta:Tok
 tb:Tok
noncomputable def jw(P:Params)(S:SA)(A:B0)(kk:Nat->Tok)(q:QE)(r:R3)(u1 u2 u3:Tok)(mx:Addr):Obj:=
 frm P d6 kk [.ref S.sm,.int A.lb A.tb,.int A.la A.ta,.ref A.qu,.ref A.bl,.int q.2.1.1 q.2.2.1,.int q.2.1.2.1 q.2.2.2.1,.int q.2.1.2.2.1 q.2.2.2.2.1,.int q.2.1.2.2.2 q.2.2.2.2.2,.int r.1 u1,.int r.2.1 u2,.int r.2.2 u3,.ref mx] 13
noncomputable def uQ(P:Params)(S:SA)(A:B0)(f:Bool)(o:Obj):Prop:=match f with
 |true=>∃kk,o=frm P d6 kk [.ref S.sm,.int A.lb A.tb,.int A.la A.ta,.ref A.qu,.ref A.bl] 5
 |false=>JV λkk z1 z2 z3 z4 z5 z6 z7 z8=>o=frm P d6 kk [.ref S.sm,.int A.lb A.tb,.int A.la A.ta,.ref A.qu,.ref A.bl,z1,z2,z3,z4,z5,z6,z7,z8] 13
section
variable(w:World)(S:SA)(A:B0)(a b:List Pt)(na nb m:Nat)(bs:List BJ)
theorem DQ(hbs:dL b bs)(ha:a.length<=100)(hb:b.length<=100)(f:Bool)(o:Obj)(ho:uQ w.params S A f o)(q:QE)(vs:List Value)(n:Nat)(hv:vs.length<=1000)(r:R3)(hp:mN (a.map (·.1)) (b.map (·.1)) q.2.1.1 q.2.1.2.1 q.2.1.2.2.1 q.2.1.2.2.2=some r)(F:ah):
  TR w mT 110 (ml (aE ew) ((ao ew).take 2) (d5 A.loc)) ((sJ w.params S a b na nb m bs++[(A.loc,o),(A.qu,oL (vs++[.ref q.1]) n),jW q])++(bs.map dN++F))
   λ_ N=>yA λkk u1 u2 u3 mr=>mr.2.2.1=r/\N=(sJ w.params S a b na nb m bs++[(A.loc,jw w.params S A kk q r u1 u2 u3 mr.1),(A.qu,oL vs (n+1)),cA mr,jW q])++(bs.map dN++F):=by
 obtain⟨i,j,k⟩:=r;have hq:(vs++[Value.ref q.1]).length=vs.length+1:=by simp
 have e:∀N:ah,(N++([bs.map dN].flatten))++F=N++(bs.map dN++F):=λN=>by simp[Ms]
 cases f with
 |true=>
  obtain⟨kk,rfl⟩:=ho;have h:=(HP S.sm S.sd S.aa S.bb S.bd S.jk S.kq S.mb S.op S.bp a b na nb m bs q.2.1.1 q.2.1.2.1 q.2.1.2.2.1 q.2.1.2.2.2 q.2.2.1 q.2.2.2.1 q.2.2.2.2.1 q.2.2.2.2.2 A.loc A.qu q.1 A.bl kk A.la A.lb A.ta A.tb vs n hv vs.length hq hbs ha hb i j k hp w).tr (hb:=mT) (F:=F) (Me _) λ_=>rfl
  rw[cf,e]at h;refine h.mono ?_;refine fr λch=>?_
  rw[cf,e];exact⟨_,⟨_,_,_,_,(aZ ch 12,(ch 12).n 1+ab,(i,j,k),_,_,_),rfl,rfl⟩,.refl _⟩
 |false=>
  obtain⟨kk,z1,z2,z3,z4,z5,z6,z7,z8,rfl⟩:=ho;have h:=(HQ S.sm S.sd S.aa S.bb S.bd S.jk S.kq S.mb S.op S.bp a b na nb m bs q.2.1.1 q.2.1.2.1 q.2.1.2.2.1 q.2.1.2.2.2 q.2.2.1 q.2.2.2.1 q.2.2.2.2.1 q.2.2.2.2.2 A.loc A.qu q.1 A.bl kk A.la A.lb A.ta A.tb z1 z2 z3 z4 z5 z6 z7 z8 vs n hv vs.length hq hbs ha hb i j k hp w).tr (hb:=mT) (F:=F) (Me _) λ_=>rfl
  rw[cf,e]at h;refine h.mono ?_;refine fr λch=>?_
  rw[cf,e];exact⟨_,⟨_,_,_,_,(aZ ch 12,(ch 12).n 1+ab,(i,j,k),_,_,_),rfl,rfl⟩,.refl _⟩
theorem vO{kk:Nat->Tok}{q:QE}{i j k:Int}{u1 u2 u3:Tok}{mx:Addr}{vs us us':List Value}{n n2:Nat}{F:ah}{pq:List Q4}(n' n2':Nat)(new:Ch->List QE)(Vs:Ch->List Value)(pa:Nat)(rs:∀w:World,List (RP w))(sel:List Nat)
  (E:Hq mT 90 (λ_=>aX ((ao ew).drop 2) (d5 A.loc)) (λP=>[(A.loc,jw P S A kk q (i,j,k) u1 u2 u3 mx),(A.qu,oL vs n),(A.bl,oL us n2)]) pa rs sel (λ_ _=>.ok true) λP ch=>[(A.loc,jw P S A kk q (i,j,k) u1 u2 u3 mx),(A.qu,oL (Vs ch) n'),(A.bl,oL us' n2')]++(new ch).map jW)
  (hV:∀ch,Vs ch=vs++km (new ch)) (hn:∀ch,(new ch).map (·.2.1)=pq):
  TR w mT 110 (aX ((ao ew).drop 2) (d5 A.loc)) ([(A.loc,jw w.params S A kk q (i,j,k) u1 u2 u3 mx),(A.qu,oL vs n),(A.bl,oL us n2)]++F)
   λ_ N=>gc λ(new:List QE) (n' n2':Nat)=>new.map (·.2.1)=pq/\N=[(A.loc,jw w.params S A kk q (i,j,k) u1 u2 u3 mx),(A.qu,oL (vs++km new) n'),(A.bl,oL us' n2')]++(new.map jW++F):=
 ((E.use w).tr (hb:=mT) (lv:=110) (F:=F) (by decide) λ_=>rfl).mono (fr λch=>⟨_,⟨new ch,n',n2',hn ch,by rw[<-hV];rfl⟩,.refl _⟩)
theorem DR(kk:Nat->Tok)(q:QE)(r:R3)(u1 u2 u3:Tok)(mx:Addr)(vs us:List Value)(n n2:Nat)(hv:vs.length<=900)(hu:us.length<=1000)(F:ah):
  TR w mT 110 (aX ((ao ew).drop 2) (d5 A.loc)) ([(A.loc,jw w.params S A kk q r u1 u2 u3 mx),(A.qu,oL vs n),(A.bl,oL us n2)]++F)
   λ_ N=>gc λ(new:List QE) (n' n2':Nat)=>new.map (·.2.1)=kT q.2.1 r/\N=[(A.loc,jw w.params S A kk q r u1 u2 u3 mx),(A.qu,oL (vs++km new) n'),(A.bl,oL (bif r.2.2 != 0 then us++[.ref mx]else us) n2')]++(new.map jW++F):=by
 obtain⟨i,j,k⟩:=r;have hv0:vs.length<=1000:=by omega
 have hv1:vs.length+1<=1000:=by omega
 unfold kT uX uY;cases hk:(k != 0)with
 |false=>
  exact vO w S A n n2 (λch=>[]) (λch=>vs) 261 (λw=>[ni hk]) [0,1,2] (by kernel_rfl) (λ_=>(Mq _).symm) λ_=>rfl
 |true=>
  cases c1:decide (q.2.1.1<i)with
  |false=>
   cases d1:decide (i+k<q.2.1.2.1)with
   |false=>
    exact vO w S A n (n2+1) (λch=>[]) (λch=>vs) 0x1050821451051441471c71c5105 (λw=>[ni hk,dF 2 (vs:=us) (by omega),bE c1,bE d1]) [0,1,2] (by kernel_rfl) (λ_=>(Mq _).symm) λ_=>rfl
   |true=>
    cases d2:decide (j+k<q.2.1.2.2.2)with
    |false=>
     exact vO w S A n (n2+1) (λch=>[]) (λch=>vs) 0x1050821451050821451051441471c71c5105 (λw=>[ni hk,dF 2 (vs:=us) (by omega),bE c1,bE d1,bE d2]) [0,1,2] (by kernel_rfl) (λ_=>(Mq _).symm) λ_=>rfl
    |true=>
     exact vO w S A (n+1) (n2+1) (λch=>[(aZ ch 9,(i+k,q.2.1.2.1,j+k,q.2.1.2.2.2),nZ ch 7,q.2.2.2.1,nZ ch 8,q.2.2.2.2.2)]) (λch=>vs++[.ref (aZ ch 9)]) 0x1050821451420851461861851050821451050821451051441471c71c5105 (λw=>[ni hk,dF 2 (vs:=us) (by omega),bE c1,bE d1,bE d2,dF 1 (vs:=vs) (by omega)]) [0,1,2,3] (by kernel_rfl) (λ_=>rfl) λ_=>rfl
  |true=>
   cases c2:decide (q.2.1.2.2.1<j)with
   |false=>
    cases d1:decide (i+k<q.2.1.2.1)with
    |false=>
     exact vO w S A n (n2+1) (λch=>[]) (λch=>vs) 0x41420851441451051441471c71c5105 (λw=>[ni hk,dF 2 (vs:=us) (by omega),bE c1,bE c2,bE d1]) [0,1,2] (by kernel_rfl) (λ_=>(Mq _).symm) λ_=>rfl
    |true=>
     cases d2:decide (j+k<q.2.1.2.2.2)with
     |false=>
      exact vO w S A n (n2+1) (λch=>[]) (λch=>vs) 0x41420851441420851441451051441471c71c5105 (λw=>[ni hk,dF 2 (vs:=us) (by omega),bE c1,bE c2,bE d1,bE d2]) [0,1,2] (by kernel_rfl) (λ_=>(Mq _).symm) λ_=>rfl
     |true=>
      exact vO w S A (n+1) (n2+1) (λch=>[(aZ ch 10,(i+k,q.2.1.2.1,j+k,q.2.1.2.2.2),nZ ch 8,q.2.2.2.1,nZ ch 9,q.2.2.2.2.2)]) (λch=>vs++[.ref (aZ ch 10)]) 0x41420851450821451861861441420851441420851441451051441471c71c5105 (λw=>[ni hk,dF 2 (vs:=us) (by omega),bE c1,bE c2,bE d1,bE d2,dF 1 (vs:=vs) (by omega)]) [0,1,2,3] (by kernel_rfl) (λ_=>rfl) λ_=>rfl
   |true=>
    cases d1:decide (i+k<q.2.1.2.1)with
    |false=>
     exact vO w S A (n+1) (n2+1) (λch=>[(aZ ch 4,(q.2.1.1,i,q.2.1.2.2.1,j),q.2.2.1,u1,q.2.2.2.2.1,u2)]) (λch=>vs++[.ref (aZ ch 4)]) 0x41420851441451451861861441451051441471c71c5105 (λw=>[ni hk,dF 2 (vs:=us) (by omega),bE c1,bE c2,dF 1 (vs:=vs) (by omega),bE d1]) [0,1,2,3] (by kernel_rfl) (λ_=>rfl) λ_=>rfl
    |true=>
     cases d2:decide (j+k<q.2.1.2.2.2)with
     |false=>
      exact vO w S A (n+1) (n2+1) (λch=>[(aZ ch 4,(q.2.1.1,i,q.2.1.2.2.1,j),q.2.2.1,u1,q.2.2.2.2.1,u2)]) (λch=>vs++[.ref (aZ ch 4)]) 0x41420851441420851441451451861861441451051441471c71c5105 (λw=>[ni hk,dF 2 (vs:=us) (by omega),bE c1,bE c2,dF 1 (vs:=vs) (by omega),bE d1,bE d2]) [0,1,2,3] (by kernel_rfl) (λ_=>rfl) λ_=>rfl
     |true=>
      exact vO w S A (n+2) (n2+1) (λch=>[(aZ ch 12,(i+k,q.2.1.2.1,j+k,q.2.1.2.2.2),nZ ch 10,q.2.2.2.1,nZ ch 11,q.2.2.2.2.2),(aZ ch 4,(q.2.1.1,i,q.2.1.2.2.1,j),q.2.2.1,u1,q.2.2.2.2.1,u2)]) (λch=>vs++[.ref (aZ ch 4)]++[.ref (aZ ch 12)]) 0x41420851450821451861861441420851441420851441451451861861441451051441471c71c5105 (λw=>[ni hk,dF 2 (vs:=us) (by omega),bE c1,bE c2,dF 1 (vs:=vs) (by omega),bE d1,bE d2,rF 0 [1] [] λhh=>c7 A.qu (vs++[.ref (aZ hh 4)]) (n+1) (.ref (aZ hh 12)) (by simp;omega)]) [0,1,2,4,3] (by kernel_rfl) (λ_=>Ms ..) λ_=>rfl
end
end
theorem mQ(e:Env):ku ew e=.whileLoop (aE ew) ((ao ew).take 2++(ao ew).drop 2) (dQ ew) e:=by
 unfold ku;rw[Ng]
theorem sb(q:Q4)(r:R3):(kT q r).length<=2:=by
 unfold kT uX uY;cases(r.2.2 != 0)<;>cases(decide (q.1<r.1)&&decide (q.2.2.1<r.2.1))<;>cases(decide (r.1+r.2.2<q.2.1)&&decide (r.2.1+r.2.2<q.2.2.2))<;>simp
noncomputable def wZ(w:World)(S:SA)(A:B0)(a b:List Pt)(na nb m:Nat)(bs:List BJ)(o:Obj)(qs:List QE)(n:Nat)(ms:List MB)(n2:Nat):ah:=
 (sJ w.params S a b na nb m bs++[(A.loc,o),(A.qu,oL (km qs) n),(A.bl,oL (bo ms) n2)])++(bs.map dN++(qs.map jW++ms.map cA))
section
variable(w:World)(S:SA)(A:B0)(a b:List Pt)(na nb m:Nat)(bs:List BJ)
noncomputable def HU(out:List R3)(f:Bool)(qs:List QE)(r:Result)(N:ah):Prop:=r=.ok .next/\sM λf' o' n' ms' n2' Y=>uQ w.params S A f' o'/\f'=(f&&qs.isEmpty)/\ms'.map (·.2.2.1)=out/\N=wZ w S A a b na nb m bs o' [] n' ms' n2'++(qs.map jW++Y)
theorem p4(hbs:dL b bs)(ha:a.length<=100)(hb:b.length<=100)(out:List R3):∀(fuel:Nat) (qs:List QE) (ms:List MB) (f:Bool) (o:Obj) (n n2:Nat),
  iC (a.map (·.1)) (b.map (·.1)) fuel (qs.map (·.2.1)) (ms.map (·.2.2.1))=some out->uQ w.params S A f o->qs.length+2*fuel<=900->ms.length+fuel<=900->
  ak w mT 110 (ku ew (d5 A.loc)) (wZ w S A a b na nb m bs o qs n ms n2) (HU w S A a b na nb m bs out f qs)
 |fuel,[],ms,f,o,n,n2,hr,ho,hq,hm=>by
  have hr:ms.map (·.2.2.1)=out:=by
   cases fuel<;>exact M2 hr
  have fin:∀o',uQ w.params S A f o'->HU w S A a b na nb m bs out f [] (.ok .next) (wZ w S A a b na nb m bs o' [] n ms n2++[]):=λo' h=>⟨rfl,f,o',n,ms,n2,[],h,by simp,hr,rfl⟩
  have pm:∀o,([(A.loc,o),(A.qu,oL (km []) n)]++(sJ w.params S a b na nb m bs++([(A.bl,oL (bo ms) n2)]++(bs.map dN++ms.map cA)))).Perm (wZ w S A a b na nb m bs o [] n ms n2):=λo=>ae λy=>by exact(aN [_,_,_,_,_,_,_,_,_] [_,_] 0x820821844c144f34b2470450c1 0x820860440850d30513cd2c91c1:)
  cases f with
  |true=>
   obtain⟨kk,rfl⟩:=ho;refine((((HS A.loc S.sm A.qu A.bl kk A.la A.lb A.ta A.tb n w).frame (sJ w.params S a b na nb m bs++([(A.bl,oL (bo ms) n2)]++(bs.map dN++ms.map cA)))).room (by decide)).perm (pm _)).mono ?_;refine fq λch=>?_
   exact⟨_,fin _ ⟨kk,rfl⟩,(pm _).trans (by rw[Mq])⟩
  |false=>
   obtain⟨kk,z1,z2,z3,z4,z5,z6,z7,z8,rfl⟩:=ho;refine((((HT A.loc S.sm A.qu A.bl kk A.la A.lb A.ta A.tb z1 z2 z3 z4 z5 z6 z7 z8 n w).frame (sJ w.params S a b na nb m bs++([(A.bl,oL (bo ms) n2)]++(bs.map dN++ms.map cA)))).room (by decide)).perm (pm _)).mono ?_;refine fq λch=>?_
   exact⟨_,fin _ ⟨kk,z1,z2,z3,z4,z5,z6,z7,z8,rfl⟩,(pm _).trans (by rw[Mq])⟩
 |0,q::qs,ms,f,o,n,n2,hr,ho,hq,hm=>by cases hr
 |fuel+1,q::qs,ms,f,o,n,n2,hr,ho,hq,hm=>by
  obtain⟨r,hp,hr⟩:=Mk.mp (show(mN (a.map (·.1)) (b.map (·.1)) q.2.1.1 q.2.1.2.1 q.2.1.2.2.1 q.2.1.2.2.2).bind (λr=>iC (a.map (·.1)) (b.map (·.1)) fuel (kT q.2.1 r++qs.map (·.2.1)) (bif r.2.2 != 0 then ms.map (·.2.2.1)++[r]else ms.map (·.2.2.1)))=some out from hr);have hql:qs.length<=897:=by simp only[Mg]at hq;omega
  rw[mQ];have p1:((sJ w.params S a b na nb m bs++[(A.loc,o),(A.qu,oL (km qs++[.ref q.1]) n),jW q])++(bs.map dN++([(A.bl,oL (bo ms) n2)]++(qs.map jW++ms.map cA)))).Perm (wZ w S A a b na nb m bs o (q::qs) n ms n2):=ae λy=>by simp only[wZ,Ml,u4];exact(aN [_,_,_,_,_,_,_,_,_,_] [_,_,_] 0x208208819504409344f04d2c91c50c1 0x208220f18409345504d2c91c50c1:)
  refine TR.whileS ((DQ w S A a b na nb m bs hbs ha hb f o ho q (km qs) n (by rw[qK];omega) r hp ([(A.bl,oL (bo ms) n2)]++(qs.map jW++ms.map cA))).perm p1) ?_;rintro _ N ⟨kk,u1,u2,u3,mr,hmr,rfl⟩;have p2:([(A.loc,jw w.params S A kk q r u1 u2 u3 mr.1),(A.qu,oL (km qs) (n+1)),(A.bl,oL (bo ms) n2)]++(sJ w.params S a b na nb m bs++([cA mr,jW q]++(bs.map dN++(qs.map jW++ms.map cA))))).Perm ((sJ w.params S a b na nb m bs++[(A.loc,jw w.params S A kk q r u1 u2 u3 mr.1),(A.qu,oL (km qs) (n+1)),cA mr,jW q])++(bs.map dN++([(A.bl,oL (bo ms) n2)]++(qs.map jW++ms.map cA)))):=ae λy=>by exact(aN [_,_,_,_,_,_,_,_,_,_,_] [_,_,_] 0x820820881845d505344f34b2411c50c1 0x820822060c11021c55d505344f34b241:)
  refine TR.seq1 (((DR w S A kk q r u1 u2 u3 mr.1 (km qs) (bo ms) (n+1) n2 (by rw[qK];omega) (by rw[xN];omega) (sJ w.params S a b na nb m bs++([cA mr,jW q]++(bs.map dN++(qs.map jW++ms.map cA))))).perm p2).mono ?_);rintro _ N ⟨new,n',n2',hnew,rfl⟩;have hnl:new.length<=2:=by rw[<-Mc (f:=(·.2.1)),hnew];exact sb _ _
  have rest:∀(ms':List MB) (X:ah),bo ms'=(bif r.2.2 != 0 then bo ms++[.ref mr.1]else bo ms)->ms'.map (·.2.2.1)=(bif r.2.2 != 0 then ms.map (·.2.2.1)++[r]else ms.map (·.2.2.1))->ms'.length<=ms.length+1->([cA mr]++ms.map cA).Perm (ms'.map cA++X)->
    ak w mT 110 (.whileLoop (aE ew) ((ao ew).take 2++(ao ew).drop 2) (dQ ew) (d5 A.loc)) ([(A.loc,jw w.params S A kk q r u1 u2 u3 mr.1),(A.qu,oL (km qs++km new) n'),(A.bl,oL (bif r.2.2 != 0 then bo ms++[.ref mr.1]else bo ms) n2')]++(new.map jW++(sJ w.params S a b na nb m bs++([cA mr,jW q]++(bs.map dN++(qs.map jW++ms.map cA)))))) (HU w S A a b na nb m bs out f (q::qs)):=by
   intro ms' X e1 e2 e3 e4;have ih:=p4 hbs ha hb out fuel (new++qs) ms' false (jw w.params S A kk q r u1 u2 u3 mr.1) n' n2' (by rw[Mi,hnew,e2];exact hr) ⟨_,_,_,_,_,_,_,_,_,rfl⟩ (by simp only[Mn,Mg]at hq ⊢;omega) (by omega);rw[mQ]at ih;refine((ih.frame (X++[jW q])).perm ?_).mono ?_
   .rw[<-e1,<-yg];refine ae λy=>?_
    (simp only[wZ,Mi];exact(IX [_,_,_,_,_,_,_,_,_,_,_] [_,_,_,_,_,_] 0x209504c08208a08818409344f04d2c91c50c1 0x8208208238811754134b2471430464d13c1 8970 583105 (th e4.symm y):))
   .rintro r2 N ⟨N',⟨rfl,f',o',n3,ms3,n4,Y,g1,g2,g3,rfl⟩,rfl⟩;refine⟨_,⟨rfl,f',o',n3,ms3,n4,new.map jW++(Y++X),g1,by rw[g2];simp,g3,rfl⟩,ae λy=>?_⟩
    (simp only[Mi,Ml];exact(aN [_,_,_,_,_,_,_,_,_,_] [_,_,_,_,_,_] 0x209504e08230228808208604409344f04d2c91c50c1 0x208208e30854a08208604409344f04d2c91c50c1:))
  refine⟨_,?_,.refl _⟩;show ak _ _ _ _ _ _;cases hk:(r.2.2 != 0)with
  |true=>
   have:=rest (ms++[mr]) [] (by rw[hk];simp[bo]) (by rw[hk,cond_true,Mi,<-hmr];rfl) (by simp) (by rw[Mi,Mq];exact Mz);rw[hk]at this;exact this
  |false=>
   have:=rest ms [cA mr] (by rw[hk];rfl) (by rw[hk];rfl) (by omega) Mz;rw[hk]at this;exact this
end
noncomputable abbrev BY:=List MB×(Nat->Tok)×(Value×Value×Value×Value×Value×Value×Value×Value)×Nat×Nat
noncomputable def bx(out:List R3)(u:U):BY:=iv (λs:BY=>s.1.map (·.2.2.1)=out) (out.map λr=>(0,0,r,0,0,0),λ_=>0,(.none,.none,.none,.none,.none,.none,.none,.none),0,0) u
theorem mD(out:List R3)(u:U):(bx out u).1.map (·.2.2.1)=out:=fv (p:=λs:BY=>s.1.map (·.2.2.1)=out) (by rw[MA];exact Od _) u
theorem s5(out:List R3)(s:BY)(hs:s.1.map (·.2.2.1)=out):∃u,bx out u=s:=fS (p:=λs:BY=>s.1.map (·.2.2.1)=out) _ hs
noncomputable def zH(P:Params)(sm sd aa bb bd jk:Addr)(kq:Nat->Tok)(mb op bp:Value)(a b:List Pt)(na nb m:Nat)(bs:List BJ)(loc qu qa bl:Addr)(kk:Nat->Tok)(la lb:Int)(ta tb s1 s2 s3 s4:Tok)(n n2:Nat)(out:List R3):Tr:=
 ⟨[bs.map dN],λ_=>[bs.map dN],λu=>[(bx out u).1.map cA],ku ew (d5 loc),[(sm,oI 364 sd),(sd,aD P kA kq [.none,.ref aa,.ref bb,.bool false,mb,op,.none,.ref bd,.ref jk,bp] 10),(aa,oL (vT a) na),(bb,oL (vT b) nb),(bd,oD (eS P (bs.map b9)) m),(jk,aL (.set ⟨[]⟩ 0 (PySem.SetTable.fresh 0 0 (Bool.not (PySem.Params.followText P "set-order"))))),(loc,frm P d6 kk [.ref sm,.int lb tb,.int la ta,.ref qu,.ref bl] 5),(qu,oL [.ref qa] n),(qa,aj [.int 0 s1,.int la s2,.int 0 s3,.int lb s4]),(bl,oL [] n2)],λ_=>.ok .next,λu=>[oI 364 sd,aD P kA kq [.none,.ref aa,.ref bb,.bool false,mb,op,.none,.ref bd,.ref jk,bp] 10,oL (vT a) na,oL (vT b) nb,oD (eS P (bs.map b9)) m,aL (.set ⟨[]⟩ 0 (PySem.SetTable.fresh 0 0 (Bool.not (PySem.Params.followText P "set-order")))),frm P d6 (bx out u).2.1 [.ref sm,.int lb tb,.int la ta,.ref qu,.ref bl,(bx out u).2.2.1.1,(bx out u).2.2.1.2.1,(bx out u).2.2.1.2.2.1,(bx out u).2.2.1.2.2.2.1,(bx out u).2.2.1.2.2.2.2.1,(bx out u).2.2.1.2.2.2.2.2.1,(bx out u).2.2.1.2.2.2.2.2.2.1,(bx out u).2.2.1.2.2.2.2.2.2.2] 13,oL [] (bx out u).2.2.2.1,aj [.int 0 s1,.int la s2,.int 0 s3,.int lb s4],oL (bo (bx out u).1) (bx out u).2.2.2.2],λ_=>[]⟩
theorem y8(w:World)(sm sd aa bb bd jk:Addr)(kq:Nat->Tok)(mb op bp:Value)(a b:List Pt)(na nb m:Nat)(bs:List BJ)(loc qu qa bl:Addr)(kk:Nat->Tok)(la lb:Int)(ta tb s1 s2 s3 s4:Tok)(n n2:Nat)(out:List R3)(hbs:dL b bs)(ha:a.length<=100)(hb:b.length<=100)
  (hr:iC (a.map (·.1)) (b.map (·.1)) 60 [(0,la,0,lb)] []=some out):af w mT 110 (zH w.params sm sd aa bb bd jk kq mb op bp a b na nb m bs loc qu qa bl kk la lb ta tb s1 s2 s3 s4 n n2 out):=by
 refine ak.tri (λ_=>⟨rfl,rfl⟩) (((p4 w ⟨sm,sd,aa,bb,bd,jk,kq,mb,op,bp⟩ ⟨loc,qu,bl,la,lb,ta,tb⟩ a b na nb m bs hbs ha hb out 60 [(qa,(0,la,0,lb),s1,s2,s3,s4)] [] true _ n n2 hr ⟨kk,rfl⟩ (Mm rfl) (Mm rfl)).perm (ae λy=>by exact(aN [_,_,_,_,_,_,_,_,_,_] [_] 0x208205504409344f04d2c91c50c1 0x208110d2c91c50d34553c1:))).cut (Q':=λr N=>r=.ok .next/\iJ λo' n' ms' n2'=>uQ w.params ⟨sm,sd,aa,bb,bd,jk,kq,mb,op,bp⟩ ⟨loc,qu,bl,la,lb,ta,tb⟩ false o'/\ms'.map (·.2.2.1)=out/\N=wZ w ⟨sm,sd,aa,bb,bd,jk,kq,mb,op,bp⟩ ⟨loc,qu,bl,la,lb,ta,tb⟩ a b na nb m bs o' [] n' ms' n2'++[jW (qa,(0,la,0,lb),s1,s2,s3,s4)]) ?_) ?_
 .rintro r N ⟨rfl,f',o',n',ms',n2',Y,g1,g2,g3,rfl⟩;have g2:f'=false:=g2;subst g2;refine⟨_,Y,⟨rfl,o',n',ms',n2',g1,g3,rfl⟩,?_⟩;rw[Ms];exact .refl _
 .rintro r N ⟨rfl,o',n',ms',n2',⟨kk',z1,z2,z3,z4,z5,z6,z7,z8,rfl⟩,g3,rfl⟩;obtain⟨u,hu⟩:=s5 out (ms',kk',(z1,z2,z3,z4,z5,z6,z7,z8),n',n2') g3;refine⟨u,rfl,ae λy=>?_⟩
  (simp only[zH,hu,wZ,sJ,bO,bP,Na,MU,jW,km,Pu];exact(aN [_,_,_,_,_,_,_,_,_,_] [_,_] 0x254108218409344f04d2c91c50c1 0x208204610204d2c91c50d34553c1:))
section
section
variable(it bl loc sm qu na mx dx:Addr)(kk:Nat->Tok)(la lb:Int)(ta tb:Tok)(z1 z2 z3 z4 z5 z6 z7 z8:Value)(vs us:List Value)(n n2 p:Nat)(i j k:Int)(u1 u2 u3:Tok)(i1 j1 k1:Int)(v1 v2 v3:Tok)
noncomputable def HY(hx:vs[p]?=some (.ref mx))(hu:us.length<=1000)(h1:(i1+k1==i)=true)(h2:(j1+k1==j)=true)(w:World):=
 aT (mT) 90 (λP=>aG iO it (d5 loc))
 (λP=>[(it,aI bl p),(bl,oL vs n),(mx,gs dx i j k u1 u2 u3),(loc,frm P d6 kk [.ref sm,.int lb tb,.int la ta,.ref qu,.ref bl,z1,z2,z3,z4,z5,z6,z7,z8,.int i1 v1,.int j1 v2,.int k1 v3,.ref na] 17),(na,oL us n2)]) (λP=>[])
 0x820208820420208820420208820820820820c28a1ca28228228a28728a08a08a28a1ca28228228a28728a08a08a2820470810411c10411c10411c5105 (λw=>[cH 0 1 hx,qF h1,qF h2])
 [0,1,2,3,4] [] (λP ch=>.ok (.again (aG iO it (d5 loc)))) (λP ch=>[(it,aI bl (p+1)),(bl,oL vs n),(mx,⟨.ref 257,some dx,.seq ⟨[.int i u1,.int j u2,.int k u3]⟩ 0,⟨[]⟩⟩),(loc,frm P d6 (kx kk 17 [nZ ch 4,nZ ch 5,nZ ch 6]) [.ref sm,.int lb tb,.int la ta,.ref qu,.ref bl,z1,z2,z3,z4,z5,z6,z7,z8,.int i1 v1,.int j1 v2,.int (k1+k) (nZ ch 11),.ref na,.int i u1,.int j u2,.int k u3] 20),(na,oL us n2)]) (λP ch=>[]) w
noncomputable def H0(hx:vs[p]?=some (.ref mx))(hu:us.length<=1000)(h1:(i1+k1==i)=false)(h3:(k1 != 0)=false)(w:World):=
 aT (mT) 90 (λP=>aG iO it (d5 loc))
 (λP=>[(it,aI bl p),(bl,oL vs n),(mx,gs dx i j k u1 u2 u3),(loc,frm P d6 kk [.ref sm,.int lb tb,.int la ta,.ref qu,.ref bl,z1,z2,z3,z4,z5,z6,z7,z8,.int i1 v1,.int j1 v2,.int k1 v3,.ref na] 17),(na,oL us n2)]) (λP=>[])
 0x20820820840438438438438e08d08d34d20820420420208820820820820c28a1ca28228228a28728a08a08a28a1ca28228228a28728a08a08a2820470810411c10411c10411c5105 (λw=>[cH 0 1 hx,qF h1,ni h3,bX 9 8,bX 9 8,bX 9 8,f6 9 8])
 [0,1,2,3,4] [] (λP ch=>.ok (.again (aG iO it (d5 loc)))) (λP ch=>[(it,aI bl (p+1)),(bl,oL vs n),(mx,⟨.ref 257,some dx,.seq ⟨[.int i u1,.int j u2,.int k u3]⟩ 0,⟨[]⟩⟩),(loc,frm P d6 (kx kk 17 [nZ ch 4,nZ ch 5,nZ ch 6]) [.ref sm,.int lb tb,.int la ta,.ref qu,.ref bl,z1,z2,z3,z4,z5,z6,z7,z8,.int i u1,.int j u2,.int k u3,.ref na,.int i u1,.int j u2,.int k u3] 20),(na,oL us n2)]) (λP ch=>[]) w
noncomputable def HZ(hx:vs[p]?=some (.ref mx))(hu:us.length<=1000)(y1 y2 y3:Value)(h1:(i1+k1==i)=false)(h3:(k1 != 0)=true)(w:World):=
 aT (mT) 90 (λP=>aG iO it (d5 loc))
 (λP=>[(it,aI bl p),(bl,oL vs n),(mx,gs dx i j k u1 u2 u3),(loc,frm P d6 kk [.ref sm,.int lb tb,.int la ta,.ref qu,.ref bl,z1,z2,z3,z4,z5,z6,z7,z8,.int i1 v1,.int j1 v2,.int k1 v3,.ref na,y1,y2,y3] 20),(na,oL us n2)]) (λP=>[])
 0x820820821110f10f10f10f3c238238e38820810820824924920420420208820820820820c28a1ca28228228a28728a08a08a28a1ca28228228a28728a08a08a2820470810411c10411c10411c5105 (λw=>[cH 0 1 hx,qF h1,ni h3,dF 4 (vs:=us) (by omega),bX 10 9,bX 10 9,bX 10 9,f6 10 9])
 [0,1,2,3,4,8] [] (λP ch=>.ok (.again (aG iO it (d5 loc)))) (λP ch=>[(it,aI bl (p+1)),(bl,oL vs n),(mx,⟨.ref 257,some dx,.seq ⟨[.int i u1,.int j u2,.int k u3]⟩ 0,⟨[]⟩⟩),(loc,frm P d6 kk [.ref sm,.int lb tb,.int la ta,.ref qu,.ref bl,z1,z2,z3,z4,z5,z6,z7,z8,.int i u1,.int j u2,.int k u3,.ref na,.int i u1,.int j u2,.int k u3] 20),(na,oL (us++[.ref (aZ ch 10)]) (n2+1)),(aZ ch 10,aj [.int i1 v1,.int j1 v2,.int k1 v3])]) (λP ch=>[]) w
noncomputable def KK(hx:vs[p]?=none)(w:World):=
 cY (mT) 90 (λP=>aG iO it (d5 loc))
 (λP=>[(it,aI bl p),(bl,oL vs n)]) (λP=>[])
 35668290 (λw=>[nq 0 1 hx])
 [0,1] [] (λP ch=>(.ok .next)) (λP ch=>[(it,ar p),(bl,oL vs n)]) (λP ch=>[]) w
end
end
noncomputable def gj(first:Bool)(s r:R3):Option (R3×List R3):=match first with
 |true=>bif (s.1+s.2.2==r.1)&&(s.2.1+s.2.2==r.2.1)then some ((s.1,s.2.1,s.2.2+r.2.2),[])else bif !(s.1+s.2.2==r.1)&& !(s.2.2 != 0)then some (r,[])else none
 |false=>bif !(s.1+s.2.2==r.1)&&(s.2.2 != 0)then some (r,[s])else none
noncomputable def iD:Bool->List R3->R3->List R3->Option (R3×List R3)
 |_,[],s,l=>some (s,l)
 |f,r::rs,s,l=>(gj f s r).bind λq=>iD false rs q.1 (l++q.2)
noncomputable abbrev NE:=Addr×R3×Tok×Tok×Tok
noncomputable def mn(r:NE):Addr×Obj:=(r.1,aj [.int r.2.1.1 r.2.2.1,.int r.2.1.2.1 r.2.2.2.1,.int r.2.1.2.2 r.2.2.2.2])
noncomputable def iH(l:List NE):List Value:=l.map λr=>.ref r.1
theorem m0{ms:List MB}{j:Nat}{r:MB}(h:ms[j]?=some r):ms.map cA=(ms.take j).map cA++cA r::(ms.drop (j+1)).map cA:=by
 obtain⟨hl,e⟩:=Mj.mp h;rw[<-Ml,<-Mi,<-e,<-Oj hl,Ng]
theorem oJ{f:Bool}{s r s':R3}{new:List R3}(h:gj f s r=some (s',new)):new.length<=1:=by
 unfold gj at h;cases f with
 |true=>
  simp only at h;cases hb:((s.1+s.2.2==r.1)&&(s.2.1+s.2.2==r.2.1))with
  |true=>
   rw[hb]at h;cases h;exact Nt _
  |false=>
   rw[hb]at h;cases hc:(!(s.1+s.2.2==r.1)&& !(s.2.2 != 0))with
   |true=>
    rw[hc]at h;cases h;exact Nt _
   |false=>
    rw[hc]at h;cases h
 |false=>
  simp only at h;cases hc:(!(s.1+s.2.2==r.1)&&(s.2.2 != 0))with
  |true=>
   rw[hc]at h;cases h;exact Me _
  |false=>
   rw[hc]at h;cases h
structure NA where
 it:Addr
 bl:Addr
 loc:Addr
 sm:Addr
 qu:Addr
 na:Addr
 la:Int
 lb:Int
 ta:Tok
 tb:Tok
 z:Value×Value×Value×Value×Value×Value×Value×Value
noncomputable def HX(P:Params)(A:NA)(kk:Nat->Tok)(s:R3)(v1 v2 v3:Tok):Obj:=
 frm P d6 kk [.ref A.sm,.int A.lb A.tb,.int A.la A.ta,.ref A.qu,.ref A.bl,A.z.1,A.z.2.1,A.z.2.2.1,A.z.2.2.2.1,A.z.2.2.2.2.1,A.z.2.2.2.2.2.1,A.z.2.2.2.2.2.2.1,A.z.2.2.2.2.2.2.2,.int s.1 v1,.int s.2.1 v2,.int s.2.2 v3,.ref A.na] 17
noncomputable def rA(P:Params)(A:NA)(kk:Nat->Tok)(s:R3)(v1 v2 v3:Tok)(y1 y2 y3:Value):Obj:=
 frm P d6 kk [.ref A.sm,.int A.lb A.tb,.int A.la A.ta,.ref A.qu,.ref A.bl,A.z.1,A.z.2.1,A.z.2.2.1,A.z.2.2.2.1,A.z.2.2.2.2.1,A.z.2.2.2.2.2.1,A.z.2.2.2.2.2.2.1,A.z.2.2.2.2.2.2.2,.int s.1 v1,.int s.2.1 v2,.int s.2.2 v3,.ref A.na,y1,y2,y3] 20
noncomputable def x6(P:Params)(A:NA)(f:Bool)(s:R3)(o:Obj):Prop:=match f with
 |true=>iJ λkk v1 v2 v3=>o=HX P A kk s v1 v2 v3
 |false=>F2 λkk v1 v2 v3 y1 y2 y3=>o=rA P A kk s v1 v2 v3 y1 y2 y3
noncomputable def BR(A:NA)(ms:List MB)(n p:Nat)(o:Obj)(nes:List NE)(n2:Nat):ah:=
 [(A.it,aI A.bl p),(A.bl,oL (bo ms) n),(A.loc,o),(A.na,oL (iH nes) n2)]++(ms.map cA++nes.map mn)
section
variable(w:World)(A:NA)(ms:List MB)(n:Nat)
theorem w5(Q:Result->ah->Prop)(p:Nat)(f:Bool)(s s':R3)(new:List R3)(r:MB)(o:Obj)(nes:List NE)(n2:Nat)(hx:ms[p]?=some r)(hs:gj f s r.2.2.1=some (s',new))(ho:x6 w.params A f s o)(hl:nes.length<=1000)
  (k:∀o' nes' n2',x6 w.params A false s' o'->nes'.map (·.2.1)=nes.map (·.2.1)++new->ak w mT 90 (aG iO A.it (d5 A.loc)) (BR A ms n (p+1) o' nes' n2') Q):
  ak w mT 90 (aG iO A.it (d5 A.loc)) (BR A ms n p o nes n2) Q:=by
 have hx':(bo ms)[p]?=some (.ref r.1):=by unfold bo;rw[Mf,hx];rfl
 have hM:=m0 hx;have hu:(iH nes).length<=1000:=by unfold iH;rw[Mc];exact hl
 generalize hP:(ms.take p).map cA=Pm at hM;generalize hS:(ms.drop (p+1)).map cA=Sm at hM;obtain⟨mx,dx,⟨i,j,q⟩,u1,u2,u3⟩:=r;obtain⟨i1,j1,k1⟩:=s;have hr:cA (mx,dx,(i,j,q),u1,u2,u3)=(mx,gs dx i j q u1 u2 u3):=rfl;rw[hr]at hM;have pm:∀o nes n2 p,([(A.it,aI A.bl p),(A.bl,oL (bo ms) n),(mx,gs dx i j q u1 u2 u3),(A.loc,o),(A.na,oL (iH nes) n2)]++(Pm++(Sm++nes.map mn))).Perm (BR A ms n p o nes n2):=λo nes n2 p=>ae λy=>by simp only[BR,hM];exact(aN [_,_,_,_,_] [_,_,_] 0x820881842c91c50c1 0x822021c610b2450c1:)
 cases f with
 |true=>
  obtain⟨kk,v1,v2,v3,rfl⟩:=ho;simp only[gj]at hs;cases h1:(i1+k1==i)with
  |true=>
   cases h2:(j1+k1==j)with
   |false=>rw[h1,h2]at hs;cases hs
   |true=>
    rw[h1,h2]at hs;simp only[Bool.and_self,cond_true]at hs;cases hs;refine(bH.st (F:=Pm++(Sm++nes.map mn)) (HY A.it A.bl A.loc A.sm A.qu A.na mx dx kk A.la A.lb A.ta A.tb A.z.1 A.z.2.1 A.z.2.2.1 A.z.2.2.2.1 A.z.2.2.2.2.1 A.z.2.2.2.2.2.1 A.z.2.2.2.2.2.2.1 A.z.2.2.2.2.2.2.2 (bo ms) (iH nes) n n2 p i j q u1 u2 u3 i1 j1 k1 v1 v2 v3 hx' hu h1 h2 w) (Me _) λch=>?_).perm (pm _ _ _ _);exact(k (rA w.params A (kx kk 17 [nZ ch 4,nZ ch 5,nZ ch 6]) (i1,j1,k1+q) v1 v2 (nZ ch 11) (.int i u1) (.int j u2) (.int q u3)) nes n2 ⟨_,_,_,_,_,_,_,rfl⟩ (Mq _).symm).perm (pm _ _ _ _).symm
  |false=>
   rw[h1]at hs;simp only[Bool.false_and,cond_false,PT,Bool.true_and]at hs;cases h3:(k1 != 0)with
   |true=>rw[h3]at hs;cases hs
   |false=>
    rw[h3]at hs;cases hs;refine(bH.st (F:=Pm++(Sm++nes.map mn)) (H0 A.it A.bl A.loc A.sm A.qu A.na mx dx kk A.la A.lb A.ta A.tb A.z.1 A.z.2.1 A.z.2.2.1 A.z.2.2.2.1 A.z.2.2.2.2.1 A.z.2.2.2.2.2.1 A.z.2.2.2.2.2.2.1 A.z.2.2.2.2.2.2.2 (bo ms) (iH nes) n n2 p i j q u1 u2 u3 i1 j1 k1 v1 v2 v3 hx' hu h1 h3 w) (Me _) λch=>?_).perm (pm _ _ _ _);exact(k (rA w.params A (kx kk 17 [nZ ch 4,nZ ch 5,nZ ch 6]) (i,j,q) u1 u2 u3 (.int i u1) (.int j u2) (.int q u3)) nes n2 ⟨_,_,_,_,_,_,_,rfl⟩ (Mq _).symm).perm (pm _ _ _ _).symm
 |false=>
  obtain⟨kk,v1,v2,v3,y1,y2,y3,rfl⟩:=ho;simp only[gj]at hs;cases h1:(i1+k1==i)with
  |true=>rw[h1]at hs;cases hs
  |false=>
   rw[h1]at hs;cases h3:(k1 != 0)with
   |false=>rw[h3]at hs;cases hs
   |true=>
    rw[h3]at hs;cases hs;refine(bH.st (F:=Pm++(Sm++nes.map mn)) (HZ A.it A.bl A.loc A.sm A.qu A.na mx dx kk A.la A.lb A.ta A.tb A.z.1 A.z.2.1 A.z.2.2.1 A.z.2.2.2.1 A.z.2.2.2.2.1 A.z.2.2.2.2.2.1 A.z.2.2.2.2.2.2.1 A.z.2.2.2.2.2.2.2 (bo ms) (iH nes) n n2 p i j q u1 u2 u3 i1 j1 k1 v1 v2 v3 hx' hu y1 y2 y3 h1 h3 w) (Me _) λch=>?_).perm (pm _ _ _ _);refine(k (rA w.params A kk (i,j,q) u1 u2 u3 (.int i u1) (.int j u2) (.int q u3)) (nes++[(aZ ch 10,(i1,j1,k1),v1,v2,v3)]) (n2+1) ⟨_,_,_,_,_,_,_,rfl⟩ (by rw[Mi];rfl)).perm ?_;refine(pm _ _ _ _).symm.trans (ae λy=>?_);rw[show iH (nes++[(aZ ch 10,(i1,j1,k1),v1,v2,v3)])=iH nes++[.ref (aZ ch 10)]from Mi]
    (simp only[Mi,Ml,Na,mn,rA,gs];exact(aN [_,_,_,_,_,_] [_,_,_] 0x208208d0481842c91c50c1 0x208220610b247143341:))
noncomputable def KJ(s':R3)(out:List R3)(f:Bool)(r:Result)(N:ah):Prop:=r=.ok .next/\yA λf' o' p' nes' n2'=>x6 w.params A f' s' o'/\f'=(f&&ms.isEmpty)/\nes'.map (·.2.1)=out/\N=[(A.it,ar p'),(A.bl,oL (bo ms) n),(A.loc,o'),(A.na,oL (iH nes') n2')]++(ms.map cA++nes'.map mn)
theorem p5(hms:ms.length<=400)(s':R3)(out:List R3):∀(rest:List MB) (p:Nat) (f:Bool) (s:R3) (o:Obj) (nes:List NE) (n2:Nat),ms.drop p=rest->iD f (rest.map (·.2.2.1)) s (nes.map (·.2.1))=some (s',out)->x6 w.params A f s o->(f=true->p=0)->nes.length<=p->
  ak w mT 90 (aG iO A.it (d5 A.loc)) (BR A ms n p o nes n2) (KJ w A ms n s' out f)
 |[],p,f,s,o,nes,n2,hd,hr,ho,hf,hl=>by
  have hr:=M2 hr;have e1:s=s':=congrArg Prod.fst hr;have e2:nes.map (·.2.1)=out:=congrArg Prod.snd hr;subst e1 e2;have hp:(bo ms)[p]?=none:=by
   unfold bo;rw[Mf,Nh (OQ.mp hd)];rfl
  have hff:f=(f&&ms.isEmpty):=by
   cases f with
   |false=>rfl
   |true=>
    have:=hf rfl;subst this;have:ms=[]:=hd;subst this;rfl
  refine(((KK A.it A.bl A.loc (bo ms) n p hp w).frame ([(A.loc,o),(A.na,oL (iH nes) n2)]++(ms.map cA++nes.map mn))).perm (M':=BR A ms n p o nes n2) (.refl _)).mono ?_;refine fq λch=>?_
  exact⟨_,⟨rfl,f,o,p,nes,n2,ho,hff,rfl,rfl⟩,.refl _⟩
 |x::rest,p,f,s,o,nes,n2,hd,hr,ho,hf,hl=>by
  obtain⟨h1,h2⟩:=eQ hd;obtain⟨⟨s1,new⟩,hs,hr⟩:=Mk.mp (show(gj f s x.2.2.1).bind (λq=>iD false (rest.map (·.2.2.1)) q.1 (nes.map (·.2.1)++q.2))=some _ from hr);have hpl:p<ms.length:=(Mj.mp h1).1;refine w5 w A ms n _ p f s s1 new x o nes n2 h1 hs ho (by omega) λo' nes' n2' g1 g2=>?_
  have hnl:new.length<=1:=oJ hs;have hln:nes'.length<=p+1:=by
   rw[<-Mc (f:=(·.2.1)),g2,Mn,Mc];omega
  refine(p5 hms s' out rest (p+1) false s1 o' nes' n2' h2 (by rw[g2];exact hr) g1 (λh=>by cases h) hln).mono ?_;rintro r N ⟨rfl,f',o2,p2,nes2,n3,q1,q2,q3,rfl⟩;refine⟨_,⟨rfl,f',o2,p2,nes2,n3,q1,?_,q3,rfl⟩,.refl _⟩;rw[q2];cases ms with
  |nil=>simp at hpl
  |cons m ms=>simp
end
noncomputable abbrev NU:=List NE×(Nat->Tok)×(Tok×Tok×Tok)×(Value×Value×Value)×Nat×Nat
noncomputable def cg(out:List R3)(u:U):NU:=iv (λs:NU=>s.1.map (·.2.1)=out) (out.map λr=>(0,r,0,0,0),λ_=>0,(0,0,0),(.none,.none,.none),0,0) u
theorem m4(out:List R3)(u:U):(cg out u).1.map (·.2.1)=out:=fv (p:=λs:NU=>s.1.map (·.2.1)=out) (by rw[MA];exact Od _) u
theorem uF(out:List R3)(s:NU)(hs:s.1.map (·.2.1)=out):∃u,cg out u=s:=fS (p:=λs:NU=>s.1.map (·.2.1)=out) _ hs
noncomputable def vy(P:Params)(it bl loc sm qu na:Addr)(kk:Nat->Tok)(la lb:Int)(ta tb:Tok)(z1 z2 z3 z4 z5 z6 z7 z8:Value)(v1 v2 v3:Tok)(ms:List MB)(n n2:Nat)(s:R3)(out:List R3):Tr:=
 ⟨[ms.map cA],λ_=>[ms.map cA],λu=>[(cg out u).1.map mn],aG iO it (d5 loc),[(it,aI bl 0),(bl,oL (bo ms) n),(loc,frm P d6 kk [.ref sm,.int lb tb,.int la ta,.ref qu,.ref bl,z1,z2,z3,z4,z5,z6,z7,z8,.int 0 v1,.int 0 v2,.int 0 v3,.ref na] 17),(na,oL [] n2)],λ_=>.ok .next,λu=>[ar (cg out u).2.2.2.2.1,oL (bo ms) n,frm P d6 (cg out u).2.1 [.ref sm,.int lb tb,.int la ta,.ref qu,.ref bl,z1,z2,z3,z4,z5,z6,z7,z8,.int s.1 (cg out u).2.2.1.1,.int s.2.1 (cg out u).2.2.1.2.1,.int s.2.2 (cg out u).2.2.1.2.2,.ref na,(cg out u).2.2.2.1.1,(cg out u).2.2.2.1.2.1,(cg out u).2.2.2.1.2.2] 20,oL (iH (cg out u).1) (cg out u).2.2.2.2.2],λ_=>[]⟩
theorem Eb(w:World)(it bl loc sm qu na:Addr)(kk:Nat->Tok)(la lb:Int)(ta tb:Tok)(z1 z2 z3 z4 z5 z6 z7 z8:Value)(v1 v2 v3:Tok)(ms:List MB)(n n2:Nat)(s:R3)(out:List R3)(h1:1<=ms.length)(hms:ms.length<=400)(hr:iD true (ms.map (·.2.2.1)) (0,0,0) []=some (s,out)):af w mT 90 (vy w.params it bl loc sm qu na kk la lb ta tb z1 z2 z3 z4 z5 z6 z7 z8 v1 v2 v3 ms n n2 s out):=by
 refine ak.tri (λ_=>⟨rfl,rfl⟩) ((p5 w ⟨it,bl,loc,sm,qu,na,la,lb,ta,tb,z1,z2,z3,z4,z5,z6,z7,z8⟩ ms n hms s out ms 0 true (0,0,0) _ [] n2 rfl hr ⟨kk,v1,v2,v3,rfl⟩ (λ_=>rfl) (Me _)).perm (ae λy=>by exact(aN [_,_,_,_] [_] 571819213738177 571819213738177:))) ?_;rintro r N ⟨rfl,f',o',p',nes',n2',ho,hf,g3,rfl⟩;have:f'=false:=by
  rw[hf];cases ms with
  |nil=>exact absurd h1 (by decide)
  |cons m ms=>rfl
 subst this;obtain⟨kk',w1,w2,w3,y1,y2,y3,rfl⟩:=ho;obtain⟨u,hu⟩:=uF out (nes',kk',(w1,w2,w3),(y1,y2,y3),p',n2') g3;refine⟨u,rfl,ae λy=>?_⟩;simp only[vy,hu,rA,bO,bP,eA,eJ,jg,s8,Nx,MN,M9,Mq]
noncomputable def zA(a:Value):Tr:=⟨[],λ_=>[],λ_=>[],.call (.builtin "list.__new__") ⟨[.type "list",a],[]⟩,[],λx=>.ok (.ret (.ref (x.n 0+ab))),λ_=>[],λx=>[(x.n 0+ab,oL [] 0)]⟩
theorem ub{w:World}{hb:Md}{lv:Nat}(a:Value):af w hb lv (zA a):=by
 refine⟨λMt os G A s R hA C H=>?_,λ_=>⟨rfl,rfl⟩⟩;have e0:s.heap.objs.size-ab+ab=s.heap.objs.size:=MJ (cC G C);refine codeAny_mono (code_list_new (prog:=pw) (w:=w) (A:=A) (E:=λ_ _=>False) (s:=s) a (Q₁:=λv s'=>R (.ok (.ret v)) s') ?_) λr s1 h=>?_
 .have:=H (uN (s.heap.objs.size-ab)) _ (C.alloc (o:=oL [] 0) rfl |> λC2=>by
   show am Mt os ([]++[(s.heap.objs.size-ab+ab,oL [] 0)]) _;rw[e0];exact C2)
  simp only[zA,uN,e0]at this;exact this
 .cases r with
  |error e=>exact h.elim
  |ok f=>
   cases f with
   |ret v=>exact h
   |_=>exact h.elim
noncomputable abbrev ey(tu me:Addr):Obj:={cls:=.type "map",data:=.fields #[.ref tu,.ref me]}
noncomputable abbrev rZ:Obj:={cls:=.type "method",data:=.fields #[.ref 211,.ref 257]}
noncomputable def BP(l mp:Addr):Code:=.builtin "list.extend.loop" ⟨[.ref l,.ref mp,.none],[]⟩
section
section
variable(l mp tu me li na:Addr)(n m:Nat)(a0 a1:Addr)(i0 j0 k0 i1 j1 k1:Int)(x0 y0 z0 x1 y1 z1:Tok)(w:World)
noncomputable def KP:=
 aq (mT) 40 (λP=>PySem.W.Fast.tw8711993805878244202 (.ref mp))
 (λP=>[(mp,ey tu me)]) (λP=>[])
 5403582789 (λw=>[])
 [0] [] (λP ch=>.ok (.ref mp)) (λP ch=>[(mp,⟨.type "map",none,.fields ⟨[.ref tu,.ref me]⟩,⟨[]⟩⟩)]) (λP ch=>[]) w
noncomputable def KO:=
 aq (mT) 40 (λP=>PySem.W.Fast.tw15112759502256325868 (.ref mp))
 (λP=>[(mp,ey tu me)]) (λP=>[])
 325 (λw=>[])
 [0] [] (λP ch=>.ok true) (λP ch=>[(mp,⟨.type "map",none,.fields ⟨[.ref tu,.ref me]⟩,⟨[]⟩⟩)]) (λP ch=>[]) w
noncomputable def KZ:=
 cY (mT) 90 (λP=>BP l mp)
 (λP=>[(l,oL [] n),(mp,ey tu me),(tu,aj [.ref li]),(me,rZ),(li,aI na 0),(na,oL [.ref a0] m),(a0,aj [.int i0 x0,.int j0 y0,.int k0 z0])]) (λP=>[])
 0x44424718218218214514c10f0813c204104f08230104c30134408104104104104108104104104230c08204108c30c303202184247182182182 (λw=>[qG 4 5,rF 0 [8,6] [] λhh=>bC (aZ hh 6) a0 [] [.int i0 x0,.int j0 y0,.int k0 z0] 0 (by simp),ph,Bm 4 5])
 [0,1,2,3,4,5,6,10] [] (λP ch=>(.ok (.ret .none))) (λP ch=>[(l,oL [.ref (aZ ch 9)] (n+1)),(mp,⟨.type "map",none,.fields ⟨[.ref tu,.ref me]⟩,⟨[]⟩⟩),(tu,aj [.ref li]),(me,⟨.type "method",none,.fields ⟨[.ref 211,.ref 257]⟩,⟨[]⟩⟩),(li,ar 1),(na,oL [.ref a0] m),(a0,aj [.int i0 x0,.int j0 y0,.int k0 z0]),(aZ ch 9,⟨.ref 257,some (aZ ch 8),.seq ⟨[.int i0 x0,.int j0 y0,.int k0 z0]⟩ 0,⟨[]⟩⟩)]) (λP ch=>[]) w
noncomputable def K0:=
 cY (mT) 90 (λP=>BP l mp)
 (λP=>[(l,oL [] n),(mp,ey tu me),(tu,aj [.ref li]),(me,rZ),(li,aI na 0),(na,oL [.ref a0,.ref a1] m),(a0,aj [.int i0 x0,.int j0 y0,.int k0 z0]),(a1,aj [.int i1 x1,.int j1 y1,.int k1 z1])]) (λP=>[])
 0x58424718218218214515111408150204105408244105144148408104104104104108104104104245108204109145144320218424718218218214514d11008140204105008234104d34138408104104104104108104104104234d08204108d34d343202184247182182182 (λw=>[qG 4 5,rF 0 [9,6] [] λhh=>bC (aZ hh 6) a0 [] [.int i0 x0,.int j0 y0,.int k0 z0] 0 (by simp),ph,qG 4 5,rF 0 [13,7] [] λhh=>bC (aZ hh 21) a1 [] [.int i1 x1,.int j1 y1,.int k1 z1] 0 (by simp),ph,Bm 4 5])
 [0,1,2,3,4,5,6,7,11,15] [] (λP ch=>(.ok (.ret .none))) (λP ch=>[(l,oL [.ref (aZ ch 9),.ref (aZ ch 24)] (n+2)),(mp,⟨.type "map",none,.fields ⟨[.ref tu,.ref me]⟩,⟨[]⟩⟩),(tu,aj [.ref li]),(me,⟨.type "method",none,.fields ⟨[.ref 211,.ref 257]⟩,⟨[]⟩⟩),(li,ar 2),(na,oL [.ref a0,.ref a1] m),(a0,aj [.int i0 x0,.int j0 y0,.int k0 z0]),(a1,aj [.int i1 x1,.int j1 y1,.int k1 z1]),(aZ ch 9,⟨.ref 257,some (aZ ch 8),.seq ⟨[.int i0 x0,.int j0 y0,.int k0 z0]⟩ 0,⟨[]⟩⟩),(aZ ch 24,⟨.ref 257,some (aZ ch 23),.seq ⟨[.int i1 x1,.int j1 y1,.int k1 z1]⟩ 0,⟨[]⟩⟩)]) (λP ch=>[]) w
noncomputable def K1(a2:Addr)(i0 j0 k0 i1 j1 k1 i2 j2 k2:Int)(x0 y0 z0 x1 y1 z1 x2 y2 z2:Tok)(w:World):=
 cY (mT) 90 (λP=>BP l mp)
 (λP=>[(l,oL [] n),(mp,ey tu me),(tu,aj [.ref li]),(me,rZ),(li,aI na 0),(na,oL [.ref a0,.ref a1,.ref a2] m),(a0,aj [.int i0 x0,.int j0 y0,.int k0 z0]),(a1,aj [.int i1 x1,.int j1 y1,.int k1 z1]),(a2,aj [.int i2 x2,.int j2 y2,.int k2 z2])]) (λP=>[])
 0x6c42471821821821451561190816420410590825810565815c40810410410410410810410410425960820410965965832021842471821821821451521150815420410550824810524814c408104104104104108104104104249208204109249248320218424718218218214514e11108144204105108238104e3813c408104104104104108104104104238e08204108e38e383202184247182182182 (λw=>[qG 4 5,rF 0 [10,6] [] λhh=>bC (aZ hh 6) a0 [] [.int i0 x0,.int j0 y0,.int k0 z0] 0 (by simp),ph,qG 4 5,rF 0 [14,7] [] λhh=>bC (aZ hh 21) a1 [] [.int i1 x1,.int j1 y1,.int k1 z1] 0 (by simp),ph,qG 4 5,rF 0 [18,8] [] λhh=>bC (aZ hh 36) a2 [] [.int i2 x2,.int j2 y2,.int k2 z2] 0 (by simp),ph,Bm 4 5])
 [0,1,2,3,4,5,6,7,8,12,16,20] [] (λP ch=>(.ok (.ret .none))) (λP ch=>[(l,oL [.ref (aZ ch 9),.ref (aZ ch 24),.ref (aZ ch 39)] (n+3)),(mp,⟨.type "map",none,.fields ⟨[.ref tu,.ref me]⟩,⟨[]⟩⟩),(tu,aj [.ref li]),(me,⟨.type "method",none,.fields ⟨[.ref 211,.ref 257]⟩,⟨[]⟩⟩),(li,ar 3),(na,oL [.ref a0,.ref a1,.ref a2] m),(a0,aj [.int i0 x0,.int j0 y0,.int k0 z0]),(a1,aj [.int i1 x1,.int j1 y1,.int k1 z1]),(a2,aj [.int i2 x2,.int j2 y2,.int k2 z2]),(aZ ch 9,⟨.ref 257,some (aZ ch 8),.seq ⟨[.int i0 x0,.int j0 y0,.int k0 z0]⟩ 0,⟨[]⟩⟩),(aZ ch 24,⟨.ref 257,some (aZ ch 23),.seq ⟨[.int i1 x1,.int j1 y1,.int k1 z1]⟩ 0,⟨[]⟩⟩),(aZ ch 39,⟨.ref 257,some (aZ ch 38),.seq ⟨[.int i2 x2,.int j2 y2,.int k2 z2]⟩ 0,⟨[]⟩⟩)]) (λP ch=>[]) w
noncomputable def K2(a2 a3:Addr)(i0 j0 k0 i1 j1 k1 i2 j2 k2 i3 j3 k3:Int)(x0 y0 z0 x1 y1 z1 x2 y2 z2 x3 y3 z3:Tok)(w:World):=
 cY (mT) 90 (λP=>BP l mp)
 (λP=>[(l,oL [] n),(mp,ey tu me),(tu,aj [.ref li]),(me,rZ),(li,aI na 0),(na,oL [.ref a0,.ref a1,.ref a2,.ref a3] m),(a0,aj [.int i0 x0,.int j0 y0,.int k0 z0]),(a1,aj [.int i1 x1,.int j1 y1,.int k1 z1]),(a2,aj [.int i2 x2,.int j2 y2,.int k2 z2]),(a3,aj [.int i3 x3,.int j3 y3,.int k3 z3])]) (λP=>[])
 0x80424718218218214515b11e08178204105e0826c105b6c17040810410410410410810410410426db08204109b6db6c320218424718218218214515711a08168204105a0825c10575c16040810410410410410810410410425d70820410975d75c32021842471821821821451531160815820410560824c10534c15040810410410410410810410410424d30820410934d34c320218424718218218214514f1120814820410520823c104f3c14040810410410410410810410410423cf08204108f3cf3c3202184247182182182 (λw=>[qG 4 5,rF 0 [11,6] [] λhh=>bC (aZ hh 6) a0 [] [.int i0 x0,.int j0 y0,.int k0 z0] 0 (by simp),ph,qG 4 5,rF 0 [15,7] [] λhh=>bC (aZ hh 21) a1 [] [.int i1 x1,.int j1 y1,.int k1 z1] 0 (by simp),ph,qG 4 5,rF 0 [19,8] [] λhh=>bC (aZ hh 36) a2 [] [.int i2 x2,.int j2 y2,.int k2 z2] 0 (by simp),ph,qG 4 5,rF 0 [23,9] [] λhh=>bC (aZ hh 51) a3 [] [.int i3 x3,.int j3 y3,.int k3 z3] 0 (by simp),ph,Bm 4 5])
 [0,1,2,3,4,5,6,7,8,9,13,17,21,25] [] (λP ch=>(.ok (.ret .none))) (λP ch=>[(l,oL [.ref (aZ ch 9),.ref (aZ ch 24),.ref (aZ ch 39),.ref (aZ ch 54)] (n+4)),(mp,⟨.type "map",none,.fields ⟨[.ref tu,.ref me]⟩,⟨[]⟩⟩),(tu,aj [.ref li]),(me,⟨.type "method",none,.fields ⟨[.ref 211,.ref 257]⟩,⟨[]⟩⟩),(li,ar 4),(na,oL [.ref a0,.ref a1,.ref a2,.ref a3] m),(a0,aj [.int i0 x0,.int j0 y0,.int k0 z0]),(a1,aj [.int i1 x1,.int j1 y1,.int k1 z1]),(a2,aj [.int i2 x2,.int j2 y2,.int k2 z2]),(a3,aj [.int i3 x3,.int j3 y3,.int k3 z3]),(aZ ch 9,⟨.ref 257,some (aZ ch 8),.seq ⟨[.int i0 x0,.int j0 y0,.int k0 z0]⟩ 0,⟨[]⟩⟩),(aZ ch 24,⟨.ref 257,some (aZ ch 23),.seq ⟨[.int i1 x1,.int j1 y1,.int k1 z1]⟩ 0,⟨[]⟩⟩),(aZ ch 39,⟨.ref 257,some (aZ ch 38),.seq ⟨[.int i2 x2,.int j2 y2,.int k2 z2]⟩ 0,⟨[]⟩⟩),(aZ ch 54,⟨.ref 257,some (aZ ch 53),.seq ⟨[.int i3 x3,.int j3 y3,.int k3 z3]⟩ 0,⟨[]⟩⟩)]) (λP ch=>[]) w
end
end
theorem ak.linit{w:World}{l mp tu me:Addr}{n:Nat}{F:ah}{Q:Result->ah->Prop}(h:∀n',ak w mT 90 (BP l mp) ([(l,oL [] n'),(mp,ey tu me)]++F) Q):ak w mT 91 (.builtin "list.__init__" ⟨[.ref l,.ref mp],[]⟩) ([(l,oL [] n),(mp,ey tu me)]++F) Q:=λMt os G A s R hA C H=>by
 have hl:=(C.own (l,oL [] n) (.head _)).1;have nd:=C.nd;have hne:l≠mp:=by
  intro q;subst q;simp at nd
 refine Nf PySem.F.entry_list_init ?_;rw[MV (by decide+kernel:plainId "list.__init__"=true)];show wpAny _ A.in1 (do
  let old <-Builtin.List.listItems (.ref l)
  Builtin.List.listUpdate (.ref l) λ_=> #[]
  letGo old.toList.reverse
  Builtin.List.listExtendWith (.ref l) (.ref mp) .none) _ _ s
 refine on (listItems_at hl rfl ?_);refine on (Ou hl rfl ?_ (Nt _) (Nt _));refine on (Qp ?_);have C1:=C.update (i:=0) (p:=(l,oL [] n)) rfl (f:=Obj.mapSeq λ_=> #[]) rfl;have C1:am Mt os ([(l,oL [] n),(mp,ey tu me)]++F) {s with heap:=s.heap.update l (Obj.mapSeq λ_=> #[])}:=C1;generalize({s with heap:=s.heap.update l (Obj.mapSeq λ_=> #[])}:Shared)=s1 at C1 ⊢;have hm:=(C1.own (mp,ey tu me) (.tail _ (.head _))).1;unfold Builtin.List.listExtendWith;refine on (QV hm ?_);have hs:Builtin.List.listSameRef (.ref l) (.ref mp)=false:=by
  show(l==mp)=false;exact beq_eq_false_iff_ne.mpr hne
 rw[if_neg (by rw[hs];exact(show ¬((false||(Value.type "map"==Value.type "list")||(Value.type "map"==Value.type "tuple"))=true)from by decide))];have hA1:b0 mT 90 A.in1:=b0.in1 hA;have qH:([(l,oL [] n),(mp,ey tu me)]++F).Perm ([(mp,ey tu me)]++((l,oL [] n)::F)):=.swap _ _ _;have hA40:b0 mT 40 A.in1:=hA1.mono (by decide);refine on ?_;rw[Pa];refine M6 (((KP mp tu me w).tr (hb:=mT) (F:=(l,oL [] n)::F) (Me _) λ_=>rfl) Mt os G A.in1 s1 _ hA40 (C1.perm qH) λr N s2 hq C2=>?_) (λ_ _ h=>h) λ_ _ h=>h.elim
 obtain⟨ch,rfl,rfl⟩:=hq;refine on (MX ?_);rw[PySem.W.Fast.te15112759502256325868];refine M6 (((KO mp tu me w).tr (hb:=mT) (F:=(l,oL [] n)::F) (Me _) λ_=>rfl) Mt os G A.in1 s2 _ hA40 C2 λr N s3 hq C3=>?_) (λ_ _ h=>h) λ_ _ h=>h.elim
 obtain⟨ch,rfl,rfl⟩:=hq;have C3:am Mt os ([(l,oL [] n),(mp,ey tu me)]++F) s3:=C3.perm qH.symm;have hl3:=(C3.own (l,oL [] n) (.head _)).1;simp only[Bool.true_or,if_true];refine on (NQ ?_);unfold Builtin.List.listTouch;refine on (on (Ou hl3 rfl ?_ (Nt _) (by rw[Op];decide)));have C4:=C3.update (i:=0) (p:=(l,oL [] n)) rfl (f:=Obj.mapSeq λx=>x.push .none) rfl;obtain⟨e1,he1⟩:=fj [] n λx=>x.push .none
 rw[show(Obj.mapSeq λx=>x.push .none) (l,oL [] n).2=oL [.none] e1 from he1]at C4;have C4:am Mt os ([(l,oL [.none] e1),(mp,ey tu me)]++F) {s3 with heap:=s3.heap.update l (Obj.mapSeq λx=>x.push .none)}:=C4;generalize({s3 with heap:=s3.heap.update l (Obj.mapSeq λx=>x.push .none)}:Shared)=s4 at C4 ⊢;have hl4:=(C4.own (l,oL [.none] e1) (.head _)).1;refine Ou hl4 rfl ?_ (by rw[Op];decide) (by rw[Op];decide);have C5:=C4.update (i:=0) (p:=(l,oL [.none] e1)) rfl (f:=Obj.mapSeq λx=>x.pop) rfl;obtain⟨e2,he2⟩:=fj [.none] e1 λx=>x.pop
 rw[show(Obj.mapSeq λx=>x.pop) (l,oL [.none] e1).2=oL [] e2 from he2]at C5;refine Mh ⟨plainId_quiet (by decide+kernel) _,?_⟩;exact h e2 Mt os G A _ R (hA.mono (by decide)) C5 H
noncomputable def E8(q:List Nat)(ms:List MB):List MB:=q.filterMap (ms[·]?)
theorem u5{α:Type}(l:List α):(List.range l.length).filterMap (l[·]?)=l:=by
 induction l with
 |nil=>rfl
 |cons a l ih=>
  rw[Mg,List.range_succ_eq_map,Nk];show a::List.filterMap _ (List.map _ _)=_;rw[List.filterMap_map];congr 1
theorem j7{q:List Nat}{ms:List MB}(h:q.Perm (List.range ms.length)):(E8 q ms).Perm ms:=by
 have:=h.filterMap (ms[·]?);rw[u5]at this;exact this
theorem yk{β:Type}(f:MB->β)(q:List Nat)(ms:List MB):(E8 q ms).map f=q.filterMap ((ms.map f)[·]?):=by
 unfold E8;rw[List.map_filterMap];congr 1;funext i;rw[Mf]
theorem qk{hb:Md}(w:World)(l:Addr)(out:List R3)(u:U)(n:Nat)(q:List Nat)(hlen:out.length<=60)(hq:nM (out.map (·.1))=some q)(hpm:q.isPerm (List.range out.length)=true):af w hb 50 (vG l (bx out u).1 (E8 q (bx out u).1) n):=by
 have e:=mD out u;generalize(bx out u).1=ms at e ⊢;have hl:ms.length=out.length:=by rw[<-e,Mc]
 have hp:=Ra.mp hpm;rw[<-hl]at hp;refine A3 w l _ _ n q (by rw[hl];exact hlen) ?_ rfl ?_ (j7 hp)
 .rw[<-hq,<-e,MA];rfl
 .rw[(j7 hp).length_eq,hp.length_eq,Om]
theorem Ea(w:World)(it bl loc sm qu na:Addr)(kk:Nat->Tok)(la lb:Int)(ta tb:Tok)(z1 z2 z3 z4 z5 z6 z7 z8:Value)(v1 v2 v3:Tok)(out:List R3)(u:U)(q:List Nat)(n n2:Nat)(s:R3)(out2:List R3)(h1:1<=out.length)(hlen:out.length<=60)(hpm:q.isPerm (List.range out.length)=true)(hg:iD true (q.filterMap (out[·]?)) (0,0,0) []=some (s,out2)):
  af w mT 90 (vy w.params it bl loc sm qu na kk la lb ta tb z1 z2 z3 z4 z5 z6 z7 z8 v1 v2 v3 (E8 q (bx out u).1) n n2 s out2):=by
 have e:=mD out u;generalize(bx out u).1=ms at e ⊢;have hl:ms.length=out.length:=by rw[<-e,Mc]
 have hp:=Ra.mp hpm;rw[<-hl]at hp;have hl2:=(j7 hp).length_eq;refine Eb w it bl loc sm qu na kk la lb ta tb z1 z2 z3 z4 z5 z6 z7 z8 v1 v2 v3 _ n n2 s out2 (by rw[hl2,hl];exact h1) (by rw[hl2,hl];omega) ?_;rw[yk,e];exact hg
theorem EG{α:Type}{E:List α}(h1:1<=E.length)(h4:E.length<=4):(∃a,E=[a])\/(et λa b=>E=[a,b])\/(gc λa b c=>E=[a,b,c])\/iJ λa b c d=>E=[a,b,c,d]:=by
 match E with
 |[]=>simp at h1
 |[a]=>exact .inl ⟨a,rfl⟩
 |[a,b]=>exact .inr (.inl ⟨a,b,rfl⟩)
 |[a,b,c]=>exact .inr (.inr (.inl ⟨a,b,c,rfl⟩))
 |[a,b,c,d]=>exact .inr (.inr (.inr ⟨a,b,c,d,rfl⟩))
 |_::_::_::_::_::_=>simp at h4
theorem xK(w:World)(l mp tu me li na:Addr)(n m:Nat)(E:List NE)(h1:1<=E.length)(h4:E.length<=4):
  ak w mT 90 (BP l mp) ([(l,oL [] n),(mp,ey tu me),(tu,aj [.ref li]),(me,rZ),(li,aI na 0),(na,oL (iH E) m)]++E.map mn) λr N=>r=.ok (.ret .none)/\gc λ(ms:List MB) (n' p:Nat)=>ms.map (·.2.2.1)=E.map (·.2.1)/\
   N=[(l,oL (bo ms) n'),(mp,ey tu me),(tu,aj [.ref li]),(me,rZ),(li,ar p),(na,oL (iH E) m)]++(E.map mn++ms.map cA):=by
 rcases EG h1 h4 with⟨a,rfl⟩ |⟨a,b,rfl⟩ |⟨a,b,c,rfl⟩ |⟨a,b,c,d,rfl⟩
 .refine(KZ l mp tu me li na n m a.1 a.2.1.1 a.2.1.2.1 a.2.1.2.2 a.2.2.1 a.2.2.2.1 a.2.2.2.2 w).mono ?_;refine fr λch=>?_
  exact⟨_,⟨rfl,[(aZ ch 9,aZ ch 8,a.2.1,a.2.2.1,a.2.2.2.1,a.2.2.2.2)],n+1,1,rfl,rfl⟩,.refl _⟩
 .refine(K0 l mp tu me li na n m a.1 b.1 a.2.1.1 a.2.1.2.1 a.2.1.2.2 b.2.1.1 b.2.1.2.1 b.2.1.2.2 a.2.2.1 a.2.2.2.1 a.2.2.2.2 b.2.2.1 b.2.2.2.1 b.2.2.2.2 w).mono ?_;refine fr λch=>?_
  exact⟨_,⟨rfl,[(aZ ch 9,aZ ch 8,a.2.1,a.2.2.1,a.2.2.2.1,a.2.2.2.2),(aZ ch 24,aZ ch 23,b.2.1,b.2.2.1,b.2.2.2.1,b.2.2.2.2)],n+2,2,rfl,rfl⟩,.refl _⟩
 .refine(K1 l mp tu me li na n m a.1 b.1 c.1 a.2.1.1 a.2.1.2.1 a.2.1.2.2 b.2.1.1 b.2.1.2.1 b.2.1.2.2 c.2.1.1 c.2.1.2.1 c.2.1.2.2 a.2.2.1 a.2.2.2.1 a.2.2.2.2 b.2.2.1 b.2.2.2.1 b.2.2.2.2 c.2.2.1 c.2.2.2.1 c.2.2.2.2 w).mono ?_;refine fr λch=>?_
  exact⟨_,⟨rfl,[(aZ ch 9,aZ ch 8,a.2.1,a.2.2.1,a.2.2.2.1,a.2.2.2.2),(aZ ch 24,aZ ch 23,b.2.1,b.2.2.1,b.2.2.2.1,b.2.2.2.2),(aZ ch 39,aZ ch 38,c.2.1,c.2.2.1,c.2.2.2.1,c.2.2.2.2)],n+3,3,rfl,rfl⟩,.refl _⟩
 .refine(K2 l mp tu me li na n m a.1 b.1 c.1 d.1 a.2.1.1 a.2.1.2.1 a.2.1.2.2 b.2.1.1 b.2.1.2.1 b.2.1.2.2 c.2.1.1 c.2.1.2.1 c.2.1.2.2 d.2.1.1 d.2.1.2.1 d.2.1.2.2 a.2.2.1 a.2.2.2.1 a.2.2.2.2 b.2.2.1 b.2.2.2.1 b.2.2.2.2 c.2.2.1 c.2.2.2.1 c.2.2.2.2 d.2.2.1 d.2.2.2.1 d.2.2.2.2 w).mono ?_;refine fr λch=>?_
  exact⟨_,⟨rfl,[(aZ ch 9,aZ ch 8,a.2.1,a.2.2.1,a.2.2.2.1,a.2.2.2.2),(aZ ch 24,aZ ch 23,b.2.1,b.2.2.1,b.2.2.2.1,b.2.2.2.2),(aZ ch 39,aZ ch 38,c.2.1,c.2.2.1,c.2.2.2.1,c.2.2.2.2),(aZ ch 54,aZ ch 53,d.2.1,d.2.2.1,d.2.2.2.1,d.2.2.2.2)],n+4,4,rfl,rfl⟩,.refl _⟩
noncomputable abbrev XU:=List MB×Nat×Nat
noncomputable def dI(out:List R3)(u:U):XU:=iv (λs:XU=>s.1.map (·.2.2.1)=out) (out.map λr=>(0,0,r,0,0,0),0,0) u
theorem yy(out:List R3)(u:U):(dI out u).1.map (·.2.2.1)=out:=fv (p:=λs:XU=>s.1.map (·.2.2.1)=out) (by rw[MA];exact Od _) u
theorem yx(out:List R3)(s:XU)(hs:s.1.map (·.2.2.1)=out):∃u,dI out u=s:=fS (p:=λs:XU=>s.1.map (·.2.2.1)=out) _ hs
theorem qr(w:World)(l mp tu me li na:Addr)(n m:Nat)(E:List NE)(h1:1<=E.length)(h4:E.length<=4):
  ak w mT 91 (.builtin "list.__init__" ⟨[.ref l,.ref mp],[]⟩) ([(l,oL [] n),(mp,ey tu me),(tu,aj [.ref li]),(me,rZ),(li,aI na 0),(na,oL (iH E) m)]++E.map mn) λr N=>r=.ok (.ret .none)/\∃u,
   N=[(l,oL (bo (dI (E.map (·.2.1)) u).1) (dI (E.map (·.2.1)) u).2.1),(mp,ey tu me),(tu,aj [.ref li]),(me,rZ),(li,ar (dI (E.map (·.2.1)) u).2.2),(na,oL (iH E) m)]++(E.map mn++(dI (E.map (·.2.1)) u).1.map cA):=by
 refine(ak.linit (F:=[(tu,aj [.ref li]),(me,rZ),(li,aI na 0),(na,oL (iH E) m)]++E.map mn) λn'=>xK w l mp tu me li na n' m E h1 h4).mono ?_;rintro r N ⟨rfl,ms,n',p,e,rfl⟩;obtain⟨u,hu⟩:=yx (E.map (·.2.1)) (ms,n',p) e;exact⟨_,⟨rfl,u,by rw[hu]⟩,.refl _⟩
noncomputable def Ff(l mp tu me li na a:Addr)(n m:Nat)(ra:R3)(a1 a2 a3:Tok):Tr:=
 ⟨[],λ_=>[],λu=>[(dI [ra] u).1.map cA],.builtin "list.__init__" ⟨[.ref l,.ref mp],[]⟩,[(l,oL [] n),(mp,ey tu me),(tu,aj [.ref li]),(me,rZ),(li,aI na 0),(na,oL [.ref a] m),(a,aj [.int ra.1 a1,.int ra.2.1 a2,.int ra.2.2 a3])],λ_=>.ok (.ret .none),λu=>[oL (bo (dI [ra] u).1) (dI [ra] u).2.1,ey tu me,aj [.ref li],rZ,ar (dI [ra] u).2.2,oL [.ref a] m,aj [.int ra.1 a1,.int ra.2.1 a2,.int ra.2.2 a3]],λ_=>[]⟩
theorem Ef(w:World)(l mp tu me li na a:Addr)(n m:Nat)(i j k:Int)(a1 a2 a3:Tok):af w mT 91 (Ff l mp tu me li na a n m (i,j,k) a1 a2 a3):=by
 refine ak.tri (λ_=>⟨rfl,rfl⟩) (qr w l mp tu me li na n m [(a,(i,j,k),a1,a2,a3)] (Mm rfl) (Mm rfl)) ?_;rintro r N ⟨rfl,u,rfl⟩;exact⟨u,rfl,ae λy=>by exact(aN [_,_,_,_,_,_,_] [_] 0x8210f04d2c91c50c1 0x8204408134b2471433c1:)⟩
noncomputable def vD(l mp tu me li na a b:Addr)(n m:Nat)(nes:List NE)(out:List R3)(ra rb:R3)(a1 a2 a3 b1 b2 b3:Tok):Tr:=
 ⟨[nes.map mn],λ_=>[nes.map mn],λu=>[(dI (out++[ra,rb]) u).1.map cA],.builtin "list.__init__" ⟨[.ref l,.ref mp],[]⟩,[(l,oL [] n),(mp,ey tu me),(tu,aj [.ref li]),(me,rZ),(li,aI na 0),(na,oL ((iH nes++[.ref a])++[.ref b]) m),(a,aj [.int ra.1 a1,.int ra.2.1 a2,.int ra.2.2 a3]),(b,aj [.int rb.1 b1,.int rb.2.1 b2,.int rb.2.2 b3])],λ_=>.ok (.ret .none),λu=>[oL (bo (dI (out++[ra,rb]) u).1) (dI (out++[ra,rb]) u).2.1,ey tu me,aj [.ref li],rZ,ar (dI (out++[ra,rb]) u).2.2,oL ((iH nes++[.ref a])++[.ref b]) m,aj [.int ra.1 a1,.int ra.2.1 a2,.int ra.2.2 a3],aj [.int rb.1 b1,.int rb.2.1 b2,.int rb.2.2 b3]],λ_=>[]⟩
theorem Eg(w:World)(l mp tu me li na a b:Addr)(n m:Nat)(out:List R3)(v:U)(i j k i2 j2 k2:Int)(a1 a2 a3 b1 b2 b3:Tok)(h2:out.length<=2):af w mT 91 (vD l mp tu me li na a b n m (cg out v).1 out (i,j,k) (i2,j2,k2) a1 a2 a3 b1 b2 b3):=by
 have e:=m4 out v;generalize(cg out v).1=nes at e ⊢;have hl:nes.length=out.length:=by rw[<-e,Mc]
 have eE:(nes++[(a,(i,j,k),a1,a2,a3),(b,(i2,j2,k2),b1,b2,b3)]).map (·.2.1)=out++[(i,j,k),(i2,j2,k2)]:=by rw[Mi,e];rfl
 have eV:iH (nes++[(a,(i,j,k),a1,a2,a3),(b,(i2,j2,k2),b1,b2,b3)])=(iH nes++[.ref a])++[.ref b]:=by
  unfold iH;rw[Mi,Ms];rfl
 have h:=qr w l mp tu me li na n m (nes++[(a,(i,j,k),a1,a2,a3),(b,(i2,j2,k2),b1,b2,b3)]) (by simp) (by rw[Mn,hl];show out.length+2<=4;omega);rw[eE,eV]at h;refine ak.tri (λ_=>⟨rfl,rfl⟩) (h.perm (ae λy=>by simp only[vD,Mi,Ml,Na,mn];exact(aN [_,_,_,_,_,_,_,_] [_] 0x20913c110d2c91c50c1 0x208110d2c91c50d13c1:))) ?_;rintro r N ⟨rfl,u,rfl⟩;exact⟨u,rfl,ae λy=>by simp only[vD,bO,bP,Mi,Ml,Na,mn];exact(aN [_,_,_,_,_,_,_,_] [_,_] 0x20860913c110d2c91c50c1 0x208204610204d2c91c50d13c1:)⟩
theorem m5(out:List R3)(u:U):(iH (cg out u).1).length=out.length:=by
 have e:=m4 out u;unfold iH;rw[Mc,<-Mc (f:=(·.2.1)),e]
noncomputable def vz(P:Params)(it bl loc:Addr)(n:Nat):Tr:=
 ⟨[],λuu=>[],λuu=>[],aG iO it (d5 loc),[(it,aI bl 0),(bl,oL [] n)],λuu=>(.ok .next),λuu=>[ar 0,oL [] n],λuu=>[]⟩
theorem AT(it bl loc:Addr)(n:Nat)(w:World):af w mT 90 (vz w.params it bl loc n):=
 cx (mT) 90 (λP=>vz P it bl loc n) 35668290 (λw=>[Bm 0 1])
 [0,1] [] (λch=>⟨λi=>[].getD i 0,(ch 0).u⟩) w
noncomputable def zI(P:Params)(sm sd aa bb bd jk:Addr)(kq:Nat->Tok)(op bp:Value)(a b:List Pt)(na nb m:Nat)(bs:List BJ)(la lb:Nat):Tr:=
 ⟨[bs.map dN],λuu=>[List.map dN bs],λuu=>[List.map cA (dI [(Int.ofNat la,(Int.ofNat lb,0))] uu).1],.call (.ref 325) ⟨[.ref sm],[]⟩,[(sm,oI 364 sd),(sd,aD P kA kq [.none,.ref aa,.ref bb,.bool false,.none,op,.none,.ref bd,.ref jk,bp] 10),(aa,oL (vT a) na),(bb,oL (vT b) nb),(bd,oD (eS P (bs.map b9)) m),(jk,aL (.set ⟨[]⟩ 0 (sK P)))],λuu=>(.ok (.ret (.ref ((uu.n 0)+ab)))),λuu=>[oI 364 sd,aD P kA kq [.none,.ref aa,.ref bb,.bool false,.ref ((uu.n 0)+ab),op,.none,.ref bd,.ref jk,bp] 10,oL (vT a) na,oL (vT b) nb,oD (eS P (List.map b9 bs)) m,aL (.set ⟨[]⟩ 0 (sK P))],λuu=>[((uu.n 0)+ab,oL (bo (dI [(Int.ofNat la,(Int.ofNat lb,0))] uu).1) (dI [(Int.ofNat la,(Int.ofNat lb,0))] uu).2.1)]⟩
theorem D7(sm sd aa bb bd jk:Addr)(kq:Nat->Tok)(op bp:Value)(a b:List Pt)(na nb m:Nat)(bs:List BJ)(hbs:dL b bs)(ha:a.length<=100)(hb:b.length<=100)(la lb:Nat)(hla:(vT a).length=la)(hlb:(vT b).length=lb)(hla2:(vT a).length<=1000)(hlb2:(vT b).length<=1000)(hr:iC (a.map (·.1)) (b.map (·.1)) 60 [(0,Int.ofNat la,0,Int.ofNat lb)] []=some [])(w:World):af w mT 120 (zI w.params sm sd aa bb bd jk kq op bp a b na nb m bs la lb):=
 cx (mT) 120 (λP=>zI P sm sd aa bb bd jk kq op bp a b na nb m bs la lb) 0x18114504104508104114b18618114104114114204508104114b11a09a6840826426426595c24c24d30820822c10810810410410410810810410410442cb4d34d32c42c45024824922cb2cb2cb2cb2c44924922c42cb2cb2cb2cb2cb3c434434434d08c08c30c10218114504104508104114b04110218114504104508104114b04118114504104508104114b08b2c3 (λw=>[rF 0 [2] [] λhh=>aF aa (vT a) na la hla (by omega),rF 0 [3] [] λhh=>aF bb (vT b) nb lb hlb (by omega),bX 8 7,bX 8 7,f6 8 7,rT 110 [0,1,2,3,4,5,6,12,11,13] [0] λhh=>y8 w sm sd aa bb bd jk kq .none op bp a b na nb m bs (aZ hh 0) (aZ hh 18) (aZ hh 17) (aZ hh 20) (kl [nZ hh 1,nZ hh 13,nZ hh 14,nZ hh 19,nZ hh 21]) (Int.ofNat la) (Int.ofNat lb) (nZ hh 5) (nZ hh 7) (nZ hh 15) (nZ hh 5) (nZ hh 16) (nZ hh 7) 0 0 [] hbs ha hb hr,rF 50 [13] [1] λhh=>qk w (aZ hh 20) [] (hh 22) (bx [] (hh 22)).2.2.2.2 [] (by decide) rfl rfl,rT 90 [15,13] [] λhh=>AT (aZ hh 30) (aZ hh 20) (aZ hh 0) (uD (hh 23)) w,rF 0 [] [] λhh=>qf 0 (nZ hh 24) false rfl,dF 14 (vs:=[]) (by decide),rF 0 [] [] λhh=>ub (.ref (aZ hh 40)),rT 91 [21,20,19,17,18,14,16] [] λhh=>Ef w (aZ hh 41) (aZ hh 40) (aZ hh 39) (aZ hh 37) (aZ hh 38) (aZ hh 28) (aZ hh 34) 0 1 (Int.ofNat la) (Int.ofNat lb) 0 (nZ hh 5) (nZ hh 7) (nZ hh 33)])
 [0,1,2,3,4,5,21] [0,2] (λch=>⟨λi=>[nZ ch 41].getD i 0,(ch 42).u⟩) w
noncomputable def zJ(P:Params)(sm sd aa bb bd jk:Addr)(kq:Nat->Tok)(op bp:Value)(a b:List Pt)(na nb m:Nat)(bs:List BJ)(la lb:Nat)(out:List R3)(q:List Nat)(s1 s2 s3:Int)(out2:List R3):Tr:=
 ⟨[bs.map dN],λuu=>[List.map dN bs],λuu=>[List.map cA (dI (out2++[(s1,(s2,s3)),(Int.ofNat la,(Int.ofNat lb,0))]) uu).1],.call (.ref 325) ⟨[.ref sm],[]⟩,[(sm,oI 364 sd),(sd,aD P kA kq [.none,.ref aa,.ref bb,.bool false,.none,op,.none,.ref bd,.ref jk,bp] 10),(aa,oL (vT a) na),(bb,oL (vT b) nb),(bd,oD (eS P (bs.map b9)) m),(jk,aL (.set ⟨[]⟩ 0 (sK P)))],λuu=>(.ok (.ret (.ref ((uu.n 0)+ab)))),λuu=>[oI 364 sd,aD P kA kq [.none,.ref aa,.ref bb,.bool false,.ref ((uu.n 0)+ab),op,.none,.ref bd,.ref jk,bp] 10,oL (vT a) na,oL (vT b) nb,oD (eS P (List.map b9 bs)) m,aL (.set ⟨[]⟩ 0 (sK P))],λuu=>[((uu.n 0)+ab,oL (bo (dI (out2++[(s1,(s2,s3)),(Int.ofNat la,(Int.ofNat lb,0))]) uu).1) (dI (out2++[(s1,(s2,s3)),(Int.ofNat la,(Int.ofNat lb,0))]) uu).2.1)]⟩
theorem D8(sm sd aa bb bd jk:Addr)(kq:Nat->Tok)(op bp:Value)(a b:List Pt)(na nb m:Nat)(bs:List BJ)(hbs:dL b bs)(ha:a.length<=100)(hb:b.length<=100)(la lb:Nat)(hla:(vT a).length=la)(hlb:(vT b).length=lb)(hla2:(vT a).length<=1000)(hlb2:(vT b).length<=1000)(out:List R3)(hr:iC (a.map (·.1)) (b.map (·.1)) 60 [(0,Int.ofNat la,0,Int.ofNat lb)] []=some out)(q:List Nat)(hlen:out.length<=60)(hq:nM (out.map (·.1))=some q)(hpm:q.isPerm (List.range out.length)=true)(h1:1<=out.length)(s1 s2 s3:Int)(out2:List R3)(hg:iD true (q.filterMap (out[·]?)) (0,0,0) []=some ((s1,s2,s3),out2))(hk:(s3 != 0)=true)(h2:out2.length<=2)(w:World):af w mT 120 (zJ w.params sm sd aa bb bd jk kq op bp a b na nb m bs la lb out q s1 s2 s3 out2):=
 cx (mT) 120 (λP=>zJ P sm sd aa bb bd jk kq op bp a b na nb m bs la lb out q s1 s2 s3 out2) 0x60451410411420410452c61860450410450450811420410452c46c26db10209a09a09a6980930934c208208b04204204104104104204204104104110b2d34d34cb10b2cb4d34d32c42c45024824922cb2cb2cb2cb2c44924922c42cb2cb2cb2cb2cb3c434434434d08c08c30c10218114504104508104114b04110218114504104508104114b04118114504104508104114b08b2c3 (λw=>[rF 0 [2] [] λhh=>aF aa (vT a) na la hla (by omega),rF 0 [3] [] λhh=>aF bb (vT b) nb lb hlb (by omega),bX 8 7,bX 8 7,f6 8 7,rT 110 [0,1,2,3,4,5,6,12,11,13] [0] λhh=>y8 w sm sd aa bb bd jk kq .none op bp a b na nb m bs (aZ hh 0) (aZ hh 18) (aZ hh 17) (aZ hh 20) (kl [nZ hh 1,nZ hh 13,nZ hh 14,nZ hh 19,nZ hh 21]) (Int.ofNat la) (Int.ofNat lb) (nZ hh 5) (nZ hh 7) (nZ hh 15) (nZ hh 5) (nZ hh 16) (nZ hh 7) 0 0 out hbs ha hb hr,rF 50 [13] [1] λhh=>qk w (aZ hh 20) out (hh 22) (bx out (hh 22)).2.2.2.2 q hlen hq hpm,rT 90 [15,13,6,14] [1] λhh=>Ea w (aZ hh 30) (aZ hh 20) (aZ hh 0) sm (aZ hh 18) (aZ hh 28) (kx (bx out (hh 22)).2.1 13 [nZ hh 25,nZ hh 26,nZ hh 27,nZ hh 29]) (Int.ofNat la) (Int.ofNat lb) (nZ hh 5) (nZ hh 7) (bx out (hh 22)).2.2.1.1 (bx out (hh 22)).2.2.1.2.1 (bx out (hh 22)).2.2.1.2.2.1 (bx out (hh 22)).2.2.1.2.2.2.1 (bx out (hh 22)).2.2.1.2.2.2.2.1 (bx out (hh 22)).2.2.1.2.2.2.2.2.1 (bx out (hh 22)).2.2.1.2.2.2.2.2.2.1 (bx out (hh 22)).2.2.1.2.2.2.2.2.2.2 (nZ hh 24) (nZ hh 24) (nZ hh 24) out (hh 22) q (uD (hh 23)) 0 (s1,(s2,s3)) out2 h1 hlen hpm hg,ni hk,rF 0 [14] [] λhh=>c7 (aZ hh 28) (iH (cg out2 (hh 31)).1) (cg out2 (hh 31)).2.2.2.2.2 (.ref (aZ hh 33)) (by simp only[m5,Mn,Mg,MC];omega),rF 0 [14] [] λhh=>c7 (aZ hh 28) ((iH (cg out2 (hh 31)).1)++[.ref (aZ hh 33)]) ((cg out2 (hh 31)).2.2.2.2.2+1) (.ref (aZ hh 36)) (by simp only[m5,Mn,Mg,MC];omega),rF 0 [] [] λhh=>ub (.ref (aZ hh 42)),rT 91 [22,21,20,18,19,14,16,17] [2] λhh=>Eg w (aZ hh 43) (aZ hh 42) (aZ hh 41) (aZ hh 39) (aZ hh 40) (aZ hh 28) (aZ hh 33) (aZ hh 36) 0 ((cg out2 (hh 31)).2.2.2.2.2+2) out2 (hh 31) s1 s2 s3 (Int.ofNat la) (Int.ofNat lb) 0 (cg out2 (hh 31)).2.2.1.1 (cg out2 (hh 31)).2.2.1.2.1 (cg out2 (hh 31)).2.2.1.2.2 (nZ hh 5) (nZ hh 7) (nZ hh 35) h2])
 [0,1,2,3,4,5,22] [0,3] (λch=>⟨λi=>[nZ ch 43].getD i 0,(ch 44).u⟩) w
noncomputable def iQ(la lb:List (List Nat)):Option (List R3):=match iC la lb 60 [(0,Int.ofNat la.length,0,Int.ofNat lb.length)] []with
 |none=>none
 |some out=>match nM (out.map (·.1))with
  |none=>none
  |some q=>match out with
   |[]=>some [(Int.ofNat la.length,Int.ofNat lb.length,0)]
   |r::out=>bif q.isPerm (List.range (r::out).length)&&decide ((r::out).length<=60)then match iD true (q.filterMap ((r::out)[·]?)) (0,0,0) []with
    |none=>none
    |some (s,out2)=>bif (s.2.2 != 0)&&decide (out2.length<=2)then some (out2++[s,(Int.ofNat la.length,Int.ofNat lb.length,0)])else none
    else none
noncomputable def Fe(P:Params)(sm sd aa bb bd jk:Addr)(kq:Nat->Tok)(op bp:Value)(a b:List Pt)(na nb m:Nat)(bs:List BJ)(res:List R3):Tr:=
 ⟨[bs.map dN],λ_=>[bs.map dN],λu=>[(dI res u).1.map cA],.call (.ref 325) ⟨[.ref sm],[]⟩,[(sm,oI 364 sd),(sd,aD P kA kq [.none,.ref aa,.ref bb,.bool false,.none,op,.none,.ref bd,.ref jk,bp] 10),(aa,oL (vT a) na),(bb,oL (vT b) nb),(bd,oD (eS P (bs.map b9)) m),(jk,aL (.set ⟨[]⟩ 0 (PySem.SetTable.fresh 0 0 (Bool.not (PySem.Params.followText P "set-order")))))],λu=>.ok (.ret (.ref (u.n 0+ab))),λu=>[oI 364 sd,aD P kA kq [.none,.ref aa,.ref bb,.bool false,.ref (u.n 0+ab),op,.none,.ref bd,.ref jk,bp] 10,oL (vT a) na,oL (vT b) nb,oD (eS P (bs.map b9)) m,aL (.set ⟨[]⟩ 0 (PySem.SetTable.fresh 0 0 (Bool.not (PySem.Params.followText P "set-order"))))],λu=>[(u.n 0+ab,oL (bo (dI res u).1) (dI res u).2.1)]⟩
theorem D9(w:World)(sm sd aa bb bd jk:Addr)(kq:Nat->Tok)(op bp:Value)(a b:List Pt)(na nb m:Nat)(bs:List BJ)(res:List R3)(hbs:dL b bs)(ha:a.length<=100)(hb:b.length<=100)(hr:iQ (a.map (·.1)) (b.map (·.1))=some res):af w mT 120 (Fe w.params sm sd aa bb bd jk kq op bp a b na nb m bs res):=by
 unfold iQ at hr;rw[Mc,Mc]at hr;cases hg:iC (a.map (·.1)) (b.map (·.1)) 60 [(0,Int.ofNat a.length,0,Int.ofNat b.length)] []with
 |none=>rw[hg]at hr;cases hr
 |some out=>
  rw[hg]at hr;simp only at hr;cases hq:nM (out.map (·.1))with
  |none=>rw[hq]at hr;cases hr
  |some q=>
   rw[hq]at hr;simp only at hr;have ha2:(vT a).length<=1000:=by rw[cy];omega
   have hb2:(vT b).length<=1000:=by rw[cy];omega
   cases out with
   |nil=>
    cases hr;exact D7 sm sd aa bb bd jk kq op bp a b na nb m bs hbs ha hb a.length b.length (cy a) (cy b) ha2 hb2 hg w
   |cons r out=>
    simp only at hr;cases hp:(q.isPerm (List.range (r::out).length)&&decide ((r::out).length<=60))with
    |false=>rw[hp]at hr;cases hr
    |true=>
     rw[hp]at hr;simp only[cond_true]at hr;obtain⟨hp1,hp2⟩:=Mr.mp hp;have hp2:=of_decide_eq_true hp2;cases hn:iD true (q.filterMap ((r::out)[·]?)) (0,0,0) []with
     |none=>rw[hn]at hr;cases hr
     |some y=>
      obtain⟨⟨s1,s2,s3⟩,out2⟩:=y;rw[hn]at hr;simp only at hr;cases hk:((s3 != 0)&&decide (out2.length<=2))with
      |false=>rw[hk]at hr;cases hr
      |true=>
       rw[hk]at hr;cases hr;obtain⟨hk1,hk2⟩:=Mr.mp hk;exact D8 sm sd aa bb bd jk kq op bp a b na nb m bs hbs ha hb a.length b.length (cy a) (cy b) ha2 hb2 (r::out) hg q hp2 hq hp1 (M5 1 _) s1 s2 s3 out2 hn hk1 (of_decide_eq_true hk2) w
noncomputable abbrev lT:Stmt:=aP IT 4
section
section
variable(it bl loc sm an mx dx:Addr)(kk:Nat->Tok)(vs us:List Value)(n n2 p:Nat)(ai bj sz i j:Int)(u1 u2 u3 v1 v2:Tok)
noncomputable def Lk(hx:vs[p]?=none)(w:World):=
 cY (mT) 90 (λP=>aG lT it (lS loc))
 (λP=>[(it,aI bl p),(bl,oL vs n)]) (λP=>[])
 35668290 (λw=>[nq 0 1 hx])
 [0,1] [] (λP ch=>(.ok .next)) (λP ch=>[(it,ar p),(bl,oL vs n)]) (λP ch=>[]) w
end
end
noncomputable abbrev OS:=Int×Int×List RQ
noncomputable def lQ(s:OS)(r:R3):Option OS:=bif decide (s.2.1<r.2.1)then none else
 some (r.1+r.2.2,r.2.1+r.2.2,(bif r.2.2 != 0 then[(true,r.1,r.1+r.2.2,r.2.1,r.2.1+r.2.2)]else[])++((bif decide (s.1<r.1)then[(false,s.1,r.1,s.2.1,r.2.1)]else[])++s.2.2))
noncomputable def eG:List R3->OS->Option OS
 |[],s=>some s
 |r::rs,s=>(lQ s r).bind λs=>eG rs s
structure OA where
 it:Addr
 bl:Addr
 loc:Addr
 sm:Addr
 an:Addr
noncomputable def r6(P:Params)(A:OA)(f:Bool)(i j:Int)(o:Obj):Prop:=match f with
 |true=>gc λkk v1 v2=>o=frm P nh kk [.ref A.sm,.int i v1,.int j v2,.ref A.an] 4
 |false=>F2 λkk v1 v2 y1 y2 y3 y4=>o=frm P nh kk [.ref A.sm,.int i v1,.int j v2,.ref A.an,y1,y2,y3,y4] 8
noncomputable def vQ(A:OA)(ms:List MB)(n p:Nat)(o:Obj)(rs:List RC)(n2:Nat):ah:=
 [(A.it,aI A.bl p),(A.bl,oL (bo ms) n),(A.loc,o),(A.an,oL (bV rs) n2)]++(ms.map cA++rs.map cP)
section
variable(w:World)(A:OA)(ms:List MB)(n:Nat)
theorem lR{Q:Result->ah->Prop}{p:Nat}{f:Bool}{i j ai bj sz:Int}{o:Obj}{rs:List RC}{n2:Nat}{mx dx:Addr}{u1 u2 u3:Tok}{F:ah}(ho:r6 w.params A f i j o)(n2':Nat)(new:Tok->Tok->Ch->List RC)(Vs:Ch->List Value)(t3 t4 t5:Nat)(wd:List Nat)(pa:Nat)(rl:∀w:World,List (RP w))(sel:List Nat)
  (E0:∀kk v1 v2,yS 90 (aG lT A.it (lS A.loc)) (λP=>[(A.it,aI A.bl p),(A.bl,oL (bo ms) n),(mx,gs dx ai bj sz u1 u2 u3),(A.loc,frm P nh kk [.ref A.sm,.int i v1,.int j v2,.ref A.an] 4),(A.an,oL (bV rs) n2)]) pa rl sel λP ch=>[(A.it,aI A.bl (p+1)),(A.bl,oL (bo ms) n),(mx,gs dx ai bj sz u1 u2 u3),(A.loc,frm P nh (kx kk 4 [nZ ch 4,nZ ch 5,nZ ch 6,nZ ch 8]) [.ref A.sm,.int (ai+sz) (nZ ch t3),.int (bj+sz) (nZ ch t4),.ref A.an,.int ai u1,.int bj u2,.int sz u3,.str (T wd) (nZ ch t5)] 8),(A.an,oL (Vs ch) n2')]++(new v1 v2 ch).map cP)
  (E1:∀kk v1 v2 y1 y2 y3 y4,yS 90 (aG lT A.it (lS A.loc)) (λP=>[(A.it,aI A.bl p),(A.bl,oL (bo ms) n),(mx,gs dx ai bj sz u1 u2 u3),(A.loc,frm P nh kk [.ref A.sm,.int i v1,.int j v2,.ref A.an,y1,y2,y3,y4] 8),(A.an,oL (bV rs) n2)]) pa rl sel λP ch=>[(A.it,aI A.bl (p+1)),(A.bl,oL (bo ms) n),(mx,gs dx ai bj sz u1 u2 u3),(A.loc,frm P nh kk [.ref A.sm,.int (ai+sz) (nZ ch t3),.int (bj+sz) (nZ ch t4),.ref A.an,.int ai u1,.int bj u2,.int sz u3,.str (T wd) (nZ ch t5)] 8),(A.an,oL (Vs ch) n2')]++(new v1 v2 ch).map cP)
  (k:∀v1 v2 ch o',r6 w.params A false (ai+sz) (bj+sz) o'->ak w mT 90 (aG lT A.it (lS A.loc)) ([(A.it,aI A.bl (p+1)),(A.bl,oL (bo ms) n),(mx,gs dx ai bj sz u1 u2 u3),(A.loc,o'),(A.an,oL (Vs ch) n2')]++(new v1 v2 ch).map cP++F) Q):
  ak w mT 90 (aG lT A.it (lS A.loc)) ([(A.it,aI A.bl p),(A.bl,oL (bo ms) n),(mx,gs dx ai bj sz u1 u2 u3),(A.loc,o),(A.an,oL (bV rs) n2)]++F) Q:=by
 cases f with
 |true=>
  obtain⟨kk,v1,v2,rfl⟩:=ho;exact bH.st (F:=F) ((E0 kk v1 v2).use w) (Me _) λch=>k v1 v2 ch _ ⟨_,_,_,_,_,_,_,rfl⟩
 |false=>
  obtain⟨kk,v1,v2,y1,y2,y3,y4,rfl⟩:=ho;exact bH.st (F:=F) ((E1 kk v1 v2 y1 y2 y3 y4).use w) (Me _) λch=>k v1 v2 ch _ ⟨_,_,_,_,_,_,_,rfl⟩
theorem x7(Q:Result->ah->Prop)(p:Nat)(f:Bool)(s s':OS)(r:MB)(o:Obj)(rs:List RC)(n2:Nat)(hx:ms[p]?=some r)(hs:lQ s r.2.2.1=some s')(ho:r6 w.params A f s.1 s.2.1 o)(hrs:rs.map (·.1)=s.2.2)(hl:rs.length<=900)
  (k:∀o' rs' n2',r6 w.params A false s'.1 s'.2.1 o'->rs'.map (·.1)=s'.2.2->rs'.length<=rs.length+2->ak w mT 90 (aG lT A.it (lS A.loc)) (vQ A ms n (p+1) o' rs' n2') Q):
  ak w mT 90 (aG lT A.it (lS A.loc)) (vQ A ms n p o rs n2) Q:=by
 have hx':(bo ms)[p]?=some (.ref r.1):=by unfold bo;rw[Mf,hx];rfl
 have hM:=m0 hx;have hu:(bV rs).length<=1000:=by rw[g5];omega
 generalize hP:(ms.take p).map cA=Pm at hM;generalize hS:(ms.drop (p+1)).map cA=Sm at hM;obtain⟨mx,dx,⟨ai,bj,sz⟩,u1,u2,u3⟩:=r;obtain⟨i,j,qs⟩:=s;have hr:cA (mx,dx,(ai,bj,sz),u1,u2,u3)=(mx,gs dx ai bj sz u1 u2 u3):=rfl;rw[hr]at hM;have hrs:rs.map (·.1)=qs:=hrs;subst hrs;have pm:∀o rs n2 p,([(A.it,aI A.bl p),(A.bl,oL (bo ms) n),(mx,gs dx ai bj sz u1 u2 u3),(A.loc,o),(A.an,oL (bV rs) n2)]++(Pm++(Sm++rs.map cP))).Perm (vQ A ms n p o rs n2):=λo rs n2 p=>ae λy=>by simp only[vQ,hM];exact(aN [_,_,_,_,_] [_,_,_] 0x820881842c91c50c1 0x822021c610b2450c1:)
 have pm2:∀(o:Obj) (c1:RC) n2 p,([(A.it,aI A.bl p),(A.bl,oL (bo ms) n),(mx,gs dx ai bj sz u1 u2 u3),(A.loc,o),(A.an,oL (bV rs++[.ref c1.2.1]) n2),cP c1]++(Pm++(Sm++rs.map cP))).Perm (vQ A ms n p o (c1::rs) n2):=λo c1 n2 p=>ae λy=>by simp only[vQ,hM,Ml,cL];exact(aN [_,_,_,_,_,_] [_,_,_] 0x208220610d2c91c50c1 0x208320224610d2c7141:)
 have pm3:∀(o:Obj) (c1 c2:RC) n2 p,([(A.it,aI A.bl p),(A.bl,oL (bo ms) n),(mx,gs dx ai bj sz u1 u2 u3),(A.loc,o),(A.an,oL ((bV rs++[.ref c1.2.1])++[.ref c2.2.1]) n2),cP c1,cP c2]++(Pm++(Sm++rs.map cP))).Perm (vQ A ms n p o (c2::c1::rs) n2):=λo c1 c2 n2 p=>ae λy=>by simp only[vQ,hM,Ml,cL];exact(aN [_,_,_,_,_,_,_] [_,_,_] 0x820881843cd2c91c50c1 0x820c52022c610f3491c1:)
 unfold lQ at hs;cases h2:decide (j<bj)with
 |true=>rw[h2]at hs;cases hs
 |false=>
  rw[h2]at hs;simp only[cond_false]at hs;cases hs;cases h1:decide (i<ai)with
  |false=>
   cases h3:(sz != 0)with
   |false=>
    refine(lR w A ms n ho n2 (λv1 v2 ch=>[]) (λch=>bV rs) 13 14 7 [] 0x10820820840438438438e08d08d34d08220808220810810820420810820820820820820c28a1ca28228228a28728a08a08a28a1ca28228228a28728a08a08a2820470810411c10411c10411c5105 (λw=>[cH 0 1 hx',bE h1,bE h1,bE h2,rF 0 [] [] λhh=>bq [] (nZ hh 7) (by decide),bX 9 8,bX 9 8,f6 9 8,ni h3]) [0,1,2,3,4] (λ_ _ _=>by kernel_rfl) (λ_ _ _ _ _ _ _=>by kernel_rfl) λv1 v2 ch o' ho'=>?_).perm (pm _ _ _ _);exact(k _ rs n2 ho' (by simp[h1,h3]) (by omega)).perm (pm _ _ _ _).symm
   |true=>
    refine(lR w A ms n ho (n2+1) (λv1 v2 ch=>[((true,ai,ai+sz,bj,bj+sz),aZ ch 24,nZ ch 23,u1,nZ ch 13,u2,nZ ch 14)]) (λch=>bV rs++[.ref (aZ ch 24)]) 13 14 7 [] 0x10820820924924810820820840438438438e08d08d34d08220808220810810820420810820820820820820c28a1ca28228228a28728a08a08a28a1ca28228228a28728a08a08a2820470810411c10411c10411c5105 (λw=>[cH 0 1 hx',bE h1,bE h1,bE h2,rF 0 [] [] λhh=>bq [] (nZ hh 7) (by decide),bX 9 8,bX 9 8,f6 9 8,ni h3,dF 4 (vs:=bV rs) (by omega)]) [0,1,2,3,4,12] (λ_ _ _=>by kernel_rfl) (λ_ _ _ _ _ _ _=>by kernel_rfl) λv1 v2 ch o' ho'=>?_).perm (pm _ _ _ _);exact(k _ (((true,ai,ai+sz,bj,bj+sz),aZ ch 24,nZ ch 23,u1,nZ ch 13,u2,nZ ch 14)::rs) (n2+1) ho' (by simp[h1,h3]) (by simp)).perm (pm2 _ _ _ _).symm
  |true=>
   cases h3:(sz != 0)with
   |false=>
    refine(lR w A ms n ho (n2+1) (λv1 v2 ch=>[((false,i,ai,j,bj),aZ ch 15,nZ ch 12,v1,u1,v2,u2)]) (λch=>bV rs++[.ref (aZ ch 15)]) 17 18 12 [100,101,108,101,116,101] 0x420820821110f10f10f3c238238e38208820208820420820820924924810820810820420810820820820820820c28a1ca28228228a28728a08a08a28a1ca28228228a28728a08a08a2820470810411c10411c10411c5105 (λw=>[cH 0 1 hx',bE h1,bE h2,bE h1,rF 0 [] [] λhh=>bq [100,101,108,101,116,101] (nZ hh 12) (by decide),dF 4 (vs:=bV rs) (by omega),bX 10 9,bX 10 9,f6 10 9,ni h3]) [0,1,2,3,4,8] (λ_ _ _=>by kernel_rfl) (λ_ _ _ _ _ _ _=>by kernel_rfl) λv1 v2 ch o' ho'=>?_).perm (pm _ _ _ _);exact(k _ (((false,i,ai,j,bj),aZ ch 15,nZ ch 12,v1,u1,v2,u2)::rs) (n2+1) ho' (by simp[h1,h3]) (by simp)).perm (pm2 _ _ _ _).symm
   |true=>
    refine(lR w A ms n ho (n2+2) (λv1 v2 ch=>[((false,i,ai,j,bj),aZ ch 15,nZ ch 12,v1,u1,v2,u2),((true,ai,ai+sz,bj,bj+sz),aZ ch 28,nZ ch 27,u1,nZ ch 17,u2,nZ ch 18)]) (λch=>bV rs++[.ref (aZ ch 15)]++[.ref (aZ ch 28)]) 17 18 12 [100,101,108,101,116,101] 0x420820824924920420820821110f10f10f3c238238e38208820208820420820820924924810820810820420810820820820820820c28a1ca28228228a28728a08a08a28a1ca28228228a28728a08a08a2820470810411c10411c10411c5105 (λw=>[cH 0 1 hx',bE h1,bE h2,bE h1,rF 0 [] [] λhh=>bq [100,101,108,101,116,101] (nZ hh 12) (by decide),dF 4 (vs:=bV rs) (by omega),bX 10 9,bX 10 9,f6 10 9,ni h3,rF 0 [4] [] λhh=>c7 A.an (bV rs++[.ref (aZ hh 15)]) (n2+1) (.ref (aZ hh 28)) (by simp;omega)]) [0,1,2,3,4,8,13] (λ_ _ _=>by kernel_rfl) (λ_ _ _ _ _ _ _=>by kernel_rfl) λv1 v2 ch o' ho'=>?_).perm (pm _ _ _ _);exact(k _ (((true,ai,ai+sz,bj,bj+sz),aZ ch 28,nZ ch 27,u1,nZ ch 17,u2,nZ ch 18)::((false,i,ai,j,bj),aZ ch 15,nZ ch 12,v1,u1,v2,u2)::rs) (n2+2) ho' (by simp[h1,h3]) (by simp)).perm (pm3 _ _ _ _ _).symm
noncomputable def Lj(s':OS)(f:Bool)(r:Result)(N:ah):Prop:=r=.ok .next/\yA λf' o' p' rs' n2'=>r6 w.params A f' s'.1 s'.2.1 o'/\f'=(f&&ms.isEmpty)/\rs'.map (·.1)=s'.2.2/\N=[(A.it,ar p'),(A.bl,oL (bo ms) n),(A.loc,o'),(A.an,oL (bV rs') n2')]++(ms.map cA++rs'.map cP)
theorem qE(hms:ms.length<=100)(s':OS):∀(rest:List MB) (p:Nat) (f:Bool) (s:OS) (o:Obj) (rs:List RC) (n2:Nat),ms.drop p=rest->eG (rest.map (·.2.2.1)) s=some s'->r6 w.params A f s.1 s.2.1 o->rs.map (·.1)=s.2.2->(f=true->p=0)->rs.length<=2*p->
  ak w mT 90 (aG lT A.it (lS A.loc)) (vQ A ms n p o rs n2) (Lj w A ms n s' f)
 |[],p,f,s,o,rs,n2,hd,hr,ho,hrs,hf,hl=>by
  have hr:=M2 hr;subst hr;have hp:(bo ms)[p]?=none:=by
   unfold bo;rw[Mf,Nh (OQ.mp hd)];rfl
  have hff:f=(f&&ms.isEmpty):=by
   cases f with
   |false=>rfl
   |true=>
    have:=hf rfl;subst this;have:ms=[]:=hd;subst this;rfl
  refine(((Lk A.it A.bl A.loc (bo ms) n p hp w).frame ([(A.loc,o),(A.an,oL (bV rs) n2)]++(ms.map cA++rs.map cP))).perm (M':=vQ A ms n p o rs n2) (.refl _)).mono ?_;refine fq λch=>?_
  exact⟨_,⟨rfl,f,o,p,rs,n2,ho,hff,hrs,rfl⟩,.refl _⟩
 |x::rest,p,f,s,o,rs,n2,hd,hr,ho,hrs,hf,hl=>by
  obtain⟨h1,h2⟩:=eQ hd;obtain⟨s1,hs,hr⟩:=Mk.mp (show(lQ s x.2.2.1).bind (λs=>eG (rest.map (·.2.2.1)) s)=some _ from hr);have hpl:p<ms.length:=(Mj.mp h1).1;refine x7 w A ms n _ p f s s1 x o rs n2 h1 hs ho hrs (by omega) λo' rs' n2' g1 g2 g3=>?_
  refine(qE hms s' rest (p+1) false s1 o' rs' n2' h2 hr g1 g2 (λh=>by cases h) (by omega)).mono ?_;rintro r N ⟨rfl,f',o2,p2,rs2,n3,q1,q2,q3,rfl⟩;refine⟨_,⟨rfl,f',o2,p2,rs2,n3,q1,?_,q3,rfl⟩,.refl _⟩;rw[q2];cases ms with
  |nil=>simp at hpl
  |cons m ms=>simp
end
noncomputable abbrev OU:=List RC×(Nat->Tok)×(Tok×Tok)×(Value×Value×Value×Value)×Nat×Nat
noncomputable def bN(out:List RQ)(u:U):OU:=iv (λs:OU=>s.1.map (·.1)=out) (out.map λr=>(r,0,0,0,0,0,0),λ_=>0,(0,0),(.none,.none,.none,.none),0,0) u
theorem ng(out:List RQ)(u:U):(bN out u).1.map (·.1)=out:=fv (p:=λs:OU=>s.1.map (·.1)=out) (by rw[MA];exact Od _) u
theorem uT(out:List RQ)(s:OU)(hs:s.1.map (·.1)=out):∃u,bN out u=s:=fS (p:=λs:OU=>s.1.map (·.1)=out) _ hs
noncomputable def zL(P:Params)(it bl loc sm an:Addr)(kk:Nat->Tok)(v1 v2:Tok)(ms:List MB)(n:Nat)(s:OS):Tr:=
 ⟨[ms.map cA],λ_=>[ms.map cA],λu=>[(bN s.2.2 u).1.map cP],aG lT it (lS loc),[(it,aI bl 0),(bl,oL (bo ms) n),(loc,frm P nh kk [.ref sm,.int 0 v1,.int 0 v2,.ref an] 4),(an,oL [] 0)],λ_=>.ok .next,λu=>[ar (bN s.2.2 u).2.2.2.2.1,oL (bo ms) n,frm P nh (bN s.2.2 u).2.1 [.ref sm,.int s.1 (bN s.2.2 u).2.2.1.1,.int s.2.1 (bN s.2.2 u).2.2.1.2,.ref an,(bN s.2.2 u).2.2.2.1.1,(bN s.2.2 u).2.2.2.1.2.1,(bN s.2.2 u).2.2.2.1.2.2.1,(bN s.2.2 u).2.2.2.1.2.2.2] 8,oL (bV (bN s.2.2 u).1) (bN s.2.2 u).2.2.2.2.2],λ_=>[]⟩
theorem Ej(w:World)(it bl loc sm an:Addr)(kk:Nat->Tok)(v1 v2:Tok)(res:List R3)(v:U)(n:Nat)(s:OS)(h1:1<=res.length)(hms:res.length<=100)(hr:eG res (0,0,[])=some s):af w mT 90 (zL w.params it bl loc sm an kk v1 v2 (dI res v).1 n s):=by
 have e:=yy res v;generalize(dI res v).1=ms at e ⊢;have hl:ms.length=res.length:=by rw[<-e,Mc]
 refine ak.tri (λ_=>⟨rfl,rfl⟩) ((qE w ⟨it,bl,loc,sm,an⟩ ms n (by omega) s ms 0 true (0,0,[]) _ [] 0 rfl (by rw[e];exact hr) ⟨kk,v1,v2,rfl⟩ rfl (λ_=>rfl) (Me _)).perm (ae λy=>by exact(aN [_,_,_,_] [_] 571819213738177 571819213738177:))) ?_;rintro r N ⟨rfl,f',o',p',rs',n2',ho,hf,g3,rfl⟩;have:f'=false:=by
  rw[hf];cases ms with
  |nil=>simp at hl;omega
  |cons m ms=>rfl
 subst this;obtain⟨kk',w1,w2,y1,y2,y3,y4,rfl⟩:=ho;obtain⟨u,hu⟩:=uT s.2.2 (rs',kk',(w1,w2),(y1,y2,y3,y4),p',n2') g3;refine⟨u,rfl,ae λy=>?_⟩;simp only[zL,hu,bO,bP,eA,eJ,jg,s8,Nx,MN,M9,Mq]
noncomputable def vE(P:Params)(sm sd aa bb bd jk:Addr)(kq:Nat->Tok)(bp:Value)(a b:List Pt)(na nb m:Nat)(bs:List BJ)(res:List R3)(s:OS):Tr:=
 ⟨[bs.map dN],λuu=>[List.map dN bs],λuu=>[List.map cP (bN s.2.2 uu).1],.call (.ref 332) ⟨[.ref sm],[]⟩,[(sm,oI 364 sd),(sd,aD P kA kq [.none,.ref aa,.ref bb,.bool false,.none,.none,.none,.ref bd,.ref jk,bp] 10),(aa,oL (vT a) na),(bb,oL (vT b) nb),(bd,oD (eS P (bs.map b9)) m),(jk,aL (.set ⟨[]⟩ 0 (sK P)))],λuu=>(.ok (.ret (.ref ((uu.n 0)+ab)))),λuu=>[oI 364 sd,aD P kA kq [.none,.ref aa,.ref bb,.bool false,.ref ((uu.n 1)+ab),.ref ((uu.n 0)+ab),.none,.ref bd,.ref jk,bp] 10,oL (vT a) na,oL (vT b) nb,oD (eS P (List.map b9 bs)) m,aL (.set ⟨[]⟩ 0 (sK P))],λuu=>[((uu.n 0)+ab,oL (bV (bN s.2.2 uu).1) (bN s.2.2 uu).2.2.2.2.2)]⟩
theorem zb(sm sd aa bb bd jk:Addr)(kq:Nat->Tok)(bp:Value)(a b:List Pt)(na nb m:Nat)(bs:List BJ)(res:List R3)(s:OS)(hbs:dL b bs)(ha:a.length<=100)(hb:b.length<=100)(hr:iQ (a.map (·.1)) (b.map (·.1))=some res)(h1:1<=res.length)(h2:res.length<=100)(hs:eG res (0,0,[])=some s)(w:World):af w mT 130 (vE w.params sm sd aa bb bd jk kq bp a b na nb m bs res s):=
 cx (mT) 130 (λP=>vE P sm sd aa bb bd jk kq bp a b na nb m bs res s) 0x2c438234234d10118504104114104114104114b2cb18618114104114114204508104114b2cb2cb18114504104508104114b08b2c3 (λw=>[rT 120 [0,1,2,3,4,5] [0] λhh=>D9 w sm sd aa bb bd jk kq (.ref (aZ hh 7)) bp a b na nb m bs res hbs ha hb hr,rT 90 [9,8,6,7] [1] λhh=>Ej w (aZ hh 12) (aZ hh 11) (aZ hh 0) sm (aZ hh 7) (kl [nZ hh 1,nZ hh 5,nZ hh 6,nZ hh 10]) (nZ hh 4) (nZ hh 4) res (hh 11) (dI res (hh 11)).2.1 s h1 h2 hs])
 [0,1,2,3,4,5,7] [0,2] (λch=>⟨λi=>[nZ ch 7,nZ ch 11].getD i 0,(ch 13).u⟩) w
section
section
variable{w:World}{hb:Md}{lv:Nat}{M F:ah}
theorem TR.whSt{t:Expr}{body orelse rest:List Stmt}{pos:Pos}{e:Env}{Q1:Result->ah->Prop}{Q:Flow->ah->Prop}(h:ak w hb lv (.whileLoop t body orelse e) M Q1)
  (k:∀r N,Q1 r N->match r with |.ok .next=>TR w hb lv (execs rest e) N Q |.ok f=>Q f N |.error _=>False):TR w hb lv (execs (.While t body orelse pos::rest) e) M Q:=λMt os G A s S hA C H=>by
 refine NS ?_;rw[arm_exec_While];refine on (P2 (wpAny_runOwn (h Mt os G A s _ hA C λr N s' q C'=>?_)));have k':=k r N q
 match r,k' with
 |.error e,k'=>exact k'.elim
 |.ok .next,k'=>exact k' Mt os G A s' S hA C' H
 |.ok .brk,k'=>exact H _ _ _ k' C'
 |.ok .cont,k'=>exact H _ _ _ k' C'
 |.ok (.ret v),k'=>exact H _ _ _ k' C'
theorem TR.forSt{t x:Expr}{body orelse rest:List Stmt}{pos:Pos}{e:Env}{Qa Q0:Value->ah->Prop}{Q1:Result->ah->Prop}{Q:Flow->ah->Prop}(hs:∀v,foldedSetIterable x e v=pure v)(ha:TR w hb lv (dm x e) M Qa)(hi:∀v N,Qa v N->TR w hb lv (PySem.W.Fast.tw8711993805878244202 v) N Q0)
  (h:∀it N,Q0 it N->ak w hb lv (.forLoop t it body orelse e) N Q1) (k:∀r N,Q1 r N->match r with |.ok .next=>TR w hb lv (execs rest e) N Q |.ok f=>Q f N |.error _=>False):TR w hb lv (execs (.For t x body orelse pos::rest) e) M Q:=λMt os G A s S hA C H=>by
 refine NS (wpAny_For ?_ hs);rw[<-mi];refine ha Mt os G A s _ hA C λv N s1 q1 C1=>?_
 rw[Pa];refine hi v N q1 Mt os G A s1 _ hA C1 λit N2 s2 q2 C2=>?_
 refine h it N2 q2 Mt os G A s2 _ hA C2 λr N s' q C'=>?_
 have k':=k r N q
 match r,k' with
 |.error e,k'=>exact k'.elim
 |.ok .next,k'=>exact k' Mt os G A s' S hA C' H
 |.ok .brk,k'=>exact H _ _ _ k' C'
 |.ok .cont,k'=>exact H _ _ _ k' C'
 |.ok (.ret v),k'=>exact H _ _ _ k' C'
theorem ak.enter{f:Addr}{args:Args}{fd:FuncData}{body:List Stmt}{Q1:List (Str×Value)->ah->Prop}{Q2:Env->ah->Prop}{Q:Result->ah->Prop}(hd:∀P:Params,pR P f=some (fd,body))(h1:TR w hb lv (PySem.W.Fast.tw9782568553167038054 fd args) M Q1)
  (h2:∀b N,Q1 b N->TR w hb lv (PySem.W.Fast.tw11113344188204177931 fd.scope fd.globals fd.closure b (fd.qualname++".<locals>.") (some f) fd.code none fd.builtins) N Q2)
  (k:∀env N,Q2 env N->ak w hb (lv+1) (.func body env) N Q):ak w hb (lv+1) (.call (.ref f) args) M Q:=λMt os G A s R hA C H=>by
 have hdf:=hd w.params;obtain⟨o,ho,hd,hbd,hco,hgen,hcd⟩:=mG G hdf;refine Qe (by have:=hA.1;show A.depth<1000;omega) (C.keep _ _ ho) hd hco hgen hbd (hcd _ C.keep) ?_;rw[O4];refine M6 (h1 Mt os G A.in1 s _ hA.in1 C λb N s1 q1 C1=>?_) (λ_ _ h=>h) λ_ _ h=>h.elim
 rw[O1];refine M6 (h2 b N q1 Mt os G A.in1 s1 _ hA.in1 C1 λenv N2 s2 q2 C2=>?_) (λ_ _ h=>h) λ_ _ h=>h.elim
 exact⟨(jK G).keeps C2.keep,k env N2 q2 Mt os G A s2 R hA C2 H⟩
end
end
noncomputable abbrev JH(b:Nat)(u:Tok):Obj:={cls:=.type "slice",data:=.fields #[.none,.int (Int.ofNat b) u,.none]}
noncomputable def JP(l sl:Addr)(vs:List Value)(n b:Nat)(u:Tok):Tr:=⟨[],λ_=>[],λ_=>[],.call (.builtin "list.__getitem__") ⟨[.ref l,.ref sl],[]⟩,[(l,oL vs n),(sl,JH b u)],λx=>.ok (.ret (.ref (x.n 0+ab))),λ_=>[oL vs n,JH b u],λx=>[(x.n 0+ab,oL (vs.take b) 0)]⟩
theorem uc{w:World}{hb:Md}{lv:Nat}(l sl:Addr)(vs:List Value)(n b:Nat)(u:Tok)(hl:vs.length<=10000):af w hb lv (JP l sl vs n b u):=by
 refine⟨λMt os G A s R hA C H=>?_,λ_=>⟨rfl,rfl⟩⟩;have ho:=(C.own _ (.head _)).1;have hos:=(C.own _ (.tail _ (.head _))).1;have hTs:s.TypeIs (.ref sl) "slice":=⟨_,hos,rfl⟩;have e0:s.heap.objs.size-ab+ab=s.heap.objs.size:=MJ (cC G C);refine aB Ow ⟨_,ho,rfl⟩ Ot (Ox _ _) ?_;show wpAny _ _ (Builtin.List.listSubscript? (.ref sl)>>=_) _ _ s;refine on ?_;unfold Builtin.List.listSubscript?;refine on (wpAny_specialOf hTs slice_no_index ?_);simp only[Option.isNone_none,if_true];refine Mh ?_;show wpAny _ _ (typeOf (.ref sl)>>=_) _ _ s;refine on (wpAny_typeOf hTs ?_);rw[if_neg (by decide)];rw[listSliceParts_eq];refine on (on (MM hos rfl (x:=.none) rfl (on (PU .none ?_))));rw[if_neg (show ¬((rawPart none==rawInt 0)=true)from MK)];refine on (MM hos rfl (x:=.none) rfl (on (PU .none ?_)));refine on (MM hos rfl (x:=.int (Int.ofNat b) u) rfl (on (PU (.int _ _) (Mh ?_))));refine on (m:=Builtin.List.listItems (.ref l)) ?_;unfold Builtin.List.listItems;refine on (Nm ho rfl (Mh ?_));refine on (Qn (sliceIndices_raw none (some (Int.ofNat b)) none (Array.mk vs).size (by simp)) ?_);have hp:slicePick (Array.mk vs) none (some (Int.ofNat b)) none=Array.mk (vs.take b):=slicePick_upto' (Array.mk vs) b;have hsz:(Array.mk vs).size<=sizeLine:=by show vs.length<=2^24;omega
 refine on (NM ?_ (M4 (slicePick_size_le (Array.mk vs) none (some (Int.ofNat b)) none) hsz));refine Mh ?_;have C2:=C.alloc (o:=oL (vs.take b) 0) rfl;have:=H (uN (s.heap.objs.size-ab)) {s with heap:=s.heap.push (oL (vs.take b) 0)} (by
  show am Mt os (_++[(s.heap.objs.size-ab+ab,oL (vs.take b) 0)]) _;rw[e0];exact C2)
 simp only[JP,uN,e0]at this;rw[show((sliceRange (sliceBounds none (some (Int.ofNat b)) none (Array.mk vs).size).1 (sliceBounds none (some (Int.ofNat b)) none (Array.mk vs).size).2.1 (sliceBounds none (some (Int.ofNat b)) none (Array.mk vs).size).2.2).filterMap ((Array.mk vs)[·]?)).toArray=Array.mk (vs.take b)from hp];exact this
noncomputable def yX:FuncData:={name:=T [108,97,119],qualname:=T [108,97,119],params:=yW (dP pT 35),body:=.stmts (dD (dP pT 35)),scope:=fE (dP pT 35),globals:=3,closure:=[],defaults:=.none,kwdefaults:=.none,doc:=.none,pyModule:=.str (T [108,97,119,95,105,107,48,50,52,52,95,48,49]) 954,annotations:=none,code:=.ref 516,closureTuple:=.none,builtins:=0}
theorem wT(P:Params):pR P 517=some (yX,bB):=by kernel_rfl
noncomputable def aC:List (List Nat):=[[115,99,114,105,112,116],[115,111,114,116,101,114],[103,111,97,108],[115,116,97,103,101,115],[103,114,111,117,112],[108,97,115,116],[110,97,109,101,115],[115,116,97,103,101],[112,97,114,116,115]]
noncomputable def bF(c1 c2 c3 c4 c5:Addr):List (Str×Addr):=[(T [115,116,114,117,99,107],c5),(T [110,111,119],c4),(T [112,105,101,99,101,115],c3),(T [114,111,119],c2),(T [110,117,109,98,101,114,115],c1)]
noncomputable abbrev dk:Obj:={cls:=.type "cell",data:=.cell none}
noncomputable def s7:List (List Nat):=[[112,108,97,99,101]]
noncomputable def cX:List (List Nat):=[[120]]
noncomputable def yQ:List (List Nat):=[[110,97,109,101]]
noncomputable abbrev aU:Stmt:=aP bB 6
noncomputable abbrev aV:Stmt:=aP bB 10
noncomputable abbrev JS:Expr:=zu (aP bB 1)
noncomputable abbrev JT:Expr:=zu (aP bB 2)
noncomputable abbrev zS:Expr:=bc (aE (aP (ao aU) 3)) 0
noncomputable abbrev FV:Expr:=bc (aE (aP (ao aU) 3)) 1
noncomputable abbrev JU:Expr:=bc (zu (aP (ao aU) 5)) 0
noncomputable abbrev FW:Expr:=bc (bc (bc (bc (aE (aP bB 8)) 1) 1) 1) 0
noncomputable abbrev FX:Expr:=zu (aP bB 9)
noncomputable abbrev FY:Expr:=bc (bc (bc (bc (aE (aP (ao aV) 0)) 0) 0) 1) 0
noncomputable abbrev F0:Expr:=zu (aP (ao aV) 1)
noncomputable def IB(n:Nat):Bool:=decide ((decide ((n:Int)-1< -(2^63:Int))||decide ((n:Int)-1>=2^63))=false)&&decide ((seqIndex? ((n:Int)-1) gS.length).bind (gS.cps[·]?)=some (96+n))&&cE n==[96+n]
theorem EH:∀n,n<16->0<n->IB n=true:=by decide+kernel
theorem fP{w:World}(x:Int)(t:Tok)(h:fD x):ba w 10 (tV 495 [.int x t] λy=>.str (T (cE x)) (y.n 0)):=by
 obtain⟨h1,h2,h3⟩:=h;rcases h1 with h1 |h1
 .obtain⟨n,rfl⟩:∃n:Nat,x=n:=⟨x.toNat,by omega⟩;obtain⟨a,b⟩:=Mr.mp (EH n (by omega) (by omega));obtain⟨a,c⟩:=Mr.mp a;rw[eq_of_beq b];exact oX _ t (decide_eq_true h1) _ (of_decide_eq_true a) (of_decide_eq_true c)
 .have e:cE x=[46,46]:=by unfold cE;rw[if_neg (by omega)]
  rw[e];exact oW x t (decide_eq_false (by omega))
theorem t0{w:World}{hb:Md}{lv:Nat}(l:Addr)(a b c:Value)(n:Nat)(i:Int)(u:Tok)(h:i=0):af w hb lv (j9 l [a,b,c] n i u a):=by
 subst h;exact fh l _ n 0 u a (by decide) rfl rfl
theorem t9{w:World}{hb:Md}{lv:Nat}(l:Addr)(a b c:Value)(n:Nat)(i:Int)(u:Tok)(h:i=1):af w hb lv (j9 l [a,b,c] n i u b):=by
 subst h;exact fh l _ n 1 u b (by decide) rfl rfl
theorem ua{w:World}{hb:Md}{lv:Nat}(l:Addr)(a b c:Value)(n:Nat)(i:Int)(u:Tok)(h:i=2):af w hb lv (j9 l [a,b,c] n i u c):=by
 subst h;exact fh l _ n 2 u c (by decide) rfl rfl
theorem qj{w:World}{hb:Md}{lv:Nat}(a:Nat)(la lb:List Nat)(t u:Tok)(d:Nat)(dl:List Nat)(hd:lb=d::dl)(hl:la.length+dl.length<=10000):af w hb lv (tB "str.__add__" [.str (T (a::la)) t,.str (T lb) u] λy=>.str (T ((a::la)++lb)) (y.n 0)):=by
 subst hd;exact ia a d la dl t u hl
noncomputable def d9(X:Expr)(cs:List (Str×Addr))(loc cl:Addr):Env:=⟨td (pO X),cl,3,cs,T [108,97,119,46,60,108,111,99,97,108,115,62,46],none,.ref 516,some loc,0⟩
noncomputable def o1{τ:Type}:Option τ->List τ
 |some x=>[x]
 |none=>[]
theorem fk{τ:Type}(o:Option τ):(o1 o).length<=1:=by cases o<;>simp[o1]
theorem rR(y:Int):et λd dl=>cE y=d::dl/\dl.length<=5:=by
 unfold cE;split<;>exact⟨_,_,rfl,by simp⟩
noncomputable def pk(nums:List Int)(i:Nat):List Int:=o1 (nums[i]?.map λx=>bif Int.fmod x 2==0 then(i:Int)+1 else-(i:Int)-1)
noncomputable def gC(nums:List Int):List Int:=(List.range nums.length).flatMap (pk nums)
noncomputable def vR(x:Int):Nat:=(Int.fmod (Int.fdiv x 2) 3).toNat
noncomputable def uW(nums row:List Int)(i:Nat):List (List Nat):=o1 ((nums[i]?).bind λx=>row[i]?.map λy=>kz (vR x) y)
noncomputable def ny(nums row:List Int):List (List Nat):=(List.range nums.length).flatMap (uW nums row)
noncomputable def m1(now:List Int)(st:List Int)(i:Nat):List (List Nat):=o1 ((st[i]?).bind λk=>now[k.toNat]?.map cE)
noncomputable def gX(now st:List Int):List (List Nat):=(List.range st.length).flatMap (m1 now st)
noncomputable def qn(now st:List Int)(i:Nat):List Int:=bif st.any (·==(i:Int))||st.any (·==(i:Int)-Int.ofNat 1)then[]else o1 now[i]?
noncomputable def jF(now st:List Int):List Int:=(List.range now.length).flatMap (qn now st)
noncomputable def Bn(l:List Int)(i:Nat):List (List Nat):=o1 ((l[i]?).bind λx=>bif decide (x>0)then some (cE x)else none)
noncomputable def ik(l:List Int):List (List Nat):=(List.range l.length).flatMap (Bn l)
noncomputable def IQ(l:List (List Nat))(i:Nat):List (List Nat):=o1 ((l[i]?).bind λy=>bif y != []then some y else none)
noncomputable def BV(l:List (List Nat)):List (List Nat):=(List.range l.length).flatMap (IQ l)
noncomputable def FO(ps:List (List Nat))(l:List Int)(i:Nat):List (List Nat):=o1 ((l[i]?).bind λx=>ps[(bT x).toNat]?)
noncomputable def sI(ps:List (List Nat))(l:List Int):List (List Nat):=(List.range l.length).flatMap (FO ps l)
noncomputable def sX(l:List Int)(i:Nat):List (List Nat):=o1 (l[i]?.map cE)
noncomputable def hU(l:List Int):List (List Nat):=(List.range l.length).flatMap (sX l)
noncomputable def sZ(g:List (List Nat×List Nat))(i:Nat):List (List Nat):=o1 (g[i]?.map (·.2))
noncomputable def le(g:List (List Nat×List Nat)):List (List Nat):=(List.range g.length).flatMap (sZ g)
theorem Il(it cl acc loc:Addr)(nu c1:Addr)(nums:List (Int×Tok))(n:Nat)(left:Int)(hl:left=nums.length)(hn:nums.length<=90)(hz1:1<=nums.length)(w:World):af w mT 60 (dH vI w.params (gC (nums.map (·.1))) JS it cl acc (d9 JS [(T [110,117,109,98,101,114,115],c1)] loc cl) Ds [(nu,oL (vI nums) n),(c1,aQ (.ref nu))] (aY 0 left) (aY left 0)):=
 lm (el:=pk (nums.map (·.1))) rfl hl hz1 (by omega) (λ_=>fk _) (by rw[<-Mc (f:=(·.1))];rfl) (by kernel_rfl) λi b o vs m hi ho hv hlf h0 hf=>by
  obtain⟨x,hx⟩:∃x,nums[i]?=some x:=⟨_,Mp hi⟩;have hx':(vI nums)[(i:Int).toNat]?=some (.int x.1 x.2):=by rw[cT,M0,hx];rfl
  have ee:pk (nums.map (·.1)) i=[bif Int.fmod x.1 2==0 then(i:Int)+1 else-(i:Int)-1]:=by unfold pk;rw[Mf,hx];rfl
  rw[ee];cases hp:(Int.fmod x.1 2==0)with
  |true=>exact gJ 0x4082184082108208189186105 (λw=>[gu 0 hlf,b6 3 h0 hf hx',qF hp,dF 2 hv]) [0,1,2,3,4] (λch=>.int i (nZ ch 0)) ho (λch=>nZ ch 8) (by kernel_rfl) λ_ _=>by kernel_rfl
  |false=>exact gJ 0x4082082184082108208189186105 (λw=>[gu 0 hlf,b6 3 h0 hf hx',qF hp,dF 2 hv]) [0,1,2,3,4] (λch=>.int i (nZ ch 0)) ho (λch=>nZ ch 9) (by kernel_rfl) λ_ _=>by kernel_rfl
theorem Im(it cl acc loc:Addr)(nu c1 rw_ c2:Addr)(nums row:List (Int×Tok))(n n1:Nat)(left:Int)(hl:left=nums.length)(hn:nums.length<=90)(hr:row.length=nums.length)(hok:∀p∈row,fD p.1)(hz1:1<=nums.length)(w:World):af w mT 60 (dH vT w.params (ny (nums.map (·.1)) (row.map (·.1))) JT it cl acc (d9 JT [(T [114,111,119],c2),(T [110,117,109,98,101,114,115],c1)] loc cl) Ds [(nu,oL (vI nums) n),(c1,aQ (.ref nu)),(rw_,oL (vI row) n1),(c2,aQ (.ref rw_))] (aY 0 left) (aY left 0)):=
 lm (el:=uW (nums.map (·.1)) (row.map (·.1))) rfl hl hz1 (by omega) (λ_=>fk _) (by rw[<-Mc (f:=(·.1))];rfl) (by kernel_rfl) λi b o vs m hi ho hv hlf h0 hf=>by
  obtain⟨x,hx⟩:∃x,nums[i]?=some x:=⟨_,Mp hi⟩;obtain⟨y,hy⟩:∃y,row[i]?=some y:=⟨_,Mp (by omega)⟩;have hx':(vI nums)[(i:Int).toNat]?=some (.int x.1 x.2):=by rw[cT,M0,hx];rfl
  have hy':(vI row)[(i:Int).toNat]?=some (.int y.1 y.2):=by rw[cT,M0,hy];rfl
  have hk:=hok y (ME hy);have ee:uW (nums.map (·.1)) (row.map (·.1)) i=[kz (vR x.1) y.1]:=by unfold uW;rw[Mf,Mf,hx,hy];rfl
  obtain⟨d,dl,hd,hdl⟩:=rR y.1;rw[ee];have h3:Int.fmod (Int.fdiv x.1 2) 3=0\/Int.fmod (Int.fdiv x.1 2) 3=1\/Int.fmod (Int.fdiv x.1 2) 3=2:=by
   have a1:=Int.fmod_nonneg_of_pos (Int.fdiv x.1 2) (show(0:Int)<3 by decide);have a2:=Int.fmod_lt_of_pos (Int.fdiv x.1 2) (show(0:Int)<3 by decide);omega
  rcases h3 with hp |hp |hp
  .have ep:kz (vR x.1) y.1=cE y.1:=by unfold vR;rw[hp];exact cQ _
   rw[ep];exact gJ 0x408210110a28a18b04210c30c082082108208189186105 (λw=>[gu 0 hlf,b6 3 h0 hf hx',rF 0 [7] [] λhh=>t0 (aZ hh 5) (.str (T []) (nZ hh 2)) (.str (T [46,47]) (nZ hh 3)) (.str (T [120,47,46,46,47]) (nZ hh 4)) 0 (Int.fmod (Int.fdiv x.1 2) 3) (nZ hh 10) (by assumption),b6 5 h0 hf hy',rT 10 [] [] λhh=>fP y.1 y.2 hk,dF 2 hv]) [0,1,2,3,4,5,6] (λch=>.int i (nZ ch 0)) ho (λch=>nZ ch 13) (by kernel_rfl) λ_ _=>by kernel_rfl
  .have ep:kz (vR x.1) y.1=46::47::cE y.1:=by unfold vR;rw[hp];show jP [[46],cE y.1]=_;rw[aS,cQ];rfl
   rw[ep];exact gJ 0x10410110a28a18b04210c30c082082108208189186105 (λw=>[gu 0 hlf,b6 3 h0 hf hx',rF 0 [7] [] λhh=>t9 (aZ hh 5) (.str (T []) (nZ hh 2)) (.str (T [46,47]) (nZ hh 3)) (.str (T [120,47,46,46,47]) (nZ hh 4)) 0 (Int.fmod (Int.fdiv x.1 2) 3) (nZ hh 10) (by assumption),b6 5 h0 hf hy',rT 10 [] [] λhh=>fP y.1 y.2 hk,rF 0 [] [] λhh=>qj 46 [47] (cE y.1) (nZ hh 3) (nZ hh 13) d dl hd (by simp;omega),dF 2 hv]) [0,1,2,3,4,5,6] (λch=>.int i (nZ ch 0)) ho (λch=>nZ ch 14) (by kernel_rfl) λ_ _=>by kernel_rfl
  .have ep:kz (vR x.1) y.1=120::47::46::46::47::cE y.1:=by unfold vR;rw[hp];show jP [[120],[46,46],cE y.1]=_;rw[aS,aS,cQ];rfl
   rw[ep];exact gJ 0x10410110a28a18b04210c30c082082108208189186105 (λw=>[gu 0 hlf,b6 3 h0 hf hx',rF 0 [7] [] λhh=>ua (aZ hh 5) (.str (T []) (nZ hh 2)) (.str (T [46,47]) (nZ hh 3)) (.str (T [120,47,46,46,47]) (nZ hh 4)) 0 (Int.fmod (Int.fdiv x.1 2) 3) (nZ hh 10) (by assumption),b6 5 h0 hf hy',rT 10 [] [] λhh=>fP y.1 y.2 hk,rF 0 [] [] λhh=>qj 120 [47,46,46,47] (cE y.1) (nZ hh 4) (nZ hh 13) d dl hd (by simp;omega),dF 2 hv]) [0,1,2,3,4,5,6] (λch=>.int i (nZ ch 0)) ho (λch=>nZ ch 14) (by kernel_rfl) λ_ _=>by kernel_rfl
theorem Io(it cl acc loc:Addr)(tp:Addr)(ys:List Pt)(g:List (List Nat×List Nat))(hg:ys.map (·.1)=g.map (·.1))(hb:∀p∈g,h8 p.1 p.2)(hn:ys.length<=90)(hz1:1<=ys.length)(w:World):af w mT 60 (dH vT w.params (le g) zS it cl acc (d9 zS [] loc cl) s7 [(tp,aj (vT ys))] (eU tp 0) (dg ys.length)):=by
 have key:=oC (w:=w) (hb:=mT) (lv:=60) (e:=zS) (it:=it) (cl:=cl) (acc:=acc) (env:=d9 zS [] loc cl) (ls:=s7) (F:=[(tp,aj (vT ys))]) (io:=λi=>eU tp i) (iE:=dg ys.length) (n:=ys.length) (el:=sZ g) (f:=λp=>Value.str (T p.1) p.2) rfl (.inr (.inr (.inr ⟨_,_,rfl⟩))) hz1 ?_ ?_ ?_ (spec:=le g) ?_
 .exact key
 .intro i b o vs m hi ho hv;obtain⟨x,hx⟩:∃x,ys[i]?=some x:=⟨_,Mp hi⟩;have hx':(vT ys)[i]?=some (.str (T x.1) x.2):=by rw[cJ,hx];rfl
  have hi2:i<g.length:=by rw[<-Mc (f:=(·.1)),<-hg,Mc];exact hi
  have hgi:g[i]?=some (x.1,(g[i]'hi2).2):=by
   have h1:(g.map (·.1))[i]?=some x.1:=by rw[<-hg,Mf,hx];rfl
   rw[Mf,Mp hi2]at h1;rw[Mp hi2];have h2:=M2 h1;rw[<-h2]
  have ee:sZ g i=[(g[i]'hi2).2]:=by unfold sZ;rw[hgi];rfl
  have hbs:=hb _ (ME hgi);rw[ee];exact gJ 0x4101181186105 (λw=>[ky 0 3 hx',rT 20 [] [] λhh=>xe x.1 _ x.2 hbs w,dF 2 (M4 hv (by decide))]) [0,1,2,3] (λ_=>.str (T x.1) x.2) ho (λch=>nZ ch 2) (by kernel_rfl) λ_ _=>by kernel_rfl
 .intro o vs m;have hx:(vT ys)[ys.length]?=none:=by rw[cJ,Nh (Me _)];rfl
  have E:An (eF zS it acc (d9 zS [] loc cl)) (λ_=>[(it,eU tp ys.length),(tp,aj (vT ys))]) 2113858 (λw=>[x8 0 1 hx]) [0,1] λ_ _=>[(it,dg ys.length),(tp,aj (vT ys))]:=by kernel_rfl
  exact(((E.use w).frame [(cl,o),(acc,oL vs m)]).perm (xO _ _ _ _ [])).mono (fq λch=>⟨_,⟨rfl,rfl⟩,xO _ _ _ _ []⟩)
 .exact λi hi=>M4 (eR (λi=>fk _) i) (by omega)
 .unfold le;rw[<-Mc (as:=g) (f:=(·.1)),<-hg,Mc]
theorem Ip(it cl acc loc:Addr)(st nw c4:Addr)(ss now:List (Int×Tok))(n n1:Nat)(hks:∀k∈ss,0<=k.1/\k.1<now.length)(hok:∀p∈now,fD p.1)(hn:now.length<=90)(hn2:ss.length<=90)(hz1:1<=ss.length)(w:World):af w mT 60 (dH vT w.params (gX (now.map (·.1)) (ss.map (·.1))) FV it cl acc (d9 FV [(T [110,111,119],c4)] loc cl) Ds [(st,oL (vI ss) n),(nw,oL (vI now) n1),(c4,aQ (.ref nw))] (aI st 0) (ar ss.length)):=
 ji (el:=m1 (now.map (·.1)) (ss.map (·.1))) rfl (Mc _) hz1 (by omega) (λ_=>fk _) (by rw[<-Mc (f:=(·.1))];rfl) (λ_=>by kernel_rfl) λi b o vs m hi ho hv=>by
  obtain⟨k,hk⟩:∃k,ss[i]?=some k:=⟨_,Mp hi⟩;have hk':(vI ss)[i]?=some (.int k.1 k.2):=by rw[cT,hk];rfl
  obtain⟨k0,k1⟩:=hks k (ME hk);obtain⟨y,hy⟩:∃y,now[k.1.toNat]?=some y:=⟨_,Mp (by omega)⟩;have hy':(vI now)[k.1.toNat]?=some (.int y.1 y.2):=by rw[cT,hy];rfl
  have ee:m1 (now.map (·.1)) (ss.map (·.1)) i=[cE y.1]:=by
   unfold m1;rw[Mf,hk];show o1 ((now.map (·.1))[k.1.toNat]?.map cE)=_;rw[Mf,hy];rfl
  rw[ee];exact gJ 0x104044249246281186105 (λw=>[cH 0 3 hk',b6 4 k0 (kH k0 (by omega)) hy',rT 10 [] [] λhh=>fP y.1 y.2 (hok y (ME hy)),dF 2 hv]) [0,1,2,3,4,5] (λ_=>.int k.1 k.2) ho (λch=>nZ ch 3) (by kernel_rfl) λ_ _=>by kernel_rfl
theorem Iq(it cl acc loc:Addr)(nw c4 st c5:Addr)(now ss:List (Int×Tok))(n n1:Nat)(left:Int)(hl:left=now.length)(hn:now.length<=90)(hz1:1<=now.length)(w:World):af w mT 60 (dH vI w.params (jF (now.map (·.1)) (ss.map (·.1))) JU it cl acc (d9 JU [(T [115,116,114,117,99,107],c5),(T [110,111,119],c4)] loc cl) Ds [(c4,aQ (.ref nw)),(nw,oL (vI now) n),(c5,aQ (.ref st)),(st,oL (vI ss) n1)] (aY 0 left) (aY left 0)):=
 lm (el:=qn (now.map (·.1)) (ss.map (·.1))) rfl hl hz1 (by omega) (λi=>by unfold qn;cases(_||_)<;>simp[fk]) (by rw[<-Mc (f:=(·.1))];rfl) (by kernel_rfl) λi b o vs m hi ho hv hlf h0 hf=>by
  obtain⟨x,hx⟩:∃x,now[i]?=some x:=⟨_,Mp hi⟩;have hx':(vI now)[(i:Int).toNat]?=some (.int x.1 x.2):=by rw[cT,M0,hx];rfl
  unfold qn;rw[Mf,hx];cases g1:(ss.map (·.1)).any (·==(i:Int))with
  |true=>exact BQ 0x42cb286186105 (λw=>[gu 0 hlf,nk 6 g1]) [0,1,2,3,4,5,6] (λch=>.int i (nZ ch 0)) ho (by kernel_rfl) λ_ _=>by kernel_rfl
  |false=>
   cases g2:(ss.map (·.1)).any (·==(i:Int)-Int.ofNat 1)with
   |true=>exact BQ 0x10b2ca0821842cb286186105 (λw=>[gu 0 hlf,nk 6 g1,nk 6 g2]) [0,1,2,3,4,5,6] (λch=>.int i (nZ ch 0)) ho (by kernel_rfl) λ_ _=>by kernel_rfl
   |false=>exact gJ 0x410924918810b2ca0821842cb286186105 (λw=>[gu 0 hlf,nk 6 g1,nk 6 g2,b6 4 h0 hf hx',dF 2 hv]) [0,1,2,3,4,5,6] (λch=>.int i (nZ ch 0)) ho (λ_=>x.2) (by kernel_rfl) λ_ _=>by kernel_rfl
theorem Ir(it cl acc loc:Addr)(la:Addr)(ls:List (Int×Tok))(n:Nat)(hok:∀p∈ls,fD p.1)(hn:ls.length<=90)(hz1:1<=ls.length)(w:World):af w mT 60 (dH vT w.params (ik (ls.map (·.1))) FW it cl acc (d9 FW [] loc cl) cX [(la,oL (vI ls) n)] (aI la 0) (ar ls.length)):=
 ji (el:=Bn (ls.map (·.1))) rfl (Mc _) hz1 (by omega) (λ_=>fk _) (by rw[<-Mc (f:=(·.1))];rfl) (λ_=>by kernel_rfl) λi b o vs m hi ho hv=>by
  obtain⟨x,hx⟩:∃x,ls[i]?=some x:=⟨_,Mp hi⟩;have hx':(vI ls)[i]?=some (.int x.1 x.2):=by rw[cT,hx];rfl
  have hk:=hok x (ME hx);unfold Bn;rw[Mf,hx];simp only[Np,Ov];cases hp:decide (x.1>0)with
  |true=>exact gJ 0x4101181106186105 (λw=>[cH 0 3 hx',dX hp,rT 10 [] [] λhh=>fP x.1 x.2 hk,dF 2 hv]) [0,1,2,3] (λ_=>.int x.1 x.2) ho (λch=>nZ ch 4) (by kernel_rfl) λ_ _=>by kernel_rfl
  |false=>exact BQ 4397228293 (λw=>[cH 0 3 hx',dX hp]) [0,1,2,3] (λ_=>.int x.1 x.2) ho (by kernel_rfl) λ_ _=>by kernel_rfl
theorem Is(it cl acc loc:Addr)(sp:Addr)(ps:List Pt)(n:Nat)(hn:ps.length<=90)(hz1:1<=ps.length)(w:World):af w mT 60 (dH vT w.params (BV (ps.map (·.1))) FX it cl acc (d9 FX [] loc cl) yQ [(sp,oL (vT ps) n)] (aI sp 0) (ar ps.length)):=
 ji (el:=IQ (ps.map (·.1))) rfl (Mc _) hz1 (by omega) (λ_=>fk _) (by rw[<-Mc (f:=(·.1))];rfl) (λ_=>by kernel_rfl) λi b o vs m hi ho hv=>by
  obtain⟨x,hx⟩:∃x,ps[i]?=some x:=⟨_,Mp hi⟩;have hx':(vT ps)[i]?=some (.str (T x.1) x.2):=by rw[cJ,hx];rfl
  unfold IQ;rw[Mf,hx];simp only[Np,Ov];cases hp:(x.1 != [])with
  |true=>exact gJ 18008900133125 (λw=>[cH 0 3 hx',rF 0 [] [] λhh=>c9 (T x.1) (T []) x.2 (nZ hh 2) true hp,dF 2 hv]) [0,1,2,3] (λ_=>.str (T x.1) x.2) ho (λ_=>x.2) (by kernel_rfl) λ_ _=>by kernel_rfl
  |false=>exact BQ 4397228293 (λw=>[cH 0 3 hx',rF 0 [] [] λhh=>c9 (T x.1) (T []) x.2 (nZ hh 2) false hp]) [0,1,2,3] (λ_=>.str (T x.1) x.2) ho (by kernel_rfl) λ_ _=>by kernel_rfl
theorem It(it cl acc loc:Addr)(sg pc c3:Addr)(st:List (Int×Tok))(ps:List Pt)(n n1:Nat)(hok:∀p∈st,fD p.1/\(bT p.1).toNat<ps.length)(hn:st.length<=90)(hz1:1<=st.length)(w:World):af w mT 60 (dH vT w.params (sI (ps.map (·.1)) (st.map (·.1))) FY it cl acc (d9 FY [(T [112,105,101,99,101,115],c3)] loc cl) cX [(sg,oL (vI st) n),(c3,aQ (.ref pc)),(pc,oL (vT ps) n1)] (aI sg 0) (ar st.length)):=
 ji (el:=FO (ps.map (·.1)) (st.map (·.1))) rfl (Mc _) hz1 (by omega) (λ_=>fk _) (by rw[<-Mc (f:=(·.1))];rfl) (λ_=>by kernel_rfl) λi b o vs m hi ho hv=>by
  obtain⟨x,hx⟩:∃x,st[i]?=some x:=⟨_,Mp hi⟩;have hx':(vI st)[i]?=some (.int x.1 x.2):=by rw[cT,hx];rfl
  obtain⟨hk,hlt⟩:=hok x (ME hx);obtain⟨q,hq⟩:∃q,ps[(bT x.1).toNat]?=some q:=⟨_,Mp hlt⟩;have hq':(vT ps)[(bT x.1).toNat]?=some (.str (T q.1) q.2):=by rw[cJ,hq];rfl
  have ee:FO (ps.map (·.1)) (st.map (·.1)) i=[q.1]:=by
   unfold FO;rw[Mf,hx];show o1 ((ps.map (·.1))[(bT x.1).toNat]?)=_;rw[Mf,hq];rfl
  rw[ee];unfold bT at hq';obtain⟨k1,k2,k3⟩:=hk;cases hn1:decide (x.1<0)with
  |true=>
   have hneg:=of_decide_eq_true hn1;rw[hn1]at hq';have h0:0<= -x.1-Int.ofNat 1:=by simp only[Mx];omega
   have hf:Builtin.List.listFitsIndex (-x.1-Int.ofNat 1)=true:=kH h0 (by simp only[Mx];omega);exact gJ 0x10428a282084082181049186105 (λw=>[cH 0 3 hx',rF 0 [] [] λhh=>gm x.1 x.2 hn1,b6 5 h0 hf hq',dF 2 hv]) [0,1,2,3,4,5] (λ_=>.int x.1 x.2) ho (λ_=>q.2) (by kernel_rfl) λ_ _=>by kernel_rfl
  |false=>
   have hneg:=of_decide_eq_false hn1;rw[hn1]at hq';have h0:0<=x.1-Int.ofNat 1:=by simp only[Mx];omega
   have hf:Builtin.List.listFitsIndex (x.1-Int.ofNat 1)=true:=kH h0 (by simp only[Mx];omega);exact gJ 0x10428a282084082181049186105 (λw=>[cH 0 3 hx',rF 0 [] [] λhh=>oP x.1 x.2 hn1,b6 5 h0 hf hq',dF 2 hv]) [0,1,2,3,4,5] (λ_=>.int x.1 x.2) ho (λ_=>q.2) (by kernel_rfl) λ_ _=>by kernel_rfl
theorem Ew(it cl acc loc:Addr)(sg:Addr)(st:List (Int×Tok))(n:Nat)(hok:∀p∈st,fD p.1)(hn:st.length<=90)(hz1:1<=st.length)(w:World):af w mT 60 (dH vT w.params (hU (st.map (·.1))) F0 it cl acc (d9 F0 [] loc cl) cX [(sg,oL (vI st) n)] (aI sg 0) (ar st.length)):=
 ji (el:=sX (st.map (·.1))) rfl (Mc _) hz1 (by omega) (λ_=>fk _) (by rw[<-Mc (f:=(·.1))];rfl) (λ_=>by kernel_rfl) λi b o vs m hi ho hv=>by
  obtain⟨x,hx⟩:∃x,st[i]?=some x:=⟨_,Mp hi⟩;have hx':(vI st)[i]?=some (.int x.1 x.2):=by rw[cT,hx];rfl
  have hk:=hok x (ME hx);have ee:sX (st.map (·.1)) i=[cE x.1]:=by unfold sX;rw[Mf,hx];rfl
  rw[ee];exact gJ 0x4101181186105 (λw=>[cH 0 3 hx',rT 10 [] [] λhh=>fP x.1 x.2 hk,dF 2 hv]) [0,1,2,3] (λ_=>.int x.1 x.2) ho (λch=>nZ ch 2) (by kernel_rfl) λ_ _=>by kernel_rfl
theorem Es(it cl acc loc la:Addr)(n:Nat)(w:World):af w mT 60 (fL FW it cl acc (d9 FW [] loc cl) [(la,oL [] n)] (aI la 0) (ar 0)):=
 oB rfl (by kernel_rfl)
theorem Eu(it cl acc loc sg c3:Addr)(n:Nat)(w:World):af w mT 60 (fL FY it cl acc (d9 FY [(T [112,105,101,99,101,115],c3)] loc cl) [(sg,oL [] n)] (aI sg 0) (ar 0)):=
 oB rfl (by kernel_rfl)
theorem zc(it cl acc loc sg:Addr)(n:Nat)(w:World):af w mT 60 (fL F0 it cl acc (d9 F0 [] loc cl) [(sg,oL [] n)] (aI sg 0) (ar 0)):=
 oB rfl (by kernel_rfl)
section
section
variable(loc sc c1 c2 c3 c4 c5 rw pc:Addr)(kk:Nat->Tok)(row:List (Int×Tok))(n1 n2:Nat)(ps:List Pt)(hs:List Nat)(g:List PN)(ls:List (List Nat))(x:Int)(t:Tok)(rest:List (Int×Tok))
noncomputable def Iu(vs:List (Int×Tok))(n:Nat)(hl:(vI vs).length<=1000)(hl2:((vI vs).take 8).length<=1000)(w:World):=
 aq (mT) 180 (λP=>aX [aP bB 0] (br (bF c1 c2 c3 c4 c5) loc))
 (λP=>[(sc,oL (vI vs) n),(loc,frm P aC kk [.ref sc] 1),(c1,dk),(c2,dk),(c3,dk),(c4,dk),(c5,dk)]) (λP=>[])
 0x71c430e304145146 (λw=>[rF 0 [0,8] [] λhh=>uc sc (aZ hh 9) (vI vs) n 8 (nZ hh 8) (by omega),rF 0 [7,9] [] λhh=>AX (aZ hh 7) (aZ hh 10) [.int 0 (nZ hh 0),.int 2 (nZ hh 1),.int 5 (nZ hh 2),.int 4 (nZ hh 3),.int 1 (nZ hh 4),.int 3 (nZ hh 5),.int 0 (nZ hh 6)] (List.take 8 (vI vs)) 0 0 (by simp;omega)])
 [0,1,2,3,4,5,6,10] [] (λP ch=>.ok true) (λP ch=>[(sc,oL (vI vs) n),(loc,frm P aC kk [.ref sc] 1),(c1,aQ (.ref (aZ ch 11))),(c2,⟨.type "cell",none,.cell none,⟨[]⟩⟩),(c3,⟨.type "cell",none,.cell none,⟨[]⟩⟩),(c4,⟨.type "cell",none,.cell none,⟨[]⟩⟩),(c5,⟨.type "cell",none,.cell none,⟨[]⟩⟩),(aZ ch 11,oL ((.int 0 (nZ ch 0))::(.int 2 (nZ ch 1))::(.int 5 (nZ ch 2))::(.int 4 (nZ ch 3))::(.int 1 (nZ ch 4))::(.int 3 (nZ ch 5))::(.int 0 (nZ ch 6))::(List.take 8 (vI vs))) 0)]) (λP ch=>[]) w
noncomputable def Iv(nu:Addr)(kk:Nat->Tok)(nums:List (Int×Tok))(n m:Nat)(hm:(vI nums).length=m+1)(hl:(vI nums).length<=1000)(h0:0<=Int.ofNat (m+1))(h1:Int.ofNat (m+1)<=10000)(h2:Int.ofNat (m+1)=nums.length)(h3:nums.length<=90)(h4:1<=nums.length)(w:World):=
 aq (mT) 180 (λP=>aX [aP bB 1] (br (bF c1 c2 c3 c4 c5) loc))
 (λP=>[(loc,frm P aC kk [.ref sc] 1),(c1,aQ (.ref nu)),(c2,dk),(nu,oL (vI nums) n)]) (λP=>[])
 0x71cc30c10a109249089089242082084086041041 (λw=>[rF 0 [3] [] λhh=>aF nu (vI nums) n (m+1) hm (by omega),rF 0 [4] [] λhh=>dT (aZ hh 3) (Int.ofNat (m+1)) (nZ hh 1) (nZ hh 0) (nZ hh 2) h0 h1,rT 60 [5,7,6,3,1] [] λhh=>Il (aZ hh 4) (aZ hh 6) (aZ hh 5) loc nu c1 nums n (Int.ofNat (m+1)) h2 h3 h4 w])
 [0,1,2,3,6] [] (λP ch=>.ok true) (λP ch=>[(loc,frm P aC kk [.ref sc] 1),(c1,aQ (.ref nu)),(c2,aQ (.ref (aZ ch 5))),(nu,oL (vI nums) n),(aZ ch 5,(oL (vI (bh (gC (nums.map (·.1))) (ch 7)).1) (bh (gC (nums.map (·.1))) (ch 7)).2.1))]) (λP ch=>[]) w
noncomputable def Iw(nu rw:Addr)(kk:Nat->Tok)(nums row:List (Int×Tok))(n n1 m:Nat)(hm:(vI nums).length=m+1)(hl:(vI nums).length<=1000)(h0:0<=Int.ofNat (m+1))(h1:Int.ofNat (m+1)<=10000)(h2:Int.ofNat (m+1)=nums.length)(h3:nums.length<=90)(h4:1<=nums.length)(hr:row.length=nums.length)(hok:∀p∈row,fD p.1)(w:World):=
 aq (mT) 180 (λP=>aX [aP bB 2] (br (bF c1 c2 c3 c4 c5) loc))
 (λP=>[(loc,frm P aC kk [.ref sc] 1),(c1,aQ (.ref nu)),(c2,aQ (.ref rw)),(c3,dk),(nu,oL (vI nums) n),(rw,oL (vI row) n1)]) (λP=>[])
 0x820e38e10c10b2cb08b08b2c2082084086041041 (λw=>[rF 0 [4] [] λhh=>aF nu (vI nums) n (m+1) hm (by omega),rF 0 [6] [] λhh=>dT (aZ hh 3) (Int.ofNat (m+1)) (nZ hh 1) (nZ hh 0) (nZ hh 2) h0 h1,rT 60 [7,9,8,4,1,5,2] [] λhh=>Im (aZ hh 4) (aZ hh 6) (aZ hh 5) loc nu c1 rw c2 nums row n n1 (Int.ofNat (m+1)) h2 h3 hr hok h4 w])
 [0,1,2,3,4,5,8] [] (λP ch=>.ok true) (λP ch=>[(loc,frm P aC kk [.ref sc] 1),(c1,aQ (.ref nu)),(c2,aQ (.ref rw)),(c3,aQ (.ref (aZ ch 5))),(nu,oL (vI nums) n),(rw,oL (vI row) n1),(aZ ch 5,(oL (vT (bh (ny (nums.map (·.1)) (row.map (·.1))) (ch 7)).1) (bh (ny (nums.map (·.1)) (row.map (·.1))) (ch 7)).2.1))]) (λP ch=>[]) w
noncomputable def Ix(e:row=(x,t)::rest)(hx:1<=x)(ho:∀p∈row,fD p.1/\jT ps p.1)(hq:ga (row.map (·.1)) ⟨[],[],[]⟩=some ⟨hs,ls,g⟩)(w:World):=
 aq (mT) 180 (λP=>aX [aP bB 3] (br (bF c1 c2 c3 c4 c5) loc))
 (λP=>[(loc,frm P aC kk [.ref sc] 1),(c2,aQ (.ref rw)),(c3,aQ (.ref pc)),(rw,oL (vI row) n1),(pc,oL (vT ps) n2)]) (λP=>[])
 0x514515010e10e10e38234234d344047181 (λw=>[rT 120 [3,4] [] λhh=>xi rw pc row n1 n2 ps hs g ls x t rest e hx ho hq w,bX 9 8,bX 9 8,f6 9 8])
 [0,1,2,3,4,5,6,7] [0] (λP ch=>.ok true) (λP ch=>[(loc,frm P aC (kx kk 1 [nZ ch 5,nZ ch 6]) [.ref sc,.ref (((ch 0).n 9)+ab),.str (T (47::(jP (cc hs)))) (d4 g (ch 0)).2.2.1] 3),(c2,aQ (.ref rw)),(c3,aQ (.ref pc)),(rw,oL (vI row) n1),(pc,oL (vT ps) n2),(((ch 0).n 1)+ab,aD P sN (kl [(ch 0).n 2,(ch 0).n 3,(ch 0).n 4,(ch 0).n 5]) [.ref (((ch 0).n 6)+ab),.none,.int 0 ((ch 0).n 7),.int 0 ((ch 0).n 8)] 4),(((ch 0).n 9)+ab,oI 484 (((ch 0).n 1)+ab)),(((ch 0).n 6)+ab,oD (eS P (ac (d4 g (ch 0)).1)) (d4 g (ch 0)).2.1)]) (λP ch=>[ag (d4 g (ch 0)).1]) w
noncomputable def Iy(so sd n0:Addr)(kk k:Nat->Tok)(gv pv nv:Value)(n f:Nat)(ns:List Nd)(seen':List (List Nat))(hz:(ac ns).length<=10000)(h1:1<=ns.length)(hn:ns.length<=9000)(hf:dO (fA ns) f (ns.map (·.nm)) []=some seen')(lf:f<=400)(w:World):=
 aq (Mine.Md.mk true (some [br (bF c1 c2 c3 c4 c5) loc])) 180 (λP=>aX [aP bB 4] (br (bF c1 c2 c3 c4 c5) loc))
 (λP=>[(loc,frm P aC kk [.ref sc,.ref so,gv] 3),(so,oI 484 sd),(sd,aD P sN k [.ref (n0+ab),.none,pv,nv] 4),(n0+ab,oD (eS P (ac ns)) n)]) (λP=>[ag ns])
 0x1011c6041041181041181041185 (λw=>[rM (λhh=>(Mine.Md.mk true (some [br [(T [115,116,114,117,99,107],c5),(T [110,111,119],c4),(T [112,105,101,99,101,115],c3),(T [114,111,119],c2),(T [110,117,109,98,101,114,115],c1)] loc]))) 100 [0,1,2,3] [0] λhh=>xn [(T [115,116,114,117,99,107],c5),(T [110,111,119],c4),(T [112,105,101,99,101,115],c3),(T [114,111,119],c2),(T [110,117,109,98,101,114,115],c1)] loc so sd n0 (frm w.params aC kk [.ref sc,.ref so,gv] 3) k pv nv n f ns seen' hz h1 hn hf lf (by exact λ_ h=>nomatch h) w])
 [0,1,2,3,4] [0] (λP ch=>.ok true) (λP ch=>[(loc,ax (frm P aC kk [.ref sc,.ref so,gv] 3) (gU (ch 0)).2.2.2.2.2.2.2),(so,oI 484 sd),(sd,aD P sN k [.ref (n0+ab),.ref (aZ ch 0),pv,nv] 4),(n0+ab,oD (eS P (ac ns)) n),(aZ ch 0,oL (vT (aW ns)) (List.length (aW ns)))]) (λP ch=>[ag ns]) w
noncomputable def Iz(so rw:Addr)(kk:Nat->Tok)(gv:Value)(fs:Array (Option Value))(w:World):=
 aq (mT) 180 (λP=>aX [aP bB 5] (br (bF c1 c2 c3 c4 c5) loc))
 (λP=>[(loc,au P aC kk [.ref sc,.ref so,gv] 3 fs),(c2,aQ (.ref rw))]) (λP=>[])
 20806 (λw=>[])
 [0,1,2] [] (λP ch=>.ok true) (λP ch=>[(loc,au P aC (kx kk 3 [nZ ch 1]) [.ref sc,.ref so,gv,.ref (aZ ch 0)] 4 fs),(c2,aQ (.ref rw)),(aZ ch 0,oL [.ref rw] 0)]) (λP ch=>[]) w
end
end
section
section
variable(loc sc c1 c2 c3 c4 c5 so sd n0 rl stg nw:Addr)(kk k:Nat->Tok)(gv:Value)(fs:Array (Option Value))(pv nv:Int)(tp tn:Tok)(n m n2 n3 z:Nat)(ns:List Nd)(r1:Pt)(rs:List Pt)(sv:List Value)(now:List (Int×Tok))
noncomputable def KR(hlt:decide (nv<pv)=false)(hz:(Value.str (T r1.1) r1.2::vT rs).length=z)(hl:(vT rs).length<=1000)(hm:∀p∈(r1::rs),∃d∈ns,d.nm=p.1)(hr:now.length<=100)(w:World):=
 aq (mT) 180 (λP=>ml (aE aU) ((ao aU).take 3) (br (bF c1 c2 c3 c4 c5) loc))
 (λP=>[(loc,au P aC kk [.ref sc,.ref so,gv,.ref stg] 4 fs),(c4,dk),(c5,dk),(so,oI 484 sd),(sd,aD P sN k [.ref (n0+ab),.ref (rl+ab),.int pv tp,.int nv tn] 4),(n0+ab,oD (eS P (ac ns)) n),(rl+ab,oL (.str (T r1.1) r1.2::vT rs) m),(stg,oL (sv++[.ref nw]) n2),(nw,oL (vI now) n3)]) (λP=>[ag ns])
 0x71c404604618430c302085145101248041041201041201041205101248041041201041201041205 (λw=>[rT 60 [3,4,6] [] λhh=>tY so sd n0 rl k pv nv tp tn 0 m (.str (T r1.1) r1.2) (vT rs) hl hlt w,rT 60 [3,4,5,6] [0] λhh=>y9 so sd n0 rl k pv nv tp tn n m ns r1 rs z hz hl hm w,rF 0 [7] [] λhh=>c8 stg sv n2 (nZ hh 4) (.ref nw),rT 100 [8] [] λhh=>uk nw now n3 hr w])
 [0,1,2,3,4,5,6,7,8,9,10] [0] (λP ch=>.ok true) (λP ch=>[(loc,au P aC (kx kk 4 [nZ ch 2]) [.ref sc,.ref so,gv,.ref stg,.ref (aZ ch 1)] 5 fs),(c4,aQ (.ref nw)),(c5,aQ (.ref (aZ ch 6))),(so,oI 484 sd),(sd,aD P sN k [.ref (n0+ab),.ref (rl+ab),.int (pv+(Int.ofNat z)) ((ch 1).n 1),.int nv tn] 4),(n0+ab,oD (eS P (ac ns)) n),(rl+ab,oL [] (m+1)),(stg,oL (sv++[.ref nw]) n2),(nw,oL (vI now) n3),(aZ ch 1,aj ((.str (T r1.1) r1.2)::(vT rs))),(aZ ch 6,(oL (vI (bh (b8 (now.map (·.1))) (ch 6)).1) (bh (b8 (now.map (·.1))) (ch 6)).2.1))]) (λP ch=>[ag (List.foldl bU ns (r1::rs))]) w
noncomputable def KS(hlt:decide (nv<pv)=false)(hz:(Value.str (T r1.1) r1.2::vT rs).length=z)(hl:(vT rs).length<=1000)(hm:∀p∈(r1::rs),∃d∈ns,d.nm=p.1)(hr:now.length<=100)(g0 a4 a5:Value)(w:World):=
 aq (mT) 180 (λP=>ml (aE aU) ((ao aU).take 3) (br (bF c1 c2 c3 c4 c5) loc))
 (λP=>[(loc,au P aC kk [.ref sc,.ref so,gv,.ref stg,g0] 5 fs),(c4,aQ a4),(c5,aQ a5),(so,oI 484 sd),(sd,aD P sN k [.ref (n0+ab),.ref (rl+ab),.int pv tp,.int nv tn] 4),(n0+ab,oD (eS P (ac ns)) n),(rl+ab,oL (.str (T r1.1) r1.2::vT rs) m),(stg,oL (sv++[.ref nw]) n2),(nw,oL (vI now) n3)]) (λP=>[ag ns])
 0x71c404604618430c302085145101248041041201041201041205101248041041201041201041205 (λw=>[rT 60 [3,4,6] [] λhh=>tY so sd n0 rl k pv nv tp tn 0 m (.str (T r1.1) r1.2) (vT rs) hl hlt w,rT 60 [3,4,5,6] [0] λhh=>y9 so sd n0 rl k pv nv tp tn n m ns r1 rs z hz hl hm w,rF 0 [7] [] λhh=>c8 stg sv n2 (nZ hh 4) (.ref nw),rT 100 [8] [] λhh=>uk nw now n3 hr w])
 [0,1,2,3,4,5,6,7,8,9,10] [0] (λP ch=>.ok true) (λP ch=>[(loc,au P aC kk [.ref sc,.ref so,gv,.ref stg,.ref (aZ ch 1)] 5 fs),(c4,aQ (.ref nw)),(c5,aQ (.ref (aZ ch 6))),(so,oI 484 sd),(sd,aD P sN k [.ref (n0+ab),.ref (rl+ab),.int (pv+(Int.ofNat z)) ((ch 1).n 1),.int nv tn] 4),(n0+ab,oD (eS P (ac ns)) n),(rl+ab,oL [] (m+1)),(stg,oL (sv++[.ref nw]) n2),(nw,oL (vI now) n3),(aZ ch 1,aj ((.str (T r1.1) r1.2)::(vT rs))),(aZ ch 6,(oL (vI (bh (b8 (now.map (·.1))) (ch 6)).1) (bh (b8 (now.map (·.1))) (ch 6)).2.1))]) (λP ch=>[ag (List.foldl bU ns (r1::rs))]) w
noncomputable def KW(g1 g0:Value)(fs:Array (Option Value))(pv nv:Int)(tp tn:Tok)(n m:Nat)(hlt:decide (nv<pv)=false)(w:World):=
 cY (mT) 180 (λP=>ku aU (br (bF c1 c2 c3 c4 c5) loc))
 (λP=>[(loc,au P aC kk [.ref sc,.ref so,gv,g1,g0] 5 fs),(so,oI 484 sd),(sd,aD P sN k [.ref (n0+ab),.ref (rl+ab),.int pv tp,.int nv tn] 4),(rl+ab,oL [] m)]) (λP=>[])
 0x4047181041046041046041046142 (λw=>[rT 60 [1,2,3] [] λhh=>AV so sd n0 rl k pv nv tp tn 0 m hlt w])
 [0,1,2,3] [] (λP ch=>(.ok .next)) (λP ch=>[(loc,au P aC kk [.ref sc,.ref so,gv,g1,g0] 5 fs),(so,oI 484 sd),(sd,aD P sN k [.ref (n0+ab),.ref (rl+ab),.int pv tp,.int nv tn] 4),(rl+ab,oL [] m)]) (λP ch=>[]) w
noncomputable def KX(gp:Addr)(kk:Nat->Tok)(gv g1:Value)(fs:Array (Option Value))(ys:List Pt)(g:List (List Nat×List Nat))(hg:ys.map (·.1)=g.map (·.1))(hb:∀p∈g,h8 p.1 p.2)(hn:ys.length<=90)(hz1:1<=ys.length)(w:World):=
 aq (mT) 180 (λP=>dm zS (br (bF c1 c2 c3 c4 c5) loc))
 (λP=>[(loc,au P aC kk [.ref sc,.ref so,gv,g1,.ref gp] 5 fs),(gp,aj (vT ys))]) (λP=>[])
 0x9249107086086185 (λw=>[rT 60 [2,4,3,1] [] λhh=>Io (aZ hh 0) (aZ hh 2) (aZ hh 1) loc gp ys g hg hb hn hz1 w])
 [0,1,3] [] (λP ch=>.ok (.ref (aZ ch 1))) (λP ch=>[(loc,au P aC kk [.ref sc,.ref so,gv,g1,.ref gp] 5 fs),(gp,aj (vT ys)),(aZ ch 1,oL (vT (bh (le g) (ch 3)).1) (bh (le g) (ch 3)).2.1)]) (λP ch=>[]) w
noncomputable def KY(sc c1 c2 c3 c4 c5 st nw:Addr)(n n1:Nat)(ss now:List (Int×Tok))(hks:∀k∈ss,0<=k.1/\k.1<now.length)(hok:∀p∈now,fD p.1)(hn:now.length<=90)(hn2:ss.length<=90)(hz1:1<=ss.length)(w:World):=
 aq (mT) 180 (λP=>dm FV (br (bF c1 c2 c3 c4 c5) loc))
 (λP=>[(st,oL (vI ss) n),(nw,oL (vI now) n1),(c4,aQ (.ref nw)),(c5,aQ (.ref st))]) (λP=>[])
 0xb2cb109085085148 (λw=>[rT 60 [4,6,5,0,1,2] [] λhh=>Ip (aZ hh 0) (aZ hh 2) (aZ hh 1) loc st nw c4 ss now n n1 hks hok hn hn2 hz1 w])
 [0,1,2,3,5] [] (λP ch=>.ok (.ref (aZ ch 1))) (λP ch=>[(st,oL (vI ss) n),(nw,oL (vI now) n1),(c4,aQ (.ref nw)),(c5,aQ (.ref st)),(aZ ch 1,(oL (vT (bh (gX (now.map (·.1)) (ss.map (·.1))) (ch 3)).1) (bh (gX (now.map (·.1)) (ss.map (·.1))) (ch 3)).2.1))]) (λP ch=>[]) w
noncomputable def IC(gp:Addr)(kk k:Nat->Tok)(gv g1 pv:Value)(fs:Array (Option Value))(nv:Int)(tn:Tok)(n m2:Nat)(ns:List Nd)(y1:Pt)(ys rd:List Pt)(hv:vT ys=[.str (T y1.1) y1.2])(hc:bI ys (ns,rd))(w:World):=
 aq (mT) 180 (λP=>aX [aP (ao aU) 4] (br (bF c1 c2 c3 c4 c5) loc))
 (λP=>[(loc,au P aC kk [.ref sc,.ref so,gv,g1,.ref gp] 5 fs),(gp,aj [.str (T y1.1) y1.2]),(so,oI 484 sd),(sd,aD P sN k [.ref (n0+ab),.ref (rl+ab),pv,.int nv tn] 4),(n0+ab,oD (eS P (ac ns)) n),(rl+ab,oL (vT rd) m2)]) (λP=>[ag ns])
 0x42c204b3040861420420410480471c10410410470810411c5 (λw=>[rF 0 [7,1] [] λhh=>bC (aZ hh 2) gp [] [.str (T y1.1) y1.2] 0 (by simp),rT 70 [2,3,4,5] [0] λhh=>tN so sd n0 rl k pv nv tn n m2 ns y1 ys rd hv hc w])
 [0,1,2,3,4,5] [0] (λP ch=>.ok true) (λP ch=>[(loc,au P aC kk [.ref sc,.ref so,gv,g1,.ref gp] 5 fs),(gp,aj [.str (T y1.1) y1.2]),(so,oI 484 sd),(sd,aD P sN k [.ref (n0+ab),.ref (rl+ab),pv,.int (nv+(Int.ofNat (List.length ys))) (gD (ch 4)).2.2.2] 4),(n0+ab,oD (eS P (ac ns)) n),(rl+ab,oL (vT (aM ys (gD (ch 4)).1 (ns,rd)).2) (gD (ch 4)).2.2.1)]) (λP ch=>[ag (aM ys (gD (ch 4)).1 (ns,rd)).1]) w
noncomputable def ID(gp:Addr)(kk k:Nat->Tok)(gv g1 pv:Value)(fs:Array (Option Value))(nv:Int)(tn:Tok)(n m2:Nat)(ns:List Nd)(y1 y2:Pt)(ys rd:List Pt)(hv:vT ys=[.str (T y1.1) y1.2,.str (T y2.1) y2.2])(hc:bI ys (ns,rd))(w:World):=
 aq (mT) 180 (λP=>aX [aP (ao aU) 4] (br (bF c1 c2 c3 c4 c5) loc))
 (λP=>[(loc,au P aC kk [.ref sc,.ref so,gv,g1,.ref gp] 5 fs),(gp,aj [.str (T y1.1) y1.2,.str (T y2.1) y2.2]),(so,oI 484 sd),(sd,aD P sN k [.ref (n0+ab),.ref (rl+ab),pv,.int nv tn] 4),(n0+ab,oD (eS P (ac ns)) n),(rl+ab,oL (vT rd) m2)]) (λP=>[ag ns])
 0x42c204b3040861420420410480471c10410410470810411c5 (λw=>[rF 0 [7,1] [] λhh=>bC (aZ hh 2) gp [] [.str (T y1.1) y1.2,.str (T y2.1) y2.2] 0 (by simp),rT 70 [2,3,4,5] [0] λhh=>tO so sd n0 rl k pv nv tn n m2 ns y1 y2 ys rd hv hc w])
 [0,1,2,3,4,5] [0] (λP ch=>.ok true) (λP ch=>[(loc,au P aC kk [.ref sc,.ref so,gv,g1,.ref gp] 5 fs),(gp,aj [.str (T y1.1) y1.2,.str (T y2.1) y2.2]),(so,oI 484 sd),(sd,aD P sN k [.ref (n0+ab),.ref (rl+ab),pv,.int (nv+(Int.ofNat (List.length ys))) (gD (ch 4)).2.2.2] 4),(n0+ab,oD (eS P (ac ns)) n),(rl+ab,oL (vT (aM ys (gD (ch 4)).1 (ns,rd)).2) (gD (ch 4)).2.2.1)]) (λP ch=>[ag (aM ys (gD (ch 4)).1 (ns,rd)).1]) w
noncomputable def IE(gp:Addr)(kk k:Nat->Tok)(gv g1 pv:Value)(fs:Array (Option Value))(nv:Int)(tn:Tok)(n m2:Nat)(ns:List Nd)(y1 y2 y3:Pt)(ys rd:List Pt)(hv:vT ys=[.str (T y1.1) y1.2,.str (T y2.1) y2.2,.str (T y3.1) y3.2])(hc:bI ys (ns,rd))(w:World):=
 aq (mT) 180 (λP=>aX [aP (ao aU) 4] (br (bF c1 c2 c3 c4 c5) loc))
 (λP=>[(loc,au P aC kk [.ref sc,.ref so,gv,g1,.ref gp] 5 fs),(gp,aj [.str (T y1.1) y1.2,.str (T y2.1) y2.2,.str (T y3.1) y3.2]),(so,oI 484 sd),(sd,aD P sN k [.ref (n0+ab),.ref (rl+ab),pv,.int nv tn] 4),(n0+ab,oD (eS P (ac ns)) n),(rl+ab,oL (vT rd) m2)]) (λP=>[ag ns])
 0x42c204b3040861420420410480471c10410410470810411c5 (λw=>[rF 0 [7,1] [] λhh=>bC (aZ hh 2) gp [] [.str (T y1.1) y1.2,.str (T y2.1) y2.2,.str (T y3.1) y3.2] 0 (by simp),rT 70 [2,3,4,5] [0] λhh=>tP so sd n0 rl k pv nv tn n m2 ns y1 y2 y3 ys rd hv hc w])
 [0,1,2,3,4,5] [0] (λP ch=>.ok true) (λP ch=>[(loc,au P aC kk [.ref sc,.ref so,gv,g1,.ref gp] 5 fs),(gp,aj [.str (T y1.1) y1.2,.str (T y2.1) y2.2,.str (T y3.1) y3.2]),(so,oI 484 sd),(sd,aD P sN k [.ref (n0+ab),.ref (rl+ab),pv,.int (nv+(Int.ofNat (List.length ys))) (gD (ch 4)).2.2.2] 4),(n0+ab,oD (eS P (ac ns)) n),(rl+ab,oL (vT (aM ys (gD (ch 4)).1 (ns,rd)).2) (gD (ch 4)).2.2.1)]) (λP ch=>[ag (aM ys (gD (ch 4)).1 (ns,rd)).1]) w
noncomputable def IF(gp:Addr)(kk k:Nat->Tok)(gv g1 pv:Value)(fs:Array (Option Value))(nv:Int)(tn:Tok)(n m2:Nat)(ns:List Nd)(y1 y2 y3 y4:Pt)(ys rd:List Pt)(hv:vT ys=[.str (T y1.1) y1.2,.str (T y2.1) y2.2,.str (T y3.1) y3.2,.str (T y4.1) y4.2])(hc:bI ys (ns,rd))(w:World):=
 aq (mT) 180 (λP=>aX [aP (ao aU) 4] (br (bF c1 c2 c3 c4 c5) loc))
 (λP=>[(loc,au P aC kk [.ref sc,.ref so,gv,g1,.ref gp] 5 fs),(gp,aj [.str (T y1.1) y1.2,.str (T y2.1) y2.2,.str (T y3.1) y3.2,.str (T y4.1) y4.2]),(so,oI 484 sd),(sd,aD P sN k [.ref (n0+ab),.ref (rl+ab),pv,.int nv tn] 4),(n0+ab,oD (eS P (ac ns)) n),(rl+ab,oL (vT rd) m2)]) (λP=>[ag ns])
 0x42c204b3040861420420410480471c10410410470810411c5 (λw=>[rF 0 [7,1] [] λhh=>bC (aZ hh 2) gp [] [.str (T y1.1) y1.2,.str (T y2.1) y2.2,.str (T y3.1) y3.2,.str (T y4.1) y4.2] 0 (by simp),rT 70 [2,3,4,5] [0] λhh=>tQ so sd n0 rl k pv nv tn n m2 ns y1 y2 y3 y4 ys rd hv hc w])
 [0,1,2,3,4,5] [0] (λP ch=>.ok true) (λP ch=>[(loc,au P aC kk [.ref sc,.ref so,gv,g1,.ref gp] 5 fs),(gp,aj [.str (T y1.1) y1.2,.str (T y2.1) y2.2,.str (T y3.1) y3.2,.str (T y4.1) y4.2]),(so,oI 484 sd),(sd,aD P sN k [.ref (n0+ab),.ref (rl+ab),pv,.int (nv+(Int.ofNat (List.length ys))) (gD (ch 4)).2.2.2] 4),(n0+ab,oD (eS P (ac ns)) n),(rl+ab,oL (vT (aM ys (gD (ch 4)).1 (ns,rd)).2) (gD (ch 4)).2.2.1)]) (λP ch=>[ag (aM ys (gD (ch 4)).1 (ns,rd)).1]) w
noncomputable def IG(gp:Addr)(kk k:Nat->Tok)(gv g1 pv:Value)(fs:Array (Option Value))(nv:Int)(tn:Tok)(n m2:Nat)(ns:List Nd)(y1 y2 y3 y4 y5:Pt)(ys rd:List Pt)(hv:vT ys=[.str (T y1.1) y1.2,.str (T y2.1) y2.2,.str (T y3.1) y3.2,.str (T y4.1) y4.2,.str (T y5.1) y5.2])(hc:bI ys (ns,rd))(w:World):=
 aq (mT) 180 (λP=>aX [aP (ao aU) 4] (br (bF c1 c2 c3 c4 c5) loc))
 (λP=>[(loc,au P aC kk [.ref sc,.ref so,gv,g1,.ref gp] 5 fs),(gp,aj [.str (T y1.1) y1.2,.str (T y2.1) y2.2,.str (T y3.1) y3.2,.str (T y4.1) y4.2,.str (T y5.1) y5.2]),(so,oI 484 sd),(sd,aD P sN k [.ref (n0+ab),.ref (rl+ab),pv,.int nv tn] 4),(n0+ab,oD (eS P (ac ns)) n),(rl+ab,oL (vT rd) m2)]) (λP=>[ag ns])
 0x42c204b3040861420420410480471c10410410470810411c5 (λw=>[rF 0 [7,1] [] λhh=>bC (aZ hh 2) gp [] [.str (T y1.1) y1.2,.str (T y2.1) y2.2,.str (T y3.1) y3.2,.str (T y4.1) y4.2,.str (T y5.1) y5.2] 0 (by simp),rT 70 [2,3,4,5] [0] λhh=>tR so sd n0 rl k pv nv tn n m2 ns y1 y2 y3 y4 y5 ys rd hv hc w])
 [0,1,2,3,4,5] [0] (λP ch=>.ok true) (λP ch=>[(loc,au P aC kk [.ref sc,.ref so,gv,g1,.ref gp] 5 fs),(gp,aj [.str (T y1.1) y1.2,.str (T y2.1) y2.2,.str (T y3.1) y3.2,.str (T y4.1) y4.2,.str (T y5.1) y5.2]),(so,oI 484 sd),(sd,aD P sN k [.ref (n0+ab),.ref (rl+ab),pv,.int (nv+(Int.ofNat (List.length ys))) (gD (ch 4)).2.2.2] 4),(n0+ab,oD (eS P (ac ns)) n),(rl+ab,oL (vT (aM ys (gD (ch 4)).1 (ns,rd)).2) (gD (ch 4)).2.2.1)]) (λP ch=>[ag (aM ys (gD (ch 4)).1 (ns,rd)).1]) w
noncomputable def II(gp:Addr)(kk k:Nat->Tok)(gv g1 pv:Value)(fs:Array (Option Value))(nv:Int)(tn:Tok)(n m2:Nat)(ns:List Nd)(y1 y2 y3 y4 y5 y6:Pt)(ys rd:List Pt)(hv:vT ys=[.str (T y1.1) y1.2,.str (T y2.1) y2.2,.str (T y3.1) y3.2,.str (T y4.1) y4.2,.str (T y5.1) y5.2,.str (T y6.1) y6.2])(hc:bI ys (ns,rd))(w:World):=
 aq (mT) 180 (λP=>aX [aP (ao aU) 4] (br (bF c1 c2 c3 c4 c5) loc))
 (λP=>[(loc,au P aC kk [.ref sc,.ref so,gv,g1,.ref gp] 5 fs),(gp,aj [.str (T y1.1) y1.2,.str (T y2.1) y2.2,.str (T y3.1) y3.2,.str (T y4.1) y4.2,.str (T y5.1) y5.2,.str (T y6.1) y6.2]),(so,oI 484 sd),(sd,aD P sN k [.ref (n0+ab),.ref (rl+ab),pv,.int nv tn] 4),(n0+ab,oD (eS P (ac ns)) n),(rl+ab,oL (vT rd) m2)]) (λP=>[ag ns])
 0x42c204b3040861420420410480471c10410410470810411c5 (λw=>[rF 0 [7,1] [] λhh=>bC (aZ hh 2) gp [] [.str (T y1.1) y1.2,.str (T y2.1) y2.2,.str (T y3.1) y3.2,.str (T y4.1) y4.2,.str (T y5.1) y5.2,.str (T y6.1) y6.2] 0 (by simp),rT 70 [2,3,4,5] [0] λhh=>tT so sd n0 rl k pv nv tn n m2 ns y1 y2 y3 y4 y5 y6 ys rd hv hc w])
 [0,1,2,3,4,5] [0] (λP ch=>.ok true) (λP ch=>[(loc,au P aC kk [.ref sc,.ref so,gv,g1,.ref gp] 5 fs),(gp,aj [.str (T y1.1) y1.2,.str (T y2.1) y2.2,.str (T y3.1) y3.2,.str (T y4.1) y4.2,.str (T y5.1) y5.2,.str (T y6.1) y6.2]),(so,oI 484 sd),(sd,aD P sN k [.ref (n0+ab),.ref (rl+ab),pv,.int (nv+(Int.ofNat (List.length ys))) (gD (ch 4)).2.2.2] 4),(n0+ab,oD (eS P (ac ns)) n),(rl+ab,oL (vT (aM ys (gD (ch 4)).1 (ns,rd)).2) (gD (ch 4)).2.2.1)]) (λP ch=>[ag (aM ys (gD (ch 4)).1 (ns,rd)).1]) w
noncomputable def KU(st nw:Addr)(kk:Nat->Tok)(gv g1:Value)(fs:Array (Option Value))(n n1 n2 m:Nat)(ss now:List (Int×Tok))(sv:List Value)(hm:(vI now).length=m+1)(hl:(vI now).length<=1000)(h0:0<=Int.ofNat (m+1))(h1:Int.ofNat (m+1)<=10000)(h2:Int.ofNat (m+1)=now.length)(hn:now.length<=90)(hz1:1<=now.length)(hv:sv.length<=1000)(w:World):=
 aq (mT) 180 (λP=>aX [aP (ao aU) 5] (br (bF c1 c2 c3 c4 c5) loc))
 (λP=>[(loc,au P aC kk [.ref sc,.ref so,gv,.ref stg,g1] 5 fs),(c4,aQ (.ref nw)),(c5,aQ (.ref st)),(st,oL (vI ss) n),(nw,oL (vI now) n1),(stg,oL sv n2)]) (λP=>[])
 0x438e3843042cb2c22c22cb08208210218104104a28a285 (λw=>[rF 0 [4] [] λhh=>aF nw (vI now) n1 (m+1) hm (by omega),rF 0 [6] [] λhh=>dT (aZ hh 3) (Int.ofNat (m+1)) (nZ hh 1) (nZ hh 0) (nZ hh 2) h0 h1,rT 60 [7,9,8,1,4,2,3] [] λhh=>Iq (aZ hh 4) (aZ hh 6) (aZ hh 5) loc nw c4 st c5 now ss n1 n (Int.ofNat (m+1)) h2 hn hz1 w,dF 5 (vs:=sv) (by omega)])
 [0,1,2,3,4,5,8] [] (λP ch=>.ok true) (λP ch=>[(loc,au P aC kk [.ref sc,.ref so,gv,.ref stg,g1] 5 fs),(c4,aQ (.ref nw)),(c5,aQ (.ref st)),(st,oL (vI ss) n),(nw,oL (vI now) n1),(stg,oL (sv++[.ref (aZ ch 5)]) (n2+1)),(aZ ch 5,(oL (vI (bh (jF (now.map (·.1)) (ss.map (·.1))) (ch 7)).1) (bh (jF (now.map (·.1)) (ss.map (·.1))) (ch 7)).2.1))]) (λP ch=>[]) w
end
end
theorem qi{w:World}{hb:Md}{lv:Nat}(t:Tok)(a:Addr)(spec:List (List Nat))(u:U)(n:Nat)(J:List Nat)(hJ:jP spec=J)(hs:∀x∈spec,x.length<=50)(hl:spec.length<=100):
  af w hb lv (ka (T [47]) t a (bh spec u).1 n λx=>.str (T J) (jt (bh spec u).1 (x.n 0))):=by
 have e:=cO spec u;have hz:(bh spec u).1.length=spec.length:=by rw[<-Mc (f:=(·.1)),e]
 have hj:=fH spec hs;refine iX t a _ n J (by rw[e];exact hJ) (gb _ (by rw[e];exact hs) (by omega)) ?_;rw[<-hJ];omega
theorem qh{w:World}{hb:Md}{lv:Nat}(t:Tok)(a:Addr)(n:Nat):
  af w hb lv (⟨[],λ_=>[],λ_=>[],.call (.builtin "str.join") ⟨[.str (T [47]) t,.ref a],[]⟩,[(a,oL [] n)],λx=>.ok (.ret (.str (T []) (x.n 0))),λ_=>[oL [] n],λ_=>[]⟩):=
 iX (w:=w) (hb:=hb) (lv:=lv) t a [] n [] rfl (by decide) (by decide)
noncomputable def Ij(J:List Nat)(t:Tok)(n:Tok):Tok:=match J with
 |[]=>t
 |_=>n
theorem iY{w:World}{hb:Md}{lv:Nat}(J:List Nat)(t u:Tok)(hl:J.length<=9000):af w hb lv (tB "str.__add__" [.str (T [47]) t,.str (T J) u] λy=>.str (T (47::J)) (Ij J t (y.n 0))):=by
 cases J with
 |nil=>exact jC [47] t u rfl
 |cons b lb=>exact ia 47 b [] lb t u (by simp at hl ⊢;omega)
noncomputable def w8(p r:List Nat):Prop:=jy p r\/(p=[47]/\r=[47])
theorem za(p r:List Nat)(t:Tok)(h:w8 p r)(w:World):ba w 60 (tV 143 [.str (T p) t] λx=>.str (T r) (x.n 0)):=by
 rcases h with h |⟨rfl,rfl⟩
 .exact gQ p r t h w
 .refine fy [] t [] [] (by decide) (λw=>ic t) ?_ (by decide) (by simp) (λh=>rfl) (λh=>by rfl) w;rfl
theorem Et(it cl acc loc:Addr)(sp:Addr)(parts:List (List Nat))(x:Xs)(n:Nat)(hn:parts.length<=90)(hz1:1<=parts.length)(w:World):af w mT 60 (dH vT w.params (BV parts) FX it cl acc (d9 FX [] loc cl) yQ [(sp,oL (vT (fN parts x)) n)] (aI sp 0) (ar parts.length)):=by
 have:=Is it cl acc loc sp (fN parts x) n (by rw[e9];exact hn) (by rw[e9];exact hz1) w;rw[kh,e9]at this;exact this
theorem Ei(sm sd aa bb bd jk:Addr)(kq:Nat->Tok)(bp:Value)(a b:List Pt)(na nb m:Nat)(v:U)(res:List R3)(s:OS)(ha:a.length<=100)(hb:b.length<=100)(hr:iQ (a.map (·.1)) (b.map (·.1))=some res)(h1:1<=res.length)(h2:res.length<=100)(hs:eG res (0,0,[])=some s)(w:World):af w mT 130 (vE w.params sm sd aa bb bd jk kq bp a b na nb m (fY b v).1 res s):=
 zb sm sd aa bb bd jk kq bp a b na nb m _ res s (wN b v) ha hb hr h1 h2 hs w
noncomputable def Fg(P:Params)(sm sd aa bb bd jk:Addr)(kq:Nat->Tok)(bp:Value)(a:List Pt)(na nb m:Nat)(res:List R3)(s:OS):Tr:=
 ⟨[],λuu=>[],λuu=>[(List.map cP (Prod.fst (bN (Prod.snd (Prod.snd s)) uu)))],.call (.ref 332) ⟨[.ref sm],[]⟩,[(sm,oI 364 sd),(sd,aD P kA kq [.none,.ref aa,.ref bb,.bool false,.none,.none,.none,.ref bd,.ref jk,bp] 10),(aa,oL (vT a) na),(bb,oL [] nb),(bd,oD [] m),(jk,aL (.set ⟨[]⟩ 0 (PySem.SetTable.fresh 0 0 (Bool.not (PySem.Params.followText P "set-order")))))],λuu=>(Except.ok (PySem.Flow.ret (.ref ((uu.n 0)+ab)))),λuu=>[(oI 364 sd),(aD P kA kq [.none,(.ref aa),(.ref bb),(.bool Bool.false),(.ref ((uu.n 1)+ab)),(.ref ((uu.n 0)+ab)),.none,(.ref bd),(.ref jk),bp] 10),(oL (vT a) na),(oL [] nb),(oD [] m),(aL (.set ⟨[]⟩ 0 (PySem.SetTable.fresh 0 0 (Bool.not (PySem.Params.followText P "set-order")))))],λuu=>[(((uu.n 0)+ab),(oL (bV (Prod.fst (bN (Prod.snd (Prod.snd s)) uu))) (Prod.snd (Prod.snd (Prod.snd (Prod.snd (Prod.snd (bN (Prod.snd (Prod.snd s)) uu))))))))]⟩
theorem Eh(sm sd aa bb bd jk:Addr)(kq:Nat->Tok)(bp:Value)(a:List Pt)(na nb m:Nat)(res:List R3)(s:OS)(ha:a.length<=100)(hr:iQ (a.map (·.1)) []=some res)(h1:1<=res.length)(h2:res.length<=100)(hs:eG res (0,0,[])=some s)(w:World):af w mT 130 (Fg w.params sm sd aa bb bd jk kq bp a na nb m res s):=by
 have k:=zb sm sd aa bb bd jk kq bp a [] na nb m [] res s ⟨rfl,rfl⟩ ha (by decide) hr h1 h2 hs w;refine⟨λMt os G A st R hA C H=>?_,λ_=>⟨rfl,rfl⟩⟩;exact k.1 Mt os G A st R hA C λx s' C'=>H x s' C'
section
section
variable(loc sc c1 c2 c3 c4 c5 so stg la:Addr)(kk:Nat->Tok)(gl:List Nat)(gt:Tok)(g1:Value)(fs:Array (Option Value))(ls:List (Int×Tok))(n:Nat)(w:World)
noncomputable def K3(gv g1:Value)(fs:Array (Option Value))(sv:List Value)(n:Nat)(w:World):=
 aq (mT) 180 (λP=>aX [aP bB 7] (br (bF c1 c2 c3 c4 c5) loc))
 (λP=>[(loc,au P aC kk [.ref sc,.ref so,gv,.ref stg,g1] 5 fs),(stg,oL (sv++[.ref la]) n)]) (λP=>[])
 0x5144186182085 (λw=>[rF 0 [1] [] λhh=>c8 stg sv n (nZ hh 1) (.ref la)])
 [0,1] [] (λP ch=>.ok true) (λP ch=>[(loc,au P aC (kx kk 5 [nZ ch 3]) [.ref sc,.ref so,gv,.ref stg,g1,.ref la] 6 fs),(stg,oL (sv++[.ref la]) n)]) (λP ch=>[]) w
noncomputable def K4(hr:ls.length<=100)(w:World):=
 aq (mT) 180 (λP=>dm (bc (bc (aE (aP bB 8)) 0) 0) (br (bF c1 c2 c3 c4 c5) loc))
 (λP=>[(loc,au P aC kk [.ref sc,.ref so,.str (T gl) gt,.ref stg,g1,.ref la] 6 fs),(la,oL (vI ls) n)]) (λP=>[])
 1052993 (λw=>[rT 100 [1] [] λhh=>uk la ls n hr w])
 [0,1,2] [] (λP ch=>.ok (.ref (aZ ch 0))) (λP ch=>[(loc,au P aC kk [.ref sc,.ref so,.str (T gl) gt,.ref stg,g1,.ref la] 6 fs),(la,oL (vI ls) n),(aZ ch 0,(oL (vI (bh (b8 (ls.map (·.1))) (ch 0)).1) (bh (b8 (ls.map (·.1))) (ch 0)).2.1))]) (λP ch=>[]) w
noncomputable def K5(sc c1 c2 c3 c4 c5 so stg la:Addr)(w:World):=
 aq (mT) 180 (λP=>dm (bc (bc (aE (aP bB 8)) 0) 1) (br (bF c1 c2 c3 c4 c5) loc))
 (λP=>[]) (λP=>[])
 0 (λw=>[])
 [0] [] (λP ch=>.ok (.ref (aZ ch 0))) (λP ch=>[(aZ ch 0,oL [] 0)]) (λP ch=>[]) w
noncomputable def K6:=
 aq (mT) 180 (λP=>dm (bc (bc (aE (aP bB 8)) 1) 0) (br (bF c1 c2 c3 c4 c5) loc))
 (λP=>[(loc,au P aC kk [.ref sc,.ref so,.str (T gl) gt,.ref stg,g1,.ref la] 6 fs)]) (λP=>[])
 5 (λw=>[])
 [0] [] (λP ch=>.ok (.str (T gl) gt)) (λP ch=>[(loc,au P aC kk [.ref sc,.ref so,.str (T gl) gt,.ref stg,g1,.ref la] 6 fs)]) (λP ch=>[]) w
noncomputable def K7(hok:∀p∈ls,fD p.1)(hn:ls.length<=90)(hz1:1<=ls.length)(J:List Nat)(hJ:jP (ik (ls.map (·.1)))=J)(hs:∀x∈ik (ls.map (·.1)),x.length<=50)(hq:(ik (ls.map (·.1))).length<=100)(hJl:J.length<=9000)(w:World):=
 aq (mT) 180 (λP=>dm (bc (bc (aE (aP bB 8)) 1) 1) (br (bF c1 c2 c3 c4 c5) loc))
 (λP=>[(loc,au P aC kk [.ref sc,.ref so,.str (T gl) gt,.ref stg,g1,.ref la] 6 fs),(la,oL (vI ls) n)]) (λP=>[])
 0x4109249107086086185 (λw=>[rT 60 [2,4,3,1] [] λhh=>Ir (aZ hh 2) (aZ hh 4) (aZ hh 3) loc la ls n hok hn hz1 w,rF 0 [3] [] λhh=>(qi (nZ hh 1) (aZ hh 3) (ik (ls.map (·.1))) (hh 5) (bh (ik (ls.map (·.1))) (hh 5)).2.1 J hJ hs hq:),rF 0 [] [] λhh=>(iY J (nZ hh 0) (jt (bh (ik (ls.map (·.1))) (hh 5)).1 (nZ hh 6)) hJl:)])
 [0,1] [] (λP ch=>.ok (.str (T (47::J)) (Ij J (nZ ch 0) (nZ ch 7)))) (λP ch=>[(loc,au P aC kk [.ref sc,.ref so,.str (T gl) gt,.ref stg,g1,.ref la] 6 fs),(la,oL (vI ls) n)]) (λP ch=>[]) w
noncomputable def IJ:=
 aq (mT) 180 (λP=>dm (bc (bc (aE (aP bB 8)) 1) 1) (br (bF c1 c2 c3 c4 c5) loc))
 (λP=>[(loc,au P aC kk [.ref sc,.ref so,.str (T gl) gt,.ref stg,g1,.ref la] 6 fs),(la,oL [] n)]) (λP=>[])
 0x4109107086086185 (λw=>[rT 60 [2,1] [] λhh=>Es (aZ hh 2) (aZ hh 4) (aZ hh 3) loc la n w,rF 0 [3] [] λhh=>qh (nZ hh 1) (aZ hh 3) 0,rF 0 [] [] λhh=>iY [] (nZ hh 0) (nZ hh 6) (by decide)])
 [0,1] [] (λP ch=>.ok (.str (T [47]) (nZ ch 0))) (λP ch=>[(loc,au P aC kk [.ref sc,.ref so,.str (T gl) gt,.ref stg,g1,.ref la] 6 fs),(la,oL [] n)]) (λP ch=>[]) w
noncomputable def Ld(parts:List (List Nat))(h:cR (T gl) (T [47])=parts.map λa=>T a)(hl:(T gl).length<=sizeLine)(hn2:parts.length<=sizeLine)(hn:parts.length<=90)(hz1:1<=parts.length)(w:World):=
 aq (mT) 180 (λP=>aX [aP bB 9] (br (bF c1 c2 c3 c4 c5) loc))
 (λP=>[(loc,au P aC kk [.ref sc,.ref so,.str (T gl) gt,.ref stg,g1,.ref la] 6 fs)]) (λP=>[])
 0x2492451441c2182186105 (λw=>[rF 0 [] [] λhh=>jE (T gl) (T [47]) gt (nZ hh 0) parts h rfl hl hn2,rT 60 [2,4,3,1] [] λhh=>Et (aZ hh 2) (aZ hh 4) (aZ hh 3) loc (aZ hh 1) parts (λi=>(hh 1).n (i+1)) 0 hn hz1 w])
 [0,3] [] (λP ch=>.ok true) (λP ch=>[(loc,au P aC (kx kk 6 [nZ ch 6]) [.ref sc,.ref so,.str (T gl) gt,.ref stg,g1,.ref la,.ref (aZ ch 3)] 7 fs),(aZ ch 3,oL (vT (bh (BV parts) (ch 5)).1) (bh (BV parts) (ch 5)).2.1)]) (λP ch=>[]) w
noncomputable def K9(nm:Addr)(kk:Nat->Tok)(gv g1:Value)(fs:Array (Option Value))(w:World):=
 aq (mT) 180 (λP=>dm (DP aV) (br (bF c1 c2 c3 c4 c5) loc))
 (λP=>[(loc,au P aC kk [.ref sc,.ref so,gv,.ref stg,g1,.ref la,.ref nm] 7 fs)]) (λP=>[])
 5 (λw=>[])
 [0] [] (λP ch=>.ok (.ref stg)) (λP ch=>[(loc,au P aC kk [.ref sc,.ref so,gv,.ref stg,g1,.ref la,.ref nm] 7 fs)]) (λP ch=>[]) w
noncomputable def Lb(sv:List Value)(n:Nat)(w:World):=
 aq (mT) 180 (λP=>PySem.W.Fast.tw8711993805878244202 (.ref stg))
 (λP=>[(stg,oL sv n)]) (λP=>[])
 6477324613 (λw=>[])
 [0,1] [] (λP ch=>.ok (.ref (aZ ch 0))) (λP ch=>[(stg,oL sv n),(aZ ch 0,aI stg 0)]) (λP ch=>[]) w
noncomputable def Lg(nm sg it:Addr)(kk:Nat->Tok)(gv g1:Value)(fs:Array (Option Value))(sv:List Value)(n i:Nat)(hx:sv[i]?=some (.ref sg))(w:World):=
 aq (mT) 180 (λP=>di (cq aV) (.ref it) [] (br (bF c1 c2 c3 c4 c5) loc))
 (λP=>[(it,aI stg i),(stg,oL sv n),(loc,au P aC kk [.ref sc,.ref so,gv,.ref stg,g1,.ref la,.ref nm] 7 fs)]) (λP=>[])
 1863941 (λw=>[cH 0 1 hx])
 [0,1,2] [] (λP ch=>.ok true) (λP ch=>[(it,aI stg (i+1)),(stg,oL sv n),(loc,au P aC (kx kk 7 [nZ ch 1]) [.ref sc,.ref so,gv,.ref stg,g1,.ref la,.ref nm,.ref sg] 8 fs)]) (λP ch=>[]) w
noncomputable def Lh(nm sg it:Addr)(kk:Nat->Tok)(gv g1 z1 z2:Value)(fs:Array (Option Value))(sv:List Value)(n i:Nat)(hx:sv[i]?=some (.ref sg))(w:World):=
 aq (mT) 180 (λP=>di (cq aV) (.ref it) [] (br (bF c1 c2 c3 c4 c5) loc))
 (λP=>[(it,aI stg i),(stg,oL sv n),(loc,au P aC kk [.ref sc,.ref so,gv,.ref stg,g1,.ref la,.ref nm,z1,z2] 9 fs)]) (λP=>[])
 1863941 (λw=>[cH 0 1 hx])
 [0,1,2] [] (λP ch=>.ok true) (λP ch=>[(it,aI stg (i+1)),(stg,oL sv n),(loc,au P aC kk [.ref sc,.ref so,gv,.ref stg,g1,.ref la,.ref nm,.ref sg,z2] 9 fs)]) (λP ch=>[]) w
noncomputable def Le(nm sg:Addr)(kk:Nat->Tok)(gl:List Nat)(gt:Tok)(g1:Value)(fs:Array (Option Value))(pz:List Value)(pn:Nat)(pc:Addr)(st:List (Int×Tok))(ps:List Pt)(n n1:Nat)(hok:∀p∈st,fD p.1/\(bT p.1).toNat<ps.length)(hn:st.length<=90)(hz1:1<=st.length)(J:List Nat)(hJ:jP (sI (ps.map (·.1)) (st.map (·.1)))=J)(hs:∀x∈sI (ps.map (·.1)) (st.map (·.1)),x.length<=50)(hq:(sI (ps.map (·.1)) (st.map (·.1))).length<=100)(hJl:J.length<=9000)(r:List Nat)(hr:w8 (47::J) r)(w:World):=
 aq (mT) 180 (λP=>dm (bc (aE (aP (ao aV) 0)) 0) (br (bF c1 c2 c3 c4 c5) loc))
 (λP=>[(loc,au P aC kk (.ref sc::.ref so::.str (T gl) gt::.ref stg::g1::.ref la::.ref nm::.ref sg::pz) pn fs),(sg,oL (vI st) n),(c3,aQ (.ref pc)),(pc,oL (vT ps) n1)]) (λP=>[])
 0x1011042cb2c4242182186141 (λw=>[rT 60 [4,6,5,1,2,3] [] λhh=>It (aZ hh 2) (aZ hh 4) (aZ hh 3) loc sg pc c3 st ps n n1 hok hn hz1 w,rF 0 [5] [] λhh=>(qi (nZ hh 1) (aZ hh 3) (sI (ps.map (·.1)) (st.map (·.1))) (hh 5) (bh (sI (ps.map (·.1)) (st.map (·.1))) (hh 5)).2.1 J hJ hs hq:),rF 0 [] [] λhh=>(iY J (nZ hh 0) (jt (bh (sI (ps.map (·.1)) (st.map (·.1))) (hh 5)).1 (nZ hh 6)) hJl:),rT 60 [] [] λhh=>za (47::J) r (Ij J (nZ hh 0) (nZ hh 7)) hr w])
 [0,1,2,3] [] (λP ch=>.ok (.str (T r) (nZ ch 8))) (λP ch=>[(loc,au P aC kk ((.ref sc)::(.ref so)::(.str (T gl) gt)::(.ref stg)::g1::(.ref la)::(.ref nm)::(.ref sg)::pz) pn fs),(sg,oL (vI st) n),(c3,aQ (.ref pc)),(pc,oL (vT ps) n1)]) (λP ch=>[]) w
noncomputable def IL(nm sg:Addr)(kk:Nat->Tok)(gl:List Nat)(gt:Tok)(g1:Value)(fs:Array (Option Value))(pz:List Value)(pn n:Nat)(r:List Nat)(hr:w8 [47] r)(w:World):=
 aq (mT) 180 (λP=>dm (bc (aE (aP (ao aV) 0)) 0) (br (bF c1 c2 c3 c4 c5) loc))
 (λP=>[(loc,au P aC kk (.ref sc::.ref so::.str (T gl) gt::.ref stg::g1::.ref la::.ref nm::.ref sg::pz) pn fs),(sg,oL [] n)]) (λP=>[])
 0x1011042441c2182186141 (λw=>[rT 60 [2,1] [] λhh=>Eu (aZ hh 2) (aZ hh 4) (aZ hh 3) loc sg c3 n w,rF 0 [3] [] λhh=>qh (nZ hh 1) (aZ hh 3) 0,rF 0 [] [] λhh=>iY [] (nZ hh 0) (nZ hh 6) (by decide),rT 60 [] [] λhh=>za [47] r (nZ hh 0) hr w])
 [0,1] [] (λP ch=>.ok (.str (T r) (nZ ch 8))) (λP ch=>[(loc,au P aC kk ((.ref sc)::(.ref so)::(.str (T gl) gt)::(.ref stg)::g1::(.ref la)::(.ref nm)::(.ref sg)::pz) pn fs),(sg,oL [] n)]) (λP ch=>[]) w
noncomputable def La(nm sg:Addr)(kk:Nat->Tok)(gl:List Nat)(gt:Tok)(g1:Value)(fs:Array (Option Value))(pz:List Value)(pn:Nat)(w:World):=
 aq (mT) 180 (λP=>dm (bc (aE (aP (ao aV) 0)) 1) (br (bF c1 c2 c3 c4 c5) loc))
 (λP=>[(loc,au P aC kk (.ref sc::.ref so::.str (T gl) gt::.ref stg::g1::.ref la::.ref nm::.ref sg::pz) pn fs)]) (λP=>[])
 5 (λw=>[])
 [0] [] (λP ch=>.ok (.str (T gl) gt)) (λP ch=>[(loc,au P aC kk ((.ref sc)::(.ref so)::(.str (T gl) gt)::(.ref stg)::g1::(.ref la)::(.ref nm)::(.ref sg)::pz) pn fs)]) (λP ch=>[]) w
noncomputable def IN(nm sg:Addr)(kk:Nat->Tok)(gl:List Nat)(gt:Tok)(g1:Value)(fs:Array (Option Value))(st:List (Int×Tok))(n:Nat)(hok:∀p∈st,fD p.1)(hn:st.length<=90)(hz1:1<=st.length)(w:World):=
 aq (mT) 180 (λP=>aX [aP (ao aV) 1] (br (bF c1 c2 c3 c4 c5) loc))
 (λP=>[(loc,au P aC kk [.ref sc,.ref so,.str (T gl) gt,.ref stg,g1,.ref la,.ref nm,.ref sg] 8 fs),(sg,oL (vI st) n)]) (λP=>[])
 0x9249145107086086185 (λw=>[rT 60 [2,4,3,1] [] λhh=>Ew (aZ hh 0) (aZ hh 2) (aZ hh 1) loc sg st n hok hn hz1 w])
 [0,1,3] [] (λP ch=>.ok true) (λP ch=>[(loc,au P aC (kx kk 8 [nZ ch 4]) [.ref sc,.ref so,.str (T gl) gt,.ref stg,g1,.ref la,.ref nm,.ref sg,.ref (aZ ch 1)] 9 fs),(sg,oL (vI st) n),(aZ ch 1,(oL (vT (bh (hU (st.map (·.1))) (ch 3)).1) (bh (hU (st.map (·.1))) (ch 3)).2.1))]) (λP ch=>[]) w
noncomputable def IP(nm sg:Addr)(kk:Nat->Tok)(gl:List Nat)(gt:Tok)(g1 pv:Value)(fs:Array (Option Value))(st:List (Int×Tok))(n:Nat)(hok:∀p∈st,fD p.1)(hn:st.length<=90)(hz1:1<=st.length)(w:World):=
 aq (mT) 180 (λP=>aX [aP (ao aV) 1] (br (bF c1 c2 c3 c4 c5) loc))
 (λP=>[(loc,au P aC kk [.ref sc,.ref so,.str (T gl) gt,.ref stg,g1,.ref la,.ref nm,.ref sg,pv] 9 fs),(sg,oL (vI st) n)]) (λP=>[])
 0x9249145107086086185 (λw=>[rT 60 [2,4,3,1] [] λhh=>Ew (aZ hh 0) (aZ hh 2) (aZ hh 1) loc sg st n hok hn hz1 w])
 [0,1,3] [] (λP ch=>.ok true) (λP ch=>[(loc,au P aC kk [.ref sc,.ref so,.str (T gl) gt,.ref stg,g1,.ref la,.ref nm,.ref sg,.ref (aZ ch 1)] 9 fs),(sg,oL (vI st) n),(aZ ch 1,(oL (vT (bh (hU (st.map (·.1))) (ch 3)).1) (bh (hU (st.map (·.1))) (ch 3)).2.1))]) (λP ch=>[]) w
noncomputable def EI(nm sg:Addr)(kk:Nat->Tok)(gl:List Nat)(gt:Tok)(g1:Value)(fs:Array (Option Value))(n:Nat)(w:World):=
 aq (mT) 180 (λP=>aX [aP (ao aV) 1] (br (bF c1 c2 c3 c4 c5) loc))
 (λP=>[(loc,au P aC kk [.ref sc,.ref so,.str (T gl) gt,.ref stg,g1,.ref la,.ref nm,.ref sg] 8 fs),(sg,oL [] n)]) (λP=>[])
 0x9145107086086185 (λw=>[rT 60 [2,1] [] λhh=>zc (aZ hh 0) (aZ hh 2) (aZ hh 1) loc sg n w])
 [0,1,3] [] (λP ch=>.ok true) (λP ch=>[(loc,au P aC (kx kk 8 [nZ ch 4]) [.ref sc,.ref so,.str (T gl) gt,.ref stg,g1,.ref la,.ref nm,.ref sg,.ref (aZ ch 1)] 9 fs),(sg,oL [] n),(aZ ch 1,oL [] 0)]) (λP ch=>[]) w
noncomputable def EJ(nm sg:Addr)(kk:Nat->Tok)(gl:List Nat)(gt:Tok)(g1 pv:Value)(fs:Array (Option Value))(n:Nat)(w:World):=
 aq (mT) 180 (λP=>aX [aP (ao aV) 1] (br (bF c1 c2 c3 c4 c5) loc))
 (λP=>[(loc,au P aC kk [.ref sc,.ref so,.str (T gl) gt,.ref stg,g1,.ref la,.ref nm,.ref sg,pv] 9 fs),(sg,oL [] n)]) (λP=>[])
 0x9145107086086185 (λw=>[rT 60 [2,1] [] λhh=>zc (aZ hh 0) (aZ hh 2) (aZ hh 1) loc sg n w])
 [0,1,3] [] (λP ch=>.ok true) (λP ch=>[(loc,au P aC kk [.ref sc,.ref so,.str (T gl) gt,.ref stg,g1,.ref la,.ref nm,.ref sg,.ref (aZ ch 1)] 9 fs),(sg,oL [] n),(aZ ch 1,oL [] 0)]) (λP ch=>[]) w
noncomputable def Lc(nm sg pa:Addr)(kk:Nat->Tok)(gl:List Nat)(gt:Tok)(g1:Value)(fs:Array (Option Value))(a b:List Pt)(na nb m:Nat)(res:List R3)(s:OS)(g1b:1<=b.length)(g2b:b.length<=1000)(hnd:(b.map (·.1)).Nodup)(hm:(vT b).length=m+1)(hm2:(vT b).length<=1000)(ha:a.length<=100)(hb:b.length<=100)(hr:iQ (a.map (·.1)) (b.map (·.1))=some res)(h1:1<=res.length)(h2:res.length<=100)(hs:eG res (0,0,[])=some s)(w:World):=
 aq (mT) 180 (λP=>dm (bc (aE (aP (ao aV) 2)) 0) (br (bF c1 c2 c3 c4 c5) loc))
 (λP=>[(loc,au P aC kk [.ref sc,.ref so,.str (T gl) gt,.ref stg,g1,.ref la,.ref nm,.ref sg,.ref pa] 9 fs),(pa,oL (vT a) na),(nm,oL (vT b) nb)]) (λP=>[])
 0x4048241041049041049041049101045141 (λw=>[rT 100 [1,2] [] λhh=>Eo pa nm (oL (vT a) na) b nb g1b g2b hnd m hm hm2 w,rT 130 [4,3,1,2,5,6] [0] λhh=>Ei (aZ hh 0) (((hh 0).n 1)+ab) pa nm (((hh 0).n 10)+ab) (((hh 0).n 12)+ab) (kl [(hh 0).n 2,(hh 0).n 3,(hh 0).n 4,(hh 0).n 5,(hh 0).n 6,(hh 0).n 7,(hh 0).n 8,(hh 0).n 9,(hh 0).n 11,(hh 0).n 13]) (.ref (((hh 0).n 14)+ab)) a b na nb (fY b (hh 0)).2.1 (hh 0) res s ha hb hr h1 h2 hs w])
 [0,1,2,7] [1] (λP ch=>.ok (.ref (aZ ch 1))) (λP ch=>[(loc,au P aC kk [.ref sc,.ref so,.str (T gl) gt,.ref stg,g1,.ref la,.ref nm,.ref sg,.ref pa] 9 fs),(pa,oL (vT a) na),(nm,oL (vT b) nb),(aZ ch 1,oL (bV (bN s.2.2 (ch 1)).1) (bN s.2.2 (ch 1)).2.2.2.2.2)]) (λP ch=>[List.map cP (bN s.2.2 (ch 1)).1]) w
noncomputable def IK(nm sg pa:Addr)(kk:Nat->Tok)(gl:List Nat)(gt:Tok)(g1:Value)(fs:Array (Option Value))(a:List Pt)(na nb:Nat)(res:List R3)(s:OS)(ha:a.length<=100)(hr:iQ (a.map (·.1)) []=some res)(h1:1<=res.length)(h2:res.length<=100)(hs:eG res (0,0,[])=some s)(w:World):=
 aq (mT) 180 (λP=>dm (bc (aE (aP (ao aV) 2)) 0) (br (bF c1 c2 c3 c4 c5) loc))
 (λP=>[(loc,au P aC kk [.ref sc,.ref so,.str (T gl) gt,.ref stg,g1,.ref la,.ref nm,.ref sg,.ref pa] 9 fs),(pa,oL (vT a) na),(nm,oL [] nb)]) (λP=>[])
 0x4048241041049041049041049101045141 (λw=>[rT 100 [1,2] [] λhh=>A2 pa nm (oL (vT a) na) nb w,rT 130 [4,3,1,2,5,6] [] λhh=>Eh (aZ hh 0) (((hh 0).n 1)+ab) pa nm (((hh 0).n 10)+ab) (((hh 0).n 12)+ab) (kl [(hh 0).n 2,(hh 0).n 3,(hh 0).n 4,(hh 0).n 5,(hh 0).n 6,(hh 0).n 7,(hh 0).n 8,(hh 0).n 9,(hh 0).n 11,(hh 0).n 13]) (.ref (((hh 0).n 14)+ab)) a na nb 0 res s ha hr h1 h2 hs w])
 [0,1,2,7] [0] (λP ch=>.ok (.ref (aZ ch 1))) (λP ch=>[(loc,au P aC kk [.ref sc,.ref so,.str (T gl) gt,.ref stg,g1,.ref la,.ref nm,.ref sg,.ref pa] 9 fs),(pa,oL (vT a) na),(nm,oL [] nb),(aZ ch 1,oL (bV (bN s.2.2 (ch 1)).1) (bN s.2.2 (ch 1)).2.2.2.2.2)]) (λP ch=>[List.map cP (bN s.2.2 (ch 1)).1]) w
noncomputable def Lf(nm sg:Addr)(kk:Nat->Tok)(gl:List Nat)(gt:Tok)(g1:Value)(fs:Array (Option Value))(pz:List Value)(pn:Nat)(st ls:List (Int×Tok))(n n1:Nat)(hr:st.length<=100)(w:World):=
 aq (mT) 180 (λP=>dm (bc (aE (aP (ao aV) 2)) 1) (br (bF c1 c2 c3 c4 c5) loc))
 (λP=>[(loc,au P aC kk (.ref sc::.ref so::.str (T gl) gt::.ref stg::g1::.ref la::.ref nm::.ref sg::pz) pn fs),(sg,oL (vI st) n),(la,oL (vI ls) n1)]) (λP=>[])
 67391809 (λw=>[rT 100 [1,2] [] λhh=>ug sg la st ls n n1 hr w])
 [0,1,2,3] [0] (λP ch=>.ok (.ref (aZ ch 0))) (λP ch=>[(loc,au P aC kk ((.ref sc)::(.ref so)::(.str (T gl) gt)::(.ref stg)::g1::(.ref la)::(.ref nm)::(.ref sg)::pz) pn fs),(sg,oL (vI st) n),(la,oL (vI ls) n1),(aZ ch 0,(oL (bV (bD (bf (st.map (·.1)) (ls.map (·.1))) (ch 0)).1) (bD (bf (st.map (·.1)) (ls.map (·.1))) (ch 0)).2.1))]) (λP ch=>[(List.map cP (bD (bf (st.map (·.1)) (ls.map (·.1))) (ch 0)).1)]) w
noncomputable def Li(sc c1 c2 c3 c4 c5 so stg:Addr)(w:World):=
 aq (mT) 180 (λP=>kd [aP bB 11] (br (bF c1 c2 c3 c4 c5) loc))
 (λP=>[]) (λP=>[])
 0 (λw=>[])
 [] [] (λP ch=>.ok (PySem.Flow.ret (.bool true))) (λP ch=>[]) (λP ch=>[]) w
noncomputable def K8(it loc sc c1 c2 c3 c4 c5:Addr)(sv:List Value)(n i:Nat)(hx:sv[i]?=none)(w:World):=
 cY (mT) 180 (λP=>aG aV it (br (bF c1 c2 c3 c4 c5) loc))
 (λP=>[(it,aI stg i),(stg,oL sv n)]) (λP=>[])
 35668290 (λw=>[nq 0 1 hx])
 [0,1] [] (λP ch=>(.ok .next)) (λP ch=>[(it,ar i),(stg,oL sv n)]) (λP ch=>[]) w
end
end
section
section
variable(it loc rw rs:Addr)(kk:Nat->Tok)(jj:Int)(jt:Tok)(z:Value×Value×Value×Value)(row:List (Int×Tok))(n:Nat)(v left x:Int)(t:Tok)
noncomputable def LF(hl:decide (left<=0)=false)(h0:0<=v)(hf:Builtin.List.listFitsIndex v=true)(hx:(vI row)[v.toNat]?=some (.int x t))(hi:(row.map (·.1)).any (·==x)=true)(hp:decide (x>0)=true)(w:World):=
 aq (mT) 60 (λP=>di (cq bm) (.ref it) (bv.take 2) (aH loc))
 (λP=>[(it,aY v left),(loc,frm P av kk [.ref rw,.ref rw,.ref rs,.int jj jt,z.1,z.2.1,z.2.2.1,z.2.2.2] 8),(rw,oL (vI row) n)]) (λP=>[])
 0x618618b1091091092422022082061861841071c71861071c61071c7186186105 (λw=>[gu 0 hl,b6 2 h0 hf hx,nk 2 hi,b6 2 h0 hf hx,dX hp,bX 4 3,bX 4 3,f6 4 3])
 [0,1,2] [] (λP ch=>.ok true) (λP ch=>[(it,aY (v+1) (left-1)),(loc,frm P av kk [.ref rw,.ref rw,.ref rs,.int jj jt,.int v (nZ ch 0),.str (T [101,113,117,97,108]) (nZ ch 7),.int jj jt,.int v (nZ ch 0)] 8),(rw,oL (vI row) n)]) (λP ch=>[]) w
noncomputable def LI(hl:decide (left<=0)=false)(h0:0<=v)(hf:Builtin.List.listFitsIndex v=true)(hx:(vI row)[v.toNat]?=some (.int x t))(hi:(row.map (·.1)).any (·==x)=true)(hp:decide (x>0)=false)(w:World):=
 aq (mT) 60 (λP=>di (cq bm) (.ref it) (bv.take 2) (aH loc))
 (λP=>[(it,aY v left),(loc,frm P av kk [.ref rw,.ref rw,.ref rs,.int jj jt,z.1,z.2.1,z.2.2.1,z.2.2.2] 8),(rw,oL (vI row) n)]) (λP=>[])
 0x618618b1091091092422022082061861841071c71861071c61071c7186186105 (λw=>[gu 0 hl,b6 2 h0 hf hx,nk 2 hi,b6 2 h0 hf hx,dX hp,bX 4 3,bX 4 3,f6 4 3])
 [0,1,2] [] (λP ch=>.ok true) (λP ch=>[(it,aY (v+1) (left-1)),(loc,frm P av kk [.ref rw,.ref rw,.ref rs,.int jj jt,.int v (nZ ch 0),.str (T [100,101,108,101,116,101]) (nZ ch 7),.int jj jt,.int v (nZ ch 0)] 8),(rw,oL (vI row) n)]) (λP ch=>[]) w
noncomputable def LH(hl:decide (left<=0)=false)(h0:0<=v)(hf:Builtin.List.listFitsIndex v=true)(hx:(vI row)[v.toNat]?=some (.int x t))(hi:(row.map (·.1)).any (·==x)=false)(w:World):=
 aq (mT) 60 (λP=>di (cq bm) (.ref it) (bv.take 2) (aH loc))
 (λP=>[(it,aY v left),(loc,frm P av kk [.ref rw,.ref rw,.ref rs,.int jj jt,z.1,z.2.1,z.2.2.1,z.2.2.2] 8),(rw,oL (vI row) n)]) (λP=>[])
 0x1861862c42442442490880882081861861071c61071c7186186105 (λw=>[gu 0 hl,b6 2 h0 hf hx,nk 2 hi,bX 4 3,bX 4 3,f6 4 3])
 [0,1,2] [] (λP ch=>.ok true) (λP ch=>[(it,aY (v+1) (left-1)),(loc,frm P av kk [.ref rw,.ref rw,.ref rs,.int jj jt,.int v (nZ ch 0),.str (T [100,101,108,101,116,101]) (nZ ch 4),.int jj jt,.int v (nZ ch 0)] 8),(rw,oL (vI row) n)]) (λP ch=>[]) w
noncomputable def IZ(hl:decide (left<=0)=false)(h0:0<=v)(hf:Builtin.List.listFitsIndex v=true)(hx:(vI row)[v.toNat]?=some (.int x t))(hi:(row.map (·.1)).any (·==x)=true)(hp:decide (x>0)=true)(w:World):=
 aq (mT) 60 (λP=>di (cq bm) (.ref it) (bv.take 2) (aH loc))
 (λP=>[(it,aY v left),(loc,frm P av kk [.ref rw,.ref rw,.ref rs,.int jj jt] 4),(rw,oL (vI row) n)]) (λP=>[])
 0x618618b1091091092422022082061861841071c71861071c61071c7186186105 (λw=>[gu 0 hl,b6 2 h0 hf hx,nk 2 hi,b6 2 h0 hf hx,dX hp,bX 4 3,bX 4 3,f6 4 3])
 [0,1,2] [] (λP ch=>.ok true) (λP ch=>[(it,aY (v+1) (left-1)),(loc,frm P av (kx kk 4 [nZ ch 1,nZ ch 8,nZ ch 14,nZ ch 15]) [.ref rw,.ref rw,.ref rs,.int jj jt,.int v (nZ ch 0),.str (T [101,113,117,97,108]) (nZ ch 7),.int jj jt,.int v (nZ ch 0)] 8),(rw,oL (vI row) n)]) (λP ch=>[]) w
noncomputable def I1(hl:decide (left<=0)=false)(h0:0<=v)(hf:Builtin.List.listFitsIndex v=true)(hx:(vI row)[v.toNat]?=some (.int x t))(hi:(row.map (·.1)).any (·==x)=true)(hp:decide (x>0)=false)(w:World):=
 aq (mT) 60 (λP=>di (cq bm) (.ref it) (bv.take 2) (aH loc))
 (λP=>[(it,aY v left),(loc,frm P av kk [.ref rw,.ref rw,.ref rs,.int jj jt] 4),(rw,oL (vI row) n)]) (λP=>[])
 0x618618b1091091092422022082061861841071c71861071c61071c7186186105 (λw=>[gu 0 hl,b6 2 h0 hf hx,nk 2 hi,b6 2 h0 hf hx,dX hp,bX 4 3,bX 4 3,f6 4 3])
 [0,1,2] [] (λP ch=>.ok true) (λP ch=>[(it,aY (v+1) (left-1)),(loc,frm P av (kx kk 4 [nZ ch 1,nZ ch 8,nZ ch 14,nZ ch 15]) [.ref rw,.ref rw,.ref rs,.int jj jt,.int v (nZ ch 0),.str (T [100,101,108,101,116,101]) (nZ ch 7),.int jj jt,.int v (nZ ch 0)] 8),(rw,oL (vI row) n)]) (λP ch=>[]) w
noncomputable def I0(hl:decide (left<=0)=false)(h0:0<=v)(hf:Builtin.List.listFitsIndex v=true)(hx:(vI row)[v.toNat]?=some (.int x t))(hi:(row.map (·.1)).any (·==x)=false)(w:World):=
 aq (mT) 60 (λP=>di (cq bm) (.ref it) (bv.take 2) (aH loc))
 (λP=>[(it,aY v left),(loc,frm P av kk [.ref rw,.ref rw,.ref rs,.int jj jt] 4),(rw,oL (vI row) n)]) (λP=>[])
 0x1861862c42442442490880882081861861071c61071c7186186105 (λw=>[gu 0 hl,b6 2 h0 hf hx,nk 2 hi,bX 4 3,bX 4 3,f6 4 3])
 [0,1,2] [] (λP ch=>.ok true) (λP ch=>[(it,aY (v+1) (left-1)),(loc,frm P av (kx kk 4 [nZ ch 1,nZ ch 5,nZ ch 11,nZ ch 12]) [.ref rw,.ref rw,.ref rs,.int jj jt,.int v (nZ ch 0),.str (T [100,101,108,101,116,101]) (nZ ch 4),.int jj jt,.int v (nZ ch 0)] 8),(rw,oL (vI row) n)]) (λP ch=>[]) w
noncomputable def LG(loc:Addr)(io ro:Obj)(kk:Nat->Tok)(jj k:Int)(jt kt wt:Tok)(wd:List Nat)(p q:Value)(w:World):=
 aq (mT) 60 (λP=>dm (bc iu 0) (aH loc))
 (λP=>[(it,io),(loc,frm P av kk [.ref rw,.ref rw,.ref rs,.int jj jt,.int k kt,.str (T wd) wt,q,p] 8),(rw,ro)]) (λP=>[])
 6 (λw=>[])
 [0,1,2] [] (λP ch=>.ok (.ref rs)) (λP ch=>[(it,io),(loc,frm P av kk [.ref rw,.ref rw,.ref rs,.int jj jt,.int k kt,.str (T wd) wt,q,p] 8),(rw,ro)]) (λP ch=>[]) w
noncomputable def LJ(loc:Addr)(io ro:Obj)(kk:Nat->Tok)(jj k:Int)(jt kt wt:Tok)(wd:List Nat)(p q:Value)(ta:Addr)(vs:List Value)(n:Nat)(wa:List Nat)(wb t1 t2 t3 t4:Tok)(i1 i2 i3 i4:Int)(he:((T wa).cps.toList==(T wd).cps.toList)=true)(w:World):=
 aq (mT) 60 (λP=>kB jY (aH loc))
 (λP=>[(it,io),(loc,frm P av kk [.ref rw,.ref rw,.ref rs,.int jj jt,.int k kt,.str (T wd) wt,q,p] 8),(rw,ro),(rs,oL (vs++[.ref ta]) n),(ta,aj [.str (T wa) wb,.int i1 t1,.int i2 t2,.int i3 t3,.int i4 t4])]) (λP=>[])
 0x4182242242249244208202086 (λw=>[rF 0 [3] [] λhh=>c8 rs vs n (nZ hh 1) (.ref ta),rF 0 [] [] λhh=>bW (T wa) (T wd) wb wt true he])
 [0,1,2,3,4] [] (λP ch=>.ok true) (λP ch=>[(it,io),(loc,frm P av kk [.ref rw,.ref rw,.ref rs,.int jj jt,.int k kt,.str (T wd) wt,q,p] 8),(rw,ro),(rs,oL (vs++[.ref ta]) n),(ta,aj [.str (T wa) wb,.int i1 t1,.int i2 t2,.int i3 t3,.int i4 t4])]) (λP ch=>[]) w
noncomputable def LD(loc:Addr)(io ro:Obj)(kk:Nat->Tok)(jj k:Int)(jt kt wt:Tok)(wd:List Nat)(p q:Value)(ta:Addr)(vs:List Value)(n:Nat)(wa:List Nat)(wb t1 t2 t3 t4:Tok)(i1 i2 i3 i4:Int)(he:((T wa).cps.toList==(T wd).cps.toList)=false)(w:World):=
 aq (mT) 60 (λP=>kB jY (aH loc))
 (λP=>[(it,io),(loc,frm P av kk [.ref rw,.ref rw,.ref rs,.int jj jt,.int k kt,.str (T wd) wt,q,p] 8),(rw,ro),(rs,oL (vs++[.ref ta]) n),(ta,aj [.str (T wa) wb,.int i1 t1,.int i2 t2,.int i3 t3,.int i4 t4])]) (λP=>[])
 0x4182242242249244208202086 (λw=>[rF 0 [3] [] λhh=>c8 rs vs n (nZ hh 1) (.ref ta),rF 0 [] [] λhh=>bW (T wa) (T wd) wb wt false he])
 [0,1,2,3,4] [] (λP ch=>.ok false) (λP ch=>[(it,io),(loc,frm P av kk [.ref rw,.ref rw,.ref rs,.int jj jt,.int k kt,.str (T wd) wt,q,p] 8),(rw,ro),(rs,oL (vs++[.ref ta]) n),(ta,aj [.str (T wa) wb,.int i1 t1,.int i2 t2,.int i3 t3,.int i4 t4])]) (λP ch=>[]) w
noncomputable def LC(loc:Addr)(io ro:Obj)(kk:Nat->Tok)(jj k:Int)(jt kt wt:Tok)(wd:List Nat)(p q:Value)(ta:Addr)(vs:List Value)(n:Nat)(wa:List Nat)(wb t1 t2 t3 t4:Tok)(i1 i2 i3 i4:Int)(hlen:vs.length<=1000)(w:World):=
 aq (mT) 60 (λP=>aX (ao jZ) (aH loc))
 (λP=>[(it,io),(loc,frm P av kk [.ref rw,.ref rw,.ref rs,.int jj jt,.int k kt,.str (T wd) wt,q,p] 8),(rw,ro),(rs,oL (vs++[.ref ta]) n),(ta,aj [.str (T wa) wb,.int i1 t1,.int i2 t2,.int i3 t3,.int i4 t4])]) (λP=>[])
 0x21082082061861863442c42c42cb08a08a28a089089089249108208082182242242249244208202086 (λw=>[rF 0 [3] [] λhh=>c8 rs vs n (nZ hh 1) (.ref ta),rF 0 [3] [] λhh=>c8 rs vs n (nZ hh 5) (.ref ta),bX 6 5,bX 6 5,f6 6 5,rF 0 [3] [] λhh=>jB rs vs n (.ref ta) (by omega)])
 [0,1,2,3] [] (λP ch=>.ok true) (λP ch=>[(it,io),(loc,frm P av kk [.ref rw,.ref rw,.ref rs,.int jj jt,.int k kt,.str (T wd) wt,.int i3 t3,.int i1 t1] 8),(rw,ro),(rs,oL vs (n+1))]) (λP ch=>[]) w
noncomputable def LK(loc:Addr)(io ro:Obj)(kk:Nat->Tok)(jj k p q:Int)(jt kt wt pt qt:Tok)(vs:List Value)(n:Nat)(hlen:vs.length<=1000)(w:World):=
 aq (mT) 60 (λP=>kd (bv.drop 3) (aH loc))
 (λP=>[(it,io),(loc,frm P av kk [.ref rw,.ref rw,.ref rs,.int jj jt,.int k kt,.str (T [101,113,117,97,108]) wt,.int q qt,.int p pt] 8),(rw,ro),(rs,oL vs n)]) (λP=>[])
 0x106182086186208208186182086106 (λw=>[rF 0 [] [] λhh=>bW (T [101,113,117,97,108]) (T [101,113,117,97,108]) wt (nZ hh 0) true rfl,dF 3 (vs:=vs) (by omega)])
 [0,1,2,3,4] [] (λP ch=>.ok PySem.Flow.next) (λP ch=>[(it,io),(loc,frm P av kk [.ref rw,.ref rw,.ref rs,.int (jj+1) (nZ ch 3),.int k kt,.str (T [101,113,117,97,108]) wt,.int q qt,.int p pt] 8),(rw,ro),(rs,oL (vs++[.ref (aZ ch 7)]) (n+1)),(aZ ch 7,aj [.str (T [101,113,117,97,108]) wt,.int p pt,.int (k+1) (nZ ch 6),.int q qt,.int (jj+1) (nZ ch 3)])]) (λP ch=>[]) w
noncomputable def LL(loc:Addr)(io ro:Obj)(kk:Nat->Tok)(jj k p q:Int)(jt kt wt pt qt:Tok)(vs:List Value)(n:Nat)(hlen:vs.length<=1000)(w:World):=
 aq (mT) 60 (λP=>kd (bv.drop 3) (aH loc))
 (λP=>[(it,io),(loc,frm P av kk [.ref rw,.ref rw,.ref rs,.int jj jt,.int k kt,.str (T [100,101,108,101,116,101]) wt,.int q qt,.int p pt] 8),(rw,ro),(rs,oL vs n)]) (λP=>[])
 0x4186082186188208206106 (λw=>[rF 0 [] [] λhh=>bW (T [100,101,108,101,116,101]) (T [101,113,117,97,108]) wt (nZ hh 0) false rfl,dF 3 (vs:=vs) (by omega)])
 [0,1,2,3,4] [] (λP ch=>.ok PySem.Flow.next) (λP ch=>[(it,io),(loc,frm P av kk [.ref rw,.ref rw,.ref rs,.int jj jt,.int k kt,.str (T [100,101,108,101,116,101]) wt,.int q qt,.int p pt] 8),(rw,ro),(rs,oL (vs++[.ref (aZ ch 4)]) (n+1)),(aZ ch 4,aj [.str (T [100,101,108,101,116,101]) wt,.int p pt,.int (k+1) (nZ ch 3),.int q qt,.int jj jt])]) (λP ch=>[]) w
end
end
namespace D
structure RA where
 it:Addr
 loc:Addr
 rw:Addr
 rs:Addr
noncomputable def sk(P:Params)(A:RA)(row:List (Int×Tok))(n:Nat)(v left:Int)(o:Obj)(rs:List RC)(e:Nat):ah:=
 [(A.it,aY v left),(A.loc,o),(A.rw,oL (vI row) n),(A.rs,oL (bV rs) e)]++rs.map cP
noncomputable def uR(P:Params)(A:RA)(j:Int)(o:Obj):Prop:=(et λkk jt=>o=frm P av kk [.ref A.rw,.ref A.rw,.ref A.rs,.int j jt] 4)\/sM λkk jt z1 z2 z3 z4=>o=frm P av kk [.ref A.rw,.ref A.rw,.ref A.rs,.int j jt,z1,z2,z3,z4] 8
noncomputable def jO(P:Params)(A:RA)(j:Int)(o:Obj):Prop:=sM λkk jt z1 z2 z3 z4=>o=frm P av kk [.ref A.rw,.ref A.rw,.ref A.rs,.int j jt,z1,z2,z3,z4] 8
section
variable(w:World)(A:RA)(row:List (Int×Tok))(n:Nat)
theorem I3(v left j x:Int)(t:Tok)(o:Obj)(F:ah)(ho:uR w.params A j o)(hl:decide (left<=0)=false)(h0:0<=v)(hf:Builtin.List.listFitsIndex v=true)(hx:(vI row)[v.toNat]?=some (.int x t)):
  TR w mT 60 (di (cq bm) (.ref A.it) (bv.take 2) (aH A.loc)) ([(A.it,aY v left),(A.loc,o),(A.rw,oL (vI row) n)]++F)
   λa N=>iJ λkk jt kt wt=>N=[(A.it,aY (v+1) (left-1)),(A.loc,frm w.params av kk [.ref A.rw,.ref A.rw,.ref A.rs,.int j jt,.int v kt,.str (T (aJ (fI (row.map (·.1)) x))) wt,.int j jt,.int v kt] 8),(A.rw,oL (vI row) n)]++F:=by
 unfold fI;cases hi:(row.map (·.1)).any (·==x)with
 |false=>
  rcases ho with⟨kk,jt,rfl⟩ |⟨kk,jt,z1,z2,z3,z4,rfl⟩
  .exact((I0 A.it A.loc A.rw A.rs kk j jt row n v left x t hl h0 hf hx hi w).tr (Me _) λ_=>rfl).mono λa N h=>h.elim λch h=>⟨N,⟨_,_,_,_,h.2⟩,.refl _⟩
  .exact((LH A.it A.loc A.rw A.rs kk j jt (z1,z2,z3,z4) row n v left x t hl h0 hf hx hi w).tr (Me _) λ_=>rfl).mono λa N h=>h.elim λch h=>⟨N,⟨_,_,_,_,h.2⟩,.refl _⟩
 |true=>cases hp:decide (x>0)with
  |false=>
   rcases ho with⟨kk,jt,rfl⟩ |⟨kk,jt,z1,z2,z3,z4,rfl⟩
   .exact((I1 A.it A.loc A.rw A.rs kk j jt row n v left x t hl h0 hf hx hi hp w).tr (Me _) λ_=>rfl).mono λa N h=>h.elim λch h=>⟨N,⟨_,_,_,_,h.2⟩,.refl _⟩
   .exact((LI A.it A.loc A.rw A.rs kk j jt (z1,z2,z3,z4) row n v left x t hl h0 hf hx hi hp w).tr (Me _) λ_=>rfl).mono λa N h=>h.elim λch h=>⟨N,⟨_,_,_,_,h.2⟩,.refl _⟩
  |true=>
   rcases ho with⟨kk,jt,rfl⟩ |⟨kk,jt,z1,z2,z3,z4,rfl⟩
   .exact((IZ A.it A.loc A.rw A.rs kk j jt row n v left x t hl h0 hf hx hi hp w).tr (Me _) λ_=>rfl).mono λa N h=>h.elim λch h=>⟨N,⟨_,_,_,_,h.2⟩,.refl _⟩
   .exact((LF A.it A.loc A.rw A.rs kk j jt (z1,z2,z3,z4) row n v left x t hl h0 hf hx hi hp w).tr (Me _) λ_=>rfl).mono λa N h=>h.elim λch h=>⟨N,⟨_,_,_,_,h.2⟩,.refl _⟩
theorem I4(io:Obj)(b:Bool)(kk:Nat->Tok)(j v p q:Int)(jt kt wt pt qt:Tok)(rs:List RC)(e:Nat)(hl:rs.length<=1000):
  TR w mT 60 (execs (bv.drop 3) (aH A.loc)) ([(A.it,io),(A.loc,frm w.params av kk [.ref A.rw,.ref A.rw,.ref A.rs,.int j jt,.int v kt,.str (T (aJ b)) wt,.int q qt,.int p pt] 8),(A.rw,oL (vI row) n),(A.rs,oL (bV rs) e)]++rs.map cP)
   λf N=>f=.next/\gc λ(r:RC) (o':Obj) (e':Nat)=>r.1=(b,p,v+1,q,oo b j)/\jO w.params A (oo b j) o'/\N=[(A.it,io),(A.loc,o'),(A.rw,oL (vI row) n),(A.rs,oL (bV (r::rs)) e')]++(r::rs).map cP:=by
 have hv:(bV rs).length<=1000:=by rw[g5];exact hl
 refine TR.ex ?_;cases b with
 |true=>
  refine((LK A.it A.rw A.rs A.loc io (oL (vI row) n) kk j v p q jt kt wt pt qt (bV rs) e hv w).tr (Me _) λ_=>rfl).mono λa N h=>h.elim λch h=>⟨N,⟨h.1,((true,p,v+1,q,j+1),aZ ch 7,wt,pt,nZ ch 6,qt,nZ ch 3),frm w.params av kk [.ref A.rw,.ref A.rw,.ref A.rs,.int (j+1) (nZ ch 3),.int v kt,.str (T (aJ true)) wt,.int q qt,.int p pt] 8,e+1,rfl,⟨_,_,_,_,_,_,rfl⟩,?_⟩,.refl _⟩
  rw[h.2,cL];rfl
 |false=>
  refine((LL A.it A.rw A.rs A.loc io (oL (vI row) n) kk j v p q jt kt wt pt qt (bV rs) e hv w).tr (Me _) λ_=>rfl).mono λa N h=>h.elim λch h=>⟨N,⟨h.1,((false,p,v+1,q,j),aZ ch 4,wt,pt,nZ ch 3,qt,jt),frm w.params av kk [.ref A.rw,.ref A.rw,.ref A.rs,.int j jt,.int v kt,.str (T (aJ false)) wt,.int q qt,.int p pt] 8,e+1,rfl,⟨_,_,_,_,_,_,rfl⟩,?_⟩,.refl _⟩
  rw[h.2,cL];rfl
theorem pp(io:Obj)(b:Bool)(kk:Nat->Tok)(j v:Int)(jt kt wt:Tok)(p q:Value)(rs:List RC)(e:Nat):
  TR w mT 60 (isTrue (aE fu) (aH A.loc) (eval (aE fu) (aH A.loc))) ([(A.it,io),(A.loc,frm w.params av kk [.ref A.rw,.ref A.rw,.ref A.rs,.int j jt,.int v kt,.str (T (aJ b)) wt,q,p] 8),(A.rw,oL (vI row) n),(A.rs,oL (bV rs) e)]++rs.map cP)
   λc N=>c=zt b rs/\N=[(A.it,io),(A.loc,frm w.params av kk [.ref A.rw,.ref A.rw,.ref A.rs,.int j jt,.int v kt,.str (T (aJ b)) wt,q,p] 8),(A.rw,oL (vI row) n),(A.rs,oL (bV rs) e)]++rs.map cP:=by
 refine TR.isAnd (Q1:=λc N=>c= !rs.isEmpty/\N=[(A.it,io),(A.loc,frm w.params av kk [.ref A.rw,.ref A.rw,.ref A.rs,.int j jt,.int v kt,.str (T (aJ b)) wt,q,p] 8),(A.rw,oL (vI row) n),(A.rs,oL (bV rs) e)]++rs.map cP) ?_ ?_ ?_
 .refine TR.isNe (by kernel_rfl) (by decide) ((LG A.it A.rw A.rs A.loc io (oL (vI row) n) kk j v jt kt wt (aJ b) p q w).tr (F:=[(A.rs,oL (bV rs) e)]++rs.map cP) (Me _) λ_=>rfl) (λa N h=>h.elim λ_ h=>((JI A.loc w).tr (F:=N) (Me _) λ_=>rfl).mono λb' N' h'=>h'.elim λch h'=>⟨N',⟨h.1,_,h'.1,h'.2.trans (by rw[h.2];rfl)⟩,.refl _⟩) ?_ (Q2:=λa b' N=>a=.ref A.rs/\∃k,b'=.ref k/\N=(k,oL [] 0)::([(A.it,io),(A.loc,frm w.params av kk [.ref A.rw,.ref A.rw,.ref A.rs,.int j jt,.int v kt,.str (T (aJ b)) wt,q,p] 8),(A.rw,oL (vI row) n),(A.rs,oL (bV rs) e)]++rs.map cP));rintro a b' N ⟨rfl,k,rfl,rfl⟩;refine⟨_,_,l0 (rs:=rs) (e:=e) (.tail _ (.tail _ (.tail _ (.tail _ (.head _))))) (λr hr=>.tail _ (.tail _ (.tail _ (.tail _ (.tail _ (Mw hr)))))),iw.list (ds:=[]) (.head _) trivial,g6 rs,rfl,iq rs,_,[(k,oL [] 0)],(Mz (l₁:=[(k,oL [] 0)])),?_,rfl⟩;have:PyData.eqv (.list (rs.reverse.map nE)) (.list [])=rs.isEmpty:=by
   rw[PyData.eqv,<-Qs];cases rs.reverse<;>rfl
  rw[this]
 .rintro N ⟨h1,h2⟩;cases rs with
  |nil=>exact⟨rfl,h2⟩
  |cons r rs=>cases h1
 .rintro N ⟨h1,rfl⟩;cases rs with
  |nil=>cases h1
  |cons r rs=>
   rw[cL];refine TR.is ?_;cases hb:(r.1.1==b)with
   |true=>exact((LJ A.it A.rw A.rs A.loc io (oL (vI row) n) kk j v jt kt wt (aJ b) p q r.2.1 (bV rs) e (aJ r.1.1) _ _ _ _ _ _ _ _ _ (by rw[jc,hb]) w).tr (F:=rs.map cP) (Me _) λ_=>rfl).mono λa N h=>h.elim λch h=>⟨N,⟨h.1.trans hb.symm,h.2⟩,.refl _⟩
   |false=>exact((LD A.it A.rw A.rs A.loc io (oL (vI row) n) kk j v jt kt wt (aJ b) p q r.2.1 (bV rs) e (aJ r.1.1) _ _ _ _ _ _ _ _ _ (by rw[jc,hb]) w).tr (F:=rs.map cP) (Me _) λ_=>rfl).mono λa N h=>h.elim λch h=>⟨N,⟨h.1.trans hb.symm,h.2⟩,.refl _⟩
theorem e6:aG bm A.it (aH A.loc)=.forLoop (cq bm) (.ref A.it) (bv.take 2++fu::bv.drop 3) (dQ bm) (aH A.loc):=by
 unfold aG;rw[<-kZ]
theorem g8(v left j x:Int)(t:Tok)(o:Obj)(rs:List RC)(e:Nat)(Q:Result->ah->Prop)(ho:uR w.params A j o)(hl:decide (left<=0)=false)(h0:0<=v)(hf:Builtin.List.listFitsIndex v=true)(hx:(vI row)[v.toNat]?=some (.int x t))(hr:rs.length<=1000)
  (k:∀j' o' rs' e',(rs'.map (·.1),j')=dh (row.map (·.1)) x v (rs.map (·.1),j)->jO w.params A j' o'->ak w mT 60 (aG bm A.it (aH A.loc)) (sk w.params A row n (v+1) (left-1) o' rs' e') Q):
  ak w mT 60 (aG bm A.it (aH A.loc)) (sk w.params A row n v left o rs e) Q:=by
 rw[e6];refine TR.forS (λv=>nJ v _) (I3 w A row n v left j x t o ((A.rs,oL (bV rs) e)::rs.map cP) ho hl h0 hf hx) ?_;rintro a N ⟨kk,jt,kt,wt,rfl⟩;generalize hb:fI (row.map (·.1)) x=b;refine TR.ifS (pp w A row n (aY (v+1) (left-1)) b kk j v jt kt wt (.int v kt) (.int j jt) rs e) ?_;rintro c N ⟨hc,rfl⟩;have fin:∀(p q:Int) (pt qt:Tok) (rs2:List RC) (e2:Nat),rs2.length<=1000->((b,p,v+1,q,oo b j)::rs2.map (·.1),oo b j)=dh (row.map (·.1)) x v (rs.map (·.1),j)->
   TR w mT 60 (execs (bv.drop 3) (aH A.loc)) ([(A.it,aY (v+1) (left-1)),(A.loc,frm w.params av kk [.ref A.rw,.ref A.rw,.ref A.rs,.int j jt,.int v kt,.str (T (aJ b)) wt,.int q qt,.int p pt] 8),(A.rw,oL (vI row) n),(A.rs,oL (bV rs2) e2)]++rs2.map cP)
    λf N=>match f with |.next |.cont=>ak w mT 60 (.forLoop (cq bm) (.ref A.it) (bv.take 2++fu::bv.drop 3) (dQ bm) (aH A.loc)) N Q |.brk=>Q (.ok .next) N |.ret v=>Q (.ok (.ret v)) N:=λp q pt qt rs2 e2 hl2 he=>by
  refine(I4 w A row n (aY (v+1) (left-1)) b kk j v p q jt kt wt pt qt rs2 e2 hl2).mono ?_;rintro f N ⟨rfl,r,o',e',h1,h2,rfl⟩;refine⟨_,?_,.refl _⟩;show ak _ _ _ _ _ _;rw[<-e6];exact k (oo b j) o' (r::rs2) e' (by rw[Ml,h1];exact he) h2
 cases c with
 |false=>
  refine TR.nil (fin v j kt jt rs e hr ?_);cases rs with
  |nil=>simp only[dh,hb,Na]
  |cons r rs=>
   have hc:false=(r.1.1==b):=hc;simp only[dh,hb,Ml,<-hc,cond_false]
 |true=>
  cases rs with
  |nil=>cases hc
  |cons r rs=>
   have hc:true=(r.1.1==b):=hc;rw[cL];refine TR.seq1 (((LC A.it A.rw A.rs A.loc (aY (v+1) (left-1)) (oL (vI row) n) kk j v jt kt wt (aJ b) (.int v kt) (.int j jt) r.2.1 (bV rs) e (aJ r.1.1) _ _ _ _ _ _ _ _ _ (by rw[g5];exact Oo hr) w).tr (F:=rs.map cP) (Me _) λ_=>rfl).mono ?_);rintro a N ⟨ch,_,rfl⟩;refine⟨_,fin _ _ _ _ rs (e+1) (Oo hr) ?_,.refl _⟩;simp only[dh,hb,Ml,<-hc,cond_true]
theorem g7(hn:row.length<=100)(Q:Result->ah->Prop):∀(rest:List (Int×Tok)) (i:Nat) (v left j:Int) (o:Obj) (rs:List RC) (e:Nat),row.drop i=rest->v=i->left=rest.length->jO w.params A j o->rs.length+rest.length<=1000->
  (∀v' l' j' o' rs' e',(rs'.map (·.1),j')=qN (row.map (·.1)) v (rest.map (·.1)) (rs.map (·.1),j)->jO w.params A j' o'->Q (.ok .next) (sk w.params A row n v' l' o' rs' e'))->
  ak w mT 60 (aG bm A.it (aH A.loc)) (sk w.params A row n v left o rs e) Q
 |[],i,v,left,j,o,rs,e,hd,hv,hl,ho,hr,k=>(I6 A.it A.loc v left (decide_eq_true (by rw[hl];decide)) w).st (F:=[(A.loc,o),(A.rw,oL (vI row) n),(A.rs,oL (bV rs) e)]++rs.map cP) (Me _) λch=>k v left j o rs e rfl ho
 |(x,t)::rest,i,v,left,j,o,rs,e,hd,hv,hl,ho,hr,k=>by
  obtain⟨h1,h2⟩:=eQ hd;have hi:i<row.length:=(Mj.mp h1).1;refine g8 w A row n v left j x t o rs e Q (.inr ho) (decide_eq_false ?_) ?_ ?_ ?_ ?_ λj' o' rs' e' hs ho'=>?_
  .rw[hl,Mg];clear hr hd k ho hn;omega
  .rw[hv];exact MS i
  .rw[hv];exact mJ (M4 (Qd hi) hn)
  .rw[hv,cT,M0,h1];rfl
  .exact M4 (Pw _ _) hr
  .have hlen:=ft hs;refine g7 hn Q rest (i+1) (v+1) (left-1) j' o' rs' e' h2 (by rw[hv];rfl) (by rw[hl,Mg];clear hr hd k ho hn;omega) ho' (by rw[Mg]at hr;clear hn k;omega) λv' l' j2 o2 rs2 e2 h3 h4=>k v' l' j2 o2 rs2 e2 (by rw[h3,hs];rfl) h4
end
noncomputable def n7(P:Params)(it loc rw rs:Addr)(kk:Nat->Tok)(jt:Tok)(row:List (Int×Tok))(n:Nat)(left:Int)(q:List RQ×Int):Tr:=
 ⟨[],λ_=>[],λu=>[(bD q u).1.map cP],aG bm it (aH loc),[(it,aY 0 left),(loc,frm P av kk [.ref rw,.ref rw,.ref rs,.int 0 jt] 4),(rw,oL (vI row) n),(rs,oL [] 0)],λ_=>.ok .next,λu=>[aY (bD q u).2.2.2.2.2.2.2.2.1 (bD q u).2.2.2.2.2.2.2.2.2,frm P av (bD q u).2.2.1 [.ref rw,.ref rw,.ref rs,.int q.2 (bD q u).2.2.2.1,(bD q u).2.2.2.2.1,(bD q u).2.2.2.2.2.1,(bD q u).2.2.2.2.2.2.1,(bD q u).2.2.2.2.2.2.2.1] 8,oL (vI row) n,oL (bV (bD q u).1) (bD q u).2.1],λ_=>[]⟩
theorem ue(it loc rw rs:Addr)(kk:Nat->Tok)(jt:Tok)(row:List (Int×Tok))(n:Nat)(left:Int)(q:List RQ×Int)(h1:1<=row.length)(hn:row.length<=100)(hl:left=row.length)(hq:bf (row.map (·.1)) (row.map (·.1))=q)(w:World):
  af w mT 60 (n7 w.params it loc rw rs kk jt row n left q):=by
 subst hq;refine ak.tri (λ_=>⟨rfl,rfl⟩) (Q:=λr N=>r=.ok .next/\yA λv' l' o' rs' e'=>rs'.map (·.1)=(bf (row.map (·.1)) (row.map (·.1))).1/\jO w.params ⟨it,loc,rw,rs⟩ (bf (row.map (·.1)) (row.map (·.1))).2 o'/\N=sk w.params ⟨it,loc,rw,rs⟩ row n v' l' o' rs' e') ?_ ?_
 .cases row with
  |nil=>exact absurd h1 (by decide)
  |cons x row=>
   refine g8 w ⟨it,loc,rw,rs⟩ (x::row) n 0 left 0 x.1 x.2 _ [] 0 _ (.inl ⟨kk,jt,rfl⟩) (decide_eq_false ?_) (Int.le_refl 0) rfl rfl (by decide) λj' o' rs' e' hs ho'=>?_
   .rw[hl,Mg];clear hn h1;omega
   .have hlen:=ft hs;refine g7 w ⟨it,loc,rw,rs⟩ (x::row) n hn _ row 1 (0+1) (left-1) j' o' rs' e' rfl rfl (by rw[hl,Mg];clear hn h1 hlen;omega) ho' (by rw[Mg]at hn;simp only[MC]at hlen;clear h1 hl hs;omega) λv' l' j2 o2 rs2 e2 h3 h4=>?_
    have e:(rs2.map (·.1),j2)=bf ((x::row).map (·.1)) ((x::row).map (·.1)):=by rw[h3,hs];rfl
    exact⟨rfl,v',l',o2,rs2,e2,congrArg Prod.fst e,by rw[<-e];exact h4,rfl⟩
 .rintro r N ⟨rfl,v',l',o',rs',e',h1,⟨kk',jt',z1,z2,z3,z4,rfl⟩,rfl⟩;obtain⟨u,_,hu⟩:=lZ (bf (row.map (·.1)) (row.map (·.1))) (rs',e',kk',jt',z1,z2,z3,z4,v',l') h1 λ_=>0
  refine⟨u,rfl,?_⟩;simp only[n7,hu,sk];rw[cf,Nx,M9,MU,MN,M9,Mq,Mq];exact .refl _
end D
noncomputable def zN(P:Params)(rw:Addr)(row:List (Int×Tok))(n1:Nat)(m:Nat)(q:List RQ×Int):Tr:=
 ⟨[],λuu=>[],λuu=>[List.map cP (bD q uu).1],.call (.ref 512) ⟨[.ref rw,.ref rw],[]⟩,[(rw,oL (vI row) n1)],λuu=>(.ok (.ret (.ref ((uu.n 0)+ab)))),λuu=>[oL (vI row) n1],λuu=>[((uu.n 0)+ab,oL (bV (bD q uu).1) (bD q uu).2.1)]⟩
theorem El(rw:Addr)(row:List (Int×Tok))(n1:Nat)(m:Nat)(q:List RQ×Int)(hm:(vI row).length=m+1)(hl:(vI row).length<=1000)(hb:0<=Int.ofNat (m+1))(hb2:Int.ofNat (m+1)<=10000)(h1:1<=row.length)(h2:row.length<=100)(h3:Int.ofNat (m+1)=row.length)(hq:bf (row.map (·.1)) (row.map (·.1))=q)(w:World):af w mT 100 (zN w.params rw row n1 m q):=
 cx (mT) 100 (λP=>zN P rw row n1 m q) 0x6109108208088088202082084086041041186186086186183 (λw=>[rF 0 [0] [] λhh=>aF rw (vI row) n1 (m+1) hm (by omega),rF 0 [3] [] λhh=>dT (aZ hh 10) (Int.ofNat (m+1)) (nZ hh 8) (nZ hh 7) (nZ hh 9) hb hb2,rT 60 [4,1,0,2] [] λhh=>D.ue (aZ hh 11) (aZ hh 0) rw (aZ hh 3) (kl [nZ hh 1,nZ hh 2,nZ hh 4,nZ hh 6]) (nZ hh 5) row n1 (Int.ofNat (m+1)) q h1 h2 h3 hq w])
 [0,2] [0] (λch=>⟨λi=>[nZ ch 3].getD i 0,(ch 12).u⟩) w
noncomputable def IY(rw:Addr)(n1:Nat)(w:World):=
 cY (mT) 100 (λP=>.call (.ref 512) ⟨[.ref rw,.ref rw],[]⟩)
 (λP=>[(rw,oL [] n1)]) (λP=>[])
 0x6109108208088088202082084086041041186186086186183 (λw=>[rF 0 [0] [] λhh=>aF rw [] n1 0 rfl (by decide),rF 0 [3] [] λhh=>dT (aZ hh 10) 0 (nZ hh 8) (nZ hh 7) (nZ hh 9) (by decide) (by decide),rT 60 [4] [] λhh=>uf (aZ hh 11) (aZ hh 0) w])
 [0,2] [] (λP ch=>(.ok (.ret (.ref (aZ ch 3))))) (λP ch=>[(rw,oL [] n1),(aZ ch 3,oL [] 0)]) (λP ch=>[]) w
namespace D
noncomputable def kc(rw:Addr)(row:List (Int×Tok))(n1:Nat):Tr:=
 ⟨[],λ_=>[],λu=>[(bD (bf (row.map (·.1)) (row.map (·.1))) u).1.map cP],.call (.ref 512) ⟨[.ref rw,.ref rw],[]⟩,[(rw,oL (vI row) n1)],λu=>.ok (.ret (.ref (u.n 0+ab))),λ_=>[oL (vI row) n1],λu=>[(u.n 0+ab,oL (bV (bD (bf (row.map (·.1)) (row.map (·.1))) u).1) (bD (bf (row.map (·.1)) (row.map (·.1))) u).2.1)]⟩
theorem ug(rw:Addr)(row:List (Int×Tok))(n1:Nat)(hr:row.length<=100)(w:World):af w mT 100 (kc rw row n1):=by
 match row,hr with
 |[],_=>
  refine ak.tri (λ_=>⟨rfl,rfl⟩) (IY rw n1 w) ?_;refine fr λch=>?_
  obtain⟨u,e1,e2⟩:=lZ (bf (([]:List (Int×Tok)).map (·.1)) (([]:List (Int×Tok)).map (·.1))) (([],0,λ_=>0,0,.none,.none,.none,.none,0,0):RU) rfl (λ_=>nZ ch 3);refine⟨u,?_,?_⟩
  .simp only[kc,e1]
  .simp only[kc,e1,e2];exact .refl _
 |x::rest,hr=>
  have hm:(vI (x::rest)).length=rest.length+1:=by rw[show vI=List.map λp=>Value.int p.1 p.2 from rfl,Mc];rfl
  have hl:rest.length+1<=100:=hr;exact El rw (x::rest) n1 rest.length _ hm (by rw[hm];omega) (MS _) (by simp only[Mx];omega) (M5 1 _) hr rfl rfl w
end D
noncomputable def IM(loc sc c1 c2 c3 c4 c5 so stg la nm:Addr)(kk:Nat->Tok)(gl:List Nat)(gt:Tok)(g1:Value)(fs:Array (Option Value))(pz:List Value)(pn:Nat)(st:List (Int×Tok))(n:Nat)(hr:st.length<=100)(w:World):=
 aq (mT) 180 (λP=>dm (bc (aE (aP (ao aV) 2)) 1) (br (bF c1 c2 c3 c4 c5) loc))
 (λP=>[(loc,au P aC kk (.ref sc::.ref so::.str (T gl) gt::.ref stg::g1::.ref la::.ref nm::.ref la::pz) pn fs),(la,oL (vI st) n)]) (λP=>[])
 67391809 (λw=>[rT 100 [1] [] λhh=>D.ug la st n hr w])
 [0,1,2] [0] (λP ch=>.ok (.ref (aZ ch 0))) (λP ch=>[(loc,au P aC kk ((.ref sc)::(.ref so)::(.str (T gl) gt)::(.ref stg)::g1::(.ref la)::(.ref nm)::(.ref la)::pz) pn fs),(la,oL (vI st) n),(aZ ch 0,(oL (bV (bD (bf (st.map (·.1)) (st.map (·.1))) (ch 0)).1) (bD (bf (st.map (·.1)) (st.map (·.1))) (ch 0)).2.1))]) (λP ch=>[(List.map cP (bD (bf (st.map (·.1)) (st.map (·.1))) (ch 0)).1)]) w
noncomputable def Bg(y:List Nat)(g:List PN):Bool:=match g.find? (·.nm==y)with
 |some d=>d.np-1==0
 |none=>false
noncomputable def iU(q:List PN×List (List Nat))(p:List Nat):List PN×List (List Nat):=(pC p (λd=>{d with np:=d.np-1}) q.1,bif Bg p q.1 then q.2++[p]else q.2)
noncomputable def mE:List (List Nat)->List PN×List (List Nat)->List PN×List (List Nat)
 |[],q=>q
 |p::sc,q=>mE sc (iU q p)
noncomputable def gK(q:List PN×List (List Nat))(p:List Nat):List PN×List (List Nat):=match q.1.find? (·.nm==p)with
 |some d=>mE d.sc (pC p (λd=>{d with np:= -2}) q.1,q.2)
 |none=>q
noncomputable def xL(q:List PN×List (List Nat))(p:List Nat):Bool:=match q.1.find? (·.nm==p)with
 |some d=>d.np== -1&&d.sc.all (λs=>s != p&&q.1.any (·.nm==s))&&Nat.ble (q.2.length+d.sc.length) 9000
 |none=>false
noncomputable def kE:List (List Nat)->List PN×List (List Nat)->Option (List PN×List (List Nat))
 |[],q=>some q
 |p::r,q=>bif xL q p then kE r (gK q p)else none
noncomputable def uU(g:List PN)(p:List Nat):List PN:=pC p (λd=>{d with np:= -1}) g
noncomputable def l4(g:List PN):List (List Nat):=(g.filter λd=>d.np==0).map (·.nm)
noncomputable def pJ:List Nat->Option (List Nat)
 |47::q=>
  let r:=(q.reverse.takeWhile (· != 47)).reverse;let m:=q.take (q.length-r.length-1)
  bif r.isEmpty||Nat.ble 1000 q.length||r.any (·==47)then none
  else bif r==q then some r
  else bif m++47::r==q then some r else none
 |_=>none
noncomputable def lg:List (List Nat)->Option (List (List Nat))
 |[]=>some []
 |p::l=>(pJ p).bind λr=>(lg l).bind λrs=>some (r::rs)
noncomputable def r7(x:Int):Bool:=(decide (1<=x)||decide (x<0))&&decide (x<=15)&&decide (-15<=x)
noncomputable def BL:Nat->List PN->List (List Nat)->List (List Int)->Option (List (List Int))
 |0,_,_,_=>none
 |_,_,_,[]=>none
 |_,_,[],l=>some l
 |f+1,g,r1::rs,now::prev=>bif Nat.ble (r1::rs).length 6&&(r1::rs).all (λp=>g.any (·.nm==p))&&Nat.ble now.length 90&&now.all r7&&Nat.ble 1 (b8 now).length&&(b8 now).all (λk=>decide (0<=k)&&decide (k<now.length))&&Nat.ble prev.length 20 then
   (lg (r1::rs)).bind λb=>bif b==gX now (b8 now)then
    (kE (r1::rs) ((r1::rs).foldl uU g,[])).bind λq=>BL f q.1 q.2 (jF now (b8 now)::now::prev)
   else none
  else none
noncomputable def Bu(hs:List Nat)(last st:List Int):Bool:=(st.foldl cw []==hs)&&Nat.ble st.length 19&&st.all r7&&match iQ (hU st) (cc hs)with
 |none=>false
 |some res=>Nat.ble 1 res.length&&Nat.ble res.length 100&&match eG res (0,0,[])with
  |none=>false
  |some s=>s.2.2==(bf st last).1
noncomputable def lN:List Nat->Bool
 |[]=>true
 |x::l=> !l.contains x&&lN l
noncomputable def rL(row:List Int):Bool:=Nat.ble row.length 19&&row.all r7&&match row with
 |[]=>false
 |x::_=>decide (1<=x)&&match ga row ⟨[],[],[]⟩with
  |none=>false
  |some q=>Nat.ble q.g.length 100&&Nat.ble 1 q.g.length&&(q.hs.all λc=>Nat.ble 97 c&&Nat.ble c 111)&&Nat.ble q.hs.length 20&&lN q.hs&& !(l4 q.g).isEmpty&&match dO (q.g.map λd=>(d.nm,d.sc)) 400 (q.g.map (·.nm)) []with
   |none=>false
   |some _=>match BL 20 q.g (l4 q.g) [row]with
    |none=>false
    |some []=>false
    |some (last::prev)=>(last::prev).all (λst=>st.all λx=>row.contains x)&&(b8 last).isEmpty&&(q.hs==last.flatMap λx=>bif decide (x>0)then[96+x.toNat]else[])&&Nat.ble prev.length 20&&(last::prev).all (Bu q.hs last)
noncomputable def uV(par:List Bool):List Int:=gC ([0,2,5,4,1,3,0]++par.map λb=>bif b then 1 else 0)
noncomputable def x9:Nat->List (List Bool)
 |0=>[[]]
 |n+1=>(x9 n).flatMap λl=>[true::l,false::l]
noncomputable def dZ(q:List Nd×List Pt):List PN×List (List Nat):=(aO q.1,q.2.map (·.1))
theorem jf(y:List Nat)(ns:List Nd):(aO ns).find? (·.nm==y)=(ns.find? (·.nm==y)).map iK:=by
 unfold aO;rw[PO];rfl
theorem wC(y:List Nat)(ns:List Nd):Bg y (aO ns)=o9 y ns:=by
 unfold Bg o9;rw[jf];cases ns.find? (·.nm==y)<;>rfl
theorem ou(t:Tok)(q:List Nd×List Pt)(p:Pt):dZ (aR t q p)=iU (dZ q) p.1:=by
 unfold dZ aR iU;simp only;rw[wC,gI p.1 (dp t) (λd=>{d with np:=d.np-1}) (λd=>rfl)];cases o9 p.1 q.1<;>simp
theorem mv:∀(sc:List Pt) (ts:Nat->Tok) (q:List Nd×List Pt),dZ (co sc ts q)=mE (sc.map (·.1)) (dZ q)
 |[],_,_=>rfl
 |p::sc,ts,q=>by
  show dZ (co sc _ (aR (ts 0) q p))=mE (sc.map (·.1)) (iU (dZ q) p.1);rw[mv sc,ou]
theorem iy(ts:Nat->Tok)(q:List Nd×List Pt)(p:Pt):dZ (bJ ts q p)=gK (dZ q) p.1:=by
 unfold bJ gK;rw[show(dZ q).1=aO q.1 from rfl,jf];cases q.1.find? (·.nm==p.1)with
 |none=>rfl
 |some d=>
  simp only[Np];rw[mv];show mE _ (aO (dn p.1 (cN (-2) 769) q.1),q.2.map (·.1))=_;rw[gI p.1 (cN (-2) 769) (λd=>{d with np:= -2}) (λd=>rfl)];rfl
theorem xM{q:List Nd×List Pt}{p:Pt}(h:xL (dZ q) p.1=true):i5 q p:=by
 unfold xL at h;rw[show(dZ q).1=aO q.1 from rfl,jf]at h;unfold i5;cases hd:q.1.find? (·.nm==p.1)with
 |none=>rw[hd]at h;cases h
 |some d=>
  rw[hd]at h;simp only[Np,MF]at h;obtain⟨⟨h1,h2⟩,h3⟩:=h;refine⟨d,rfl,eq_of_beq h1,λs hs=>?_,?_⟩
  .have:=MO.mp h2 s.1 (Mw hs);simp only[MF]at this;exact⟨by simpa using this.1,k9 this.2⟩
  .have:=Mm h3;simpa[dZ,iK]using this
theorem jm:∀(ys:List Pt) (q:List Nd×List Pt) (q':List PN×List (List Nat)),kE (ys.map (·.1)) (dZ q)=some q'->bI ys q/\∀ts,dZ (aM ys ts q)=q'
 |[],q,q',h=>⟨trivial,λts=>by cases h;rfl⟩
 |p::ys,q,q',h=>by
  obtain⟨hm,h⟩:=du (show(bif xL (dZ q) p.1 then kE (ys.map (·.1)) (gK (dZ q) p.1)else none)=some q' from h);refine⟨⟨xM hm,λts=>?_⟩,λts=>?_⟩
  .exact(jm ys (bJ ts q p) q' (by rw[iy];exact h)).1
  .exact(jm ys (bJ (ts 0) q p) q' (by rw[iy];exact h)).2 _
theorem my:∀(rs:List Pt) (ns:List Nd),aO (rs.foldl bU ns)=(rs.map (·.1)).foldl uU (aO ns)
 |[],_=>rfl
 |p::rs,ns=>by
  rw[Mv,my rs,Ml,Mv];congr 1;exact gI p.1 (cN (-1) 766) (λd=>{d with np:= -1}) (λd=>rfl) ns
theorem wD(ns:List Nd):(aW ns).map (·.1)=l4 (aO ns):=by
 unfold aW l4 aO;rw[List.filter_map,MA,MA];rfl
theorem Dn(ns:List Nd):fA ns=(aO ns).map λd=>(d.nm,d.sc):=by
 unfold fA aO;rw[MA];rfl
theorem wB(ns:List Nd):ns.map (·.nm)=(aO ns).map (·.nm):=by
 unfold aO;rw[MA];rfl
theorem wP{p r:List Nat}(h:pJ p=some r):h8 p r:=by
 unfold pJ at h;split at h
 .rename_i q;simp only at h;generalize hr:(q.reverse.takeWhile (· != 47)).reverse=x at h;generalize q.take (q.length-x.length-1)=m at h;cases h1:(x.isEmpty||Nat.ble 1000 q.length||x.any (·==47))with
  |true=>rw[h1]at h;cases h
  |false=>
   rw[h1]at h;simp only[Nr]at h1;obtain⟨⟨a1,a2⟩,a3⟩:=h1;have hq:q.length<1000:=by
    cases hb:decide (1000<=q.length)with
    |true=>have:=Nat.ble_eq.mpr (of_decide_eq_true hb);rw[a2]at this;cases this
    |false=>have:=of_decide_eq_false hb;omega
   have n1:x≠[]:=by
    intro e;rw[e]at a1;cases a1
   have n2:47∉x:=λhm=>by
    have:=List.any_eq_false.mp a3 47 hm;simp at this
   have nm:iP x:=⟨n1,n2⟩;simp only[cond_false]at h;cases h2:x==q with
   |true=>
    rw[h2]at h;simp only[cond_true]at h;cases h;have e:=eq_of_beq h2;exact⟨[],nm,by rw[e];show 0+q.length<=4000;omega,by rw[e];rfl⟩
   |false=>
    rw[h2]at h;simp only[cond_false]at h;cases h3:m++47::x==q with
    |false=>rw[h3]at h;cases h
    |true=>
     rw[h3]at h;simp only[cond_true]at h;cases h;have e:=eq_of_beq h3;refine⟨[m],nm,?_,?_⟩
     .have:=congrArg List.length e;simp at this;rw[cQ];omega
     .rw[<-e];show _=47::jP [m,r];rw[aS,cQ]
 .cases h
theorem mC:∀(l rs:List (List Nat)),lg l=some rs->∃g:List (List Nat×List Nat),l=g.map (·.1)/\rs=g.map (·.2)/\∀p∈g,h8 p.1 p.2
 |[],rs,h=>⟨[],rfl,by cases h;rfl,λ_ h=>nomatch h⟩
 |p::l,rs,h=>by
  obtain⟨r,h1,h⟩:=Mk.mp (show(pJ p).bind (λr=>(lg l).bind λrs=>some (r::rs))=some rs from h);obtain⟨rs',h2,h⟩:=Mk.mp h;cases h;obtain⟨g,g1,g2,g3⟩:=mC l rs' h2;refine⟨(p,r)::g,by rw[g1];rfl,by rw[g2];rfl,λq hq=>?_⟩;rcases My.mp hq with rfl |hq
  .exact wP h1
  .exact g3 q hq
theorem nD{α β:Type}(l:List α)(f:α->Option β):∀k≤l.length,(List.range k).flatMap (λi=>o1 (l[i]?.bind f))=(l.take k).filterMap f
 |0,_=>by simp
 |k+1,h=>by
  have hk:k<l.length:=h;have e:l[k]?=some l[k]:=Mp hk;rw[Oe,Of,nD l f k (Qd hk),QK,List.filterMap_append];congr 1;cases hf:f l[k]<;>simp[o1,hf,e]
theorem eY{α β:Type}(l:List α)(f:α->Option β):(List.range l.length).flatMap (λi=>o1 (l[i]?.bind f))=l.filterMap f:=by
 rw[nD l f _ (Me _),QU]
theorem yc(l:List Int):ik l=l.filterMap λx=>bif decide (x>0)then some (cE x)else none:=eY l _
theorem Bd(l:List (List Nat)):BV l=l.filterMap λy=>bif y != []then some y else none:=eY l _
theorem pj(ps:List (List Nat))(l:List Int):sI ps l=l.filterMap λx=>ps[(bT x).toNat]?:=eY l _
theorem gY{α β:Type}(o:Option α)(f:α->β):o.map f=o.bind λx=>some (f x):=by cases o<;>rfl
theorem wF(l:List Int):hU l=l.map cE:=by
 have:=eY l (λx=>some (cE x));unfold hU sX;simp only[gY];rw[this,OD]
theorem wO(g:List (List Nat×List Nat)):le g=g.map (·.2):=by
 have:=eY g (λx=>some x.2);unfold le sZ;simp only[gY];rw[this,OD]
theorem p8:∀L:List (List (List Nat)),(∀l∈L,l≠[])->jP (L.map jP)=jP L.flatten
 |[],_=>rfl
 |[l],_=>by simp[cQ]
 |l::l'::L,h=>by
  rw[Ml,Ml,aS,<-Ml,p8 (l'::L) λx hx=>h x (.tail _ hx),show(l::l'::L).flatten=l++(l'::L).flatten from rfl];have hne:(l'::L).flatten≠[]:=λhf=>by
   rw[MN]at hf;exact absurd (List.append_eq_nil_iff.mp hf).1 (h l' (.tail _ (.head _)))
  revert hne;generalize(l'::L).flatten=F;intro hne;cases F with
  |nil=>exact absurd rfl hne
  |cons d ds=>rw[gk l d ds (h l (.head _))]
theorem yl{h:List Nat}(x:Int)(hx:fD x)(hc:∀c∈h,97<=c):∀c∈cw h x,97<=c:=λc hm=>by
 unfold cw at hm;split at hm
 .rcases MT.mp hm with hm |hm
  .exact hc c hm
  .rw[MR]at hm;rename_i hp;omega
 .exact hc c (OP _ hm)
theorem uH(pf:Int->Nat):∀(xs:List Int) (h:List Nat),(∀x∈xs,fD x)->(∀c∈h,97<=c)->((xs.map λx=>i8 (pf x) x).flatten).foldl cF (cc h)=cc (xs.foldl cw h)
 |[],h,_,_=>rfl
 |x::xs,h,hx,hc=>by
  have ox:=hx x (.head _);rw[Ml,MN,NO,Mv,<-uH pf xs (cw h x) (λy hy=>hx y (.tail _ hy)) (yl x ox hc)];congr 1;have:=zl h x (pf x) hc ox.1 ox.2.1;rw[NO,pb h [] hc]at this;exact this
theorem ya(p:Nat)(x:Int):(i8 p x).length<=3:=by
 obtain⟨d,dl,ds,e,_,h⟩:=eW p x;rw[e,Mg];omega
theorem mK(pf:Int->Nat):∀xs:List Int,((xs.map λx=>i8 (pf x) x).flatten).length<=3*xs.length
 |[]=>by simp
 |x::xs=>by
  have h1:=mK pf xs;have h2:=ya (pf x) x;rw[Ml,MN,Mn,Mg];omega
theorem mO{α β:Type}{f g:α->Option β}:∀{l:List α},(∀x∈l,f x=g x)->l.filterMap f=l.filterMap g
 |[],_=>rfl
 |x::l,h=>by rw[Nk,Nk,h x (.head _),mO λy hy=>h y (.tail _ hy)]
theorem uI(ps:List (List Nat))(xs:List Int)(hs:List Nat)(hl:xs.length<=19)(ho:∀x∈xs,fD x/\∃p,ps[(bT x).toNat]?=some (kz p x))(he:xs.foldl cw []=hs):w8 (47::jP (sI ps xs)) (bn hs):=by
 have hp:∀x∈xs,∃p,ps[(bT x).toNat]?=some (kz p x):=λx hx=>(ho x hx).2
 obtain⟨pf,hpf⟩:∃pf:Int->Nat,∀x∈xs,ps[(bT x).toNat]?=some (kz (pf x) x):=⟨λx=>Classical.epsilon λp=>ps[(bT x).toNat]?=some (kz p x),λx hx=>Classical.epsilon_spec (hp x hx)⟩;have e1:sI ps xs=(xs.map λx=>i8 (pf x) x).map jP:=by
  rw[pj,MA];have:xs.filterMap (λx=>ps[(bT x).toNat]?)=xs.filterMap (λx=>some (kz (pf x) x)):=mO λx hx=>hpf x hx
  rw[this,OD];rfl
 cases xs with
 |nil=>
  right;subst he;exact⟨rfl,rfl⟩
 |cons x xs=>
  left;have hne:∀l∈((x::xs).map λx=>i8 (pf x) x),l≠[]:=λl hl=>by
   obtain⟨y,_,rfl⟩:=ML.mp hl;obtain⟨d,dl,ds,e,_⟩:=eW (pf y) y;simp only[e];simp
  have e2:=p8 _ hne;have e3:=uH pf (x::xs) [] (λy hy=>(ho y hy).1) (λ_ h=>nomatch h);have hlen:=mK pf (x::xs);have hmem:∀y∈((x::xs).map λx=>i8 (pf x) x).flatten,47∉y/\y.length<=50:=λy hy=>by
   obtain⟨l,hl,hyl⟩:=List.mem_flatten.mp hy;obtain⟨z,hz,rfl⟩:=ML.mp hl;exact lU (pf z) z (ho z hz).1.2.1 y hyl
  obtain⟨d,dl,ds,e,_⟩:=eW (pf x) x;have ef:((x::xs).map λx=>i8 (pf x) x).flatten=(d::dl)::(ds++(xs.map λx=>i8 (pf x) x).flatten):=by
   rw[Ml,MN,e];rfl
  rw[ef]at e2 e3 hlen hmem;refine⟨d,dl,_,λy hy=>(hmem y hy).1,λy hy=>(hmem y hy).2,?_,?_,?_⟩
  .rw[Mg]at hlen;omega
  .rw[e1,e2]
  .rw[<-he,show(cc [])=([]:List (List Nat))from rfl]at*;rw[e3];rfl
theorem uS{x:Int}(h:r7 x=true):fD x:=by
 unfold r7 at h;simp only[MF,Q7,decide_eq_true_eq]at h;exact⟨h.1.1,h.1.2,h.2⟩
noncomputable def hZ(hs:List Nat):List (List Nat):=[]::(match hs with |[]=>[[]] |h=>cc h)
theorem lx{hs:List Nat}(h:kw hs):cR (T (bn hs)) (T [47])=(hZ hs).map λa=>T a:=by
 have e:bn hs=jP (hZ hs):=by
  cases hs with
  |nil=>rfl
  |cons c l=>
   show _=jP ([]::cc (c::l));cases hl:cc (c::l)with
   |nil=>cases hl
   |cons a b=>rw[aS];unfold bn;rw[hl];rfl
 rw[e];refine nN [] _ λx hx=>?_
 rcases My.mp hx with rfl |hx
 .simp
 .cases hs with
  |nil=>
   have:x=[]:=by simpa using hx
   subst this;simp
  |cons c l=>exact(lM h x hx).2
theorem o8(hs:List Nat):BV (hZ hs)=cc hs:=by
 rw[Bd];cases hs with
 |nil=>rfl
 |cons c l=>
  show List.filterMap _ ([]::cc (c::l))=_;have:∀m:List Nat,(cc m).filterMap (λy=>bif y != []then some y else none)=cc m:=by
   intro m
   induction m with
   |nil=>rfl
   |cons a m ih=>
    show List.filterMap _ ([a]::cc m)=[a]::cc m;rw[Nk,ih];rfl
  rw[Nk];exact this _
theorem oK{hs:List Nat}(h:kw hs):(hZ hs).length<=90/\1<=(hZ hs).length:=by
 refine⟨?_,M5 1 _⟩;cases hs with
 |nil=>decide
 |cons c l=>
  show(cc (c::l)).length+1<=90;have:=h.2;unfold cc;rw[Mc];omega
theorem yd(l:List Int):ik l=cc (l.flatMap λx=>bif decide (x>0)then[96+x.toNat]else[]):=by
 rw[yc]
 induction l with
 |nil=>rfl
 |cons x l ih=>
  rw[Nk,List.flatMap_cons];cases hx:decide (x>0)with
  |true=>
   simp only[cond_true];rw[ih];have:cE x=[96+x.toNat]:=by unfold cE;rw[if_pos (of_decide_eq_true hx)]
   rw[this];rfl
  |false=>
   simp only[cond_false];rw[ih];rfl
theorem l8{l:List Nat}(h:∀c∈l,c<1114112):PyData.strOk (T l)=true:=by
 unfold PyData.strOk;simp only[T];rw[Array.all_eq_true'];intro c hc;exact decide_eq_true (h c (by simpa using hc))
theorem Bc{x:Int}(h:fD x):∀c∈cE x,c<1114112:=λc hc=>by
 unfold cE at hc;have:=h.2.1;split at hc
 .rw[MR]at hc;omega
 .rcases My.mp hc with rfl |hc
  .decide
  .rw[MR]at hc;subst hc;decide
theorem vJ{hs:List Nat}(h:kw hs):∀c∈bn hs,c<1114112:=λc hc=>by
 unfold bn at hc;rcases My.mp hc with rfl |hc
 .decide
 .have key:∀l:List Nat,(∀c∈l,97<=c/\c<=111)->∀c∈jP (cc l),c<1114112:=by
   intro l
   induction l with
   |nil=>intro _ c hc;cases hc
   |cons a l ih=>
    intro hl c hc;cases l with
    |nil=>
     have:c=a:=by simpa[cc,cQ]using hc
     have:=hl a (.head _);omega
    |cons b l=>
     rw[show cc (a::b::l)=[a]::[b]::cc l from rfl,aS]at hc;rcases MT.mp hc with hc |hc
     .have:c=a:=by simpa using hc
      have:=hl a (.head _);omega
     .rcases My.mp hc with rfl |hc
      .decide
      .exact ih (λc hc=>hl c (.tail _ hc)) c hc
  exact key hs h.1 c hc
noncomputable def nP(l:List (List Nat)):PyData:=.list (l.map λa=>.str (T a))
theorem qP{N:ah}{ps:List Pt}{a:Addr}{n:Nat}(hm:(a,oL (vT ps) n)∈N):iw N (.ref a) (nP (ps.map (·.1))):=iw.list hm (by
 rw[MA];exact sO.of (f:=λp:Pt=>Value.str (T p.1) p.2) (g:=λp=>PyData.str (T p.1)) ps λp _=>.str _ _)
theorem vf{l:List (List Nat)}(h:∀x∈l,∀c∈x,c<1114112):(nP l).canLay0=true:=tc l λx hx=>by
 show PyData.strOk (T x)=true;exact l8 (h x hx)
theorem pu(l:List (List Nat)):(nP l).depth<=20:=by
 show PyData.depthAll _+1<=20;have:=iB (g:=λa=>PyData.str (T a)) (k:=3) l λr _=>by simp[PyData.depth]
 omega
section
variable{w:World}{hb:Md}{lv:Nat}
theorem TR.step{α:Type}{b:Md}{l:Nat}{t:Sem α}{M M':ah}(F:ah){o:Ch->Except Value α}{o':Ch->α}{g:Ch->ah}{Q:α->ah->Prop}(h:ck w b l t M λr N=>∃ch,r=o ch/\N=g ch)(p:M'.Perm (M++F))(e:l<=lv)(ho:∀ch,o ch=.ok (o' ch))(we:(b.hb&& !hb.hb)=false)(wf:jv b hb=b.fr)
  (k:∀ch,Cu (Q (o' ch)) (g ch++F)):TR w hb lv t M' Q:=λMt os G A s S hA C H=>
 (h.frame F) Mt os G A s S E0 ((hA.weak we wf).mono e) (C.perm p) λr N s' q C'=>by
  obtain⟨N',⟨ch,rfl,rfl⟩,rfl⟩:=q;rw[ho];obtain⟨N2,G2,hq,hp⟩:=k ch;exact H _ _ s' hq (C'.perm hp).left
theorem ak.step{b:Md}{l:Nat}{c:Code}{M M':ah}(F:ah){o:Ch->Result}{g:Ch->ah}{Q:Result->ah->Prop}(h:ak w b l c M λr N=>∃ch,r=o ch/\N=g ch)(p:M'.Perm (M++F))(e:l<=lv)(we:(b.hb&& !hb.hb)=false)(wf:jv b hb=b.fr)
  (k:∀ch,Cu (Q (o ch)) (g ch++F)):ak w hb lv c M' Q:=λMt os G A s R hA C H=>
 (h.frame F) Mt os G A s R ((hA.weak we wf).mono e) (C.perm p) λr N s' q C'=>by
  obtain⟨N',⟨ch,rfl,rfl⟩,rfl⟩:=q;obtain⟨N2,G2,hq,hp⟩:=k ch;exact H _ _ s' hq (C'.perm hp).left
end
noncomputable abbrev qq:Expr:=aE (aP (ao aV) 0)
noncomputable abbrev jI:Expr:=aE (aP (ao aV) 2)
noncomputable abbrev zf:Stmt:=.If (.Compare (bc qq 0) [.NotEq] [bc qq 1] qq.pos) (ao (aP (ao aV) 0)) [] (aP (ao aV) 0).pos
noncomputable abbrev zg:Stmt:=.If (.Compare (bc jI 0) [.NotEq] [bc jI 1] jI.pos) (ao (aP (ao aV) 2)) [] (aP (ao aV) 2).pos
theorem rK:ao aV=zf::([aP (ao aV) 1]++[zg]):=by kernel_rfl
theorem kO(it:Addr)(e:Env):aG aV it e=.forLoop (cq aV) (.ref it) ([]++zf::([aP (ao aV) 1]++[zg])) (dQ aV) e:=by
 unfold aG;rw[<-rK];rfl
theorem uq(v:Value)(it:Value):letOwnedTupleGo (cq aV) it v=pure ():=by kernel_rfl
noncomputable abbrev jJ:Expr:=aE (aP bB 8)
noncomputable abbrev Ey:Expr:=.Compare (bc (bc jJ 0) 0) [.NotEq] [bc (bc jJ 0) 1] (bc jJ 0).pos
noncomputable abbrev Ez:Expr:=.Compare (bc (bc jJ 1) 0) [.NotEq] [bc (bc jJ 1) 1] (bc jJ 1).pos
noncomputable abbrev EC:Stmt:=.If (.BoolOp .Or [Ey,Ez] jJ.pos) (ao (aP bB 8)) [] (aP bB 8).pos
noncomputable abbrev EB:Expr:=DP aV
noncomputable abbrev ur:Stmt:=.For (cq aV) EB (ao aV) (dQ aV) aV.pos
theorem kr:bB.drop 7=[aP bB 7]++EC::([aP bB 9]++ur::[aP bB 11]):=by kernel_rfl
noncomputable abbrev EE:Expr:=aE (aP (ao aU) 3)
noncomputable abbrev zh:Stmt:=.If (.Compare zS [.NotEq] [FV] EE.pos) (ao (aP (ao aU) 3)) [] (aP (ao aU) 3).pos
theorem rN:ao aU=(ao aU).take 3++zh::([aP (ao aU) 4]++[aP (ao aU) 5]):=by kernel_rfl
theorem kP(e:Env):ku aU e=.whileLoop (aE aU) ((ao aU).take 3++zh::([aP (ao aU) 4]++[aP (ao aU) 5])) (dQ aU) e:=by
 unfold ku;rw[<-rN]
noncomputable abbrev o0:Stmt:=.While (aE aU) (ao aU) (dQ aU) aU.pos
theorem uv:bB=[aP bB 0]++([aP bB 1]++([aP bB 2]++([aP bB 3]++([aP bB 4]++([aP bB 5]++o0::bB.drop 7))))):=by kernel_rfl
section
noncomputable abbrev SG:=Addr×List (Int×Tok)×Nat
noncomputable def nL(s:SG):Addr×Obj:=(s.1,oL (vI s.2.1) s.2.2)
noncomputable def dY(l:List SG):ah:=l.map nL
noncomputable def fU(l:List SG):List Value:=l.map λs=>.ref s.1
theorem pN{l:ah}:l.Perm (l++[]):=by rw[Mq]
theorem yb(p:Nat)(x:Int):(kz p x).length<=50:=by
 have h:(cE x).length<=2:=by unfold cE;split<;>simp
 unfold kz i8 sa;split
 .rw[MU,cQ];omega
 .rw[OL,aS,cQ,Mn,Mg];simp only[Mg,MC];omega
 .rw[MZ,MZ,MU,aS,aS,cQ];simp only[Mn,Mg,MC];omega
structure LA where
 loc:Addr
 c1:Addr
 c2:Addr
 c3:Addr
 c4:Addr
 c5:Addr
noncomputable abbrev LA.E(L:LA):Env:=br (bF L.c1 L.c2 L.c3 L.c4 L.c5) L.loc
noncomputable abbrev LA.hb(L:LA):Md:=⟨true,some [br (bF L.c1 L.c2 L.c3 L.c4 L.c5) L.loc]⟩
structure TA where
 sc:Addr
 so:Addr
 stg:Addr
 la:Addr
 nm:Addr
 pc:Addr
 hs:List Nat
 gt:Tok
 g1:Value
 fs:Array (Option Value)
noncomputable abbrev TA.fr(P:Params)(B:TA)(kk:Nat->Tok)(sg:Addr)(pz:List Value)(pn:Nat):Obj:=au P aC kk (.ref B.sc::.ref B.so::.str (T (bn B.hs)) B.gt::.ref B.stg::B.g1::.ref B.la::.ref B.nm::.ref sg::pz) pn B.fs
noncomputable def TA.fr8(P:Params)(B:TA)(sg:Addr)(o:Obj):Prop:=∃kk,o=B.fr P kk sg [] 8\/∃z,o=B.fr P kk sg [z] 9
noncomputable def TA.fr7(P:Params)(B:TA)(o:Obj):Prop:=∃kk,o=au P aC kk [.ref B.sc,.ref B.so,.str (T (bn B.hs)) B.gt,.ref B.stg,B.g1,.ref B.la,.ref B.nm] 7 B.fs\/et λz1 z2=>o=au P aC kk [.ref B.sc,.ref B.so,.str (T (bn B.hs)) B.gt,.ref B.stg,B.g1,.ref B.la,.ref B.nm,z1,z2] 9 B.fs
structure vd(hs:List Nat)(ps:List (List Nat))(last st:List Int):Prop where
 walk:st.foldl cw []=hs
 len:st.length<=19
 ok:∀x∈st,fD x/\∃p,ps[(bT x).toNat]?=some (kz p x)
 res:et λres s=>iQ (hU st) (cc hs)=some res/\1<=res.length/\res.length<=100/\eG res (0,0,[])=some s/\s.2.2=(bf st last).1
theorem eT{ls:List (Int×Tok)}{f:Int->Prop}(h:∀x∈ls.map (·.1),f x):∀p∈ls,f p.1:=λp hp=>h _ (Mw hp)
section
variable(w:World)(L:LA)(B:TA)
theorem xC(kk:Nat->Tok)(pz:List Value)(pn:Nat)(sg:Addr)(st:List (Int×Tok))(ps:List Pt)(n n1:Nat)(F:ah)(last:List Int)(h:vd B.hs (ps.map (·.1)) last (st.map (·.1))):
  TR w L.hb 180 (dm (bc qq 0) L.E) ([(L.loc,B.fr w.params kk sg pz pn),(sg,oL (vI st) n),(L.c3,aQ (.ref B.pc)),(B.pc,oL (vT ps) n1)]++F)
   λa N=>(∃t,a=.str (T (bn B.hs)) t)/\N=[(L.loc,B.fr w.params kk sg pz pn),(sg,oL (vI st) n),(L.c3,aQ (.ref B.pc)),(B.pc,oL (vT ps) n1)]++F:=by
 have hlen:st.length<=19:=by have:=h.len;rwa[Mc]at this
 have hq:=uI (ps.map (·.1)) (st.map (·.1)) B.hs h.len h.ok h.walk;cases st with
 |nil=>
  refine TR.step ([(L.c3,aQ (.ref B.pc)),(B.pc,oL (vT ps) n1)]++F) (IL L.loc B.sc L.c1 L.c2 L.c3 L.c4 L.c5 B.so B.stg B.la B.nm sg kk (bn B.hs) B.gt B.g1 B.fs pz pn n (bn B.hs) hq w) (.refl _) (Me _) (λ_=>rfl) rfl rfl λch=>⟨_,[],⟨⟨_,rfl⟩,rfl⟩,pN⟩
 |cons x st=>
  have hk:∀p∈x::st,fD p.1/\(bT p.1).toNat<ps.length:=eT (f:=λy=>fD y/\(bT y).toNat<ps.length) λy hy=>by
   obtain⟨h1,p,h2⟩:=h.ok y hy;have:=(Mj.mp h2).1;rw[Mc]at this;exact⟨h1,this⟩
  have hm:∀y∈sI (ps.map (·.1)) ((x::st).map (·.1)),y.length<=50:=λy hy=>by
   rw[pj]at hy;obtain⟨z,hz,e⟩:=List.mem_filterMap.mp hy;obtain⟨h1,p,h2⟩:=h.ok z hz;rw[h2]at e;cases e;exact yb p z
  have hl:(sI (ps.map (·.1)) ((x::st).map (·.1))).length<=19:=by
   rw[pj];have:=P4 (λx=>(ps.map (·.1))[(bT x).toNat]?) ((x::st).map (·.1));rw[Mc]at this;exact M4 this hlen
  have hj:=fH _ hm;refine TR.step F (Le L.loc B.sc L.c1 L.c2 L.c3 L.c4 L.c5 B.so B.stg B.la B.nm sg kk (bn B.hs) B.gt B.g1 B.fs pz pn B.pc (x::st) ps n n1 hk (by omega) (M5 1 _) _ rfl hm (by omega) (by omega) (bn B.hs) hq w) (.refl _) (Me _) (λ_=>rfl) rfl rfl λch=>⟨_,[],⟨⟨_,rfl⟩,rfl⟩,pN⟩
theorem xE(o:Obj)(sg:Addr)(st:List (Int×Tok))(n:Nat)(F:ah)(ho:B.fr8 w.params sg o)(hlen:st.length<=19)(hok:∀p∈st,fD p.1):
  TR w L.hb 180 (aX [aP (ao aV) 1] L.E) ([(L.loc,o),(sg,oL (vI st) n)]++F)
   λ_ N=>iJ λkk pa a na=>a.map (·.1)=hU (st.map (·.1))/\N=[(L.loc,B.fr w.params kk sg [.ref pa] 9),(sg,oL (vI st) n),(pa,oL (vT a) na)]++F:=by
 obtain⟨kk,ho⟩:=ho;cases st with
 |nil=>
  rcases ho with rfl |⟨z,rfl⟩
  .exact TR.step F (EI L.loc B.sc L.c1 L.c2 L.c3 L.c4 L.c5 B.so B.stg B.la B.nm sg kk (bn B.hs) B.gt B.g1 B.fs n w) (.refl _) (Me _) (λ_=>rfl) rfl rfl λch=>⟨_,[],⟨_,_,[],_,rfl,rfl⟩,pN⟩
  .exact TR.step F (EJ L.loc B.sc L.c1 L.c2 L.c3 L.c4 L.c5 B.so B.stg B.la B.nm sg kk (bn B.hs) B.gt B.g1 z B.fs n w) (.refl _) (Me _) (λ_=>rfl) rfl rfl λch=>⟨_,[],⟨_,_,[],_,rfl,rfl⟩,pN⟩
 |cons x st=>
  rcases ho with rfl |⟨z,rfl⟩
  .exact TR.step F (IN L.loc B.sc L.c1 L.c2 L.c3 L.c4 L.c5 B.so B.stg B.la B.nm sg kk (bn B.hs) B.gt B.g1 B.fs (x::st) n hok (by omega) (M5 1 _) w) (.refl _) (Me _) (λ_=>rfl) rfl rfl λch=>⟨_,[],⟨_,_,_,_,cO _ _,rfl⟩,pN⟩
  .exact TR.step F (IP L.loc B.sc L.c1 L.c2 L.c3 L.c4 L.c5 B.so B.stg B.la B.nm sg kk (bn B.hs) B.gt B.g1 z B.fs (x::st) n hok (by omega) (M5 1 _) w) (.refl _) (Me _) (λ_=>rfl) rfl rfl λch=>⟨_,[],⟨_,_,_,_,cO _ _,rfl⟩,pN⟩
theorem xB(kk:Nat->Tok)(sg pa:Addr)(a b:List Pt)(na nb:Nat)(F:ah)(res:List R3)(s:OS)(hnd:(b.map (·.1)).Nodup)(ha:a.length<=100)(hb:b.length<=100)(hr:iQ (a.map (·.1)) (b.map (·.1))=some res)(h1:1<=res.length)(h2:res.length<=100)(hs:eG res (0,0,[])=some s):
  TR w L.hb 180 (dm (bc jI 0) L.E) ([(L.loc,B.fr w.params kk sg [.ref pa] 9),(pa,oL (vT a) na),(B.nm,oL (vT b) nb)]++F)
   λv N=>gc λad rs e=>v=.ref ad/\rs.map (·.1)=s.2.2/\N=((ad,oL (bV rs) e)::rs.map cP)++([(L.loc,B.fr w.params kk sg [.ref pa] 9),(pa,oL (vT a) na),(B.nm,oL (vT b) nb)]++F):=by
 cases b with
 |nil=>
  refine TR.step F (IK L.loc B.sc L.c1 L.c2 L.c3 L.c4 L.c5 B.so B.stg B.la B.nm sg pa kk (bn B.hs) B.gt B.g1 B.fs a na nb res s ha hr h1 h2 hs w) (.refl _) (Me _) (λ_=>rfl) rfl rfl λch=>⟨_,[],⟨_,(bN s.2.2 (ch 1)).1,(bN s.2.2 (ch 1)).2.2.2.2.2,rfl,ng _ _,rfl⟩,ae λy=>?_⟩
  exact(aN [_,_,_,_] [_,_] 0x21820811091c50c1 0x20420862471410c4:)
 |cons y b=>
  have hb':b.length+1<=100:=hb;have hv:(vT (y::b)).length=b.length+1:=by rw[cy];rfl
  refine TR.step F (Lc L.loc B.sc L.c1 L.c2 L.c3 L.c4 L.c5 B.so B.stg B.la B.nm sg pa kk (bn B.hs) B.gt B.g1 B.fs a (y::b) na nb b.length res s (M5 1 _) (by omega) hnd hv (by omega) ha hb hr h1 h2 hs w) (.refl _) (Me _) (λ_=>rfl) rfl rfl λch=>⟨_,[],⟨_,(bN s.2.2 (ch 1)).1,(bN s.2.2 (ch 1)).2.2.2.2.2,rfl,ng _ _,rfl⟩,ae λy=>?_⟩
  exact(aN [_,_,_,_] [_,_] 0x21820811091c50c1 0x20420862471410c4:)
theorem xD(kk:Nat->Tok)(pz:List Value)(pn:Nat)(sg:Addr)(st ls:List (Int×Tok))(n n1:Nat)(F:ah)(hl:st.length<=19):
  TR w L.hb 180 (dm (bc jI 1) L.E) ([(L.loc,B.fr w.params kk sg pz pn),(sg,oL (vI st) n),(B.la,oL (vI ls) n1)]++F)
   λv N=>gc λad rs e=>v=.ref ad/\rs.map (·.1)=(bf (st.map (·.1)) (ls.map (·.1))).1/\N=((ad,oL (bV rs) e)::rs.map cP)++([(L.loc,B.fr w.params kk sg pz pn),(sg,oL (vI st) n),(B.la,oL (vI ls) n1)]++F):=by
 refine TR.step F (Lf L.loc B.sc L.c1 L.c2 L.c3 L.c4 L.c5 B.so B.stg B.la B.nm sg kk (bn B.hs) B.gt B.g1 B.fs pz pn st ls n n1 (by omega) w) (.refl _) (Me _) (λ_=>rfl) rfl rfl λch=>⟨_,[],⟨_,(bD (bf (st.map (·.1)) (ls.map (·.1))) (ch 0)).1,(bD (bf (st.map (·.1)) (ls.map (·.1))) (ch 0)).2.1,rfl,qL _ _,rfl⟩,ae λy=>?_⟩
 exact(aN [_,_,_,_] [_,_] 0x21820811091c50c1 0x20420862471410c4:)
theorem ut(kk:Nat->Tok)(pz:List Value)(pn:Nat)(st:List (Int×Tok))(n:Nat)(F:ah)(hl:st.length<=19):
  TR w L.hb 180 (dm (bc jI 1) L.E) ([(L.loc,B.fr w.params kk B.la pz pn),(B.la,oL (vI st) n)]++F)
   λv N=>gc λad rs e=>v=.ref ad/\rs.map (·.1)=(bf (st.map (·.1)) (st.map (·.1))).1/\N=((ad,oL (bV rs) e)::rs.map cP)++([(L.loc,B.fr w.params kk B.la pz pn),(B.la,oL (vI st) n)]++F):=by
 refine TR.step F (IM L.loc B.sc L.c1 L.c2 L.c3 L.c4 L.c5 B.so B.stg B.la B.nm kk (bn B.hs) B.gt B.g1 B.fs pz pn st n (by omega) w) (.refl _) (Me _) (λ_=>rfl) rfl rfl λch=>⟨_,[],⟨_,(bD (bf (st.map (·.1)) (st.map (·.1))) (ch 0)).1,(bD (bf (st.map (·.1)) (st.map (·.1))) (ch 0)).2.1,rfl,qL _ _,rfl⟩,ae λy=>?_⟩
 exact(aN [_,_,_] [_,_] 0x860820441c50c1 0x810821871410c4:)
end
end
section
theorem TR.to{w:World}{hb:Md}{lv:Nat}{α:Type}{t:Sem α}{M M':ah}{Q Q':α->ah->Prop}(h:TR w hb lv t M Q)(p:M'.Perm M)(i:∀a N,Q a N->Cu (Q' a) N):TR w hb lv t M' Q':=λMt os G A s S hA C H=>
 h Mt os G A s S hA (C.perm p) λa N s' q C'=>by
  obtain⟨N2,G2,hq,hp⟩:=i a N q;exact H _ _ s' hq (C'.perm hp).left
theorem EZ{rs rs':List RC}(h:rs.map (·.1)=rs'.map (·.1)):rs.map nE=rs'.map nE:=by
 have e:∀l:List RC,l.map nE=(l.map (·.1)).map λq=>nE (q,0,0,0,0,0,0):=λl=>by rw[MA];rfl
 rw[e,e,h]
theorem rP{hs:List Nat}(h:hs.Nodup):(cc hs).Nodup:=by
 unfold cc;exact List.Pairwise.map _ (λa b hab e=>hab (by injection e)) h
section
variable(w:World)(L:LA)(B:TA)
noncomputable abbrev TA.cM(L:LA)(B:TA)(it:Addr)(sv:List Value)(n i:Nat)(o:Obj)(ps:List Pt)(n1:Nat)(nms:List Pt)(nn:Nat)(SM:ah):ah:=
 [(it,aI B.stg i),(B.stg,oL sv n),(L.loc,o),(L.c3,aQ (.ref B.pc)),(B.pc,oL (vT ps) n1),(B.nm,oL (vT nms) nn)]++SM
theorem qw(it:Addr)(sv:List Value)(n i:Nat)(o:Obj)(ps:List Pt)(n1:Nat)(nms:List Pt)(nn:Nat)(SM SR:ah)(s:SG)(last:List Int)(hSM:SM.Perm (nL s::SR))(hsv:sv[i]?=some (.ref s.1))(ho:B.fr7 w.params o)
  (hs:kw B.hs) (hd:B.hs.Nodup) (hn:nms.map (·.1)=cc B.hs) (hst:vd B.hs (ps.map (·.1)) last (s.2.1.map (·.1)))
  (hR:∀kk pz pn F',TR w L.hb 180 (dm (bc jI 1) L.E) ((L.loc,B.fr w.params kk s.1 pz pn)::(SM++F')) λv N=>gc λad rs e=>v=.ref ad/\rs.map (·.1)=(bf (s.2.1.map (·.1)) last).1/\N=((ad,oL (bV rs) e)::rs.map cP)++((L.loc,B.fr w.params kk s.1 pz pn)::(SM++F')))
  (Q:Result->ah->Prop) (k:∀o',B.fr7 w.params o'->ak w L.hb 180 (aG aV it L.E) (B.cM L it sv n (i+1) o' ps n1 nms nn SM) Q):ak w L.hb 180 (aG aV it L.E) (B.cM L it sv n i o ps n1 nms nn SM) Q:=by
 have hlen:s.2.1.length<=19:=by have:=hst.len;rwa[Mc]at this
 have hok:∀p∈s.2.1,fD p.1:=eT λy hy=>(hst.ok y hy).1
 rw[kO];refine TR.forS (λv=>uq v _) (Q1:=λ_ N=>∃o',B.fr8 w.params s.1 o'/\N=B.cM L it sv n (i+1) o' ps n1 nms nn SM) ?_ ?_
 .obtain⟨kk,ho⟩:=ho;rcases ho with rfl |⟨z1,z2,rfl⟩
  .exact TR.step ([(L.c3,aQ (.ref B.pc)),(B.pc,oL (vT ps) n1),(B.nm,oL (vT nms) nn)]++SM) (Lg L.loc B.sc L.c1 L.c2 L.c3 L.c4 L.c5 B.so B.stg B.la B.nm s.1 it kk (.str (T (bn B.hs)) B.gt) B.g1 B.fs sv n i hsv w) (.refl _) (Me _) (λ_=>rfl) rfl rfl λch=>⟨_,[],⟨_,⟨_,.inl rfl⟩,rfl⟩,pN⟩
  .exact TR.step ([(L.c3,aQ (.ref B.pc)),(B.pc,oL (vT ps) n1),(B.nm,oL (vT nms) nn)]++SM) (Lh L.loc B.sc L.c1 L.c2 L.c3 L.c4 L.c5 B.so B.stg B.la B.nm s.1 it kk (.str (T (bn B.hs)) B.gt) B.g1 z1 z2 B.fs sv n i hsv w) (.refl _) (Me _) (λ_=>rfl) rfl rfl λch=>⟨_,[],⟨_,⟨_,.inr ⟨_,rfl⟩⟩,rfl⟩,pN⟩
 .rintro a N ⟨o',ho',rfl⟩;have hfr:gc λkk pz pn=>o'=B.fr w.params kk s.1 pz pn:=by
   obtain⟨kk,ho'⟩:=ho';rcases ho' with rfl |⟨z,rfl⟩
   .exact⟨_,_,_,rfl⟩
   .exact⟨_,_,_,rfl⟩
  refine TR.ifS (Qb:=λb N=>b=false/\N=B.cM L it sv n (i+1) o' ps n1 nms nn SM) ?_ ?_
  .obtain⟨kk,pz,pn,rfl⟩:=hfr;refine TR.isNe (Q1:=λa N=>(∃t,a=.str (T (bn B.hs)) t)/\N=B.cM L it sv n (i+1) (B.fr w.params kk s.1 pz pn) ps n1 nms nn SM) (Q2:=λa b N=>(∃t,a=.str (T (bn B.hs)) t)/\(∃t,b=.str (T (bn B.hs)) t)/\N=B.cM L it sv n (i+1) (B.fr w.params kk s.1 pz pn) ps n1 nms nn SM) (by kernel_rfl) (by decide) ?_ ?_ ?_
   .refine(xC w L B kk pz pn s.1 s.2.1 ps s.2.2 n1 ([(it,aI B.stg (i+1)),(B.stg,oL sv n),(B.nm,oL (vT nms) nn)]++SR) last hst).to ?_ λa N h=>⟨_,[],⟨h.1,rfl⟩,?_⟩
    .refine((hSM.append_left _).trans (ae λy=>?_));exact(aN [_,_,_,_,_,_,_] [_] 0x8f10d2c91c50c1 0x8210d2c30493c7141:)
    .rw[h.2];refine(List.Perm.trans (ae λy=>?_) ((hSM.append_left _).symm)).trans pN;exact(aN [_,_,_,_,_,_,_] [_] 0x8210f34b0491c50c1 0x8710f3491432c1:)
   .rintro a N ⟨ha,rfl⟩;refine TR.step ([(it,aI B.stg (i+1)),(B.stg,oL sv n),(L.c3,aQ (.ref B.pc)),(B.pc,oL (vT ps) n1),(B.nm,oL (vT nms) nn)]++SM) (La L.loc B.sc L.c1 L.c2 L.c3 L.c4 L.c5 B.so B.stg B.la B.nm s.1 kk (bn B.hs) B.gt B.g1 B.fs pz pn w) (ae λy=>?_) (Me _) (λ_=>rfl) rfl rfl λch=>⟨_,[],⟨ha,⟨_,rfl⟩,rfl⟩,ae λy=>?_⟩
    .exact(aN [_,_,_,_,_,_] [_] 581447456673985 0x208434b1c50c1241:)
    .exact(aN [_,_,_,_,_,_] [_] 0x208434b2471410c1 0x204210d2c3247141:)
   .rintro a b N ⟨⟨t,rfl⟩,⟨u,rfl⟩,rfl⟩;have hc:(PyData.str (T (bn B.hs))).canLay0=true:=l8 (vJ hs);exact⟨_,_,iw.str _ _,iw.str _ _,hc,hc,by simp[PyData.depth],_,[],pN,by rw[OR _ hc];rfl,rfl⟩
  .rintro b N ⟨rfl,rfl⟩;refine TR.nil ?_;refine TR.seq (Q1:=λ_ N=>iJ λkk pa a na=>a.map (·.1)=hU (s.2.1.map (·.1))/\N=(L.loc,B.fr w.params kk s.1 [.ref pa] 9)::(SM++([(pa,oL (vT a) na)]++[(it,aI B.stg (i+1)),(B.stg,oL sv n),(L.c3,aQ (.ref B.pc)),(B.pc,oL (vT ps) n1),(B.nm,oL (vT nms) nn)]))) ?_ ?_
   .refine(xE w L B o' s.1 s.2.1 s.2.2 ([(it,aI B.stg (i+1)),(B.stg,oL sv n),(L.c3,aQ (.ref B.pc)),(B.pc,oL (vT ps) n1),(B.nm,oL (vT nms) nn)]++SR) ho' hlen hok).to ?_ ?_
    .refine((hSM.append_left _).trans (ae λy=>?_));exact(aN [_,_,_,_,_,_,_] [_] 0x8f10d2c91c50c1 0x8210d2c71430493c1:)
    .rintro _ N ⟨kk,pa,a,na,ha,rfl⟩;refine⟨_,[],⟨kk,pa,a,na,ha,rfl⟩,?_⟩;refine(List.Perm.trans (ae λy=>?_) (((hSM.append_right _).cons _).symm)).trans pN;exact(aN [_,_,_,_,_,_,_,_] [_] 0x208444f34b2411c50c1 0x708244f34b2410c1144:)
   .rintro _ N ⟨kk,pa,a,na,ha,rfl⟩;obtain⟨res,s0,r1,r2,r3,r4,r5⟩:=hst.res;have hal:a.length<=100:=by
     have:=congrArg List.length ha;rw[wF,Mc,Mc,Mc]at this;omega
    have hnl:nms.length<=100:=by
     have:=congrArg List.length hn;have h2:=hs.2;unfold cc at this;rw[Mc,Mc]at this;omega
    refine TR.ifS (Qb:=λb N=>b=false/\N=B.cM L it sv n (i+1) (B.fr w.params kk s.1 [.ref pa] 9) ps n1 nms nn SM) ?_ ?_
    .refine TR.isNe (Q1:=λv N=>gc λad rs e=>v=.ref ad/\rs.map (·.1)=s0.2.2/\N=(L.loc,B.fr w.params kk s.1 [.ref pa] 9)::(SM++([(pa,oL (vT a) na),(it,aI B.stg (i+1)),(B.stg,oL sv n),(L.c3,aQ (.ref B.pc)),(B.pc,oL (vT ps) n1),(B.nm,oL (vT nms) nn)]++((ad,oL (bV rs) e)::rs.map cP))))
      (Q2:=λv v2 N=>sM λad rs e ad2 rs2 e2=>v=.ref ad/\rs.map (·.1)=s0.2.2/\v2=.ref ad2/\rs2.map (·.1)=(bf (s.2.1.map (·.1)) last).1/\N=((ad2,oL (bV rs2) e2)::rs2.map cP)++((L.loc,B.fr w.params kk s.1 [.ref pa] 9)::(SM++([(pa,oL (vT a) na),(it,aI B.stg (i+1)),(B.stg,oL sv n),(L.c3,aQ (.ref B.pc)),(B.pc,oL (vT ps) n1),(B.nm,oL (vT nms) nn)]++((ad,oL (bV rs) e)::rs.map cP))))) (by kernel_rfl) (by decide) ?_ ?_ ?_
     .refine(xB w L B kk s.1 pa a nms na nn (SM++[(it,aI B.stg (i+1)),(B.stg,oL sv n),(L.c3,aQ (.ref B.pc)),(B.pc,oL (vT ps) n1)]) res s0 (by rw[hn];exact rP hd) hal hnl (by rw[ha,hn];exact r1) r2 r3 r4).to (ae λy=>?_) ?_
      .exact(aN [_,_,_,_,_,_,_] [_] 0x3c208d2c91c5043044 0x8234b2470443c3141:)
      .rintro v N ⟨ad,rs,e,rfl,h1,rfl⟩;refine⟨_,[],⟨ad,rs,e,rfl,h1,rfl⟩,ae λy=>?_⟩;exact(aN [_,_,_,_,_,_,_,_] [_,_] 0x208244f34b0462471410c4 0x20490820c41d13cd2c5046:)
     .rintro v N ⟨ad,rs,e,rfl,h1,rfl⟩;refine(hR kk [.ref pa] 9 _).to (.refl _) ?_;rintro v N ⟨ad2,rs2,e2,rfl,h2,rfl⟩;exact⟨_,[],⟨ad,rs,e,ad2,rs2,e2,rfl,h1,rfl,h2,rfl⟩,pN⟩
     .rintro v v2 N ⟨ad,rs,e,ad2,rs2,e2,rfl,h1,rfl,h2,rfl⟩;have e1:rs.reverse.map nE=rs2.reverse.map nE:=by
       rw[Pz,Pz,EZ (h1.trans (r5.trans h2.symm))]
      refine⟨_,_,l0 (rs:=rs) (e:=e) ?_ ?_,l0 (rs:=rs2) (e:=e2) ?_ ?_,g6 rs,g6 rs2,iq rs,B.cM L it sv n (i+1) (B.fr w.params kk s.1 [.ref pa] 9) ps n1 nms nn SM,[(pa,oL (vT a) na)]++((ad,oL (bV rs) e)::rs.map cP)++((ad2,oL (bV rs2) e2)::rs2.map cP),ae λy=>?_,?_,rfl⟩
      .exact MH _ (.tail _ (MH _ (MH _ (.head _))))
      .exact λr hr=>MH _ (.tail _ (MH _ (MH _ (.tail _ (Mw hr)))))
      .exact MI _ (.head _)
      .exact λr hr=>MI _ (.tail _ (Mw hr))
      .exact(aN [_,_,_,_,_,_,_,_,_] [_,_,_] 0x930824483cd2c91c50460c4 0x820c409120f04218d2d3247141:)
      .rw[e1,OR _ (g6 rs2)];rfl
    .rintro b N ⟨rfl,rfl⟩;refine TR.nil (TR.nil ?_);show ak _ _ _ _ _ _;rw[<-kO];exact k _ ⟨kk,.inr ⟨_,_,rfl⟩⟩
end
end
theorem cB(a b:List SG):dY (a++b)=dY a++dY b:=Mi
theorem b7(s:SG)(b:List SG):dY (s::b)=nL s::dY b:=rfl
theorem l5(a b:List SG):fU (a++b)=fU a++fU b:=Mi
theorem l6(l:List SG)(i:Nat):(fU l)[i]?=l[i]?.map λs=>.ref s.1:=Mf
section
variable(w:World)(L:LA)(B:TA)
theorem qv(it:Addr)(n:Nat)(ps:List Pt)(n1:Nat)(nms:List Pt)(nn:Nat)(ini:List SG)(lst:SG)(hla:lst.1=B.la)
  (hs:kw B.hs) (hd:B.hs.Nodup) (hn:nms.map (·.1)=cc B.hs) (hst:∀s∈ini++[lst],vd B.hs (ps.map (·.1)) (lst.2.1.map (·.1)) (s.2.1.map (·.1))):
  ∀(rest pre:List SG) (o:Obj),ini=pre++rest->B.fr7 w.params o->ak w L.hb 180 (aG aV it L.E) (B.cM L it (fU (ini++[lst])) n pre.length o ps n1 nms nn (dY (ini++[lst]))) λr _=>r=.ok .next
 |[],pre,o,e,ho=>by
  rw[Mq]at e;subst e;refine qw w L B it _ n ini.length o ps n1 nms nn _ (dY ini) lst (lst.2.1.map (·.1)) ?_ ?_ ho hs hd hn (hst lst (by simp)) ?_ _ λo' ho'=>?_
  .rw[cB];exact Mz
  .rw[l6,Oi (Me _),P9];rfl
  .intro kk pz pn F';have hl:lst.2.1.length<=19:=by have:=(hst lst (by simp)).len;rwa[Mc]at this
   rw[hla];refine(ut w L B kk pz pn lst.2.1 lst.2.2 (dY ini++F') hl).to (ae λy=>?_) ?_
   ·(simp only[TA.fr,cB,b7,nL,hla,show dY []=[]from rfl];exact(aN [_,_] [_,_] 345846067268 139688169665:))
   .rintro v N ⟨ad,rs,e,rfl,h1,rfl⟩;refine⟨_,[],⟨ad,rs,e,rfl,h1,rfl⟩,ae λy=>?_⟩
    (simp only[TA.fr,cB,b7,nL,hla,show dY []=[]from rfl];exact(aN [_,_,_] [_,_,_] 0x820881871410c4 0x810870880850460c4:))
  .refine ak.step ([(L.loc,o'),(L.c3,aQ (.ref B.pc)),(B.pc,oL (vT ps) n1),(B.nm,oL (vT nms) nn)]++dY (ini++[lst])) (K8 B.stg it L.loc B.sc L.c1 L.c2 L.c3 L.c4 L.c5 (fU (ini++[lst])) n (ini.length+1) ?_ w) (.refl _) (Me _) rfl rfl λch=>⟨_,[],rfl,pN⟩
   rw[l6,Nh (by simp)];rfl
 |s::rest,pre,o,e,ho=>by
  have hmem:s∈ini++[lst]:=by rw[e];simp
  refine qw w L B it _ n pre.length o ps n1 nms nn _ (dY pre++dY rest++[nL lst]) s (lst.2.1.map (·.1)) ?_ ?_ ho hs hd hn (hst s hmem) ?_ _ λo' ho'=>?_
  .rw[e];refine ae λy=>?_
   (simp only[cB,b7,show dY []=[]from rfl];exact(aN [_,_] [_,_] 142824976772 208390070660:))
  .rw[l6,e,Ms,Oi (Me _),P9];rfl
  .intro kk pz pn F';have hl:s.2.1.length<=19:=by have:=(hst s hmem).len;rwa[Mc]at this
   refine(xD w L B kk pz pn s.1 s.2.1 lst.2.1 s.2.2 lst.2.2 (dY pre++dY rest++F') hl).to (ae λy=>?_) ?_
   .rw[e]
    (simp only[TA.fr,cB,b7,nL,hla,show dY []=[]from rfl];exact(aN [_,_,_] [_,_,_] 0x1c2202141083184 0x822021841c3141:))
   .rintro v N ⟨ad,rs,e1,rfl,h1,rfl⟩;refine⟨_,[],⟨ad,rs,e1,rfl,h1,rfl⟩,ae λy=>?_⟩;rw[e]
    (simp only[TA.fr,cB,b7,nL,hla,show dY []=[]from rfl];exact(aN [_,_,_,_] [_,_,_,_] 0x20822822062471410c4 0x20422422821410872060c4:))
  .have:=qv it n ps n1 nms nn ini lst hla hs hd hn hst rest (pre++[s]) o' (by rw[e];simp) ho';rw[Mn]at this;exact this
end
noncomputable abbrev FI(P:Params)(sc so stg la:Addr)(hs:List Nat)(gt:Tok)(g1:Value)(fs:Array (Option Value))(kk:Nat->Tok):Obj:=au P aC kk [.ref sc,.ref so,.str (T (bn hs)) gt,.ref stg,g1,.ref la] 6 fs
theorem ux(w:World)(L:LA)(sc so stg pc:Addr)(hs:List Nat)(gt:Tok)(g1:Value)(fs:Array (Option Value))(kk:Nat->Tok)(n n1:Nat)(ps:List Pt)(ini:List SG)(lst:SG)(ho:kw hs)(hd:hs.Nodup)
  (h0:b8 (lst.2.1.map (·.1))=[]) (hp:ik (lst.2.1.map (·.1))=cc hs) (hst:∀s∈ini++[lst],vd hs (ps.map (·.1)) (lst.2.1.map (·.1)) (s.2.1.map (·.1))):
  TR w L.hb 180 (execs (bB.drop 7) L.E) ([(L.loc,au w.params aC kk [.ref sc,.ref so,.str (T (bn hs)) gt,.ref stg,g1] 5 fs),(stg,oL (fU (ini++[lst])) n),(L.c3,aQ (.ref pc)),(pc,oL (vT ps) n1)]++dY (ini++[lst])) λf _=>f=.ret (.bool true):=by
 obtain⟨la,ls,nl⟩:=lst;have hl:ls.length<=19:=by have:=(hst (la,ls,nl) (by simp)).len;rwa[Mc]at this
 have hok:∀p∈ls,fD p.1:=eT λy hy=>((hst (la,ls,nl) (by simp)).ok y hy).1
 rw[kr];refine TR.seq (Q1:=λ_ N=>∃kk',N=[(L.loc,FI w.params sc so stg la hs gt g1 fs kk'),(stg,oL (fU (ini++[(la,ls,nl)])) n),(L.c3,aQ (.ref pc)),(pc,oL (vT ps) n1)]++dY (ini++[(la,ls,nl)])) ?_ ?_
 .rw[l5];exact TR.step ([(L.c3,aQ (.ref pc)),(pc,oL (vT ps) n1)]++dY (ini++[(la,ls,nl)])) (K3 L.loc sc L.c1 L.c2 L.c3 L.c4 L.c5 so stg la kk (.str (T (bn hs)) gt) g1 fs (fU ini) n w) (.refl _) (Me _) (λ_=>rfl) rfl rfl λch=>⟨_,[],⟨_,rfl⟩,pN⟩
 rintro _ N ⟨kk',rfl⟩;generalize hM:([(L.loc,FI w.params sc so stg la hs gt g1 fs kk'),(stg,oL (fU (ini++[(la,ls,nl)])) n),(L.c3,aQ (.ref pc)),(pc,oL (vT ps) n1)]++dY (ini++[(la,ls,nl)]))=M8;have hMp:M8.Perm ([(L.loc,FI w.params sc so stg la hs gt g1 fs kk'),(la,oL (vI ls) nl)]++([(stg,oL (fU (ini++[(la,ls,nl)])) n),(L.c3,aQ (.ref pc)),(pc,oL (vT ps) n1)]++dY ini)):=by
  rw[<-hM];refine ae λy=>?_
  (simp only[cB,b7,nL,show dY []=[]from rfl];exact(aN [_,_,_,_,_] [_] 0x822c11091c50c1 0x821071430492c1:))
 have hMq:M8.Perm ([(L.loc,FI w.params sc so stg la hs gt g1 fs kk')]++([(la,oL (vI ls) nl)]++([(stg,oL (fU (ini++[(la,ls,nl)])) n),(L.c3,aQ (.ref pc)),(pc,oL (vT ps) n1)]++dY ini))):=hMp;refine TR.ifS (Qb:=λb N=>b=false/\N=M8) ?_ ?_
 .refine TR.isOr (Q1:=λb N=>b=false/\N=M8) ?_ (λN h=>by cases h.1) ?_
  .refine TR.isNe (Q1:=λa N=>et λx e=>a=.ref x/\N=(x,oL [] e)::M8) (Q2:=λa b N=>iJ λx e y e2=>a=.ref x/\b=.ref y/\N=(y,oL [] e2)::(x,oL [] e)::M8) (by kernel_rfl) (by decide) ?_ ?_ ?_
   .refine TR.step _ (K4 L.loc sc L.c1 L.c2 L.c3 L.c4 L.c5 so stg la kk' (bn hs) gt g1 fs ls nl (by omega) w) hMp (Me _) (λ_=>rfl) rfl rfl λch=>⟨_,[],⟨_,(bh (b8 (ls.map (·.1))) (ch 0)).2.1,rfl,rfl⟩,?_⟩
    have e:=cO (b8 (ls.map (·.1))) (ch 0);rw[h0]at e;have e2:=QB.mp e;rw[<-h0]at e2;simp only[e2];refine List.Perm.trans (ae λy=>?_) ((hMp.cons _).symm.trans pN);exact(aN [_,_,_,_,_,_] [_] 0x208434b2411c50c1 0x308210d2c9047141:)
   .rintro a N ⟨x,e,rfl,eN⟩;rw[eN];refine TR.step ((x,oL [] e)::M8) (K5 L.loc sc L.c1 L.c2 L.c3 L.c4 L.c5 so stg la w) (.refl _) (Me _) (λ_=>rfl) rfl rfl λch=>⟨_,[],⟨x,e,_,_,rfl,rfl,rfl⟩,pN⟩
   .rintro a b N ⟨x,e,y,e2,rfl,rfl,eN⟩;rw[eN];refine⟨.list [],.list [],iw.list (ds:=[]) (.tail _ (.head _)) trivial,iw.list (ds:=[]) (.head _) trivial,rfl,rfl,by simp[PyData.depth,PyData.depthAll],M8,[(y,oL [] e2),(x,oL [] e)],?_,rfl,rfl⟩;exact Mz (l₁:=[(y,oL [] e2),(x,oL [] e)])
  .rintro N ⟨_,eN⟩;rw[eN];refine TR.isNe (Q1:=λa N=>a=.str (T (bn hs)) gt/\N=M8) (Q2:=λa b N=>a=.str (T (bn hs)) gt/\(∃t,b=.str (T (bn hs)) t)/\N=M8) (by kernel_rfl) (by decide) ?_ ?_ ?_
   .exact TR.step _ (K6 L.loc sc L.c1 L.c2 L.c3 L.c4 L.c5 so stg la kk' (bn hs) gt g1 fs w) hMq (Me _) (λ_=>rfl) rfl rfl λch=>⟨_,[],⟨rfl,rfl⟩,hMq.symm.trans pN⟩
   .rintro a N ⟨rfl,eN⟩;rw[eN];cases ls with
    |nil=>
     have eh:cc hs=[]:=hp.symm;have e2:bn hs=[47]:=by unfold bn;rw[eh];rfl
     refine TR.step _ (IJ L.loc sc L.c1 L.c2 L.c3 L.c4 L.c5 so stg la kk' (bn hs) gt g1 fs nl w) hMp (Me _) (λ_=>rfl) rfl rfl λch=>⟨_,[],⟨rfl,⟨_,by rw[e2]⟩,rfl⟩,hMp.symm.trans pN⟩
    |cons x ls=>
     have hb:∀z∈ik (((x::ls).map (·.1))),z.length<=50:=by rw[hp];exact o7
     have hj:=fH _ hb;have hl2:(ik ((x::ls).map (·.1))).length<=20:=by
      rw[hp];unfold cc;rw[Mc];exact ho.2
     refine TR.step _ (K7 L.loc sc L.c1 L.c2 L.c3 L.c4 L.c5 so stg la kk' (bn hs) gt g1 fs (x::ls) nl hok (by omega) (M5 1 _) _ rfl hb (by omega) (by omega) w) hMp (Me _) (λ_=>rfl) rfl rfl λch=>⟨_,[],⟨rfl,⟨_,by rw[hp];rfl⟩,rfl⟩,hMp.symm.trans pN⟩
   .rintro a b N ⟨rfl,⟨t,rfl⟩,eN⟩;rw[eN];have hc:(PyData.str (T (bn hs))).canLay0=true:=l8 (vJ ho);exact⟨_,_,iw.str _ _,iw.str _ _,hc,hc,by simp[PyData.depth],_,[],pN,by rw[OR _ hc];rfl,rfl⟩
 rintro b N ⟨rfl,eN⟩;rw[eN];refine TR.nil ?_;show TR w L.hb 180 (execs ([aP bB 9]++ur::[aP bB 11]) L.E) M8 _;obtain⟨p1,p2⟩:=oK ho;have hz:sizeLine=16777216:=rfl;have hj:(bn hs).length<=1021:=by
  have:=ly ho;unfold bn;rw[Mg];omega
 refine TR.seq (Q1:=λ_ N=>iJ λkk2 nm nms nn=>nms.map (·.1)=cc hs/\N=[(L.loc,au w.params aC kk2 [.ref sc,.ref so,.str (T (bn hs)) gt,.ref stg,g1,.ref la,.ref nm] 7 fs),(nm,oL (vT nms) nn)]++([(la,oL (vI ls) nl)]++([(stg,oL (fU (ini++[(la,ls,nl)])) n),(L.c3,aQ (.ref pc)),(pc,oL (vT ps) n1)]++dY ini))) ?_ ?_
 .refine TR.step _ (Ld L.loc sc L.c1 L.c2 L.c3 L.c4 L.c5 so stg la kk' (bn hs) gt g1 fs (hZ hs) (lx ho) (by show(bn hs).length<=_;omega) (by omega) p1 p2 w) hMq (Me _) (λ_=>rfl) rfl rfl λch=>⟨_,[],⟨_,_,_,_,by rw[cO,o8],rfl⟩,pN⟩
 rintro _ N ⟨kk2,nm,nms,nn,hn,rfl⟩;let B:TA:=⟨sc,so,stg,la,nm,pc,hs,gt,g1,fs⟩;refine TR.forSt (Qa:=λv N=>v=.ref stg/\N=[(stg,oL (fU (ini++[(la,ls,nl)])) n),(L.loc,au w.params aC kk2 [.ref sc,.ref so,.str (T (bn hs)) gt,.ref stg,g1,.ref la,.ref nm] 7 fs),(L.c3,aQ (.ref pc)),(pc,oL (vT ps) n1),(nm,oL (vT nms) nn)]++dY (ini++[(la,ls,nl)]))
  (Q0:=λv N=>∃it,v=.ref it/\N=[(it,aI stg 0),(stg,oL (fU (ini++[(la,ls,nl)])) n),(L.loc,au w.params aC kk2 [.ref sc,.ref so,.str (T (bn hs)) gt,.ref stg,g1,.ref la,.ref nm] 7 fs),(L.c3,aQ (.ref pc)),(pc,oL (vT ps) n1),(nm,oL (vT nms) nn)]++dY (ini++[(la,ls,nl)]))
  (Q1:=λr _=>r=.ok .next) ?_ ?_ ?_ ?_ ?_
 .intro v;rfl
 .refine TR.step ([(nm,oL (vT nms) nn)]++([(la,oL (vI ls) nl)]++([(stg,oL (fU (ini++[(la,ls,nl)])) n),(L.c3,aQ (.ref pc)),(pc,oL (vT ps) n1)]++dY ini))) (K9 L.loc sc L.c1 L.c2 L.c3 L.c4 L.c5 so stg la nm kk2 (.str (T (bn hs)) gt) g1 fs w) (.refl _) (Me _) (λ_=>rfl) rfl rfl λch=>⟨_,[],⟨rfl,rfl⟩,ae λy=>?_⟩
  (simp only[cB,b7,nL,show dY []=[]from rfl];exact(aN [_,_,_,_,_,_] [_] 0x208208434b2411c11410c1 0x20420870443432c9141:))
 .rintro v N ⟨rfl,rfl⟩;refine TR.step ([(L.loc,au w.params aC kk2 [.ref sc,.ref so,.str (T (bn hs)) gt,.ref stg,g1,.ref la,.ref nm] 7 fs),(L.c3,aQ (.ref pc)),(pc,oL (vT ps) n1),(nm,oL (vT nms) nn)]++dY (ini++[(la,ls,nl)])) (Lb stg (fU (ini++[(la,ls,nl)])) n w) (.refl _) (Me _) (λ_=>rfl) rfl rfl λch=>⟨_,[],⟨_,rfl,rfl⟩,ae λy=>?_⟩
  exact(aN [_,_,_,_,_,_] [_] 0x208434b2470450c1 0x204210314d2c91c1:)
 .rintro v N ⟨it,rfl,rfl⟩;exact qv w L B it n ps n1 nms nn ini (la,ls,nl) rfl ho hd hn hst ini [] _ rfl ⟨kk2,.inl rfl⟩
 .rintro r N rfl;exact TR.ex (TR.step N (Li L.loc sc L.c1 L.c2 L.c3 L.c4 L.c5 so stg w) (.refl _) (Me _) (λ_=>rfl) rfl rfl λch=>⟨_,[],rfl,pN⟩)
section
structure WA where
 sc:Addr
 so:Addr
 stg:Addr
 sd:Addr
 n0:Addr
 rl:Addr
 gv:Value
 fs:Array (Option Value)
 k:Nat->Tok
structure sQ where
 o:Obj
 o4:Obj
 o5:Obj
 pv:Int
 nv:Int
 tp:Tok
 tn:Tok
 n:Nat
 m:Nat
 n2:Nat
 ns:List Nd
 rd:List Pt
 sgs:List SG
noncomputable abbrev WA.fr5(P:Params)(W:WA)(kk:Nat->Tok)(g:Value):Obj:=au P aC kk [.ref W.sc,.ref W.so,W.gv,.ref W.stg,g] 5 W.fs
noncomputable def sQ.ok5(P:Params)(W:WA)(S:sQ):Prop:=iJ λkk g0 a4 a5=>S.o=W.fr5 P kk g0/\S.o4=aQ a4/\S.o5=aQ a5
noncomputable def sQ.ok(P:Params)(W:WA)(S:sQ):Prop:=(∃kk,S.o=au P aC kk [.ref W.sc,.ref W.so,W.gv,.ref W.stg] 4 W.fs/\S.o4=dk/\S.o5=dk)\/S.ok5 P W
noncomputable def wM(P:Params)(L:LA)(W:WA)(F:ah)(S:sQ):ah:=
 [(L.loc,S.o),(L.c4,S.o4),(L.c5,S.o5),(W.so,oI 484 W.sd),(W.sd,aD P sN W.k [.ref (W.n0+ab),.ref (W.rl+ab),.int S.pv S.tp,.int S.nv S.tn] 4),(W.n0+ab,oD (eS P (ac S.ns)) S.n),(W.rl+ab,oL (vT S.rd) S.m),(W.stg,oL (fU S.sgs) S.n2)]++(dY S.sgs++(ag S.ns++F))
theorem uE{now st:List Int}(h:∀y∈now,fD y):∀x∈gX now st,∀c∈x,c<1114112:=λx hx=>by
 unfold gX at hx;obtain⟨i,_,hi⟩:=QW.mp hx;unfold m1 o1 at hi;split at hi
 .rename_i y e;rw[MR]at hi;subst hi;obtain⟨k,_,e2⟩:=Mk.mp e;obtain⟨z,hz,rfl⟩:=MW.mp e2;exact Bc (h z (ME hz))
 .cases hi
section
variable(w:World)(L:LA)(W:WA)
theorem xA(kk:Nat->Tok)(gp:Addr)(pv:Value)(nv:Int)(tn:Tok)(n m2:Nat)(ns:List Nd)(y:Pt)(ys rd:List Pt)(F:ah)(hl:ys.length<=5)(hc:bI (y::ys) (ns,rd)):
  TR w L.hb 180 (aX [aP (ao aU) 4] L.E) ([(L.loc,W.fr5 w.params kk (.ref gp)),(gp,aj (vT (y::ys))),(W.so,oI 484 W.sd),(W.sd,aD w.params sN W.k [.ref (W.n0+ab),.ref (W.rl+ab),pv,.int nv tn] 4),(W.n0+ab,oD (eS w.params (ac ns)) n),(W.rl+ab,oL (vT rd) m2)]++(ag ns++F))
   λ_ N=>gc λts tn' m'=>N.Perm ([(L.loc,W.fr5 w.params kk (.ref gp)),(W.so,oI 484 W.sd),(W.sd,aD w.params sN W.k [.ref (W.n0+ab),.ref (W.rl+ab),pv,.int (nv+Int.ofNat (y::ys).length) tn'] 4),(W.n0+ab,oD (eS w.params (ac ns)) n),(W.rl+ab,oL (vT (aM (y::ys) ts (ns,rd)).2) m')]++(ag (aM (y::ys) ts (ns,rd)).1++((gp,aj (vT (y::ys)))::F))):=by
 have go:∀(ys zs:List Pt) (u:U),zs=y::ys->(fl [(L.loc,W.fr5 w.params kk (.ref gp)),(gp,aj (vT zs)),(W.so,oI 484 W.sd),(W.sd,aD w.params sN W.k [.ref (W.n0+ab),.ref (W.rl+ab),pv,.int (nv+Int.ofNat zs.length) (gD u).2.2.2] 4),(W.n0+ab,oD (eS w.params (ac ns)) n),(W.rl+ab,oL (vT (aM zs (gD u).1 (ns,rd)).2) (gD u).2.2.1)] [ag (aM zs (gD u).1 (ns,rd)).1]++F).Perm
   ([(L.loc,W.fr5 w.params kk (.ref gp)),(W.so,oI 484 W.sd),(W.sd,aD w.params sN W.k [.ref (W.n0+ab),.ref (W.rl+ab),pv,.int (nv+Int.ofNat (y::ys).length) (gD u).2.2.2] 4),(W.n0+ab,oD (eS w.params (ac ns)) n),(W.rl+ab,oL (vT (aM (y::ys) (gD u).1 (ns,rd)).2) (gD u).2.2.1)]++(ag (aM (y::ys) (gD u).1 (ns,rd)).1++((gp,aj (vT (y::ys)))::F))):=λys zs u e=>by
  subst e;refine ae λx=>?_
  exact(aN [_,_,_,_,_,_] [_,_] 0x218208110d2c91c50c1 0x208b1843491c50c1:)
 have hp:∀M:ah,(M++(ag ns++F)).Perm (fl M [ag ns]++F):=λM=>ae λx=>by
  exact(aN [] [_,_,_] 34111876 146062971268:)
 match ys,hl,hc with
 |[],_,hc=>exact TR.step F (IC L.loc W.sc L.c1 L.c2 L.c3 L.c4 L.c5 W.so W.sd W.n0 W.rl gp kk W.k W.gv (.ref W.stg) pv W.fs nv tn n m2 ns y [y] rd rfl hc w) (hp _) (Me _) (λ_=>rfl) rfl rfl λch=>⟨_,[],⟨_,_,_,go [] [y] _ rfl⟩,pN⟩
 |[a],_,hc=>exact TR.step F (ID L.loc W.sc L.c1 L.c2 L.c3 L.c4 L.c5 W.so W.sd W.n0 W.rl gp kk W.k W.gv (.ref W.stg) pv W.fs nv tn n m2 ns y a [y,a] rd rfl hc w) (hp _) (Me _) (λ_=>rfl) rfl rfl λch=>⟨_,[],⟨_,_,_,go [a] [y,a] _ rfl⟩,pN⟩
 |[a,b],_,hc=>exact TR.step F (IE L.loc W.sc L.c1 L.c2 L.c3 L.c4 L.c5 W.so W.sd W.n0 W.rl gp kk W.k W.gv (.ref W.stg) pv W.fs nv tn n m2 ns y a b [y,a,b] rd rfl hc w) (hp _) (Me _) (λ_=>rfl) rfl rfl λch=>⟨_,[],⟨_,_,_,go [a,b] [y,a,b] _ rfl⟩,pN⟩
 |[a,b,c],_,hc=>exact TR.step F (IF L.loc W.sc L.c1 L.c2 L.c3 L.c4 L.c5 W.so W.sd W.n0 W.rl gp kk W.k W.gv (.ref W.stg) pv W.fs nv tn n m2 ns y a b c [y,a,b,c] rd rfl hc w) (hp _) (Me _) (λ_=>rfl) rfl rfl λch=>⟨_,[],⟨_,_,_,go [a,b,c] [y,a,b,c] _ rfl⟩,pN⟩
 |[a,b,c,d],_,hc=>exact TR.step F (IG L.loc W.sc L.c1 L.c2 L.c3 L.c4 L.c5 W.so W.sd W.n0 W.rl gp kk W.k W.gv (.ref W.stg) pv W.fs nv tn n m2 ns y a b c d [y,a,b,c,d] rd rfl hc w) (hp _) (Me _) (λ_=>rfl) rfl rfl λch=>⟨_,[],⟨_,_,_,go [a,b,c,d] [y,a,b,c,d] _ rfl⟩,pN⟩
 |[a,b,c,d,e],_,hc=>exact TR.step F (II L.loc W.sc L.c1 L.c2 L.c3 L.c4 L.c5 W.so W.sd W.n0 W.rl gp kk W.k W.gv (.ref W.stg) pv W.fs nv tn n m2 ns y a b c d e [y,a,b,c,d,e] rd rfl hc w) (hp _) (Me _) (λ_=>rfl) rfl rfl λch=>⟨_,[],⟨_,_,_,go [a,b,c,d,e] [y,a,b,c,d,e] _ rfl⟩,pN⟩
 |_::_::_::_::_::_::_,hl,_=>simp at hl
end
end
section
section
variable(w:World)(L:LA)(W:WA)
noncomputable abbrev Fn(P:Params)(L:LA)(W:WA)(F:ah)(kk:Nat->Tok)(gp st nw:Addr)(pv nv:Int)(tp tn:Tok)(n m n2 n3 ne:Nat)(ns:List Nd)(ys:List Pt)(pre:List SG)(now ss:List (Int×Tok)):ah:=
 [(L.loc,W.fr5 P kk (.ref gp)),(gp,aj (vT ys)),(W.so,oI 484 W.sd),(W.sd,aD P sN W.k [.ref (W.n0+ab),.ref (W.rl+ab),.int pv tp,.int nv tn] 4),(W.n0+ab,oD (eS P (ac ns)) n),(W.rl+ab,oL (vT []) m)]++(ag ns++([(L.c4,aQ (.ref nw)),(L.c5,aQ (.ref st)),(st,oL (vI ss) ne),(nw,oL (vI now) n3),(W.stg,oL (fU (pre++[(nw,now,n3)])) n2)]++(dY pre++F)))
theorem Jk(F:ah)(S:sQ)(pre:List SG)(nw:Addr)(now:List (Int×Tok))(n3:Nat)(r1:Pt)(rs:List Pt)(hS:S.ok w.params W)(hsg:S.sgs=pre++[(nw,now,n3)])(hrd:S.rd=r1::rs)(hlt:decide (S.nv<S.pv)=false)
  (h6:rs.length<=5) (hm:∀p∈(r1::rs),∃d∈S.ns,d.nm=p.1) (hr:now.length<=90):
  TR w L.hb 180 (ml (aE aU) ((ao aU).take 3) L.E) (wM w.params L W F S) λ_ N=>sM λkk gp st tp ss ne=>ss.map (·.1)=b8 (now.map (·.1))/\N=Fn w.params L W F kk gp st nw (S.pv+Int.ofNat (r1::rs).length) S.nv tp S.tn S.n (S.m+1) S.n2 n3 ne ((r1::rs).foldl bU S.ns) (r1::rs) pre now ss:=by
 obtain⟨o,o4,o5,pv,nv,tp,tn,n,m,n2,ns,rd,sgs⟩:=S;simp only at hsg hrd hlt hm;subst hsg hrd;have e2:fU (pre++[(nw,now,n3)])=fU pre++[.ref nw]:=l5 _ _;have hv:(vT rs).length<=1000:=by rw[cy];omega
 have hz:(Value.str (T r1.1) r1.2::vT rs).length=(r1::rs).length:=by rw[Mg,cy];rfl
 have hk:ac ((r1::rs).foldl bU ns)=ac ns:=un _ _;rcases hS with⟨kk,rfl,rfl,rfl⟩ |⟨kk,g0,a4,a5,rfl,rfl,rfl⟩
 .refine TR.step (dY pre++F) (KR L.loc W.sc L.c1 L.c2 L.c3 L.c4 L.c5 W.so W.sd W.n0 W.rl W.stg nw kk W.k W.gv W.fs pv nv tp tn n m n2 n3 _ ns r1 rs (fU pre) now hlt hz hv hm (by omega) w) (ae λy=>?_) (Me _) (λ_=>rfl) rfl rfl λch=>⟨_,[],⟨kx kk 4 [nZ ch 2],aZ ch 1,aZ ch 6,(ch 1).n 1,(bh (b8 (now.map (·.1))) (ch 6)).1,(bh (b8 (now.map (·.1))) (ch 6)).2.1,cO _ _,rfl⟩,ae λy=>?_⟩
  ·(simp only[wM,e2,cB,b7,nL,show dY []=[]from rfl,show vT (r1::rs)=.str (T r1.1) r1.2::vT rs from rfl];exact(aN [_,_,_,_,_,_,_,_,_] [_,_,_] 0x820881824c11113cd2c91c50c1 0x8220408204644f34b2471434c1:))
  ·(simp only[Fn,WA.fr5,hk,e2,cB,b7,nL,show dY []=[]from rfl,show vT []=[]from rfl,show vT (r1::rs)=.str (T r1.1) r1.2::vT rs from rfl];exact(aN [_,_,_,_,_,_,_,_,_,_,_] [_,_,_] 0x822060820445d54d13cd2c91c50c1 0x810820822065530c72411171513cd2c1:))
 .refine TR.step (dY pre++F) (KS L.loc W.sc L.c1 L.c2 L.c3 L.c4 L.c5 W.so W.sd W.n0 W.rl W.stg nw kk W.k W.gv W.fs pv nv tp tn n m n2 n3 _ ns r1 rs (fU pre) now hlt hz hv hm (by omega) g0 a4 a5 w) (ae λy=>?_) (Me _) (λ_=>rfl) rfl rfl λch=>⟨_,[],⟨kk,aZ ch 1,aZ ch 6,(ch 1).n 1,(bh (b8 (now.map (·.1))) (ch 6)).1,(bh (b8 (now.map (·.1))) (ch 6)).2.1,cO _ _,rfl⟩,ae λy=>?_⟩
  ·(simp only[wM,WA.fr5,e2,cB,b7,nL,show dY []=[]from rfl,show vT (r1::rs)=.str (T r1.1) r1.2::vT rs from rfl];exact(aN [_,_,_,_,_,_,_,_,_] [_,_,_] 0x820881824c11113cd2c91c50c1 0x8220408204644f34b2471434c1:))
  ·(simp only[Fn,WA.fr5,hk,e2,cB,b7,nL,show dY []=[]from rfl,show vT []=[]from rfl,show vT (r1::rs)=.str (T r1.1) r1.2::vT rs from rfl];exact(aN [_,_,_,_,_,_,_,_,_,_,_] [_,_,_] 0x822060820445d54d13cd2c91c50c1 0x810820822065530c72411171513cd2c1:))
theorem yv(F:ah)(S:sQ)(pre:List SG)(nw:Addr)(now:List (Int×Tok))(n3:Nat)(r1:Pt)(rs:List Pt)(hS:S.ok w.params W)(hsg:S.sgs=pre++[(nw,now,n3)])(hrd:S.rd=r1::rs)(hlt:decide (S.nv<S.pv)=false)
  (h6:rs.length<=5) (hm:∀p∈(r1::rs),∃d∈S.ns,d.nm=p.1) (hr:now.length<=90) (hok:∀y∈now.map (·.1),fD y) (hs1:1<=(b8 (now.map (·.1))).length) (hks:∀k∈b8 (now.map (·.1)),0<=k/\k<now.length)
  (g:List (List Nat×List Nat)) (hg:(r1::rs).map (·.1)=g.map (·.1)) (hgb:∀p∈g,h8 p.1 p.2) (hgn:g.map (·.2)=gX (now.map (·.1)) (b8 (now.map (·.1)))) (q:List PN×List (List Nat)) (hq:kE ((r1::rs).map (·.1)) (((r1::rs).map (·.1)).foldl uU (aO S.ns),[])=some q) (hpre:pre.length<=100)
  (Q:Result->ah->Prop) (k:∀S':sQ,S'.ok5 w.params W->(gc λa row e=>S'.sgs=S.sgs++[(a,row,e)]/\row.map (·.1)=jF (now.map (·.1)) (b8 (now.map (·.1))))->dZ (S'.ns,S'.rd)=q->decide (S'.nv<S'.pv)=false->ak w L.hb 180 (ku aU L.E) (wM w.params L W F S') Q):
  ak w L.hb 180 (ku aU L.E) (wM w.params L W F S) Q:=by
 have hn1:1<=now.length:=by
  have h:=hks;cases hstr:b8 (now.map (·.1))with
  |nil=>rw[hstr]at hs1;simp at hs1
  |cons z zs=>
   have:=hks z (by rw[hstr];exact .head _);omega
 rw[kP];refine TR.whileS (Jk w L W F S pre nw now n3 r1 rs hS hsg hrd hlt h6 hm hr) ?_;rintro _ N ⟨kk,gp,st,tp,ss,ne,hss,rfl⟩;generalize hpv:S.pv+Int.ofNat (r1::rs).length=pv;generalize hns:(r1::rs).foldl bU S.ns=ns;have habs:dZ (ns,([]:List Pt))=(((r1::rs).map (·.1)).foldl uU (aO S.ns),[]):=by
  unfold dZ;rw[<-hns,my];rfl
 rw[<-habs]at hq;obtain⟨hcan,hdn⟩:=jm (r1::rs) (ns,[]) q hq;have hssl:ss.length=(b8 (now.map (·.1))).length:=by rw[<-hss,Mc]
 have hks2:∀p∈ss,0<=p.1/\p.1<now.length:=λp hp=>hks p.1 (by rw[<-hss];exact Mw hp)
 have hssn:ss.length<=90:=by
  rw[hssl];have:=eR (el:=sw (now.map (·.1))) (nO _) ((now.map (·.1)).length-1);unfold b8;rw[Mc]at*;omega
 refine TR.ifS (Qb:=λb N=>b=false/\N=Fn w.params L W F kk gp st nw pv S.nv tp S.tn S.n (S.m+1) S.n2 n3 ne ns (r1::rs) pre now ss) ?_ ?_
 .generalize hM:Fn w.params L W F kk gp st nw pv S.nv tp S.tn S.n (S.m+1) S.n2 n3 ne ns (r1::rs) pre now ss=M;refine TR.isNe (Q1:=λa N=>gc λx l e=>a=.ref x/\l.map (·.1)=g.map (·.2)/\N=(x,oL (vT l) e)::M) (Q2:=λa b N=>sM λx l e x2 l2 e2=>a=.ref x/\l.map (·.1)=g.map (·.2)/\b=.ref x2/\l2.map (·.1)=g.map (·.2)/\N=(x2,oL (vT l2) e2)::(x,oL (vT l) e)::M) (by kernel_rfl) (by decide) ?_ ?_ ?_
  .subst hM;refine TR.step ([(W.so,oI 484 W.sd),(W.sd,aD w.params sN W.k [.ref (W.n0+ab),.ref (W.rl+ab),.int pv tp,.int S.nv S.tn] 4),(W.n0+ab,oD (eS w.params (ac ns)) S.n),(W.rl+ab,oL (vT []) (S.m+1))]++(ag ns++([(L.c4,aQ (.ref nw)),(L.c5,aQ (.ref st)),(st,oL (vI ss) ne),(nw,oL (vI now) n3),(W.stg,oL (fU (pre++[(nw,now,n3)])) S.n2)]++(dY pre++F)))) (KX L.loc W.sc L.c1 L.c2 L.c3 L.c4 L.c5 W.so gp kk W.gv (.ref W.stg) W.fs (r1::rs) g hg hgb (by rw[Mg];omega) (M5 1 _) w) (.refl _) (Me _) (λ_=>rfl) rfl rfl λch=>⟨_,[],⟨aZ ch 1,(bh (le g) (ch 3)).1,(bh (le g) (ch 3)).2.1,rfl,by rw[cO,wO],rfl⟩,ae λy=>?_⟩
   exact(aN [_,_,_,_,_,_,_,_,_,_,_,_] [_,_,_] 0x208208220665755344110f34b2411c50c1 0x204308208220665755344110714f34b241:)
  .rintro a N ⟨x,l,e,rfl,hl,rfl⟩;subst hM;refine TR.step ((x,oL (vT l) e)::([(L.loc,W.fr5 w.params kk (.ref gp)),(gp,aj (vT (r1::rs))),(W.so,oI 484 W.sd),(W.sd,aD w.params sN W.k [.ref (W.n0+ab),.ref (W.rl+ab),.int pv tp,.int S.nv S.tn] 4),(W.n0+ab,oD (eS w.params (ac ns)) S.n),(W.rl+ab,oL (vT []) (S.m+1))]++(ag ns++([(W.stg,oL (fU (pre++[(nw,now,n3)])) S.n2)]++(dY pre++F))))) (KY L.loc W.sc L.c1 L.c2 L.c3 L.c4 L.c5 st nw ne n3 ss now hks2 (eT hok) hr hssn (by omega) w) (ae λy=>?_) (Me _) (λ_=>rfl) rfl rfl λch=>⟨_,[],⟨x,l,e,aZ ch 1,(bh (gX (now.map (·.1)) (ss.map (·.1))) (ch 3)).1,(bh (gX (now.map (·.1)) (ss.map (·.1))) (ch 3)).2.1,rfl,hl,rfl,by rw[cO,hss,hgn],rfl⟩,ae λy=>?_⟩
   .exact(aN [_,_,_,_,_,_,_,_,_,_,_,_] [_,_,_] 0x190820822065d54d13c110d2c91c50c1 0x264208208818f04434b247143053457541:)
   .exact(aN [_,_,_,_,_,_,_,_,_,_,_,_,_] [_,_,_] 0x9b08208220664111755344f3412c91c50c1 0x810db0820822061c52c964111755344f341:)
  .rintro a b N ⟨x,l,e,x2,l2,e2,rfl,hl,rfl,hl2,rfl⟩;have hch:∀z∈g.map (·.2),∀c∈z,c<1114112:=by rw[hgn];exact uE hok
   have c1:=vf hch;refine⟨nP (l.map (·.1)),nP (l2.map (·.1)),qP (.tail _ (.head _)),qP (.head _),by rw[hl];exact c1,by rw[hl2];exact c1,pu _,M,[(x2,oL (vT l2) e2),(x,oL (vT l) e)],Mz (l₁:=[(x2,oL (vT l2) e2),(x,oL (vT l) e)]),?_,rfl⟩;rw[hl,hl2,OR _ c1];rfl
 .rintro b N ⟨rfl,rfl⟩;refine TR.nil ?_;refine TR.seq (xA w L W kk gp (.int pv tp) S.nv S.tn S.n (S.m+1) ns r1 rs [] ([(L.c4,aQ (.ref nw)),(L.c5,aQ (.ref st)),(st,oL (vI ss) ne),(nw,oL (vI now) n3),(W.stg,oL (fU (pre++[(nw,now,n3)])) S.n2)]++(dY pre++F)) h6 hcan) ?_;rintro _ N ⟨ts,tn',m',hN⟩;have hk:ac (aM (r1::rs) ts (ns,[])).1=ac ns:=kN _ _ _;have hvl:(vI now).length=(now.length-1)+1:=by
   rw[oc,Mc];omega
  have hsv:(fU (pre++[(nw,now,n3)])).length<=1000:=by
   unfold fU;rw[Mc,Mn];show pre.length+1<=1000;omega
  have hni:Int.ofNat (now.length-1+1)=now.length:=by simp only[Mx];omega
  refine TR.seq1 (TR.step ([(W.so,oI 484 W.sd),(W.sd,aD w.params sN W.k [.ref (W.n0+ab),.ref (W.rl+ab),.int pv tp,.int (S.nv+Int.ofNat (r1::rs).length) tn'] 4),(W.n0+ab,oD (eS w.params (ac ns)) S.n),(W.rl+ab,oL (vT (aM (r1::rs) ts (ns,[])).2) m')]++(ag (aM (r1::rs) ts (ns,[])).1++((gp,aj (vT (r1::rs)))::(dY pre++F)))) (KU L.loc W.sc L.c1 L.c2 L.c3 L.c4 L.c5 W.so W.stg st nw kk W.gv (.ref gp) W.fs ne n3 S.n2 (now.length-1) ss now (fU (pre++[(nw,now,n3)])) hvl (by omega) (by omega) (by omega) hni hr hn1 hsv w) (hN.trans (ae λy=>?_)) (Me _) (λ_=>rfl) rfl rfl λch=>?_)
  .exact(aN [_,_,_,_,_,_,_,_,_,_,_] [_,_,_] 0x825c20881954d13cd0442c91c50c1 0x8209708818424714304b55344f341:)
  .refine⟨wM w.params L W F ⟨W.fr5 w.params kk (.ref gp),aQ (.ref nw),aQ (.ref st),pv,S.nv+Int.ofNat (r1::rs).length,tp,tn',S.n,m',S.n2+1,(aM (r1::rs) ts (ns,[])).1,(aM (r1::rs) ts (ns,[])).2,S.sgs++[(aZ ch 5,(bh (jF (now.map (·.1)) (ss.map (·.1))) (ch 7)).1,(bh (jF (now.map (·.1)) (ss.map (·.1))) (ch 7)).2.1)]⟩,[(gp,aj (vT (r1::rs))),(st,oL (vI ss) ne)],?_,ae λy=>?_⟩
   .show ak _ _ _ _ _ _;rw[<-kP];refine k _ ⟨kk,_,_,_,rfl,rfl,rfl⟩ ⟨_,_,_,rfl,by rw[cO,hss]⟩ (hdn ts) ?_;show decide (S.nv+Int.ofNat (r1::rs).length<pv)=false;have:=of_decide_eq_false hlt;refine decide_eq_false ?_;omega
   ·(simp only[wM,WA.fr5,hk,hsg,l5,show ∀s:SG,fU [s]=[.ref s.1]from λ_=>rfl,cB,b7,nL,show dY []=[]from rfl];exact(aN [_,_,_,_,_,_,_,_,_,_,_,_] [_,_,_] 0x20826422061175534413cd2c91c50c1 0x26490420822040830421c118f34b5d54d1141:))
end
end
section
noncomputable def eZ(l:List SG):List (List Int):=(l.map λs=>s.2.1.map (·.1)).reverse
theorem jX(l:List SG)(s:SG):eZ (l++[s])=s.2.1.map (·.1)::eZ l:=by
 unfold eZ;rw[Mi,OV];rfl
theorem sj(l:List SG):(eZ l).length=l.length:=by unfold eZ;rw[OX,Mc]
theorem qO{l:List SG}{x:List Int}{xs:List (List Int)}(h:eZ l=x::xs):iJ λpre nw now n=>l=pre++[(nw,now,n)]/\now.map (·.1)=x/\eZ pre=xs:=by
 rcases NI l with rfl |⟨pre,s,rfl⟩
 .cases h
 .rw[NJ,jX]at h;injection h with h1 h2;exact⟨pre,s.1,s.2.1,s.2.2,by rw[NJ],h1,h2⟩
noncomputable def FU(P:Params)(L:LA)(W:WA)(F:ah)(fin:List (List Int))(r:Result)(N:ah):Prop:=r=.ok .next/\iJ λkk g0 n2 sgs=>eZ sgs=fin/\N=[(L.loc,W.fr5 P kk g0),(W.stg,oL (fU sgs) n2)]++(dY sgs++F)
section
variable(w:World)(L:LA)(W:WA)
theorem rc(F:ah)(fin:List (List Int))(f:Nat)(S:sQ)(g:List PN)(r0:List Nat)(rr:List (List Nat))(l:List (List Int))(hp:BL (f+1) g (r0::rr) l=some fin)(ha:dZ (S.ns,S.rd)=(g,r0::rr))(hl:eZ S.sgs=l)(hS:S.ok w.params W)(hlt:decide (S.nv<S.pv)=false)
  (ih:∀(S':sQ) (g':List PN) (rd':List (List Nat)) (l':List (List Int)),BL f g' rd' l'=some fin->dZ (S'.ns,S'.rd)=(g',rd')->eZ S'.sgs=l'->S'.ok5 w.params W->decide (S'.nv<S'.pv)=false->ak w L.hb 180 (ku aU L.E) (wM w.params L W F S') (FU w.params L W F fin)):
  ak w L.hb 180 (ku aU L.E) (wM w.params L W F S) (FU w.params L W F fin):=by
 cases l with
 |nil=>exact nS hp
 |cons x xs=>
  obtain⟨pre,nw,now,n3,hsg,hx,hxs⟩:=qO hl;subst hx;have ha1:aO S.ns=g:=congrArg Prod.fst ha;have ha2:S.rd.map (·.1)=r0::rr:=congrArg Prod.snd ha;cases hrd:S.rd with
  |nil=>rw[hrd]at ha2;cases ha2
  |cons r1 rs=>
   rw[hrd]at ha2;have ha2:(r1::rs).map (·.1)=r0::rr:=ha2;rw[<-ha2]at hp;obtain⟨hc,hp⟩:=du hp;have hc:(Nat.ble ((r1::rs).map (·.1)).length 6&&((r1::rs).map (·.1)).all (λp=>g.any (·.nm==p))&&Nat.ble (now.map (·.1)).length 90&&(now.map (·.1)).all r7&&Nat.ble 1 (b8 (now.map (·.1))).length&&(b8 (now.map (·.1))).all (λk=>decide (0<=k)&&decide (k<(now.map (·.1)).length))&&Nat.ble xs.length 20)=true:=hc;simp only[MF]at hc;obtain⟨⟨⟨⟨⟨⟨a1,a2⟩,a3⟩,a4⟩,a5⟩,a6⟩,a7⟩:=hc;have a1:=Mm a1;have a3:=Mm a3;have a5:=Mm a5;have a7:=Mm a7;rw[Mc]at a1 a3;obtain⟨b,hb,hp⟩:=Mk.mp hp;obtain⟨hbn,hp⟩:=du hp;obtain⟨q,hq,hp⟩:=Mk.mp hp;have hq:kE ((r1::rs).map (·.1)) (((r1::rs).map (·.1)).foldl uU g,[])=some q:=hq;obtain⟨gg,g1,g2,g3⟩:=mC _ _ hb;have hpl:pre.length<=100:=by rw[<-sj,hxs];omega
   rw[<-ha1]at hq;refine yv w L W F S pre nw now n3 r1 rs hS hsg hrd hlt (by rw[Mg]at a1;omega) ?_ a3 ?_ a5 ?_ gg g1 g3 (g2.symm.trans (eq_of_beq hbn)) q hq hpl _ ?_
   .intro p hp2;have:=MO.mp a2 p.1 (Mw hp2);rw[<-ha1]at this;exact k9 this
   .intro y hy;exact uS (MO.mp a4 y hy)
   .intro k hk;have:=MO.mp a6 k hk;simp only[MF,decide_eq_true_eq,Mc]at this;exact this
   .rintro S' h5 ⟨a,row,e,hs1,hs2⟩ hab hlt';refine ih S' q.1 q.2 _ hp hab ?_ h5 hlt';rw[hs1,jX,hl,hs2]
theorem qZ(F:ah)(fin:List (List Int)):∀(f:Nat) (S:sQ) (g:List PN) (rd:List (List Nat)) (l:List (List Int)),BL f g rd l=some fin->dZ (S.ns,S.rd)=(g,rd)->eZ S.sgs=l->S.ok5 w.params W->decide (S.nv<S.pv)=false->ak w L.hb 180 (ku aU L.E) (wM w.params L W F S) (FU w.params L W F fin)
 |0,S,g,rd,l,hp,ha,hl,hS,hlt=>nS hp
 |f+1,S,g,[],l,hp,ha,hl,hS,hlt=>by
  have hr:S.rd=[]:=by
   have:S.rd.map (·.1)=[]:=congrArg Prod.snd ha;exact QB.mp this
  have hf:l=fin:=by
   cases l with
   |nil=>exact nS hp
   |cons x xs=>exact M2 hp
  obtain⟨o,o4,o5,pv,nv,tp,tn,n,m,n2,ns,rd,sgs⟩:=S;obtain⟨kk,g0,a4,a5,e1,e2,e3⟩:=hS;simp only at hr e1 e2 e3 hl hlt;subst hr e1 e2 e3 hf;refine ak.step ([(L.c4,aQ a4),(L.c5,aQ a5),(W.n0+ab,oD (eS w.params (ac ns)) n),(W.stg,oL (fU sgs) n2)]++(dY sgs++(ag ns++F))) (KW L.loc W.sc L.c1 L.c2 L.c3 L.c4 L.c5 W.so W.sd W.n0 W.rl kk W.k W.gv (.ref W.stg) g0 W.fs pv nv tp tn n m hlt w) (ae λy=>?_) (Me _) rfl rfl λch=>⟨[(L.loc,W.fr5 w.params kk g0),(W.stg,oL (fU sgs) n2)]++(dY sgs++F),[(W.so,oI 484 W.sd),(W.sd,aD w.params sN W.k [.ref (W.n0+ab),.ref (W.rl+ab),.int pv tp,.int nv tn] 4),(W.rl+ab,oL [] m),(L.c4,aQ a4),(L.c5,aQ a5),(W.n0+ab,oD (eS w.params (ac ns)) n)]++ag ns,⟨rfl,kk,g0,n2,sgs,hl,rfl⟩,ae λy=>?_⟩
  ·(simp only[wM,WA.fr5,show vT []=[]from rfl];exact(aN [_,_,_,_,_,_,_,_] [_,_,_] 0x20822061113cd2c91c50c1 0x20820881843cd1c30512c9141:))
  ·(simp only[wM,WA.fr5,show vT []=[]from rfl];exact(aN [_,_,_,_,_,_,_,_] [_,_,_] 0x208208818444f34b0491c50c1 0x20861c50d13cd0420881092c1:))
 |f+1,S,g,r0::rr,l,hp,ha,hl,hS,hlt=>rc w L W F fin f S g r0 rr l hp ha hl (.inr hS) hlt λS' g' rd' l' h1 h2 h3 h4 h5=>qZ F fin f S' g' rd' l' h1 h2 h3 h4 h5
end
end
noncomputable def pM(n:Nat)(pre:List Bool):Bool:=(x9 n).all λl=>rL (uV (pre++l))
theorem Kl:pM 0 []=true:=by kernel_rfl
theorem Km:pM 1 []=true:=by kernel_rfl
theorem Kn:pM 2 []=true:=by kernel_rfl
theorem Ko:pM 3 []=true:=by kernel_rfl
theorem Kp:pM 4 []=true:=by kernel_rfl
theorem Kq:pM 5 []=true:=by kernel_rfl
theorem Kr:pM 6 []=true:=by kernel_rfl
theorem Hj:pM 6 [true]=true:=by kernel_rfl
theorem Hk:pM 6 [false]=true:=by kernel_rfl
theorem Hl:pM 6 [true,true]=true:=by kernel_rfl
theorem Hm:pM 6 [true,false]=true:=by kernel_rfl
theorem Hn:pM 6 [false,true]=true:=by kernel_rfl
theorem Ho:pM 6 [false,false]=true:=by kernel_rfl
theorem nr:∀l:List Bool,l∈x9 l.length
 |[]=>.head _
 |b::l=>by
  show b::l∈(x9 l.length).flatMap _;refine QW.mpr ⟨l,nr l,?_⟩;cases b
  .exact .tail _ (.head _)
  .exact .head _
theorem dr{n:Nat}{pre:List Bool}(h:pM n pre=true)(l:List Bool)(hl:l.length=n):rL (uV (pre++l))=true:=by
 have:=MO.mp h l (by rw[<-hl];exact nr l);exact this
theorem KN:∀n:Nat,n<=8->n=0\/n=1\/n=2\/n=3\/n=4\/n=5\/n=6\/n=7\/n=8:=by decide
theorem xG:∀par:List Bool,par.length<=8->rL (uV par)=true:=λpar h=>by
 have h':=KN _ h;rcases h' with h |h |h |h |h |h |h |h |h
 .exact dr Kl par h
 .exact dr Km par h
 .exact dr Kn par h
 .exact dr Ko par h
 .exact dr Kp par h
 .exact dr Kq par h
 .exact dr Kr par h
 .match par,h with
  |b::l,h=>
   have hl:l.length=6:=by simpa using h
   cases b
   .exact dr Hk l hl
   .exact dr Hj l hl
 .match par,h with
  |b::c::l,h=>
   have hl:l.length=6:=by simpa using h
   cases b<;>cases c
   .exact dr Ho l hl
   .exact dr Hn l hl
   .exact dr Hm l hl
   .exact dr Hl l hl
theorem nG(nums:List Int)(i:Nat):pk nums i=o1 ((nums.map λx=>Int.fmod x 2==0)[i]?.map λb=>bif b then(i:Int)+1 else-(i:Int)-1):=by
 unfold pk;rw[Mf,Option.map_map];rfl
theorem u6{a b:List Int}(h:(a.map λx=>Int.fmod x 2==0)=b.map λx=>Int.fmod x 2==0):gC a=gC b:=by
 have hl:a.length=b.length:=by have:=congrArg List.length h;simpa using this
 unfold gC;rw[hl];congr 1;funext i;rw[nG,nG,h]
theorem u8(l:List Int):gC ([0,2,5,4,1,3,0]++l)=uV (l.map λx=> !(Int.fmod x 2==0)):=by
 unfold uV;refine u6 ?_;rw[Mi,Mi,MA,MA];congr 1;refine QA λx _=>?_
 show(Int.fmod x 2==0)=_;simp only[Function.comp];cases(Int.fmod x 2==0)<;>rfl
theorem xH(l:List Int)(h:l.length<=8):rL (gC ([0,2,5,4,1,3,0]++l))=true:=by
 rw[u8];exact xG _ (by rw[Mc];exact h)
theorem kX{α:Type}(n:Nat)(el:Nat->List α)(h:Nat->α)(e:∀i,i<n->el i=[h i]):(List.range n).flatMap el=(List.range n).map h:=by
 induction n with
 |zero=>rfl
 |succ n ih=>
  rw[Oe,Of,Mi,ih λi hi=>e i (Nat.lt_succ_of_lt hi)];simp[e n (Nat.lt_succ_self n)]
theorem nH(nums:List Int):∃h:Nat->Int,gC nums=(List.range nums.length).map h/\∀i,i<nums.length->h i=(i:Int)+1\/h i= -(i:Int)-1:=by
 refine⟨λi=>bif Int.fmod (nums.getD i 0) 2==0 then(i:Int)+1 else-(i:Int)-1,kX _ _ _ λi hi=>?_,λi hi=>?_⟩
 .unfold pk;rw[Mp hi];simp only[Np,o1,Nc,Mp hi,QX]
 .show(bif Int.fmod (nums.getD i 0) 2==0 then(i:Int)+1 else-(i:Int)-1)=_\/(bif Int.fmod (nums.getD i 0) 2==0 then(i:Int)+1 else-(i:Int)-1)=_;cases(Int.fmod (nums.getD i 0) 2==0)
  .exact .inr rfl
  .exact .inl rfl
theorem nI(nums:List Int):(gC nums).length=nums.length:=by
 obtain⟨h,e,_⟩:=nH nums;rw[e,Mc,Om]
theorem r8(nums row:List Int)(hr:row=gC nums):∀x∈row,∃p,(ny nums row)[(bT x).toNat]?=some (kz p x):=λx hx=>by
 obtain⟨h,e,hi⟩:=nH nums;have hl:row.length=nums.length:=by rw[hr,nI]
 have ep:ny nums row=(List.range nums.length).map λi=>kz (vR (nums.getD i 0)) (row.getD i 0):=kX _ _ _ λi hi=>by
  unfold uW;rw[Mp hi,Mp (by omega)];simp only[Ov,Np,o1,Nc,Mp hi,Mp (show i<row.length by omega),QX]
 rw[hr,e]at hx;obtain⟨i,hir,rfl⟩:=ML.mp hx;have hin:i<nums.length:=List.mem_range.mp hir;have hx2:row.getD i 0=h i:=by
  rw[Nc,hr,e,Mf,OT hin];rfl
 have hk:(bT (h i)).toNat=i:=by
  unfold bT;rcases hi i hin with h1 |h1
  .rw[h1,show decide (((i:Int)+1)<0)=false from decide_eq_false (by omega)];simp only[cond_false,Mx];omega
  .rw[h1,show decide ((-(i:Int)-1)<0)=true from decide_eq_true (by omega)];simp only[cond_true,Mx];omega
 refine⟨vR (nums.getD i 0),?_⟩;rw[hk,ep,Mf,OT hin];show some (kz _ (row.getD i 0))=_;rw[hx2]
theorem m7:∀{l:List Nat},lN l=true->l.Nodup
 |[],_=>.nil
 |x::l,h=>by
  unfold lN at h;simp only[MF,Ol]at h;refine NF.mpr ⟨λhm=>?_,m7 h.2⟩;have:=OJ.mpr hm;rw[h.1]at this;cases this
noncomputable def JJ(hs:List Nat)(row last st:List Int):Prop:=(∀x∈st,x∈row)/\st.foldl cw []=hs/\st.length<=19/\et λres s=>iQ (hU st) (cc hs)=some res/\1<=res.length/\res.length<=100/\eG res (0,0,[])=some s/\s.2.2=(bf st last).1
theorem Bq{hs:List Nat}{row last st:List Int}(h:Bu hs last st=true)(hm:(st.all λx=>row.contains x)=true):JJ hs row last st:=by
 unfold Bu at h;simp only[MF]at h;obtain⟨⟨⟨h1,h2⟩,h3⟩,h4⟩:=h;refine⟨λx hx=>?_,eq_of_beq h1,Mm h2,?_⟩
 .exact OJ.mp (MO.mp hm x hx)
 .cases hr:iQ (hU st) (cc hs)with
  |none=>rw[hr]at h4;cases h4
  |some res=>
   rw[hr]at h4;simp only[MF]at h4;obtain⟨⟨h5,h6⟩,h7⟩:=h4;cases ho:eG res (0,0,[])with
   |none=>rw[ho]at h7;cases h7
   |some s=>
    rw[ho]at h7;exact⟨res,s,rfl,Mm h5,Mm h6,ho,eq_of_beq h7⟩
structure B4(row:List Int)(x:Int)(hs:List Nat)(ls:List (List Nat))(g:List PN)(aw:List (List Nat))(last:List Int)(prev:List (List Int)):Prop where
 len:row.length<=19
 ok:∀x∈row,fD x
 head:∃rest,row=x::rest
 x1:1<=x
 run:ga row ⟨[],[],[]⟩=some ⟨hs,ls,g⟩
 g1:g.length<=100
 g2:1<=g.length
 hs1:kw hs
 hs2:hs.Nodup
 rdy:l4 g≠[]
 fc:dO (g.map λd=>(d.nm,d.sc)) 400 (g.map (·.nm)) []=some aw
 wh:BL 20 g (l4 g) [row]=some (last::prev)
 la1:b8 last=[]
 la2:ik last=cc hs
 st:∀st∈last::prev,JJ hs row last st
theorem si{row:List Int}(h:rL row=true):F2 λx hs ls g aw last prev=>B4 row x hs ls g aw last prev:=by
 unfold rL at h;simp only[MF]at h;obtain⟨⟨h1,h2⟩,h3⟩:=h;cases row with
 |nil=>cases h3
 |cons x rest=>
  simp only[MF,decide_eq_true_eq]at h3;obtain⟨h3,h4⟩:=h3;cases hq:ga (x::rest) ⟨[],[],[]⟩with
  |none=>rw[hq]at h4;cases h4
  |some q=>
   rw[hq]at h4;simp only[MF]at h4;obtain⟨⟨⟨⟨⟨⟨a1,a2⟩,a3⟩,a4⟩,a5⟩,a6⟩,h5⟩:=h4;cases hf:dO (q.g.map λd=>(d.nm,d.sc)) 400 (q.g.map (·.nm)) []with
   |none=>rw[hf]at h5;cases h5
   |some aw=>
    rw[hf]at h5;simp only at h5;cases hw:BL 20 q.g (l4 q.g) [x::rest]with
    |none=>rw[hw]at h5;cases h5
    |some l=>
     rw[hw]at h5;cases l with
     |nil=>cases h5
     |cons last prev=>
      simp only[MF]at h5;obtain⟨⟨⟨⟨b1,b2⟩,b3⟩,b4⟩,b5⟩:=h5;refine⟨x,q.hs,q.ls,q.g,aw,last,prev,⟨Mm h1,λy hy=>uS (MO.mp h2 y hy),⟨rest,rfl⟩,h3,hq,Mm a1,Mm a2,⟨λc hc=>?_,Mm a4⟩,m7 a5,?_,hf,hw,Pr.mp b2,?_,λst hst=>Bq (MO.mp b5 st hst) (MO.mp b1 st hst)⟩⟩
      .have:=MO.mp a3 c hc;simp only[MF]at this;exact⟨Mm this.1,Mm this.2⟩
      .intro e;rw[e]at a6;cases a6
      .rw[yd,eq_of_beq b3]
section
noncomputable abbrev ED(f:Flow)(N:ah):Prop:=f=.ret (.bool true)
section
variable(w:World)(L:LA)
theorem EF(sc so sd n0 rl stg rw_ pc:Addr)(kk k:Nat->Tok)(fs:Array (Option Value))(gt tp tn:Tok)(n m n1 n2 np:Nat)(ns:List Nd)(row:List (Int×Tok))(ps:List Pt)(x:Int)(hs:List Nat)(ls:List (List Nat))(g:List PN)(aw:List (List Nat))(last:List Int)(prev:List (List Int))
  (hF:B4 (row.map (·.1)) x hs ls g aw last prev) (hns:aO ns=g) (hpc:∀y∈row.map (·.1),∃p,(ps.map (·.1))[(bT y).toNat]?=some (kz p y)):
  TR w L.hb 180 (execs (o0::bB.drop 7) L.E) (wM w.params L ⟨sc,so,stg,sd,n0,rl,.str (T (bn hs)) gt,fs,k⟩ [(L.c3,aQ (.ref pc)),(pc,oL (vT ps) np)] ⟨au w.params aC kk [.ref sc,.ref so,.str (T (bn hs)) gt,.ref stg] 4 fs,dk,dk,0,0,tp,tn,n,m,n2,ns,aW ns,[(rw_,row,n1)]⟩) ED:=by
 refine TR.whSt (Q1:=FU w.params L ⟨sc,so,stg,sd,n0,rl,.str (T (bn hs)) gt,fs,k⟩ [(L.c3,aQ (.ref pc)),(pc,oL (vT ps) np)] (last::prev)) ?_ ?_
 .have hr:(aW ns).map (·.1)=l4 g:=by rw[wD,hns]
  have hwh:=hF.wh;cases hrd:l4 g with
  |nil=>exact absurd hrd hF.rdy
  |cons r0 rr=>
   rw[hrd]at hwh;exact rc w L ⟨sc,so,stg,sd,n0,rl,.str (T (bn hs)) gt,fs,k⟩ _ _ 19 _ g r0 rr [row.map (·.1)] hwh (by show(aO ns,(aW ns).map (·.1))=_;rw[hns,hr,hrd]) rfl (.inl ⟨kk,rfl,rfl,rfl⟩) rfl λS' g' rd' l' h1 h2 h3 h4 h5=>qZ w L _ _ _ 19 S' g' rd' l' h1 h2 h3 h4 h5
 .rintro r N ⟨rfl,kk2,g0,n3,sgs,hsg,rfl⟩;obtain⟨ini,la,ll,nl,rfl,h1,h2⟩:=qO hsg;subst h1;have hst:∀s∈ini++[(la,ll,nl)],vd hs (ps.map (·.1)) (ll.map (·.1)) (s.2.1.map (·.1)):=λs hs2=>by
   have hm:s.2.1.map (·.1)∈eZ (ini++[(la,ll,nl)]):=by
    unfold eZ;rw[Ps];exact Mw (f:=λs:SG=>s.2.1.map (·.1)) hs2
   rw[hsg]at hm;obtain⟨f1,f2,f3,f4⟩:=hF.st _ hm;exact⟨f2,f3,λy hy=>⟨hF.ok y (f1 y hy),hpc y (f1 y hy)⟩,f4⟩
  refine(ux w L sc so stg pc hs gt g0 fs kk2 n3 np ps ini (la,ll,nl) hF.hs1 hF.hs2 hF.la1 hF.la2 hst).to (ae λy=>?_) λa N h=>⟨N,[],h,pN⟩
  exact(aN [_,_,_,_] [_] 572372055773377 141818630593:)
theorem TR.frm{α:Type}{hb:Md}{lv:Nat}{t:Sem α}{M:ah}{Q:α->ah->Prop}(h:TR w hb lv t M Q)(F:ah):TR w hb lv t (M++F) λa N=>Fr (Q a) F N:=λMt os G A s S hA C H=>by
 obtain⟨MG,Nn,NB,back⟩:=Mine.frame G C;exact h MG os Nn A s S hA NB λa N s' q C'=>H a (N++F) s' ⟨N,q,rfl⟩ (back _ _ C')
theorem xF(sc:Addr)(kk:Nat->Tok)(vs:List (Int×Tok))(n:Nat)(hv:vs.length<=100):
  ak w ⟨true,some []⟩ 181 (.func bB L.E) [(sc,oL (vI vs) n),(L.loc,frm w.params aC kk [.ref sc] 1),(L.c1,dk),(L.c2,dk),(L.c3,dk),(L.c4,dk),(L.c5,dk)] λr N=>r=.ok (.ret (.bool true))/\∃N',N=N'++[(sc,oL (vI vs) n)]:=by
 have hvl:(vI vs).length=vs.length:=by rw[oc,Mc]
 have hb:=uv;rw[hb];refine TR.funcS (Q1:=λ_ N=>et λnu nums=>nums.map (·.1)=[0,2,5,4,1,3,0]++(vs.take 8).map (·.1)/\N=[(L.loc,frm w.params aC kk [.ref sc] 1),(L.c1,aQ (.ref nu)),(L.c2,dk),(nu,oL (vI nums) 0)]++[(L.c3,dk),(L.c4,dk),(L.c5,dk)]++[(sc,oL (vI vs) n)]) ?_ ?_
 .refine TR.step [] (Iu L.loc sc L.c1 L.c2 L.c3 L.c4 L.c5 kk vs n (by omega) (by rw[OB];omega) w) pN (Me _) (λ_=>rfl) rfl rfl λch=>⟨_,[],⟨aZ ch 11,[(0,nZ ch 0),(2,nZ ch 1),(5,nZ ch 2),(4,nZ ch 3),(1,nZ ch 4),(3,nZ ch 5),(0,nZ ch 6)]++vs.take 8,by rw[Mi];rfl,rfl⟩,ae λy=>?_⟩
  have e:vI ([(0,nZ ch 0),(2,nZ ch 1),(5,nZ ch 2),(4,nZ ch 3),(1,nZ ch 4),(3,nZ ch 5),(0,nZ ch 6)]++vs.take 8)=(.int 0 (nZ ch 0))::(.int 2 (nZ ch 1))::(.int 5 (nZ ch 2))::(.int 4 (nZ ch 3))::(.int 1 (nZ ch 4))::(.int 3 (nZ ch 5))::(.int 0 (nZ ch 6))::(List.take 8 (vI vs)):=by
   rw[oc,Mi,List.map_take];rfl
  (simp only[e,show(⟨.type "cell",none,.cell none,⟨[]⟩⟩:Obj)=dk from rfl];exact(aN [_,_,_,_,_,_,_,_] [] 0x20513cd2c91c50c1 0x20424410891c504f34b0c1:))
 rintro _ N ⟨nu,nums,hnu,rfl⟩;suffices hgo:TR w L.hb 180 (execs ([aP bB 1]++([aP bB 2]++([aP bB 3]++([aP bB 4]++([aP bB 5]++o0::bB.drop 7))))) L.E) ([(L.loc,frm w.params aC kk [.ref sc] 1),(L.c1,aQ (.ref nu)),(L.c2,dk),(nu,oL (vI nums) 0)]++[(L.c3,dk),(L.c4,dk),(L.c5,dk)]) ED by
  exact(TR.frm w hgo [(sc,oL (vI vs) n)]).to (.refl _) λf N h=>⟨N,[],by
   obtain⟨N',h1,h2⟩:=h;exact⟨by rw[h1],N',h2⟩,pN⟩
 have htk:(vs.take 8).length<=8:=by rw[OB];omega
 have hnl:nums.length=(vs.take 8).length+7:=by
  have:=congrArg List.length hnu;rw[Mn,Mc,Mc]at this;simp only[Mg,MC]at this;omega
 have hvn:(vI nums).length=(nums.length-1)+1:=by rw[oc,Mc];omega
 have hni:Int.ofNat (nums.length-1+1)=nums.length:=by simp only[Mx];omega
 have hrow:=xH ((vs.take 8).map (·.1)) (by rw[Mc];exact htk);rw[<-hnu]at hrow;obtain⟨x,hs,ls,g,aw,last,prev,hF⟩:=si hrow;refine TR.seq (Q1:=λ_ N=>gc λrw_ row e=>row.map (·.1)=gC (nums.map (·.1))/\N=[(L.loc,frm w.params aC kk [.ref sc] 1),(L.c1,aQ (.ref nu)),(L.c2,aQ (.ref rw_)),(L.c3,dk),(nu,oL (vI nums) 0),(rw_,oL (vI row) e)]++[(L.c4,dk),(L.c5,dk)]) ?_ ?_
 .refine TR.step [(L.c3,dk),(L.c4,dk),(L.c5,dk)] (Iv L.loc sc L.c1 L.c2 L.c3 L.c4 L.c5 nu kk nums 0 (nums.length-1) hvn (by omega) (by omega) (by omega) hni (by omega) (by omega) w) (.refl _) (Me _) (λ_=>rfl) rfl rfl λch=>⟨_,[],⟨aZ ch 5,(bh (gC (nums.map (·.1))) (ch 7)).1,(bh (gC (nums.map (·.1))) (ch 7)).2.1,cO _ _,rfl⟩,ae λy=>?_⟩
  exact(aN [_,_,_,_,_,_,_,_] [] 0x244f3412c91c50c1 0x20423cd04b2474450c1:)
 rintro _ N ⟨rw_,row,e,hrw,rfl⟩;rw[<-hrw]at hF hrow;have hrl:row.length=nums.length:=by
  have:=congrArg List.length hrw;rw[nI,Mc,Mc]at this;exact this
 have hok:∀p∈row,fD p.1:=eT hF.ok;refine TR.seq (Q1:=λ_ N=>gc λpc ps np=>ps.map (·.1)=ny (nums.map (·.1)) (row.map (·.1))/\N=[(L.loc,frm w.params aC kk [.ref sc] 1),(L.c2,aQ (.ref rw_)),(L.c3,aQ (.ref pc)),(rw_,oL (vI row) e),(pc,oL (vT ps) np)]++[(L.c4,dk),(L.c5,dk)]) ?_ ?_
 .refine TR.step [(L.c4,dk),(L.c5,dk)] (Iw L.loc sc L.c1 L.c2 L.c3 L.c4 L.c5 nu rw_ kk nums row 0 e (nums.length-1) hvn (by omega) (by omega) (by omega) hni (by omega) (by omega) hrl hok w) (.refl _) (Me _) (λ_=>rfl) rfl rfl λch=>⟨_,[(L.c1,aQ (.ref nu)),(nu,oL (vI nums) 0)],⟨aZ ch 5,(bh (ny (nums.map (·.1)) (row.map (·.1))) (ch 7)).1,(bh (ny (nums.map (·.1)) (row.map (·.1))) (ch 7)).2.1,cO _ _,rfl⟩,ae λy=>?_⟩
  exact(aN [_,_,_,_,_,_,_,_,_] [] 0x934413cd2c91c50c1 0x8d1c10934413cb2450c1:)
 rintro _ N ⟨pc,ps,np,hps,rfl⟩;have hpc:∀y∈row.map (·.1),∃p,(ps.map (·.1))[(bT y).toNat]?=some (kz p y):=by
  rw[hps];exact r8 _ _ hrw
 obtain⟨rest0,hh⟩:=hF.head;obtain⟨t,rest,hrr⟩:et λt rest=>row=(x,t)::rest:=by
  cases row with
  |nil=>cases hh
  |cons a rest=>
   injection hh with h1 h2;exact⟨a.2,rest,by rw[<-h1]⟩
 have hpi:∀p∈row,fD p.1/\jT ps p.1:=eT (f:=λy=>fD y/\jT ps y) λy hy=>⟨hF.ok y hy,by
  obtain⟨p,hp⟩:=hpc y hy;rw[Mf]at hp;obtain⟨q,hq1,hq2⟩:=MW.mp hp;exact⟨q,p,hq1,hq2⟩⟩
 refine TR.seq (Q1:=λ_ N=>F1 λkk2 so sd n0 k gt t1 t2 ne ns=>aO ns=g/\N=[(L.loc,frm w.params aC kk2 [.ref sc,.ref so,.str (T (bn hs)) gt] 3),(so,oI 484 sd),(sd,aD w.params sN k [.ref (n0+ab),.none,.int 0 t1,.int 0 t2] 4),(n0+ab,oD (eS w.params (ac ns)) ne)]++(ag ns++[(L.c2,aQ (.ref rw_)),(L.c3,aQ (.ref pc)),(rw_,oL (vI row) e),(pc,oL (vT ps) np),(L.c4,dk),(L.c5,dk)])) ?_ ?_
 .refine TR.step [(L.c4,dk),(L.c5,dk)] (Ix L.loc sc L.c1 L.c2 L.c3 L.c4 L.c5 rw_ pc kk row e np ps hs g ls x t rest hrr hF.x1 hpi hF.run w) (.refl _) (Me _) (λ_=>rfl) rfl rfl λch=>⟨_,[],⟨kx kk 1 [nZ ch 5,nZ ch 6],(ch 0).n 9+ab,(ch 0).n 1+ab,(ch 0).n 6,kl [(ch 0).n 2,(ch 0).n 3,(ch 0).n 4,(ch 0).n 5],(d4 g (ch 0)).2.2.1,(ch 0).n 7,(ch 0).n 8,(d4 g (ch 0)).2.1,(d4 g (ch 0)).1,tG g _,rfl⟩,ae λy=>?_⟩
  exact(aN [_,_,_,_,_,_,_,_,_,_] [_] 0x25530420811113cd2c91c50c1 0x204208f34b2554c11111470c1:)
 rintro _ N ⟨kk2,so,sd,n0,k,gt,t1,t2,ne,ns,hns,rfl⟩;have hnl2:ns.length=g.length:=by rw[<-hns,pE]
 have hg1:=hF.g1;have hg2:=hF.g2;have hfc:dO (fA ns) 400 (ns.map (·.nm)) []=some aw:=by
  rw[Dn,wB,hns];exact hF.fc
 refine TR.seq (Q1:=λ_ N=>et λrl fs=>N=[(L.loc,au w.params aC kk2 [.ref sc,.ref so,.str (T (bn hs)) gt] 3 fs),(L.c2,aQ (.ref rw_))]++([(so,oI 484 sd),(sd,aD w.params sN k [.ref (n0+ab),.ref (rl+ab),.int 0 t1,.int 0 t2] 4),(n0+ab,oD (eS w.params (ac ns)) ne),(rl+ab,oL (vT (aW ns)) (aW ns).length)]++(ag ns++[(L.c3,aQ (.ref pc)),(rw_,oL (vI row) e),(pc,oL (vT ps) np),(L.c4,dk),(L.c5,dk)]))) ?_ ?_
 .refine TR.step [(L.c2,aQ (.ref rw_)),(L.c3,aQ (.ref pc)),(rw_,oL (vI row) e),(pc,oL (vT ps) np),(L.c4,dk),(L.c5,dk)] (Iy L.loc sc L.c1 L.c2 L.c3 L.c4 L.c5 so sd n0 kk2 k (.str (T (bn hs)) gt) (.int 0 t1) (.int 0 t2) ne 400 ns aw (by unfold ac;rw[Mc];omega) (by omega) (by omega) hfc (Me _) w) (ae λy=>?_) (Me _) (λ_=>rfl) rfl rfl λch=>⟨_,[],⟨nZ ch 0,(gU (ch 0)).2.2.2.2.2.2.2,rfl⟩,ae λy=>?_⟩
  .exact(aN [_,_,_,_,_,_,_,_,_,_] [_] 0x20954d13cd2c11091c50c1 0x255344f34b0420811091c50c1:)
  .have e1:∀s,ax (frm w.params aC kk2 [.ref sc,.ref so,.str (T (bn hs)) gt] 3) s=au w.params aC kk2 [.ref sc,.ref so,.str (T (bn hs)) gt] 3 s:=λ_=>rfl
   (simp only[e1,aZ,nZ];exact(aN [_,_,_,_,_,_,_,_,_,_,_] [_] 0x9755344f3410820442c91c50c1 0x810820954d13cd04424714304b5c1:))
 rintro _ N ⟨rl,fs,rfl⟩;refine TR.seq (Q1:=λ_ N=>et λkk3 stg=>N=wM w.params L ⟨sc,so,stg,sd,n0,rl,.str (T (bn hs)) gt,fs,k⟩ [(L.c3,aQ (.ref pc)),(pc,oL (vT ps) np)] ⟨au w.params aC kk3 [.ref sc,.ref so,.str (T (bn hs)) gt,.ref stg] 4 fs,dk,dk,0,0,t1,t2,ne,(aW ns).length,0,ns,aW ns,[(rw_,row,e)]⟩) ?_ ?_
 .refine TR.step _ (Iz L.loc sc L.c1 L.c2 L.c3 L.c4 L.c5 so rw_ kk2 (.str (T (bn hs)) gt) fs w) (.refl _) (Me _) (λ_=>rfl) rfl rfl λch=>⟨_,[(L.c2,aQ (.ref rw_))],⟨kx kk2 3 [nZ ch 1],aZ ch 0,rfl⟩,ae λy=>?_⟩
  (simp only[wM,show ∀s:SG,fU [s]=[.ref s.1]from λ_=>rfl,show ∀s:SG,dY [s]=[nL s]from λ_=>rfl,nL];exact(aN [_,_,_,_,_,_,_,_,_,_,_,_] [_] 0x208265755344110f34b2411c50c1 0x21410820995411170474d13cd2c90c1:))
 rintro _ N ⟨kk3,stg,rfl⟩;exact EF w L sc so sd n0 rl stg rw_ pc kk3 k fs gt t1 t2 ne _ e 0 np ns row ps x hs ls g aw last prev hF hns hpc
end
end
noncomputable def Ex(sc:Addr)(w:World):=
 aq mT 20 (λP=>PySem.W.Fast.tw9782568553167038054 yX ⟨[.ref sc],[]⟩) (λP=>[]) (λP=>[])
 0 (λw=>[]) [] [] (λP ch=>.ok [((T [115,99,114,105,112,116]),(.ref sc))]) (λP ch=>[]) (λP ch=>[]) w
noncomputable def EA(sc:Addr)(w:World):=
 aq mT 20 (λP=>PySem.W.Fast.tw11113344188204177931 yX.scope yX.globals yX.closure [(T [115,99,114,105,112,116],.ref sc)] (yX.qualname++".<locals>.") (some 517) yX.code none yX.builtins) (λP=>[]) (λP=>[])
 325 (λw=>[]) [0,1,2,3,4,5] [] (λP ch=>.ok (br (bF (aZ ch 1) (aZ ch 2) (aZ ch 3) (aZ ch 4) (aZ ch 5)) (aZ ch 0))) (λP ch=>[(aZ ch 0,frm P aC (kl [nZ ch 6]) [.ref sc] 1),(aZ ch 1,dk),(aZ ch 2,dk),(aZ ch 3,dk),(aZ ch 4,dk),(aZ ch 5,dk)]) (λP ch=>[]) w
theorem uw(w:World)(sc:Addr)(vs:List (Int×Tok))(n:Nat)(hv:vs.length<=100):
  ak w ⟨true,some []⟩ 181 (.call (.ref 517) ⟨[.ref sc],[]⟩) [(sc,oL (vI vs) n)] λr N=>r=.ok (.ret (.bool true))/\∃N',N=N'++[(sc,oL (vI vs) n)]:=by
 refine ak.enter wT (Q1:=λb N=>b=[((T [115,99,114,105,112,116]),(.ref sc))]/\N=[(sc,oL (vI vs) n)]) (Q2:=λenv N=>et λ(L:LA) (kk:Nat->Tok)=>env=L.E/\N=[(sc,oL (vI vs) n),(L.loc,frm w.params aC kk [.ref sc] 1),(L.c1,dk),(L.c2,dk),(L.c3,dk),(L.c4,dk),(L.c5,dk)]) ?_ ?_ ?_
 .exact TR.step [(sc,oL (vI vs) n)] (Ex sc w) (.refl _) (by decide) (λ_=>rfl) rfl rfl λch=>⟨_,[],⟨rfl,rfl⟩,pN⟩
 .rintro b N ⟨rfl,rfl⟩;refine TR.step [(sc,oL (vI vs) n)] (EA sc w) (.refl _) (by decide) (λ_=>rfl) rfl rfl λch=>⟨_,[],⟨⟨aZ ch 0,aZ ch 1,aZ ch 2,aZ ch 3,aZ ch 4,aZ ch 5⟩,kl [nZ ch 6],rfl,rfl⟩,?_⟩
  rw[Mq];exact Mz (l₂:=[(sc,oL (vI vs) n)])
 .rintro env N ⟨L,kk,rfl,rfl⟩;exact xF w L sc kk vs n hv
noncomputable abbrev zi:Str:=PySem.Str.ofString "law"
noncomputable def ze(P:Params):Option Value:=match dM P mainGlobals with
 |some o=>(match o.data with |.dict es _=>nsFind es zi |_=>none)
 |none=>none
theorem uo(P:Params):ze P=some (.ref 517):=by kernel_rfl
theorem rJ{w:World}{h:Heap}{mg:Str->Option Value}(G:Gr w h)(hn:h.Ns mainGlobals mg):mg zi=some (.ref 517):=by
 rw[Heap.Ns.eq_nsMap hn];have e:=uo w.params;unfold ze at e;unfold Heap.nsMap;cases ht:dM w.params mainGlobals with
 |none=>rw[ht]at e;cases e
 |some o=>
  rw[ht]at e;rw[dB G ht];exact e
theorem p6{R:WRecords}:∀{xs:List WData} {P:Params} {h:Heap} {vs:List Value},WShape.hasItems R xs .int=true->WellAll P h vs xs->∃l:List (Int×Tok),vs=vI l/\l.length=xs.length
 |[],P,h,vs,hx,hw=>by
  cases hw;exact⟨[],rfl,rfl⟩
 |x::xs,P,h,vs,hx,hw=>by
  unfold WShape.hasItems at hx;obtain⟨h1,h2⟩:=Mr.mp hx;cases hw with
  |cons a b=>
   obtain⟨l,e1,e2⟩:=p6 h2 b;cases a with
   |int i t=>exact⟨(i,t)::l,by rw[e1];rfl,by rw[Mg,Mg,e2]⟩
   |_=>exact Bool.noConfusion (show false=true from h1)
theorem uM(p:Program)(P:Params):(bZ p P).length=518:=by kernel_rfl
theorem B3{p:Program}{P:Params}{b:Addr}{o:Obj}(h:(KH p P).lookup b=some o):b<518:=by
 rw[je]at h;have h2:=(fm _ _ _ _ h).2;have:=(Mj.mp h2).1;rw[uM]at this;omega
theorem u7{args:List WData}(h:PySem.Challenge.rw_ik0244_01.row.toRowW.claim.pre args=true):∃xs,args=[.list xs]/\WShape.hasItems [] xs .int=true/\xs.length<=63:=by
 obtain⟨h1,h2⟩:=Mr.mp h;have h1:WShape.hasAll [] args [.list .int]=true:=h1
 match args,h1,h2 with
 |[],h1,_=>exact absurd h1 (by simp[WShape.hasAll])
 |_::_::_,h1,_=>exact absurd h1 (by simp[WShape.hasAll])
 |[x],h1,h2=>
  simp only[WShape.hasAll,MF]at h1;have h1:=h1.1;cases x with
  |list xs=>
   have h1:=show(WShape.hasItems [] xs .int||false)=true from h1;rw[Bool.or_false]at h1;refine⟨xs,rfl,h1,?_⟩;have h2:(WTm.holds [] (.and (.not (.lt (.lit (.int 63)) (.len (.arg 0)))) (.lit (.bool true))) {args:=[.list xs]})=true:=h2;cases hd:decide ((63:Int)<(xs.length:Int))with
   |false=>have:=of_decide_eq_false hd;omega
   |true=>exact absurd h2 (by simp[WTm.holds,WTm.value,less?,Num.less?,of_decide_eq_true hd])
  |_=>exact Bool.noConfusion (show false=true from h1)
theorem walk(d:DefRec)(kwd:List (PySem.Str×Expr))(hdef:defOf (zm pw) (PySem.Str.ofString "law")=some (d,kwd)):WalkX (zm pw) ig (λ_ _=>True) (BM pw).obs (BM pw).val PySem.Challenge.rw_ik0244_01.row.toRowW d kwd λf vs=>PySem.call f vs:=by
 intro w N9 MQ mg mb G Y a o pm cd doc dV kV ha hd hcd hdf hmg hgens args vals as L hpre hlay hrd hwell hsys;have hob:N9.heap.objs=Array.mk (bZ pw w.params):=Y;have htop:(KH pw w.params).In N9.heap:=yB pw w.params N9.heap hob;have htop1:(KH pw w.params).In MQ.heap:=Frag.In.keeps htop L.keeps;have hsz:N9.heap.objs.size=518:=by
  rw[hob];exact uM pw w.params
 have hga:a=517:=by
  have e:=rJ (w:=w) ⟨htop1⟩ G.T.g;rw[defOf_name hdef]at hmg;rw[e]at hmg;injection hmg with h;injection h with h;exact h.symm
 subst hga;obtain⟨xs,rfl,hx,hl⟩:=u7 hpre;cases hwell with
 |cons hw1 hw2=>
  cases hw2;cases hw1 with
  |list hg hw=>
   rename_i sc vs;obtain⟨l,rfl,hll⟩:=p6 hx hw;have hmem:sc∈as:=by
    cases hrd with
    |cons h1 h2=>
     cases h1 with
     |list _ _ _ _=>exact MI _ (.head _)
   have hsc:518<=sc:=by
    have:=(L.within.2.2 sc hmem).1;rw[hsz]at this;exact this
   have hne:∀b o,(KH pw w.params).lookup b=some o->b∉[sc]:=λb o hb hm=>by
    rw[MR]at hm;subst hm;exact absurd (B3 hb) (Nat.not_lt.mpr hsc)
   have G':Gr w (hideAll MQ.heap [sc]):=⟨λb o hb=>Ql _ (htop1 b o hb) (hne b o hb)⟩;have C:am (hideAll MQ.heap [sc]) MQ.os [(sc,oL (vI l) 0)] MQ:=⟨λb o e=>of_hideAll _ e,λp hp=>by
    rw[MR]at hp;subst hp;exact⟨hg,hideAll_none _ (.head _)⟩,by simp,hgens,rfl⟩
   have hroom:b0 ⟨true,some []⟩ 181 callerA:=⟨by decide,by decide,λ_=>rfl,λl hl=>by cases hl;rfl⟩;refine wpAny_call (uw w sc l 0 (by omega) _ MQ.os G' callerA MQ _ hroom C ?_);rintro r N s' ⟨rfl,N',rfl⟩ C';refine⟨.inl ⟨_,.bool true,[],rfl,λ_=>rfl,ReadsW.bool true,?_,λ_=>⟨PJ,λ_ hm=>(nomatch hm)⟩⟩,?_,C'.os,AllBare.of_eq C'.gens⟩
   .show(WShape.has [] (.bool true) .bool&&WTm.holds [] (.eq .res (.lit (.bool true))) {args:=[.list xs],res:=some (.bool true),after:=[.list xs]})=true;exact Mr.mpr ⟨rfl,by simp[WTm.holds,WTm.value,same]⟩
   .refine OldK.of_keep λb ob hb=>?_
    by_cases e:b=sc
    .subst e;rw[hg]at hb;cases hb;exact(C'.own (b,oL (vI l) 0) (MH _ (.head _))).1
    .exact C'.keep b ob (Ql _ hb (by simpa using e))
theorem rO{a a':Bool}{b b':List PySem.Str}{l:List Stmt}(h1:a=a')(h2:b=b')(h:PySem.W.Fast.tw8326940854005059898 {strict:=a',foot:=none,bare:=b'} l=true):PySem.W.Fast.tw8326940854005059898 {strict:=a,foot:=none,bare:=b} l=true:=by rw[h1,h2];exact h
theorem LX:R.filterR (PySem.W.Fast.tw13343964577679436407 (PySem.W.Fast.tw2368527892694137696 (rG pT)).prog (PySem.W.Fast.tw2368527892694137696 (rG pT)).prog.main.body) [⟨⟨[118,97,114,115]⟩⟩,⟨⟨[100,105,114]⟩⟩,⟨⟨[108,111,99,97,108,115]⟩⟩]=[]:=by kernel_rfl
theorem L4:PySem.W.Fast.tw8326940854005059898 {strict:=false,foot:=none,bare:=[]} (PySem.W.Fast.tw2368527892694137696 (rG pT)).prog.main.body=true:=by kernel_rfl
theorem LY:PySem.W.Fast.tw8377067652309620493 (PySem.W.Fast.tw2368527892694137696 (rG pT)).prog=true:=by kernel_rfl
theorem L0:PySem.W.Fast.tw17119622794617984870 (PySem.W.Fast.tw2368527892694137696 (rG pT)).prog (PySem.W.Fast.tw2368527892694137696 (rG pT)).prog.main.body (λ_ n=>PySem.W.Fast.tw17868728402115742887 n)=true:=by kernel_rfl
theorem E7:PySem.W.Fast.tw2436336058641802641 (PySem.W.Fast.tw2368527892694137696 (rG pT))=true:=by
 delta PySem.W.Fast.tw2436336058641802641
 iterate 12 refine NR ?_ (by kernel_rfl)
 refine NR ?_ rfl;delta PySem.W.Fast.tw12908688711261696721;exact NR (NR (NR (NR (by kernel_rfl) LY) (by kernel_rfl)) (rO (by kernel_rfl) LX L4)) L0
theorem E6:PySem.W.Fast.tw9446332074065402090 (rG pT)=true:=by
 delta PySem.W.Fast.tw9446332074065402090
 iterate 18 refine NR ?_ (by kernel_rfl)
 delta PySem.W.Fast.tw17960256430627541270
 iterate 2 refine NR ?_ (by kernel_rfl)
 exact E7
theorem DY(call:∀(d:DefRec) (kwd:List (PySem.Str×Expr)),defOf (zm pT) (PySem.Str.ofString "law")=some (d,kwd)->WalkX (zm pT) ig (λ_ _=>True) (BM pT).obs (BM pT).val (rG pT).row.toRowW d kwd λf vs=>PySem.call f vs):(rG pT).Holds:=by
 refine holds_law (l:=rG pT) ((congrFun PySem.W.Fast.te9446332074065402090 (rG pT)).trans E6) λsaid=>?_
 refine holds_openX (r:=(rG pT).row) (q:=zm pT) (loose:=ig) (Xt:=Jl) (XP:=λ_ _=>True) (N:=5000) AD (λ_ _=>trivial) (λ_ _ _ _ _=>trivial) rfl (by rfl) (by rfl) (λs _=>recFacts_of (R:=[]) rfl) rfl (by assumption) (by decide+kernel) ⟨rfl,rfl,rfl,rfl,rfl,by decide+kernel⟩ ?hw (call _ _ rfl);exact⟨[.list [.int 3,.int 1]],by decide+kernel,by decide+kernel⟩
theorem done:PySem.Challenge.rw_ik0244_01.Holds:=by
 rw[zo];refine DY λd kwd h=>?_
 have:=walk d kwd (by rw[qJ];exact h);rw[qJ,zo]at this;exact this
end
end Mine
theorem PySem.Challenge.cw_ik0244_01_holds : PySem.Challenge.rw_ik0244_01.Holds :=
  Mine.done
