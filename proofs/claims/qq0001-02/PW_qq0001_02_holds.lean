import PyProof.Rows.All
import Wide.All
import Open.Line
import Open.Boot
import Open.Tree
import OpenK.KList
import OpenK.KMeth
import OpenK.KCell
import OpenK.KDict
import KE.KLam
import KE.KPar
import PyProof.DelItemList
import PyProof.RulesDel
import PyProof.RulesDelMore
import KE.KSortTup
import Lean
import PySem.Challenge.RW_qq0001_02
open Option renaming some->M,none->U
open Bool renaming true->O,false->Z
open PySem renaming wpAny_bind->aN,Value->aS,Str->aP,Addr->aY,wpAny_pure->bw,Obj->bC,Shared->bL,Expr->cj,DictEntry->eQ,Scope->fh,Heap->fL,Sem->hU,Pos->iA,rawInt->iw,Params->jq,Stmt->ju,wpAny_mono->jC,wpAny_holding->jU,sizeLine_eq->kq,Env->kP,mainGlobals->lJ,wpAny_call_entry->oo,compareOp->ox,cellsFrom->pj,Tok->pv,wpAny_rule->qe,World->qg,clipAt->qF,codeAny->ry,Around->sA,wpAny_execs_cons->ub,wpAny_field->uc,starEach->ud,Flow->ue,wpAny_newObj_type->vC,wpAny_dictEpoch->vF,pyIter->vH,wpAny_standAt->xd,sysModules->xh,binaryOp->xi,NameKind->xj,backTo->xk,wpAny_callSpecial?_slot->yl,evalPart_none_step->yp,wpAny_dictEntries->yq,wpAny_specialOf->yt,sizeLine->yx,getItem->yz,getMethod_builtin->AN,wpAny_execs_nil->AP,Operator->AY,pyNext->AZ,wpAny_truthy_bool->CZ,wpAny_items_cons->C3,wpAny_items_nil->C6,bootBuiltins->C8,seqIndex?->Dd,intKind->Dj,dictGet->Dk,OsState->Dm,Result->Dq,slot_dict_getitem->Gg,letOwnedTupleGo->JB,wpAny_setField->Gk,treeTable->Gs,getAttr->Gy,wpAny_setField_rec->Jt,wpAny_sequenceKey->Jw,wpAny_Try_except->Jy,placesWithHash->JD,wpAny_typeOf->JJ,assignEach->JL,eqIsQuiet->JO,Arguments->JP,compPost->JQ,standAt->JT,setItem->JU,dictSet->JV,truthy->JW,stored->JX,isTrue->JY,assign->JZ,PyData->J1,wpAny_notOrdered_dict->PQ,slot_list_getitem->Qa,wpAny_isInstance->Qf,wpAny_forIn_list->Qg,wpAny_seqItems->Qk,codeAny_mono->Qn,wpAny_letGo->Qs,wpAny_Slice->Qt,swapsWith->Qx,evalEach->QB,contains->QC,callWith->QD,FuncData->QH,Program->QK,plainObj_wpAny_Assign_Attribute->Zj,wpAny_typeNameOfWhole_itemiter->Zk,wpAny_typeNameOfWhole_keyiter->Zm,wpAny_isOneOf_itemiter->ZA,wpAny_isTrue_Compare1->ZE,wpAny_letTemporaryGo->ZJ,plainExc_IndexError->ZN,wpAny_missed_other->ZW,slot_dict_contains->ZX,evalPart_some_step->ZY,wpAny_pyIter_list->Z6,foldedSetIterable->Z7,wpAny_updateSeq->aad,wpAny_ite_split->aae,codeAny_builtin->aaf,wpAny_listPart->aaj,wpAny_Expr_any->aak,IsItemIterOut->aap,ExceptHandler->aaq,wpAny_of_eq->aat,subscripted->aau,wpAny_call->aav,wpAny_Name->aaw,IsItemIter->aay,codeAmong->aaz,newTuple->aaA,bindArgs->aaB,ReadsAll->aaC,wpAny_pyNext_list_item->aoz,wpAny_Assign_Subscript->aoA,wpAny_pyNext_list_end->aoI,wpAny_pyIter_listiter->aoJ,wpAny_isOneOf_keyiter->aoK,getitemInPython_of_ne->aoL,wpAny_setFlight_none->aoP,wpAny_newFunctionEnv->aoQ,wpAny_Constant_none->ao1,wpAny_pyIter_tuple->ao7,wpAny_getItem_list->ao8,wpAny_Constant_str->ao9,entry_dict_getitem->ao',wpAny_pyIter_slot->ape,wpAny_assign_Name->apf,wpAny_Return_some->apg,wpAny_Assign_Name->aph,slot_list_setitem->api,slot_dict_setitem->apj,args_dict_getitem->apk,call->aps,wpAny_operating->apB,importedModules->apC,wpAny_runValue->apK,wpAny_newTuple->apL,wpAny_fieldsOf->apM,methodCallForm->apN,letTemporaryGo->apO,carriedByValue->apP
open Nat renaming le_trans->aV,lt_of_le_of_lt->bM,le_refl->b8,zero_le->b7,lt_irrefl->dq,lt_of_lt_of_le->dJ,le_of_lt->dK,beq->dM,ne_of_gt->fQ,succ_pos->fY,add_le_add_left->gu,le_of_eq->gy,ne_of_lt->gZ,le_of_lt_succ->hO,not_lt->iP,lt_succ_self->i7,le_of_ble_eq_true->jo,lt_trans->jV,le_succ_of_le->jZ,succ_le_succ->j3,le_succ->l7,le_add_right->mI,not_lt_zero->nC,mul_le_mul_left->o9,one_pos->pd,add_le_add_right->pW,lt_succ_of_le->pX,le_antisymm->pY,succ_ne_zero->qD,le_of_succ_le->rh,add_le_add->ri,add_assoc->rj,zero_add->ro,mul_succ->rq,mod_lt->qd,blt->rx,lt_succ_of_lt->sr,add_comm->sx,lt_of_le_of_ne->t7,succ_lt_succ->vE,add_right_comm->w9,min_eq_left->xc,sub_lt->xg,lt_succ_iff_lt_or_eq->yk,pos_of_ne_zero->yo,beq_refl->AU,two_pos->AV,sub_le->AX,ble->Di,add_sub_cancel'->CV,le_add_left->Gj,sub_add_cancel->Gf,not_le->Gp,succ->Gv,rec->JR,not_succ_le_self->Jl,lt_of_lt_of_eq->Jr,sub_self->JF,succ_add_eq_add_succ->PK,succ_pred_eq_of_pos->PM,add_sub_cancel->PU,lt_trichotomy->PV,lt_of_succ_lt->PW,min_le_left->Qe,lt_one_iff->Qi,max_le->Qr,lt_of_succ_lt_succ->Zv,le_sub_one_of_lt->ZB,sub_lt_sub_left->ZF,lt_or_eq_of_le->ZL,succ_le_of_lt->ZP,lt_of_succ_le->ZQ,succ_ne_self->Z3,not_lt_of_le->aoT,one_ne_zero->Z8,succ_add->aal,lt_asymm->aam,lt_add_of_pos_right->an7,add_sub_cancel_left->an8,lt_sub_iff_add_lt'->aob,sub_le_iff_le_add->aoi,sub_eq_zero_of_le->aoj,eq_of_beq_eq_true->aok,eq_sub_of_add_eq->aop,zero_lt_of_lt->aoN,zero_lt_succ->aoS,min_le_right->aoU,le_max_right->aoV,le_max_left->ao5,succ_sub->apu,sub_zero->apv,mul_two->apI
open List renaming length_map->bc,mem_singleton->bK,range->bQ,mem_map->bX,getElem?_eq_some_iff->cG,mem_of_getElem?->cO,mem_cons->cU,mem_append->cZ,map_append->dF,mem_append_right->dI,mem_append_left->dU,length_append->dY,map_map->fC,length_range->fP,contains_iff_mem->gj,mem_map_of_mem->gW,getElem?_map->gX,nodup_nil->gY,take_length->iu,getElem?_eq_getElem->iO,nodup_cons->iY,append_nil->i8,getElem?_eq_none_iff->jj,mem_range->j4,forall_mem_cons->lH,all_eq_true->lI,mem_filter->lZ,map_cons->l6,getElem?_range->ny,rec->rv,length_take_le'->q7,size_toArray->q8,append_assoc->q9,getElem?_of_mem->sj,lookup_cons->su,nodup_append->t8,getElem?_inj->ua,mem_filterMap->vA,length_cons->vD,pairwise_map->xa,length_take->xb,getElem?_append_left->AI,take_of_length_le->AJ,getElem?_toArray->AK,nodup_range->AO,map_take->AR,mem_zipIdx_iff_getElem?->CM,getElem?_append_right->CN,getD_eq_getElem?_getD->CO,length_filterMap_le->CT,range_succ->C4,mem_of_mem_take->Gd,not_mem_nil->Gh,length_drop->Gi,map_drop->Gl,filterMap_eq_map->Jg,filterMap_append->Jh,getElem?_mapIdx->Jk,map_congr_left->Jm,filter_sublist->Jn,filterMap_cons->Jo,lookup_append->Jp,findIdx?_cons->Jq,ext_getElem?->Js,getElem_mem->Jv,take_zero->JA,length->JI,length_eq_zero_iff->PL,take_append_drop->PN,length_zipIdx->PR,getElem?_drop->PT,map_fst_zip->PZ,map->Qw,findIdx?_eq_some_iff_getElem->Zh,getElem?_cons_succ->Zq,range_succ_eq_map->Zu,mem_of_mem_drop->Zz,length_pos_iff->ZD,length_mapIdx->ZG,getElem?_take->ZH,filterMap_map->ZI,foldl_append->ZM,mem_flatMap->ZS,filter_cons->ZT,cons_ne_nil->ZU,any_eq_true->ZV,length_nil->Z5,replicate->aaa,toArray->aai,eraseIdx_eq_take_drop_succ->anG,take_append_of_le_length->anH,eq_nil_of_length_eq_zero->anI,perm_ext_iff_of_nodup->anP,mem_of_find?_eq_some->anR,getElem?_zip_eq_some->anS,filterMap_eq_nil_iff->anT,length_erase_of_mem->anZ,pairwise_singleton->an1,lookup_eq_some_iff->an2,lookup_eq_none_iff->an3,length_pos_of_mem->an9,find?_cons_of_pos->an',mem_of_mem_head?->aoc,length_filter_le->aod,getElem?_eq_none->aoe,mem_erase_of_ne->aol,mem_cons_of_mem->aom,flatMap_append->aoq,zipIdx_append->aos,mem_cons_self->aot,map_singleton->aou,getElem?_tail->aov,filter_append->aow,take_sublist->aoC,any_eq_false->aoD,append_cons->aoO,length_set->aoW,forIn_cons->aoX,foldl_cons->aoY,find?_some->aoZ,find?_cons->ao0,drop_zero->ao6,map_set->apo,Sublist->apq,not_lt->apw,cons->apT
open Option.some renaming inj->bF
open PySem.Str renaming ofString->bH,empty->dC
open Bool renaming noConfusion->b9,and_eq_true_iff->dS,false_ne_true->dZ,eq_false_iff->nz,or_eq_true_iff->yn,false_xor->AQ,false_eq_true->CX,not_true->C7,true_xor->Gm,eq_iff_iff->Qb,decide_and->Qc,and_true->Qj,or_false->apc,false_or->apd,not_inj->apr
open Prod.mk renaming inj->cP
open Exists renaming elim->cQ,imp->aaW
open List.cons renaming inj->d6
open PySem.Heap renaming get?_push_of_some->eG,lt_size->eJ,get?_push_size->jY,SameBut->qa,get?_update_self->tX,get?_update_other->Gb,ExtBut->Gn,get?_none_of_le->PO,get?_update_ne->ZC,NewExc->apt
open PySem.W renaming dictOf->iZ,Frag->jr,hideAll->qE,findIn->Dp,hideAll_get->C9,boot_heap->De,instObj->Dl,kas_place->Gu,keepIn->J0,hideAll_size->Qo,hideAll_none->Qp,of_hideAll->Qv,specialIn->aaS,topFrame->QG,layAllW->QI,keeps_K->QJ,behindTheImports->aab
open Int renaming ofNat_lt->jB,natCast_nonneg->jR,ofNat_le->qb,not_lt->vG,le_trans->yu,lt_of_le_of_lt->AM,not_le->Gr,le_of_lt->JG,toNat_natCast->PY,le_refl->Qm,min_eq_left->Z9,lt_trans->aan,lt_succ->aas,fmod_eq_emod_of_nonneg->anU,neg_neg_of_pos->aoE,lt_of_lt_of_le->aoF,neg_le_neg->apb,zero_add->apx,ne_of_gt->apy,add_zero->apz,add_comm->apA,negSucc->apJ
open Int.ofNat renaming inj->jT
open PyProof.Rows renaming seqObj->kO,News->vJ,isSubtype_of_subB->yr,Subscript_->Dc,envOfC->Dr,IntsAre->Gz,subscriptTail->Ql,StrsAre->QL,listUpdate_at->aar,failedOf->aaD,getItem_tuple->anC,get?_update_seq->apH,joinParts_cons->apS,sub_int->aqG,notIn_str->aqH,neg_int->aqI,mod_int->aqJ,lt_str->aqK,lt_int->aqL,list_addW->aqM,len_tuple->aqN,len_str->aqO,isub_int->aqP,in_str->aqQ,iadd_int->aqR,gt_int->aqS,ge_int->aqT,floordiv_int->aqU,add_int->aqV
open PySem.Value renaming ref->mJ,none->pe,type->xf,ctorIdx->aac,str->apE
open Nat.succ renaming inj->pb
open PySem.PyData renaming strOk->pZ,list->xe,eqv->AW,eqvAll->JC,depthAll->ZR,keyHash->Z4,canLayAll0->aoo,depth->ao2,int->apn
open PySem.Obj renaming mapSeq->qc,data_mapFields->CY,data->Df,isFreed_of_fields->Ji,mapFields->JE,cls->Qz,cls_mapFields->ZO,mapDictKeys->ao3,mapDict->apG
open Prod renaming fst->qf,ext->ru,snd->JN
open Option renaming rec->yw,isSome_iff_exists->CR,bind_eq_some_iff->CU,map_eq_some_iff->Ga,map->Go,not_isSome_iff_eq_none->Je,getD->JH,none_or->Qd,isSome->Qh,ne_none_iff_exists'->anJ,some_or->aoM
open Array renaming getElem?_toList->si,length_toList->AL,getElem?_eq_getElem->Zn,perm_iff_toList_perm->PI,getD_eq_getD_getElem?->Zl,getElem?_eq_none->aaZ,mem_toList_iff->Zy,all_eq_true_iff_forall_mem->anE,getElem?_eq_some_iff->anM,toList_extract->aof,getElem_toList->aog,toList_append->aon,empty_append->aor,toList_push->aox,all_eq_true->aoy,toList_inj->aoG,any_toList->aoH
open PySem.Heap.SameBut renaming update->tY,refl->aqx
open PySem.Challenge renaming rw_qq0001_02->w8
open Decidable renaming byContradiction->AH,not_not->Ge
open PySem.Builtin.Dict_items renaming ownsTuple->CL,ownedTupleFields->anv,pairFromOwner->anw,newIterator->aqh,dictOf->aqi
open Ne renaming symm->Gw
open PySem.F renaming slot_tuple_getitem->Jf,plainAttrs_list->Zo,plainAttrs_dict->Zp,slot_dict_get->Zr,slot_list_insert->anK,slot_dict_values->anL,slot_dict_items->anN,entry_dict_get->anQ,sub_dict_dict->anV,slot_list_pop->anW,slot_dict_len->anY,slot_dict_ne->an0
open PySem.Heap.IsSliceOf renaming new->Jj
open ForInStep renaming yield->Ju
open PySem.W.KasT renaming kasWp_bind->Jx
open PySem.NameKind renaming cell->Jz,free->aoB
open Classical renaming epsilon_spec->JK,epsilon->JM,byContradiction->Zt
open PySem.Builtin.SmallTypes renaming nextOf->PH,calledThroughType->anu,newClass->anx,ownedTupleFields->aqf,newRecord->aqg
open PySem.Builtin.Dict renaming showsAll->PJ,samePairs->aqC,noArgs->aqD,dictSlotNone->aqE,dictSlotArgs->aqF
open False renaming elim->Qq
open PySem.Flow renaming next->Qu,ctorIdx->aag
open Eq renaming subst->Qy
open PySem.Builtin.List renaming listSubscript?->Zi,listLengthHint->anz,listExtendWith->anA,listFitsIndex->anB,listSameRef->anF,listUpdate->aqA,listItems->aqB
open PySem.Around renaming under_plainId->Zw,frames_deeper->an6,deeper_units->aoa,under->ao4
open PySem.Calls renaming Name_function_global->ZK,call_function_entry->anO,loadGlobal_builtin->apa
open PySem.Value.ref renaming inj->ZZ
open PySem.Data renaming ctorIdx->aah,func->apR
open PySem.SeqAt renaming EqAt->aao,compareNe_reads->an4,compareEq_reads->an5
open PySem.Txt renaming join->aax
open PySem.Stmt.FunctionDef renaming elim->anD
open Array.Perm renaming refl->aoh
open PySem.Value.int renaming elim->aqd
open PySem.Shared renaming TypeIs->aoR
open PySem.W.RowW renaming records->apl
open PySem.W.CodeHd renaming tab->apm
open PySem.W.WData renaming int->apD
open PySem.SB renaming field_str->apF
open PySem.Env renaming kindOf->apQ
open PySem.Expr.FormattedValue renaming elim->aqe
open Std.Legacy.Range renaming size->aqj,forIn_eq_forIn_range'->aqk
open PySem.AutoListH renaming list_insert_list_int_val_1->aql
open PySem.Stmt.AugAssign renaming elim->aqm
open PySem.MeetsSeq renaming list_pop_last->aqn
open PySem.FuncBody.stmts renaming elim->aq8
open PySem.Expr.Subscript renaming elim->aqo
open PySem.Expr.JoinedStr renaming elim->aqp
open PySem.Expr.Attribute renaming elim->aqq
open PySem.Stmt.Continue renaming elim->aqr
open PySem.Stmt.ClassDef renaming elim->aqs
open PySem.Expr.ListComp renaming elim->aqt
open PySem.Expr.Constant renaming elim->aqu
open PySem.Builtin.Tuple renaming tupleItemsOf->aqv
open PySem.Builtin.Range renaming rangeSize->aqw
open PySem.Expr.UnaryOp renaming elim->aqy
open PySem.Expr.Compare renaming elim->aqz
open PySem.Stmt.Return renaming elim->aqW
open PySem.Stmt.Delete renaming elim->aqX
open PySem.Stmt.Assign renaming elim->aqY
open PySem.Stmt.Assert renaming elim->aqZ
open PySem.Expr.Lambda renaming elim->aq0
open PySem.Expr.BoolOp renaming elim->aq1
open PySem.Draws renaming list->aq2
open PySem.Data.fields renaming elim->aq9
open PySem.Builtin.Str renaming occurrences->aq3
open PySem PySem.W PyProof.Rows PySem.Calls Classical
set_option Elab.async false
set_option maxRecDepth 100000
set_option linter.all false
set_option genInjectivity false
set_option genSizeOf false
set_option genCtorIdx false
set_option tactic.hygienic false
set_option bootstrap.genMatcherCode false
noncomputable section
namespace iB.Lean
def Y{a}{b:a}:b=b:=rfl
def aq{a}{b}{x y:a}(f:a->b)(h:x=y):f x=f y:=congrArg f h
def au{c:Prop}{h:Decidable c}(k:¬c){a}{t e:a}:(ite c t e)=e:=if_neg k
def aw{c:Prop}{h:Decidable c}(k:c){a}{t e:a}:(ite c t e)=t:=if_pos k
def ax{a b:Prop}(h:a)(k:¬a):b:=absurd h k
def az{p:Prop}[Decidable p](h:p):decide p=true:=decide_eq_true h
def aA{p:Prop}[Decidable p](h:¬p):decide p=false:=decide_eq_false h
def aB{p:Prop}[Decidable p](h:decide p=true):p:=of_decide_eq_true h
def ao{p:Prop}[Decidable p](h:true=decide p):p:=of_decide_eq_true h.symm
@[elab_as_elim]theorem aj{a}{x y:a}{p:a->Prop}(e:x=y)(h:p x):p y:=e▸h
@[elab_as_elim]theorem ak{a}{x y:a}{p:a->Prop}(e:x=y)(h:p y):p x:=e▸h
def kq1:w8.wellSaid=O:=by kernel_rfl
noncomputable abbrev pr:QK:=PySem.Challenge.rw_qq0001_02.row.toRowW.1
noncomputable abbrev vS(x:String)(t:pv):aS:=.str (bH x) t
noncomputable abbrev vI(i:Int)(t:pv):aS:=.int i t
noncomputable abbrev vR(a:aY):aS:=.ref a
noncomputable abbrev vY(x:String):aS:=.type x
noncomputable abbrev vB(x:String):aS:=.builtin x
noncomputable abbrev vN:aS:=.none
noncomputable abbrev vT(b:Bool):aS:=.bool b
noncomputable abbrev tP(a:Array aS):bC:={cls:=.type "tuple",data:=.seq a}
noncomputable abbrev oF(c:aS)(a:Array aS):bC:={cls:=c,data:=.fields a}
noncomputable abbrev oS(c:aS)(a:Array (Option aS)):bC:={cls:=c,slots:=a}
noncomputable abbrev dE(P:jq)(x:String)(t:pv)(v:aS):eQ:={hash:=Z4 P (bH x),key:=.str (bH x) t,val:=v}
noncomputable abbrev oD(c:aS)(a:Array eQ)(n:Nat):bC:={cls:=c,data:=.dict a n}
noncomputable abbrev oC(c:aS)(n:String)(b m:List aS)(ns:aY)(q:String)(s:List aS)(d:Option aY)(sl:Array (Option aS)):bC:={cls:=c,dict:=d,data:=.cls {name:=bH n,bases:=b,mro:=m,ns:=ns,qualname:=bH q,subclasses:=s},slots:=sl}
noncomputable def tS(i:Nat):ju:=match pr.main.body[i]? with|some x=>x|none=>.Pass {line:=0,col:=0,endLine:=0,endCol:=0}
noncomputable def tM(i j:Nat):ju:=if h:(tS i).ctorIdx=2 then aqs (motive_2:=λa=>ju) (tS i) h (λa a a b a a a a a a a=>(b[j]?).getD (tS i))else tS i
noncomputable abbrev fS(t:pv):aS:=vS "/claim/cut.py" t
noncomputable abbrev vK:aS:=vS "ply.yacc" 194
noncomputable def yA(t:Nat):List aP->List aS
 |[]=>[]
 |x::r=>.str x t::yA (t+1) r
noncomputable def J2(n q:aP)(t u l k g:Nat)(a:Nat)(b:Bool)(v1 v2 v3:aS):bC:=oF (vY "code") #[.str n t,.str q (t+1),fS (t+2),vI l 0,vI k 0,vI 0 0,vI 0 0,vI g 0,vR a,vT b,vI 181 0,vR (a+1),vN,v1,v2,v3,vI u 0,vI l 0,fS (u+1)]
noncomputable def fB(P:jq)(m:Bool)(pre:aP)(pm:aS)(d:aS)(a t:Nat)(s:ju):List bC×Nat×eQ×List aS:=if h:s.ctorIdx=0 then anD (motive_2:=λf=>List bC×Nat×eQ×List aS) s h (λn p b f f f sc f f po=>
 let v:=(sc.names.filter λx=>x.2==.local||x.2==.cell).map (·.1)
 let c:=(sc.names.filter λx=>x.2==.cell).map (·.1)
 let u:=t+3+bif m then v.length+c.length else 0
 let e:=a+bif m then 4 else 2
 let o:=λc g d pm cd=>({cls:=c,data:=.func {name:=n,qualname:=pre++n,params:=p,body:=.stmts b,scope:=sc,globals:=g,closure:=[],defaults:=d,kwdefaults:=.none,pyModule:=pm,code:=cd}}:bC)
 ([tP #[],oF vN #[]]++(bif m then [tP (yA (t+3) v).toArray,tP (yA (t+3+v.length) c).toArray]else [])++[o vN 0 vN vN vN,J2 n (pre++n) t u po.line p.args.length 3 a O (bif m then vR (a+2)else vN) (bif m then vR (a+3)else vN) (vR e),o (vY "function") 3 d pm (vR (e+1))],u+2,{hash:=Z4 P n,key:=.str n (u+2),val:=vR (e+2)},[vI po.line 0,vI 4 0,vR (e+1)]))
 else([],0,{hash:=0,key:=vN,val:=vN},[])
noncomputable def mB(P:jq)(pre:aP)(l:List (ju×List bC×Nat)):Nat->Nat->List bC×List eQ×List aS×Nat×Nat:=
 rv (motive:=λc=>Nat->Nat->List bC×List eQ×List aS×Nat×Nat) (λa t=>([],[],[],a,t)) (λx c ih a t=>
  let o:=x.2.1
  let b:=fB P O pre vK (if o.length=0 then vN else vR (a+o.length-1)) (a+o.length) (t+x.2.2) x.1
  let q:=ih (a+o.length+7) (b.2.1+1)
  (o++b.1++q.1,b.2.2.1::q.2.1,b.2.2.2++q.2.2.1,q.2.2.2)) l
noncomputable def dX(P:jq)(n:Nat)(t a:Nat):List eQ:=match n with
 |0=>[dE P "__doc__" t vN]
 |1=>[dE P "__weakref__" (t+1) (vR a),dE P "__doc__" (t+2) vN]
 |_=>[dE P "__dict__" (t+1) (vR a),dE P "__weakref__" (t+3) (vR (a+1)),dE P "__doc__" (t+4) vN]
noncomputable def cB(P:jq)(x nw:String)(l k a t:Nat)(bs mr sub:List aS)(ex:List eQ)(xt:Nat)(ms:List (ju×List bC×Nat))(sa:List String):List bC:=
 let ab:=mB P (bH x++bH ".") ms (a+7) (t+12+xt)
 let b:=ab.2.2.2.1
 let u:=ab.2.2.2.2
 let w:=u+sa.length
 let d1:=dE P "__module__" (t+7) vK
 let d3:=dE P "__firstlineno__" (t+11) (vI l (t+10))
 let en:=ex++ab.2.1++[dE P "__static_attributes__" w (vR b)]
 let c:=vR (b+2)
 let g:=λn t v w=>oF (vY "getset_descriptor") #[vS n t,c,vB v,w]
 [tP bs.toArray,oF (vY "builtin_function_or_method") #[vB "type.__prepare__",vY "type"],oD (vY "dict") (d1::dE P "__qualname__" (t+9) (vS x (t+8))::d3::en).toArray (en.length+3),tP #[],oF vN ab.2.2.1.toArray,J2 (bH x) (bH x) (t+2) (t+5) l 0 0 (a+3) Z vN vN vN,oS (vY "frame") #[M (vR (a+5)),M (vR 3),M (vR (a+2)),U,M vK,U,M (vR 0)]]++ab.1++[tP (yA u (sa.map bH)).toArray,oD (vY "dict") (d1::d3::en++dX P k (w+1) (b+3)).toArray (k+2),oC (vY "type") x bs (c::mr) (b+1) x sub U #[M (vR a),U,M (vS x t),M (vS x (t+8)),M (vB nw),M (vT O)]]++(match k with
  |0=>[]
  |1=>[g "__weakref__" (w+1) "ExceptionGroup.__weakref__" vN]
  |_=>[g "__dict__" (w+1) "function.__dict__" (vB "function.__dict__#set"),g "__weakref__" (w+3) "ExceptionGroup.__weakref__" vN])++[oF (vY "super") #[c,c,c],oF (vY "builtin_function_or_method") #[vB "object.__init_subclass__",c]]
noncomputable def GB(i n:Nat):List (ju×List bC×Nat):=(bQ n).map λj=>(tM i j,[],0)
noncomputable def fO(P:jq)(m:Bool)(pm:aS)(a t i:Nat):List bC:=(fB P m dC pm vN a t (tS i)).1
noncomputable def eY:List aS:=[vY "Exception",vY "BaseException",vY "object"]
noncomputable def A0:aS:=vS "law_qq0001_02" 910
def GD(P:jq):List bC:=[boot_o_4 P,boot_o_5 P,boot_o_6 P,boot_o_7 P,boot_o_8 P,boot_o_9 P,boot_o_10 P,tP #[]]
noncomputable def QM:List bC:=[J2 "<module>" "<module>" 182 185 1 0 0 11 Z vN vN vN,oS (vY "frame") #[M (vR 13),M (vR 3),M (vR 3),U,M (vS "__main__" 164),U,M (vR 0)]]
noncomputable def shO:List bC:=([[vS "E" 912,vS "t" 913,vS "E" 914],[vS "t" 915,vS "E" 916],[vS "E" 917,vS "t" 918],[vS "t" 919],[vS "t" 920,vS "E" 921,vS "x" 922],[vS "E" 923,vS "t" 924,vS "E" 925,vS "x" 926,vS "E" 927],[vS "t" 928,vS "E" 929,vS "x" 930,vS "E" 931],[vS "E" 932,vS "t" 933,vS "E" 934,vS "x" 935]]++[[vR 432,vR 433,vR 434,vR 435,vR 436,vR 437,vR 438,vR 439]]).map λl=>listOf l.toArray 0
def obs(P:jq):List bC:=[boot_o_0 P,boot_o_1 P,oD vN #[dE P "type.__subclasses__.Exception.0" 214 (vI 31 0),dE P "type.__subclasses__.Exception.n" 215 (vI 1 0)] 2,oD (vY "dict") #[dE P "__name__" 165 (vS "law_qq0001_02" 910),dE P "__doc__" 166 vN,dE P "__package__" 167 vN,dE P "__loader__" 168 (vB "__main__.__loader__#opaque"),dE P "__spec__" 169 vN,dE P "__annotations__" 170 (vR 6),dE P "__builtins__" 171 (vR 4),dE P "__file__" 173 (vS "/claim/cut.py" 172),dE P "__cached__" 174 vN,dE P "_wall" 193 (vR 21),dE P "MAXINT" 197 (vI 9223372036854775807 196),dE P "YaccError" 217 (vR 31),dE P "_is_identifier" 223 (vR 39),dE P "_IDENTIFIER" 225 (vS "abcdefghijklmnopqrstuvwxyzABCDEFGHIJKLMNOPQRSTUVWXYZ0123456789_-" 224),dE P "_literal" 232 (vR 46),dE P "Production" 325 (vR 100),dE P "LRItem" 376 (vR 135),dE P "rightmost_terminal" 385 (vR 146),dE P "GrammarError" 401 (vR 156),dE P "Grammar" 591 (vR 283),dE P "digraph" 604 (vR 294),dE P "traverse" 622 (vR 301),dE P "LALRError" 638 (vR 311),dE P "_place" 644 (vR 318),dE P "LRGeneratedTable" 909 (vR 427),dE P "_law_SHAPES" 936 (vR 440),dE P "_law_cell" 944 (vR 447),dE P "_law_shaped" 950 (vR 452),dE P "_law_known" 962 (vR 459),dE P "_law_behind" 972 (vR 466),dE P "_law_due" 993 (vR 473),dE P "law" 999 (vR 478)] 32]++GD P++[oF vN #[vI 1 0,vI 0 0,vR 20,vI 6 0,vI 0 0,vR 27,vI 8 0,vI 0 0,vR 38,vI 11 0,vI 0 0,vR 45,vI 15 0,vI 0 0,vR 52,vI 54 0,vI 0 0,vR 110,vI 76 0,vI 0 0,vR 145,vI 83 0,vI 0 0,vR 152,vI 85 0,vI 0 0,vR 164,vI 295 0,vI 0 0,vR 293,vI 305 0,vI 0 0,vR 300,vI 326 0,vI 0 0,vR 307,vI 328 0,vI 0 0,vR 317,vI 332 0,vI 0 0,vR 324,vI 657 0,vI 0 0,vR 446,vI 659 0,vI 0 0,vR 451,vI 676 0,vI 0 0,vR 458,vI 684 0,vI 0 0,vR 465,vI 691 0,vI 0 0,vR 472,vI 723 0,vI 0 0,vR 477]]++QM++fO P O (vS "__main__" 164) 15 187 0++cB P "YaccError" "Exception.__new__" 6 1 22 198 [vY "Exception"] eY [vR 156,vR 311] [] 0 [] []++fO P Z vK 35 218 4++fO P O vK 40 226 6++cB P "Production" "object.__new__" 15 2 47 233 [vY "object"] [vY "object"] [] [dE P "reduced" 246 (vI 0 245),dE P "lr0_added" 248 (vI 0 247)] 4 ((tM 7 2,[tP #[vS "right" 249,vI 0 250],tP #[vR 54,vN,vS "" 251,vI 0 252]],4)::(GB 7 8).drop 3) ["callable","file","func","len","line","lr_items","lr_next","name","number","prec","prod","str","usyms"]++cB P "LRItem" "object.__new__" 54 2 105 326 [vY "object"] [vY "object"] [] [] 0 (GB 8 3) ["len","lookaheads","lr_index","name","number","prod","usyms"]++
 fO P O vK 140 377 9++cB P "GrammarError" "Exception.__new__" 83 0 147 386 [vR 31] (vR 31::eY) [] [] 0 [] []++cB P "Grammar" "object.__new__" 85 2 159 402 [vY "object"] [vY "object"] [] [] 0 ((((GB 11 16).set 4 (tM 11 4,[tP #[vN,vS "" 448,vI 0 449]],2)).set 5 (tM 11 5,[tP #[vN]],0)).set 14 (tM 11 14,[tP #[vN]],0)) ["First","Follow","Nonterminals","Precedence","Prodmap","Prodnames","Productions","Start","Terminals","UsedPrecedence"]++fO P O vK 288 592 12++fO P O vK 295 605 13++cB P "LALRError" "Exception.__new__" 326 0 302 623 [vR 31] (vR 31::eY) [] [] 0 [] []++fO P Z vK 314 639 15++
 cB P "LRGeneratedTable" "object.__new__" 332 2 319 645 [vY "object"] [vY "object"] [] [] 0 ((GB 16 14).set 0 (tM 16 0,[tP #[vS "LALR" 657,vN]],1)) ["_add_count","conflicts","grammar","lr0_cidhash","lr_action","lr_goto","lr_goto_cache","lr_method","lr_productions","rr_conflict","rr_conflicts","sr_conflict","sr_conflicts"]++shO++fO P O A0 441 937 19++fO P Z A0 448 945 20++fO P O A0 453 951 21++fO P O A0 460 963 22++fO P O A0 467 973 23++fO P Z A0 474 994 24
def QN(P:jq):List bC:=[boot_o_0 P,boot_o_1 P,boot_o_2 P,boot_o_3 P]++GD P++[oF vN #[]]++QM
noncomputable def bt(f:Nat)(l:List bC):Nat->Nat->BT:=
 JR (motive:=λc=>Nat->Nat->BT) (λc c=>.nil) (λc ih a b=>yw .nil (λo=>.node o (ih (2*a) (a+b)) (ih (2*a) (2*a+b))) l[b]?) f
noncomputable abbrev eM:kP:={scope:=pr.main.scope,locals:=mainNs,globals:=mainNs,cells:=[],code:=.ref 13,frame:=M 14}
noncomputable abbrev cM:Code:=.body (aab pr) eM
noncomputable abbrev q0:iA:={line:=0,col:=0,endLine:=0,endCol:=0}
noncomputable abbrev q1:iA:={line:=723,col:=0,endLine:=781,endCol:=85}
abbrev hA(P:jq):fL:=⟨⟨QN P⟩,{}⟩
abbrev hZ(P:jq):fL:=⟨⟨obs P⟩,{}⟩
abbrev tA(w:qg)(os:Dm):SharedT:=⟨bt 12 (QN w.params) 1 0,15,{},⟨[]⟩,{},187,os⟩
abbrev tZ(w:qg)(os:Dm):SharedT:=⟨bt 12 (obs w.params) 1 0,479,{},⟨[]⟩,{},1000,os⟩
def aaG:∀w:qg,(λos=>topGo Gs pr w 11 (M (.ref 6)) 12 ⟨De w.params,⟨[]⟩,boot_drawn,boot_toks,os⟩ (topStub pr))=λos=>M (⟨hA w.params,⟨[]⟩,{},187,os⟩,⟨denote Gs cM,cM,q0,[QG q0]⟩):=λw=>by kernel_rfl
def aaH:∀w:qg,(λos=>segRun Gs pr w 11 (M (.ref 6)) 1 1 ⟨hA w.params,⟨[]⟩,{},187,os⟩ (blockOf (aab pr) eM cM q0 [QG q0]))=λos=>M (.next,(tA w os).abs,cM,q0):=λw=>by kernel_rfl
def aaI:∀w:qg,(λos=>segRunT Gs pr w 11 (M (.ref 6)) 1 3373 (tA w os) (piecesOf (aab pr) eM cM q0 [QG q0]))=λos=>M (.next,tZ w os,cM,q1):=λw=>by kernel_rfl
def aaJ:∀w:qg,(λos=>topRun Gs pr w 11 (M (.ref 6)) 2 (tZ w os).abs ⟨doneF .next,cM,q1,[QG q0]⟩)=λos=>M ⟨hZ w.params,⟨[]⟩,{},1000,os⟩:=λw=>by kernel_rfl
def aaK(w:qg)(os:Dm):topRun Gs pr w 11 (M (.ref 6)) (12+(1+(3373+2))) ⟨De w.params,⟨[]⟩,boot_drawn,boot_toks,os⟩ (topStub pr)=M ⟨hZ w.params,⟨[]⟩,{},1000,os⟩:=by
 refine go_top (congrFun (aaG w) os) (piece_block (congrFun (aaH w) os) ?_);have:=piece_app (q:=q0) (rest:=[]) (segRun_of (congrFun (aaI w) os)) (piece_nil (congrFun (aaJ w) os))
 rw[i8]at this;exact this
noncomputable def J4:List Nat:=[2,3,4,13,20,21,24,27,30,31,38,39,45,46,49,52,54,55,61,62,68,69,75,76,82,83,89,90,96,97,99,100,107,110,117,118,124,125,131,132,134,135,145,146,149,152,155,156,161,164,171,172,178,179,185,186,192,193,194,200,201,202,208,209,215,216,222,223,229,230,236,237,243,244,250,251,257,258,264,265,266,272,273,279,280,282,283,293,294,300,301,304,307,310,311,317,318,321,324,326,332,333,339,340,346,347,353,354,360,361,367,368,374,375,381,382,388,389,395,396,402,403,409,410,416,417,423,424,426,427,432,433,434,435,436,437,438,439,440,446,447,451,452,458,459,465,466,472,473,477,478]
noncomputable def J5(l:List Nat)(n:Nat)(os:List bC):jr:=
 rv (motive:=λb=>List Nat->Nat->jr) (λb b=>[]) (λo b ih l n=>rv (motive:=λb=>jr) [] (λa as b=>bif dM a n then(a,o)::ih as (n+1)else ih l (n+1)) l) os l n
def K0(P:jq):jr:=J5 J4 0 (obs P)
def aaL(P:jq):J4=(K0 P).map (·.1):=by kernel_rfl
noncomputable def qV:QK:={pr with main:={pr.main with body:=pr.main.body.drop 24}}
noncomputable abbrev GF:List aP:=[bH "_wall",bH "MAXINT",bH "YaccError",bH "_is_identifier",bH "_IDENTIFIER",bH "_literal",bH "Production",bH "LRItem",bH "rightmost_terminal",bH "GrammarError",bH "Grammar",bH "digraph",bH "traverse",bH "LALRError",bH "_place",bH "LRGeneratedTable",bH "_law_SHAPES",bH "_law_cell",bH "_law_shaped",bH "_law_known",bH "_law_behind",bH "_law_due"]
def aaM:∀w:qg,((De w.params).isNs lJ&&(⟨[]⟩:Array GenState).size==0,(De w.params).objs.size,(De w.params).nsMap lJ "__annotations__")=(O,11,M (.ref 6)):=λw=>by kernel_rfl
noncomputable def QO(s:bL):List (Option bC)×Option bC×Option bC×Bool:=(J4.map s.heap.get?,s.heap.get? 391,s.heap.get? 398,(s.heap.get? xh).isSome)
def QP(w:qg):List (Option bC)×Option bC×Option bC×Bool:=((K0 w.params).map λp=>M p.2,M (oF .none #[]),M (oF .none #[]),O)
abbrev yB(w:qg)(h:fL):Prop:=(K0 w.params).In h/\h.get? 391=M (oF .none #[])/\h.get? 398=M (oF .none #[])/\(h.get? xh).isSome=O
def aaN:∀w:qg,(λos=>((staticsOk (apC pr.main.body) (De w.params) (hZ w.params)&&namesBound pr (hZ w.params)&&gensDone ⟨hZ w.params,⟨[]⟩,{},1000,os⟩&&laidKept (De w.params) (hZ w.params)),
 openSeen qV GF (apC pr.main.body) (λs=>xlAt qV [] s&&recOk (apl w8.row.toRowW) s) O ⟨hZ w.params,⟨[]⟩,{},1000,os⟩,QO ⟨hZ w.params,⟨[]⟩,{},1000,os⟩))=λa=>(O,openGood qV GF,QP w):=λw=>by kernel_rfl
def aaO:LeftO pr qV GF (λs=>xlAt qV [] s&&recOk (apl w8.row.toRowW) s) QO QP 3488:=
 LeftO.of_pieces (boot_open (by kernel_rfl) (ao Y) (λs=>by rfl)) aaM aaK (ao Y) aaN
noncomputable def dL:DefRec:=if h:(tS 24).ctorIdx=0 then anD (motive_2:=λa=>DefRec) (tS 24) h (λn p b a a a sc a a po=>{name:=n,params:=p,body:=b,scope:=sc,pos:=po})
 else⟨bH "",{posonlyargs:=[],args:=[],vararg:=U,kwonlyargs:=[],kw_defaults:=[],kwarg:=U,defaults:=[]},[],pr.main.scope,q0⟩
abbrev Nl:=List Nat
abbrev Ss:=List aP
abbrev QE:=aS->bL->Prop
def bA{α:Type}{a:α}{p:Prop}(h:a∈([]:List α)):p:=ax h Gh
def hV{α:Type}{a:α}{p:Prop}(h:M a=U):p:=nomatch h
def cW{α:Type}{a:α}{p:Prop}(h:U=M a):p:=nomatch h
def vL{α:Type}{p:Prop}(f:α->Nat){x y:α}(h:x=y)(n:dM (f x) (f y)=Z):p:=ax (aq f h) (Nat.ne_of_beq_eq_false n)
def pA{p:Prop}{x y:Nat}(h:x=y)(n:dM x y=Z):p:=vL (λx=>x) h n
def j5{p:Prop}{x y:Data}(h:x=y)(n:dM (aah x) (aah y)=Z):p:=vL aah h n
def A1{p:Prop}{x y:aS}(h:x=y)(n:dM (aac x) (aac y)=Z):p:=vL aac h n
def yC{p:Prop}{x y:ue}(h:x=y)(n:dM (aag x) (aag y)=Z):p:=vL aag h n
def yE{α:Type}{p:Prop}{x y:List α}(h:x=y)(n:dM x.length y.length=Z):p:=vL JI h n
def J6(o:Option xj):Nat:=yw 0 (λk=>Gv k.ctorIdx) o
def A2{p:Prop}{x y:Option xj}(h:x=y)(n:dM (J6 x) (J6 y)=Z):p:=vL J6 h n
def wm{α:Type}{ab:Model}{A:sA}{t:hU α}{Q Q':α->bL->Prop}{E:QE}{s:bL}(h:wpAny ab A t Q E s)(k:∀a s,Q a s->Q' a s):wpAny ab A t Q' E s:=jC h k λb b e=>e
def oA{p0 p1:Prop}{G:Prop}(h:p0/\p1)(k:p0->p1->G):G:=k h.1 h.2
def oE{iQ:Sort _}{p:iQ->Prop}{G:Prop}(h:∃a,p a)(k:∀a,p a->G):G:=h.elim λa h=>k a h
def qG{p0 p1 p2:Prop}{G:Prop}(h:p0/\p1/\p2)(k:p0->p1->p2->G):G:=k h.1 h.2.1 h.2.2
def bT{iQ:Sort _}{p0 p1:iQ->Prop}{G:Prop}(h:∃a,p0 a/\p1 a)(k:∀a,p0 a->p1 a->G):G:=h.elim λa h=>k a h.1 h.2
def xl{iQ kQ:Sort _}{p:iQ->kQ->Prop}{G:Prop}(h:∃a b,p a b)(k:∀a b,p a b->G):G:=h.elim λa h=>h.elim λb h=>k a b h
def uf{p0 p1 p2 p3:Prop}{G:Prop}(h:p0/\p1/\p2/\p3)(k:p0->p1->p2->p3->G):G:=k h.1 h.2.1 h.2.2.1 h.2.2.2
def fH{iQ:Sort _}{p0 p1 p2:iQ->Prop}{G:Prop}(h:∃a,p0 a/\p1 a/\p2 a)(k:∀a,p0 a->p1 a->p2 a->G):G:=h.elim λa h=>k a h.1 h.2.1 h.2.2
def xm{iQ kQ:Sort _}{p0 p1:iQ->kQ->Prop}{G:Prop}(h:∃a b,p0 a b/\p1 a b)(k:∀a b,p0 a b->p1 a b->G):G:=h.elim λa h=>h.elim λb h=>k a b h.1 h.2
def qH{iQ kQ qI:Sort _}{p:iQ->kQ->qI->Prop}{G:Prop}(h:∃a b c,p a b c)(k:∀a b c,p a b c->G):G:=h.elim λa h=>h.elim λb h=>h.elim λc h=>k a b c h
def sC{p0 p1 p2 p3 p4:Prop}{G:Prop}(h:p0/\p1/\p2/\p3/\p4)(k:p0->p1->p2->p3->p4->G):G:=k h.1 h.2.1 h.2.2.1 h.2.2.2.1 h.2.2.2.2
def pB{iQ:Sort _}{p0 p1 p2 p3:iQ->Prop}{G:Prop}(h:∃a,p0 a/\p1 a/\p2 a/\p3 a)(k:∀a,p0 a->p1 a->p2 a->p3 a->G):G:=h.elim λa h=>k a h.1 h.2.1 h.2.2.1 h.2.2.2
def ug{iQ kQ:Sort _}{p0 p1 p2:iQ->kQ->Prop}{G:Prop}(h:∃a b,p0 a b/\p1 a b/\p2 a b)(k:∀a b,p0 a b->p1 a b->p2 a b->G):G:=h.elim λa h=>h.elim λb h=>k a b h.1 h.2.1 h.2.2
def xn{iQ kQ qI vM:Sort _}{p:iQ->kQ->qI->vM->Prop}{G:Prop}(h:∃a b c d,p a b c d)(k:∀a b c d,p a b c d->G):G:=h.elim λa h=>h.elim λb h=>h.elim λc h=>h.elim λd h=>k a b c d h
def aaP{p0 p1 p2 p3 p4 p5:Prop}{G:Prop}(h:p0/\p1/\p2/\p3/\p4/\p5)(k:p0->p1->p2->p3->p4->p5->G):G:=k h.1 h.2.1 h.2.2.1 h.2.2.2.1 h.2.2.2.2.1 h.2.2.2.2.2
def rz{iQ kQ:Sort _}{p0 p1 p2 p3:iQ->kQ->Prop}{G:Prop}(h:∃a b,p0 a b/\p1 a b/\p2 a b/\p3 a b)(k:∀a b,p0 a b->p1 a b->p2 a b->p3 a b->G):G:=h.elim λa h=>h.elim λb h=>k a b h.1 h.2.1 h.2.2.1 h.2.2.2
def xo{iQ kQ qI:Sort _}{p0 p1 p2:iQ->kQ->qI->Prop}{G:Prop}(h:∃a b c,p0 a b c/\p1 a b c/\p2 a b c)(k:∀a b c,p0 a b c->p1 a b c->p2 a b c->G):G:=h.elim λa h=>h.elim λb h=>h.elim λc h=>k a b c h.1 h.2.1 h.2.2
def Dt{iQ kQ qI vM:Sort _}{p0 p1:iQ->kQ->qI->vM->Prop}{G:Prop}(h:∃a b c d,p0 a b c d/\p1 a b c d)(k:∀a b c d,p0 a b c d->p1 a b c d->G):G:=h.elim λa h=>h.elim λb h=>h.elim λc h=>h.elim λd h=>k a b c d h.1 h.2
def Du{iQ kQ qI vM Dx:Sort _}{p:iQ->kQ->qI->vM->Dx->Prop}{G:Prop}(h:∃a b c d e,p a b c d e)(k:∀a b c d e,p a b c d e->G):G:=h.elim λa h=>h.elim λb h=>h.elim λc h=>h.elim λd h=>h.elim λe h=>k a b c d e h
def J7{p0 p1 p2 p3 p4 p5 p6:Prop}{G:Prop}(h:p0/\p1/\p2/\p3/\p4/\p5/\p6)(k:p0->p1->p2->p3->p4->p5->p6->G):G:=k h.1 h.2.1 h.2.2.1 h.2.2.2.1 h.2.2.2.2.1 h.2.2.2.2.2.1 h.2.2.2.2.2.2
def aaQ{iQ kQ qI vM Dx J8:Sort _}{p:iQ->kQ->qI->vM->Dx->J8->Prop}{G:Prop}(h:∃a b c d e f,p a b c d e f)(k:∀a b c d e f,p a b c d e f->G):G:=h.elim λa h=>h.elim λb h=>h.elim λc h=>h.elim λd h=>h.elim λe h=>h.elim λf h=>k a b c d e f h
def QQ{p0 p1 p2 p3 p4 p5 p6 p7:Prop}{G:Prop}(h:p0/\p1/\p2/\p3/\p4/\p5/\p6/\p7)(k:p0->p1->p2->p3->p4->p5->p6->p7->G):G:=k h.1 h.2.1 h.2.2.1 h.2.2.2.1 h.2.2.2.2.1 h.2.2.2.2.2.1 h.2.2.2.2.2.2.1 h.2.2.2.2.2.2.2
def aaR{iQ kQ qI vM Dx J8 α6:Sort _}{p:iQ->kQ->qI->vM->Dx->J8->α6->Prop}{G:Prop}(h:∃a b c d e f g,p a b c d e f g)(k:∀a b c d e f g,p a b c d e f g->G):G:=h.elim λa h=>h.elim λb h=>h.elim λc h=>h.elim λd h=>h.elim λe h=>h.elim λf h=>h.elim λg h=>k a b c d e f g h
def aaT{p0 p1 p2 p3 p4 p5 p6 p7 p8 p9:Prop}{G:Prop}(h:p0/\p1/\p2/\p3/\p4/\p5/\p6/\p7/\p8/\p9)(k:p0->p1->p2->p3->p4->p5->p6->p7->p8->p9->G):G:=k h.1 h.2.1 h.2.2.1 h.2.2.2.1 h.2.2.2.2.1 h.2.2.2.2.2.1 h.2.2.2.2.2.2.1 h.2.2.2.2.2.2.2.1 h.2.2.2.2.2.2.2.2.1 h.2.2.2.2.2.2.2.2.2
def aaU{p0 p1 p2 p3 p4 p5 p6 p7 p8 p9 QR:Prop}{G:Prop}(h:p0/\p1/\p2/\p3/\p4/\p5/\p6/\p7/\p8/\p9/\QR)(k:p0->p1->p2->p3->p4->p5->p6->p7->p8->p9->QR->G):G:=k h.1 h.2.1 h.2.2.1 h.2.2.2.1 h.2.2.2.2.1 h.2.2.2.2.2.1 h.2.2.2.2.2.2.1 h.2.2.2.2.2.2.2.1 h.2.2.2.2.2.2.2.2.1 h.2.2.2.2.2.2.2.2.2.1 h.2.2.2.2.2.2.2.2.2.2
def Dy(p:qg×Dm×aY×List aS×List Int):Prop:=∀(s:bL)(pp:QK)(loose:Ss)(mg mb:aP->Option aS)(R:Dq->bL->Prop),TopRead pp loose mg mb s.heap->yB p.1 s.heap->s.heap.get? p.2.2.1=M (listOf p.2.2.2.1.toArray 0)->Gz p.2.2.2.1 p.2.2.2.2->p.2.2.2.2.length<=63->s.gens=#[]->s.os=p.2.1->(∀s',OldK s.heap s'.heap->s'.os=s.os->s'.gens=#[]->R (.ok (.ret (.bool O))) s')->ry (model pr p.1) callerA (.call (.ref 478) ⟨[.ref p.2.2.1],[]⟩) R s
def p0:qg×Dm×aY×List aS×List Int:=@JM _ ⟨(⟨λa a=>0,{strHash:=λa=>0,shareClass:=λa=>0,mergeTok:=id,idOf:=λa=>0,idOfShared:=λa a=>0,followText:=λa=>Z,idOfImm:=λa=>0}⟩,default,0,[],[])⟩ λp=>¬Dy p
def w0:qg:=p0.1
def os0:Dm:=p0.2.1
def a0:aY:=p0.2.2.1
def qh:List aS:=p0.2.2.2.1
def qi:List Int:=p0.2.2.2.2
def Z0:jr:=[(a0,listOf qh.toArray 0)]
def ai:jr:=K0 w0.params++Z0
def Md:Model:=model pr w0
noncomputable def vO:Ss:=[bH "name",bH "prod",bH "number",bH "func",bH "callable",bH "file",bH "line",bH "prec",bH "len",bH "usyms",bH "lr_items",bH "lr_next",bH "str",bH "lr_index",bH "lookaheads",bH "Productions",bH "Prodnames",bH "Prodmap",bH "Terminals",bH "Nonterminals",bH "First",bH "Follow",bH "Precedence",bH "UsedPrecedence",bH "Start",bH "_first",bH "compute_first",bH "__len__",bH "lr_after",bH "lr_before",bH "grammar",bH "lr_method",bH "lr_action",bH "lr_goto",bH "lr_productions",bH "lr_goto_cache",bH "lr0_cidhash",bH "_add_count",bH "sr_conflict",bH "rr_conflict",bH "conflicts",bH "sr_conflicts",bH "rr_conflicts",bH "build_lritems",bH "compute_follow",bH "lr_parse_table",bH "lr0_added",bH "lr0_closure",bH "lr0_goto",bH "compute_nullable_nonterminals",bH "find_nonterminal_transitions",bH "compute_read_sets",bH "compute_lookback_includes",bH "compute_follow_sets",bH "add_lookaheads",bH "lr0_items",bH "add_lalr_lookaheads",bH "reduced",bH "add_production",bH "set_start",bH "__init__",bH "dr_relation",bH "reads_relation",bH "set_precedence"]
noncomputable def tGs:Ss:=["MAXINT","_IDENTIFIER","_law_SHAPES"]
noncomputable def Dz:Ss:=["_wall","_is_identifier","_literal","rightmost_terminal","digraph","traverse","_place","_law_cell","_law_shaped","_law_known","_law_behind","_law_due","law"]
noncomputable def J9:Ss:=["YaccError","Production","LRItem","GrammarError","Grammar","LALRError","LRGeneratedTable"]
noncomputable def QS:List (Nat×Nat):=[(1,0),(1,1),(1,2),(1,3),(1,4),(1,5),(1,6),(1,7),(1,8),(1,9),(1,10),(1,11),(1,12),(1,57),(1,46),(2,0),(2,1),(2,2),(2,13),(2,14),(2,8),(2,9),(2,28),(2,29),(2,11),(4,15),(4,16),(4,17),(4,18),(4,19),(4,20),(4,21),(4,22),(4,23),(4,24),(6,30),(6,31),(6,32),(6,33),(6,34),(6,35),(6,36),(6,37),(6,38),(6,39),(6,40),(6,41),(6,42)]
noncomputable def QT:List (Nat×Nat×Nat):=[(1,27,21),(4,63,24),(4,58,25),(4,59,26),(4,25,27),(4,26,28),(4,44,29),(4,43,30),(6,47,32),(6,48,33),(6,55,34),(6,49,35),(6,50,36),(6,61,37),(6,62,38),(6,52,39),(6,51,40),(6,53,41),(6,54,42),(6,56,43),(6,45,44)]
noncomputable def aaX:List (Nat×Nat×Int):=[(1,57,0),(1,46,0)]
noncomputable def fnA:Nl:=[21,39,46,146,294,301,318,447,452,459,466,473,478,0,0,0,0,0,0,0,62,83,118,172,193,201,209,258,265,273,280,333,340,347,354,361,368,375,382,389,396,403,410,417,424]
noncomputable def clA:Nl:=[31,100,135,156,283,311,427]
noncomputable def gv(i:Nat):aP:=(vO[i]?).getD dC
noncomputable def bS(i:Nat):aY:=(fnA[i]?).getD 0
noncomputable def hB(i:Nat):aY:=(clA[i]?).getD 0
noncomputable def ku(c a:Nat):Bool:=QS.contains (c,a)
noncomputable def Ka(c a:Nat):Option Int:=(aaX.find? λp=>p.1==c&&p.2.1==a).map (·.2.2)
noncomputable def DB(c a:Nat):Option Nat:=(QT.find? λp=>p.1==c&&p.2.1==a).map (·.2.2)
abbrev DP(p:Prop):=Option (PLift p)
noncomputable def db(b:Bool):DP (b=O):=Bool.rec (motive:=λb=>DP (b=O)) U (M ⟨Y⟩) b
noncomputable def dN(b:Bool):DP (b=Z):=Bool.rec (motive:=λb=>DP (b=Z)) (M ⟨Y⟩) U b
noncomputable def dj{p q:Prop}(a:DP p)(f:p->DP q):DP q:=yw (motive:=λb=>DP q) U (λx=>f x.1) a
noncomputable def dm{p q:Prop}(f:p->q)(a:DP p):DP q:=dj a λx=>M ⟨f x⟩
noncomputable def dn{p q:Prop}(a:DP p)(b:DP q):DP (p/\q):=dj a λx=>dj b λy=>M ⟨x,y⟩
def dg{p:Prop}(x:DP p)(h:x.isSome=O):p:=(CR.mp h).elim λa b=>a.1
def GG{α:Type}{p:α->Prop}{f:(a:α)->DP (p a)}{l:List α}(h:(l.all λa=>(f a).isSome)=O){a:α}(m:a∈l):p a:=dg _ (lI.mp h a m)
def bq{α:Type} [BEq α] [LawfulBEq α]{a b:α}(h:(a==b)=O):a=b:=beq_iff_eq.mp h
def ClsAt(ai:jr)(c a:Nat):Prop:=∃v,Dp ai (.ref (hB c)) (gv a)=M v/\noGet ai v=O/\∀i,Ka c a=M i->∃t,v=M (.int i t)/\aaS ai (.int i t) "__get__"=M U
noncomputable def clsAt(ai:jr)(c a:Nat):DP (ClsAt ai c a):=
 yw (motive:=λo=>Dp ai (.ref (hB c)) (gv a)=o->DP (ClsAt ai c a)) (λb=>U) (λv h=>dm (λq=>⟨v,h,q⟩) (dn (db _) (yw (motive:=λq=>DP (∀i,q=M i->∃t,v=M (.int i t)/\aaS ai (.int i t) "__get__"=M U)) (M ⟨λb e=>cW e⟩) (λj=>dm (λh i e=>bF e▸h)
  (yw (motive:=λv=>DP (∃t,v=M (.int j t)/\aaS ai (.int j t) "__get__"=M U)) U (λv=>if h:v.ctorIdx=4 then aqd v h λi t=>if h:i=j then dm (λq=>⟨t,h▸Y,bq q⟩) (db (aaS ai (.int j t) "__get__"==M U))else U else U) v)) (Ka c a)))) (Dp ai (.ref (hB c)) (gv a)) Y
def QU(ai:jr)(c a:Nat):Prop:=plainGet ai (hB c) (gv a)=O/\hasDictIn ai (hB c)=O/\copiedNames.contains (gv a)=Z/\ClsAt ai c a/\(Dp ai (.ref (hB c)) "__setattr__"==M (M (.builtin "object.__setattr__")))=O/\plainOver ai (hB c)=O/\(takerIn ai (hB c) (gv a)==M U)=O/\rx a 64=O
noncomputable def aa0(ai:jr)(c a:Nat):DP (QU ai c a):=dn (db _) (dn (db _) (dn (dN _) (dn (clsAt ai c a) (dn (db _) (dn (db _) (dn (db _) (db _)))))))
def Kb(ai:jr)(c a f:Nat):Prop:=plainGet ai (hB c) (gv a)=O/\(Dp ai (.ref (hB c)) (gv a)==M (M (.ref (bS f))))=O/\isFn ai (.ref (bS f))=O/\J0 ai (.ref (bS f))=O
noncomputable def aa1(ai:jr)(c a f:Nat):DP (Kb ai c a f):=dn (db _) (dn (db _) (dn (db _) (db _)))
def aa2(P:jq)(ah:jr):(QS.all λp=>(aa0 (K0 P++ah) p.1 p.2).isSome)=O:=by kernel_rfl
def aa3(P:jq)(ah:jr):(QT.all λp=>(aa1 (K0 P++ah) p.1 p.2.1 p.2.2).isSome)=O:=by kernel_rfl
def GH{c a:Nat}(h:ku c a=O):QU ai c a:=GG (aa2 w0.params Z0) (gj.mp h)
def QW{c a f:Nat}(h:DB c a=M f):Kb ai c a f:=by
 obtain⟨p,hp,rfl⟩:=Ga.mp h;have e:=dS.mp (aoZ (p:=λp:Nat×Nat×Nat=>p.1==c&&p.2.1==a) hp)
 have:Kb ai p.1 p.2.1 p.2.2:=GG (aa3 w0.params Z0) (anR hp)
 rwa [bq e.1,bq e.2]at this
noncomputable def nD(l:Ss)(i:Nat)(x:aP):Bool:=l[i]?==M x
def QX{l:Ss}{i:Nat}{x:aP}(h:nD l i x=O):l[i]?=M x:=bq h
def xp{a:Nat}{x:aP}(h:nD vO a x=O):gv a=x:=aq (JH · dC) (QX h)
def FnAt(ai:jr)(a:aY)(x:aP):Prop:=(nsIn ai lJ x==M (M (.ref a)))=O/\J0 ai (.ref a)=O
noncomputable def fnAt(ai:jr)(a:aY)(x:aP):DP (FnAt ai a x):=dn (db _) (db _)
def aa4(P:jq)(ah:jr):((Dz.zipIdx).all λp=>(fnAt (K0 P++ah) (bS p.2) p.1).isSome)=O:=by kernel_rfl
def aa5(P:jq)(ah:jr):((J9.zipIdx).all λp=>(fnAt (K0 P++ah) (hB p.2) p.1).isSome)=O:=by kernel_rfl
def QY{l:Ss}{i:Nat}{x:aP}(h:nD l i x=O):(x,i)∈l.zipIdx:=CM.mpr (QX h)
def QZ{f:Nat}{x:aP}(h:nD Dz f x=O):FnAt ai (bS f) x:=GG (aa4 w0.params Z0) (QY h)
def aa6{f:Nat}{x:aP}(h:nD J9 f x=O):FnAt ai (hB f) x:=GG (aa5 w0.params Z0) (QY h)
def Q0(P:jq)(ah:jr):Dp (K0 P++ah) (.ref (hB 2)) "__bool__"=M U/\Dp (K0 P++ah) (.ref (hB 2)) "__len__"=M U:=⟨by kernel_rfl,by kernel_rfl⟩
def aa7:(bQ 64).all (λi=>(bQ 64).all λj=>dM i j||!(gv i==gv j))=O:=by kernel_rfl
def aa8:(bQ 64).all (λi=>!(gv i==dC))=O:=by kernel_rfl
def aa9{i j:Nat}(hi:rx i 64=O)(e:gv i=gv j):i=j:=by
 have hi:=jo hi;by_cases hj:j<64
 .have:=lI.mp (lI.mp aa7 i (j4.mpr hi)) j (j4.mpr hj);rw[e,beq_self_eq_true,C7,apc]at this;exact aok this
 .have h2:gv j=dC:=aq (JH · dC) (aoe (iP.mp hj));have:=lI.mp aa8 i (j4.mpr hi)
  rw[e,h2]at this;exact nomatch this
abbrev Loc:=Nat×Nl
inductive V where
 |n
 |o (b:Bool)
 |i (i:Int)
 |s (s:aP)
 |e (l:Loc)
 |iF (a:aY)
 |kB
 |iG (a b:V)
def V.ctorIdx(x:V):Nat:=V.rec 0 (λa=>1) (λa=>2) (λa=>3) (λa=>4) (λa=>5) 6 (λa a a a=>7) x
abbrev Es:=List (V×V)
abbrev Vs:=List V
abbrev Mp:=Nat->Option V
noncomputable def V.cq:Vs->V
 |[]=>.kB
 |a::r=>.iG a (V.cq r)
structure Gx where
 X:jr
 p:List (Loc×aY)
inductive af where
 |l (vs:Vs)
 |d (es:Es)
 |i (c:Nat) (f:Mp)
 |s (vs:Vs)
 |t (a:aY) (vs:Array aS)
 |fz (g:Gx)
def af.ctorIdx(x:af):Nat:=af.rec (λa=>0) (λa=>1) (λa a=>2) (λa=>3) (λa a=>4) (λa=>5) x
abbrev Hp:=Loc->Option af
def Kc{p:Prop}{x y:V}(h:x=y)(n:dM (V.ctorIdx x) (V.ctorIdx y)=Z):p:=vL V.ctorIdx h n
def Kd(o:Option af):Nat:=yw 0 af.ctorIdx o
def yF{p:Prop}{x y:Option af}(h:x=y)(n:dM (Kd x) (Kd y)=Z):p:=vL Kd h n
def nnl{p:Prop}{x y:Loc}(h:x=y)(n:dM x.1 y.1=Z):p:=vL (λl:Loc=>l.1) h n
abbrev RQ:=V->Hp->Nat->Prop
noncomputable def Hp.aH(h:Hp)(l:Loc)(o:af):Hp:=λk=>if k=l then M o else h k
def aQ{h:Hp}{l:Loc}{o:af}{k:Loc}(e:k≠l):h.aH l o k=h k:=au e
def bo{h:Hp}{l:Loc}{o:af}:h.aH l o l=M o:=aw Y
def aZ(h:Hp)(l:Loc):Prop:=h l≠U
def nH{h:Hp}{l:Loc}{o:af}(e:h l=M o):aZ h l:=λz=>hV (e.symm.trans z)
def sF{h:Hp}{l:Loc}{o:af}(k:Loc):aZ (h.aH l o) k↔k=l\/aZ h k:=by
 by_cases e:k=l
 .exact⟨λa=>.inl e,λa z=>hV ((aw e).symm.trans z)⟩
 .exact⟨λd=>.inr λz=>d ((au e).trans z),λd z=>(d.resolve_left e) ((au e).symm.trans z)⟩
def bP{α β:Type}(R:α->β->Prop)(as:List α)(bs:List β):Prop:=∃zs:List (α×β),as=zs.map (·.1)/\bs=zs.map (·.2)/\∀z∈zs,R z.1 z.2
variable{α β:Type} {R S:α->β->Prop} {as cs:List α} {bs:List β}
section
variable{ds:List β}
def bP.iH:bP R [] []:=⟨[],Y,Y,λa h=>bA h⟩
def bP.hY{a:α}{b:β}(h:R a b)(k:bP R as bs):bP R (a::as) (b::bs):=k.elim λzs k=>⟨(a,b)::zs,aq _ k.1,aq _ k.2.1,lH.mpr ⟨h,k.2.2⟩⟩
def bP.bU(h:bP R as bs)(f:∀a b,R a b->S a b):bP S as bs:=h.elim λzs k=>⟨zs,k.1,k.2.1,λz m=>f _ _ (k.2.2 z m)⟩
def bP.iI(h:bP R as bs):as.length=bs.length:=h.elim λzs k=>by rw[k.1,k.2.1,bc,bc]
def bP.xq(h:bP R as bs)(h':bP R cs ds):bP R (as++cs) (bs++ds):=h.elim λzs k=>h'.elim λys j=>⟨zs++ys,by rw[k.1,j.1,dF],by rw[k.2.1,j.2.1,dF],λz m=>(cZ.mp m).elim (k.2.2 z) (j.2.2 z)⟩
def bP.yG(h:bP R as bs)(i:Nat):(as[i]?=U/\bs[i]?=U)\/∃a b,as[i]?=M a/\bs[i]?=M b/\R a b:=h.elim λzs k=>by
 rw[k.1,k.2.1,gX,gX];cases h:zs[i]? with
 |none=>exact .inl ⟨Y,Y⟩
 |some z=>exact .inr ⟨_,_,Y,Y,k.2.2 z (cO h)⟩
def bP.nK{i:Nat}{b:β}(h:bP R as bs)(e:bs[i]?=M b):∃a,as[i]?=M a/\R a b:=
 (h.yG i).elim (λq=>hV (e.symm.trans q.2)) λq=>q.elim λa q=>q.elim λc q=>⟨a,q.1,aj (bF (q.2.1.symm.trans e)) q.2.2⟩
def bP.yH{i:Nat}{a:α}(h:bP R as bs)(e:as[i]?=M a):∃b,bs[i]?=M b/\R a b:=
 (h.yG i).elim (λq=>hV (e.symm.trans q.1)) λq=>q.elim λc q=>q.elim λb q=>⟨b,q.2.1,aj (bF (q.1.symm.trans e)) q.2.2⟩
def bP.A4{a:α}(h:bP R as bs)(m:a∈as):∃b,b∈bs/\R a b:=
 (sj m).elim λc e=>(h.yH e).elim λb q=>⟨b,cO q.1,q.2⟩
def bP.yJ(h:bP R as bs)(n:Nat):bP R (as.drop n) (bs.drop n):=h.elim λzs k=>⟨zs.drop n,by rw[k.1,Gl],by rw[k.2.1,Gl],λz m=>k.2.2 z (Zz m)⟩
def bP.GK(h:bP R as bs)(n:Nat):bP R (as.take n) (bs.take n):=h.elim λzs k=>⟨zs.take n,by rw[k.1,AR],by rw[k.2.1,AR],λz m=>k.2.2 z (Gd m)⟩
def bP.dw{a:α}{b:β}(h:bP R as bs)(i:Nat)(q:R a b):bP R (as.set i a) (bs.set i b):=h.elim λzs k=>⟨zs.set i (a,b),by rw[k.1,apo],by rw[k.2.1,apo],λz m=>(List.mem_or_eq_of_mem_set m).elim (k.2.2 z) λe=>ak e q⟩
def bP.eraseIdx(h:bP R as bs)(i:Nat):bP R (as.eraseIdx i) (bs.eraseIdx i):=by rw[anG,anG];exact(h.GK i).xq (h.yJ (i+1))
def bP.tail{a:α}{b:β}(h:bP R (a::as) (b::bs)):R a b/\bP R as bs:=by
 obtain⟨_|⟨z,zs⟩,e1,e2,k⟩:=h
 .cases e1
 .cases e1;cases e2;exact⟨k z (.head _),zs,Y,Y,λz m=>k z (.tail _ m)⟩
def bP.kC{b:β}(h:bP R as (b::bs)):∃a r,as=a::r/\R a b/\bP R r bs:=by
 cases as with
 |nil=>exact pA h.iI rfl
 |cons a r=>exact⟨a,r,Y,h.tail⟩
def bP.oy(h:bP R as []):as=[]:=anI h.iI
end
structure Wd where
 bY:Loc×Bool->aY
 n:List (aY×bC)
noncomputable def Wd.ρ(W:Wd)(l:Loc):aY:=W.bY (l,Z)
noncomputable def Wd.δ(W:Wd)(l:Loc):aY:=W.bY (l,O)
noncomputable abbrev oz(vs:Array aS):bC:={cls:=.none,data:=.fields vs}
noncomputable abbrev iJ(vs:List aS):bC:={cls:=.type "tuple",data:=.seq vs.toArray}
def TupAt(W:Wd)(a:aY)(vs:List aS):Prop:=((a,iJ vs)∈W.n\/ai.lookup a=M (iJ vs))/\vs.length<=33554432
def uh(W:Wd)(S:List aS->Prop)(v:aS):Prop:=∃a vs,v=.ref a/\TupAt W a vs/\S vs
def yK(A:aS->Prop)(S:List aS->Prop)(vs:List aS):Prop:=∃u r,vs=u::r/\A u/\S r
def Q1(W:Wd)(D:Loc->Prop)(x:V):(aS->Prop)×(List aS->Prop):=V.rec (motive:=λc=>(aS->Prop)×(List aS->Prop))
 (λv=>v=.none,λc=>False) (λb=>(λv=>v=.bool b,λc=>False)) (λi=>(λv=>∃t,v=.int i t,λc=>False)) (λs=>(λv=>∃t,v=.str s t/\pZ s=O,λc=>False))
 (λl=>(λv=>v=.ref (W.ρ l)/\D l,λc=>False)) (λa=>(λv=>v=.ref a,λc=>False))
 (uh W (·=[]),(·=[])) (λc c A B=>(uh W (yK A.1 B.2),yK A.1 B.2)) x
def VR(W:Wd)(D:Loc->Prop)(v:aS)(x:V):Prop:=(Q1 W D x).1 v
def jW(W:Wd)(D:Loc->Prop)(vs:List aS)(x:V):Prop:=(Q1 W D x).2 vs
def Tu(W W':Wd)(D D':Loc->Prop):Prop:=(∀l,D l->D' l/\W'.ρ l=W.ρ l)/\∀a vs,(a,iJ vs)∈W.n->(a,iJ vs)∈W'.n
section
variable{W W':Wd} {D D':Loc->Prop} (hh:Tu W W' D D')
def Tu.aC:=hh.1
def Tu.aF:=hh.2
end
def Tu.at{W W':Wd}{D D':Loc->Prop}(t:Tu W W' D D'){a:aY}{vs:List aS}(h:TupAt W a vs):TupAt W' a vs:=⟨h.1.imp (t.aF _ _) id,h.2⟩
def uh.bU{W W':Wd}{D D':Loc->Prop}(t:Tu W W' D D'){S S':List aS->Prop}(k:∀vs,S vs->S' vs){v:aS}(h:uh W S v):uh W' S' v:=h.elim λa h=>h.elim λvs h=>⟨a,vs,h.1,t.at h.2.1,k vs h.2.2⟩
def yK.bU{A A':aS->Prop}{S S':List aS->Prop}(j:∀v,A v->A' v)(k:∀vs,S vs->S' vs){vs:List aS}(h:yK A S vs):yK A' S' vs:=h.elim λu h=>h.elim λr h=>⟨u,r,h.1,j u h.2.1,k r h.2.2⟩
def VR.aba{W W':Wd}{D D':Loc->Prop}(t:Tu W W' D D')(x:V):(∀v,VR W D v x->VR W' D' v x)/\∀vs,jW W D vs x->jW W' D' vs x:=by
 induction x with
 |e l=>exact⟨λv h=>⟨h.1.trans (aq mJ (t.aC l h.2).2.symm),(t.aC l h.2).1⟩,λc h=>h⟩
 |kB=>exact⟨λv h=>uh.bU t (λc h=>h) h,λc h=>h⟩
 |iG a b ha hb=>exact⟨λv h=>uh.bU t (λc h=>yK.bU ha.1 hb.2 h) h,λc h=>yK.bU ha.1 hb.2 h⟩
 |_=>exact⟨λc h=>h,λc h=>h⟩
def VR.bU{W W':Wd}{D D':Loc->Prop}(t:Tu W W' D D'){v:aS}{x:V}:VR W D v x->VR W' D' v x:=(VR.aba t x).1 v
variable{W:Wd} {D:Loc->Prop}
noncomputable def V.ja(x:V):Bool:=Di 6 x.ctorIdx
def jW.Q2{xs:Vs}:∀{vs:List aS},jW W D vs (V.cq xs)↔bP (VR W D) vs xs:=by
 induction xs with
 |nil=>exact⟨λe=>ak (e) .iH,λh=>h.oy⟩
 |cons x xs ih=>exact⟨λh=>h.elim λu h=>h.elim λr h=>ak h.1 (.hY h.2.1 (ih.mp h.2.2)),λh=>h.kC.elim λu h=>h.elim λr h=>⟨u,r,h.1,h.2.1,ih.mpr h.2.2⟩⟩
def VR.lK{v:aS}{xs:Vs}:VR W D v (V.cq xs)↔∃a vs,v=.ref a/\TupAt W a vs/\bP (VR W D) vs xs:=by
 have e:VR W D v (V.cq xs)=uh W (λvs=>jW W D vs (V.cq xs)) v:=by cases xs<;>rfl
 rw[e];exact⟨λh=>h.elim λa h=>h.elim λvs h=>⟨a,vs,h.1,h.2.1,jW.Q2.mp h.2.2⟩,λh=>h.elim λa h=>h.elim λvs h=>⟨a,vs,h.1,h.2.1,jW.Q2.mpr h.2.2⟩⟩
def abb:∀{l k:List α},l.Nodup->(∀x∈l,x∈k)->l.length<=k.length:=by
 intro l
 induction l with
 |nil=>exactλb b=>b7 _
 |cons a r ih=>
  intro k n s;have n:=iY.mp n
  have h1:=ih (k:=k.erase a) n.2 λx hx=>(aol λe=>n.1 (by rw[<-e];exact hx)).mpr (s x (.tail _ hx))
  rw[anZ (s a (.head _))]at h1;exact aV (j3 h1) (gy (PM (an9 (s a (.head _)))))
noncomputable def V.cV(x:V):Nat->Bool:=V.rec (motive:=λa=>Nat->Bool) (λa=>O) (λa a=>Z) (λa a=>O) (λa a=>O) (λa a=>Z) (λa a=>Z) (λd=>rx 0 d) (λa b A B d=>rx 0 d&&(A (d-1)&&(B d&&b.ja))) x
def sG(x:V):WData×List WData:=V.rec (motive:=λa=>WData×List WData) (.none,[]) (λb=>(.bool b,[])) (λi=>(.int i,[])) (λs=>(.str s,[])) (λa=>(.none,[])) (λa=>(.none,[])) (.tuple [],[]) (λa a A B=>(.tuple (A.1::B.2),A.1::B.2)) x
def sH(x:V):Int:=hashW w0.params (sG x).1
def At(W:Wd)(l:Loc)(o:bC):Prop:=if l.1=0 then ai.lookup (W.ρ l)=M o else(W.ρ l,o)∈W.n
def DE(W:Wd)(D:Loc->Prop)(d:eQ)(e:V×V):Prop:=VR W D d.key e.1/\VR W D d.val e.2/\d.hash=sH e.1/\e.1.cV 7=O
section
variable{d:eQ} {e:V×V} (hh:DE W D d e)
def DE.aC:=hh.1
def DE.aK:=hh.2.1
def DE.aF:=hh.2.2.1
def DE.aI:=hh.2.2.2
end
def sI(W:Wd)(D:Loc->Prop)(ds:List eQ)(i:Nat)(x:Option V):Prop:=yw (getL (gv i) ds=M U) (λx=>∃v,getL (gv i) ds=M (M v)/\VR W D v x) x
def yL(o:bC)(vs:Vs):Prop:=∃es ep t,o.ExactSet/\o.data=.set es ep t/\ElemsOf (strKind pr w0) es.toList/\(∀k:aP,V.s k∈vs↔∃e∈es.toList,(strKind pr w0).is k e.2=O)/\es.size<scanBound/\t.fits es.size=O/\es.size=vs.length
def OR(W:Wd)(D:Loc->Prop)(l:Loc)(o:af):Prop:=af.rec (motive:=λb=>Prop)
 (λvs=>∃bu n,At W l (listOf bu n)/\bP (VR W D) bu.toList vs/\vs.length<=33554432)
 (λes=>l.1≠0/\∃ds,(W.ρ l,iZ ds es.length)∈W.n/\bP (DE W D) ds es/\(es.map (·.1)).Nodup/\es.length<=33554432)
 (λc f=>l.1≠0/\(W.ρ l,Dl (hB c) (W.δ l))∈W.n/\∃ds n,(W.δ l,iZ ds n)∈W.n/\(∃L:Nl,L.Nodup/\(∀i∈L,f i≠U/\i∈bQ 64)/\ds.length<=L.length)/\∀i,sI W D ds i (f i))
 (λvs=>l.1≠0/\∃o,(W.ρ l,o)∈W.n/\yL o vs)
 (λa vs=>l.1≠0/\W.ρ l=a/\(W.ρ l,oz vs)∈W.n)
 (λb=>l.1=0) o
def iK(o:Option af):Prop:=∃c f,o=M (.i c f)
def pC(o:Option af):Prop:=∃a vs,o=M (.t a vs)
def Own(h:Hp)(p:Loc×Bool):Prop:=p.1.1≠0/\aZ h p.1/\(p.2=O->iK (h p.1))
def j6(W:Wd)(h:Hp)(a:aY):Prop:=∃p,Own h p/\W.bY p=a
noncomputable def hD:Loc:=(0,[1])
def pD(h:Hp)(g:Gx):Prop:=∀g',h hD=M (.fz g')->g'=g
structure HR(g:Gx)(W:Wd)(h:Hp):Prop where
 aC:∀l o,h l=M o->OR W (aZ h) l o
 aI:(W.n.map (·.1)).Nodup
 aO:∀l,l.1=0->W.ρ l=a0
 aF:(∀p∈g.p,aZ h p.1/\W.ρ p.1=p.2)/\pD h g
 aK:∀p q,Own h p->Own h q->W.bY p=W.bY q->p=q
structure Ext(X:aY->Prop)(W:Wd)(h:Hp)(W':Wd)(h':Hp):Prop where
 aC:∀l,aZ h l->aZ h' l/\(iK (h' l)->iK (h l))/\∀b,W'.bY (l,b)=W.bY (l,b)
 aF:∀p∈W.n,¬j6 W h p.1->¬X p.1->p∈W'.n
 aI:∀p∈W.n,∃o,(p.1,o)∈W'.n
 aK:∀l,¬aZ h l->aZ h' l->l.1≠0/\∀b,Own h' (l,b)->∀p∈W.n,W'.bY (l,b)≠p.1
 aO:∀l,pC (h l)->pC (h' l)
variable{g:Gx} {X aa:aY->Prop} {W' bg dt:Wd} {D':Loc->Prop} {h h' h₁ lL:Hp} {l:Loc} {a:aY}
section
variable{o:af}
def pD.aH(k:pD h g)(l0:l.1≠0):pD (h.aH l o) g:=λg' e=>k g' ((aQ λe=>l0 (aq qf e).symm).symm.trans e)
def Ext.jE:Ext X W h W h:=⟨λa d=>⟨d,id,λa=>Y⟩,λa m a a=>m,λp m=>⟨p.2,m⟩,λa n d=>ax d n,λa=>id⟩
def Ext.weaken(e:Ext X W h W' h')(k:∀a,X a->aa a):Ext aa W h W' h':=⟨e.aC,λp m f n=>e.aF p m f λq=>n (k _ q),e.aI,e.aK,e.aO⟩
def Ext.nN(e:Ext X W h W' h'){p:aY×bC}(m:p∈W.n)(n:¬j6 W h p.1):¬j6 W' h' p.1:=λq=>q.elim λl q=>by
 by_cases d:aZ h l.1
 .have z:=e.aC l.1 d;exact n ⟨l,⟨q.1.1,d,λw=>z.2.1 (q.1.2.2 w)⟩,(z.2.2 l.2).symm.trans q.2⟩
 .exact(e.aK l.1 d q.1.2.1).2 l.2 q.1 p m q.2
def Ext.dy(a:Ext X W h bg h₁)(b:Ext X bg h₁ dt lL):Ext X W h dt lL:=by
 refine⟨λl d=>?_,λp m f nx=>b.aF p (a.aF p m f nx) (a.nN m f) nx,λp m=>(a.aI p m).elim λo m=>b.aI (p.1,o) m,λl n d=>?_,λl t=>b.aO l (a.aO l t)⟩
 .have z:=a.aC l d;have y:=b.aC l z.1
  exact⟨y.1,λq=>z.2.1 (y.2.1 q),λb=>(y.2.2 b).trans (z.2.2 b)⟩
 .by_cases d1:aZ h₁ l
  .have z:=a.aK l n d1;have y:=b.aC l d1
   exact⟨z.1,λc q p m=>ak (y.2.2 c) (z.2 c ⟨q.1,d1,λw=>y.2.1 (q.2.2 w)⟩ p m)⟩
  .have z:=b.aK l d1 d;exact⟨z.1,λc q p m=>(a.aI p m).elim λo m=>z.2 c q (p.1,o) m⟩
def Ke{l:List (aY×bC)}(n:(l.map (·.1)).Nodup){o o':bC}(h:(a,o)∈l)(h':(a,o')∈l):o=o':=by
 induction l with
 |nil=>cases h
 |cons p r ih=>
  have n:=iY.mp n;rcases cU.mp h with e|e<;>rcases cU.mp h' with e'|e'
  .exact(cP (e.trans e'.symm)).2
  .cases e;exact ax (gW e') n.1
  .cases e';exact ax (gW e) n.1
  .exact ih n.2 e e'
def kD(c:bC)(vs:Array aS):Prop:=c.data=.fields vs/\c.cls≠.none
def yM(c:bC):Prop:=(∀vs,c≠iJ vs)/\(∀v,c.data≠.cell v)/\∀vs,¬kD c vs
def abc{bu:Array aS}{n:Nat}:yM (listOf bu n):=⟨λvs e=>ax (aq (λo:bC=>o.cls==.type "tuple") e) (dZ),(λv e=>by cases e),λvs f=>by cases f.1⟩
def GL{c:bC}(h1:∀vs n,c.data≠.seq vs n)(h2:∀v,c.data≠.cell v)(h3:∀vs,¬kD c vs):yM c:=⟨λvs e=>h1 _ _ (aq Df e),h2,h3⟩
def Q4{ds:List eQ}{n:Nat}:yM (iZ ds n):=GL (λa a e=>by cases e) (λa e=>by cases e) λa f=>by cases f.1
def OR.own{b:Bool}(x:OR W D l o)(l0:l.1≠0)(i:b=O->iK (M o)):∃c,(W.bY (l,b),c)∈W.n/\yM c:=by
 cases b with
 |true=>refine xl (i Y) λc f e=>?_;cases e;exact x.2.2.elim λds q=>q.elim λn q=>⟨_,q.1,Q4⟩
 |false=>cases o with
  |l vs=>exact x.elim λbu q=>q.elim λn q=>⟨_,(au l0).mp q.1,abc⟩
  |d es=>exact x.2.elim λds q=>⟨_,q.1,Q4⟩
  |i c f=>exact⟨_,x.2.1,GL (λh h e=>by cases e) (λh e=>by cases e) λh f=>by cases f.1⟩
  |s vs=>exact x.2.elim λo q=>q.2.elim λes r=>r.elim λep r=>r.elim λt r=>⟨_,q.1,GL (λh h e=>by cases r.2.1.symm.trans e) (λv e=>by cases r.2.1.symm.trans e) λh f=>by cases r.2.1.symm.trans f.1⟩
  |fz g=>exact ax x l0
  |t a vs=>exact⟨_,x.2.2,GL (λh h e=>by cases e) (λh e=>by cases e) λh f=>f.2 Y⟩
def HR.cH(H:HR g W h){p:Loc×Bool}(q:Own h p):∃c,(W.bY p,c)∈W.n/\yM c:=by
 obtain⟨l,b⟩:=p;cases e:h l with
 |none=>exact ax e q.2.1
 |some o=>exact(H.aC l o e).own q.1 λw=>aj e (q.2.2 w)
def HR.nN(H:HR g W h){p:aY×bC}(m:p∈W.n)(n:¬yM p.2):¬j6 W h p.1:=λq=>q.elim λp' q=>(H.cH q.1).elim λc r=>n (ak (Ke H.aI (m) (aj q.2 r.1)) r.2)
def Q5{vs:List aS}:¬yM (iJ vs):=λf=>f.1 vs Y
def Ext.tu(H:HR g W h)(nx:∀a vs,(a,iJ vs)∈W.n->¬X a)(e:Ext X W h W' h'):Tu W W' (aZ h) (aZ h'):=
 ⟨λl d=>⟨(e.aC l d).1,(e.aC l d).2.2 Z⟩,λb b m=>e.aF _ m (H.nN m Q5) (nx _ _ m)⟩
def DE.mono(t:Tu W W' D D'){d:eQ}{e:V×V}(x:DE W D d e):DE W' D' d e:=⟨x.aC.bU t,x.aK.bU t,x.aF,x.aI⟩
def sI.mono(t:Tu W W' D D'){ds:List eQ}{i:Nat}{x:Option V}(k:sI W D ds i x):sI W' D' ds i x:=by
 cases x with
 |none=>exact k
 |some x=>exact k.elim λv k=>⟨v,k.1,k.2.bU t⟩
def OR.bU(t:Tu W W' D D')(hr:∀b,W'.bY (l,b)=W.bY (l,b))(k:∀b c,l.1≠0->(b=O->iK (M o))->(W.bY (l,b),c)∈W.n->(W.bY (l,b),c)∈W'.n)(x:OR W D l o):OR W' D' l o:=by
 have at_:=λ{b c} l0 i m=>(hr b).symm▸k b c l0 i m;have nf:Z=O->iK (M o):=λe=>b9 e
 cases o with
 |l vs=>exact x.elim λbu q=>q.elim λn q=>⟨bu,n,by
  by_cases e:l.1=0
  .exact(aw e).mpr (ak (show W'.ρ l=W.ρ l from hr Z) ((aw e).mp q.1))
  .exact(au e).mpr (at_ e nf ((au e).mp q.1)),q.2.1.bU λh h=>VR.bU t,q.2.2⟩
 |d es=>exact⟨x.1,x.2.elim λds q=>⟨ds,at_ x.1 nf q.1,q.2.1.bU λh h=>DE.mono t,q.2.2⟩⟩
 |i c f=>exact⟨x.1,ak (show W'.δ l=W.δ l from hr O) (at_ x.1 nf x.2.1),x.2.2.elim λds q=>q.elim λn q=>⟨ds,n,at_ x.1 (λh=>⟨c,f,Y⟩) q.1,q.2.1,λi=>(q.2.2 i).mono t⟩⟩
 |s vs=>exact⟨x.1,x.2.elim λo q=>⟨o,at_ x.1 nf q.1,q.2⟩⟩
 |fz g=>exact x
 |t a vs=>exact⟨x.1,(hr Z).trans x.2.1,at_ x.1 nf x.2.2⟩
def HR.A5{o:bC}(H:HR g W h)(lt:∀p∈W.n,p.1<a):HR g ⟨W.bY,(a,o)::W.n⟩ h/\Ext X W h ⟨W.bY,(a,o)::W.n⟩ h:=
 ⟨⟨λl q e=>OR.bU (W:=W) ⟨λl d=>⟨d,Y⟩,λb b m=>.tail _ m⟩ (λb=>Y) (λb b b b m=>.tail _ m) (H.aC l q e),iY.mpr ⟨λm=>(bX.mp m).elim λp q=>dq _ (q.2▸lt p q.1),H.aI⟩,H.aO,H.aF,H.aK⟩,
   λl d=>⟨d,id,λb=>Y⟩,λp m b b=>.tail _ m,λp m=>⟨p.2,.tail _ m⟩,λb n d=>ax d n,λb=>id⟩
noncomputable abbrev Wd.kR(W:Wd)(l:Loc)(a d:aY)(new:List (aY×bC)):Wd:=⟨λp=>if p.1=l then(if p.2 then d else a)else W.bY p,new++W.n⟩
def Wd.tu{d:aY}{new:List (aY×bC)}{o:af}(hl:h l=U):Tu W (W.kR l a d new) (aZ h) (aZ (h.aH l o)):=
 ⟨λk q=>⟨(sF k).mpr (.inr q),au (λe:k=l=>q (ak e hl))⟩,λb b m=>dI _ m⟩
def Kf{k:Loc}(e:k≠l)(q:iK (h.aH l o k)):iK (h k):=aj (aQ e (h:=h)) q
def HR.Q6{d:aY}{new:List (aY×bC)}(H:HR g W h)(hl:h l=U)(l0:l.1≠0)(lt:∀p∈W.n,∀q∈new,p.1<q.1)(hn:(new.map (·.1)).Nodup)(ha:∀b,(b=O->iK (M o))->∃c,(if b then d else a,c)∈new)(hd:iK (M o)->d≠a)
 (x:OR (W.kR l a d new) (aZ (h.aH l o)) l o):HR g (W.kR l a d new) (h.aH l o)/\Ext X W h (W.kR l a d new) (h.aH l o):=by
 have nl:∀{k},aZ h k->k≠l:=λq e=>q (ak e hl);have at_:∀b,(W.kR l a d new).bY (l,b)=if b then d else a:=λb=>aw Y
 have ne:∀{k} (b),k≠l->(W.kR l a d new).bY (k,b)=W.bY (k,b):=λb e=>au e;have ow:∀{p},Own (h.aH l o) p->p.1≠l->Own h p:=λq e=>⟨q.1,((sF _).mp q.2.1).resolve_left e,λw=>Kf e (q.2.2 w)⟩
 have iz:∀{b},Own (h.aH l o) (l,b)->b=O->iK (M o):=λq w=>aj bo (q.2.2 w);have sep:∀{b q},Own (h.aH l o) (l,b)->Own h q->(W.kR l a d new).bY (l,b)≠W.bY q:=λq1 q2 e=>(ha _ (iz q1)).elim λc m=>(H.cH q2).elim λc' m'=>dq _ (((at_ _).symm.trans e)▸lt _ m'.1 _ m)
 refine⟨⟨λk q e=>?_,?_,λk k0=>(ne _ λe=>l0 (aj e k0)).trans (H.aO k k0),⟨λp hp=>⟨(sF _).mpr (.inr (H.aF.1 p hp).1),(ne _ (nl (H.aF.1 p hp).1)).trans (H.aF.1 p hp).2⟩,H.aF.2.aH l0⟩,λp q op oq e=>?_⟩,λk q=>⟨(sF k).mpr (.inr q),Kf (nl q),λb=>ne b (nl q)⟩,λp m f f=>dI _ m,λp m=>⟨p.2,dI _ m⟩,λk n q=>?_,λk q=>?_⟩
 .by_cases e':k=l
  .subst e';cases bo.symm.trans e;exact x
  .exact(H.aC k q ((aQ e').symm.trans e)).bU (Wd.tu hl) (λb=>ne b e') λf f f f m=>dI _ m
 .rw[dF,t8];exact⟨hn,H.aI,λx hx y hy e=>(bX.mp hx).elim λp hp=>(bX.mp hy).elim λq hq=>dq q.1 (by have:=lt q hq.1 p hp.1;rwa [hp.2,e,<-hq.2]at this)⟩
 .obtain⟨k,b⟩:=p;obtain⟨k',b'⟩:=q;by_cases e1:k=l<;>by_cases e2:k'=l
  .subst e1;subst e2;rw[at_,at_]at e;cases b<;>cases b'
   .rfl
   .exact ax e.symm (hd (iz oq Y))
   .exact ax e (hd (iz op Y))
   .rfl
  .subst e1;exact ax (e.trans (ne _ e2)) (sep op (ow oq e2))
  .subst e2;exact ax (e.symm.trans (ne _ e1)) (sep oq (ow op e1))
  .exact H.aK _ _ (ow op e1) (ow oq e2) ((ne _ e1).symm.trans (e.trans (ne _ e2)))
 .obtain rfl:k=l:=((sF k).mp q).resolve_right n;exact⟨l0,λb q p m e=>(ha b (iz q)).elim λc mc=>dq _ (((at_ b).symm.trans e)▸lt p m _ mc)⟩
 .exact q.elim λa q=>q.elim λv q=>⟨a,v,(aQ (nl (nH q))).trans q⟩
noncomputable def fk(d:aY)(o:bC)(l:List (aY×bC)):List (aY×bC):=l.map λp=>if p.1=d then(d,o)else p
def xu{d:aY}{o:bC}{l:List (aY×bC)}:(fk d o l).map (·.1)=l.map (·.1):=by
 rw[fk,fC];refine Jm λp a=>?_;by_cases e:p.1=d
 .exact(aq qf (aw e)).trans e.symm
 .exact aq qf (au e)
def j7{d:aY}{o:bC}{l:List (aY×bC)}{p:aY×bC}(h:p.1≠d)(m:p∈l):p∈fk d o l:=bX.mpr ⟨p,m,au h⟩
def vP{d:aY}{o o':bC}{l:List (aY×bC)}(m:(d,o')∈l):(d,o)∈fk d o l:=bX.mpr ⟨_,m,aw Y⟩
def abd{d:aY}{o:bC}{l:List (aY×bC)}(h:∀p∈l,p.1≠d):fk d o l=l:=(Jm λp m=>au (h p m)).trans (List.map_id _)
def abe{d:aY}{o o':bC}{l:List (aY×bC)}(n:(l.map (·.1)).Nodup)(m:(d,o)∈l):Upd d o o' l (fk d o' l):=by
 induction l with
 |nil=>cases m
 |cons p r ih=>
  have n:=iY.mp n;by_cases e:p.1=d
  .obtain rfl:p=(d,o):=(cU.mp m).elim Eq.symm λm=>ax (show p.1∈r.map qf from aj e.symm (gW m)) n.1
   have no:=λp hp q=>n.1 (bX.mpr ⟨p,hp,q⟩);rw[fk,l6,aw Y,<-fk,abd no];exact .head no
  .rw[fk,l6,au e];exact .tail e (ih n.2 ((cU.mp m).resolve_left λq=>e (aj q Y)))
def HR.Q7{b:Bool}{c:bC}(H:HR g W h)(ob:Own h (l,b))(ni:iK (M o)->iK (h l))(nt:pC (h l)->pC (M o))(x:Tu W ⟨W.bY,fk (W.bY (l,b)) c W.n⟩ (aZ h) (aZ (h.aH l o))->OR ⟨W.bY,fk (W.bY (l,b)) c W.n⟩ (aZ (h.aH l o)) l o):
 HR g ⟨W.bY,fk (W.bY (l,b)) c W.n⟩ (h.aH l o)/\Ext X W h ⟨W.bY,fk (W.bY (l,b)) c W.n⟩ (h.aH l o):=by
 have dd:∀{k},aZ (h.aH l o) k->aZ h k:=λq=>((sF _).mp q).elim (λe=>ak e ob.2.1) id;have ii:∀{k},iK (h.aH l o k)->iK (h k):=λ{k} q=>by
  by_cases e:k=l
  .subst e;exact ni (aj bo q)
  .exact Kf e q
 have keep:∀p∈W.n,¬j6 W h p.1->p∈fk (W.bY (l,b)) c W.n:=λp m f=>j7 (λe=>f ⟨_,ob,e.symm⟩) m;have t:Tu W ⟨W.bY,fk (W.bY (l,b)) c W.n⟩ (aZ h) (aZ (h.aH l o)):=⟨λk q=>⟨(sF k).mpr (.inr q),Y⟩,λa vs m=>keep _ m (H.nN m Q5)⟩
 refine⟨⟨λk q e=>?_,by rw[xu];exact H.aI,H.aO,⟨λp hp=>⟨(sF _).mpr (.inr (H.aF.1 p hp).1),(H.aF.1 p hp).2⟩,H.aF.2.aH ob.1⟩,λp q op oq e=>H.aK p q ⟨op.1,dd op.2.1,λw=>ii (op.2.2 w)⟩ ⟨oq.1,dd oq.2.1,λw=>ii (oq.2.2 w)⟩ e⟩,λk q=>⟨(sF k).mpr (.inr q),ii,λd=>Y⟩,λp m f d=>keep p m f,λp m=>?_,λk n q=>ax (dd q) n,λk q=>?_⟩
 .by_cases e':k=l
  .subst e';cases bo.symm.trans e;exact x t
  .have e:=(aQ e').symm.trans e;exact(H.aC k q e).bU t (λd=>Y) λb' c' k0 i m=>j7 (λe2=>e' (aq (·.1) (H.aK (k,b') (l,b) ⟨k0,nH e,λw=>ak e (i w)⟩ ob e2))) m
 .exact(bX.mp (ak xu (gW m))).elim λq hq=>⟨q.2,hq.2▸hq.1⟩
 .by_cases e:k=l
  .subst e;exact ak bo (nt q)
  .exact ak (aQ e) q
end
def ia(x:V):J1×List J1:=V.rec (motive:=λa=>J1×List J1) (.none,[]) (λb=>(.bool b,[])) (λi=>(.int i,[])) (λs=>(.str s,[])) (λa=>(.none,[])) (λa=>(.none,[])) (.tuple [],[]) (λa a A B=>(.tuple (A.1::B.2),A.1::B.2)) x
def TH(W:Wd)(h:fL):Prop:=∀a vs,TupAt W a vs->h.get? a=M (iJ vs)
def aaY{a b:V}{d:Nat}(ha:a.cV d=O)(hb:b.cV (d+1)=O)(c:b.ja=O):(V.iG a b).cV (d+1)=O:=(dS.mpr ⟨ha,dS.mpr ⟨hb,c⟩⟩:(a.cV d&&(b.cV (d+1)&&b.ja))=O)
def A6{a b:V}{d:Nat}(k:(V.iG a b).cV d=O):0<d/\a.cV (d-1)=O/\b.cV d=O/\b.ja=O:=by
 have h:=dS.mp k;have h2:=dS.mp h.2
 have h3:=dS.mp h2.2;exact⟨jo h.1,h2.1,h3.1,h3.2⟩
def KV(W:Wd)(D:Loc->Prop)(h:fL)(x:V)(d:Nat):Prop:=(sG x).1.isDKey=O/\(sG x).1.depth<=d+1/\(ia x).1.depth<=d+1/\∀v,VR W D v x->(∃as,Reads h v (ia x).1 as)/\Well w0.params h v (sG x).1/\(ia x).1.canLay0=O
section
variable{h:fL} {x:V} {d:Nat} (hh:KV W D h x d)
def KV.aK:=hh.1
def KV.aI:=hh.2.1
def KV.aF:=hh.2.2.1
def KV.aC:=hh.2.2.2
end
def sJ(W:Wd)(D:Loc->Prop)(h:fL)(x:V)(d:Nat):Prop:=WData.areDKeys (sG x).2=O/\WData.depthAll (sG x).2<=d/\ZR (ia x).2<=d/\∀vs,jW W D vs x->(∃as,aaC h vs (ia x).2 as)/\WellAll w0.params h vs (sG x).2/\aoo (ia x).2=O
section
variable{h:fL} {x:V} {d:Nat} (hh:sJ W D h x d)
def sJ.aK:=hh.1
def sJ.aF:=hh.2.1
def sJ.aI:=hh.2.2.1
def sJ.aC:=hh.2.2.2
end
variable{h:fL}
def sJ.cq(T:TH W h){x:V}{d:Nat}(c:x.ja=O)(k:sJ W D h x d):KV W D h x d:=by
 have ew:(sG x).1=.tuple (sG x).2:=by cases x<;>first|rfl|(cases c;done)
 have ep:(ia x).1=.tuple (ia x).2:=by cases x<;>first|rfl|(cases c;done)
 have er:∀v,VR W D v x->uh W (λvs=>jW W D vs x) v:=by cases x<;>first|exactλb h=>h|(cases c;done)
 refine⟨by rw[ew];exact k.aK,by rw[ew,WData.depth];exact j3 k.aF,by rw[ep,ao2];exact j3 k.aI,λv hv=>(er v hv).elim λa q=>q.elim λvs q=>?_⟩
 obtain⟨⟨as,r1⟩,r2,r3⟩:=k.aC vs q.2.2;obtain rfl:=q.1;rw[ew,ep];exact⟨⟨_,.tuple (T a vs q.2.1) Y Y r1⟩,.tuple (T a vs q.2.1) r2,r3⟩
def vQ(T:TH W h)(x:V):∀d,x.cV d=O->KV W D h x d/\sJ W D h x d:=by
 have leaf:∀{x:V}{d:Nat},(sG x).2=[]->(ia x).2=[]->(∀vs,¬jW W D vs x)->sJ W D h x d:=λe1 e2 n=>⟨by rw[e1];rfl,by rw[e1];exact b7 _,by rw[e2];exact b7 _,λvs q=>ax q (n vs)⟩
 induction x with
 |n=>exactλd c=>⟨⟨Y,b7 _,b7 _,λv e=>by subst e;exact⟨⟨_,.none⟩,.none,Y⟩⟩,leaf Y Y λc=>id⟩
 |i i=>exactλd c=>⟨⟨Y,b7 _,b7 _,λv e=>by obtain⟨t,rfl⟩:=e;exact⟨⟨_,.int i t⟩,.int i t,Y⟩⟩,leaf Y Y λc=>id⟩
 |s s=>exactλd c=>⟨⟨Y,b7 _,b7 _,λv e=>by obtain⟨t,rfl,k⟩:=e;exact⟨⟨_,.str s t⟩,.str s t,k⟩⟩,leaf Y Y λc=>id⟩
 |kB=>
  intro d k;have:sJ W D h .kB d:=⟨Y,b7 _,b7 _,λvs e=>by subst e;exact⟨⟨_,.nil⟩,.nil,Y⟩⟩
  exact⟨this.cq T Y,this⟩
 |iG a b ha hb=>
  intro d k;refine uf (A6 k) λk0 k1 k2 k3=>?_;have A:=(ha _ k1).1
  have B:=(hb _ k2).2;have e:=PM k0
  have:sJ W D h (.iG a b) d:=⟨dS.mpr ⟨A.aK,B.aK⟩,Qr.mpr ⟨aj e A.aI,B.aF⟩,Qr.mpr ⟨aj e A.aF,B.aI⟩,λvs q=>by obtain⟨u,r,rfl,p,q⟩:=q;obtain⟨⟨as,a1⟩,a2,a3⟩:=A.aC u p;obtain⟨⟨bs,b1⟩,b2,b3⟩:=B.aC r q;exact⟨⟨_,.cons a1 b1⟩,.cons a2 b2,dS.mpr ⟨a3,b3⟩⟩⟩
  exact⟨this.cq T Y,this⟩
 |_=>exactλd k=>b9 k
def tg(x:V):Nat:=V.rec (motive:=λa=>Nat) 0 (λa=>1) (λa=>2) (λa=>3) (λa=>4) (λa=>5) 6 (λa a a a=>7) x
def nT{x y:V}(h:dM (tg x) (tg y)=Z):x≠y:=λe=>by rw[e,AU]at h;exact b9 h
def nF{p:Prop}{b:Bool}(e:b=Z)(h:b=O):p:=ax (e.symm.trans h) dZ
def nI{p q:Prop}(a:¬p)(b:¬q):p↔q:=⟨λz=>ax z a,λz=>ax z b⟩
def Q8(x:V):∀{y:V}{d e:Nat},x.cV d=O->y.cV e=O->(AW (ia x).1 (ia y).1=O↔x=y)/\(x.ja=O->y.ja=O->(JC (ia x).2 (ia y).2=O↔x=y)):=by
 have lf:∀{x y:V},x.ja=Z->(AW (ia x).1 (ia y).1=O↔x=y)->(AW (ia x).1 (ia y).1=O↔x=y)/\(x.ja=O->y.ja=O->(JC (ia x).2 (ia y).2=O↔x=y)):=λc h=>⟨h,nF c⟩;have lr:∀{x y:V},y.ja=Z->(AW (ia x).1 (ia y).1=O↔x=y)->(AW (ia x).1 (ia y).1=O↔x=y)/\(x.ja=O->y.ja=O->(JC (ia x).2 (ia y).2=O↔x=y)):=λc h=>⟨h,λf=>nF c⟩
 induction x with
 |n=>
  intro y d e _ hy;cases y with
  |n=>exact lf Y ⟨λf=>Y,λf=>Y⟩
  |i _=>exact lf Y (nI dZ (nT Y))
  |s _=>exact lf Y (nI dZ (nT Y))
  |kB=>exact lf Y (nI dZ (nT Y))
  |iG _ _=>exact lf Y (nI dZ (nT Y))
  |_=>exact nF Y hy
 |i i=>
  intro y d e _ hy;cases y with
  |i j=>exact lf Y ⟨λh=>aq V.i (bq h),λh=>by injection h with h;exact beq_iff_eq.mpr h⟩
  |n=>exact lf Y (nI dZ (nT Y))
  |s _=>exact lf Y (nI dZ (nT Y))
  |kB=>exact lf Y (nI dZ (nT Y))
  |iG _ _=>exact lf Y (nI dZ (nT Y))
  |_=>exact nF Y hy
 |s i=>
  intro y d e _ hy;cases y with
  |s j=>exact lf Y ⟨λh=>aq V.s (bq h),λh=>by injection h with h;exact beq_iff_eq.mpr h⟩
  |n=>exact lf Y (nI dZ (nT Y))
  |i _=>exact lf Y (nI dZ (nT Y))
  |kB=>exact lf Y (nI dZ (nT Y))
  |iG _ _=>exact lf Y (nI dZ (nT Y))
  |_=>exact nF Y hy
 |kB=>
  intro y d e _ hy;cases y with
  |kB=>exact⟨⟨λf=>Y,λf=>Y⟩,λf f=>⟨λf=>Y,λf=>Y⟩⟩
  |iG _ _=>exact⟨nI dZ (nT Y),λf f=>nI dZ (nT Y)⟩
  |n=>exact lr Y (nI dZ (nT Y))
  |i _=>exact lr Y (nI dZ (nT Y))
  |s _=>exact lr Y (nI dZ (nT Y))
  |_=>exact nF Y hy
 |iG a b ha hb=>
  intro y d e hx hy;have k:=A6 hx
  cases y with
  |iG a' b'=>
   have k':=A6 hy;have z:(JC (ia (.iG a b)).2 (ia (.iG a' b')).2=O)↔V.iG a b=.iG a' b':=dS.trans ⟨λh=>congr (aq _ ((ha k.2.1 k'.2.1).1.mp h.1)) (((hb k.2.2.1 k'.2.2.1).2 k.2.2.2 k'.2.2.2).mp h.2),λh=>by injection h with h1 h2;exact⟨(ha k.2.1 k'.2.1).1.mpr h1,((hb k.2.2.1 k'.2.2.1).2 k.2.2.2 k'.2.2.2).mpr h2⟩⟩
   exact⟨z,λf f=>z⟩
  |kB=>exact⟨nI dZ (nT Y),λf f=>nI dZ (nT Y)⟩
  |n=>exact lr Y (nI dZ (nT Y))
  |i _=>exact lr Y (nI dZ (nT Y))
  |s _=>exact lr Y (nI dZ (nT Y))
  |_=>exact nF Y hy
 |_=>exactλk=>nF Y k
noncomputable def sc(v:aS):Option V:=if h:v.ctorIdx=4 then aqd v h λi a=>M (.i i)else if v.ctorIdx=0 then M .n else if h:v.ctorIdx=6 then Value.str.elim v h λs a=>M (.s s)else U
def Kh{x:V}{d:Nat}{v:aS}(k:x.cV d=O)(h:VR W D v x):sc v=if x.ja=O then U else M x:=by
 cases x with
 |n=>cases h;exact(au dZ).symm
 |i i=>obtain⟨t,rfl⟩:=h;exact(au dZ).symm
 |s i=>obtain⟨t,rfl,_⟩:=h;exact(au dZ).symm
 |kB=>obtain⟨a,vs,rfl,_⟩:=h;exact(aw Y).symm
 |iG a b=>obtain⟨a,vs,rfl,_⟩:=h;exact(aw Y).symm
 |_=>exact nF Y k
def Ki{x:V}(c:x.ja=O){v:aS}(h:VR W D v x):uh W (λvs=>jW W D vs x) v:=by
 cases x with
 |kB=>exact h
 |iG a b=>exact h
 |_=>exact nF Y c
def VR.abf(T:TH W h)(x:V):∀{y:V}{d e:Nat},x.cV d=O->y.cV e=O->(∀v,VR W D v x->VR W D v y->x=y)/\(x.ja=O->y.ja=O->∀vs,jW W D vs x->jW W D vs y->x=y):=by
 have val:∀{x y:V}{d e:Nat},x.cV d=O->y.cV e=O->(x.ja=O->y.ja=O->∀vs,jW W D vs x->jW W D vs y->x=y)->∀v,VR W D v x->VR W D v y->x=y:=λ{x y d e} kx ky k v p q=>by
  have s:=(Kh kx p).symm.trans (Kh ky q);by_cases c:x.ja=O
  .by_cases c':y.ja=O
   .obtain⟨a,vs,rfl,t,r⟩:=Ki c p;refine ug (Ki c' q) λa' vs' e t' r'=>?_;cases e;have:=aq Df (bF ((T _ _ t).symm.trans (T _ _ t')))
    injection this with this
    exact k c c' vs r (ak (show vs=vs' from aq Array.toList this) r')
   .rw[aw c,au c']at s;cases s
  .by_cases c':y.ja=O
   .rw[au c,aw c']at s;cases s
   .rw[au c,au c']at s;exact bF s
 induction x with
 |kB=>
  intro y d e hx hy;have B:V.kB.ja=O->y.ja=O->∀vs,jW W D vs .kB->jW W D vs y->V.kB=y:=λf c vs p q=>by
   cases y with
   |kB=>rfl
   |iG a b=>refine xm q λu r e f=>?_;cases p.symm.trans e
   |_=>exact nF Y c
  exact⟨val hx hy B,B⟩
 |iG a b ha hb=>
  intro y d e hx hy;have B:(V.iG a b).ja=O->y.ja=O->∀vs,jW W D vs (.iG a b)->jW W D vs y->V.iG a b=y:=λf c vs p q=>by
   obtain⟨u,r,rfl,p1,p2⟩:=p;cases y with
   |kB=>cases(q)
   |iG a' b'=>
    have k:=A6 hx;have k':=A6 hy
    refine ug q λu' r' e q1 q2=>?_;injection e with e1 e2
    subst e1;subst e2;rw[(ha k.2.1 k'.2.1).1 _ p1 q1,(hb k.2.2.1 k'.2.2.1).2 k.2.2.2 k'.2.2.2 _ p2 q2]
   |_=>exact nF Y c
  exact⟨val hx hy B,B⟩
 |_=>intro y d e hx hy;first|exact nF Y hx|exact⟨val hx hy (nF Y),nF Y⟩
def Q9{A B:Prop}{ah:Prop}(h:A/\B)(k:A->B->ah):ah:=by refine oA h λa0 a1=>?_;exact k a0 a1
def A7{A B C:Prop}{ah:Prop}(h:A/\B/\C)(k:A->B->C->ah):ah:=by refine qG h λa0 a1 a2=>?_;exact k a0 a1 a2
def A8{α:Sort _}{A:α->Prop}{ah:Prop}(h:∃x,A x)(k:∀x,A x->ah):ah:=by refine oE h λx a0=>?_;exact k x a0
def nO{α:Sort _}{A B:α->Prop}{ah:Prop}(h:∃x,A x/\B x)(k:∀x,A x->B x->ah):ah:=by refine bT h λx a0 a1=>?_;exact k x a0 a1
def Ra{α:Sort _}{β:Sort _}{A B C:α->β->Prop}{ah:Prop}(h:∃x y,A x y/\B x y/\C x y)(k:∀x y,A x y->B x y->C x y->ah):ah:=by refine ug h λx y a0 a1 a2=>?_;exact k x y a0 a1 a2
def inS{l:List α}{x:α}:x∈l++[x]:=dI _ (.head _)
def findIdx_eq{p:α->Bool}{l:List α}{i:Nat}{x:α}(hx:l[i]?=M x)(hp:p x=O)(hn:∀j,j<i->∀y,l[j]?=M y->p y=Z):l.findIdx? p=M i:=by
 induction l generalizing i with
 |nil=>cases hx
 |cons a r ih=>
  rw[Jq];cases i with
  |zero=>cases hx;rw[hp];rfl
  |succ i=>
   rw[hn 0 (fY _) a Y,ih hx λj hj y hy=>hn (j+1) (vE hj) y hy]
   rfl
def A9{ab:Model}{A:sA}{E:QE}{s:bL}{c:Prop} [Decidable c]{a b:hU α}{Q:α->bL->Prop}(h1:c->wpAny ab A a Q E s)(h2:¬c->wpAny ab A b Q E s):wpAny ab A (if c then a else b) Q E s:=by
 by_cases h:c
 .rw[aw h];exact h1 h
 .rw[au h];exact h2 h
def Ba{ab:Model}{A:sA}{E:QE}{s:bL}{c:Prop} [Decidable c]{a b:hU α}{Q:α->bL->Prop}(n:¬c)(h2:wpAny ab A b Q E s):wpAny ab A (if c then a else b) Q E s:=by rw[au n];exact h2
def nQ(es:Es)(x:V):Option Nat:=es.findIdx? λe=>decide (e.1=x)
def abi{es:Es}{x:V}:nQ es x=U↔∀(i:Nat)(e:V×V),es[i]?=M e->e.1≠x:=by
 unfold nQ;rw[List.findIdx?_eq_none_iff]
 constructor
 .intro h i e he;simpa using h e (cO he)
 .intro h e he;refine A8 (sj he) λi hi=>?_
  simpa using h i e hi
def Rb{es:Es}(n:(es.map (·.1)).Nodup){i j:Nat}{a b:V×V}(hi:es[i]?=M a)(hj:es[j]?=M b)(e:a.1=b.1):i=j:=by
 have h1:(es.map (·.1))[i]?=M a.1:=by rw[gX,hi];rfl
 have h2:(es.map (·.1))[j]?=M a.1:=by rw[gX,hj,e];rfl
 exact(ua (by have:=(cG.mp h1).1;exact this) n).mp (h1.trans h2.symm)
def Kj{es:Es}(n:(es.map (·.1)).Nodup){i:Nat}{e:V×V}{x:V}(h:es[i]?=M e)(hx:e.1=x):nQ es x=M i:=by
 refine findIdx_eq h (by simpa using hx) λj hj y hy=>?_
 simp only[decide_eq_false_iff_not];intro q;exact dq _ (Rb n hy h (q.trans hx.symm)▸hj)
variable{A:sA} {E:QE} {s:bL}
def abj{Q:Bool->bL->Prop}{k:Nat}(vs:List aS)(hq:∀v∈vs,∀Q':Bool->bL->Prop,Q' O s->wpAny Md A (JO k v) Q' E s)(h:Q O s):
 wpAny Md A (do
  for y in vs.toArray do
   if !(<-JO k y)then return Z
  return O) Q E s:=by
 refine aN ?_;rw[<-Array.forIn_toList];refine Qg _ (λrest r s'=>r.1=U/\s'=s/\∀v∈rest,v∈vs) _ ?_ ?_ _ _ ⟨Y,Y,λv hv=>hv⟩
 .intro v rest r s' q0;refine A7 q0 λhr q2 Rc=>?_;subst q2;refine aN (hq v (Rc v aot) _ ?_);simp only[C7,CX,if_false];exact bw ⟨Y,Y,λu hu'=>Rc u (aom _ hu')⟩
 .intro q0 s' q1;obtain⟨r1,r2⟩:=q0;refine A7 q1 λhr q2 a=>?_;subst q2;simp only at hr;subst hr;exact bw h
def Quiet(A:sA)(E:QE)(s:bL)(k:Nat)(v:aS):Prop:=∀Q:Bool->bL->Prop,Q O s->wpAny Md A (JO k v) Q E s
def abl{k:Nat}{v:aS}(e:apP v=O):Quiet A E s k v:=λQ h=>by rw[eqIsQuiet_byValue k e];exact bw h
def abm(T:TH W s.heap)(x:V):∀d,x.cV d=O->(∀v,VR W D v x->∀k,d<=k->Quiet A E s k v)/\∀vs,jW W D vs x->∀k,d<=k+1->∀v∈vs,Quiet A E s k v:=by
 have leaf:∀{x:V}{d:Nat},(∀v,VR W D v x->apP v=O)->(∀vs,¬jW W D vs x)->(∀v,VR W D v x->∀k,d<=k->Quiet A E s k v)/\∀vs,jW W D vs x->∀k,d<=k+1->∀v∈vs,Quiet A E s k v:=λh n=>⟨λv q f f=>abl (h v q),λvs q=>ax q (n vs)⟩;have tup:∀{x:V}{d:Nat},x.ja=O->0<d->(∀vs,jW W D vs x->∀k,d<=k+1->∀v∈vs,Quiet A E s k v)->(∀v,VR W D v x->∀k,d<=k->Quiet A E s k v)/\∀vs,jW W D vs x->∀k,d<=k+1->∀v∈vs,Quiet A E s k v:=λc d0 B=>⟨λv q k hk Q h=>(Ki c q).elim λa q=>q.elim λvs q=>by
  obtain rfl:=q.1;have g:=T a vs q.2.1
  have hT:s.TypeIs (.ref a) "tuple":=⟨_,g,Y⟩;cases k with
  |zero=>exact ax d0 (iP.mpr hk)
  |succ k=>unfold JO;exact aN (yt hT F.slot_tuple_eq.lookup (aN (Qf hT isSubtype_tuple_tuple (aN (Qk g Y (abj vs (B vs q.2.2 k hk) h)))))),B⟩
 induction x with
 |n=>exactλd f=>leaf (λv e=>by cases e;rfl) λf=>id
 |i i=>exactλd f=>leaf (λv e=>by obtain⟨t,rfl⟩:=e;rfl) λf=>id
 |s i=>exactλd f=>leaf (λv e=>by obtain⟨t,rfl,_⟩:=e;rfl) λf=>id
 |kB=>exactλd k=>tup Y (jo k) λvs e k f v m=>by cases(e);cases m
 |iG a b ha hb=>
  intro d k;have k:=A6 k
  refine tup Y k.1 λvs q n hn v m=>?_;obtain⟨u,r,rfl,p,q⟩:=q;rcases cU.mp m with e|e
  .subst e;exact(ha _ k.2.1).1 _ p n (Nat.sub_le_of_le_add hn)
  .exact(hb _ k.2.2.1).2 r q n hn v e
 |_=>exactλd k=>nF Y k
def Rf(T:TH W s.heap){x:V}{v:aS}{d:Nat}{Q:Bool->bL->Prop}(hv:VR W D v x)(kx:x.cV d=O)(k:Nat)(hk:d<=k)(h:Q O s):wpAny Md A (JO k v) Q E s:=(abm T x d kx).1 v hv k hk Q h
def Kl(T:TH W s.heap){u v:aS}{x y:V}(hu:VR W D u x)(hv:VR W D v y)(kx:x.cV 7=O)(ky:y.cV 7=O)(hr:A.units+8<cLine):aao A s u v (decide (x=y)):=by
 have a:=(vQ (D:=D) T x 7 kx).1;have b:=(vQ (D:=D) T y 7 ky).1
 have e:=Qb.mpr ((Q8 x kx ky).1.trans decide_eq_true_iff.symm);obtain⟨⟨as,ra⟩,_,ca⟩:=a.aC u hu;obtain⟨⟨bs,rb⟩,_,cb⟩:=b.aC v hv;exact aj e (SeqAt.eqAt_reads _ _ A s u v as bs ra rb ca cb (bM (gu (aV (Qe ..) a.aF) _) hr))
def Rg(T:TH W s.heap){v:aS}{x:V}{Q:Int->bL->Prop}(hv:VR W D v x)(kx:x.cV 7=O)(hr:A.units+8<cLine)(h:∀tk,Q (sH x) {s with toks:=tk}):wpAny Md A (pyHash v) Q E s:=by have a:=(vQ (D:=D) T x 7 kx).1;exact pyHash_laid (sG x).1 v A s Q a.aK (a.aC v hv).2.1 (bM (gu a.aI _) hr) h
def VR.lM(T:TH W s.heap){v:aS}{x y:V}(p:VR W D v x)(q:VR W D v y)(kx:x.cV 7=O)(ky:y.cV 7=O):x=y:=(VR.abf T x kx ky).1 v p q
def abn(T:TH W s.heap){x:V}{v:aS}{JX:List aS}{Q:Bool->bL->Prop}(hv:VR W D v x)(kx:x.cV 7=O)
 (GN:∀u∈JX,∃y,VR W D u y/\y.cV 7=O)(h:Q Z s):wpAny Md A (tableMayTell v JX) Q E s:=by
 unfold tableMayTell
 split
 .exact bw h
 .refine aN (Rf T hv kx 8 (ao Y) ?_);simp only[C7,CX,if_false];refine aN ?_;refine Qg _ (λrest r s'=>s'=s/\r=(U,())/\∀u∈rest,u∈JX) _ ?_ ?_ _ _ ⟨Y,Y,λa m=>m⟩
  .intro u rest r s' q0;refine A7 q0 λq2 q3 hr=>?_;subst q2;subst q3;refine nO (GN u (hr u aot)) λy hy ky=>?_;refine aN (Rf T hy ky 8 (ao Y) ?_);simp only[C7,CX,if_false];exact bw ⟨Y,Y,λw hw=>hr w (aom _ hw)⟩
  .intro r s' q0;refine A7 q0 λq2 q3 a=>?_;subst q2;subst q3;exact bw h
def abo{e:eQ}{b:V×V}{y:aP}(r:DE W D e b):e.key.isStr y=decide (b.1=V.s y):=by
 have rk:=r.aC;have ok:=r.aI
 generalize e.key=u at rk;generalize b.1=z at rk ok;have no:∀{z:V}{b:Bool},b=Z->dM (tg z) 3=Z->b=decide (z=V.s y):=λe h=>e.trans (aA (nT h)).symm
 cases z with
 |s z=>
  obtain⟨t,rfl,_⟩:=rk;by_cases q:z=y
  .subst q;rw[az Y];exact beq_self_eq_true z
  .rw[aA λw=>q (by injection w)];exact beq_eq_false_iff_ne.mpr q
 |n=>cases rk;exact no Y rfl
 |i i=>obtain⟨t,rfl⟩:=rk;exact no Y rfl
 |kB=>obtain⟨a,vs,rfl,_⟩:=rk;exact no Y rfl
 |iG a b=>obtain⟨a,vs,rfl,_⟩:=rk;exact no Y rfl
 |_=>exact nF Y ok
def abp{ds:List eQ}{es:Es}{y:aP}(R:bP (DE W D) ds es):ds.toArray.findIdx? (·.key.isStr y)=nQ es (.s y):=by
 rw[List.findIdx?_toArray,nQ];obtain⟨zs,rfl,rfl,k⟩:=R
 induction zs with
 |nil=>rfl
 |cons z r ih=>rw[l6,l6,Jq,Jq,abo (k z (.head _)),ih λw m=>k w (.tail _ m)]
set_option tactic.hygienic true in
def Rh(T:TH W s.heap){d:aY}{ds:List eQ}{n:Nat}{es:Es}{key:aS}{x:V}{Q:Option Nat->bL->Prop}
 (ho:s.heap.get? d=M (iZ ds n))(R:bP (DE W D) ds es)(nd:(es.map (·.1)).Nodup)(hk:VR W D key x)(kx:x.cV 7=O)(hr:A.units+8<cLine)
 (h:Q (nQ es x) s):wpAny Md A (dictFind d key (sH x)) Q E s:=by
 have ga:∀i:Nat,ds.toArray[i]?=ds[i]?:=λi=>AK ..;have hsz:ds.toArray.size=ds.length:=q8 ..
 have Km:∀i(e:eQ)(y:V×V),ds[i]?=M e->es[i]?=M y->aao A s e.key key (decide (y.1=x)):=λi e y h1 h2=>by refine nO (R.nK h2) λe' g1 g2=>?_;rw[h1]at g1;cases g1;exact Kl T g2.aC hk g2.aI kx hr
 have hash:∀i(e:eQ)(y:V×V),ds[i]?=M e->es[i]?=M y->e.hash=sH y.1:=λi e y h1 h2=>by refine nO (R.nK h2) λe' g1 g2=>?_;rw[h1]at g1;cases g1;exact g2.aF
 have two:∀i (e),ds[i]?=M e->∃y,es[i]?=M y:=λi e h1=>by refine nO (R.yH h1) λy g a=>?_;exact⟨y,g⟩
 have GN:∀u∈(JD ds.toArray.size (λi=>ds.toArray[i]?.map (·.hash)) (sH x)).filterMap (λi=>ds.toArray[i]?.map (·.key)),∃y,VR W D u y/\y.cV 7=O:=by
  intro u hu;refine nO (vA.mp hu) λi a hi=>?_;rw[ga]at hi;cases hd:ds[i]? with
  |none=>rw[hd]at hi;cases hi
  |some e=>
   rw[hd]at hi;obtain rfl:e.key=u:=by simpa using hi
   refine nO (R.yH hd) λy hy r=>?_;exact⟨y.1,r.aC,r.aI⟩
 have out:∀places,places=JD ds.toArray.size (λi=>ds.toArray[i]?.map (·.hash)) (sH x)->(∀i∈places,∀y,es[i]?=M y->y.1≠x)->nQ es x=U:=by intro places hp yN;refine abi.mpr λi y hy q=>?_;refine nO (R.nK hy) λe he r=>?_;refine yN i ?_ y hy q;rw[hp,JD,lZ,j4];refine⟨aj hsz (cG.mp he).1,?_⟩;rw[ga,he,Option.map_some,r.aF,q];simp
 unfold dictFind
 try with_reducible refine jU ?_
 refine aN (yq ho Y ?_);generalize DC:JD ds.toArray.size (λi=>ds.toArray[i]?.map (·.hash)) (sH x)=places at GN⊢;have plain:wpAny Md A (dictWalkPlain d key (sH x) ds.toArray places) Q E s:=by
  refine aN ?_;refine Qg _ (λrest b s'=>s'=s/\b=(U,())/\∃pre,places=pre++rest/\∀i∈pre,∀y,es[i]?=M y->y.1≠x) _ ?_ ?_ _ _ ⟨Y,Y,[],Y,λa h=>bA h⟩
  .intro i rest b s' q0;refine A7 q0 λq2 q3 q4=>?_;refine nO q4 λpre hp yN=>?_;subst q2;subst q3;have step:∀(q:∀y,es[i]?=M y->y.1≠x),∃pre,places=pre++rest/\∀i∈pre,∀y,es[i]?=M y->y.1≠x:=λq=>
    ⟨pre++[i],by rw[hp];simp,λj hj y hy=>by
     rcases cZ.mp hj with hj|hj
     .exact yN j hj y hy
     .obtain rfl:j=i:=by simpa using hj
      exact q y hy⟩
   rw[ga];cases hd:ds[i]? with
   |none=>refine bw ⟨Y,Y,step λy hy=>?_⟩;refine nO (R.nK hy) λe he a=>?_;rw[hd]at he;cases he
   |some e=>
    refine A8 (two i e hd) λy hy=>?_;dsimp only;by_cases hh:(e.hash==sH x)=O
    .rw[aw hh];refine aN (vF ho Y (aN (Km i e y hd hy _ _ _ _ (aN (vF ho Y ?_)))));rw[au (by simp)]
     by_cases q:y.1=x
     .rw[az q];rw[Kj nd hy q]at h;exact aN (qe (bw (bw h)))
     .exact ak (aA q) (aN (qe (bw ⟨Y,Y,step λy' vU=>by rw[hy]at vU;cases vU;exact q⟩)))
    .rw[au hh];refine bw ⟨Y,Y,step λy' vU q=>hh ?_⟩;rw[hash i e y' hd vU,q];simp
  .intro b s' q0;refine A7 q0 λq2 q3 q4=>?_;refine nO q4 λpre hp yN=>?_;subst q2;subst q3;rw[i8]at hp;subst hp;rw[out _ DC.symm yN]at h;exact bw h
 have Bb:places.Nodup:=by rw[<-DC,JD];exact Jn.nodup AO
 extract_lets _ JX fD j2 j1 j0
 have h2:wpAny Md A (j2 Z) Q E s:=by
  refine Ba dZ (aN ?_);refine Qg _ (λrest b s'=>s'=s/\∃pre fD,b=(U,fD)/\places=pre++rest/\((fD=U/\∀i∈pre,∀y,es[i]?=M y->y.1≠x)\/∃j y,fD=M j/\j∈pre/\es[j]?=M y/\y.1=x)) _ ?_ ?_ _ _ ⟨Y,[],U,Y,Y,.inl ⟨Y,λa h=>bA h⟩⟩
  .intro i rest b s' q0;refine Q9 q0 λq2 q3=>?_;refine Ra q3 λpre fD q4 hp hH=>?_;subst q2;subst q4;have ni:=λm=>by rw[hp,t8]at Bb;exact Bb.2.2 i m i (.head _) Y
   have Kn:(∀y,es[i]?=M y->y.1≠x)->∃Ko xw,(U,fD)=((U:Option (Option Nat)),xw)/\places=Ko++rest/\((xw=U/\∀i∈Ko,∀y,es[i]?=M y->y.1≠x)\/∃j y,xw=M j/\j∈Ko/\es[j]?=M y/\y.1=x):=λq=>
    ⟨pre++[i],fD,Y,hp.trans (aoO ..),hH.imp (λz=>⟨z.1,λj hj y hy=>by
     rcases cZ.mp hj with hj|hj
     .exact z.2 j hj y hy
     .exact q y (aj (bK.mp hj) hy)⟩) λq=>q.imp λj q=>q.imp λy q=>⟨q.1,dU _ q.2.1,q.2.2⟩⟩
   rw[ga];cases hd:ds[i]? with
   |none=>refine bw ⟨Y,Kn λy hy=>?_⟩;refine nO (R.nK hy) λe he a=>?_;rw[hd]at he;cases he
   |some e=>
     refine A8 (two i e hd) λy hy=>A9 (λhh=>?_) λhh=>?_
     .refine aN (vF ho Y (aN (Km i e y hd hy _ _ _ _ (aN (vF ho Y ?_)))));refine Ba (by simp) (A9 (λq=>?_) λq=>?_)
      .have q:=aB q;rcases hH with⟨rfl,_⟩|⟨j,z,_,hj,hz,Kq⟩
       .refine Ba dZ (aN (qe ?_));refine A9 (λa=>bw ?_) λa=>bw ?_
        .rw[Kj nd hy q]at h;exact bw h
        .exact⟨Y,pre++[i],M i,Y,hp.trans (aoO ..),.inr ⟨i,y,Y,inS,hy,q⟩⟩
       .exact ax (aj (Rb nd hz hy (Kq.trans q.symm)) hj) ni
      .refine aN (qe (Ba dZ ?_));exact bw ⟨Y,Kn λy' vU=>by rw[hy]at vU;cases vU;exactλz=>q (az z)⟩
     .refine bw ⟨Y,Kn λy' vU q=>hh ?_⟩;rw[hash i e y' hd vU,q];exact beq_self_eq_true _
  .intro b s' q0;refine Q9 q0 λq2 q3=>?_;refine Ra q3 λpre fD q4 hp hH=>?_;subst q2;subst q4;rw[i8]at hp;subst hp;rcases hH with⟨rfl,yN⟩|⟨j,z,rfl,_,hz,Kq⟩
   .rw[out _ DC.symm yN]at h;exact bw h
   .rw[Kj nd hz Kq]at h;exact bw h
 have h1:wpAny Md A (j1 ()) Q E s:=A9 (λa=>aN (bw h2)) λa=>aN (abn T hk kx GN h2);have h0:wpAny Md A (j0 ()) Q E s:=by
  refine A9 (λa=>plain) λa=>?_
  split
  .refine Ba ?_ h1;rw[<-aoH,ZV];intro q0;refine nO q0 λe hin hc=>?_;refine A8 (sj hin) λi hi=>?_;refine nO (R.yH hi) λy hy r=>?_;simp only[Bool.and_eq_true,beq_iff_eq,bne_iff_ne,ne_eq]at hc;have rk:=r.aC
   rw[hc.1]at rk;exact hc.2 (r.aF.trans (aq _ (VR.lM T rk hk r.aI kx)))
  .exact h1
 clear_value j0
 by_cases hs:∃y,x=.s y
 .obtain⟨y,rfl⟩:=hs;obtain⟨t,rfl,ok⟩:=hk;refine A9 (λa=>?_) λa=>h0;unfold foundByValue;rw[abp R];cases hq:nQ es (.s y)with
  |none=>rw[hq]at h;exact bw h
  |some j=>
   refine nO (Zh.mp hq) λhj hjp a=>?_;have hy:=iO hj
   refine nO (R.nK hy) λe hd r=>?_;dsimp only;rw[ga,hd];refine aN (vF ho Y (aN (Km j e _ hd hy _ _ _ _ (aN (vF ho Y ?_)))));refine Ba (by simp) ?_
   rw[hjp];rw[hq]at h;exact aN (qe (bw h))
 .split
  .next s tok=>
   have e:=Kh kx hk;by_cases c:x.ja=O
   .exact hV (e.trans (aw c))
   .exact ax ⟨s,(bF (e.trans (au c))).symm⟩ hs
  .exact h0
noncomputable def bI(es:Es)(x:V):Option V:=rv U (λe a ih=>if e.1=x then M e.2 else ih) es
noncomputable def cX(es:Es)(x y:V):Es:=rv [(x,y)] (λe r ih=>if e.1=x then(e.1,y)::r else e::ih) es
def ui{e:V×V}{r:Es}{x:V}:bI (e::r) x=if e.1=x then M e.2 else bI r x:=Y
def yO{e:V×V}{r:Es}{x y:V}:cX (e::r) x y=if e.1=x then(e.1,y)::r else e::cX r x y:=Y
def Ri(e:V×V)(r:Es)(x:V):nQ (e::r) x=if e.1=x then M 0 else(nQ r x).map (·+1):=by
 rw[nQ,Jq];by_cases h:e.1=x
 .rw[az h,aw Y,aw h]
 .rw[aA h,au dZ,au h];rfl
def abt{x:V}{es:Es}:bI es x=(nQ es x).bind λi=>es[i]?.map (·.2):=by
 induction es with
 |nil=>rfl
 |cons e r ih=>
  rw[ui,Ri,ih];by_cases h:e.1=x
  .rw[aw h,aw h];rfl
  .rw[au h,au h];cases nQ r x<;>rfl
def abu{x y:V}{es:Es}:cX es x y=match nQ es x with|some i=>es.modify i λe=>(e.1,y)|none=>es++[(x,y)]:=by
 induction es with
 |nil=>rfl
 |cons e r ih=>
  rw[yO,Ri,ih];by_cases h:e.1=x
  .rw[aw h,aw h];rfl
  .rw[au h,au h];cases nQ r x<;>rfl
def GO{es:Es}{x y:V}:(cX es x y).map (·.1)=if x∈es.map (·.1)then es.map (·.1)else es.map (·.1)++[x]:=by
 induction es with
 |nil=>exact(au (Gh)).symm
 |cons e r ih=>
  rw[yO];by_cases h:e.1=x
  .rw[aw h,aw (aj h (.head _))];rfl
  .rw[au h,l6,ih,l6];by_cases m:x∈r.map (·.1)
   .rw[aw m,aw (.tail _ m)]
   .rw[au m,au λq=>(cU.mp q).elim (λe=>h e.symm) m];rfl
def mK{l:List α}{a:α}(n:l.Nodup)(h:a∉l):(l++[a]).Nodup:=by rw[t8];exact⟨n,an1 ..,λx hx y hy e=>h (aj (bK.mp hy) (aj e hx))⟩
def Rj{es:Es}(n:(es.map (·.1)).Nodup){x y:V}:((cX es x y).map (·.1)).Nodup:=by
 rw[GO];by_cases h:x∈es.map (·.1)
 .rw[aw h];exact n
 .rw[au h];exact mK n h
def Kr{es:Es}{x y:V}:(cX es x y).length<=es.length+1:=by
 have e:=aq JI (GO (es:=es) (x:=x) (y:=y));rw[bc]at e;rw[e];by_cases h:x∈es.map (·.1)
 .rw[aw h,bc];exact l7 _
 .rw[au h,dY,bc];exact b8 _
def Rk{f:α->α}{l:List α}{j:Nat}{a:α}(h:l[j]?=M a):l.modify j f=l.set j (f a):=by obtain⟨lt,rfl⟩:=cG.mp h;rw[List.modify_eq_take_cons_drop lt,List.set_eq_take_append_cons_drop,aw lt]
variable{d:aY} {n:Nat} {es:Es} {key:aS} {x:V}
section
variable{ds:List eQ}
def DD(T:TH W s.heap){Q:Option aS->bL->Prop}
 (ho:s.heap.get? d=M (iZ ds n))(R:bP (DE W D) ds es)(nd:(es.map (·.1)).Nodup)(hk:VR W D key x)(kx:x.cV 7=O)(hr:A.units+8<cLine)
 (h0:bI es x=U->∀tk,Q U {s with toks:=tk})(h1:∀v y,bI es x=M y->VR W D v y->∀tk,Q (M v) {s with toks:=tk}):
 wpAny Md A (Dk d key) Q E s:=by
 unfold Dk
 try with_reducible refine jU ?_
 refine aN (Rg T hk kx hr λtk=>aN (Rh (s:={s with toks:=tk}) T ho R nd hk kx hr ?_))
 have e:=abt (x:=x) (es:=es);cases hq:nQ es x with
 |none=>rw[hq]at e;exact bw (h0 e tk)
 |some j=>
  rw[hq]at e;refine A8 (Zh.mp hq) λhj a=>?_;have hy:=iO hj
  refine nO (R.nK hy) λq hd r=>?_;rw[Option.bind_some,hy]at e;refine aN (yq ho Y ?_);have:ds.toArray[j]?=M q:=by simpa using hd
  exact ak this (bw (h1 _ _ e r.aK tk))
def Rl(T:TH W s.heap){v:aS}{y:V}{Q:Unit->bL->Prop}
 (ho:s.heap.get? d=M (iZ ds es.length))(R:bP (DE W D) ds es)(nd:(es.map (·.1)).Nodup)(hk:VR W D key x)(kx:x.cV 7=O)(hv:VR W D v y)(hr:A.units+8<cLine)(hsz:es.length<=yx)
 (h:∀h' rA tk,qa d s.heap h'->h'.get? d=M (iZ rA (cX es x y).length)->bP (DE W D) rA (cX es x y)->Q () {s with heap:=h',toks:=tk}):
 wpAny Md A (JV d key v) Q E s:=by
 unfold JV
 try with_reducible refine jU ?_
 refine aN (Rg T hk kx hr λtk=>?_);unfold dictSetHashed
 try with_reducible refine jU ?_
 refine aN (Rh (s:={s with toks:=tk}) T ho R nd hk kx hr ?_)
 have e:=abu (x:=x) (y:=y) (es:=es);cases hq:nQ es x with
 |none=>
  rw[hq]at e;refine aN (qe (wpAny_updateDictKeys (hz:=ak q8 (R.iI▸hsz)) (hf:=gy (Array.size_push ..)) ho Y ?_));refine h _ (ds++[⟨sH x,key,v⟩]) tk (tY ..) ((tX (f:=ao3 λes=>es.push ⟨sH x,key,v⟩) ho Y).trans ?_) ?_
  .rw[e,dY];exact aq (λa=>M (ao3 (λb=>a) (iZ ds es.length))) (List.push_toArray ..)
  .rw[e];exact R.xq (.hY ⟨hk,hv,Y,kx⟩ .iH)
 |some j=>
  rw[hq]at e;refine A8 (Zh.mp hq) λhj b=>?_;have hy:=iO hj
  refine nO (R.nK hy) λq hd r=>?_;have e:=e.trans (Rk hy)
  refine aN (qe (aN (wpAny_updateDict ho Y (wpAny_point ?_))));refine h _ (ds.modify j λe=>{e with val:=v}) tk (tY ..) ((tX (f:=apG λes=>es.modify j λe=>{e with val:=v}) ho Y).trans ?_) ?_
  .rw[e,aoW];exact aq (λa=>M (apG (λb=>a) (iZ ds es.length))) (List.modify_toArray ..)
  .rw[e,Rk hd];exact R.dw j ⟨r.aC,hv,r.aF,r.aI⟩
end
structure AS where
 m:Mp
 h:Hp
 t:Nat
noncomputable def bN(k:Nat):Loc:=(99,[k])
abbrev QA:=AS->Prop
abbrev QV:=V->QA
noncomputable def AS.aH(K:AS)(l:Loc)(o:af)(t:Nat):AS:=⟨K.m,K.h.aH l o,t⟩
noncomputable def aJ(m:Mp)(i:Nat)(x:V):Mp:=λj=>if j=i then M x else m j
noncomputable def AS.dw(K:AS)(i:Nat)(x:V):AS:=⟨aJ K.m i x,K.h,K.t⟩
noncomputable def dh(sc:fh)(i:Nat):aP:=match sc.names[i]? with|some p=>p.1|none=>dC
structure Fm where
 h₀:fL
 L:aY
 q:aP
 b:fh
 fo:Option aY
 cd:aS
 l:List (aP×aY)
 f:Option aY
 o:List (aY×Data):=[]
 g:Gx
noncomputable abbrev Fm.bV(F:Fm):kP:={scope:=F.b,locals:=F.L,globals:=lJ,cells:=F.l,qual:=F.q,func:=F.fo,code:=F.cd,frame:=F.f,builtins:=builtinsNs}
def Fm.cH(F:Fm)(a:aY):Prop:=(∃y,F.bV.kindOf y=M .cell/\F.l.lookup y=M a/\F.fo≠U)\/a∈F.o.map (·.1)
def GP(F:Fm)(W:Wd)(m:aP->Option aS)(i:Nat)(v:aS):Prop:=
 (F.bV.kindOf (dh F.b i)=M .local/\m (dh F.b i)=M v)\/
 ((F.bV.kindOf (dh F.b i)=M .cell\/F.bV.kindOf (dh F.b i)=M .free)/\∃a o,F.l.lookup (dh F.b i)=M a/\((a,o)∈W.n\/F.g.X.lookup a=M o)/\o.data=.cell (M v))
def Rm(F:Fm)(W:Wd)(K:AS)(m:aP->Option aS):Prop:=∀i x,K.m i=M x->∃v,GP F W m i v/\VR W (aZ K.h) v x
def BR(g:Gx)(h₀:fL)(L:aY)(W:Wd)(h:Hp)(t:Nat)(s:bL):Prop:=vJ h₀ L s.heap W.n/\HR g W h/\(∀k,t<=k->h (bN k)=U)/\ai.In h₀/\ai.In s.heap/\s.gens=#[]/\s.os=os0/\g.X.In h₀
section
variable{h₀:fL} {L:aY} {h:Hp} {t:Nat} (hh:BR g h₀ L W h t s)
def BR.aF:=hh.1
def BR.aC:=hh.2.1
def BR.aK:=hh.2.2.1
def BR.aI:=hh.2.2.2.1
def BR.aO:=hh.2.2.2.2.1
def BR.cC:=hh.2.2.2.2.2.1
def BR.bz:=hh.2.2.2.2.2.2.1
def BR.bb:=hh.2.2.2.2.2.2.2
end
structure aX(F:Fm)(W:Wd)(K:AS)(s:bL):Prop where
 aC:BR F.g F.h₀ F.L W K.h K.t s
 aO:∃m,Fr F.h₀ F.L s.heap m/\Rm F W K m
 aI:∀y,F.bV.kindOf y=M .cell->∃a o v,F.l.lookup y=M a/\(a,o)∈W.n/\o.data=.cell v
 aK:∀y y' a,F.l.lookup y=M a->F.l.lookup y'=M a->y=y'
 aF:∀p∈F.o,(∃es ep,p.2=.dict es ep)/\(∃o,(p.1,o)∈W.n/\o.data=p.2)/\¬j6 W K.h p.1
variable{F:Fm} {K:AS} {s':bL} {h:Hp} {Q:QV} {v:aS}
def aX.th(R:aX F W K s):TH W s.heap:=λa vs t=>t.1.elim (λm=>(R.aC.aF _ m).1) (R.aC.aO _ _)
def aX.mm(R:aX F W K s):aP->Option aS:=R.aO.choose
def aX.fr(R:aX F W K s):Fr F.h₀ F.L s.heap R.mm:=R.aO.choose_spec.1
def aX.lo(R:aX F W K s):Rm F W K R.mm:=R.aO.choose_spec.2
def aX.lM(R:aX F W K s){o o':bC}:(a,o)∈W.n->(a,o')∈W.n->o=o':=Ke R.aC.aC.aI
def aX.xy(R:aX F W K s){o:bC}(m:(a,o)∈W.n)(x:a∈F.o.map (·.1)):(∃es ep,o.data=.dict es ep)/\¬j6 W K.h a:=by
 obtain⟨p,hp,rfl⟩:=bX.mp x;have z:=R.aF p hp
 exact⟨z.1.elim λes q=>q.elim λep q=>z.2.1.elim λo' r=>⟨es,ep,ak (R.lM m r.1) (r.2.trans q)⟩,z.2.2⟩
def aX.Ro(R:aX F W K s){o:bC}(m:(a,o)∈W.n)(x:F.cH a):(∃v,o.data=.cell v)\/∃es ep,o.data=.dict es ep:=
 x.elim (λq=>q.elim λy q=>(R.aI y q.1).elim λb r=>r.elim λp r=>r.elim λv r=>.inl ⟨v,ak (R.lM m (ak (bF (q.2.1.symm.trans r.1)) r.2.1)) r.2.2⟩) λq=>.inr (R.xy m q).1
def aX.nx(R:aX F W K s):∀a vs,(a,iJ vs)∈W.n->¬F.cH a:=λa vs m q=>(R.Ro m q).elim (λq=>q.elim λb e=>j5 e Y) λq=>q.elim λb q=>q.elim λb e=>j5 e Y
def aX.qJ(R:aX F W K s)(tk:Nat):aX F W K {s with toks:=tk}:=⟨⟨R.aC.aF,R.aC.aC,R.aC.aK,R.aC.aI,R.aC.aO,R.aC.cC,R.aC.bz,R.aC.bb⟩,R.aO,R.aI,R.aK,R.aF⟩
def PG{α β:Type}(rel:Wd->(Loc->Prop)->α->β->Prop)(F:Fm)(W:Wd)(h:Hp)(Q:β->QA)(v:α)(s':bL):Prop:=∃W' bk x,aX F W' bk s'/\Ext F.cH W h W' bk.h/\rel W' (aZ bk.h) v x/\Q x bk
abbrev ib(F:Fm)(W:Wd)(h:Hp)(Q:QV):QE:=PG VR F W h Q
abbrev Ks(F:Fm)(W:Wd)(h:Hp)(Q:Bool->QA):Bool->bL->Prop:=PG (λc c a b=>a=b) F W h Q
abbrev abv(F:Fm)(W:Wd)(h:Hp)(Q:Vs->QA):List aS->bL->Prop:=PG (λW D=>bP (VR W D)) F W h Q
abbrev uj(F:Fm)(W:Wd)(h:Hp)(Q:QA):Unit->bL->Prop:=PG (λa a(_ _:Unit)=>True) F W h λa=>Q
def PG.dc{rel:Wd->(Loc->Prop)->α->β->Prop}{Q:β->QA}{v:α}{ah:Prop}(p:PG rel F W h Q v s')(k:∀W' bk x,aX F W' bk s'->Ext F.cH W h W' bk.h->rel W' (aZ bk.h) v x->Q x bk->ah):ah:=cQ p λW' p=>p.elim λbk p=>p.elim λx p=>k W' bk x p.1 p.2.1 p.2.2.1 p.2.2.2
def PG.dy{rel:Wd->(Loc->Prop)->α->β->Prop}{Q:β->QA}{v:α}(e:Ext F.cH W h bg h₁)(p:PG rel F bg h₁ Q v s'):PG rel F W h Q v s':=p.dc λW' bk x r e' vr q=>⟨W',bk,x,r,e.dy e',vr,q⟩
def kS{rel:Wd->(Loc->Prop)->α->β->Prop}{Q:β->QA}{ab:hU α}(e:Ext F.cH W h bg h₁)(w:wpAny Md A ab (PG rel F bg h₁ Q) E s):wpAny Md A ab (PG rel F W h Q) E s:=wm w λa a p=>p.dy e
def RV(W:Wd)(K:AS)(s:bL)(x:V)(v:aS)(s':bL):Prop:=(∃tk,s'={s with toks:=tk})/\VR W (aZ K.h) v x
def aX.Rp(R:aX F W K s)(r:RV W K s x v s')(q:Q x K):ib F W K.h Q v s':=r.1.elim λtk e=>⟨W,K,x,ak e (R.qJ tk),Ext.jE,r.2,q⟩
structure nR(F:Fm)(A:sA)(n:Nat):Prop where
 cC:0<n->∃outer,F.f=M F.L/\A.frames=M (F.bV::outer)/\∀e∈outer,e.scope.kind≠.module/\∃a,e.frame=M a/\a∈F.o.map (·.1)
 aF:F.b.kind=.function
 aK:A.depth+2*n<=600
 bz:A.units+10*n<=9000
 aC:A.handled=U
 aI:∃p loose mg mb,TopRead p loose mg mb F.h₀
 aO:∃o,F.h₀.get? xh=M o
 bb:A.guards=M []
def nR.un(c:nR F A n):A.units<=9000:=aV (mI ..) c.bz
def aX.bu(R:aX F W K s){vs:Vs}(hl:K.h l=M (.l vs)):Array aS:=(R.aC.aC.aC l _ hl).choose
def aX.Bc(R:aX F W K s){vs:Vs}(hl:K.h l=M (.l vs)):Nat:=(R.aC.aC.aC l _ hl).choose_spec.choose
def aX.Rq(R:aX F W K s){vs:Vs}(hl:K.h l=M (.l vs)):At W l (listOf (R.bu hl) (R.Bc hl)):=(R.aC.aC.aC l _ hl).choose_spec.choose_spec.1
def aX.jF(R:aX F W K s){vs:Vs}(hl:K.h l=M (.l vs)):bP (VR W (aZ K.h)) (R.bu hl).toList vs:=(R.aC.aC.aC l _ hl).choose_spec.choose_spec.2.1
def aX.yP(R:aX F W K s){vs:Vs}(hl:K.h l=M (.l vs)):vs.length<=33554432:=(R.aC.aC.aC l _ hl).choose_spec.choose_spec.2.2
def aX.pE(R:aX F W K s){vs:Vs}(hl:K.h l=M (.l vs)):(R.bu hl).size=vs.length:=(R.jF hl).iI
def BR.at{h₀:fL}{L:aY}{t:Nat}(R:BR g h₀ L W h t s){o:bC}(x:At W l o):s.heap.get? (W.ρ l)=M o:=by
 by_cases e:l.1=0
 .exact R.aO _ _ ((aw e).mp x)
 .exact(R.aF _ ((au e).mp x)).1
def aX.iS(R:aX F W K s){vs:Vs}(hl:K.h l=M (.l vs)):s.heap.get? (W.ρ l)=M (listOf (R.bu hl) (R.Bc hl)):=R.aC.at (R.Rq hl)
def aX.pF(R:aX F W K s){vs:Vs}(hl:K.h l=M (.l vs)):s.heap.IsList (W.ρ l) (R.bu hl):=⟨_,R.iS hl,Y,R.Bc hl,Y⟩
def aX.ds(R:aX F W K s){es:Es}(hl:K.h l=M (.d es)):List eQ:=(R.aC.aC.aC l _ hl).2.choose
def aX.dm(R:aX F W K s)(hl:K.h l=M (.d es)):(W.ρ l,iZ (R.ds hl) es.length)∈W.n:=(R.aC.aC.aC l _ hl).2.choose_spec.1
def aX.dg(R:aX F W K s)(hl:K.h l=M (.d es)):s.heap.get? (W.ρ l)=M (iZ (R.ds hl) es.length):=(R.aC.aF _ (R.dm hl)).1
def aX.md(R:aX F W K s)(hl:K.h l=M (.d es)):bP (DE W (aZ K.h)) (R.ds hl) es:=(R.aC.aC.aC l _ hl).2.choose_spec.2.1
def aX.sL(R:aX F W K s)(hl:K.h l=M (.d es)):(es.map (·.1)).Nodup:=(R.aC.aC.aC l _ hl).2.choose_spec.2.2.1
def aX.dz(R:aX F W K s)(hl:K.h l=M (.d es)):es.length<=33554432:=(R.aC.aC.aC l _ hl).2.choose_spec.2.2.2
def aX.qj(R:aX F W K s)(i4:nR F A n){c:bC}(m:(W.ρ l,c)∈W.n):(W.ρ l==xh)=Z:=beq_eq_false_iff_ne.mpr λe=>i4.aO.elim λo ho=>cW (((R.aC.aF _ m).2.2).symm.trans ((aq F.h₀.get? e).trans ho))
def qK(K:AS)(l:Loc)(t':Nat):Prop:=(l=bN K.t/\t'=K.t+1)\/(l.1≠0/\l.1≠99/\K.h l=U/\t'=K.t)
def alloc(o:af)(Q:QV)(K:AS):Prop:=∃l t',qK K l t'/\Q (.e l) (K.aH l o t')
variable{t':Nat} {H':fL} {c:bC}
section
variable{tk:Nat} {o:af}
def aX.xA(R:aX F W K s)(f:Fr F.h₀ F.L s'.heap R.mm)(N:vJ F.h₀ F.L s'.heap W'.n)(H:HR F.g W' h'/\Ext F.cH W K.h W' h')(k:∀a o,(a,o)∈W.n->((∃v,o.data=.cell v)\/a∈F.o.map (·.1))->(a,o)∈W'.n)(tm:∀k,t'<=k->h' (bN k)=U)(g:s'.gens=s.gens)(o:s'.os=s.os):aX F W' ⟨K.m,h',t'⟩ s':=
 have t:=H.2.tu R.aC.aC R.nx
 ⟨⟨N,H.1,tm,R.aC.aI,R.aC.aI.keeps f.keep,g.trans R.aC.cC,o.trans R.aC.bz,R.aC.bb⟩,⟨R.mm,f,λi x q=>(R.lo i x q).elim λv q=>⟨v,q.1.imp id (λq=>⟨q.1,q.2.elim λa q=>q.elim λo q=>⟨a,o,q.1,q.2.1.imp (λm=>k a o m (.inl ⟨_,q.2.2⟩)) id,q.2.2⟩⟩),q.2.bU t⟩⟩,
   λy hy=>(R.aI y hy).elim λa q=>q.elim λo q=>q.elim λv q=>⟨a,o,v,q.1,k a o q.2.1 (.inl ⟨v,q.2.2⟩),q.2.2⟩,R.aK,
   λp hp=>have z:=R.aF p hp;⟨z.1,z.2.1.elim λo q=>⟨o,k _ o q.1 (.inr (gW hp)),q.2⟩,z.2.1.elim λo q=>H.2.nN q.1 z.2.2⟩⟩
def DG{h₀:fL}{L:aY}{h h':fL}{m:aP->Option aS}{news:List (aY×bC)}{o:bC}(F:Fr h₀ L h m)(N:vJ h₀ L h news)(hk:∀b o,h.get? b=M o->h'.get? b=M o)(g:h'.get? a=M o)(fresh:∀b o,h.get? b=M o->b<a):vJ h₀ L h' ((a,o)::news):=λp hp=>by
 rcases cU.mp hp with rfl|hp
 .refine⟨g,λe=>dq _ (bM (gy (e)) (by refine qH F.ns λoL c c hW=>oA hW λq c=>?_;exact fresh _ _ q)),?_⟩
  cases e:h₀.get? a with
  |none=>rfl
  |some o=>exact ax (fresh _ _ (F.keep _ _ e)) (dq _)
 .exact⟨hk _ _ (N p hp).1,(N p hp).2⟩
def qK.l0(r:qK K l t'):l.1≠0:=r.elim (λr=>aj (aq qf r.1).symm (by decide:99≠0)) (·.1)
def qK.no(r:qK K l t')(R:aX F W K s):K.h l=U:=r.elim (λr=>ak r.1 (R.aC.aK _ (b8 _))) (·.2.2.1)
def abw{i k:Nat}(e:bN i=bN k):i=k:=aq (λl:Loc=>l.2.headD 0) e
def qK.tm(r:qK K l t')(R:aX F W K s)(k:Nat)(hk:t'<=k):K.h.aH l o (bN k)=U:=by
 rcases r with⟨rfl,rfl⟩|⟨_,r1,_,rfl⟩
 .exact(aQ λe=>Jl K.t (aV hk (gy (abw e)))).trans (R.aC.aK k (rh hk))
 .exact(aQ λe=>r1 (aq qf e).symm).trans (R.aC.aK k hk)
def Rr{vs:Vs}:¬iK (M (.l vs)):=λi=>i.elim λa i=>i.elim λa i=>by cases i
def Kt{vs:Es}:¬iK (M (.d vs)):=λi=>i.elim λa i=>i.elim λa i=>by cases i
def Rv{vs:Vs}:¬iK (M (.s vs)):=λi=>i.elim λa i=>i.elim λa i=>by cases i
def aX.GQ(R:aX F W K s)(r:qK K l t')(no:¬iK (M o))(hk:∀b o,s.heap.get? b=M o->H'.get? b=M o)(fresh:∀b o,s.heap.get? b=M o->b<a)(g:H'.get? a=M c)
 (x:∀W',Tu W W' (aZ K.h) (aZ (K.h.aH l o))->(W'.ρ l,c)∈W'.n->OR W' (aZ (K.h.aH l o)) l o)(q:Q (.e l) (K.aH l o t')):ib F W K.h Q (.ref a) {s with heap:=H',toks:=tk}:=by
 have e:(W.kR l a 0 [(a,c)]).ρ l=a:=aw Y;have hl:=r.no R
 have ae:HR F.g (W.kR l a 0 [(a,c)]) (K.h.aH l o)/\Ext F.cH W K.h (W.kR l a 0 [(a,c)]) (K.h.aH l o):=HR.Q6 R.aC.aC hl r.l0 (λp hp q hq=>ak (bK.mp hq) (fresh _ _ (R.aC.aF p hp).1)) (an1 ..) (λb i=>by cases b;exact⟨c,.head _⟩;exact ax (i Y) no) (λi=>ax i no) (x _ (Wd.tu hl) (aj e.symm (.head _)))
 exact⟨_,_,.e l,R.xA (R.fr.keeps hk) (DG R.fr R.aC.aF hk g fresh) ae (λa o m d=>dI _ m) (r.tm R) Y Y,ae.2,⟨aq mJ e.symm,(sF l).mpr (.inl Y)⟩,q⟩
def aX.Bd(R:aX F W K s){bu:Array aS}{k:Nat}{xs:Vs}(hk:∀b o,s.heap.get? b=M o->H'.get? b=M o)(fresh:∀b o,s.heap.get? b=M o->b<a)(g:H'.get? a=M (listOf bu k))(al:bP (VR W (aZ K.h)) bu.toList xs)(z:xs.length<=16777216)(q:alloc (.l xs) Q K):
 ib F W K.h Q (.ref a) {s with heap:=H',toks:=tk}:=q.elim λl q=>q.elim λt' q=>R.GQ q.1 Rr hk fresh g (λW' t m=>⟨bu,k,(au q.1.l0).mpr m,al.bU λc c=>VR.bU t,aV z (ao Y)⟩) q.2
def GU(R:aX F W K s){vs:List aS}{xs:Vs}(al:bP (VR W (aZ K.h)) vs xs)(z:xs.length<=16777216)(q:alloc (.l xs) Q K):wpAny Md A (newList vs) (ib F W K.h Q) E s:=
 vC (R.Bd (λb o e=>eG _ e) (λb o e=>eJ e) (jY _ Y) al z q) (by show vs.toArray.size<=yx;rw[q8,al.iI,kq];exact z)
def abx(R:aX F W K s)(q:alloc (.d []) Q K):wpAny Md A newDict (ib F W K.h Q) E s:=
 (vC (q.elim λl q=>q.elim λt' q=>R.GQ (o:=.d []) q.1 Kt (λb o e=>eG _ e) (λb o e=>eJ e) (jY _ Y) (λW' t m=>⟨q.1.l0,[],m,.iH,gY,b7 _⟩) q.2) (b7 _))
def aX.Rw(R:aX F W K s){vs:List aS}{xs:Vs}(hk:∀b o,s.heap.get? b=M o->H'.get? b=M o)(fresh:∀b o,s.heap.get? b=M o->b<a)(g:H'.get? a=M (iJ vs))(al:bP (VR W (aZ K.h)) vs xs)(z:xs.length<=16777216)(q:Q (V.cq xs) K):ib F W K.h Q (.ref a) {s with heap:=H',toks:=tk}:=
 have ae:=HR.A5 R.aC.aC λp hp=>fresh _ _ (R.aC.aF p hp).1
 ⟨_,_,V.cq xs,R.xA (R.fr.keeps hk) (DG R.fr R.aC.aF hk g fresh) ae (λa o m c=>.tail _ m) R.aC.aK Y Y,ae.2,VR.lK.mpr ⟨a,vs,Y,⟨.inl (.head _),aV (gy al.iI) (aV z (ao Y))⟩,al.bU λc c=>VR.bU (ae.2.tu R.aC.aC R.nx)⟩,q⟩
def aby(R:aX F W K s){vs:List aS}{xs:Vs}(al:bP (VR W (aZ K.h)) vs xs)(z:xs.length<=16777216)(q:Q (V.cq xs) K):wpAny Md A (aaA vs) (ib F W K.h Q) E s:=
 vC (R.Rw (λb o e=>eG _ e) (λb o e=>eJ e) (jY _ Y) al z q) (by show vs.toArray.size<=yx;rw[q8,al.iI,kq];exact z)
def aX.Rx{b:Bool}{DH:bC}(R:aX F W K s)(ob:Own K.h (l,b))(ni:iK (M o)->iK (K.h l))(nt:pC (K.h l)->pC (M o))(m:(W.bY (l,b),DH)∈W.n)(nc:∀v,DH.data≠.cell v)(f:Fr F.h₀ F.L H' R.mm)(N:vJ F.h₀ F.L H' (fk (W.bY (l,b)) c W.n))
 (x:∀W',Tu W W' (aZ K.h) (aZ (K.h.aH l o))->W'.bY=W.bY->(∀p,p∈W.n->p.1≠W.bY (l,b)->p∈W'.n)->(W.bY (l,b),c)∈W'.n->OR W' (aZ (K.h.aH l o)) l o):
 ∃W',aX F W' (K.aH l o K.t) {s with heap:=H',toks:=tk}/\Ext F.cH W K.h W' (K.h.aH l o):=by
 have ae:HR F.g ⟨W.bY,fk (W.bY (l,b)) c W.n⟩ (K.h.aH l o)/\Ext F.cH W K.h ⟨W.bY,fk (W.bY (l,b)) c W.n⟩ (K.h.aH l o):=R.aC.aC.Q7 ob ni nt λt=>x _ t Y (λp mp ne=>j7 ne mp) (vP m);refine⟨_,R.xA f N ae (λa' o' m' x=>j7 (λ(e)=>?_) m') (λk hk=>(aQ λ(e:bN k=l)=>ob.2.1 (aj e (R.aC.aK k hk))).trans (R.aC.aK k hk)) Y Y,ae.2⟩;subst e;rcases x with⟨v,x⟩|x
 .exact nc v (aj (R.lM m' m) x)
 .exact(R.xy m' x).2 ⟨(l,b),ob,Y⟩
def aX.Ku{b:Bool}{DH:bC}(R:aX F W K s)(ob:Own K.h (l,b))(ni:iK (M o)->iK (K.h l))(nt:pC (K.h l)->pC (M o))(m:(W.bY (l,b),DH)∈W.n)(nc:∀v,DH.data≠.cell v)(sb:qa (W.bY (l,b)) s.heap H')(g:H'.get? (W.bY (l,b))=M c)
 (x:∀W',Tu W W' (aZ K.h) (aZ (K.h.aH l o))->W'.bY=W.bY->(∀p,p∈W.n->p.1≠W.bY (l,b)->p∈W'.n)->(W.bY (l,b),c)∈W'.n->OR W' (aZ (K.h.aH l o)) l o):
 ∃W',aX F W' (K.aH l o K.t) {s with heap:=H',toks:=tk}/\Ext F.cH W K.h W' (K.h.aH l o):=
 have z:=R.aC.aF _ m
 R.Rx ob ni nt m nc (R.fr.change sb z.2.1 z.2.2) (λp hp=>by
  obtain⟨p',jb,rfl⟩:=bX.mp hp;by_cases e:p'.1=W.bY (l,b)
  .rw[aw e];exact⟨g,z.2⟩
  .rw[au e];exact⟨(sb.2 _ e).trans (R.aC.aF p' jb).1,(R.aC.aF p' jb).2⟩) x
end
inductive Prim where|l|m|s|i|t|b|r|e|a|o|n|g|x|j|d|u|zz (n:Nat)
noncomputable def Prim.uk:Prim->aP
 |.l=>"len"|.m=>"min"|.s=>"sorted"|.i=>"list"|.t=>"tuple"|.b=>"all"|.r=>"str"|.e=>"set"
 |.a=>"append"|.o=>"pop"|.n=>"insert"|.g=>"get"|.x=>"index"|.j=>"join"|.d=>"add"|.u=>"sum"|.zz _=>""
noncomputable def Prim.Kw:Prim->Bool
 |.l|.m|.s|.i|.t|.b|.r|.e|.u=>O
 |_=>Z
inductive Tg where
 |v (i:Nat)
 |a (is:Nl)
inductive Sx where
 |n|c (e r:Sx)|kv (k v r:Sx)
 |cN|cB (b:Bool)|cI (i:Int)|cS (s:aP)
 |v (i:Nat)|w (g:Nat)
 |a (e:Sx) (a:Nat)
 |s (e i:Sx)|Ry (e:Sx)|Be (e a:Sx)|Rz (e b:Sx)
 |b (o:AY) (a b:Sx)|q (a:Sx)|o (a:Sx)|m (o:CmpOp) (a b:Sx)|GV (a:Sx)
 |fJ (apU:Bool) (es:Sx)|sM (t a b:Sx)
 |t (es:Sx)|h (es:Sx)|xB (gC:Sx)
 |xC (elt:Sx) (t:Tg) (it cs:Sx) (du:List (Option Nat))
 |RA (e:Sx) (a:Nat)|Kx (ps:Sx)
 |Ky (i:Nat) (es:Sx)|d (f:Nat) (es:Sx)|B (c:Nat) (es:Sx)|ic (e:Sx) (a:Nat) (es:Sx)|p (p:Prim) (es:Sx)|cD (p:Prim) (e es:Sx)
 |l (e:Sx)
 |u (e:Sx)|C (e:Sx)
 |z|e (e:Sx)|E|D|A|j (e:Sx)
 |g (t:Tg) (e:Sx)|dG (o:Sx) (a:Nat) (e:Sx)|aaE (o i e:Sx)|yQ (i:Nat) (o:AY) (e:Sx)|Bf (o:Sx) (a:Nat) (b:AY) (e:Sx)
 |i (t a b:Sx)|qL (t b o:Sx)|f (t:Tg) (it b o:Sx)
 |DI (b:Sx)|GW (e x y u:Sx)|DK (z:Sx) (a:Nat) (e:Sx)
 |Kz (i:Nat) (n:Int)|F (t:Sx)|KA (es:Sx)|KB (e:Sx)|RB (e d:Sx)
def sq(l:List Sx):Sx:=rv .n (λa b r=>.c a r) l
inductive cJ where
 |e (x:cj)|es (l:List cj)|t (x:cj)|ts (l:List cj)|i (x:cj)|s (x:ju)|c (l:List ju)|kv (a:List (Option cj)) (b:List cj)
def cJ.ctorIdx(x:cJ):Nat:=cJ.rec (λa=>0) (λa=>1) (λa=>2) (λa=>3) (λa=>4) (λa=>5) (λa=>6) (λa a=>7) x
def isVar(sc:fh)(i:Nat)(x:aP):Bool:=dh sc i==x&&([M .local,M .cell,M .free].contains (sc.names.lookup x)&&(x !=("__debug__":aP)&&x !=("__classdict__":aP)))
def qM(sc:fh)(i:Nat)(x:aP):Bool:=dh sc i==x&&((sc.names.lookup x==M .local||sc.names.lookup x==M .cell)&&x !=dC)
noncomputable def kT(sc:fh)(x:aP):Bool:=sc.names.lookup x==M .globalImplicit&&(x !=("__debug__":aP)&&x !=("super":aP))
def DM(sc:fh)(is:Nl):List cj->Prop:=rv (λl=>l=[]) (λi a ih l=>∃x p r,l=.Name x p::r/\qM sc i x=O/\ih r) is
def um(sc:fh)(t:Tg)(x:cj):Prop:=Tg.rec (λi=>∃y p,x=.Name y p/\qM sc i y=O) (λis=>∃l k p,x=.Tuple l k p/\DM sc is l) t
noncomputable def ie(sc scope:fh):fh:={scope with names:=scope.names.map λp=>if(p.2==.free&&sc.kind==.function&&sc.names.lookup p.1==M .cell)then(p.1,.cell)else p}
def DN(sc scope:fh)(du:List (Option Nat)):Bool:=
 scope.kind==.function&&(decide ((scope.names.map (·.1)).Nodup)&&((ie sc scope).names.map (·.1)==scope.names.map (·.1))&&(scope.names.all (λp=>p.2 !=.cell&&(p.2 !=.local||scope.names.lookup p.1==M .local)&&(p.2 !=.free||sc.names.lookup p.1==M .cell))&&
 (du.zipIdx.all (λr=>match r.1 with
  |none=>O
  |some i=>dh (ie sc scope) r.2==dh sc i&&(((ie sc scope).names.lookup (dh sc i)==M .cell||(ie sc scope).names.lookup (dh sc i)==M .free)&&(scope.names.contains (dh sc i,.free)&&sc.names.lookup (dh sc i)==M .cell)))&&
 (ie sc scope).names.all λp=>p.2 !=.cell||(scope.names.contains (p.1,.free)&&sc.names.lookup p.1==M .cell))))
def ownAt(sc:fh)(i:Nat):Bool:=sc.names.lookup (dh sc i)==M .local
def DQ(sc:fh)(t:Tg):Bool:=Tg.rec (ownAt sc) (λis=>is.all (ownAt sc)) t
noncomputable def nk(ks:Nl)(e:cj):Bool:=ks.all λk=>!dM e.ctorIdx k
def Et(x:cJ)(q:cj):Prop:=x=.e q\/x=.t q
def NB(v:cj):Prop:=∀y env m,attributeBase v y env m=m
def Pl1(e:cj):Prop:=∀rest env,ud (e::rest) env=(Z,eval e env)::ud rest env
def Pl2(e:cj):Prop:=∀v i,aau e Z v i=operate [v,i] (yz v i)
def Pl(e:cj):Prop:=Pl1 e/\Pl2 e
def oB(l:List cj):Prop:=∀pos env,(xk pos (ud l env)).any (·.1)=Z
def SW(v:cj):Prop:=∀t k env,Qx v t k env=pure Z
def SA1(v:cj):Prop:=∀z y q k env,Qx v (M (.Attribute z y q)) k env=pure Z
def SA2(v:cj):Prop:=∀z y q k env,Qx v (M (.Subscript z y q)) k env=pure Z
def SA(v:cj):Prop:=SA1 v/\SA2 v
def ST1(v:cj):Prop:=∀a b c k env,Qx v (M (.Tuple a b c)) k env=pure Z
def ST2(v:cj):Prop:=∀a b c env,swappedStores [.Tuple a b c] v env=pure U
def ST(v:cj):Prop:=ST1 v/\ST2 v
def TV(e:cj):Prop:=∀env w,JY e env w=(do let v<-w;JT e.pos;holding [v] (JW v))
def Ck(a:Sx):fh->cJ->Prop:=Sx.rec (motive:=λd=>fh->cJ->Prop)
 (λsc x=>x=.es []\/x=.ts []\/x=.c []\/x=.kv [] [])
 (λd d ih jh sc x=>(∃e r,x=.es (e::r)/\ih sc (.e e)/\jh sc (.es r)/\Pl e)\/(∃e r,x=.ts (e::r)/\ih sc (.t e)/\jh sc (.ts r))\/∃e r,x=.c (e::r)/\ih sc (.s e)/\jh sc (.c r))
 (λd d d ih jh kh sc x=>∃k a v b,x=.kv (M k::a) (v::b)/\ih sc (.e k)/\jh sc (.e v)/\kh sc (.kv a b))
 (λd x=>∃k p,x=.e (.Constant .none k p))
 (λb d x=>∃k p,x=.e (.Constant (.bool b) k p))
 (λi d x=>∃k p,x=.e (.Constant (.int i) k p))
 (λs d x=>∃k p,x=.e (.Constant (.str s) k p)/\pZ s=O)
 (λi sc x=>∃y p,x=.e (.Name y p)/\isVar sc i y=O)
 (λg sc x=>∃y p,x=.e (.Name y p)/\kT sc y=O/\nD tGs g y=O)
 (λd a ih sc x=>∃v y p,x=.e (.Attribute v y p)/\nD vO a y=O/\ih sc (.e v)/\NB v)
 (λd d ih jh sc x=>∃l r p,x=.e (.Subscript l r p)/\ih sc (.e l)/\jh sc (.e r)/\Pl r)
 (λd ih sc x=>∃v p q,x=.e (.Subscript v (.Slice U U U p) q)/\ih sc (.e v))
 (λd d ih jh sc x=>∃v l p q,x=.e (.Subscript v (.Slice (M l) U U p) q)/\ih sc (.e v)/\jh sc (.e l))
 (λd d ih jh sc x=>∃v l p q,x=.e (.Subscript v (.Slice U (M l) U p) q)/\ih sc (.e v)/\jh sc (.e l))
 (λo d d ih jh sc x=>∃l r p,x=.e (.BinOp l o r p)/\ih sc (.e l)/\jh sc (.e r))
 (λd ih sc x=>∃v p,x=.e (.UnaryOp .USub v p)/\ih sc (.e v))
 (λd ih sc x=>∃v p,(x=.e (.UnaryOp .Not v p)/\ih sc (.e v))\/(x=.t (.UnaryOp .Not v p)/\ih sc (.t v)))
 (λo d d ih jh sc x=>∃l r p,Et x (.Compare l [o] [r] p)/\ih sc (.e l)/\jh sc (.e r)/\behindInMarks o r=Z)
 (λd ih sc x=>∃l k p q,Et x (.Compare l [.IsNot] [.Constant .none k p] q)/\ih sc (.e l))
 (λk d ih sc x=>∃vs p,(x=.e (.BoolOp (if k then .And else .Or) vs p)/\ih sc (.es vs))\/(x=.t (.BoolOp (if k then .And else .Or) vs p)/\ih sc (.ts vs)))
 (λd d d ih jh kh sc x=>∃t a b p,x=.e (.IfExp t a b p)/\ih sc (.t t)/\jh sc (.e a)/\kh sc (.e b))
 (λd ih sc x=>∃vs k p,x=.e (.Tuple vs k p)/\ih sc (.es vs))
 (λd ih sc x=>∃vs p,x=.e (.List vs p)/\ih sc (.es vs))
 (λd ih sc x=>∃a b p,x=.e (.Dict a b p)/\Di b.length 15=O/\ih sc (.kv a b))
 (λd t d d du ih jh kh sc x=>∃v g scope p,x=.e (.ListComp v [g] scope p)/\(g.is_async==0)=O/\DN sc scope du=O/\DQ (ie sc scope) t=O/\jh sc (.e g.iter)/\um (ie sc scope) t g.target/\kh (ie sc scope) (.ts g.ifs)/\ih (ie sc scope) (.e v)/\nk [7] g.iter=O)
 (λd a ih sc x=>∃q v p,x=.e (.Call (.Name "len" q) [v] [] p)/\kT sc "len"=O/\nD vO a "__len__"=O/\ih sc (.e v)/\Pl v)
 (λd ih sc x=>∃a b vs p,x=.e (.JoinedStr (a::b::vs) p)/\ih sc (.es (a::b::vs)))
 (λi d ih sc x=>∃y q vs p,x=.e (.Call (.Name y q) vs [] p)/\isVar sc i y=O/\ih sc (.es vs)/\oB vs)
 (λf d ih sc x=>∃y q vs p,x=.e (.Call (.Name y q) vs [] p)/\kT sc y=O/\nD Dz f y=O/\ih sc (.es vs)/\oB vs)
 (λf d ih sc x=>∃y q vs p,x=.e (.Call (.Name y q) vs [] p)/\kT sc y=O/\nD J9 f y=O/\ih sc (.es vs)/\oB vs)
 (λd a d ih jh sc x=>∃v y q vs p,x=.e (.Call (.Attribute v y q) vs [] p)/\nD vO a y=O/\ih sc (.e v)/\jh sc (.es vs)/\(q.endLine==p.line)=O/\rx vs.length 20=O/\NB v/\oB vs)
 (λf d ih sc x=>∃q vs p,x=.e (.Call (.Name f.uk q) vs [] p)/\kT sc f.uk=O/\ih sc (.es vs)/\oB vs)
 (λf d d ih jh sc x=>∃v q vs p,x=.e (.Call (.Attribute v f.uk q) vs [] p)/\ih sc (.e v)/\jh sc (.es vs)/\(q.endLine==p.line)=O/\rx vs.length 20=O/\NB v/\oB vs)
 (λd ih sc x=>(∃v,x=.t v/\ih sc (.e v)/\TV v)\/(∃v,x=.i v/\ih sc (.e v)/\nk [7] v=O)\/∃v p,x=.e (.FormattedValue v 115 U p)/\ih sc (.e v))
 (λd ih sc x=>∃q v p,x=.i (.Call (.Name "enumerate" q) [v] [] p)/\kT sc "enumerate"=O/\ih sc (.e v)/\Pl v)
 (λd ih sc x=>∃v q p,x=.i (.Call (.Attribute v "items" q) [] [] p)/\(q.endLine==p.line)=O/\ih sc (.e v)/\NB v)
 (λd x=>∃y,x=.s y)
 (λd ih sc x=>∃v p,x=.s (.Expr v p)/\ih sc (.e v)/\SW v)
 (λd x=>∃p,x=.s (.Pass p))
 (λd x=>∃p,x=.s (.Break p))
 (λd x=>∃p,x=.s (.Continue p))
 (λd ih sc x=>∃v p,x=.s (.Return (M v) p)/\ih sc (.e v))
 (λt d ih sc x=>∃tg v p,x=.s (.Assign [tg] v p)/\um sc t tg/\ih sc (.e v)/\(Tg.rec (λd=>SW v) (λd=>ST v) t:Prop))
 (λd a d ih jh sc x=>∃z y q v p,x=.s (.Assign [.Attribute z y q] v p)/\nD vO a y=O/\ih sc (.e z)/\jh sc (.e v)/\SA v)
 (λd d d ih jh kh sc x=>∃z y q v p,x=.s (.Assign [.Subscript z y q] v p)/\ih sc (.e z)/\jh sc (.e y)/\kh sc (.e v)/\SA v)
 (λi o d ih sc x=>∃y q v p,x=.s (.AugAssign (.Name y q) o v p)/\isVar sc i y=O/\qM sc i y=O/\ih sc (.e v))
 (λd a b d ih jh sc x=>∃z y q v p,x=.s (.AugAssign (.Attribute z y q) b v p)/\nD vO a y=O/\ih sc (.e z)/\jh sc (.e v))
 (λd d d ih jh kh sc x=>∃t a b p,x=.s (.If t a b p)/\ih sc (.t t)/\jh sc (.c a)/\kh sc (.c b))
 (λd d d ih jh kh sc x=>∃t b o p,x=.s (.While t b o p)/\ih sc (.t t)/\jh sc (.c b)/\kh sc (.c o))
 (λt d d d ih jh kh sc x=>∃tg it b o p,x=.s (.For tg it b o p)/\um sc t tg/\ih sc (.i it)/\jh sc (.c b)/\kh sc (.c o))
 (λd ih sc x=>∃b h hs p,x=.s (.Try b (h::hs) [] [] p)/\ih sc (.c b))
 (λd d d d ih jh kh lh sc x=>∃e p1 p2 z y p3 u p4 p5 p6 p7,x=.s (.Try [.Expr e p1] [.ExceptHandler (M (.Name "KeyError" p2)) U [.Assign [.Subscript z y p3] (.List [u] p4) p5] p6] [] [] p7)/\kT sc "KeyError"=O/\ih sc (.e e)/\jh sc (.e z)/\kh sc (.e y)/\lh sc (.e u)/\Pl u)
 (λd a d ih jh sc x=>∃z y p1 e p2 q1 q2 kk q3 z' y' p3 p4 p5 p6 p7,x=.s (.Try [.Assign [.Attribute z y p1] e p2] [.ExceptHandler (M (.Tuple [.Name "IndexError" q1,.Name "KeyError" q2] kk q3)) U [.Assign [.Attribute z' y' p3] (.List [] p4) p5] p6] [] [] p7)/\
  kT sc "IndexError"=O/\kT sc "KeyError"=O/\nD vO a y=O/\nD vO a y'=O/\ih sc (.e z)/\jh sc (.e e)/\ih sc (.e z'))
 (λi n sc x=>∃y p k p2 p3 p4 p5 p6,x=.s (.Delete [.Subscript (.Name y p) (.Slice (M (.UnaryOp .USub (.Constant (.int n) k p2) p3)) U U p4) p5] p6)/\isVar sc i y=O)
 (λd ih sc x=>∃t m p,x=.s (.Assert t m p)/\ih sc (.t t))
 (λd ih sc x=>∃q vs p,x=.i (.Call (.Name "range" q) vs [] p)/\kT sc "range"=O/\ih sc (.es vs)/\oB vs)
 (λd ih sc x=>∃q q2 v p,x=.e (.Call (.Name "isinstance" q) [v,.Name "tuple" q2] [] p)/\kT sc "isinstance"=O/\kT sc "tuple"=O/\ih sc (.e v)/\Pl v)
 (λd d ih jh sc x=>∃l v q p p2,Et x (.Compare l [.In] [.Call (.Attribute v "values" q) [] [] p] p2)/\ih sc (.e l)/\jh sc (.e v)/\NB v/\(q.endLine==p.line)=O) a
variable{PA:cJ->Prop} {PE:cj->Prop} {PS:ju->Prop} {PC:Const->Prop}
noncomputable def cc{p:Prop}{n m:Nat}(f:n=m->DP p):DP p:=if h:n=m then f h else U
def dx{α:Type}{P:α->Prop}{a:α}:DP (P a)->DP (Exists P):=dm λh=>⟨a,h⟩
def d2{A B:Type}{P:A->B->Prop}{a:A}{b:B}:DP (P a b)->DP (∃a b,P a b):=dm λh=>⟨a,b,h⟩
def d3{A B C:Type}{P:A->B->C->Prop}{a:A}{b:B}{c:C}:DP (P a b c)->DP (∃a b c,P a b c):=dm λh=>⟨a,b,c,h⟩
def d4{A B C D:Type}{P:A->B->C->D->Prop}{a:A}{b:B}{c:C}{d:D}:DP (P a b c d)->DP (∃a b c d,P a b c d):=dm λh=>⟨a,b,c,d,h⟩
def d5{A B C D E:Type}{P:A->B->C->D->E->Prop}{a:A}{b:B}{c:C}{d:D}{e:E}:DP (P a b c d e)->DP (∃a b c d e,P a b c d e):=dm λh=>⟨a,b,c,d,e,h⟩
def dr{α:Type}{a:α}{q:Prop}:DP q->DP (a=a/\q):=dm λh=>⟨Y,h⟩
noncomputable def mL{α:Type}{a:α}:DP (a=a):=M ⟨Y⟩
def dl{p q:Prop}:DP p->DP (p\/q):=dm .inl
def di{p q:Prop}:DP q->DP (p\/q):=dm .inr
def al{α:Type}{P:α->Prop}(a b:∀x,DP (P x))(x:α):DP (P x):=yw (motive:=λc=>DP (P x)) (b x) M (a x)
noncomputable def cE(k:∀e,DP (PA (.e e)))(x:cJ):DP (PA x):=by cases x<;>first|exact k _|exact U
noncomputable def RD(k:∀e,DP (PA (.es e)))(x:cJ):DP (PA x):=by cases x<;>first|exact k _|exact U
noncomputable def cT(k:∀e,DP (PA (.t e)))(x:cJ):DP (PA x):=by cases x<;>first|exact k _|exact U
noncomputable def RF(k:∀e,DP (PA (.ts e)))(x:cJ):DP (PA x):=by cases x<;>first|exact k _|exact U
noncomputable def GY(k:∀e,DP (PA (.i e)))(x:cJ):DP (PA x):=by cases x<;>first|exact k _|exact U
noncomputable def cS(k:∀e,DP (PA (.s e)))(x:cJ):DP (PA x):=by cases x<;>first|exact k _|exact U
noncomputable def RG(k:∀e,DP (PA (.c e)))(x:cJ):DP (PA x):=by cases x<;>first|exact k _|exact U
noncomputable def RH(k:∀a b,DP (PA (.kv a b)))(x:cJ):DP (PA x):=by cases x<;>first|exact k _ _|exact U
def l0{α:Type}{P:List α->Prop}(k:DP (P []))(l:List α):DP (P l):=rv (motive:=λl=>DP (P l)) k (λa a a=>U) l
def lc{α:Type}{P:List α->Prop}(k:∀a r,DP (P (a::r)))(l:List α):DP (P l):=rv (motive:=λl=>DP (P l)) U (λa r b=>k a r) l
def l1{α:Type}{P:List α->Prop}(k:∀a,DP (P [a])):(l:List α)->DP (P l):=lc λa=>l0 (P:=λr=>P (a::r)) (k a)
def om{α:Type}{P:Option α->Prop}(k:∀a,DP (P (M a)))(o:Option α):DP (P o):=yw (motive:=λo=>DP (P o)) U k o
def xD{α:Type}{P:Option α->Prop}(k:DP (P U))(o:Option α):DP (P o):=yw (motive:=λo=>DP (P o)) k (λa=>U) o
noncomputable def hG{α:Type} [DecidableEq α]{P:α->Prop}(a:α)(k:DP (P a))(b:α):DP (P b):=if h:a=b then h▸k else U
noncomputable def KC(k:∀b c a,DP (PE (.BoolOp a b c))) (x):DP (PE x):=cc λh=>aq1 x h λa b c=>k b c a
noncomputable def DU(k:∀a c d b,DP (PE (.BinOp a b c d))) (x):DP (PE x):=cc λh=>Expr.BinOp.elim x h λa b c d=>k a c d b
noncomputable def Bg(k:∀b c a,DP (PE (.UnaryOp a b c))) (x):DP (PE x):=cc λh=>aqy x h λa b c=>k b c a
noncomputable def GZ(k:∀a b c d,DP (PE (.IfExp a b c d))) (x):DP (PE x):=cc λh=>Expr.IfExp.elim x h k
noncomputable def KD(k:∀a b c,DP (PE (.Dict a b c))) (x):DP (PE x):=cc λh=>Expr.Dict.elim x h k
def KG(k:∀a c d b,DP (PE (.ListComp a [b] c d))) (x):DP (PE x):=cc λh=>aqt x h λa b c d=>by revert b;exact l1 (k a c d)
def yR(k:∀a d c b,DP (PE (.Compare a [b] [c] d))) (x):DP (PE x):=cc λh=>aqz x h λa b c d=>by revert b;refine l1 λb=>?_;revert c;exact l1 λc=>k a d c b
def mM(k:∀d b a,DP (PE (.Call a b [] d))) (x):DP (PE x):=cc λh=>Expr.Call.elim x h λa b c d=>by revert c;exact l0 (k d b a)
def RI(k:∀d b a,DP (PE (.Call a [b] [] d))):∀x,DP (PE x):=mM λd b a=>by revert b;exact l1 λb=>k d b a
def RK(k:∀a d,DP (PE (.FormattedValue a 115 U d))) (x):DP (PE x):=cc λh=>aqe x h λa b c d=>by revert b;refine hG 115 ?_;revert c;exact xD (k a d)
noncomputable def G4(k:∀b a,DP (PE (.JoinedStr a b))) (x):DP (PE x):=cc λh=>aqp x h λa b=>k b a
noncomputable def rB(k:∀b c a,DP (PE (.Constant a b c))) (x):DP (PE x):=cc λh=>aqu x h λa b c=>k b c a
noncomputable def oG(k:∀a c b,DP (PE (.Attribute a b c))) (x):DP (PE x):=cc λh=>aqq x h λa b c=>k a c b
noncomputable def rC(k:∀a c b,DP (PE (.Subscript a b c))) (x):DP (PE x):=cc λh=>aqo x h λa b c=>k a c b
noncomputable def jc(k:∀b a,DP (PE (.Name a b))) (x):DP (PE x):=cc λh=>Expr.Name.elim x h λa b=>k b a
noncomputable def Bh(k:∀b a,DP (PE (.List a b))) (x):DP (PE x):=cc λh=>Expr.List.elim x h λa b=>k b a
noncomputable def Bi(k:∀b c a,DP (PE (.Tuple a b c))) (x):DP (PE x):=cc λh=>Expr.Tuple.elim x h λa b c=>k b c a
def G6(k:∀d a b,DP (PE (.Slice a b U d))) (x):DP (PE x):=cc λh=>Expr.Slice.elim x h λa b c d=>by revert c;exact xD (k d a b)
def RM(k:∀b a,DP (PS (.Return (M a) b))) (x):DP (PS x):=cc λh=>aqW x h λa b=>by revert a;exact om (k b)
def xE(k:∀c b a,DP (PS (.Assign [a] b c))) (x):DP (PS x):=cc λh=>aqY x h λa b c=>by revert a;exact l1 (k c b)
noncomputable def RN(o:AY)(k:∀c d a,DP (PS (.AugAssign a o c d))) (x):DP (PS x):=cc λh=>aqm x h λa b c d=>by revert b;exact hG o (k c d a)
noncomputable def abz(k:∀b a,DP (PS (.Delete a b))) (x):DP (PS x):=cc λh=>aqX x h λa b=>k b a
noncomputable def abA(k:∀a b c,DP (PS (.Assert a b c))) (x):DP (PS x):=cc λh=>aqZ x h k
noncomputable def abB(k:∀a b c d f,DP (PS (.For a b c d f))) (x):DP (PS x):=cc λh=>Stmt.For.elim x h k
noncomputable def abC(k:∀a b c d,DP (PS (.While a b c d))) (x):DP (PS x):=cc λh=>Stmt.While.elim x h k
noncomputable def yIf(k:∀a b c d,DP (PS (.If a b c d))) (x):DP (PS x):=cc λh=>Stmt.If.elim x h k
def KH(k:∀f a b,DP (PS (.Try a b [] [] f))) (x):DP (PS x):=cc λh=>Stmt.Try.elim x h λa b c d f=>by revert c;refine l0 ?_;revert d;exact l0 (k f a b)
noncomputable def RO(k:∀a b,DP (PS (.Expr a b))) (x):DP (PS x):=cc λh=>Stmt.Expr.elim x h k
noncomputable def abE(k:∀a,DP (PS (.Pass a))) (x):DP (PS x):=cc λh=>Stmt.Pass.elim x h k
noncomputable def abF(k:∀a,DP (PS (.Break a))) (x):DP (PS x):=cc λh=>Stmt.Break.elim x h k
noncomputable def abG(k:∀a,DP (PS (.Continue a))) (x):DP (PS x):=cc λh=>aqr x h k
noncomputable def KI(k:DP (PC .none)) (x):DP (PC x):=cc λh=>Const.none.elim x h k
noncomputable def abH(k:∀b,DP (PC (.bool b))) (x):DP (PC x):=cc λh=>Const.bool.elim x h k
noncomputable def RP(k:∀b,DP (PC (.int b))) (x):DP (PC x):=cc λh=>Const.int.elim x h k
noncomputable def abI(k:∀b,DP (PC (.str b))) (x):DP (PC x):=cc λh=>Const.str.elim x h k
def hX{P:aaq->Prop}(k:∀d c a,DP (P (.ExceptHandler (M a) U c d))):∀x,DP (P x):=λ|.ExceptHandler a b c d=>by revert b;refine xD ?_;revert a;exact om (k d c)
def pl:∀v,DP (Pl v):=al (RK λa a=>M ⟨⟨λa a=>Y,λa a=>Y⟩⟩) (al (jc λa a=>M ⟨⟨λa a=>Y,λa a=>Y⟩⟩) (al (oG λa a a=>M ⟨⟨λa a=>Y,λa a=>Y⟩⟩) (al (rB λa a a=>M ⟨⟨λa a=>Y,λa a=>Y⟩⟩) (al (rC λa a a=>M ⟨⟨λa a=>Y,λa a=>Y⟩⟩) (al (DU λa a a a=>M ⟨⟨λa a=>Y,λa a=>Y⟩⟩) (al (Bg λa a a=>M ⟨⟨λa a=>Y,λa a=>Y⟩⟩) (al (mM λa a a=>M ⟨⟨λa a=>Y,λa a=>Y⟩⟩) (al (Bi λa a a=>M ⟨⟨λa a=>Y,λa a=>Y⟩⟩) (al (Bh λa a=>M ⟨⟨λa a=>Y,λa a=>Y⟩⟩) (al (yR λa a a a=>M ⟨⟨λa a=>Y,λa a=>Y⟩⟩) (al (GZ λa a a a=>M ⟨⟨λa a=>Y,λa a=>Y⟩⟩) (al (KC λa a a=>M ⟨⟨λa a=>Y,λa a=>Y⟩⟩) (al (KG λa a a a=>M ⟨⟨λa a=>Y,λa a=>Y⟩⟩) (G4 λa a=>M ⟨⟨λa a=>Y,λa a=>Y⟩⟩))))))))))))))
def xF(l:List cj):DP (oB l):=rv (motive:=λl=>DP (oB l)) (M ⟨λa a=>Y⟩) (λe r ih=>dm (λh pos env=>by rw[h.1.1 r env];exact h.2 pos env) (dn (pl e) ih)) l
def sw:∀v,DP (SW v):=al (jc λa a=>M ⟨λa a a=>Y⟩) (al (oG λa a a=>M ⟨λa a a=>Y⟩) (al (rB λa a a=>M ⟨λa a a=>Y⟩) (al (rC λa a a=>M ⟨λa a a=>Y⟩) (al (DU λa a a a=>M ⟨λa a a=>Y⟩) (al (mM λa a a=>M ⟨λa a a=>Y⟩) (al (Bi λa a a=>M ⟨λa a a=>Y⟩) (al (Bh λa a=>M ⟨λa a a=>Y⟩) (al (KD λa a a=>M ⟨λa a a=>Y⟩) (al (GZ λa a a a=>M ⟨λa a a=>Y⟩) (G4 λa a=>M ⟨λa a a=>Y⟩))))))))))
def sa:∀v,DP (SA v):=al (jc λa a=>M ⟨⟨λa a a a a=>Y,λa a a a a=>Y⟩⟩) (al (oG λa a a=>M ⟨⟨λa a a a a=>Y,λa a a a a=>Y⟩⟩) (al (rB λa a a=>M ⟨⟨λa a a a a=>Y,λa a a a a=>Y⟩⟩) (al (rC λa a a=>M ⟨⟨λa a a a a=>Y,λa a a a a=>Y⟩⟩) (al (DU λa a a a=>M ⟨⟨λa a a a a=>Y,λa a a a a=>Y⟩⟩) (al (Bg λa a a=>M ⟨⟨λa a a a a=>Y,λa a a a a=>Y⟩⟩) (al (mM λa a a=>M ⟨⟨λa a a a a=>Y,λa a a a a=>Y⟩⟩) (al (Bi λa a a=>M ⟨⟨λa a a a a=>Y,λa a a a a=>Y⟩⟩) (al (Bh λa a=>M ⟨⟨λa a a a a=>Y,λa a a a a=>Y⟩⟩) (al (KD λa a a=>M ⟨⟨λa a a a a=>Y,λa a a a a=>Y⟩⟩) (al (GZ λa a a a=>M ⟨⟨λa a a a a=>Y,λa a a a a=>Y⟩⟩) (al (G4 λa a=>M ⟨⟨λa a a a a=>Y,λa a a a a=>Y⟩⟩) (KG λa a a a=>M ⟨⟨λa a a a a=>Y,λa a a a a=>Y⟩⟩))))))))))))
def st:∀v,DP (ST v):=al (jc λa a=>M ⟨⟨λa a a a a=>Y,λa a a a=>Y⟩⟩) (al (oG λa a a=>M ⟨⟨λa a a a a=>Y,λa a a a=>Y⟩⟩) (al (rC λa a a=>M ⟨⟨λa a a a a=>Y,λa a a a=>Y⟩⟩) (mM λa a a=>M ⟨⟨λa a a a a=>Y,λa a a a=>Y⟩⟩)))
def tv:∀v,DP (TV v):=al (jc λa a=>M ⟨λa a=>Y⟩) (al (oG λa a a=>M ⟨λa a=>Y⟩) (al (mM λa a a=>M ⟨λa a=>Y⟩) (al (rB λa a a=>M ⟨λa a=>Y⟩) (DU λa a a a=>M ⟨λa a=>Y⟩))))
def nb:∀v,DP (NB v):=al (jc λa a=>M ⟨λa a a=>Y⟩) (al (oG λa a a=>M ⟨λa a a=>Y⟩) (al (rC λa a a=>M ⟨λa a a=>Y⟩) (rB λa a a=>M ⟨λa a a=>Y⟩)))
def abJ(sc:fh)(is:Nl):∀l,DP (DM sc is l):=rv (motive:=λis=>(l:List cj)->DP (DM sc is l)) (l0 mL) (λi b ih=>lc λa r=>by revert a;exact jc λb b=>d3 (dr (dn (db _) (ih r)))) is
def KJ(sc:fh)(t:Tg):∀x,DP (um sc t x):=Tg.rec (motive:=λt=>(x:cj)->DP (um sc t x)) (λi=>jc λa a=>d2 (dr (db _))) (λis=>Bi λa a a=>d3 (dr (abJ sc is _))) t
def ck(a:Sx):∀sc x,DP (Ck a sc x):=Sx.rec (motive:=λa=>(sc:fh)->(x:cJ)->DP (Ck a sc x))
 (λd=>al (RD (l0 (dl mL))) (al (RF (l0 (di (dl mL)))) (al (RG (l0 (di (di (dl mL))))) (RH λa b=>by revert a;refine l0 ?_;revert b;exact l0 (di (di (di mL)))))))
 (λd d ih jh sc=>al (RD (lc λd d=>dl (d2 (dr (dn (ih sc _) (dn (jh sc _) (pl _))))))) (al (RF (lc λd d=>di (dl (d2 (dr (dn (ih sc _) (jh sc _))))))) (RG (lc λd d=>di (di (d2 (dr (dn (ih sc _) (jh sc _)))))))))
 (λd d d ih jh kh sc=>RH λa b=>by revert a;refine lc λk a=>?_;revert k;refine om λk=>?_;revert b;exact lc λd d=>d4 (dr (dn (ih sc _) (dn (jh sc _) (kh sc _)))))
 (λd=>cE (rB λd d=>KI (d2 mL)))
 (λb d=>cE (rB λd d=>abH (hG b (d2 mL))))
 (λi d=>cE (rB λd d=>RP (hG i (d2 mL))))
 (λs d=>cE (rB λd d=>abI (hG s (d2 (dr (db _))))))
 (λi sc=>cE (jc λd d=>d2 (dr (db _))))
 (λg sc=>cE (jc λd d=>d2 (dr (dn (db _) (db _)))))
 (λd a ih sc=>cE (oG λd d d=>d3 (dr (dn (db _) (dn (ih sc _) (nb _))))))
 (λd d ih jh sc=>cE (rC λd d d=>d3 (dr (dn (ih sc _) (dn (jh sc _) (pl _))))))
 (λd ih sc=>cE (rC λd d=>G6 λd a=>by refine xD ?_;revert a;exact xD (d3 (dr (ih sc _)))))
 (λd d ih jh sc=>cE (rC λd d=>G6 λd a=>by refine xD ?_;revert a;exact om λd=>d4 (dr (dn (ih sc _) (jh sc _)))))
 (λd d ih jh sc=>cE (rC λd d=>G6 λd a=>by refine om λb=>?_;revert a;exact xD (d4 (dr (dn (ih sc _) (jh sc _))))))
 (λo d d ih jh sc=>cE (DU λd d d=>hG o (d3 (dr (dn (ih sc _) (jh sc _))))))
 (λd ih sc=>cE (Bg λd d=>hG .USub (d2 (dr (ih sc _)))))
 (λd ih sc=>al (cE (Bg λd d=>hG .Not (d2 (dl (dr (ih sc _)))))) (cT (Bg λd d=>hG .Not (d2 (di (dr (ih sc _)))))))
 (λo d d ih jh sc=>al (cE (yR λd d d=>hG o (d3 (dn (dl mL) (dn (ih sc _) (dn (jh sc _) (dN _))))))) (cT (yR λd d d=>hG o (d3 (dn (di mL) (dn (ih sc _) (dn (jh sc _) (dN _))))))))
 (λd ih sc=>al (cE (yR λd d r=>hG .IsNot (by revert r;exact rB λd d=>KI (d4 (dn (dl mL) (ih sc _)))))) (cT (yR λd d r=>hG .IsNot (by revert r;exact rB λd d=>KI (d4 (dn (di mL) (ih sc _)))))))
 (λk d ih sc=>al (cE (KC λd d=>hG (if k then .And else .Or) (d2 (dl (dr (ih sc _)))))) (cT (KC λd d=>hG (if k then .And else .Or) (d2 (di (dr (ih sc _)))))))
 (λd d d ih jh kh sc=>cE (GZ λd d d d=>d4 (dr (dn (ih sc _) (dn (jh sc _) (kh sc _))))))
 (λd ih sc=>cE (Bi λd d d=>d3 (dr (ih sc _))))
 (λd ih sc=>cE (Bh λd d=>d2 (dr (ih sc _))))
 (λd ih sc=>cE (KD λd d d=>d3 (dr (dn (db _) (ih sc _)))))
 (λd t d d du ih jh kh sc=>cE (KG λd d d d=>d4 (dr (dn (db _) (dn (db _) (dn (db _) (dn (jh sc _) (dn (KJ _ t _) (dn (kh _ _) (dn (ih _ _) (db _)))))))))))
 (λd a ih sc=>cE (RI λd d=>jc λd=>hG "len" (d3 (dr (dn (db _) (dn (db _) (dn (ih sc _) (pl _))))))))
 (λd ih sc=>cE (G4 λd=>lc λd=>lc λd d=>d4 (dr (ih sc _))))
 (λi d ih sc=>cE (mM λd d=>jc λd d=>d4 (dr (dn (db _) (dn (ih sc _) (xF _))))))
 (λf d ih sc=>cE (mM λd d=>jc λd d=>d4 (dr (dn (db _) (dn (db _) (dn (ih sc _) (xF _)))))))
 (λf d ih sc=>cE (mM λd d=>jc λd d=>d4 (dr (dn (db _) (dn (db _) (dn (ih sc _) (xF _)))))))
 (λd a d ih jh sc=>cE (mM λd d=>oG λd d d=>d5 (dr (dn (db _) (dn (ih sc _) (dn (jh sc _) (dn (db _) (dn (db _) (dn (nb _) (xF _))))))))))
 (λf d ih sc=>cE (mM λd d=>jc λd=>hG f.uk (d3 (dr (dn (db _) (dn (ih sc _) (xF _)))))))
 (λf d d ih jh sc=>cE (mM λd d=>oG λd d=>hG f.uk (d4 (dr (dn (ih sc _) (dn (jh sc _) (dn (db _) (dn (db _) (dn (nb _) (xF _))))))))))
 (λd ih sc=>al (cT λd=>dl (dx (dr (dn (ih sc _) (tv _))))) (al (GY λd=>di (dl (dx (dr (dn (ih sc _) (db _)))))) (cE (RK λd d=>di (di (d2 (dr (ih sc _))))))))
 (λd ih sc=>GY (RI λd d=>jc λd=>hG "enumerate" (d3 (dr (dn (db _) (dn (ih sc _) (pl _)))))))
 (λd ih sc=>GY (mM λd vs f=>by revert vs;refine l0 ?_;revert f;exact oG λd d=>hG "items" (d3 (dr (dn (db _) (dn (ih sc _) (nb _)))))))
 (λd=>cS λd=>dx mL)
 (λd ih sc=>cS (RO λd d=>d2 (dr (dn (ih sc _) (sw _)))))
 (λd=>cS (abE λd=>dx mL))
 (λd=>cS (abF λd=>dx mL))
 (λd=>cS (abG λd=>dx mL))
 (λd ih sc=>cS (RM λd d=>d2 (dr (ih sc _))))
 (λt d ih sc=>cS (xE λd v d=>d3 (dr (dn (KJ sc t _) (dn (ih sc _) (Tg.rec (motive:=λt=>DP (Tg.rec (λd=>SW v) (λd=>ST v) t:Prop)) (λd=>sw _) (λd=>st _) t))))))
 (λd a d ih jh sc=>cS (xE λd d=>oG λd d d=>d5 (dr (dn (db _) (dn (ih sc _) (dn (jh sc _) (sa _)))))))
 (λd d d ih jh kh sc=>cS (xE λd d=>rC λd d d=>d5 (dr (dn (ih sc _) (dn (jh sc _) (dn (kh sc _) (sa _)))))))
 (λi o d ih sc=>cS (RN o λd d=>jc λd d=>d4 (dr (dn (db _) (dn (db _) (ih sc _))))))
 (λd a b d ih jh sc=>cS (RN b λd d=>oG λd d d=>d5 (dr (dn (db _) (dn (ih sc _) (jh sc _))))))
 (λd d d ih jh kh sc=>cS (yIf λd d d d=>d4 (dr (dn (ih sc _) (dn (jh sc _) (kh sc _))))))
 (λd d d ih jh kh sc=>cS (abC λd d d d=>d4 (dr (dn (ih sc _) (dn (jh sc _) (kh sc _))))))
 (λt d d d ih jh kh sc=>cS (abB λd d d d d=>d5 (dr (dn (KJ sc t _) (dn (ih sc _) (dn (jh sc _) (kh sc _)))))))
 (λd ih sc=>cS (KH λd d=>lc λd d=>d4 (dr (ih sc _))))
 (λd d d d ih jh kh lh sc=>cS (KH λd b=>l1 (hX λd bd=>jc λd=>hG "KeyError" (by revert bd;refine l1 (xE λd v=>rC λd d d=>?_);revert v;refine Bh λd=>l1 λd=>?_;revert b;exact l1 (RO λd d=>d5 (d5 (dx (dr (dn (db _) (dn (ih sc _) (dn (jh sc _) (dn (kh sc _) (dn (lh sc _) (pl _))))))))))))))
 (λd a d ih jh sc=>cS (KH λd b=>l1 (hX λd bd=>Bi λd d=>lc λn=>l1 (jc λd=>hG "KeyError" (by revert n;refine jc λd=>hG "IndexError" ?_;revert bd;refine l1 (xE λd v=>oG λd d d=>?_);revert v;refine Bh λd=>l0 ?_;revert b;exact l1 (xE λd d=>oG λd d d=>d5 (d5 (d5 (dx (dr (dn (db _) (dn (db _) (dn (db _) (dn (db _) (dn (ih sc _) (dn (jh sc _) (ih sc _)))))))))))))))))
 (λi n sc=>cS (abz λd=>l1 (rC λa d b=>by revert a;refine jc λd d=>?_;revert b;refine G6 λd a b=>?_;revert b;refine xD ?_;revert a;refine om λc=>?_;revert c;refine Bg λv d=>hG .USub ?_;revert v;exact rB λd d=>RP (hG n (d5 (d3 (dr (db _))))))))
 (λd ih sc=>cS (abA λd d d=>d3 (dr (ih sc _))))
 (λd ih sc=>GY (mM λd d=>jc λd=>hG "range" (d3 (dr (dn (db _) (dn (ih sc _) (xF _)))))))
 (λd ih sc=>cE (mM λd vs f=>by revert vs;refine lc λu=>l1 (jc λd=>hG "tuple" ?_);revert f;exact jc λd=>hG "isinstance" (d4 (dr (dn (db _) (dn (db _) (dn (ih sc _) (pl _))))))))
 (λd d ih jh sc=>al (cE (yR λd d r=>hG .In (by revert r;exact mM λd vs f=>by revert vs;refine l0 ?_;revert f;exact oG λd d=>hG "values" (d5 (dn (dl mL) (dn (ih sc _) (dn (jh sc _) (dn (nb _) (db _)))))))))
  (cT (yR λd d r=>hG .In (by revert r;exact mM λd vs f=>by revert vs;refine l0 ?_;revert f;exact oG λd d=>hG "values" (d5 (dn (di mL) (dn (ih sc _) (dn (jh sc _) (dn (nb _) (db _)))))))))) a
abbrev br:QE:=λa a=>False
structure St(F:Fm)(A:sA)(n:Nat)(W:Wd)(K:AS)(s:bL):Prop where
 aF:nR F A n
 aC:aX F W K s
def WE(n:Nat)(e:Sx)(Q:QV)(K:AS):Prop:=∀F A W s q,St F A n W K s->Ck e F.b (.e q)->wpAny Md A (eval q F.bV) (ib F W K.h Q) br s
def WT(n:Nat)(e:Sx)(Q:Bool->QA)(K:AS):Prop:=∀F A W s q,St F A n W K s->Ck e F.b (.t q)->wpAny Md A (JY q F.bV (eval q F.bV)) (Ks F W K.h Q) br s
def WL(n:Nat)(e:Sx)(Q:Vs->QA)(K:AS):Prop:=∀F A W s q pos,St F A n W K s->Ck e F.b (.es q)->wpAny Md A (spliced (xk pos (ud q F.bV))) (abv F W K.h Q) br s
def RE(K:AS)(e:Sx)(x:V):Prop:=∀n Q,Q x K->WE n e Q K
def RT(K:AS)(e:Sx)(b:Bool):Prop:=∀n Q,Q b K->WT n e Q K
def RL(K:AS)(e:Sx)(xs:Vs):Prop:=∀n Q,Q xs K->WL n e Q K
def R1(K:AS)(f:aS->hU aS)(x y:V):Prop:=∀F A n W s v,St F A n W K s->VR W (aZ K.h) v x->wpAny Md A (f v) (RV W K s y) br s
def R2(K:AS)(f:aS->aS->hU aS)(x y z:V):Prop:=∀F A n W s v u,St F A n W K s->VR W (aZ K.h) v x->VR W (aZ K.h) u y->wpAny Md A (f v u) (RV W K s z) br s
def O2(K:AS)(f:aS->aS->hU aS)(x y:V)(Q:QV):Prop:=∀F A n W s v u,St F A n W K s->VR W (aZ K.h) v x->VR W (aZ K.h) u y->wpAny Md A (f v u) (ib F W K.h Q) br s
variable{y z:V} {a b es:Sx}
def cJ.no{p:Prop}{x y:cJ}(e:x=y)(h:dM x.ctorIdx y.ctorIdx=Z):p:=by rw[e,AU]at h;exact b9 h
def gH{q q':cj}{env:kP}{R:QE}(e:cJ.e q=.e q')(w:wpAny Md A (eval q' env) R br s):wpAny Md A (eval q env) R br s:=by cases e;exact w
def Bj{q q':cj}{env:kP}{R:Bool->bL->Prop}(e:cJ.t q=.t q')(w:wpAny Md A (JY q' env (eval q' env)) R br s):wpAny Md A (JY q env (eval q env)) R br s:=by cases e;exact w
def Cl{γ:Type}(F:Fm)(X:Wd->Hp->γ->bL->Prop):Prop:=∀W h bg h₁ a s,Ext F.cH W h bg h₁->X bg h₁ a s->X W h a s
def G7{γ δ:Type}{rel:Wd->(Loc->Prop)->γ->δ->Prop}{P:δ->QA}:Cl F λW h=>PG rel F W h P:=λa a a a a a e p=>p.dy e
def DV{γ:Type}{rel:Wd->(Loc->Prop)->α->β->Prop}{X:Wd->Hp->γ->bL->Prop}{ab:hU α}{f:α->hU γ}{P:β->QA}(cl:Cl F X)(T:St F A n W K s)(w:wpAny Md A ab (PG rel F W K.h P) br s)
 (k:∀v bp bg aT x,St F A n bg aT bp->Tu W bg (aZ K.h) (aZ aT.h)->rel bg (aZ aT.h) v x->P x aT->wpAny Md A (f v) (X bg aT.h) br bp):wpAny Md A ab (λv bp=>wpAny Md A (f v) (X W K.h) br bp) br s:=
 wm w λv bp p=>p.dc λbg aT x r e vr q=>wm (k v bp bg aT x ⟨T.aF,r⟩ (e.tu T.aC.aC.aC T.aC.nx) vr q) λa a p=>cl _ _ _ _ _ _ e p
def Bk{γ δ:Type}{rel:Wd->(Loc->Prop)->α->β->Prop}{RR:Wd->(Loc->Prop)->γ->δ->Prop}{ab:hU α}{f:α->hU γ}{P:β->QA}{P':δ->QA}(T:St F A n W K s)(w:wpAny Md A ab (PG rel F W K.h P) br s)
 (k:∀v bp bg aT x,St F A n bg aT bp->Tu W bg (aZ K.h) (aZ aT.h)->rel bg (aZ aT.h) v x->P x aT->wpAny Md A (f v) (PG RR F bg aT.h P') br bp):wpAny Md A ab (λv bp=>wpAny Md A (f v) (PG RR F W K.h P') br bp) br s:=DV G7 T w k
def DW{ab:hU aS}(T:St F A n W K s)(w:wpAny Md A ab (RV W K s x) br s)(q:Q x K):wpAny Md A ab (ib F W K.h Q) br s:=wm w λa a r=>T.aC.Rp r q
def St.mf(T:St F A n W K s)(tk:Nat)(h:VR W (aZ K.h) v x)(q:Q x K):ib F W K.h Q v {s with toks:=tk}:=T.aC.Rp ⟨⟨tk,Y⟩,h⟩ q
def uo:RE K .cN .n:=λn Q h F A W s q T c=>c.elim λk c=>c.elim λp c=>gH c (ao1 (T.mf (x:=.n) s.toks Y h))
def ql{b:Bool}:RE K (.cB b) (.o b):=λn Q h F A W s q T c=>c.elim λk c=>c.elim λp c=>gH c (wpAny_Constant_bool (T.mf (x:=.o b) s.toks Y h))
def bG{i:Int}:RE K (.cI i) (.i i):=λn Q h F A W s q T c=>c.elim λk c=>c.elim λp c=>gH c (wpAny_Constant_int (T.mf (x:=.i i) _ ⟨_,Y⟩ h))
def bW{x:aP}:RE K (.cS x) (.s x):=λn Q h F A W s q T c=>c.elim λk c=>c.elim λp c=>gH c.1 (ao9 (T.mf (x:=.s x) _ ⟨_,Y,c.2⟩ h))
def aX.RU(R:aX F W K s){a:aY}{o:bC}(c:(a,o)∈W.n\/F.g.X.lookup a=M o):s.heap.get? a=M o:=c.elim (λm=>(R.aC.aF _ m).1) λe=>R.fr.keep _ _ (R.aC.bb _ _ e)
def G8{sc:fh}{i:Nat}{y:aP}(h:isVar sc i y=O):dh sc i=y/\(y=="__debug__")=Z/\(y=="__classdict__")=Z:=
 have h:=dS.mp h;have k:=dS.mp (dS.mp h.2).2
 ⟨bq h.1,beq_eq_false_iff_ne.mpr (bne_iff_ne.mp k.1),beq_eq_false_iff_ne.mpr (bne_iff_ne.mp k.2)⟩
def RW{i:Nat}{y:aP}{R:QE}(kd:F.b.kind=.function)(r:aX F W K s)(iv:isVar F.b i y=O)(hm:K.m i=M x)(h:∀v,VR W (aZ K.h) v x->R v s):wpAny Md A (loadName F.bV y) R br s:=by
 obtain⟨rfl,iv⟩:=G8 iv;have v:=r.lo i x hm
 have P:=h _ v.choose_spec.2;exact v.choose_spec.1.elim (λk=>wpAny_loadName_local kd k.1 r.fr.ns k.2 P) λk=>k.2.elim λa d=>d.elim λo d=>k.1.elim (λk=>wpAny_loadName_cell kd k d.1 ⟨o,r.RU d.2.1,d.2.2⟩ P) λk=>wpAny_loadName_free kd k d.1 ⟨o,r.RU d.2.1,d.2.2⟩ P iv.2
def KL{i:Nat}{y:aP}{R:QE}(T:St F A n W K s)(iv:isVar F.b i y=O)(hm:K.m i=M x)(h:∀v,VR W (aZ K.h) v x->R v s):wpAny Md A (loadName F.bV y) R br s:=RW T.aF.aF T.aC iv hm h
def aG{i:Nat}(hm:K.m i=M x):RE K (.v i) x:=λn Q h F A W s q T c=>c.elim λy c=>c.elim λp c=>gH c.1<|aaw (KL T c.2 hm λv vx=>⟨W,K,x,T.aC,Ext.jE,vx,h⟩) (G8 c.2).2.1
def KM{sc:fh}{x:aP}(g:kT sc x=O):sc.names.lookup x=M .globalImplicit/\(x==("__debug__":aP))=Z:=
 have g:=dS.mp g
 ⟨bq g.1,beq_eq_false_iff_ne.mpr (bne_iff_ne.mp (dS.mp g.2).1)⟩
def Bl(T:St F A n W K s){x:aP}{pos:iA}{R:QE}(g:kT F.b x=O)(e:nsIn ai lJ x=M (M v))(q:R v s):wpAny Md A (eval (.Name x pos) F.bV) R br s:=
 have g:=KM g
 T.aF.aI.elim λp t=>t.elim λloose t=>t.elim λmg t=>t.elim λmb t=>ZK T.aF.aF g.1 (loadGlobal_global (t.g.keeps T.aC.fr.keep) (mg_of T.aC.aC.aI t.g e) q) g.2
def Bm(T:St F A n W K s){x:aP}{pos:iA}{R:QE}(g:kT F.b x=O)(e:nsIn ai lJ x=M U)(hv:C8 x=M v)(hn:x≠"__name__")(q:R v s):wpAny Md A (eval (.Name x pos) F.bV) R br s:=
 have g:=KM g
 T.aF.aI.elim λp t=>t.elim λloose t=>t.elim λmg t=>t.elim λmb t=>ZK T.aF.aF g.1 (apa (t.g.keeps T.aC.fr.keep) (mg_none_of T.aC.aC.aI t.g e) (t.b.keeps T.aC.fr.keep) ((t.builtins x hn).trans hv) q) g.2
def abK(P:jq)(ah:jr):nsIn (K0 P++ah) lJ "MAXINT"=M (M (.int 9223372036854775807 196)):=by kernel_rfl
noncomputable def KN:aP:="abcdefghijklmnopqrstuvwxyzABCDEFGHIJKLMNOPQRSTUVWXYZ0123456789_-"
def abL(P:jq)(ah:jr):nsIn (K0 P++ah) lJ "_IDENTIFIER"=M (M (.str KN 224)):=by kernel_rfl
def abM:RE K (.w 0) (.i 9223372036854775807):=λn Q h F A W s q T c=>c.elim λy c=>c.elim λp c=>gH c.1 (Bl T c.2.1 (aj (bF (bq c.2.2)) (abK w0.params Z0)) (T.mf (x:=.i _) s.toks ⟨_,Y⟩ h))
def abN:RE K (.w 1) (.s KN):=λn Q h F A W s q T c=>c.elim λy c=>c.elim λp c=>gH c.1 (Bl T c.2.1 (aj (bF (bq c.2.2)) (abL w0.params Z0)) (T.mf (x:=.s _) s.toks ⟨_,Y,by decide+kernel⟩ h))
def RX{v:cj}{y:aP}{p:iA}{env:kP}{R:QE}(hc:NB v)(h:wpAny Md A (eval v env) (λo bp=>wpAny Md A (Gy o y O) R br bp) br s):wpAny Md A (eval (.Attribute v y p) env) R br s:=
 aN (aj (hc y env (eval v env)).symm (wm h λo bp h=>aN (xd (aN (jU (wm h λr b6 h=>aN (ZJ (bw h))))))))
def abO{a:Nat}(h:WE n b (λx aT=>∃y,R1 aT (λo=>Gy o (gv a) O) x y/\Q y aT) K):WE n (.a b a) Q K:=λF A W s q T c=>c.elim λv c=>c.elim λy c=>c.elim λp c=>gH c.1<|RX c.2.2.2<|
 Bk T (h F A W s v T c.2.2.1) λo bp bg aT x gD d vx q=>q.elim λz q=>DW gD (aj (xp c.2.1) (q.1 F A n bg bp o gD vx)) q.2
def RY{γ:Type}{X:Wd->Hp->γ->bL->Prop}{l r:cj}{g:aS->aS->hU γ}{P:V->QV}(cl:Cl F X)(T:St F A n W K s)(h:WE n a (λx aT=>WE n b (P x) aT) K)(c1:Ck a F.b (.e l))(c2:Ck b F.b (.e r))
 (k:∀v u b6 dt cK x y,St F A n dt cK b6->VR dt (aZ cK.h) v x->VR dt (aZ cK.h) u y->P x y cK->wpAny Md A (g v u) (X dt cK.h) br b6):
 wpAny Md A (eval l F.bV) (λv bp=>wpAny Md A (eval r F.bV) (λu b6=>wpAny Md A (g v u) (X W K.h) br b6) br bp) br s:=
 wm (h F A W s l T c1) λv bp p=>p.dc λbg aT x R e vx q=>wm (DV cl ⟨T.aF,R⟩ (q F A bg bp r ⟨T.aF,R⟩ c2) λu b6 dt cK y lN t vy abP=>k v u b6 dt cK x y lN (vx.bU t) vy abP) λu b6 w=>wm w λc c p=>cl _ _ _ _ _ _ e p
def Ha{γ δ:Type}{rel:Wd->(Loc->Prop)->γ->δ->Prop}{l r:cj}{g:aS->aS->hU γ}{P:V->QV}{P':δ->QA}(T:St F A n W K s)(h:WE n a (λx aT=>WE n b (P x) aT) K)(c1:Ck a F.b (.e l))(c2:Ck b F.b (.e r))
 (k:∀v u b6 dt cK x y,St F A n dt cK b6->VR dt (aZ cK.h) v x->VR dt (aZ cK.h) u y->P x y cK->wpAny Md A (g v u) (PG rel F dt cK.h P') br b6):
 wpAny Md A (eval l F.bV) (λv bp=>wpAny Md A (eval r F.bV) (λu b6=>wpAny Md A (g v u) (PG rel F W K.h P') br b6) br bp) br s:=RY G7 T h c1 c2 k
def abQ{γ δ:Type}{rel:Wd->(Loc->Prop)->γ->δ->Prop}{l:cj}{g:aS->hU γ}{P':δ->QA}(T:St F A n W K s)(h:RE K a x)(c:Ck a F.b (.e l))(k:∀v bp bg,St F A n bg K bp->VR bg (aZ K.h) v x->wpAny Md A (g v) (PG rel F bg K.h P') br bp):
 wpAny Md A (eval l F.bV) (λv bp=>wpAny Md A (g v) (PG rel F W K.h P') br bp) br s:=
 Bk T (h n (λy bk=>y=x/\bk=K) ⟨Y,Y⟩ F A W s l T c) λv bp bg aT y gD d vy q=>by obtain⟨rfl,rfl⟩:=q;exact k v bp bg gD vy
variable{c i:Nat} {e:Sx} {f:Mp} {vs:Vs} {es:Es} {u:aS} {R:QE} {k:Int} {j:Nat}
def St.cl{k:Nat}(T:St F A n W K s)(h:k<=99):A.units+k<cLine:=bM (ri T.aF.un h) (ao Y)
def VR.R9(h:VR W D v x):handedIn v=O:=
 V.casesOn x (λh=>ak (h) Y) (λb h=>ak (h) Y) (λi h=>(h).elim λt h=>ak h Y) (λs h=>(h).elim λt h=>ak h.1 Y)
  (λl h=>ak (h).1 Y) (λa h=>ak (h) Y) (λh=>cQ (h) λa h=>h.elim λc h=>ak h.1 Y) (λx y h=>cQ (h) λa h=>h.elim λc h=>ak h.1 Y) h
def aX.yS(R:aX F W K s)(hl:K.h l=M (.i c f)):List eQ:=(R.aC.aC.aC l _ hl).2.2.choose
def aX.KO(R:aX F W K s)(hl:K.h l=M (.i c f)):Nat:=(R.aC.aC.aC l _ hl).2.2.choose_spec.choose
def aX.KQ(R:aX F W K s)(hl:K.h l=M (.i c f)):(W.δ l,iZ (R.yS hl) (R.KO hl))∈W.n:=(R.aC.aC.aC l _ hl).2.2.choose_spec.choose_spec.1
def aX.idc(R:aX F W K s)(hl:K.h l=M (.i c f)):∃L:Nl,L.Nodup/\(∀i∈L,f i≠U/\i∈bQ 64)/\(R.yS hl).length<=L.length:=(R.aC.aC.aC l _ hl).2.2.choose_spec.choose_spec.2.1
def aX.yT(R:aX F W K s)(hl:K.h l=M (.i c f))(i:Nat):sI W (aZ K.h) (R.yS hl) i (f i):=(R.aC.aC.aC l _ hl).2.2.choose_spec.choose_spec.2.2 i
def aX.yU(R:aX F W K s)(hl:K.h l=M (.i c f)):InstAt s.heap (W.ρ l) (Dl (hB c) (W.δ l)) (hB c) (M (iZ (R.yS hl) (R.KO hl))):=InstAt.of_news R.aC.aF (R.aC.aC.aC l _ hl).2.1 (R.KQ hl)
def KR{a:Nat}{ex:Bool}(hl:K.h l=M (.i c f))(d:ku c a=O)(hf:f a=M y):R1 K (λo=>Gy o (gv a) ex) (.e l) y:=λF A n W s v T vx=>
 have k:=GH d;have g:=hf▸T.aC.yT hl a
 cQ g λu g=>cQ k.2.2.2.1 λw q=>vx.1▸get_own T.aC.fr T.aC.aC.aI (T.aC.yU hl) k.1 k.2.1 q.1 q.2.1 g.1 g.2.R9 ⟨⟨_,Y⟩,g.2⟩
def Sa{a:Nat}{ex:Bool}{i:Int}(hl:K.h l=M (.i c f))(d:ku c a=O)(hf:f a=U)(hd:Ka c a=M i):R1 K (λo=>Gy o (gv a) ex) (.e l) (.i i):=λF A n W s v T vx=>
 have k:=GH d;have g:sI W (aZ K.h) (T.aC.yS hl) a U:=aj hf (T.aC.yT hl a)
 cQ k.2.2.2.1 λw q=>(q.2.2 i hd).elim λt q'=>ak vx.1 (get_cls T.aC.fr T.aC.aC.aI (T.aC.yU hl) k.1 k.2.1 (aj q'.1 q.1) q'.2 Y k.2.2.1 g ⟨⟨_,Y⟩,⟨t,Y⟩⟩)
def Sb{a:Nat}(hb:RE K b x)(g:R1 K (λo=>Gy o (gv a) O) x y):RE K (.a b a) y:=λn Q q=>abO (hb n _ ⟨y,g,q⟩)
def ra{a:Nat}(hb:RE K b (.e l))(hl:K.h l=M (.i c f))(d:ku c a=O)(hf:f a=M y):RE K (.a b a) y:=Sb hb (KR hl d hf)
def Slot(s:bL)(v:aS):Prop:=∃T id,s.TypeIs v T/\typeLookup (.type T) "__getitem__"=pure (M (.builtin id))
def I2(K:AS)(x y z:V):Prop:=∀F A n W s v u,St F A n W K s->VR W (aZ K.h) v x->VR W (aZ K.h) u y->Slot s v/\wpAny Md A (yz v u) (RV W K s z) br s
def KS{o p:cj}(hp:Pl p)(hs:Slot s v)(h:wpAny Md A (yz v u) R E s):wpAny Md A (Ql o p v u) R E s:=hs.elim λT k=>k.elim λid k=>by
 have fin:wpAny Md A (aau p Z v u) (λr dW=>wpAny Md A (apO o v r>>=λa=>pure r) R E dW) E s:=
  ak (hp.2 v u) (apB (wm h λr dW h=>aN (ZJ (bw h))))
 unfold Ql;rw[aoL k.1.not_modules];exact aN (aN (yt k.1 k.2 (bw (aN fin))))
def DX(h:WE n a (λx aT=>WE n e (λy cK=>∃z,I2 cK x y z/\Q z cK) aT) K):WE n (.s a e) Q K:=λF A W s q T c=>c.elim λo c=>c.elim λp c=>c.elim λpos c=>gH c.1<|Dc<|
 Ha T h c.2.1 c.2.2.1 λv u b6 dt cK x y lN vx vy q=>q.elim λz q=>have w:=q.1 F A n dt b6 v u lN vx vy;KS c.2.2.2 w.1 (DW lN w.2 q.2)
def dH(ha:RE K a x)(he:RE K e y)(g:I2 K x y z):RE K (.s a e) z:=λn Q q=>DX (ha n _ (he n _ ⟨z,g,q⟩))
def KT(h:j<n):Dd (j:Int) n=M j:=by
 have e:=vG.mpr (jR j);have q:=dS.mpr ⟨az (jR j),az (jB.mpr h)⟩
 unfold Dd;rw[au e,aw q]
 rfl
def fits_of(T:St F A n W K s){m:Nat}(h:m<=33554432)(hj:j<m):(j:Int)<2^63:=aoF (jB.mpr (dJ hj h)) (ao Y)
def mj(hl:K.h l=M (.l vs))(hy:vs[j]?=M z):I2 K (.e l) (.i j) z:=λF A n W s v u T vx vy=>vx.1▸cQ vy λt e=>e▸
 ⟨⟨"list",_,⟨_,T.aC.iS hl,Y⟩,Qa.lookup⟩,((T.aC.jF hl).nK hy).elim λw g=>ao8 (T.aC.pF hl) (jR j) (fits_of T (T.aC.yP hl) (cG.mp hy).1) (by rw[PY,<-si];exact g.1) ⟨⟨s.toks,Y⟩,g.2⟩⟩
def abS(h:i<n):(apJ i+(n:Int)).toNat=n-(i+1):=aq Int.toNat (Int.subNatNat_of_le h)
def Hb(hl:K.h l=M (.l vs))(hi:i<vs.length)(hy:vs[vs.length-(i+1)]?=M z):I2 K (.e l) (.i (apJ i)) z:=λF A n W s v u T vx vy=>vx.1▸cQ vy λt e=>e▸
 have ln:=T.aC.pE hl;have lt:=aV hi (aV (T.aC.yP hl) (by decide))
 ⟨⟨"list",_,⟨_,T.aC.iS hl,Y⟩,Qa.lookup⟩,((T.aC.jF hl).nK hy).elim λw g=>wpAny_getItem_list_neg (T.aC.pF hl) (Int.negSucc_lt_zero i) (apb (qb.mpr (ln▸hi))) (apb (qb.mpr lt):-(9223372036854775808)<=-((i+1):Int)) (by rw[ln,abS hi,<-si];exact g.1) ⟨⟨s.toks,Y⟩,g.2⟩⟩
def yV(hy:vs[j]?=M z):I2 K (V.cq vs) (.i j) z:=λF A n W s v u T vx vy=>cQ (VR.lK.mp vx) λa q=>q.elim λbu q=>q.1▸cQ vy λt e=>e▸
 have g:=T.aC.th a bu q.2.1;have hj:=(cG.mp hy).1
 have ln:=q.2.2.iI
 ⟨⟨"tuple",_,⟨_,g,Y⟩,Jf.lookup⟩,(q.2.2.nK hy).elim λw r=>anC ⟨_,g,Y,0,Y⟩ (yu (ao Y) (jR j)) (fits_of T q.2.1.2 (ak ln hj)) (KT (by rw[q8,ln];exact hj)) (by rw[AK];exact r.1) ⟨⟨s.toks,Y⟩,r.2⟩⟩
def ig(hl:K.h l=M (.d es))(ky:y.cV 7=O)(hy:bI es y=M z):I2 K (.e l) y z:=λF A n W s v u T vx vy=>by
 obtain⟨rfl,_⟩:=vx;have hT:s.TypeIs (.ref (W.ρ l)) "dict":=⟨_,T.aC.dg hl,Y⟩
 refine⟨⟨"dict",_,hT,Gg.lookup⟩,?_⟩;unfold yz;refine jU (aN (Jw hT (ao Y) ?_));refine aN (yl hT Gg (oo Gg hT ao' ?_ (apk _ _)));refine aN (m:=Dk (W.ρ l) u) (DD T.aC.th (T.aC.dg hl) (T.aC.md hl) (T.aC.sL hl) vy ky (T.cl (k:=9) (ao Y)) (λe=>cW (e.symm.trans hy)) λv y' e hv tk=>?_);exact bw ⟨v,Y,bw ⟨⟨tk,Y⟩,aj (bF (e.symm.trans hy)) hv⟩⟩
variable{t es:Sx} {l':Loc} {ws:Vs} {m:Nat}
section
variable{o:AY}
def yW(h:WE n a (λx aT=>WE n b (λy cK=>O2 cK (xi o) x y Q) aT) K):WE n (.b o a b) Q K:=λF A W s q T c=>c.elim λl c=>c.elim λr c=>c.elim λp c=>gH c.1<|wpAny_BinOp<|
 Ha T h c.2.1 c.2.2 λv u b6 dt cK x y lN vx vy q=>q F A n dt b6 v u lN vx vy
def jv(ha:RE K a x)(hb:RE K b y)(g:R2 K (xi o) x y z):RE K (.b o a b) z:=λn Q q=>yW (ha n _ (hb n _ λF A n W s v u T vx vy=>DW T (g F A n W s v u T vx vy) q))
def RV.Hc{tk:Nat}{t:pv}:RV W K s (.i k) (.int k t) {s with toks:=tk}:=⟨⟨tk,Y⟩,⟨t,Y⟩⟩
def qm{i j:Int}:R2 K (xi .Add) (.i i) (.i j) (.i (i+j)):=λF A n W s v u T vx vy=>cQ vx λt e=>cQ vy λt' e'=>ak e (ak e' (aqV RV.Hc))
def xG{i j:Int}:R2 K (xi .Sub) (.i i) (.i j) (.i (i-j)):=λF A n W s v u T vx vy=>cQ vx λt e=>cQ vy λt' e'=>ak e (ak e' (aqG RV.Hc))
def Se{i j:Int}(h:j≠0):R2 K (xi .Mod) (.i i) (.i j) (.i (i.fmod j)):=λF A n W s v u T vx vy=>cQ vx λt e=>cQ vy λt' e'=>ak e (ak e' (aqJ h RV.Hc))
def abT{i j:Int}(h:j≠0)(hj:j.natAbs<1073741824):R2 K (xi .FloorDiv) (.i i) (.i j) (.i (i.fdiv j)):=λF A n W s v u T vx vy=>cQ vx λt e=>cQ vy λt' e'=>ak e (ak e' (aqU h RV.Hc (.inl (PyProof.noPylong_small hj))))
def rD(ha:RE K a (.i k)):RE K (.q a) (.i (-k)):=λn Q q F A W s r T c=>c.elim λv c=>c.elim λp c=>gH c.1<|wpAny_UnaryOp<|
 abQ T ha c.2 λo bp bg gD vx=>cQ vx λt e=>ak e (aqI (gD.mf (x:=.i _) _ ⟨_,Y⟩ q))
end
variable{P:Bool->QA} {p q:Bool}
section
variable{ds:Es} {o:CmpOp}
def RV.oH{r:Bool}{tk:Nat}:RV W K s (.o r) (.bool r) {s with toks:=tk}:=⟨⟨tk,Y⟩,Y⟩
def KU(h:WE n a (λx aT=>WE n b (λy cK=>∃r,R2 cK (ox o) x y (.o r)/\Q (.o r) cK) aT) K):WE n (.m o a b) Q K:=λF A W s w T c=>c.elim λl c=>c.elim λr c=>c.elim λp c=>c.1.elim (λe=>gH e<|wpAny_Compare1
 (Ha T h c.2.1 c.2.2.1 λv u b6 dt cK x y lN vx vy q=>q.elim λr q=>DW lN (q.1 F A n dt b6 v u lN vx vy) q.2) c.2.2.2) λe=>cJ.no e Y
def xH(h:WE n a (λx aT=>WE n b (λy cK=>∃r,R2 cK (ox o) x y (.o r)/\P r cK) aT) K):WT n (.m o a b) P K:=λF A W s w T c=>c.elim λl c=>c.elim λr c=>c.elim λp c=>c.1.elim (λe=>cJ.no e Y) λe=>Bj e<|ZE
 (wm (Ha (rel:=λd d v b=>v=.bool b) T h c.2.1 c.2.2.1 λv u b6 dt cK x y lN vx vy q=>q.elim λr q=>wm (q.1 F A n dt b6 v u lN vx vy) λv dW w=>w.1.elim λtk e=>⟨dt,cK,r,e▸lN.aC.qJ tk,Ext.jE,w.2,q.2⟩)
  λv bp w=>wm w λu b6 w=>wm w λv dW w=>w.dc λW' bk x r e q k=>q▸CZ ⟨W',bk,x,r,e,Y,k⟩) c.2.2.2
def Sg(ha:RE K a x)(hb:RE K b y)(g:R2 K (ox o) x y (.o p)):RE K (.m o a b) (.o p):=λn Q q=>KU (ha n _ (hb n _ ⟨p,g,q⟩))
def eH(ha:RE K a x)(hb:RE K b y)(g:R2 K (ox o) x y (.o p)):RT K (.m o a b) p:=λn Q q=>xH (ha n _ (hb n _ ⟨p,g,q⟩))
def yX{i j:Int}:R2 K (ox .Lt) (.i i) (.i j) (.o (decide (i<j))):=λF A n W s v u T vx vy=>cQ vx λt e=>cQ vy λt' e'=>ak e (ak e' (aqL RV.oH))
def Bn{i j:Int}:R2 K (ox .Gt) (.i i) (.i j) (.o (decide (j<i))):=λF A n W s v u T vx vy=>cQ vx λt e=>cQ vy λt' e'=>ak e (ak e' (aqS RV.oH))
def Hd{i j:Int}:R2 K (ox .GtE) (.i i) (.i j) (.o (decide (j<=i))):=λF A n W s v u T vx vy=>cQ vx λt e=>cQ vy λt' e'=>ak e (ak e' (aqT RV.oH))
def KW(kx:x.cV 7=O)(ky:y.cV 7=O):AW (ia x).1 (ia y).1=decide (x=y):=Qb.mpr ((Q8 x kx ky).1.trans decide_eq_true_iff.symm)
def Sh(T:St F A n W K s)(kx:x.cV 7=O):A.units+min (ao2 (ia x).1) m<cLine:=bM (gu (aV (Qe ..) (vQ (D:=aZ K.h) T.aC.th x 7 kx).1.aF) _) (T.cl (ao Y))
def qn(kx:x.cV 7=O)(ky:y.cV 7=O):R2 K (ox .Eq) x y (.o (decide (x=y))):=λF A n W s v u T vx vy=>by obtain⟨⟨as,ra⟩,_,ca⟩:=(vQ T.aC.th x 7 kx).1.aC v vx;obtain⟨⟨bs,rb⟩,_,cb⟩:=(vQ T.aC.th y 7 ky).1.aC u vy;exact aj (KW kx ky) (an5 ra rb ca cb (Sh T kx) (RV.oH))
def qN(kx:x.cV 7=O)(ky:y.cV 7=O):R2 K (ox .NotEq) x y (.o (!decide (x=y))):=λF A n W s v u T vx vy=>by obtain⟨⟨as,ra⟩,_,ca⟩:=(vQ T.aC.th x 7 kx).1.aC v vx;obtain⟨⟨bs,rb⟩,_,cb⟩:=(vQ T.aC.th y 7 ky).1.aC u vy;exact aj (KW kx ky) (an4 ra rb ca cb (Sh T kx) (RV.oH))
noncomputable def isin(n:Bool):CmpOp:=if n then .NotIn else .In
def in_dict{n:Bool}(hl:K.h l=M (.d ds))(kx:x.cV 7=O):R2 K (ox (isin n)) x (.e l) (.o (n^^(bI ds x).isSome)):=λF A m W s v u T vx vy=>by
 obtain⟨rfl,_⟩:=vy;have c:∀{Q:Bool->bL->Prop},(∀tk,Q (bI ds x).isSome {s with toks:=tk})->wpAny Md A (QC (.ref (W.ρ l)) v) Q br s:=λh=>by
  have hT:s.TypeIs (.ref (W.ρ l)) "dict":=⟨_,T.aC.dg hl,Y⟩;unfold QC;refine jU (aN (yt hT ZX.lookup ?_));rw[au (by rw[beq_builtin_none];exact dZ)]
  refine aN (wpAny_callSpecialUnlessNone?_slot hT ZX (oo ZX hT entry_dict_contains ?_ (args_dict_contains _ _)));refine aN (m:=Dk (W.ρ l) v) (DD T.aC.th (T.aC.dg hl) (T.aC.md hl) (T.aC.sL hl) vx kx (T.cl (k:=9) (ao Y)) (λe tk=>?_) λv y e a tk=>?_)
  .have e:(bI ds x).isSome=Z:=aq Qh e;exact aN (wpAny_pendingKey_other (T.aC.qj T.aF (T.aC.dm hl)) (bw ⟨_,Y,CZ (aj e (h tk))⟩))
  .have e:(bI ds x).isSome=O:=aq Qh e;exact bw ⟨_,Y,CZ (aj e (h tk))⟩
 cases n
 .exact aN (c λtk=>bw (aj (AQ _).symm RV.oH))
 .exact aN (c λtk=>bw (aj (Gm _).symm RV.oH))
def in_list{n:Bool}(hl:K.h l=M (.l vs))(kv:∀y∈vs,y.cV 7=O)(kx:x.cV 7=O):R2 K (ox (isin n)) x (.e l) (.o (n^^decide (x∈vs))):=λF A m W s v u T vx vy=>by
 obtain⟨rfl,_⟩:=vy;have al:=T.aC.jF hl
 have he:∀w,w∈T.aC.bu hl->aao A.in1 s w v (decide (VR W (aZ K.h) w x)):=λw hw=>(al.A4 (Zy.mpr hw)).elim λy h=>
  aj (decide_eq_decide.mpr ⟨λe=>aj e h.2,λr=>VR.lM T.aC.th h.2 r (kv y h.1) kx⟩) (Kl T.aC.th h.2 vx (kv y h.1) kx (T.cl (k:=9) (ao Y)))
 have ha:(T.aC.bu hl).any (λw=>decide (VR W (aZ K.h) w x))=decide (x∈vs):=by
  rw[<-aoH];refine Qb.mpr (ZV.trans ⟨λh=>az ?_,λh=>?_⟩)
  .exact h.elim λw h=>(al.A4 h.1).elim λy q=>aj (VR.lM T.aC.th q.2 (aB h.2) (kv y q.1) kx) q.1
  .exact(sj (aB h)).elim λi q=>(al.nK q).elim λw r=>⟨w,cO r.1,az r.2⟩
 cases n
 .exact SeqAt.in_listAt _ (T.aC.pF hl) he (aj ha (aj (AQ _).symm RV.oH))
 .exact SeqAt.notIn_listAt _ (T.aC.pF hl) he (aj ha (aj (Gm _).symm RV.oH))
noncomputable def Bo(y x:aP):Bool:=!(aq3 x y 0 x.length 1).isEmpty
def in_str{n:Bool}{p q:aP}:R2 K (ox (isin n)) (.s p) (.s q) (.o (n^^Bo p q)):=λF A m W s v u T vx vy=>cQ vx λt e=>cQ vy λt' e'=>e.1▸e'.1▸by
 cases n
 .exact aqQ (aj (AQ _).symm RV.oH)
 .exact aqH (aj (Gm _).symm RV.oH)
def bP.Si{R:α->β->Prop}{as:Array α}{bs:List β}(h:bP R as.toList bs):(as.size !=0)=!bs.isEmpty:=by rw[<-AL,h.iI];cases bs<;>rfl
def Tr(K:AS)(x:V)(b:Bool):Prop:=∀F A n W s v,St F A n W K s->VR W (aZ K.h) v x->wpAny Md A (JW v) (λr s'=>(∃tk,s'={s with toks:=tk})/\r=b) br s
def sO:Tr K .n Z:=λF A n W s v T vx=>ak (vx) λa a a=>⟨⟨s.toks,Y⟩,Y⟩
def oI:Tr K (.o p) p:=λF A n W s v T vx=>ak (vx) (CZ ⟨⟨s.toks,Y⟩,Y⟩)
def sQ(hl:K.h l=M (.l vs)):Tr K (.e l) (!vs.isEmpty):=λF A n W s v T vx=>ak vx.1 (wpAny_truthy_list (T.aC.pF hl) (AM (qb.mpr (ak (T.aC.pE hl) (T.aC.yP hl))) (by decide)) ⟨⟨_,Y⟩,(T.aC.jF hl).Si⟩)
def Sj(hl:K.h l=M (.i 2 f)):Tr K (.e l) O:=λF A n W s v T vx=>ak vx.1 (truthy_K0 T.aC.fr T.aC.aC.aI (T.aC.yU hl) (Q0 w0.params Z0).1 (Q0 w0.params Z0).2 ⟨⟨s.toks,Y⟩,Y⟩)
def He(h:WE n a (λx aT=>∃r,Tr aT x r/\P r aT) K):WT n (.l a) P K:=λF A W s w T c=>c.elim (λc=>c.elim λv c=>Bj c.1<|isTrue_plain
 (Bk T (h F A W s v T c.2.1) λo bp bg aT x gD d vx q=>q.elim λr q=>wm (q.1 F A n bg bp o gD vx) λb dW w=>w.1.elim λtk e=>⟨bg,aT,r,ak e (gD.aC.qJ tk),Ext.jE,w.2,q.2⟩) (c.2.2 F.bV _)) λc=>c.elim (λc=>c.elim λv c=>cJ.no c.1 Y) λc=>c.elim λv c=>c.elim λp c=>cJ.no c.1 Y
def fq(ha:RE K a x)(g:Tr K x p):RT K (.l a) p:=λn Q q=>He (ha n _ ⟨p,g,q⟩)
end
variable{r:Sx} {xs:Vs} {k:Bool}
section
variable{L:Vs->QA} {ds:Es} {sc:fh}
def cJ.xI(x:cJ):List cj×List ju:=cJ.rec (motive:=λa=>List cj×List ju) (λa=>([],[])) (λl=>(l,[])) (λa=>([],[])) (λl=>(l,[])) (λa=>([],[])) (λa=>([],[])) (λl=>([],l)) (λa a=>([],[])) x
def Bp{l:List cj}(c:Ck (.c a r) sc (.es l)):∃e q,l=e::q/\Ck a sc (.e e)/\Ck r sc (.es q)/\Pl e:=c.elim (λc=>c.elim λe c=>c.elim λq c=>⟨e,q,aq (λz=>(cJ.xI z).1) c.1,c.2⟩) λc=>c.elim (λc=>c.elim λe c=>c.elim λq c=>cJ.no c.1 Y) λc=>c.elim λe c=>c.elim λq c=>cJ.no c.1 Y
def Sk{l:List cj}(c:Ck (.c a r) sc (.ts l)):∃e q,l=e::q/\Ck a sc (.t e)/\Ck r sc (.ts q):=c.elim (λc=>c.elim λe c=>c.elim λq c=>cJ.no c.1 Y) λc=>c.elim (λc=>c.elim λe c=>c.elim λq c=>⟨e,q,aq (λz=>(cJ.xI z).1) c.1,c.2⟩) λc=>c.elim λe c=>c.elim λq c=>cJ.no c.1 Y
def Sl{l:List ju}(c:Ck (.c a r) sc (.c l)):∃e q,l=e::q/\Ck a sc (.s e)/\Ck r sc (.c q):=c.elim (λc=>c.elim λe c=>c.elim λq c=>cJ.no c.1 Y) λc=>c.elim (λc=>c.elim λe c=>c.elim λq c=>cJ.no c.1 Y) λc=>c.elim λe c=>c.elim λq c=>⟨e,q,aq (λz=>(cJ.xI z).2) c.1,c.2⟩
def KX{l:List cj}(c:Ck .n sc (.es l)):l=[]:=c.elim (aq λz=>(cJ.xI z).1) λc=>c.elim (aq λz=>(cJ.xI z).1) λc=>c.elim (λc=>cJ.no c Y) λc=>cJ.no c Y
def KY{l:List cj}(c:Ck .n sc (.ts l)):l=[]:=c.elim (aq λz=>(cJ.xI z).1) λc=>c.elim (aq λz=>(cJ.xI z).1) λc=>c.elim (λc=>cJ.no c Y) λc=>cJ.no c Y
def abU{l:List ju}(c:Ck .n sc (.c l)):l=[]:=c.elim (λc=>cJ.no c Y) λc=>c.elim (λc=>cJ.no c Y) λc=>c.elim (aq λz=>(cJ.xI z).2) λc=>cJ.no c Y
def St.pg{rel:Wd->(Loc->Prop)->α->β->Prop}{P:β->QA}{v:α}{x:β}(T:St F A n W K s)(h:rel W (aZ K.h) v x)(q:P x K):PG rel F W K.h P v s:=⟨W,K,x,T.aC,Ext.jE,h,q⟩
def eV(q:L [] K):WL n .n L K:=λF A W s l pos T c=>ak (KX c) (C6 (T.pg bP.iH q))
def fM(h:WE n a (λx aT=>WL n r (λxs cK=>L (x::xs) cK) aT) K):WL n (.c a r) L K:=λF A W s l pos T c=>(Bp c).elim λe c=>c.elim λq c=>c.1▸C3
 (wm (h F A W s e T c.2.1) λv bp p=>p.dc λbg aT x R gw vx k=>wm (k F A bg bp q pos ⟨T.aF,R⟩ c.2.2.1) λvs b6 p=>p.dc λdt cK xs eN fc al k=>⟨dt,cK,x::xs,eN,gw.dy fc,.hY (vx.bU (fc.tu R.aC.aC R.nx)) al,k⟩) (c.2.2.2.1 _ _)
def bD:RL K .n []:=λn Q q=>eV q
def aW(h:RE K a x)(k:RL K r xs):RL K (.c a r) (x::xs):=λn Q q=>fM (h n _ (k n _ q))
def KZ(h:WL n es (λxs aT=>xs.length<=16777216/\Q (V.cq xs) aT) K):WE n (.t es) Q K:=λF A W s q T c=>c.elim λl c=>c.elim λk c=>c.elim λp c=>gH c.1<|Tuple_<|
 Bk T (h F A W s l p T c.2) λvs bp bg aT xs gD a al q=>aby gD.aC al q.1 q.2
def jG(h:RL K es xs)(z:xs.length<=16777216):RE K (.t es) (V.cq xs):=λn Q q=>KZ (h n _ ⟨z,q⟩)
def fy(h:WL n es (λxs aT=>xs.length<=16777216/\alloc (.l xs) Q aT) K):WE n (.h es) Q K:=λF A W s q T c=>c.elim λl c=>c.elim λp c=>gH c.1<|List_<|
 Bk T (h F A W s l p T c.2) λvs bp bg aT xs gD a al q=>GU gD.aC al q.1 q.2
def Hf(h:WT n a (λb aT=>P (!b) aT) K):WT n (.o a) P K:=λF A W s q T c=>c.elim λl c=>c.elim λp c=>c.elim (λc=>cJ.no c.1 Y) λc=>Bj c.1<|wpAny_isTrue_Not<|
 wm (h F A W s l T c.2) λb bp p=>p.dc λbg aT x R e v k=>⟨bg,aT,!x,R,e,aq Bool.not v,k⟩
def kF(h:RT K a p):RT K (.o a) (!p):=λn Q q=>Hf (h n _ q)
def yY(h:x≠.n)(e:(v==pe)=Z):(!(v==pe))=decide (x≠.n):=by rw[e,az h];rfl
def abV(h:VR W D v x):(!(v==pe))=decide (x≠.n):=
 V.casesOn x (λh=>by rw[show v=.none from h];exact(aA λe=>e Y).symm) (λb h=>yY (nT Y) (ak (h) Y)) (λi h=>(h).elim λt h=>yY (nT Y) (ak h Y)) (λs h=>(h).elim λt h=>yY (nT Y) (ak h.1 Y))
  (λl h=>yY (nT Y) (ak (h).1 Y)) (λa h=>yY (nT Y) (ak (h) Y)) (λh=>cQ (h) λa h=>h.elim λc h=>yY (nT Y) (ak h.1 Y)) (λx y h=>cQ (h) λa h=>h.elim λc h=>yY (nT Y) (ak h.1 Y)) h
def abW(h:WE n a (λx aT=>P (decide (x≠.n)) aT) K):WT n (.GV a) P K:=λF A W s w T c=>c.elim λl c=>c.elim λk c=>c.elim λp c=>c.elim λp' c=>c.1.elim (λe=>cJ.no e Y) λe=>Bj e<|ZE
 (wm (h F A W s l T c.2) λv bp p=>p.dc λbg aT x R e vx q=>ao1 (isNot_none (CZ ⟨bg,aT,_,R,e,abV vx,q⟩))) Y
def K3(h:RE K a x):RT K (.GV a) (decide (x≠.n)):=λn Q q=>abW (h n _ q)
def DY(h:WT n t (λb aT=>if b then WE n a Q aT else WE n e Q aT) K):WE n (.sM t a e) Q K:=λF A W s q T c=>c.elim λl c=>c.elim λx c=>c.elim λy c=>c.elim λp c=>gH c.1<|wpAny_IfExp<|
 wm (h F A W s l T c.2.1) (λb bp p=>p.dc λbg aT d R e v k=>by
  subst v;cases b
  .exact kS e (k F A bg bp y ⟨T.aF,R⟩ c.2.2.2)
  .exact kS e (k F A bg bp x ⟨T.aF,R⟩ c.2.2.1))
noncomputable def Hg(k:Bool):BoolOp:=if k then .And else .Or
def WA(n:Nat)(k:Bool)(ts:Sx)(P:Bool->QA)(K:AS):Prop:=∀F A W s q,St F A n W K s->Ck ts F.b (.ts q)->wpAny Md A (allTrue (Hg k) q F.bV) (Ks F W K.h P) br s
def Sm(q:P k K):WA n k .n P K:=λF A W s l T c=>KY c▸by
 cases k
 .exact wpAny_allTrue_Or_nil (T.pg Y q)
 .exact wpAny_allTrue_And_nil (T.pg Y q)
def Bq(h:WT n t (λb aT=>if b=k then WA n k r P aT else P (!k) aT) K):WA n k (.c t r) P K:=λF A W s l T c=>(Sk c).elim λe c=>c.elim λq c=>c.1▸by
 have w:=h F A W s e T c.2.1;cases k
 .refine wpAny_allTrue_Or_cons (wm w λb bp p=>p.dc λbg aT d R e v k=>?_);subst v;cases b
  .exact kS e (k F A bg bp q ⟨T.aF,R⟩ c.2.2)
  .exact⟨bg,aT,O,R,e,Y,k⟩
 .refine wpAny_allTrue_And_cons (wm w λb bp p=>p.dc λbg aT d R e v k=>?_);subst v;cases b
  .exact⟨bg,aT,Z,R,e,Y,k⟩
  .exact kS e (k F A bg bp q ⟨T.aF,R⟩ c.2.2)
def Hh(h:WA n k es P K):WT n (.fJ k es) P K:=λF A W s q T c=>c.elim λl c=>c.elim λp c=>c.elim (λc=>cJ.no c.1 Y) λc=>Bj c.1 (wpAny_isTrue_BoolOp (h F A W s l T c.2))
def Br(h:RT K e p)(q:P p K):WA n k (.c e .n) P K:=Bq (h n _ (by
 by_cases w:p=k
 .rw[aw w];exact Sm (aj w q)
 .rw[au w,show(!k)=p by revert w;cases p<;>cases k<;>decide];exact q))
def xJ(h:RT K t (!k))(q:P (!k) K):WA n k (.c t r) P K:=Bq (h n _ (by rw[au (by cases k<;>decide)];exact q))
def Bs(h:RT K t k)(w:WA n k r P K):WA n k (.c t r) P K:=Bq (h n _ (by rw[aw Y];exact w))
def Bt(h:∀n P,P p K->WA n k es P K):RT K (.fJ k es) p:=λn Q q=>Hh (h n Q q)
end
def Kp(f:aS)(h:fL):Prop:=∃k,(k=Keeper.frame\/k=Keeper.machine\/k=Keeper.boundFrame)/\Looks Md h (keeperOf f) k
def OL(n:Nat)(f:aS)(xs:Vs)(Q:QV)(K:AS):Prop:=∀F A W s vs,St F A n W K s->bP (VR W (aZ K.h)) vs xs->Kp f s.heap/\wpAny Md A (call f vs) (ib F W K.h Q) br s
def Prim.fn(p:Prim):aS:=Prim.rec (motive:=λa=>aS) (.builtin "len") (.builtin "min") (.builtin "sorted") (.type "list") (.type "tuple") (.builtin "all") (.type "str") (.type "set") .none .none .none .none .none .none .none (.builtin "sum") (λa=>.none) p
variable{f:aS} {p:Prim}
section
variable{sc:fh}
def abX{a:List (Bool×hU aS)}{R:Args->bL->Prop}(hp:a.any (·.1)=Z)(h:wpAny Md A (spliced a) (λvs s'=>R ⟨vs,[]⟩ s') br s):wpAny Md A (evalArgs f O a []) R br s:=by
 cases a with
 |nil=>unfold evalArgs;exact aN (wm h λvs s' h=>jU (aN (bw (aN (bw (bw h))))))
 |cons p r=>
  obtain⟨b,x⟩:=p;cases b with
  |false=>exact evalArgs_plain h
  |true=>exact b9 hp
def yZ{l:List cj}{pos:iA}{first:List aS}{env:kP}(hp:oB l)(h:wpAny Md A (spliced (xk pos (ud l env))) (λvs bp=>Kp f bp.heap/\wpAny Md A (call f (first++vs)) R br bp) br s):wpAny Md A (QD pos f first (xk pos (ud l env)) []) R br s:=
 callWith_of (by rw[hp];rfl) (λa k=>k) (abX (hp pos env) h)
def D3{l:List cj}{pos:iA}{y:Vs}{first:List aS}(hp:oB l)(T:St F A n W K s)(c:Ck es F.b (.es l))(hf:bP (VR W (aZ K.h)) first y)(h:WL n es (λxs aT=>OL n v (y++xs) Q aT) K):wpAny Md A (QD pos v first (xk pos (ud l F.bV)) []) (ib F W K.h Q) br s:=
 yZ hp (wm (h F A W s l pos T c) λvs bp p=>p.dc λbg aT xs R e al q=>have w:=q F A bg bp _ ⟨T.aF,R⟩ ((hf.bU λa a=>VR.bU (e.tu T.aC.aC.aC T.aC.nx)).xq al);⟨w.1,kS e w.2⟩)
def kU{f:Nat}(h:WL n es (λxs aT=>OL n (.ref (bS f)) xs Q aT) K):WE n (.d f es) Q K:=λF A W s q T c=>c.elim λx c=>c.elim λqp c=>c.elim λl c=>c.elim λp c=>gH c.1<|aN<|
 Bl T c.2.1 (bq (QZ c.2.2.1).1) (D3 c.2.2.2.2 T c.2.2.2.1 .iH h)
def D5{f:Nat}(h:WL n es (λxs aT=>OL n (.ref (hB f)) xs Q aT) K):WE n (.B f es) Q K:=λF A W s q T c=>c.elim λx c=>c.elim λqp c=>c.elim λl c=>c.elim λp c=>gH c.1<|aN<|
 Bl T c.2.1 (bq (aa6 c.2.2.1).1) (D3 c.2.2.2.2 T c.2.2.2.1 .iH h)
def Sn(P:jq)(ah:jr)(p:Prim):p.Kw=O->nsIn (K0 P++ah) lJ p.uk=M U:=by cases p<;>first|exactλh=>b9 h|exactλa=>by kernel_rfl
def K5(p:Prim):p.Kw=O->C8 p.uk=M p.fn/\p.uk≠"__name__":=by cases p<;>first|exactλh=>b9 h|exactλa=>⟨by decide+kernel,ao Y⟩
def qO(hp:p.Kw=O)(h:WL n es (λxs aT=>OL n p.fn xs Q aT) K):WE n (.p p es) Q K:=λF A W s q T c=>c.elim λqp c=>c.elim λl c=>c.elim λpos c=>gH c.1<|aN<|
 Bm T c.2.1 (Sn w0.params Z0 p hp) (K5 p hp).1 (K5 p hp).2 (D3 c.2.2.2 T c.2.2.1 .iH h)
def K6{l:List cj}{o:cj}{name:aP}{ap pos:iA}{env:kP}{ov:aS}(hp:oB l)(h1:(ap.endLine==pos.line)=O)(h2:rx l.length 20=O)
 (h:∀pl,wpAny Md A (getMethod ov name pl) (λr bp=>wpAny Md A (QD pos r.1 r.2 (xk pos (ud l env)) []) R br bp) br s):
 wpAny Md A (methodCall o name ap pos env ov (l.length+0) (xk pos (ud l env)) (backToKw pos (keywordEach [] env))) R br s:=by
 have hf:apN (l.length+0) (xk pos (ud l env)) (backToKw pos (keywordEach [] env))=O:=by
  have:(xk pos (ud l env)).all (λx=>!x.1)=O:=lI.mpr λx hx=>ak (nz.mpr (aoD.mp (hp pos env) x hx)) Y;have q:decide (l.length+0+0<30)=O:=az (dJ (jo h2) (ao Y))
  unfold apN;rw[this];exact q
 have hq:methodCallPos O o env ap pos=pure pos:=by unfold methodCallPos;rw[h1];rfl
 unfold methodCall;rw[hf];refine aN (jU (wm (h _) λr bp h₁=>?_));dsimp only;exact ak hq (aN (bw h₁))
def GM(K:AS)(x:V)(name:aP)(fv:aS):Prop:=∀F A n W s v pl,St F A n W K s->VR W (aZ K.h) v x->∀R:aS×List aS->bL->Prop,R (fv,[v]) s->wpAny Md A (getMethod v name pl) R br s
def So{o:cj}{y:aP}{q pos:iA}{l:List cj}(T:St F A n W K s)(c1:Ck b F.b (.e o))(c2:Ck es F.b (.es l))(h1:(q.endLine==pos.line)=O)(h2:rx l.length 20=O)(hb:NB o)(hp:oB l)
 (h:WE n b (λx aT=>∃fv,GM aT x y fv/\WL n es (λxs cK=>OL n fv (x::xs) Q cK) aT) K):wpAny Md A (eval (.Call (.Attribute o y q) l [] pos) F.bV) (ib F W K.h Q) br s:=
 aN (aj (hb y F.bV (eval o F.bV)).symm (Bk T (h F A W s o T c1) λov bp bg aT x gD a vx k=>k.elim λfv k=>aN (xd (K6 hp h1 h2 λpl=>k.1 F A n bg bp ov pl gD vx _ (D3 hp gD c2 (.hY vx .iH) k.2)))))
def kW{a f:Nat}{g:Mp}(hl:K.h l=M (.i c g))(hm:DB c a=M f)(hg:g a=U):GM K (.e l) (gv a) (.ref (bS f)):=λF A n W s v pl T vx R q=>
 have k:=QW hm
 ak vx.1 (method_inst T.aC.fr T.aC.aC.aI (T.aC.yU hl) k.1 (bq k.2.1) k.2.2.1 (aj hg (T.aC.yT hl a):sI W (aZ K.h) (T.aC.yS hl) a U) (aj vx.1 q))
def jw{a:Nat}(h:WE n b (λx aT=>∃fv,GM aT x (gv a) fv/\WL n es (λxs cK=>OL n fv (x::xs) Q cK) aT) K):WE n (.ic b a es) Q K:=λF A W s q T c=>c.elim λv c=>c.elim λy c=>c.elim λqp c=>c.elim λl c=>c.elim λpos c=>gH c.1<|
 So T c.2.2.1 c.2.2.2.1 c.2.2.2.2.1 c.2.2.2.2.2.1 c.2.2.2.2.2.2.1 c.2.2.2.2.2.2.2 (aj (xp c.2.1) h)
def iT(h:WE n b (λx aT=>∃fv,GM aT x p.uk fv/\WL n es (λxs cK=>OL n fv (x::xs) Q cK) aT) K):WE n (.cD p b es) Q K:=λF A W s q T c=>c.elim λv c=>c.elim λqp c=>c.elim λl c=>c.elim λpos c=>gH c.1<|
 So T c.2.1 c.2.2.1 c.2.2.2.1 c.2.2.2.2.1 c.2.2.2.2.2.1 c.2.2.2.2.2.2 h
def Hi(hl:K.h l=M (.l vs)):GM K (.e l) "append" (.builtin "list.append"):=λF A n W s v pl T vx R q=>ak vx.1 (AN ⟨_,T.aC.iS hl,Y⟩ Zo PySem.F.slot_list_append PySem.F.type_list_append (λa e=>by cases e;exact⟨_,T.aC.iS hl,Y⟩) (aj vx.1 q))
def abY(hl:K.h l=M (.l vs)):GM K (.e l) "pop" (.builtin "list.pop"):=λF A n W s v pl T vx R q=>ak vx.1 (AN ⟨_,T.aC.iS hl,Y⟩ Zo anW PySem.F.type_list_pop (λa e=>by cases e;exact⟨_,T.aC.iS hl,Y⟩) (aj vx.1 q))
def abZ(hl:K.h l=M (.l vs)):GM K (.e l) "insert" (.builtin "list.insert"):=λF A n W s v pl T vx R q=>ak vx.1 (AN ⟨_,T.aC.iS hl,Y⟩ Zo anK PySem.F.type_list_insert (λa e=>by cases e;exact⟨_,T.aC.iS hl,Y⟩) (aj vx.1 q))
def kX{ds:Es}(hl:K.h l=M (.d ds)):GM K (.e l) "get" (.builtin "dict.get"):=λF A n W s v pl T vx R q=>ak vx.1 (AN ⟨_,T.aC.dg hl,Y⟩ Zp Zr PySem.F.type_dict_get (λa e=>by cases e;exact⟨_,T.aC.dg hl,Y⟩) (aj vx.1 q))
def ab0{z:aP}:GM K (.s z) "join" (.builtin "str.join"):=λF A n W s v pl T vx R q=>cQ vx λt e=>ak e.1 (AN (typeIs_str _ _ _) PySem.F.plainAttrs_str PySem.F.slot_str_join PySem.F.type_str_join (λa e=>by cases e) (aj e.1 q))
end
variable{k:Nat} {h':fL}
section
variable{ds:Es} {sc:fh} {tk:Nat} {bu:Array aS}
def rE(hk:∀h,Kp f h)(h:∀F A W s v,St F A n W K s->VR W (aZ K.h) v x->wpAny Md A (call f [v]) (ib F W K.h Q) br s):OL n f [x] Q K:=λF A W s vs T al=>⟨hk _,al.kC.elim λv q=>q.elim λr q=>ak q.1 (ak q.2.2.oy (h F A W s v T q.2.1))⟩
def D6(hk:∀h,Kp f h)(h:∀F A W s v u,St F A n W K s->VR W (aZ K.h) v x->VR W (aZ K.h) u y->wpAny Md A (call f [v,u]) (ib F W K.h Q) br s):OL n f [x,y] Q K:=λF A W s vs T al=>⟨hk _,al.kC.elim λv q=>q.elim λr q=>ak q.1 (q.2.2.kC.elim λu q'=>q'.elim λr q'=>q'.1▸q'.2.2.oy▸h F A W s v u T q.2.1 q'.2.1)⟩
def Sp(hk:∀h,Kp f h)(h:∀F A W s v u w,St F A n W K s->VR W (aZ K.h) v x->VR W (aZ K.h) u y->VR W (aZ K.h) w z->wpAny Md A (call f [v,u,w]) (ib F W K.h Q) br s):OL n f [x,y,z] Q K:=λF A W s vs T al=>⟨hk _,al.kC.elim λv q=>q.elim λr q=>ak q.1 (q.2.2.kC.elim λu q'=>q'.elim λr q'=>q'.1▸q'.2.2.kC.elim λw p=>p.elim λr p=>p.1▸p.2.2.oy▸h F A W s v u w T q.2.1 q'.2.1 p.2.1)⟩
def lO(id:String)(h:fL):Kp (.builtin id) h:=⟨.machine,.inr (.inl Y),.now⟩
def Bu(id:String)(h:fL):Kp (.type id) h:=⟨.machine,.inr (.inl Y),.now⟩
def aX.K7{rel:Wd->(Loc->Prop)->α->β->Prop}{ai:β->QA}{v:α}{x:β}(R:aX F W K s)(l0:l.1≠0)(hl:K.h l=M (.l vs))(sb:qa (W.ρ l) s.heap h')(g:h'.get? (W.ρ l)=M (listOf bu k))(al:bP (VR W (aZ K.h)) bu.toList ws)(z:ws.length<=33554432)(vx:∀W' D',Tu W W' (aZ K.h) D'->rel W' D' v x)(q:ai x (K.aH l (.l ws) K.t)):PG rel F W K.h ai v {s with heap:=h',toks:=tk}:=
 (R.Ku ⟨l0,nH hl,λw=>b9 w⟩ (λw=>ax w Rr) (λw=>w.elim λa w=>w.elim λb w=>yF (w.symm.trans hl) Y) ((au l0).mp (R.Rq hl)) (λv w=>by cases w) sb g λW' t ea c m=>⟨bu,k,(au l0).mpr (show(W'.bY (l,Z),_)∈_ from ak ea m),al.bU λc c=>VR.bU t,z⟩).elim λW' w=>⟨W',_,x,w.1,w.2,vx W' _ (w.2.tu R.aC.aC R.nx),q⟩
def aX.K8(R:aX F W K s)(l0:l.1≠0)(hl:K.h l=M (.l vs))(sb:qa (W.ρ l) s.heap h')(g:h'.get? (W.ρ l)=M (listOf bu k))(al:bP (VR W (aZ K.h)) bu.toList ws)(z:ws.length<=33554432)(vx:VR W (aZ K.h) v x)(q:Q x (K.aH l (.l ws) K.t)):ib F W K.h Q v {s with heap:=h',toks:=tk}:=R.K7 l0 hl sb g al z (λa a t=>vx.bU t) q
def aX.Sq{rel:Wd->(Loc->Prop)->α->β->Prop}{ai:β->QA}{v:α}{x:β}{dA:Es}{de:List eQ}(R:aX F W K s)(hl:K.h l=M (.d ds))(sb:qa (W.ρ l) s.heap h')(g:h'.get? (W.ρ l)=M (iZ de dA.length))(al:bP (DE W (aZ K.h)) de dA)(nd:(dA.map (·.1)).Nodup)(z:dA.length<=33554432)(vx:∀W' D',Tu W W' (aZ K.h) D'->rel W' D' v x)(q:ai x (K.aH l (.d dA) K.t)):PG rel F W K.h ai v {s with heap:=h',toks:=tk}:=
 have l0:=(R.aC.aC.aC l _ hl).1
 (R.Ku ⟨l0,nH hl,λw=>b9 w⟩ (λw=>ax w Kt) (λw=>w.elim λa w=>w.elim λb w=>yF (w.symm.trans hl) Y) (R.dm hl) (λv w=>by cases w) sb g λW' t ea c m=>⟨l0,de,(show(W'.bY (l,Z),_)∈_ from ak ea m),al.bU λc c e=>⟨e.aC.bU t,e.aK.bU t,e.aF,e.aI⟩,nd,z⟩).elim λW' w=>⟨W',_,x,w.1,w.2,vx W' _ (w.2.tu R.aC.aC R.nx),q⟩
def D7(l0:l.1≠0)(hl:K.h l=M (.l vs))(z:vs.length<16777216)(q:Q .n (K.aH l (.l (vs++[y])) K.t)):OL n (.builtin "list.append") [.e l,y] Q K:=D6 (lO _) λF A W s v u T vx vy=>vx.1▸
 append_at (hsz:=ak (T.aC.pE hl) (kq▸dK z)) (T.aC.iS hl) λh' sb g=>T.aC.K8 (x:=.n) l0 hl sb g (by rw[aox];exact(T.aC.jF hl).xq (.hY vy .iH)) (ak dY (aV z (by decide))) Y q
def ab1(l0:l.1≠0)(hl:K.h l=M (.l vs))(hy:vs[vs.length-1]?=M y)(z:vs.length<=16777216)(q:Q y (K.aH l (.l (vs.eraseIdx (vs.length-1))) K.t)):OL n (.builtin "list.pop") [.e l] Q K:=rE (lO _) λF A W s v T vx=>vx.1▸((T.aC.jF hl).nK hy).elim λu g=>
 have ln:=T.aC.pE hl;have hu:(T.aC.bu hl)[(T.aC.bu hl).size-1]?=M u:=aj (si) (ak ln g.1)
 call_meets anW ⟨_,T.aC.iS hl,Y⟩ PySem.F.entry_list_pop (PySem.F.args_list_pop_1 _) (aqn (W.ρ l) (T.aC.bu hl) (T.aC.Bc hl) u hu (ak ln (kq▸z))) ⟨T.aC.iS hl,
  T.aC.K8 l0 hl (tY ..) (tX _ (T.aC.iS hl) Y) (by rw[Array.toList_eraseIdxIfInBounds,ln];exact(T.aC.jF hl).eraseIdx _) (aV (List.length_eraseIdx_le ..) (T.aC.yP hl)) g.2 q⟩
def fits63(h:j<n)(z:n<=33554432):anB (j:Int)=O:=fitsIndex_of (yu (ao Y) (jR j)) (aoF (jB.mpr (dJ h z)) (ao Y))
def sS(hl:K.h l=M (.d ds))(kx:x.cV 7=O)(q:Q ((bI ds x).getD .n) K):OL n (.builtin "dict.get") [.e l,x] Q K:=D6 (lO _) λF A W s v u T vx vy=>vx.1▸by
 refine oo Zr ⟨_,T.aC.dg hl,Y⟩ anQ ?_ (PySem.F.args_dict_get_2 _ _);refine aN (m:=Dk (W.ρ l) u) (DD T.aC.th (T.aC.dg hl) (T.aC.md hl) (T.aC.sL hl) vy kx (T.cl (k:=9) (ao Y)) (λe tk=>?_) λv y e hv tk=>bw ⟨v,Y,T.mf tk hv (by rw[e]at q;exact q)⟩)
 exact aN (ZW (T.aC.qj T.aF (T.aC.dm hl)) (bw ⟨.none,Y,T.mf (x:=.n) tk Y (by rw[e]at q;exact q)⟩))
def ur(hl:K.h l=M (.d ds))(kx:x.cV 7=O)(q:Q ((bI ds x).getD z) K):OL n (.builtin "dict.get") [.e l,x,z] Q K:=Sp (lO _) λF A W s v u d T vx vy vd=>vx.1▸by
 refine oo Zr ⟨_,T.aC.dg hl,Y⟩ anQ ?_ (PySem.F.args_dict_get_3 _ _ _);refine aN (m:=Dk (W.ρ l) u) (DD T.aC.th (T.aC.dg hl) (T.aC.md hl) (T.aC.sL hl) vy kx (T.cl (k:=9) (ao Y)) (λe tk=>?_) λv y e hv tk=>bw ⟨v,Y,T.mf tk hv (by rw[e]at q;exact q)⟩)
 exact aN (ZW (T.aC.qj T.aF (T.aC.dm hl)) (bw ⟨d,Y,T.mf tk vd (by rw[e]at q;exact q)⟩))
def ab2(hl:K.h l=M (.l vs))(q:Q (.i vs.length) K):OL n (.builtin "len") [.e l] Q K:=rE (lO _) λF A W s v T vx=>vx.1▸
 call_len_list (T.aC.pF hl) (AM (qb.mpr (ak (T.aC.pE hl) (T.aC.yP hl))) (by decide)) (T.mf (x:=.i (T.aC.bu hl).size) _ ⟨_,Y⟩ (aj (T.aC.pE hl).symm q))
def K9(hl:K.h l=M (.l vs))(z:vs.length<=16777216)(q:Q (V.cq vs) K):OL n (.type "tuple") [.e l] Q K:=rE (Bu _) λF A W s v T vx=>vx.1▸
 call_tuple_list (T.aC.pF hl) (λh' hk=>T.aC.Rw (λb o e=>eG _ (hk b o e)) (λb o e=>eJ (hk b o e)) (jY _ Y) (T.aC.jF hl) z q) (aj kq (ak (T.aC.pE hl) z))
def SI(x y z:V)(ai:QA)(K:AS):Prop:=∀F A n W s v u w,St F A n W K s->VR W (aZ K.h) v x->VR W (aZ K.h) u y->VR W (aZ K.h) w z->wpAny Md A (JU v u w) (uj F W K.h ai) br s
def ab3{a:aY}{k:Int}{t:pv}{R:Unit->bL->Prop}(ho:s.heap.get? a=M (listOf bu m))(h0:0<=k)(ab4:k<2^63)(hn:k.toNat<bu.size)(h:R () {s with heap:=s.heap.update a (qc (·.setIfInBounds k.toNat v))}):wpAny Md A (JU (.ref a) (.int k t) v) R br s:=by have hT:s.TypeIs (.ref a) "list":=⟨_,ho,Y⟩;unfold JU;refine jU (aN (Jw hT (ao Y) ?_));refine aN (yl hT api (oo api hT entry_list_setitem ?_ (args_list_setitem _ _ _)));refine aN (m:=Zi (.int k t)) (wpAny_listSubscript_int (fitsIndex_of h0 ab4) ?_);obtain⟨j,rfl⟩:=Int.eq_ofNat_of_zero_le h0;refine aN (aN (wpAny_seqItemAt ho Y (bw ?_)));exact ak (Zn (show j<bu.size from hn)) (aN (wpAny_setSeqItemAt ho Y (bw ⟨.none,Y,bw h⟩)))
def ab5{ai:QA}(l0:l.1≠0)(hl:K.h l=M (.l vs))(hj:j<vs.length)(q:ai (K.aH l (.l (vs.set j z)) K.t)):SI (.e l) (.i j) z ai K:=λF A n W s v u w T vx vy vz=>vx.1▸cQ vy λt e=>e▸
 have ln:=T.aC.pE hl
 ab3 (T.aC.iS hl) (jR j) (fits_of T (T.aC.yP hl) hj) (ak ln hj) (T.aC.K7 (x:=()) l0 hl (tY ..) (tX _ (T.aC.iS hl) Y) (by rw[Array.toList_setIfInBounds];exact(T.aC.jF hl).dw j vz) (by rw[aoW];exact T.aC.yP hl) (λa a a=>trivial) q)
end
def ab6(x:aP)(t:pv):(apE x t).isStr x=O:=beq_self_eq_true x
def ab7{x y:aP}(t:pv)(h:x≠y):(apE x t).isStr y=Z:=beq_eq_false_iff_ne.mpr h
def Sr{k:aS}{x y:aP}(h:k.isStr x=O)(n:x≠y):k.isStr y=Z:=by cases k<;>first|rfl|exact beq_eq_false_iff_ne.mpr λe=>n ((bq h).symm.trans e)
def Hj{x:aP}{e:eQ}{r:List eQ}(q:e.key.isStr x=Z):(e::r).find? (·.key.isStr x)=r.find? (·.key.isStr x):=List.find?_cons_of_neg (nz.mp q)
def ab8(name:aP)(h:Int)(t:pv)(v:aS):∀es:List eQ,∃e,(putL name h (.str name t) v es).find? (·.key.isStr name)=M e/\e.val=v:=by
 intro es
 induction es with
 |nil=>exact⟨⟨h,.str name t,v⟩,an' (ab6 name t),Y⟩
 |cons e r ih=>
  unfold putL;cases q:e.key.isStr name with
  |true=>exact⟨⟨e.hash,e.key,v⟩,an' q,Y⟩
  |false=>exact ih.elim λe' k=>⟨e',(Hj q).trans k.1,k.2⟩
def ab9{name y1:aP}(n:name≠y1)(h:Int)(t:pv)(v:aS):∀es:List eQ,(putL name h (.str name t) v es).find? (·.key.isStr y1)=es.find? (·.key.isStr y1):=by
 intro es
 induction es with
 |nil=>exact Hj (ab7 t n)
 |cons e r ih=>
  unfold putL;cases q:e.key.isStr name with
  |true=>exact(Hj (e:=⟨e.hash,e.key,v⟩) (Sr q n)).trans (Hj (Sr q n)).symm
  |false=>show List.find? _ (e::putL name h (.str name t) v r)=_;rw[ao0,ao0,ih]
def ab'(name:aP)(h:Int)(t:pv)(v:aS):∀es:List eQ,(putL name h (.str name t) v es).any (·.refKey)=es.any (·.refKey):=by
 intro es
 induction es with
 |nil=>exact rfl
 |cons e r ih=>
  unfold putL;cases q:e.key.isStr name with
  |true=>rfl
  |false=>exact aq (e.refKey||·) ih
def aca(name:aP)(h:Int)(t:pv)(v:aS)(es:List eQ):getL name (putL name h (.str name t) v es)=M (M v):=(ab8 name h t v es).elim λe k=>by unfold getL;rw[k.1,<-k.2]
def acb{name y1:aP}(n:name≠y1)(h:Int)(t:pv)(v:aS)(es:List eQ):getL y1 (putL name h (.str name t) v es)=getL y1 es:=by unfold getL;rw[ab9 n,ab']
def acd(name:aP)(h:Int)(key v:aS):∀es:List eQ,(putL name h key v es).length=es.length\/((putL name h key v es).length=es.length+1/\es.any (·.key.isStr name)=Z):=by
 intro es
 induction es with
 |nil=>exact .inr ⟨Y,Y⟩
 |cons e r ih=>
  unfold putL;cases q:e.key.isStr name with
  |true=>exact .inl rfl
  |false=>exact ih.imp (aq Gv) λk=>⟨aq Gv k.1,by rw[List.any_cons,q,k.2];rfl⟩
variable{f:Mp}
section
variable{ai:QA} {ds:Es}
def Su{es:Es}(h:es.length<16777216):(cX es x y).length<=33554432:=aV Kr (aV h (ao Y))
def Sy{w:aS}(R:aX F W K s)(nm:(W.ρ l==xh)=Z)(cu:A.units+9<cLine)(hl:K.h l=M (.d ds))(kx:y.cV 7=O)(hz:ds.length<16777216)(vy:VR W (aZ K.h) u y)(vz:VR W (aZ K.h) w z)(q:ai (K.aH l (.d (cX ds y z)) K.t)):wpAny Md A (JU (.ref (W.ρ l)) u w) (uj F W K.h ai) br s:=by
 have hT:s.TypeIs (.ref (W.ρ l)) "dict":=⟨_,R.dg hl,Y⟩;unfold JU;refine jU (aN (Jw hT (ao Y) ?_));refine aN (yl hT apj (oo apj hT entry_dict_setitem ?_ (args_dict_setitem _ _ _)));exact aN (PQ hT (aN (m:=JV (W.ρ l) u w) (Rl R.th (R.dg hl) (R.md hl) (R.sL hl) vy kx vz cu (by rw[kq];exact dK hz) λh' rA tk sb g al=>
  bw ⟨.none,Y,bw (R.Sq (x:=()) hl sb g al (Rj (R.sL hl)) (Su hz) (λa a a=>trivial) q)⟩)))
def vV(hl:K.h l=M (.d ds))(kx:y.cV 7=O)(hz:ds.length<16777216)(q:ai (K.aH l (.d (cX ds y z)) K.t)):SI (.e l) y z ai K:=λF A n W s v u w T vx vy vz=>ak vx.1 (Sy T.aC (T.aC.qj T.aF (T.aC.dm hl)) (T.cl (ao Y)) hl kx hz vy vz q)
set_option tactic.hygienic true in
def ace{a:Nat}{de:List eQ}{h:Int}{k:aS}(g:sI W D de a (f a))(lt:rx a 64=O)(c:∃L:Nl,L.Nodup/\(∀i∈L,f i≠U/\i∈bQ 64)/\de.length<=L.length):∃L:Nl,L.Nodup/\(∀i∈L,aJ f a y i≠U/\i∈bQ 64)/\(putL (gv a) h k u de).length<=L.length:=c.elim λL c=>by
 have up:∀i∈L,aJ f a y i≠U/\i∈bQ 64:=λi m=>⟨λw=>by
  unfold aJ at w
  split at w
  .cases w
  .exact(c.2.1 i m).1 w,(c.2.1 i m).2⟩
 rcases acd (gv a) h k u de with e|⟨e,no⟩
 .exact⟨L,c.1,up,ak e c.2.2⟩
 .refine⟨a::L,iY.mpr ⟨λm=>?_,c.1⟩,λi m=>?_,ak e (j3 c.2.2)⟩
  .cases hf:f a with
   |none=>exact(c.2.1 a m).1 hf
   |some w=>
    have g:=hf▸g;refine bT g λw g b=>?_;unfold getL at g
    split at g
    .rename_i d q;exact dZ ((aoD.mp no d (anR q) (aoZ (p:=λe:eQ=>e.key.isStr (gv a)) q)).elim)
    .split at g<;>cases g
  .rcases cU.mp m with rfl|m
   .exact⟨λw=>(hV ((aw Y).symm.trans w)),j4.mpr (jo lt)⟩
   .exact up i m
def D8(x:V)(a:Nat)(y:V)(ai:QA)(K:AS):Prop:=∀F A n W s v u,St F A n W K s->VR W (aZ K.h) v x->VR W (aZ K.h) u y->wpAny Md A (setAttr v (gv a) u) (uj F W K.h ai) br s
def acf{de Sz:List eQ}{o:Option V}(t:Tu W W' D D')(e:getL (gv i) Sz=getL (gv i) de)(h:sI W D de i o):sI W' D' Sz i o:=by
 cases o with
 |none=>exact e.trans h
 |some x=>exact cQ h λv h=>⟨v,e.trans h.1,h.2.bU t⟩
def acg{de:List eQ}{o:Option V}(h:sI W D de i o):(getL (gv i) de).isSome=O:=by
 cases o with
 |none=>exact aq Qh h
 |some x=>exact cQ h λv h=>aq Qh h.1
def SD{a:Nat}(R:aX F W K s)(hl:K.h l=M (.i c f))(d:ku c a=O)(vy:VR W (aZ K.h) u y)(q:ai (K.aH l (.i c (aJ f a y)) K.t)):wpAny Md A (setAttr (.ref (W.ρ l)) (gv a) u) (uj F W K.h ai) br s:=by
 have k:=GH d;have o:=R.aC.aC.aC l _ hl
 have ow:∀b,Own K.h (l,b):=λb=>⟨o.1,nH hl,λg=>⟨c,f,hl⟩⟩;have ml:=ace (y:=y) (h:=Z4 w0.params (gv a)) (k:=.str (gv a) (s.toks+1)) (u:=u) (R.yT hl a) k.2.2.2.2.2.2.2 (R.idc hl)
 refine set_dict R.fr R.aC.aI R.aC.aF (R.yU hl) Y (bq k.2.2.2.2.1) k.2.2.2.2.2.1 (bq k.2.2.2.2.2.2.1) k.2.1 (acg (R.yT hl a)) Y (abe R.aC.aC.aI (R.KQ hl)) (ml.elim λL c=>aV c.2.2 (aV (abb c.1 λi m=>(c.2.1 i m).2) (by rw[fP];decide))) λh' F' N'=>?_
 refine(R.Rx (ow O) (λg=>⟨c,f,hl⟩) (λw=>w.elim λa w=>w.elim λb w=>yF (w.symm.trans hl) Y) (R.KQ hl) (λv w=>by cases w) F' N' λW' t ea keep m=>?_).elim λW' w=>⟨W',_,(),w.1,w.2,trivial,q⟩
 have e1:W'.ρ l=W.ρ l:=congrFun ea (l,Z);have e2:W'.δ l=W.δ l:=congrFun ea (l,O)
 refine⟨o.1,?_,_,putN (gv a) (R.yS hl) (R.KO hl),?_,ml,λi=>?_⟩
 .rw[e1,e2];exact keep _ o.2.1 λe=>b9 (aq JN (R.aC.aC.aK (l,Z) (l,O) (ow _) (ow _) e))
 .exact ak e2 m
 .by_cases e:i=a
  .subst e;rw[show aJ f i y i=M y from aw Y]
   exact⟨u,aca ..,vy.bU t⟩
  .rw[show aJ f a y i=f i from au e]
   exact acf t (acb (λw=>e (aa9 k.2.2.2.2.2.2.2 w).symm) ..) (R.yT hl i)
def vW{a:Nat}(hl:K.h l=M (.i c f))(d:ku c a=O)(q:ai (K.aH l (.i c (aJ f a y)) K.t)):D8 (.e l) a y ai K:=λF A n W s v u T vx vy=>ak vx.1 (SD T.aC hl d vy q)
end
inductive Fw where
 |n|b|c|r (v:V)
abbrev QF:=Fw->QA
def vX(W:Wd)(D:Loc->Prop)(f:ue)(g:Fw):Prop:=Fw.rec (motive:=λa=>Prop) (f=.next) (f=.brk) (f=.cont) (λx=>∃v,f=.ret v/\VR W D v x) g
def Sf(F:Fm):Prop:=(∀i j,dh F.b i=dh F.b j->dh F.b i≠dC->i=j)/\F.fo≠U
variable(hh:Sf F)
def Sf.aC:=hh.1
def Sf.aF:=hh.2
def WN(n:Nat)(a:Sx)(ai:QA)(K:AS):Prop:=∀F A W s x,St F A n W K s->Sf F->Ck a F.b (.s x)->wpAny Md A (exec x F.bV) (PG (λc c f(c:Unit)=>f=.next) F W K.h λc=>ai) br s
def WS(n:Nat)(a:Sx)(Q:QF)(K:AS):Prop:=∀F A W s x,St F A n W K s->Sf F->Ck a F.b (.s x)->wpAny Md A (exec x F.bV) (PG vX F W K.h Q) br s
def WB(n:Nat)(a:Sx)(Q:QF)(K:AS):Prop:=∀F A W s l,St F A n W K s->Sf F->Ck a F.b (.c l)->wpAny Md A (execs l F.bV) (PG vX F W K.h Q) br s
variable{Q:QF} {i:Sx}
section
variable{ai:QA} {o:Sx}
def lP{q q':ju}{env:kP}{R:ue->bL->Prop}(e:cJ.s q=.s q')(w:wpAny Md A (exec q' env) R br s):wpAny Md A (exec q env) R br s:=by cases e;exact w
def aM(q:Q .n K):WB n .n Q K:=λF A W s l T f c=>ak (abU c) (AP (T.pg (x:=Fw.n) Y q))
def hM(h:WN n a (λaT=>WB n r Q aT) K):WB n (.c a r) Q K:=λF A W s l T f c=>(Sl c).elim λx c=>c.elim λq c=>c.1▸ub
 (wm (h F A W s x T f c.2.1) λg bp p=>p.dc λbg aT b R e fl k=>ak (fl) (kS e (k F A bg bp q ⟨T.aF,R⟩ f c.2.2)))
def f6(h:WS n a (λg aT=>Fw.rec (motive:=λd=>Prop) (WB n r Q aT) (Q .b aT) (Q .c aT) (λv=>Q (.r v) aT) g) K):WB n (.c a r) Q K:=λF A W s l T f c=>(Sl c).elim λx c=>c.elim λq c=>c.1▸ub
 (wm (h F A W s x T f c.2.1) (λg bp p=>p.dc λbg aT w R e fl k=>by
  cases w with
  |n=>exact ak (fl) (kS e (k F A bg bp q ⟨T.aF,R⟩ f c.2.2))
  |b=>exact ak (fl) ⟨bg,aT,.b,R,e,Y,k⟩
  |c=>exact ak (fl) ⟨bg,aT,.c,R,e,Y,k⟩
  |r x=>exact cQ fl λv fl=>ak fl.1 ⟨bg,aT,.r x,R,e,⟨v,Y,fl.2⟩,k⟩))
def ach(q:Q .b K):WS n .D Q K:=λF A W s x T f c=>c.elim λp c=>lP c (wpAny_Break (T.pg (x:=Fw.b) Y q))
def aci(q:Q .c K):WS n .A Q K:=λF A W s x T f c=>c.elim λp c=>lP c (wpAny_Continue (T.pg (x:=Fw.c) Y q))
def SE(h:WE n e (λx aT=>Q (.r x) aT) K):WS n (.j e) Q K:=λF A W s x T f c=>c.elim λv c=>c.elim λp c=>lP c.1<|apg<|
 wm (h F A W s v T c.2) λv bp p=>p.dc λbg aT x R e vx q=>⟨bg,aT,.r x,R,e,⟨v,Y,vx⟩,q⟩
def acj(h:WE n e (λa aT=>ai aT) K):WN n (.e e) ai K:=λF A W s x T f c=>c.elim λv c=>c.elim λp c=>lP c.1<|aak
 (wm (h F A W s v T c.2.1) λv bp p=>p.dc λbg aT x R e vx q=>⟨bg,aT,(),R,e,Y,q⟩) (by show(F.b.kind==.module&&_)=Z;rw[T.aF.aF];rfl) (c.2.2 _ _ _)
def Hk:Cl F λW h(a:Unit)=>PG (λa a f(a:Unit)=>f=.next) F W h (λa=>ai) Qu:=λa a a a a a e p=>p.dy e
def Bv{kY:Wd}{h₀:Hp}{ab:hU Unit}(w:wpAny Md A ab (uj F kY h₀ ai) br s):wpAny Md A ab (λa=>PG (λa a f(a:Unit)=>f=.next) F kY h₀ (λa=>ai) Qu) br s:=wm w λa bp p=>p.dc λbg aT x R e a q=>⟨bg,aT,(),R,e,Y,q⟩
def Lb(h:WE n e (λy aT=>WE n o (λx cK=>D8 x c y ai cK) aT) K):WN n (.dG o c e) ai K:=λF A W s x T f c=>c.elim λz c=>c.elim λy c=>c.elim λq c=>c.elim λv c=>c.elim λp c=>lP c.1<|Zj
 (RY Hk T h c.2.2.2.1 c.2.2.1 λv u b6 dt cK x' y' lN vx vy k=>Bv (aj (xp c.2.1) (k F A n dt b6 u v lN vy vx))) (c.2.2.2.2.1 _ _ _ _ _)
def ack(h:WT n t (λc aT=>c=O/\ai aT) K):WN n (.F t) ai K:=λF A W s x T f c=>c.elim λt' c=>c.elim λm c=>c.elim λp c=>lP c.1<|wpAny_Assert_holds<|
 wm (h F A W s t' T c.2) λd bp p=>p.dc λbg aT d' R e v k=>⟨(v).trans k.1,⟨bg,aT,(),R,e,Y,k.2⟩⟩
def xK(h:WT n t (λc aT=>if c then WB n a Q aT else WB n b Q aT) K):WS n (.i t a b) Q K:=λF A W s x T f c=>c.elim λt' c=>c.elim λa' c=>c.elim λb' c=>c.elim λp c=>lP c.1<|wpAny_If<|
 wm (h F A W s t' T c.2.1) (λd bp p=>p.dc λbg aT d' R e v k=>by
  subst v;cases d
  .exact kS e (k F A bg bp b' ⟨T.aF,R⟩ f c.2.2.2)
  .exact kS e (k F A bg bp a' ⟨T.aF,R⟩ f c.2.2.1))
def uv(h:WE n e (λz aT=>WE n o (λx cK=>WE n i (λy gE=>SI x y z ai gE) cK) aT) K):WN n (.aaE o i e) ai K:=λF A W s x T f c=>c.elim λov c=>c.elim λiv c=>c.elim λq c=>c.elim λw c=>c.elim λp c=>lP c.1<|aoA
 (wm (h F A W s w T c.2.2.2.1) (λw bp p=>p.dc λbg aT z R e vz k=>wm (k F A bg bp ov ⟨T.aF,R⟩ c.2.1) (λu b6 p=>p.dc λdt cK x eN fc vx k=>
  wm (DV Hk ⟨T.aF,eN⟩ (k F A dt b6 iv ⟨T.aF,eN⟩ c.2.2.1) λy dW f7 gE y' acm t vy k=>Bv (k F A n f7 dW u y w acm (vx.bU t) vy ((vz.bU (fc.tu R.aC.aC R.nx)).bU t))) λa a h=>wm h λa a p=>p.dy (e.dy fc)))) (c.2.2.2.2.2 _ _ _ _ _)
def Fw.lp(I:QA)(Q:QF)(g:Fw)(K:AS):Prop:=Fw.rec (motive:=λa=>Prop) (I K) (Q .n K) (I K) (λv=>Q (.r v) K) g
def acn{kY:Wd}{h₀:Hp}{I:Nat->QA}{ah:ue->bL->Prop}(Bw:Ext F.cH kY h₀ W K.h)(hn:∀s m' W' bk,m'<m->aX F W' bk s->Ext F.cH kY h₀ W' bk.h->I m' bk->ah .next s/\ah .cont s)
 (hb:∀s,PG vX F kY h₀ Q .next s->ah .brk s)(hr:∀v s,PG vX F kY h₀ Q (.ret v) s->ah (.ret v) s):∀g s,PG vX F W K.h (Fw.lp (λK=>∃m',m'<m/\I m' K) Q) g s->ah g s:=λg s p=>
 p.dc λW' bk w r e fl k=>by
  cases w with
  |n=>exact ak (fl) (k.elim λm' k=>(hn s m' W' bk k.1 r (Bw.dy e) k.2).1)
  |c=>exact ak (fl) (k.elim λm' k=>(hn s m' W' bk k.1 r (Bw.dy e) k.2).2)
  |b=>exact ak (fl) (hb s ⟨W',bk,.n,r,Bw.dy e,Y,k⟩)
  |r x=>exact cQ fl λv fl=>ak fl.1 (hr v s ⟨W',bk,.r x,r,Bw.dy e,⟨v,Y,fl.2⟩,k⟩)
def Lc(I:Nat->QA){m₀:Nat}(i0:I m₀ K)(turn:∀m K,I m K->WT n t (λc K=>if c then WB n a (Fw.lp (λK=>∃m',m'<m/\I m' K) Q) K else WB n b Q K) K):WS n (.qL t a b) Q K:=λF A W s x T f c=>c.elim λt' c=>c.elim λa' c=>c.elim λb' c=>c.elim λp c=>lP c.1<|wpAny_While<|by
 refine codeAny_whileLoop (λm s'=>∃W' bk,aX F W' bk s'/\Ext F.cH W K.h W' bk.h/\I m bk) (λm s' hI=>?_) m₀ ⟨W,K,T.aC,Ext.jE,i0⟩;refine hI.elim λW' hI=>hI.elim λbk hI=>jC (turn m bk hI.2.2 F A W' s' t' ⟨T.aF,hI.1⟩ c.2.1) (λd b6 q=>q.dc λdt cK d' eN fc v k=>?_) λi i x=>x.elim;subst v;have E:=hI.2.1.dy fc
 cases d
 .exact jC (k F A dt b6 b' ⟨T.aF,eN⟩ f c.2.2.2) (λg dW p=>p.dy E) λi i x=>x.elim
 .exact jC (k F A dt b6 a' ⟨T.aF,eN⟩ f c.2.2.1) (acn E (λs m' W' bk lt r e k=>⟨⟨m',lt,W',bk,r,e,k⟩,⟨m',lt,W',bk,r,e,k⟩⟩) (λs p=>p) λv s p=>p) λi i x=>x.elim
end
def SF{o:bC}{l:List (aY×bC)}{p:aY×bC}(m:p∈l):∃o',(p.1,o')∈fk d o l:=by
 have h:p.1∈(fk d o l).map (·.1):=by rw[xu];exact gW m
 exact(bX.mp h).elim λq k=>⟨q.2,aj k.2 k.1⟩
variable{i:Nat} {nm:aP}
section
variable{ai:QA} {o:Sx}
def Ea{sc:fh}(h:qM sc i nm=O):dh sc i=nm/\nm≠dC/\(sc.names.lookup nm=M .local\/sc.names.lookup nm=M .cell):=
 have h:=dS.mp h;have k:=dS.mp h.2
 ⟨bq h.1,bne_iff_ne.mp k.2,(yn.mp k.1).imp bq bq⟩
def aX.setCell{c:aY}{ob jX:bC}{w:Option aS}(R:aX F W K s)(nd:∀j,dh F.b j=dh F.b i->j=i)(kd:F.bV.kindOf (dh F.b i)=M .cell)(own:F.cH c)(c1:F.l.lookup (dh F.b i)=M c)(c2:(c,ob)∈W.n)(c3:ob.data=.cell w)
 (g:h'.get? c=M jX)(d:jX.data=.cell (M v))(sb:qa c s.heap h')(vy:VR W (aZ K.h) v y):aX F ⟨W.bY,fk c jX W.n⟩ (K.dw i y) {s with heap:=h'}/\Ext F.cH W K.h ⟨W.bY,fk c jX W.n⟩ K.h:=by
 have z:=R.aC.aF _ c2;have H:=R.aC.aC
 have nf:=H.nN c2 λf=>f.2.1 _ c3;have ne:∀{p:aY×bC},p∈W.n->(∀v,p.2.data≠.cell v)->p.1≠c:=λ{p} m q e=>by cases p;subst e;exact q _ (ak (R.lM m c2) c3)
 have t:Tu W ⟨W.bY,fk c jX W.n⟩ (aZ K.h) (aZ K.h):=⟨λl q=>⟨q,Y⟩,λb ws m=>j7 (ne m λv e=>by cases e) m⟩
 have F':=R.fr.change sb z.2.1 z.2.2;refine⟨⟨⟨λp hp=>?_,⟨λl q e=>(H.aC l q e).bU t (λr=>Y) λb c' l0 i m=>j7 (λw=>nf ⟨(l,b),⟨l0,nH e,λw=>ak e (i w)⟩,w⟩) m,(show((fk c jX W.n).map (·.1)).Nodup by rw[xu];exact H.aI),H.aO,H.aF,H.aK⟩,R.aC.aK,R.aC.aI,R.aC.aI.keeps F'.keep,R.aC.cC,R.aC.bz,R.aC.bb⟩,⟨_,F',λj x e=>?_⟩,λy' hy=>?_,R.aK,λp hp=>?_⟩,
  ⟨λl q=>⟨q,id,λr=>Y⟩,λp m r nx=>j7 (λe=>nx (ak e own)) m,λp m=>SF m,λl n q=>ax q n,λr=>id⟩⟩
 .obtain⟨p',jb,rfl⟩:=bX.mp hp;by_cases e:p'.1=c
  .rw[aw e];exact⟨g,z.2⟩
  .rw[au e];exact⟨(sb.2 _ e).trans (R.aC.aF p' jb).1,(R.aC.aF p' jb).2⟩
 .by_cases ji:j=i
  .subst ji;exact⟨v,.inr ⟨.inl kd,c,jX,c1,.inl (vP c2),d⟩,aj (bF ((aw Y).symm.trans e)) (vy.bU t)⟩
  .exact(R.lo j x ((au ji).symm.trans e)).elim λu k=>⟨u,k.1.imp id λk=>⟨k.1,k.2.elim λa k=>k.elim λo k=>⟨a,o,k.1,k.2.1.imp (λm=>j7 (λ(e:a=c)=>ji (nd j (R.aK _ _ _ k.1 (ak e c1)))) m) id,k.2.2⟩⟩,k.2.bU t⟩
 .exact(R.aI y' hy).elim λa q=>q.elim λo q=>q.elim λv' q=>by
   by_cases e:a=c
   .subst e;exact⟨a,jX,M v,q.1,vP c2,d⟩
   .exact⟨a,o,v',q.1,j7 e q.2.1,q.2.2⟩
 .have k:=R.aF p hp;exact⟨k.1,k.2.1.elim λo q=>⟨o,j7 (ne q.1 λv w=>k.1.elim λes k=>k.elim λep k=>j5 ((w.symm.trans q.2).trans k) Y) q.1,q.2⟩,k.2.2⟩
def aco(T:St F A n W K s)(nd:∀i j,dh F.b i=dh F.b j->dh F.b i≠dC->i=j)(it:qM F.b i nm=O)(kd:F.b.names.lookup nm=M .local)(vy:VR W (aZ K.h) v y){P:Unit->bL->Prop}(q:∀h' tk,qa F.L s.heap h'->aX F W (K.dw i y) {s with heap:=h',toks:=tk}->P () {s with heap:=h',toks:=tk}):wpAny Md A (storeName F.bV nm v) P br s:=by
 obtain⟨rfl,ne,_⟩:=Ea it;have R:=T.aC
 refine wpAny_storeName_local kd R.fr.ns (λh' hn hs=>q h' _ hs ?_) (by show(F.b.kind==.class||(F.b.kind==.module&&F.L !=lJ))=Z;rw[T.aF.aF];rfl)
 have F':=R.fr.set hn hs;refine⟨⟨R.aC.aF.set hs,R.aC.aC,R.aC.aK,R.aC.aI,R.aC.aI.keeps F'.keep,R.aC.cC,R.aC.bz,R.aC.bb⟩,⟨_,F',λj x e=>?_⟩,R.aI,R.aK,R.aF⟩;by_cases ji:j=i
 .subst ji;exact⟨v,.inl ⟨kd,aw Y⟩,aj (bF ((aw Y).symm.trans e)) vy⟩
 .exact(R.lo j x ((au ji).symm.trans e)).elim λu k=>⟨u,k.1.imp (λk=>⟨k.1,(au λw=>ji (nd j i w (ak w ne))).trans k.2⟩) id,k.2⟩
def Eb(T:St F A n W K s)(nd:∀i j,dh F.b i=dh F.b j->dh F.b i≠dC->i=j)(it:qM F.b i nm=O)(hf:F.fo≠U\/F.b.names.lookup nm=M .local)(vy:VR W (aZ K.h) v y)(q:ai (K.dw i y)):wpAny Md A (storeName F.bV nm v) (uj F W K.h ai) br s:=by
 rcases(Ea it).2.2 with kd|kd
 .exact aco T nd it kd vy λh' a a R'=>⟨W,K.dw i y,(),R',Ext.jE,trivial,q⟩
 obtain⟨rfl,ne,_⟩:=Ea it;have uq:=λj e=>nd j i e (ak e ne)
 have R:=T.aC
 .exact(R.aI _ kd).elim λc k=>k.elim λob k=>k.elim λw k=>wpAny_storeName_cell T.aF.aF kd k.1 ⟨ob,(R.aC.aF _ k.2.1).1,k.2.2⟩ λh' hv hs=>cQ hv λjX d=>
   have m:=R.setCell uq kd (.inl ⟨_,kd,k.1,hf.resolve_right λe=>A2 (kd.symm.trans e) Y⟩) k.1 k.2.1 k.2.2 d.1 d.2 hs vy
   ⟨_,K.dw i y,(),m.1,m.2,trivial,q⟩
end
variable{w:AY}
section
variable{ai:QA} {o:Sx}
def SG(h:WE n e (λx aT=>ai (aT.dw i x)) K):WN n (.g (.v i) e) ai K:=λF A W s x T f c=>c.elim λtg c=>c.elim λv c=>c.elim λp c=>c.2.1.elim λy q=>q.elim λq k=>lP c.1<|k.1▸aph
 (DV Hk T (h F A W s v T c.2.2.1) λu bp bg aT x gD a vx k'=>Bv (Eb gD f.aC k.2 (.inl f.aF) vx k')) (c.2.2.2 _ _ _)
def IO(w:AY)(x y z:V):Prop:=∀A W D s v u,VR W D v x->VR W D u y->∀R:QE,(∀r tk,VR W D r z->R r {s with toks:=tk})->wpAny Md A (inplaceOp w v u) R br s
def Bx{i j:Int}:IO .Add (.i i) (.i j) (.i (i+j)):=λA W D s v u vx vy R h=>cQ vx λt e=>cQ vy λt' e'=>ak e (ak e' (aqR (h _ _ ⟨_,Y⟩)))
def SH{i j:Int}:IO .Sub (.i i) (.i j) (.i (i-j)):=λA W D s v u vx vy R h=>cQ vx λt e=>cQ vy λt' e'=>ak e (ak e' (aqP (h _ _ ⟨_,Y⟩)))
def Ec(hm:K.m i=M x)(h:WE n e (λy aT=>∃z,IO w x y z/\ai (aT.dw i z)) K):WN n (.yQ i w e) ai K:=λF A W s q T f c=>c.elim λy c=>c.elim λq c=>c.elim λv c=>c.elim λp c=>lP c.1<|wpAny_AugAssign_Name<|
 KL T c.2.1 hm λu vu=>wm (h F A W s v T c.2.2.2) (λv bp p=>p.dc λbg aT y R e vy k=>k.elim λz k=>k.1 A bg _ bp u v (vu.bU (e.tu T.aC.aC.aC T.aC.nx)) vy _ λr tk vz=>
  Bv (kS e (Eb ⟨T.aF,R.qJ tk⟩ f.aC c.2.2.1 (.inl f.aF) vz k.2)))
def SJ(h:WE n o (λx aT=>∃v,R1 aT (λo=>Gy o (gv c) O) x v/\WE n e (λy cK=>∃z,IO w v y z/\D8 x c z ai cK) aT) K):WN n (.Bf o c w e) ai K:=λF A W s q T f c=>c.elim λov c=>c.elim λy c=>c.elim λq c=>c.elim λv c=>c.elim λp c=>lP c.1<|wpAny_AugAssign_AttributeAny<|
 wm (h F A W s ov T c.2.2.1) (λu bp p=>p.dc λbg aT x R e vx k=>k.elim λw k=>wm (aj (xp c.2.1) (k.1 F A n bg bp u ⟨T.aF,R⟩ vx)) (λold b6 g=>g.1.elim λtk fc=>fc▸wm (k.2 F A bg _ v ⟨T.aF,R.qJ tk⟩ c.2.2.2) (λv dW p=>p.dc λf7 gE y nS uw vy q=>q.elim λz q=>
  have t:=uw.tu R.aC.aC R.nx
  q.1 A f7 _ dW old v (g.2.bU t) vy _ λr tk vz=>Bv (kS (e.dy uw) (aj (xp c.2.1) (q.2 F A n f7 _ u r ⟨T.aF,nS.qJ tk⟩ (vx.bU t) vz))))))
end
def AS.Ld(is:Nl):Vs->AS->AS:=rv (motive:=λa=>Vs->AS->AS) (λa K=>K) (λi a ih xs K=>rv (motive:=λa=>AS) K (λx r a=>ih r (K.dw i x)) xs) is
def Tg.is(t:Tg):Nl:=Tg.rec (motive:=λa=>Nl) (λi=>[i]) (λis=>is) t
def xM(t:Tg)(y:V)(ai:QA)(K:AS):Prop:=Tg.rec (motive:=λa=>Prop) (λi=>ai (K.dw i y)) (λis=>∃xs,y=V.cq xs/\xs.length=is.length/\ai (AS.Ld is xs K)) t
def Nd(F:Fm):Prop:=∀i j,dh F.b i=dh F.b j->dh F.b i≠dC->i=j
def SM(F:Fm)(is:Nl):Prop:=F.fo≠U\/∀i∈is,∀x,qM F.b i x=O->F.b.names.lookup x=M .local
section
variable{ai:QA} {tk:Nat}
def aX.qo(R:aX F W K s)(hk:∀b o,s.heap.get? b=M o->H'.get? b=M o):aX F W K {s with heap:=H',toks:=tk}:=
 R.xA (R.fr.keeps hk) (λp hp=>⟨hk _ _ (R.aC.aF p hp).1,(R.aC.aF p hp).2⟩) ⟨R.aC.aC,Ext.jE⟩ (λa a m a=>m) R.aC.aK Y Y
def acp{sc:fh}{env:kP}(is:Nl):∀{l:List cj},DM sc is l->(JL l env).length=is.length/\(JL l env).findIdx? (·.1)=U:=by
 induction is with
 |nil=>exactλ{l} h=>ak (h:l=[]) ⟨Y,Y⟩
 |cons i is ih=>
  exactλ{l} h=>cQ h λx h=>h.elim λp h=>h.elim λr h=>by have k:=ih h.2.2;rw[h.1];show(((Z,JZ (.Name x p) env)::JL r env).length=_)/\List.findIdx? _ ((Z,JZ (.Name x p) env)::JL r env)=U;rw[Jq,k.2];exact⟨aq Gv k.1,Y⟩
def acq(nd:Nd F)(is:Nl):∀{l:List cj}{vs:List aS}{xs:Vs}{K:AS}{W:Wd}{s:bL},St F A n W K s->DM F.b is l->SM F is->bP (VR W (aZ K.h)) vs xs->xs.length=is.length->ai (AS.Ld is xs K)->wpAny Md A (assignInOrder ((JL l F.bV).map (·.2)) vs) (uj F W K.h ai) br s:=by
 induction is with
 |nil=>
  intro l vs xs K W s T h hf al z q;rw[show l=[] from h]
  exact bw (T.pg (x:=()) trivial q)
 |cons i is ih=>
  intro l vs xs K W s T h hf al z q;obtain⟨x,p,r,rfl,h1,h2⟩:=h;cases xs with
  |nil=>exact pA z rfl
  |cons y ys=>
   obtain⟨v,us,rfl,vy,al⟩:=al.kC;exact aN (jU (apf (wm (Eb T nd h1 (hf.imp id λk=>k i (.head _) x h1) vy Y) (λa bp p=>p.dc λbg aT a R e a k=>by subst k;exact kS e (ih ⟨T.aF,R⟩ h2 (hf.imp id λk j hj=>k j (.tail _ hj)) (al.bU λa a=>VR.bU (e.tu T.aC.aC.aC T.aC.nx)) (pb z) q)))))
def Lf{t:Tg}{tg:cj}(T:St F A n W K s)(nd:Nd F)(c:um F.b t tg)(hf:SM F t.is)(vy:VR W (aZ K.h) v y)(q:xM t y ai K):wpAny Md A (JZ tg F.bV v) (uj F W K.h ai) br s:=by
 cases t with
 |v i=>obtain⟨x,p,rfl,it⟩:=c;exact apf (Eb T nd it (hf.imp id λk=>k i (.head _) x it) vy q)
 |a is=>
  obtain⟨l,k,p,rfl,c⟩:=c;obtain⟨xs,rfl,z,q⟩:=q;obtain⟨a,vs,rfl,ht,al⟩:=VR.lK.mp vy;have l2:=acp (env:=F.bV) is c
  exact wpAny_assign_Tuple T.aF.aC ⟨_,T.aC.th a vs ht,Y,0,Y⟩ (by rw[l2.1,<-z,<-al.iI,q8]) l2.2 λh' he=>acq nd is ⟨T.aF,T.aC.qo λb o g=>he b o (gZ (eJ g)) g⟩ c hf al z q
def xN{is:Nl}(h:WE n e (λy aT=>∃xs,y=V.cq xs/\xs.length=is.length/\ai (AS.Ld is xs aT)) K):WN n (.g (.a is) e) ai K:=λF A W s x T f c=>c.elim λtg c=>c.elim λv c=>c.elim λp c=>cQ c.2.1 λl q=>q.elim λkk q=>q.elim λtp k=>lP c.1<|k.1▸wpAny_Assign_stores
 (DV Hk T (h F A W s v T c.2.2.1) λu bp bg aT x gD b vx k'=>Bv (Lf (t:=.a is) gD f.aC ⟨l,kk,tp,Y,k.2⟩ (.inl f.aF) vx k')) (c.2.2.2.1 l kk tp p.line F.bV) (c.2.2.2.2 l kk tp F.bV)
end
variable{Q:QV} {de:List eQ} {a:aY}
section
variable{ai:QA} {tk:Nat} {ds:Es} {bu:Array aS}
def Ed(h:m<=33554432):(m:Int)<2^63:=AM (qb.mpr h) (ao Y)
theorem SN(hd:(d==xh)=Z)(ho:s.heap.get? d=M (iZ de k))(z:de.length<=33554432)(h:R (.int de.length (s.toks+1)) {s with toks:=s.toks+1+1}):wpAny Md A (Builtin.«len» ⟨[.ref d],[]⟩) (λfin s'=>∃r,fin=.done (.ret r)/\R r s') br s:=by
 have hT:s.TypeIs (.ref d) "dict":=⟨_,ho,Y⟩;unfold Builtin.«len»;refine aN (bw ?_);refine aN (yl hT F.slot_dict_len (oo F.slot_dict_len hT F.entry_dict_len ?_ (F.args_dict_len_1 _)));refine aN (m:=dictSize d) ?_;unfold dictSize;refine aN (yq ho Y (bw (aN (wpAny_pendingCount_other hd (aN (wpAny_mkInt (bw ⟨_,Y,?_⟩)))))));have e:((de.toArray.size))+((0:Nat))=(de.length:Int):=apz _
 rw[e];refine aN (jU (bw (aN (Qs ?_))));rw[au (vG.mpr (jR _))];rw[au (Gr.mpr (Ed z))];exact aN (wpAny_mkInt (bw ⟨_,Y,h⟩))
def Ee(hl:K.h l=M (.d ds))(q:Q (.i ds.length) K):OL n (.builtin "len") [.e l] Q K:=rE (lO _) λF A W s v T vx=>vx.1▸
 have ln:=(T.aC.md hl).iI
 anO kind_len plain_len entry_len (args_len1 _) (SN (T.aC.qj T.aF (T.aC.dm hl)) (T.aC.dg hl) (ak ln (T.aC.dz hl)) (T.mf (x:=.i ds.length) _ ⟨s.toks+1,by rw[ln]⟩ q))
def acr(q:Q (.i vs.length) K):OL n (.builtin "len") [V.cq vs] Q K:=rE (lO _) λF A W s v T vx=>cQ (VR.lK.mp vx) λa p=>p.elim λws p=>p.1▸
 aqN ⟨_,T.aC.th a ws p.2.1,Y,0,Y⟩ (Ed (p.2.1.2)) (T.mf (x:=.i vs.length) _ ⟨_,by rw[<-p.2.2.iI];rfl⟩ q)
def acs{j:Int}{t:pv}(f1:¬(!anB j)=O)(f2:(if j<0 then(j+((bu.size:Nat):Int)).toNat else min j.toNat bu.size)=i)(f3:bu.size<=yx)(g:s.heap.get? a=M (listOf bu k))
 (h:∀h' k',qa a s.heap h'->h'.get? a=M (listOf ((bu.extract 0 i).push u++bu.extract i) k')->R .none {s with heap:=h'}):wpAny Md A (call (.builtin "list.insert") [.ref a,.int j t,u]) R br s:=by
 subst f2;exact call_meets anK ⟨_,g,Y⟩ PySem.F.entry_list_insert (PySem.F.args_list_insert_3 _ _ _) (aql a bu k j t u f1 f3) ⟨g,h _ _ (tY ..) (tX (f:=qc λxs=>have k:=if j<0 then(j+((xs.size))).toNat else min j.toNat xs.size;(xs.extract 0 k).push u++xs.extract k) g Y)⟩
def acu(l0:l.1≠0)(hl:K.h l=M (.l vs))(hj:j<=vs.length)(z:vs.length<16777216)(q:Q .n (K.aH l (.l (vs.take j++y::vs.drop j)) K.t)):OL n (.builtin "list.insert") [.e l,.i j,y] Q K:=Sp (lO _) λF A W s v w u T vx vj vy=>vx.1▸cQ vj λt e=>e▸
 have ln:=T.aC.pE hl;have al:=T.aC.jF hl
 acs (i:=j) (by rw[fits63 (pX hj) (aV z (ao Y))];exact dZ) ((au (vG.mpr (jR j))).trans (xc (ak ln hj))) (by rw[ln,kq];exact dK z) (T.aC.iS hl) λh' k' sb g=>
  T.aC.K8 (x:=.n) l0 hl sb g (by
   have e:(((T.aC.bu hl).extract 0 j).push u++(T.aC.bu hl).extract j).toList=(T.aC.bu hl).toList.take j++u::(T.aC.bu hl).toList.drop j:=by rw[aon,aox,aof,aof,q9];generalize T.aC.bu hl=ws;simp[AJ]
   rw[e];exact(al.GK j).xq (.hY vy (al.yJ j))) (by rw[dY,vD,Nat.add_succ,<-dY,PN];exact aV z (ao Y)) Y q
def SO:Tr K (V.cq vs) (!vs.isEmpty):=λF A n W s v T vx=>cQ (VR.lK.mp vx) λa p=>p.elim λws p=>p.1▸
 truthy_tuple ⟨_,T.aC.th a ws p.2.1,Y,0,Y⟩ (Ed (p.2.1.2)) ⟨⟨_,Y⟩,bP.Si p.2.2⟩
def Lg{w:aP}(h:w.length<=16777216):Tr K (.s w) (w.length !=0):=λF A n W s v T vx=>cQ vx λt e=>e.1▸
 PySem.P.truthy_str (Gr.mpr (Ed (aV h (ao Y)))) ⟨⟨_,Y⟩,by cases w.length<;>rfl⟩
end
variable{o':bC} {vs:Array aS}
section
variable{tk:Nat} {o:bC}
def aX.SP(R:aX F W K s)(m:(a,o)∈W.n)(d:kD o vs):¬j6 W K.h a:=R.aC.aC.nN m λf=>f.2.2 _ d
def aX.acv(R:aX F W K s)(m:(a,o)∈W.n)(d:kD o vs):¬F.cH a:=λq=>(R.Ro m q).elim (λk=>k.elim λv k=>j5 (d.1.symm.trans k) Y) λk=>k.elim λes k=>k.elim λep k=>j5 (d.1.symm.trans k) Y
def aX.Lh(R:aX F W K s)(hf:o.isFreed=Z):aX F ⟨W.bY,(s.heap.objs.size,o)::W.n⟩ K {s with heap:=s.heap.push o,toks:=tk}/\Ext F.cH W K.h ⟨W.bY,(s.heap.objs.size,o)::W.n⟩ K.h:=
 have ae:=HR.A5 R.aC.aC λp hp=>eJ (R.aC.aF p hp).1
 ⟨R.xA (R.fr.push _) (DG R.fr R.aC.aF (λb o e=>eG _ e) (jY _ hf) λb o e=>eJ e) ae (λa o m c=>.tail _ m) R.aC.aK Y Y,ae.2⟩
def aX.Li{oJ:List (aY×bC)}(R:aX F W K s)(k:∀p∈W.n,(∀vs,¬kD p.2 vs)->p∈oJ)(F':Fr F.h₀ F.L H' R.mm)(N':vJ F.h₀ F.L H' oJ)(nd:(oJ.map (·.1)).Nodup):aX F ⟨W.bY,oJ⟩ K {s with heap:=H',toks:=tk}:=by
 have H:=R.aC.aC;have t:Tu W ⟨W.bY,oJ⟩ (aZ K.h) (aZ K.h):=⟨λl q=>⟨q,Y⟩,λb ws mb=>k _ mb λv f=>by cases f.1⟩
 refine⟨⟨N',⟨λl q e=>(H.aC l q e).bU t (λc=>Y) λb c' l0 i m=>k _ m λvs f=>R.SP m f ⟨(l,b),⟨l0,nH e,λw=>ak e (i w)⟩,Y⟩,nd,H.aO,H.aF,H.aK⟩,R.aC.aK,R.aC.aI,R.aC.aI.keeps F'.keep,R.aC.cC,R.aC.bz,R.aC.bb⟩,⟨_,F',λj x e=>?_⟩,λy' hy=>?_,R.aK,λp hp=>?_⟩
 .exact(R.lo j x e).elim λu q=>⟨u,q.1.imp id λq=>⟨q.1,q.2.elim λa q=>q.elim λo q=>⟨a,o,q.1,q.2.1.imp (λm=>k _ m λvs f=>j5 (f.1.symm.trans q.2.2) Y) id,q.2.2⟩⟩,q.2.bU t⟩
 .exact(R.aI y' hy).elim λa q=>q.elim λo q=>q.elim λv' q=>⟨a,o,v',q.1,k _ q.2.1 (λvs f=>j5 (f.1.symm.trans q.2.2) Y),q.2.2⟩
 .have z:=R.aF p hp;exact⟨z.1,z.2.1.elim λo q=>⟨o,k _ q.1 (λvs f=>z.1.elim λes k=>k.elim λep k=>j5 ((f.1.symm.trans q.2).trans k) Y),q.2⟩,z.2.2⟩
def aX.acw(R:aX F W K s)(m:(a,o)∈W.n)(d:kD o vs)(sb:qa a s.heap H')(g:H'.get? a=M o'):aX F ⟨W.bY,fk a o' W.n⟩ K {s with heap:=H',toks:=tk}/\Ext (λb=>F.cH b\/b=a) W K.h ⟨W.bY,fk a o' W.n⟩ K.h:=by
 have z:=R.aC.aF _ m;refine⟨R.Li (λp mp q=>j7 (λe=>?_) mp) (R.fr.change sb z.2.1 z.2.2) (λp hp=>?_) (by rw[xu];exact R.aC.aC.aI),λl q=>⟨q,id,λc=>Y⟩,λp m c nx=>j7 (λe=>nx (.inr e)) m,λp m=>SF m,λl n q=>ax q n,λc=>id⟩
 .cases p;subst e;exact q _ (aj (R.lM m mp) d)
 .obtain⟨p',jb,rfl⟩:=bX.mp hp;by_cases e:p'.1=a
  .rw[aw e];exact⟨g,z.2⟩
  .rw[au e];exact⟨(sb.2 _ e).trans (R.aC.aF p' jb).1,(R.aC.aF p' jb).2⟩
def aX.SQ{J:List aY}(R:aX F W K s)(hJ:∀a∈J,∃o vs,(a,o)∈W.n/\kD o vs)(hk:∀b o,b∉J->s.heap.get? b=M o->H'.get? b=M o):aX F ⟨W.bY,W.n.filter λp=>decide (p.1∉J)⟩ K {s with heap:=H',toks:=tk}:=by
 have nJ:∀a∈J,a≠F.L/\F.h₀.get? a=U:=λa h=>(hJ a h).elim λo q=>q.elim λvs q=>(R.aC.aF _ q.1).2;refine R.Li (λp mp q=>lZ.mpr ⟨mp,az λh=>(hJ _ h).elim λo w=>w.elim λvs w=>q vs (aj (R.lM w.1 mp) w.2)⟩) ⟨R.fr.ns.at λo e=>hk _ _ (λq=>(nJ _ q).1 Y) e,λb o e=>hk _ _ (λq=>cW ((nJ _ q).2.symm.trans e)) (R.fr.keep b o e),R.fr.above⟩ (λp m=>?_) (R.aC.aC.aI.sublist (Jn.map _));have m:=lZ.mp m
 have z:=R.aC.aF p m.1;exact⟨hk _ _ (aB m.2) z.1,z.2⟩
def Ext.Lj{kY:Wd}{h₀:Hp}{oJ:List (aY×bC)}{J:aY->Prop}(e:Ext X kY h₀ W h₁)(n:∀p∈kY.n,¬J p.1)(k:∀p∈W.n,¬J p.1->p∈oJ):Ext X kY h₀ ⟨W.bY,oJ⟩ h₁:=
 ⟨e.aC,λp m f x=>k p (e.aF p m f x) (n p m),λp m=>(e.aI p m).elim λo q=>⟨o,k _ q (n p m)⟩,e.aK,e.aO⟩
end
open AutoSeq1 (wpAny_loadPart')
def acx{it:aY}{o:bC}{nm:String}{tg:cj}{Q:Unit->bL->Prop}(g:s.heap.get? it=M o)(hc:o.cls=.type nm)
 (hn:["enumerate","zip","dict_itemiterator","dict_reverseitemiterator","odict_iterator","itertools.zip_longest","itertools.pairwise"].contains nm=Z)(q:Q () s):
 wpAny Md A (JB tg (.ref it) v) Q E s:=by
 have go:∀p,wpAny Md A (JB (.List [] p) (.ref it) v) Q E s:=λp=>by unfold JB;cases v<;>first|exact bw q|skip;refine aN (wpAny_load g ?_);rw[hc];cases o.data<;>first|exact bw q|skip;simp only[hn,Bool.false_and,CX,if_false];exact bw q
 cases tg<;>first|exact bw q|exact go pos
theorem acy{ds:List eQ}{ep:Nat}{Q:QE}(hd:(d==xh)=Z)(ho:s.heap.get? d=M (iZ ds ep))
 (hQ:Q (.ref s.heap.objs.size) {s with heap:=s.heap.push {cls:=.type "dict_keyiterator",data:=.fields #[.ref d,.int 0 0,.int ds.length 0,.int ep 0]}}):
 wpAny Md A (vH (.ref d)) Q E s:=by
 have hT:s.TypeIs (.ref d) "dict":=⟨_,ho,Y⟩;refine ape hT F.slot_dict_iter (oo F.slot_dict_iter hT F.entry_dict_iter ?_ (F.args_dict_iter_1 _));unfold Builtin.«dict.__iter__»;refine aN ?_;unfold aqE;refine aN (PQ hT ?_);refine bw ?_;show wpAny _ _ (PJ d>>=_) _ _ s;unfold PJ;rw[au (hd▸dZ)];refine aN (bw ?_);refine aN (yq ho Y ?_);refine aN (vF ho Y ?_);refine aN (vC (bw ⟨_,Y,"dict_keyiterator",_,⟨_,jY _ Y,Y⟩,F.slot_dict_keyiterator_next.lookup,?_⟩))
 simpa [iw]using hQ
def Ll{Q:α->bL->Prop}(hh:A.handled=U)(h:∀h' e,(∀b o,s.heap.get? b=M o->h'.get? b=M o)->(∃o,h'.get? e=M o/\o.cls=.type "StopIteration")->E (.ref e) {s with heap:=h'}):
 wpAny Md A (newExc (.type "StopIteration") []>>=λe=>raiseNew e) Q E s:=by
 refine aN ?_;unfold newExc aaA;refine aN (vC ?_ (by size_fits))
 refine aN (aat (by rfl) ?_)
 refine vC ?_ (by size_fits)
 unfold raiseNew;refine aN (wpAny_handled ?_);exact ak hh (aN (bw (wpAny_throw (h _ _ (λb o e=>eG _ (eG _ e)) ⟨_,jY _ Y,Y⟩))))
def Hl{a b:Int}(h:a=b):¬(a !=b)=O:=by rw[h,bne_self_eq_false];exact dZ
def SR{it:aY}{T id:String}{f:Builtin}{Q:Option aS->bL->Prop}(hT:s.TypeIs (.ref it) T)(sl:PySem.Slot T "__next__" id)(en:entryFor table id=M f)(ar:argsOk id ⟨[.ref it],[]⟩)
 (h:∀{Q₁:QE}{Hm:QE},(∀v s',Q (M v) s'->Q₁ v s')->(∀h' e,(∃o,h'.get? e=M o/\o.cls=.type "StopIteration")->Q U {s with heap:=h'}->Hm (.ref e) {s with heap:=h'})->wpAny Md A.in1 (f ⟨[.ref it],[]⟩) (λfin s'=>∃v,fin=.done (.ret v)/\Q₁ v s') Hm s):
 wpAny Md A (AZ (.ref it)) Q E s:=by
 unfold AZ;exact aN (wpAny_attempt (yl hT sl (oo sl hT en (h (λv s' q=>bw q) λh' e x q=>x.elim λo x=>aN (Qf ⟨o,x⟩ isSubtype_stop (bw q))) ar)))
def acz{it:aY}{ep:Nat}{ds:List eQ}{Q:QE}(hh:A.handled=U)(fD:s.heap.IsKeyIter it d i ds.length ep)(Ef:s.heap.get? d=M (iZ ds ep))
 (h1:∀e,ds[i]?=M e->∀h',h'.IsKeyIter it d (i+1) ds.length ep->qa it s.heap h'->Q e.key {s with heap:=h'})(h2:ds[i]?=U->∀h' e,(∃o,h'.get? e=M o/\o.cls=.type "StopIteration")->Gn it s.heap h'->E (.ref e) {s with heap:=h'}):
 wpAny Md A (Builtin.«dict_keyiterator.__next__» ⟨[.ref it],[]⟩) (λfin s'=>∃v,fin=.done (.ret v)/\Q v s') E s:=by
 refine fH (id fD) λo ho hc hd=>?_;refine aN (bw (aN (aN (aN (Zm fD.typeIs (bw (aN (apM ho hd ?_))))))));rw[show(CL "dict_keyiterator")=Z by decide]
 rw[au (dZ)];refine aN (bw (aN (yq Ef Y ?_)));rw[au (Hl (show(ds.toArray.size)=(ds.length:Int) from Y))]
 refine aN (bw (aN (vF Ef Y ?_)));rw[au (Hl (Y))];refine bw ?_;have ei:(if(i:Int)<0 then U else ds.toArray[(i:Int).toNat]?)=ds[i]?:=(au (vG.mpr (jR i))).trans (AK ..)
 dsimp only;rw[ei];cases hx:ds[i]? with
 |some e=>
  refine aN (aN (Zm fD.typeIs (bw (aN (aoK fD.typeIs ?_)))));rw[show(CL "dict_keyiterator")=Z by decide]
  refine aN (Gk ho hd (by exact Nat.one_lt_succ_succ _) ?_)
  have xw:(s.heap.update it (JE (·.setIfInBounds 1 (iw ((i)+1))))).IsKeyIter it d (i+1) ds.length ep:=
   ⟨_,tX _ ho (Ji (CY hd _)),(ZO ..).trans hc,CY hd _⟩
  refine aN (jU (aN (aoK xw.typeIs ?_)));exact bw (bw ⟨_,Y,h1 e hx _ xw (tY ..)⟩)
 |none=>
  refine aN (aN (Zm fD.typeIs (bw ?_)));rw[show(CL "dict_keyiterator")=Z by decide]
  refine aN (Gk ho hd (by exact aoS _) (Ll hh λh' e k q=>h2 hx _ _ q λb o n g=>k b o ((tY ..).extBut b o n g)))
theorem acA{it l:aY} {items}{x:aS}{Q:QE}(fD:s.heap.IsTupleIter it l i)
 (hl:s.heap.IsTuple l items)(hx:items[i]?=M x)
 (hQ:∀h',h'.IsTupleIter it l (i+1)->qa it s.heap h'->Q x {s with heap:=h'}):
 wpAny Md A (PH (.ref it)) Q E s:=by
 refine fH (id fD) λo ho hc hd=>?_;refine fH (id hl) λol Lm a hW=>oE hW λnl Ln=>?_;unfold PH;refine aN (yl fD.typeIs F.slot_tuple_iterator_next
  (oo F.slot_tuple_iterator_next fD.typeIs F.entry_tuple_iterator_next ?_ (F.args_tuple_iterator_next_1 _)))
 show wpAny _ _ (field (.ref it) 0>>=_) _ _ s;refine aN (uc ho hd Y ?_);show wpAny _ _ (if(mJ l==pe)=O then _ else _) _ _ s;rw[au (show¬((mJ l==pe)=O) from dZ)]
 refine aN (uc ho hd Y ?_);refine aN (Qk Lm Ln ?_);simp only[PY,hx];refine aN (Gk ho hd (by simp) (bw ⟨x,Y,bw (hQ _ ?_ (tY ..))⟩))
 exact⟨_,tX _ ho (Ji (CY hd _)),(ZO ..).trans hc,by rw[CY hd];simp[iw]⟩
theorem SS{it l:aY} {items}{Q:QE}(hh:A.handled=U)
 (fD:s.heap.IsTupleIter it l i)(hl:s.heap.IsTuple l items)(hx:items[i]?=U)
 (hE:∀h' e,Gn it s.heap h'->(∃o,h'.get? e=M o/\o.cls=.type "StopIteration")->E (.ref e) {s with heap:=h'}):
 wpAny Md A (PH (.ref it)) Q E s:=by
 refine fH (id fD) λo ho hc hd=>?_;refine fH (id hl) λol Lm a hW=>oE hW λnl Ln=>?_;unfold PH;refine aN (yl fD.typeIs F.slot_tuple_iterator_next
  (oo F.slot_tuple_iterator_next fD.typeIs F.entry_tuple_iterator_next ?_ (F.args_tuple_iterator_next_1 _)))
 show wpAny _ _ (field (.ref it) 0>>=_) _ _ s;refine aN (uc ho hd Y ?_);show wpAny _ _ (if(mJ l==pe)=O then _ else _) _ _ s;rw[au (show¬((mJ l==pe)=O) from dZ)]
 refine aN (uc ho hd Y ?_);refine aN (Qk Lm Ln ?_);dsimp only;rw[PY,hx];exact aN (qe (aN (Gk ho hd (by exact aoS _) (Ll hh λh' e k q=>hE _ _ (λb o n g=>k b o ((tY ..).extBut b o n g)) q))))
def Draws.tuple(hh:A.handled=U)(it l:aY)(Lo:l≠it)(items:Array aS):
 Draws pr w0 A it [it,l] items.size (λi v=>items[i]?=M v) (λi h=>h.IsTupleIter it l i/\h.IsTuple l items)where
 live:=λa a st=>aaW (λo h=>h.1) st.1
 frame:=λa a a st hk=>⟨aaW (λo h=>⟨hk it (.head _) o h.1,h.2⟩) st.1,aaW (λo h=>⟨hk l (.tail _ (.head _)) o h.1,h.2⟩) st.2⟩
 item:=λi s Q E hi st hQ=>by refine acA st.1 st.2 (x:=items[i]) (Zn hi) λh' xw By=>?_;exact hQ _ h' s.toks (Zn hi) ⟨xw,st.2.extBut By.extBut Lo⟩ By
 done:=λs Q E st hE=>SS hh st.1 st.2 (aaZ (b8 _)) hE
def Draws.acB(hh:A.handled=U)(it l:aY)(n:Nat)(items:Array aS)(hn:items.size<=n):
 Draws pr w0 A it [it,l] n (λa a=>False) (λi h=>i=n/\h.IsListIter it l n/\h.IsList l items)where
 live:=λa a st=>aaW (λo h=>h.1) st.2.1
 frame:=λa a a st hk=>⟨st.1,aaW (λo h=>⟨hk it (.head _) o h.1,h.2⟩) st.2.1,aaW (λo h=>⟨hk l (.tail _ (.head _)) o h.1,h.2⟩) st.2.2⟩
 item:=λi s Q E hi st hQ=>ax st.1 (gZ hi)
 done:=λs Q E st hE=>wpAny_nextOf_list_end hh st.2.1 st.2.2 (aaZ hn) hE
def Draws.acC(hh:A.handled=U)(it l:aY)(n:Nat)(items:Array aS)(hn:items.size<=n):
 Draws pr w0 A it [it,l] n (λa a=>False) (λi h=>i=n/\h.IsTupleIter it l n/\h.IsTuple l items)where
 live:=λa a st=>aaW (λo h=>h.1) st.2.1
 frame:=λa a a st hk=>⟨st.1,aaW (λo h=>⟨hk it (.head _) o h.1,h.2⟩) st.2.1,aaW (λo h=>⟨hk l (.tail _ (.head _)) o h.1,h.2⟩) st.2.2⟩
 item:=λi s Q E hi st hQ=>ax st.1 (gZ hi)
 done:=λs Q E st hE=>SS hh st.2.1 st.2.2 (aaZ hn) hE
def acD{c:aS}{Q:Bool->bL->Prop}(h:∀b,Q b s):wpAny Md A (anu c) Q E s:=by unfold anu;exact aN (wpAny_stack_any λst=>bw (h _))
def acE{l:aY}{items:Array aS}{Q:QE}(hL:s.heap.IsTuple l items)
 (h:Q (.ref (s.heap.push {cls:=.type "tuple_iterator",data:=.fields #[.ref l,.int 0 0]}).objs.size) {s with heap:=(s.heap.push {cls:=.type "tuple_iterator",data:=.fields #[.ref l,.int 0 0]}).push {cls:=.type "enumerate",data:=.fields #[.none,.bool Z,.ref s.heap.objs.size,iw 0,.none,.none]}}):
 wpAny Md A (Builtin.«enumerate.__new__» ⟨[.type "enumerate",.ref l],[]⟩) (λfin s'=>∃r,fin=.done (.ret r)/\Q r s') E s:=by
 unfold Builtin.«enumerate.__new__»;have go:wpAny Md A (vH (.ref l)>>=λx=>aqg (.type "enumerate") (aqf++[x,iw 0,.none,.none])>>=λr=>ret r) (λfin s'=>∃r,fin=Fin.done (.ret r)/\Q r s') E s:=
  aN (ao7 hL (aN (m:=newObj (.type "enumerate") (.fields #[.none,.bool Z,.ref s.heap.objs.size,iw 0,.none,.none])) (vC (bw ⟨_,Y,h⟩))))
 have nc:wpAny Md A (anx "enumerate" ⟨[.type "enumerate",.ref l],[]⟩) (λr s'=>r=(.type "enumerate",[.ref l])/\s'=s) E s:=by unfold anx;refine aN (bw ?_);refine aN ?_;exact aj sub_enumerate (bw (bw ⟨Y,Y⟩))
 refine aN (wm nc λr s' e=>?_);obtain⟨rfl,rfl⟩:=e;refine aN (acD λb=>?_);cases b
 .refine aN (bw go)
 .refine aN (bw go)
def acF{it:aY}{ep:Nat}{ok ov a b:aS}{Q:QE}(fD:aay s.heap it d i n ep ok ov)
 (h:∀h',aap h' it d i n ep a b s.heap.objs.size->h'.get? s.heap.objs.size=M (iJ [a,b])->(∀b o,b≠it->s.heap.get? b=M o->h'.get? b=M o)->Q (.ref s.heap.objs.size) {s with heap:=h'}):
 wpAny Md A (anw (.ref it) 6 a b) Q E s:=by
 have SU:=eJ fD;unfold anw;refine aN (apL ?_);have y2:aay (s.heap.push (iJ [a,b])) it d i n ep ok ov:=eG _ fD
 refine aN (aN (uc y2 Y Y (bw ?_)));refine aN (uc y2 Y Y (aN (uc y2 Y Y ?_)));refine aN (Jt y2 (by exact jo Y) λux Hn SV=>aN (Jt Hn (by exact jo Y) λSX acG acH=>aN (Jt acG (by exact jo Y) λSY acI acJ=>aN (Jt acI (by exact jo Y) λacK acL acM=>aN (Qs (bw ?_))))))
 have k:=λb o n e=>acM.extBut b o n (acJ.extBut b o n (acH.extBut b o n e));exact h acK acL (k _ _ (fQ SU) (SV.extBut _ _ (fQ SU) (jY _ Y))) λb o n e=>k b o n (SV.extBut b o n (eG _ e))
def acN{it:aY}{ep:Nat}{ds:List eQ}{ok ov:aS}{Q:QE}(hh:A.handled=U)(fD:aay s.heap it d i ds.length ep ok ov)(Ef:s.heap.get? d=M (iZ ds ep))
 (h1:∀x,ds[i]?=M x->∀h',aap h' it d (i+1) ds.length ep x.key x.val s.heap.objs.size->h'.get? s.heap.objs.size=M (iJ [x.key,x.val])->
  (∀b o,b≠it->s.heap.get? b=M o->h'.get? b=M o)->Q (.ref s.heap.objs.size) {s with heap:=h'})(h2:ds[i]?=U->∀h' e,(∃o,h'.get? e=M o/\o.cls=.type "StopIteration")->Gn it s.heap h'->E (.ref e) {s with heap:=h'}):
 wpAny Md A (Builtin.«dict_itemiterator.__next__» ⟨[.ref it],[]⟩) (λfin s'=>∃v,fin=.done (.ret v)/\Q v s') E s:=by
 obtain⟨hp,g,dr,tk,os⟩:=s;have hT:aoR ⟨hp,g,dr,tk,os⟩ (.ref it) "dict_itemiterator":=⟨_,fD,Y⟩
 refine aN (bw (aN (aN (aN (Zk hT (bw (aN (apM fD Y ?_))))))));rw[show(CL "dict_itemiterator")=O by decide]
 show wpAny _ _ (if(mJ d==pe)=O then _ else _) _ _ _;rw[au (show¬((mJ d==pe)=O) from dZ)]
 refine aN (bw (aN (yq Ef Y ?_)));rw[au (Hl (show(ds.toArray.size)=(ds.length:Int) from Y))]
 refine aN (bw (aN (vF Ef Y ?_)));rw[au (Hl (Y))];refine bw ?_;have ei:(if(i:Int)<0 then U else ds.toArray[(i:Int).toNat]?)=ds[i]?:=(au (vG.mpr (jR i))).trans (AK ..)
 dsimp only;rw[ei];cases hx:ds[i]? with
 |some x=>
  refine aN (aN (Zk hT (bw (aN (ZA hT ?_)))));rw[show(CL "dict_itemiterator")=O by decide]
  refine aN (Jt fD (by exact jo Y) λh₁ Eg vZ=>?_)
  have SZ:aoR ⟨h₁,g,dr,tk,os⟩ (.ref it) "dict_itemiterator":=⟨_,Eg,Y⟩;refine aN (jU (aN (ZA SZ (aN (ZA SZ ?_)))));exact acF Eg (λh' a b c=>bw ⟨_,Y,ak (vZ).1 (h1 x hx h' (aj (vZ).1 a) (aj (vZ).1 b) λp o n e=>c p o n ((vZ).extBut p o n e))⟩)
 |none=>
  refine aN (aN (Zk hT (bw ?_)));rw[show(CL "dict_itemiterator")=O by decide]
  exact aN (Gk fD Y (by exact jo Y) (Ll hh λh' e k q=>h2 hx _ _ q λb o n g=>k b o ((tY ..).extBut b o n g)))
theorem acO{l:aY}{vs:List aS}{Q:QE}(hl:s.heap.get? l=M (iJ vs))
 (h:∀h',IsEnum h' (s.heap.objs.size+1) s.heap.objs.size 0 .none->h'.IsTupleIter s.heap.objs.size l 0->(∀b o,s.heap.get? b=M o->h'.get? b=M o)->Q (.ref (s.heap.objs.size+1)) {s with heap:=h'}):wpAny Md A (call (.type "enumerate") [.ref l]) Q E s:=by
 refine callType_newIn F.called_enumerate (ao Y) (F.typeCall_enumerate_1 _) (F.newCall_enumerate_1 _) (λobj=>F.args_object_init_2 obj _) F.entry_enumerate_new
  (MeetsIn.of_wp (S:=λA R s=>s.heap.IsTuple l vs.toArray/\R (.ok (.ret _)) _) λA R s q=>acE q.1 q.2) ⟨⟨_,hl,Y,0,Y⟩,?_⟩
 have hz:(s.heap.push {cls:=.type "tuple_iterator",data:=.fields #[.ref l,.int 0 0]}).objs.size=s.heap.objs.size+1:=Heap.size_push ..;have he:=jY (s.heap.push {cls:=.type "tuple_iterator",data:=.fields #[.ref l,.int 0 0]}) (o:={cls:=.type "enumerate",data:=.fields #[.none,.bool Z,.ref s.heap.objs.size,iw 0,.none,.none]}) Y
 rw[hz]at he⊢;exact⟨⟨_,he,Y⟩,h _ he ⟨_,eG _ (jY _ Y),Y,Y⟩ λb o x=>eG _ (eG _ x)⟩
def acP{ds:List eQ}{Q:QE}(hd:(d==xh)=Z)(ho:s.heap.get? d=M (iZ ds n))
 (h:Q (.ref s.heap.objs.size) {s with heap:=s.heap.push {cls:=.type "dict_items",data:=.fields #[.ref d]}}):
 wpAny Md A (Builtin.«dict.items» ⟨[.ref d],[]⟩) (λfin s'=>∃r,fin=.done (.ret r)/\Q r s') E s:=by
 have hT:s.TypeIs (.ref d) "dict":=⟨_,ho,Y⟩;unfold Builtin.«dict.items»;refine aN ?_;unfold aqD;refine aN (PQ hT ?_);refine bw ?_;unfold PJ;rw[au (hd▸dZ)];refine aN (bw ?_);exact aN (vC (bw ⟨_,Y,h⟩))
theorem acQ{v:aY}{ds:List eQ}{ep:Nat}{Q:QE}(hv:s.heap.IsItemsView v d)(ho:s.heap.get? d=M (iZ ds ep))
 (hQ:Q (.ref s.heap.objs.size) {s with heap:=s.heap.push {cls:=.type "dict_itemiterator",data:=.fields #[.none,.bool Z,.ref d,.int 0 0,.int ds.length 0,.int ep 0,.none,.none]}}):
 wpAny Md A (vH (.ref v)) Q E s:=by
 refine fH (id hv) λov hov hcv hdv=>?_;refine ape hv.typeIs F.slot_dict_items_iter (oo F.slot_dict_items_iter hv.typeIs F.entry_dict_items_iter ?_ (F.args_dict_items_iter_1 _));unfold Builtin.«dict_items.__iter__»;refine aN (bw ?_);refine aN ?_;unfold aqi;refine aN (uc hov hdv Y (bw ?_));refine aN ?_;unfold aqh;refine aN (yq ho Y ?_);refine aN (vF ho Y ?_);have acT:CL "dict_itemiterator"=O:=ao Y
 simp only[acT,if_true];refine vC (bw ⟨_,Y,"dict_itemiterator",_,⟨_,jY _ Y,Y⟩,F.slot_dict_itemiterator_next.lookup,?_⟩)
  (by simp only[sizeOk,anv,q8,dY,vD,Z5,kq];omega)
 simpa [iw,anv]using hQ
abbrev Src:=Nat->Hp->Option V->Prop
def jH(b:Bool)(it:aY)(J:List aY)(I:Nat->Wd->(Loc->Prop)->Prop)(S:Src):Prop:=(∀i W D,I i W D->∀a∈J,∃o vs,(a,o)∈W.n/\kD o vs)/\(∀i W D W' D',I i W D->Tu W W' D D'->(∀p∈W.n,p.1∈J->p∈W'.n)->I i W' D')/\(∀F A n W K s i v tg,St F A n W K s->I i W (aZ K.h)->S i K.h (M v)->(b=O->∃x y z,tg=.Tuple x y z)->wpAny Md A (AZ (.ref it)) (λr bp=>∃u,r=M u/\wpAny Md A (JB tg (.ref it) u) (λc s'=>∃oJ,aX F ⟨W.bY,oJ⟩ K s'/\(∀p∈W.n,p.1∉J->p∈oJ)/\I (i+1) ⟨W.bY,oJ⟩ (aZ K.h)/\VR ⟨W.bY,oJ⟩ (aZ K.h) u v) br bp) br s)/\(∀F A n W K s i,St F A n W K s->I i W (aZ K.h)->S i K.h U->wpAny Md A (AZ (.ref it)) (λr s'=>r=U/\∃h',s'={s with heap:=h'}/\∀b o,b∉J->s.heap.get? b=M o->h'.get? b=M o) br s)/\(b=Z->∀F A n W K s i(R:QE),St F A n W K s->I i W (aZ K.h)->R (.ref it) s->wpAny Md A (vH (.ref it)) R br s)
section
variable{b:Bool} {it:aY} {J:List aY} {I:Nat->Wd->(Loc->Prop)->Prop} {S:Src} (hh:jH b it J I S)
def jH.aC:=hh.1
def jH.aK:=hh.2.1
def jH.aF:=hh.2.2.1
def jH.aI:=hh.2.2.2.1
def jH.aO:=hh.2.2.2.2
end
def oK(b:Bool)(F:Fm)(W:Wd)(h:Hp)(Q:Src->QA)(v:aS)(s':bL):Prop:=∃W' bk it J I S,v=.ref it/\aX F W' bk s'/\Ext F.cH W h W' bk.h/\jH b it J I S/\I 0 W' (aZ bk.h)/\(∀p∈W.n,p.1∉J)/\Q S bk
variable{it:aY} {fs:Array aS} {vs ks:Vs} {S:Src} {Q:Src->QA} {b:Bool}
section
variable{tk:Nat} {o:bC}
def oK.dy(e:Ext F.cH W h bg h₁)(p:oK b F bg h₁ Q v s):oK b F W h Q v s:=p.elim λW' p=>p.elim λbk p=>p.elim λit p=>p.elim λJ p=>p.elim λI p=>p.elim λS p=>
 ⟨W',bk,it,J,I,S,p.1,p.2.1,e.dy p.2.2.1,p.2.2.2.1,p.2.2.2.2.1,λq m=>(e.aI q m).elim λo k=>p.2.2.2.2.2.1 (q.1,o) k,p.2.2.2.2.2.2⟩
def acU(R:aX F W K s)(m:(a,o)∈W.n)(d:kD o fs):Tu W ⟨W.bY,fk a o' W.n⟩ D D:=⟨λl q=>⟨q,Y⟩,λb ws mb=>j7 (λ(e:b=a)=>j5 (R.lM m (aj e mb)▸d).1 Y) mb⟩
def jH.oM{nm:String}{P:Nat->bC->Prop}{E:Wd->(Loc->Prop)->Prop}(hn:["enumerate","zip","dict_itemiterator","dict_reverseitemiterator","odict_iterator","itertools.zip_longest","itertools.pairwise"].contains nm=Z)
 (fl:∀i o,P i o->o.cls=.type nm/\∃vs,o.data=.fields vs)(ek:∀W D W' D',E W D->Tu W W' D D'->E W' D')
 (ag:∀F A n W K s i o(R:QE),St F A n W K s->s.heap.get? it=M o->P i o->R (.ref it) s->wpAny Md A (vH (.ref it)) R br s)(nx:∀F A n W K s i o x,St F A n W K s->s.heap.get? it=M o->P i o->E W (aZ K.h)->S i K.h x->∀R:Option aS->bL->Prop,(∀u v h' tk o',x=M v->qa it s.heap h'->h'.get? it=M o'->P (i+1) o'->VR W (aZ K.h) u v->R (M u) {s with heap:=h',toks:=tk})->(x=U->∀h',Gn it s.heap h'->R U {s with heap:=h'})->wpAny Md A (AZ (.ref it)) R br s):
 jH b it [it] (λi W D=>E W D/\∃o,(it,o)∈W.n/\P i o) S:=by
 have fd:∀{i o},P i o->∃vs,kD o vs:=λp=>have q:=fl _ _ p;q.2.elim λvs k=>⟨vs,k,λe=>A1 (e.symm.trans q.1) Y⟩
 refine⟨λi W D h a m=>ak (bK.mp m) (h.2.elim λo k=>(fd k.2).elim λvs d=>⟨o,vs,k.1,d⟩),λi W D W' D' h t k=>⟨ek _ _ _ _ h.1 t,h.2.elim λo q=>⟨o,k _ q.1 (.head _),q.2⟩⟩,λF A n W K s i v tg T h sv ot=>h.2.elim λo k=>(fd k.2).elim λvs d=>?_,λF A n W K s i T h sv=>h.2.elim λo k=>?_,λc F A n W K s i R T h r=>h.2.elim λo k=>ag F A n W K s i o R T (T.aC.aC.aF _ k.1).1 k.2 r⟩
 .refine nx F A n W K s i o _ T (T.aC.aC.aF _ k.1).1 k.2 h.1 sv _ (λu v' h' tk o' ev sb g p vu=>⟨u,Y,?_⟩) λe=>hV e;have t:Tu W ⟨W.bY,fk it o' W.n⟩ (aZ K.h) (aZ K.h):=acU T.aC k.1 d
  exact acx g (fl _ _ p).1 hn ⟨_,(T.aC.acw k.1 d sb g).1,λp m q=>j7 (λe=>q (aj e (.head _))) m,⟨ek _ _ _ _ h.1 t,o',vP k.1,p⟩,ak (bF ev) (vu.bU t)⟩
 .exact nx F A n W K s i o _ T (T.aC.aC.aF _ k.1).1 k.2 h.1 sv _ (λu v' h' tk o' ev=>cW ev) λc h' e=>⟨Y,h',Y,λb o q=>e b o λw=>q (aj w (.head _))⟩
def oK.oM{P:Nat->bC->Prop}{E:Wd->(Loc->Prop)->Prop}(R:aX F W K s)(hf:o.isFreed=Z)(p0:P 0 o)(e0:E W (aZ K.h))(ek:∀W D W' D',E W D->Tu W W' D D'->E W' D')(it:jH b s.heap.objs.size [s.heap.objs.size] (λi W D=>E W D/\∃o,(s.heap.objs.size,o)∈W.n/\P i o) S)(q:Q S K):
 oK b F W K.h Q (.ref s.heap.objs.size) {s with heap:=s.heap.push o,toks:=tk}:=
 have ae:=R.Lh hf
 ⟨_,K,_,_,_,_,Y,ae.1,ae.2,it,⟨ek _ _ _ _ e0 (ae.2.tu R.aC.aC R.nx),o,.head _,p0⟩,λp m e=>dq _ (bK.mp e▸eJ (R.aC.aF p m).1),q⟩
def Ho(l:Loc):Src:=λi h x=>∃xs,h l=M (.l xs)/\xs[i]?=x
def y3(vs:Vs):Src:=λi a x=>vs[i]?=x
def S5(l:Loc)(ks:Vs):Src:=λi h x=>∃es,h l=M (.d es)/\es.map (·.1)=ks/\ks[i]?=x
def S6(w:aP):Src:=λi a x=>w.cps[i]?.map (λc=>.s ⟨#[c]⟩)=x
def y4(nm:String)(fs:Nat->Array aS)(i:Nat)(o:bC):Prop:=o.cls=.type nm/\o.data=.fields (fs i)
def wa(l:Loc)(a:aY)(W:Wd)(D:Loc->Prop):Prop:=D l/\W.ρ l=a
def wa.kZ(h:wa l a W D)(t:Tu W W' D D'):wa l a W' D':=⟨(t.aC l h.1).1,(t.aC l h.1).2.trans h.2⟩
def acV:jH b it [it] (λi W D=>wa l a W D/\∃o,(it,o)∈W.n/\y4 "list_iterator" (λi=>#[.ref a,.int (i:Nat) 0]) i o) (Ho l):=
 .oM (ao Y) (λi o p=>⟨p.1,_,p.2⟩) (λc c c c h t=>h.kZ t) (λF A n W K s i o R T g p r=>aoJ ⟨o,g,p⟩ r) λF A n W K s i o x T g p e sv R h1 h2=>sv.elim λxs sv=>by
  have il:=e.2▸T.aC.pF sv.1;rcases(T.aC.jF sv.1).yG i with q|⟨u,v,q⟩
  .exact aoI T.aF.aC ⟨o,g,p⟩ il (by rw[<-si];exact q.1) λh'=>h2 (sv.2.symm.trans q.2) h'
  .exact aoz ⟨o,g,p⟩ il (by rw[<-si];exact q.1) λh' fD sb=>fD.elim λo' g'=>h1 u v h' s.toks o' (sv.2.symm.trans q.2.1) sb g'.1 g'.2 q.2.2
def acW{t:aY}:jH b it [it] (λi W D=>VR W D (.ref t) (V.cq vs)/\∃o,(it,o)∈W.n/\y4 "tuple_iterator" (λi=>#[.ref t,.int (i:Nat) 0]) i o) (y3 vs):=
 .oM (ao Y) (λi o p=>⟨p.1,_,p.2⟩) (λa a a a h t=>h.bU t) (λF A n W K s i o R T g p r=>wpAny_pyIter_tupleiter ⟨o,g,p⟩ r) λF A n W K s i o x T g p e sv R h1 h2=>(VR.lK.mp e).elim λt' e=>e.elim λws e=>by
  obtain⟨rfl⟩:=ZZ e.1;have il:s.heap.IsTuple t ws.toArray:=⟨_,T.aC.th t ws e.2.1,Y,0,Y⟩
  rcases e.2.2.yG i with q|⟨u,v,q⟩
  .exact wpAny_pyNext_tuple_end T.aF.aC ⟨o,g,p⟩ il (by rw[AK];exact q.1) λh'=>h2 (sv.symm.trans q.2) h'
  .exact wpAny_pyNext_tuple_item ⟨o,g,p⟩ il (by rw[AK];exact q.1) λh' fD sb=>fD.elim λo' g'=>h1 u v h' s.toks o' (sv.symm.trans q.2.1) sb g'.1 g'.2 q.2.2
def acX:jH b it [it] (λi W D=>wa l a W D/\∃o,(it,o)∈W.n/\y4 "dict_keyiterator" (λi=>#[.ref a,.int (i:Nat) 0,.int (ks.length:Nat) 0,.int (ks.length:Nat) 0]) i o) (S5 l ks):=
 .oM (ao Y) (λi o p=>⟨p.1,_,p.2⟩) (λc c c c h t=>h.kZ t) (λF A n W K s i o R T g p r=>wpAny_pyIter_keyiter ⟨o,g,p⟩ r) λF A n W K s i o x T g p e sv R h1 h2=>sv.elim λes sv=>by
  have al:=T.aC.md sv.1;have n1:(T.aC.ds sv.1).length=ks.length:=al.iI.trans (by rw[<-sv.2.1,bc])
  have go:=e.2▸T.aC.dg sv.1;rw[show es.length=(T.aC.ds sv.1).length from al.iI.symm]at go
  refine SR (⟨o,g,p.1⟩) PySem.F.slot_dict_keyiterator_next PySem.F.entry_dict_keyiterator_next (PySem.F.args_dict_keyiterator_next_1 _) λ{Q₁ Hm} j1 j2=>acz (T.aF.aC) ⟨o,g,p.1,n1.symm▸p.2⟩ go (λd hd h' fD sb=>j1 _ _ ?_) λhd h' e x ke=>j2 h' e x ?_
  .exact(al.yH hd).elim λy q=>fD.elim λo' g'=>h1 _ _ h' s.toks o' (sv.2.2.symm.trans (by rw[<-sv.2.1,gX,q.1];rfl)) sb g'.1 ⟨g'.2.1,aj n1 g'.2.2⟩ q.2.aC
  .refine h2 (sv.2.2.symm.trans ?_) h' ke;rw[jj]at hd⊢;exact aj n1 hd
def acY{w:aP}{t:pv}(ok:pZ w=O):jH b it [it] (λi W D=>True/\∃o,(it,o)∈W.n/\y4 "str_ascii_iterator" (λi=>#[.str w t,.int (i:Nat) 0]) i o) (S6 w):=
 .oM (ao Y) (λi o p=>⟨p.1,_,p.2⟩) (λa a a a h t=>h) (λF A n W K s i o R T g p r=>wpAny_pyIter_striter_ascii ⟨o,g,p⟩ r) λF A n W K s i o x T g p e sv R h1 h2=>by
  cases hc:w.cps[i]? with
  |none=>exact wpAny_pyNext_ascii_end T.aF.aC ⟨o,g,p⟩ hc λh'=>h2 (sv.symm.trans (aq _ hc)) h'
  |some c=>exact wpAny_pyNext_ascii_item ⟨o,g,p⟩ hc λh' fD sb=>fD.elim λo' g'=>h1 _ _ h' _ o' (sv.symm.trans (aq _ hc)) sb g'.1 g'.2 ⟨_,Y,anE.mpr λy hy=>anE.mp ok y (ak (Array.mem_singleton.mp hy) (Array.mem_of_getElem? hc))⟩
noncomputable def Lq(x left:Int):bC:={cls:=.type "range_iterator",dict:=U,data:=.fields #[iw x,iw left,iw 1],slots:=#[]}
end
variable{b it2 e:aY} {oa ob Hq jX:bC} {fa fb:Array aS} {ws:List aS}
section
variable{tk:Nat} {o:bC}
def aX.S7(R:aX F W K s)(ma:(a,oa)∈W.n)(da:kD oa fa)(mb:(b,ob)∈W.n)(db:kD ob fb)(ga:H'.get? a=M Hq)(gb:b≠a->H'.get? b=M jX)(gt:H'.get? s.heap.objs.size=M (iJ ws))(hk:∀p o,p≠a->p≠b->s.heap.get? p=M o->H'.get? p=M o):
 aX F ⟨W.bY,(s.heap.objs.size,iJ ws)::fk a Hq (fk b jX W.n)⟩ K {s with heap:=H',toks:=tk}/\Tu W ⟨W.bY,(s.heap.objs.size,iJ ws)::fk a Hq (fk b jX W.n)⟩ (aZ K.h) (aZ K.h):=by
 have za:=R.aC.aF _ ma;have zb:=R.aC.aF _ mb
 have k:∀p∈W.n,(∀vs,¬kD p.2 vs)->p∈(s.heap.objs.size,iJ ws)::fk a Hq (fk b jX W.n):=λp mp q=>.tail _ (j7 (λw=>q _ (aj (R.lM ma (aj w mp:(a,p.2)∈W.n)) da)) (j7 (λw=>q _ (aj (R.lM mb (aj w mp:(b,p.2)∈W.n)) db)) mp));refine⟨R.Li k ⟨R.fr.ns.at λo g=>hk _ _ (λq=>za.2.1 q.symm) (λq=>zb.2.1 q.symm) g,λc o g=>hk _ _ (λq=>by subst q;exact hV (g.symm.trans za.2.2)) (λq=>by subst q;exact hV (g.symm.trans zb.2.2)) (R.fr.keep c o g),R.fr.above⟩ (λp m=>?_) ?_,λl q=>⟨q,Y⟩,λc us m=>k _ m λvs f=>by cases f.1⟩
 .rcases cU.mp m with rfl|m
  .exact⟨gt,fQ R.fr.ns.lt,by
    cases g:F.h₀.get? s.heap.objs.size with
    |none=>rfl
    |some o=>exact ax (eJ (R.fr.keep _ _ g)) (dq _)⟩
  .obtain⟨apX,m₁,rfl⟩:=bX.mp m;obtain⟨S8,m₂,rfl⟩:=bX.mp m₁;have z:=R.aC.aF _ m₂
   by_cases fc:S8.1=b
   .rw[aw fc];by_cases gw:b=a
    .rw[aw gw];exact⟨ga,za.2⟩
    .rw[au gw];exact⟨gb gw,zb.2⟩
   .rw[au fc];by_cases gw:S8.1=a
    .rw[aw gw];exact⟨ga,za.2⟩
    .rw[au gw];exact⟨hk _ _ gw fc z.1,z.2⟩
 .rw[l6,xu,xu,iY];exact⟨λq=>(bX.mp q).elim λp r=>dq _ (bM (gy (r.2.symm)) (eJ (R.aC.aF p r.1).1)),R.aC.aC.aI⟩
noncomputable def Eh(it:aY)(i:Nat)(old:aS):bC:={cls:=.type "enumerate",dict:=U,data:=.fields #[.none,.bool Z,.ref it,iw i,.none,old],slots:=#[]}
noncomputable def Ei(d:aY)(i n:Nat)(ok ov:aS):bC:={cls:=.type "dict_itemiterator",dict:=U,data:=.fields #[.none,.bool Z,.ref d,.int i 0,.int n 0,.int n 0,ok,ov],slots:=#[]}
def S9{old:aS}:kD (Eh it i old) #[.none,.bool Z,.ref it,iw i,.none,old]:=⟨Y,λe=>A1 e Y⟩
def Lr{k m:aS}:kD (Ei a i n k m) #[.none,.bool Z,.ref a,.int i 0,.int n 0,.int n 0,k,m]:=⟨Y,λe=>A1 e Y⟩
def Ls{o p:bC}(g:s.heap.get? a=M o)(g':s.heap.get? b=M p)(h:o.cls≠p.cls):a≠b:=λe=>h (aq Qz (bF (g.symm.trans (ak e g'))))
def Ej(S:Src):Src:=λi h x=>∃y,S i h y/\x=y.map λv=>V.cq [.i (i:Nat),v]
def jH.Ta{nm:String}{P:Nat->bC->Prop}{E:Wd->(Loc->Prop)->Prop}(hn:nm≠"enumerate")
 (fl:∀i o,P i o->o.cls=.type nm/\∃vs,o.data=.fields vs)(ek:∀W D W' D',E W D->Tu W W' D D'->E W' D')
 (dr:∀F A n W K s i o x,St F A n W K s->s.heap.get? it=M o->P i o->E W (aZ K.h)->S i K.h x->∃N fp Pd Sd,Draws pr w0 A.in1 it fp N Pd Sd/\(∀v,x=M v->Sd i s.heap/\i<N/\(∀b∈fp,∃o,s.heap.get? b=M o/\o.cls≠.type "enumerate")/\(∀y,Pd i y->VR W (aZ K.h) y v)/\∀h',Sd (i+1) h'->∃o',h'.get? it=M o'/\P (i+1) o')/\(x=U->Sd N s.heap)):
 jH O e [e,it] (λi W D=>E W D/\∃o old,(it,o)∈W.n/\P i o/\(e,Eh it i old)∈W.n) (Ej S):=by
 have fd:∀{i o},P i o->∃vs,kD o vs:=λp=>have q:=fl _ _ p;q.2.elim λvs k=>⟨vs,k,λe=>A1 (e.symm.trans q.1) Y⟩
 refine⟨λi W D h a m=>h.2.elim λo h=>h.elim λold h=>(cU.mp m).elim (λw=>ak w ⟨_,_,h.2.2,S9⟩) λm=>ak (bK.mp m) ((fd h.2.1).elim λvs d=>⟨o,vs,h.1,d⟩),λi W D W' D' h t k=>⟨ek _ _ _ _ h.1 t,h.2.elim λo h=>h.elim λold h=>⟨o,old,k _ h.1 (.tail _ (.head _)),h.2.1,k _ h.2.2 (.head _)⟩⟩,λF A n W K s i v tg T h sv ot=>?_,λF A n W K s i T h sv=>?_,λe=>b9 e⟩
 .obtain⟨acZ,ac0,ac1,rfl⟩:=ot Y;refine oA h λh0 hW=>ug hW λo old m2 p m1=>?_;refine bT sv λy sy ey=>?_;cases y with
  |none=>cases ey
  |some v'=>
   obtain rfl:=bF ey;have g1:=(T.aC.aC.aF _ m1).1
   have g2:=(T.aC.aC.aF _ m2).1;refine xn (dr F A n W K s i o _ T g2 p h0 sy) λN fp Pd Sd hW=>qG hW λd q c=>?_;refine sC (q v' Y) λq1 q2 q3 q4 q5=>?_;have ne:=Ls g1 g2 λw=>hn (Value.type.inj ((fl _ _ p).1.symm.trans w.symm))
   refine wpAny_pyNext_enum_itemD d g1 q1 q2 ne (λw=>(q3 e w).elim λo q=>q.2 (aq Qz (bF (q.1.symm.trans g1)))) λu h' tk pu out sd gt c hk=>⟨_,Y,wpAny_letOwnedTupleGo_enum out λwc en sb=>?_⟩;refine bT (q5 _ sd) λo' g' p'=>?_;refine oE (fd p) λf2 d2=>?_;have ae:=T.aC.S7 (tk:=tk+1) m1 S9 m2 d2 en (λw=>(sb.2 _ w).trans g') ((sb.2 _ (fQ (eJ g1))).trans gt) λb o nb nb2 g=>(sb.2 _ nb).trans (hk b o nb nb2 g)
   exact⟨_,ae.1,λp m q=>.tail _ (j7 (λw=>q (aj w (.head _))) (j7 (λw=>q (aj w (.tail _ (.head _)))) m)),⟨ek _ _ _ _ h0 ae.2,o',u,.tail _ (j7 (λw=>ne w.symm) (vP m2)),p',.tail _ (vP (j7 ne m1))⟩,
    VR.lK.mpr ⟨_,_,Y,⟨.inl (.head _),(by decide:2<=33554432)⟩,.hY ⟨tk,Y⟩ (.hY ((q4 _ pu).bU ae.2) .iH)⟩⟩
 .refine oA h λh0 hW=>ug hW λo old m2 p m1=>?_;refine bT sv λy sy ey=>?_;cases y with
  |some v'=>cases ey
  |none=>refine xn (dr F A n W K s i o _ T (T.aC.aC.aF _ m2).1 p h0 sy) λN fp Pd Sd hW=>qG hW λd c q=>?_;exact wpAny_pyNext_enum_endD d (T.aC.aC.aF _ m1).1 (q Y) λh' k=>⟨Y,h',Y,λb o q=>k b o λw=>q (aj w (.tail _ (.head _)))⟩
def ac3:jH O e [e,it] (λi W D=>wa l a W D/\∃o old,(it,o)∈W.n/\y4 "list_iterator" (λi=>#[.ref a,.int (i:Nat) 0]) i o/\(e,Eh it i old)∈W.n) (Ej (Ho l)):=
 .Ta (ao Y) (λi o p=>⟨p.1,_,p.2⟩) (λc c c c h t=>h.kZ t) λF A n W K s i o x T g p e sv=>sv.elim λxs sv=>by
  have il:=e.2▸T.aC.pF sv.1;have hh:A.in1.handled=U:=T.aF.aC
  have gl:=e.2▸T.aC.iS sv.1;rcases(T.aC.jF sv.1).yG i with q|⟨u,v,q⟩
  .exact⟨i,_,_,_,Draws.acB hh it a i _ (iP.mp λw=>hV ((iO w).symm.trans q.1)),(λv e=>hV (e.symm.trans (sv.2.symm.trans q.2))),λc=>⟨Y,⟨o,g,p⟩,il⟩⟩
  .refine⟨_,_,_,_,aq2 hh it a (Ls gl g λw=>ax (w.trans p.1) (by decide:xf "list"≠.type "list_iterator")) (T.aC.bu sv.1),λv' e=>⟨⟨⟨o,g,p⟩,il⟩,(cG.mp q.1).1,λb m=>?_,λy py=>?_,λh' k=>k.1.elim λo' k=>⟨o',k⟩⟩,λe=>cW (e.symm.trans (sv.2.symm.trans q.2.1))⟩
   .rcases cU.mp m with rfl|m
    .exact⟨o,g,λw=>ax (p.1.symm.trans w) (ao Y)⟩
    .exact ak (bK.mp m) ⟨_,gl,(by decide:xf "list"≠.type "enumerate")⟩
   .rw[<-si,q.1]at py;exact aj (bF py) (ak (bF (e.symm.trans (sv.2.symm.trans q.2.1))) q.2.2)
def ac4{t:aY}:jH O e [e,it] (λi W D=>VR W D (.ref t) (V.cq vs)/\∃o old,(it,o)∈W.n/\y4 "tuple_iterator" (λi=>#[.ref t,.int (i:Nat) 0]) i o/\(e,Eh it i old)∈W.n) (Ej (y3 vs)):=
 .Ta (ao Y) (λi o p=>⟨p.1,_,p.2⟩) (λa a a a h t=>h.bU t) λF A n W K s i o x T g p e sv=>(VR.lK.mp e).elim λt' e=>e.elim λws e=>by
  obtain⟨rfl⟩:=ZZ e.1;have gl:=T.aC.th t ws e.2.1
  have il:s.heap.IsTuple t ws.toArray:=⟨_,gl,Y,0,Y⟩;have hh:A.in1.handled=U:=T.aF.aC
  rcases e.2.2.yG i with q|⟨u,v,q⟩
  .exact⟨i,_,_,_,Draws.acC hh it t i _ (iP.mp λw=>hV ((iO w).symm.trans q.1)),(λv e=>hV (e.symm.trans (sv.symm.trans q.2))),λa=>⟨Y,⟨o,g,p⟩,il⟩⟩
  .refine⟨_,_,_,_,Draws.tuple hh it t (Ls gl g λw=>ax (w.trans p.1) (by decide:xf "tuple"≠.type "tuple_iterator")) ws.toArray,λv' e=>⟨⟨⟨o,g,p⟩,il⟩,(cG.mp q.1).1,λb m=>?_,λy py=>?_,λh' k=>k.1.elim λo' k=>⟨o',k⟩⟩,λe=>cW (e.symm.trans (sv.symm.trans q.2.1))⟩
   .rcases cU.mp m with rfl|m
    .exact⟨o,g,λw=>ax (p.1.symm.trans w) (ao Y)⟩
    .exact ak (bK.mp m) ⟨_,gl,(by decide:xf "tuple"≠.type "enumerate")⟩
   .rw[AK,q.1]at py;exact aj (bF py) (ak (bF (e.symm.trans (sv.symm.trans q.2.1))) q.2.2)
def Tb(l:Loc)(ks:Vs):Src:=λi h x=>∃es,h l=M (.d es)/\es.map (·.1)=ks/\es[i]?.map (λp=>V.cq [p.1,p.2])=x
def ac5:jH O it [it] (λi W D=>wa l a W D/\∃k v,(it,Ei a i ks.length k v)∈W.n) (Tb l ks):=by
 have go:∀{F:Fm}{A:sA}{n:Nat}{W:Wd}{K:AS}{s:bL}{i:Nat}{x:Option V}{es:Es}{k v:aS},St F A n W K s->wa l a W (aZ K.h)->(it,Ei a i ks.length k v)∈W.n->K.h l=M (.d es)->es.map (·.1)=ks->es[i]?.map (λp=>V.cq [p.1,p.2])=x->∀R:Option aS->bL->Prop,(∀(u)(p:V×V) (h') (w q),x=M (V.cq [p.1,p.2])->aap h' it a (i+1) ks.length ks.length w q s.heap.objs.size->h'.get? s.heap.objs.size=M (iJ [w,q])->(∀b o,b≠it->s.heap.get? b=M o->h'.get? b=M o)->VR W (aZ K.h) w p.1->VR W (aZ K.h) q p.2->u=.ref s.heap.objs.size->R (M u) {s with heap:=h'})->(x=U->∀h',Gn it s.heap h'->R U {s with heap:=h'})->wpAny Md A (AZ (.ref it)) R br s:=by
  intro F A n W K s i x es k v T ow m he hk hx R h1 h2;have al:=T.aC.md he
  have n1:(T.aC.ds he).length=ks.length:=al.iI.trans (by rw[<-hk,bc])
  have gd:=ow.2▸T.aC.dg he;rw[show es.length=(T.aC.ds he).length from al.iI.symm]at gd
  have g:=(T.aC.aC.aF _ m).1;refine SR ⟨_,g,Y⟩ PySem.F.slot_dict_itemiterator_next PySem.F.entry_dict_itemiterator_next (PySem.F.args_dict_itemiterator_next_1 _) λ{Q₁ Hm} j1 j2=>acN (T.aF.aC) (n1.symm▸g) gd (λd hd h' out gt kp=>j1 _ _ ?_) λhd h' e x ke=>j2 h' e x ?_
  .exact(al.yH hd).elim λy q=>h1 _ y h' d.key d.val (hx.symm.trans (aq _ q.1)) (aj n1 out) gt kp q.2.aC q.2.aK Y
  .refine h2 (hx.symm.trans (aq (Go _) (?_:es[i]?=U))) h' ke;rw[jj]at hd⊢;exact aj al.iI hd
 refine⟨λi W D h a m=>ak (bK.mp m) (h.2.elim λk h=>h.elim λv h=>⟨_,_,h,Lr⟩),λi W D W' D' h t k=>⟨h.1.kZ t,h.2.elim λo h=>h.elim λold h=>⟨o,old,k _ h (.head _)⟩⟩,λF A n W K s i v tg T h sv ot=>?_,λF A n W K s i T h sv=>?_,λe=>b9 e⟩
 .obtain⟨acZ,ac0,ac1,rfl⟩:=ot Y;refine oA h λh0 hW=>xl hW λk w m=>?_;refine fH sv λes he hk hx=>?_;refine go T h0 m he hk hx _ (λu p h' c d ev out gt kp vc vd eu=>⟨_,Y,?_⟩) λe=>hV e;subst eu;obtain rfl:=bF ev;refine wpAny_letOwnedTupleGo_items out λwc en sb=>?_;have g:=(T.aC.aC.aF _ m).1
  have ae:=T.aC.S7 (tk:=s.toks) (jX:=Ei a (i+1) ks.length c d) m Lr m Lr en (λw=>ax Y w) ((sb.2 _ (fQ (eJ g))).trans gt) λb o nb f g=>(sb.2 _ nb).trans (kp b o nb g);exact⟨_,ae.1,λp m q=>.tail _ (j7 (λw=>q (aj w (.head _))) (j7 (λw=>q (aj w (.head _))) m)),⟨h0.kZ ae.2,c,d,.tail _ (vP (vP m))⟩,VR.lK.mpr ⟨_,_,Y,⟨.inl (.head _),(by decide:2<=33554432)⟩,.hY (vc.bU ae.2) (.hY (vd.bU ae.2) .iH)⟩⟩
 .refine oA h λh0 hW=>xl hW λk w m=>?_;refine fH sv λes he hk hx=>?_;exact go T h0 m he hk hx _ (λu p h' c d ev=>cW ev) λf h' e=>⟨Y,h',Y,λb o q=>e b o λw=>q (aj w (.head _))⟩
end
def IB(b:Bool)(K:AS)(x:V)(Q:Src->QA):Prop:=∀F A n W s v,St F A n W K s->VR W (aZ K.h) v x->wpAny Md A (vH v) (oK b F W K.h Q) br s
def IE(K:AS)(x:V)(Q:Src->QA):Prop:=∀F A n W s v,St F A n W K s->VR W (aZ K.h) v x->wpAny Md A (call (.type "enumerate") [v]) (λr bp=>wpAny Md A (vH r) (oK O F W K.h Q) br bp) br s
def WI(n:Nat)(b:Bool)(e:Sx)(Q:Src->QA)(K:AS):Prop:=∀F A W s q,St F A n W K s->Ck e F.b (.i q)->(∀x,Z7 q F.bV x=pure x)/\wpAny Md A (eval q F.bV) (λx bp=>wpAny Md A (vH x) (oK b F W K.h Q) br bp) br s
variable{es:Es} {b:Bool} {a:Sx}
section
variable{tk:Nat} {o:bC}
def aX.ac6(R:aX F W K s)(hk:∀b o,s.heap.get? b=M o->H'.get? b=M o)(g1:H'.get? (s.heap.objs.size+1)=M o)(g2:H'.get? s.heap.objs.size=M o'):
 aX F ⟨W.bY,(s.heap.objs.size+1,o)::(s.heap.objs.size,o')::W.n⟩ K {s with heap:=H',toks:=tk}/\Ext F.cH W K.h ⟨W.bY,(s.heap.objs.size+1,o)::(s.heap.objs.size,o')::W.n⟩ K.h:=
 have lt:=λp hp=>eJ (R.aC.aF p hp).1;have ae:=HR.A5 R.aC.aC lt
 have V:=HR.A5 ae.1 λp hp=>(cU.mp hp).elim (λe=>ak e (i7 _)) λm=>sr (lt p m);have E:=ae.2.dy V.2
 have fr:=λb p e=>eJ e
 ⟨R.xA (R.fr.keeps hk) (λp hp=>(cU.mp hp).elim (λe=>DG R.fr R.aC.aF hk g1 (λb p e=>sr (fr b p e)) p (aj e (.head _))) λm=>DG R.fr R.aC.aF hk g2 fr p m) ⟨V.1,E⟩ (λa o m c=>.tail _ (.tail _ m)) R.aC.aK Y Y,E⟩
def qP(hl:K.h l=M (.l vs))(q:Q (Ho l) K):IB b K (.e l) Q:=λF A n W s v T vx=>ak vx.1 (Z6 (T.aC.pF hl) (oK.oM T.aC Y ⟨Y,Y⟩ ⟨nH hl,Y⟩ (λa a a a h t=>h.kZ t) acV q))
def Lu(q:Q (y3 vs) K):IB b K (V.cq vs) Q:=λF A n W s v T vx=>cQ (VR.lK.mp vx) λa p=>p.elim λws p=>by obtain rfl:=p.1;exact ao7 ⟨_,T.aC.th a ws p.2.1,Y,0,Y⟩ (oK.oM T.aC Y ⟨Y,Y⟩ vx (λc c c c h t=>h.bU t) acW q)
def ac7(hl:K.h l=M (.d es))(q:Q (S5 l (es.map (·.1))) K):IB b K (.e l) Q:=λF A n W s v T vx=>by
 have al:=T.aC.md hl;have g:=T.aC.dg hl
 rw[show es.length=(T.aC.ds hl).length from al.iI.symm]at g
 exact ak vx.1 (acy (T.aC.qj T.aF (T.aC.dm hl)) g (oK.oM T.aC Y ⟨Y,by rw[bc,<-al.iI];rfl⟩ ⟨nH hl,Y⟩ (λa a a a h t=>h.kZ t) acX q))
def ac8{w:aP}(hw:w.cps.all (·<128)=O)(q:Q (S6 w) K):IB b K (.s w) Q:=λF A n W s v T vx=>cQ vx λt e=>ak e.1 (wpAny_pyIter_ascii hw (oK.oM T.aC Y ⟨Y,Y⟩ trivial (λa a a a h t=>h) (acY e.2) q))
def Tc{I:Nat->Wd->(Loc->Prop)->Prop}(R:aX F W K s)(hk:∀b o,s.heap.get? b=M o->H'.get? b=M o)(he:IsEnum H' (s.heap.objs.size+1) s.heap.objs.size 0 .none)(g:H'.get? s.heap.objs.size=M o)(it:jH O (s.heap.objs.size+1) [s.heap.objs.size+1,s.heap.objs.size] I S)
 (h:∀W',Tu W W' (aZ K.h) (aZ K.h)->(s.heap.objs.size,o)∈W'.n->(s.heap.objs.size+1,Eh s.heap.objs.size 0 .none)∈W'.n->I 0 W' (aZ K.h))(q:Q S K):wpAny Md A (vH (.ref (s.heap.objs.size+1))) (oK O F W K.h Q) br {s with heap:=H'}:=
 have ae:=R.ac6 hk (he) g
 wpAny_pyIter_enum he ⟨_,K,_,_,_,_,Y,ae.1,ae.2,it,h _ (ae.2.tu R.aC.aC R.nx) (.tail _ (.head _)) (.head _),λp m e=>have lt:=eJ (R.aC.aF p m).1;(cU.mp e).elim (λe=>Nat.not_succ_lt_self (e▸lt)) λe=>dq _ (bK.mp e▸lt),q⟩
def ac9(hl:K.h l=M (.l vs))(q:Q (Ej (Ho l)) K):IE K (.e l) Q:=λF A n W s v T vx=>ak vx.1 (call_enumerate_list (T.aC.pF hl) λh' he hi a hk=>hi.elim λo g=>Tc T.aC hk he g.1 ac3 (λW' t m m'=>⟨wa.kZ ⟨nH hl,Y⟩ t,o,_,m,g.2,m'⟩) q)
def ac'(q:Q (Ej (y3 vs)) K):IE K (V.cq vs) Q:=λF A n W s v T vx=>cQ (VR.lK.mp vx) λa p=>p.elim λws p=>by obtain rfl:=p.1;exact acO (T.aC.th a ws p.2.1) λh' he hi hk=>hi.elim λo g=>Tc T.aC hk he g.1 ac4 (λW' t m m'=>⟨vx.bU t,o,_,m,g.2,m'⟩) q
def Td{e:cj}{env:kP}(h:nk [7] e=O)(x:aS):Z7 e env x=pure x:=by cases e<;>first|rfl|exact b9 h
def qQ(h:WE n a (λx aT=>IB b aT x Q) K):WI n b (.l a) Q K:=λF A W s q T c=>c.elim (λc=>c.elim λv c=>cJ.no c.1 Y) λc=>c.elim (λc=>c.elim λv c=>by obtain rfl:q=v:=aq (λx=>cJ.rec (motive:=λd=>cj) id (λd=>q) (λd=>q) (λd=>q) id (λd=>q) (λd=>q) (λd d=>q) x) c.1;exact⟨Td c.2.2,wm (h F A W s q T c.2.1) λv bp p=>p.dc λbg aT x R e vx k=>wm (k F A n bg bp v ⟨T.aF,R⟩ vx) λd d p=>p.dy e⟩) λc=>c.elim λv c=>c.elim λp c=>cJ.no c.1 Y
def Lv{q:cj}{env:kP}{f:cj}{vs:List cj}{kw:List Keyword}{p:iA}(e:cJ.i q=.i (.Call f vs kw p))(w:wpAny Md A (eval (.Call f vs kw p) env) R br s):(∀x,Z7 q env x=pure x)/\wpAny Md A (eval q env) R br s:=by cases e;exact⟨λa=>Y,w⟩
def pl1{v:cj}(h:Pl v):oB [v]:=λpos env=>by rw[h.1];rfl
def Te{f:aS}{pos:iA}{e:cj}{env:kP}(hp:Pl e)(h:wpAny Md A (eval e env) (λu bp=>Kp f bp.heap/\wpAny Md A (call f [u]) R br bp) br s):wpAny Md A (QD pos f [] (xk pos (ud [e] env)) []) R br s:=
 yZ (pl1 hp) (C3 (wm h λu bp k=>C6 k) (hp.1 _ _))
def Tf(P:jq)(ah:jr):nsIn (K0 P++ah) lJ "enumerate"=M U/\nsIn (K0 P++ah) lJ "range"=M U:=⟨by kernel_rfl,by kernel_rfl⟩
def Th:C8 "enumerate"=M (.type "enumerate")/\C8 "range"=M (.type "range"):=⟨by decide+kernel,by decide+kernel⟩
def Ti(h:WE n a (λx aT=>IE aT x Q) K):WI n O (.u a) Q K:=λF A W s q T c=>c.elim λnq c=>c.elim λv c=>c.elim λp c=>Lv c.1<|aN<|Bm T c.2.1 (Tf w0.params Z0).1 Th.1 (ao Y)<|Te c.2.2.2<|
 wm (h F A W s v T c.2.2.1) λv bp p=>p.dc λbg aT x R e vx k=>⟨Bu _ _,wm (k F A n bg bp v ⟨T.aF,R⟩ vx) λb b w=>wm w λb b p=>p.dy e⟩
def adb(h:WE n a (λx aT=>∃l es,x=.e l/\aT.h l=M (.d es)/\Q (Tb l (es.map (·.1))) aT) K):WI n O (.C a) Q K:=λF A W s w T c=>c.elim λo c=>c.elim λq c=>c.elim λp c=>Lv c.1<|aN ((c.2.2.2 "items" F.bV (eval o F.bV)).symm▸wm (h F A W s o T c.2.2.1) (λov bp r=>r.dc λbg aT x R e vx k=>k.elim λl k=>k.elim λes k=>by
 obtain⟨rfl,hl,q⟩:=k;obtain⟨rfl,_⟩:=vx;have al:=R.md hl
 have g:=R.dg hl;rw[show es.length=(R.ds hl).length from al.iI.symm]at g
 have hT:bp.TypeIs (.ref (bg.ρ l)) "dict":=⟨_,g,Y⟩;have R':aX F bg aT {bp with heap:=bp.heap.push {cls:=.type "dict_items",data:=.fields #[.ref (bg.ρ l)]}}:=R.qo λf f e=>eG _ e
 refine aN (xd ?_);refine(K6 (λf f=>Y) c.2.1 Y λpl=>AN hT Zp anN PySem.F.type_dict_items (λb e=>by cases e;exact⟨_,g,Y⟩)
  (yZ (λf f=>Y) (C6 ⟨lO _ _,oo anN hT PySem.F.entry_dict_items (acP (R.qj T.aF (R.dm hl)) g (acQ ⟨_,jY _ Y,Y,Y⟩ (eG _ g) ?_)) (PySem.F.args_dict_items_1 _)⟩)))
 have ae:=R'.Lh (o:=Ei (bg.ρ l) 0 (es.map (·.1)).length .none .none) (tk:=bp.toks) Y;rw[show(R.ds hl).length=(es.map (·.1)).length by rw[al.iI,bc]]
 exact oK.dy e ⟨_,aT,_,_,_,_,Y,ae.1,ae.2,ac5,⟨⟨nH hl,Y⟩,_,_,.head _⟩,λp m e=>dq _ (bK.mp e▸eJ (R'.aC.aF p m).1),q⟩))
end
def ade{env:kP}{R:Dq->bL->Prop} {target it body orelse}{ah:Nat->ue->bL->Prop}(I:Nat->bL->Prop)
 (hz:∀n s,(ah n .next s\/ah n .cont s->∃m,m<n/\I m s)/\(ah n .brk s->R (.ok .next) s)/\∀v,ah n (.ret v) s->R (.ok (.ret v)) s)
 (turn:∀n s,I n s->wpAny Md A (AZ it) (λr bp=>(r=U/\wpAny Md A (execs orelse env) (λf dW=>R (.ok f) dW) br bp)\/∃v,r=M v/\wpAny Md A (JB target it v) (λa b6=>wpAny Md A (JZ target env v) (λa b6=>wpAny Md A (execs body env) (ah n) br b6) br b6) br bp) br s)
 (n:Nat)(s:bL)(h:I n s):ry Md A (.forLoop target it body orelse env) R s:=by
 refine codeAny_loop' Y I (λn s hI=>?_) n h;refine wpAny_noted ?_;unfold forTurn;refine aN (xd (aN (wpAny_onRaise (jC (turn n s hI) (λr bp h₁=>?_) λa a h'=>h'.elim))));rcases h₁ with⟨rfl,h₁⟩|⟨v,rfl,h₁⟩
 .exact bw (.inr ⟨Y,codeAny_block (jC h₁ (λa a x=>x) λa a x=>x.elim)⟩)
 .refine aN (jC h₁ (λa b6 h₁=>?_) λa a h'=>h'.elim);refine aN (jC h₁ (λa b6 lL=>aN (jC lL (λf dW ux=>?_) λa a h'=>h'.elim)) λa a h'=>h'.elim);cases f with
  |next=>exact bw (.inl ⟨Y,(hz n dW).1 (.inl ux)⟩)
  |cont=>exact bw (.inl ⟨Y,(hz n dW).1 (.inr ux)⟩)
  |brk=>exact bw ((hz n dW).2.1 ux)
  |ret v=>exact bw ((hz n dW).2.2 v ux)
def Tg.cH(t:Tg):Bool:=Tg.rec (λa=>Z) (λa=>O) t
def Tg.adf{sc:fh}{t:Tg}{tg:cj}(c:um sc t tg)(h:t.cH=O):∃x y z,tg=.Tuple x y z:=by
 cases t with
 |v i=>cases h
 |a is=>exact cQ c λl c=>c.elim λk c=>c.elim λp c=>⟨l,k,p,c.1⟩
variable{Q:QF} {t:Tg} {it b:Sx}
section
variable{o:Sx}
def Ext.yJ{J:List aY}(e:Ext F.cH W h W' K.h)(n:∀p∈W.n,p.1∉J):Ext F.cH W h ⟨W'.bY,W'.n.filter λp=>decide (p.1∉J)⟩ K.h:=e.Lj n λp m q=>lZ.mpr ⟨m,az q⟩
def jH.on{b:Bool}{it:aY}{J:List aY}{I:Nat->Wd->(Loc->Prop)->Prop}{bk:AS}(ai:jH b it J I S)(R:aX F W K s)(h:I i W (aZ K.h))(e:Ext F.cH W K.h W' bk.h):I i W' (aZ bk.h):=
 ai.aK _ _ _ _ _ h (e.tu R.aC.aC R.nx) λp m q=>(ai.aC _ _ _ h p.1 q).elim λo k=>k.elim λvs k=>have e':=R.lM k.1 m;e.aF p m (R.SP m (aj e' k.2)) (R.acv m (aj e' k.2))
def Tj(F:Fm)(W:Wd)(h:Hp)(It:Nat->Wd->(Loc->Prop)->Prop)(I:Nat->QA)(N m:Nat)(s':bL):Prop:=∃i W' bk,m+i=N/\aX F W' bk s'/\Ext F.cH W h W' bk.h/\It i W' (aZ bk.h)/\I i bk
def Ek(F:Fm)(W:Wd)(h:Hp)(It:Nat->Wd->(Loc->Prop)->Prop)(I:Nat->QA)(Q:QF)(N m:Nat)(f:ue)(s':bL):Prop:=∃(i:Nat)(kY:Wd)(Bz:AS),i<N/\m+i=N/\Ext F.cH W h kY Bz.h/\(∀W' bk,aX F W' bk s'->Ext F.cH kY Bz.h W' bk.h->It (i+1) W' (aZ bk.h))/\PG vX F kY Bz.h (Fw.lp (I (i+1)) Q) f s'
def Ek.go{It:Nat->Wd->(Loc->Prop)->Prop}{I:Nat->QA}{N:Nat}{g:ue}(hg:g=Qu\/g=.cont)(z:Ek F W h It I Q N m g s'):∃m',m'<m/\Tj F W h It I N m' s':=by
 refine qH z λi kY Bz hW=>sC hW λlt em e k hW=>qH hW λW' bk w hW=>uf hW λR' e' fl q=>?_;have El:m=m-1+1:=(PM (yo λz=>dq N (by rw[z,ro]at em;exact em▸lt))).symm
 refine⟨m-1,Jr (i7 _) El.symm,i+1,W',bk,?_,R',e.dy e',k W' bk R' e',?_⟩
 .rw[<-rj,w9,<-El,em]
 .cases w with
  |n=>exact q
  |c=>exact q
  |b=>exact hg.elim (λw=>yC (w.symm.trans fl) Y) λw=>yC (w.symm.trans fl) rfl
  |r x=>exact cQ fl λv fl=>hg.elim (λw=>yC (w.symm.trans fl.1) Y) λw=>yC (w.symm.trans fl.1) Y
def nU(h:WI n t.cH it (λS aT=>∃(I:Nat->QA)(N:Nat),I 0 aT/\∀i K,I i K->(S i K.h U/\WB n o Q K)\/∃v,S i K.h (M v)/\i<N/\xM t v (λbk=>WB n b (Fw.lp (I (i+1)) Q) bk) K) K):WS n (.f t it b o) Q K:=λF A W s x T f c=>c.elim λtg c=>c.elim λLw c=>c.elim λb' c=>c.elim λo' c=>c.elim λp c=>lP c.1<|
 have h:=h F A W s Lw T c.2.2.1
 wpAny_For (wm h.2 (λx bp h=>wm h (λv b6 p=>p.elim λbg p=>p.elim λaT p=>p.elim λa p=>p.elim λJ p=>p.elim λIt p=>p.elim λS p=>by
  obtain⟨rfl,iU,gw,ai,i0,nJ,I,N,j0,st⟩:=p;refine ade (ah:=Ek F W K.h It I Q N) (Tj F W K.h It I N) (λm s'=>⟨λz=>z.elim (Ek.go (.inl Y)) (Ek.go (.inr Y)),λz=>?_,λv z=>?_⟩) (λm s' inv=>?_) N b6 ⟨0,bg,aT,Y,iU,gw,i0,j0⟩
  .refine qH z λi kY Bz hW=>sC hW λlt em e k hW=>qH hW λW' bk w hW=>uf hW λR' e' fl q=>?_;cases w with
   |b=>exact⟨W',bk,.n,R',e.dy e',Y,q⟩
   |r x=>exact cQ fl λv fl=>yC fl.1 rfl
   |_=>exact yC fl Y
  .refine qH z λi kY Bz hW=>sC hW λlt em e k hW=>qH hW λW' bk w hW=>uf hW λR' e' fl q=>?_;cases w with
   |r x=>exact⟨W',bk,.r x,R',e.dy e',fl,q⟩
   |_=>exact yC fl Y
  .refine qH inv λi dt cK hW=>sC hW λem eN fc k₂ adg=>?_;rcases st i cK adg with⟨sn,wb⟩|⟨v,sv,lt,tw⟩
   .refine wm (ai.aI F A n dt cK s' i ⟨T.aF,eN⟩ k₂ sn) λr dW d=>.inl ⟨d.1,d.2.elim λh' d=>?_⟩;have nS:=eN.SQ (tk:=s'.toks) (ai.aC _ _ _ k₂) d.2
    exact ak d.1 (wm (wb F A _ _ o' ⟨T.aF,nS⟩ f c.2.2.2.2) λg uy p=>p.dy (fc.yJ nJ))
   .refine wm (ai.aF F A n dt cK s' i v tg ⟨T.aF,eN⟩ k₂ sv (Tg.adf c.2.1)) λr dW d=>.inr (d.elim λu d=>⟨u,d.1,wm d.2 λj uy d=>d.elim λnw d=>?_⟩);refine wm (Lf ⟨T.aF,d.1⟩ f.aC c.2.1 (.inl f.aF) d.2.2.2 tw) λj BA p=>p.dc λHr y5 j Hs Ht j w=>?_;have adh:=ai.on d.1 d.2.2.1 Ht
    exact wm (w F A Hr BA b' ⟨T.aF,Hs⟩ f c.2.2.2.1) λg adi p=>⟨i,Hr,y5,lt,em,(Ext.Lj fc nJ d.2.1).dy Ht,λW' bk R' e'=>ai.on Hs adh e',p⟩))) h.1
end
noncomputable def Fm.Lx(F:Fm)(scope:fh)(cl:List (aP×aY))(g:fL)(c:aY):Fm:=
 {h₀:=g,L:=c,q:=F.q,b:=ie F.b scope,fo:=U,cd:=F.cd,l:=cl,f:=F.f,g:=F.g}
noncomputable def mN(m:Mp)(du:List (Option Nat)):Mp:=λj=>(du[j]?).bind λr=>r.bind m
def j8(sc scope:fh)(du:List (Option Nat)):Prop:=(scope.kind=.function)/\(scope.names.map (·.1)).Nodup/\(ie sc scope).names.map (·.1)=scope.names.map (·.1)/\(∀p∈scope.names,p.2≠.cell)/\(∀p∈scope.names,p.2=.local->scope.names.lookup p.1=M .local)/\(∀p∈scope.names,p.2=.free->sc.names.lookup p.1=M .cell)/\(∀j i,du[j]?=M (M i)->dh (ie sc scope) j=dh sc i/\((ie sc scope).names.lookup (dh sc i)=M .cell\/(ie sc scope).names.lookup (dh sc i)=M .free)/\(dh sc i,aoB)∈scope.names/\sc.names.lookup (dh sc i)=M .cell)/\∀p∈(ie sc scope).names,p.2=.cell->(p.1,aoB)∈scope.names/\sc.names.lookup p.1=M .cell
section
variable{sc scope:fh} {du:List (Option Nat)} (hh:j8 sc scope du)
def j8.aF:=hh.1
def j8.aO:=hh.2.1
def j8.aK:=hh.2.2.1
def j8.aI:=hh.2.2.2.1
def j8.bb:=hh.2.2.2.2.1
def j8.bz:=hh.2.2.2.2.2.1
def j8.aC:=hh.2.2.2.2.2.2.1
def j8.cC:=hh.2.2.2.2.2.2.2
end
def Ly [BEq α] [LawfulBEq α]{a b:α}{c:Bool}(h:(a !=b||c)=O)(e:a=b):c=O:=(yn.mp h).resolve_left λw=>bne_iff_ne.mp w e
def j8.of{sc scope:fh}{du:List (Option Nat)}(h:DN sc scope du=O):j8 sc scope du:=by
 have h:=dS.mp h;have k:=dS.mp h.2
 have k1:=dS.mp k.1;have k2:=dS.mp k.2
 have k3:=dS.mp k2.2;have al:=λp hp=>dS.mp (lI.mp k2.1 p hp)
 refine⟨bq h.1,aB k1.1,bq k1.2,λp hp=>bne_iff_ne.mp (dS.mp (al p hp).1).1,λp hp e=>bq (Ly (dS.mp (al p hp).1).2 e),λp hp e=>bq (Ly (al p hp).2 e),λj i e=>?_,λp hp e=>?_⟩
 .have q:=dS.mp (lI.mp k3.1 (M i,j) (CM.mpr e));have q2:=dS.mp q.2
  have q3:=dS.mp q2.2;exact⟨bq q.1,(yn.mp q2.1).imp bq bq,gj.mp q3.1,bq q3.2⟩
 .have q:=dS.mp (Ly (lI.mp k3.2 p hp) e);exact⟨gj.mp q.1,bq q.2⟩
def mem_lookup{l:List (aP×xj)}{x:aP}{k:xj}(h:l.lookup x=M k):(x,k)∈l:=by
 induction l with
 |nil=>cases h
 |cons p r ih=>
  rw[su]at h;cases e:x==p.1 with
  |true=>rw[e]at h;rw[bq e,<-bF h];exact .head _
  |false=>rw[e]at h;exact .tail _ (ih h)
def Lz{sc:fh}(h:(sc.names.map (·.1)).Nodup)(i j:Nat)(e:dh sc i=dh sc j)(ne:dh sc i≠dC):i=j:=by
 have key:∀i,dh sc i≠dC->(sc.names.map (·.1))[i]?=M (dh sc i):=λi ne=>by
  unfold dh at ne⊢;rw[gX];cases hi:sc.names[i]? with
  |none=>rw[hi]at ne;exact ax Y ne
  |some p=>rfl
 have h1:=key i ne;exact(ua (cG.mp h1).1 h).mp (h1.trans (ak e (key j (aj e ne)).symm))
def adj{env:kP}(l:List (aP×xj)):∀(cs:List (aP×aY)),(∀p∈l,p.2=.free->∃a,env.cells.lookup p.1=M a)->(∀x a,cs.lookup x=M a->env.cells.lookup x=M a)->
 ∃cl,(forIn l cs (λ(p:aP×xj) r=>if(p.2==.free)=O then(cellOf env p.1>>=λa=>pure (Ju ((p.1,a)::r)))else pure (Ju r)):hU (List (aP×aY)))=pure cl/\
  (∀x a,cl.lookup x=M a->env.cells.lookup x=M a)/\(∀p∈l,p.2=.free->cl.lookup p.1=env.cells.lookup p.1)/\∀x a,cs.lookup x=M a->cl.lookup x=M a:=by
 induction l with
 |nil=>exactλcs c h2=>⟨cs,Y,h2,(λc h=>bA h),λc c h=>h⟩
 |cons p r ih=>
  intro cs h1 h2;rw[aoX];by_cases hk:p.2=.free
  .refine oE (h1 p (.head _) hk) λa ha=>?_;have hd:∀x b,((p.1,a)::cs).lookup x=M b->env.cells.lookup x=M b:=λx b e=>by
    rw[su]at e;cases hx:x==p.1 with
    |true=>rw[hx]at e;rw[bq hx,ha];exact e
    |false=>rw[hx]at e;exact h2 x b e
   have ca:cellOf env p.1=pure a:=by unfold cellOf;rw[ha]
   refine pB (ih ((p.1,a)::cs) (λp hp=>h1 p (.tail _ hp)) hd) λcl c1 c2 c3 c4=>?_;refine⟨cl,?_,c2,λq hq e=>(cU.mp hq).elim (λw=>?_) λw=>c3 q w e,λx b e=>c4 x b ?_⟩
   .rw[aw (beq_iff_eq.mpr hk),ca];exact c1
   .rw[w,c4 p.1 a (by rw[su,beq_self_eq_true]),ha]
   .rw[su];cases hx:x==p.1 with
    |true=>rw[<-ha,<-bq hx];exact h2 x b e
    |false=>exact e
  .refine pB (ih cs (λp hp=>h1 p (.tail _ hp)) h2) λcl c1 c2 c3 c4=>?_;refine⟨cl,?_,c2,λq hq e=>(cU.mp hq).elim (λw=>ax (aj w e) hk) λw=>c3 q w e,c4⟩;rw[au λw=>hk (bq w)];exact c1
variable{bk:AS} {scope:fh} {du:List (Option Nat)} {J:List aY}
section
variable{cl:List (aP×aY)} {tk:Nat}
def Tl(R:aX F W K s)(r:j8 F.b scope du):∃cl,closureFor scope F.bV=pure cl/\(∀x a,cl.lookup x=M a->F.l.lookup x=M a)/\∀p∈scope.names,p.2=.free->cl.lookup p.1=F.l.lookup p.1:=
 (adj scope.names [] (λp hp e=>(R.aI p.1 (r.bz p hp e)).elim λa q=>q.elim λd q=>q.elim λd q=>⟨a,q.1⟩) λx a e=>cW e).elim λcl c=>⟨cl,by unfold closureFor;refine Eq.trans (aq (·>>=λr=>pure r) c.1) Y,c.2.1,c.2.2.1⟩
def LC(R:aX F W K s):∀b o,F.h₀.get? b=M o->(qE s.heap (W.n.map (·.1))).get? b=M o:=λb o e=>
 C9 _ (R.fr.keep b o e) λq=>(bX.mp q).elim λp hp=>hV (e.symm.trans (aj hp.2 (R.aC.aF p hp.1).2.2))
noncomputable abbrev Fm.rF(F:Fm)(W:Wd)(s:bL)(scope:fh)(cl:List (aP×aY)):Fm:=F.Lx scope cl (qE s.heap (W.n.map (·.1))) s.heap.objs.size
def adk(R:aX F W K s)(r:j8 F.b scope du)(c2:∀x a,cl.lookup x=M a->F.l.lookup x=M a)(c3:∀p∈scope.names,p.2=.free->cl.lookup p.1=F.l.lookup p.1){fr:bC}
 (ns:H'.Ns s.heap.objs.size (λc=>U))(sb:qa s.heap.objs.size (s.heap.push fr) H'):aX (F.rF W s scope cl) W ⟨mN K.m du,K.h,K.t⟩ {s with heap:=H',toks:=tk}:=by
 have old:∀b o,s.heap.get? b=M o->H'.get? b=M o:=λb o e=>(sb.2 b (gZ (eJ e))).trans (eG _ e);have st:=LC R
 refine⟨⟨λp hp=>⟨old _ _ (R.aC.aF p hp).1,gZ (eJ (R.aC.aF p hp).1),Qp _ (gW hp)⟩,R.aC.aC,R.aC.aK,R.aC.aI.keeps st,R.aC.aO.keeps old,R.aC.cC,R.aC.bz,R.aC.bb.keeps st⟩,
  ⟨_,⟨ns,λb o e=>old b o (Qv _ e),gy (Qo _ _)⟩,λj x e=>?_⟩,λy hy=>?_,λy y' a e e'=>R.aK y y' a (c2 _ _ e) (c2 _ _ e'),λp hp=>(bA hp)⟩
 .refine bT (CU.mp e) λq hq e=>?_;obtain⟨i,rfl,e⟩:=CU.mp e;have z:=r.aC j i hq
  refine(R.lo i x e).elim λv vh=>⟨v,.inr ?_,vh.2⟩;show(apQ _ (dh (ie F.b scope) j)=M .cell\/apQ _ (dh (ie F.b scope) j)=M .free)/\∃a o,cl.lookup (dh (ie F.b scope) j)=M a/\_;rw[z.1,c3 _ z.2.2.1 Y];exact⟨z.2.1,vh.1.elim (λk=>A2 ((k.1).symm.trans z.2.2.2) Y) λk=>k.2⟩
 .have z:=r.cC (y,.cell) (mem_lookup hy) Y;exact(R.aI y z.2).elim λa q=>q.elim λo q=>q.elim λv q=>⟨a,o,v,(c3 _ z.1 Y).trans q.1,q.2⟩
def adl(R:aX F W K s)(i4:nR F A n)(hk:scope.kind=.function):nR (F.rF W s scope cl) A 0:=
 have st:=LC R
 ⟨λh=>ax h (dq 0),hk,aV (mI ..) i4.aK,i4.un,i4.aC,i4.aI.elim λp t=>t.elim λl t=>t.elim λmg t=>t.elim λmb t=>⟨p,l,mg,mb,t.keeps st⟩,i4.aO.elim λo q=>⟨o,st _ _ q⟩,i4.bb⟩
def Sv(W:Wd)(h:Hp)(W':Wd)(h':Hp):Prop:=Tu W W' (aZ h) (aZ h')/\(∀a o,(a,o)∈W.n->(∀vs,¬kD o vs)->¬j6 W h a->(a,o)∈W'.n)/\∀a o,(a,o)∈W.n->(∀vs,¬kD o vs)->¬j6 W h a->¬j6 W' h' a
section
variable{h':Hp} (hh:Sv W h W' h')
def Sv.aC:=hh.1
def Sv.aI:=hh.2.1
def Sv.aF:=hh.2.2
end
def Tu.dy{Tn To:Loc->Prop}(a:Tu W bg D Tn)(b:Tu bg dt Tn To):Tu W dt D To:=
 ⟨λl d=>⟨(b.aC l (a.aC l d).1).1,(b.aC l (a.aC l d).1).2.trans (a.aC l d).2⟩,λx vs m=>b.aF x vs (a.aF x vs m)⟩
def Sv.refl:Sv W h W h:=⟨⟨λl d=>⟨d,Y⟩,λa a m=>m⟩,λa a m a a=>m,λa a a a n=>n⟩
def Sv.dy(a:Sv W h bg h₁)(b:Sv bg h₁ dt lL):Sv W h dt lL:=⟨a.aC.dy b.aC,λx o m c n=>b.aI x o (a.aI x o m c n) c (a.aF x o m c n),λx o m c n=>b.aF x o (a.aI x o m c n) c (a.aF x o m c n)⟩
def Tp(hf:F.fo=U)(ho:F.o=[])(a:aY):¬F.cH a:=λw=>w.elim (λq=>q.elim λb q=>q.2.2 hf) λq=>by rw[ho]at q;cases q
def Ext.sv(R:aX F W K s)(hf:F.fo=U)(ho:F.o=[])(e:Ext F.cH W K.h W' bk.h):Sv W K.h W' bk.h:=⟨e.tu R.aC.aC R.nx,λa o m c n=>e.aF _ m n (Tp hf ho _),λa o m c n=>e.nN m n⟩
def Tq{oJ:List (aY×bC)}(R:aX F W K s)(hJ:∀a∈J,∃o vs,(a,o)∈W.n/\kD o vs)(k:∀p∈W.n,p.1∉J->p∈oJ):Sv W K.h ⟨W.bY,oJ⟩ K.h:=
 have nJ:∀a o,(a,o)∈W.n->(∀vs,¬kD o vs)->a∉J:=λa o m c q=>(hJ a q).elim λo' r=>r.elim λvs r=>c vs (aj (R.lM r.1 m) r.2)
 ⟨⟨λl d=>⟨d,Y⟩,λa vs m=>k _ m (nJ _ _ m λvs f=>j5 f.1 Y)⟩,λa o m c n=>k _ m (nJ _ _ m c),λa o m c n=>n⟩
def Ts{o:bC}(h:(∃v,o.data=.cell v)\/∃es ep,o.data=.dict es ep)(vs:Array aS):¬kD o vs:=λf=>h.elim (λq=>q.elim λv q=>j5 (f.1.symm.trans q) Y) λq=>q.elim λes q=>q.elim λep q=>j5 (f.1.symm.trans q) Y
def aX.Em(R:aX F W K s)(v:Sv W K.h W' h):∀a o,(a,o)∈W.n->((∃v,o.data=.cell v)\/a∈F.o.map (·.1))->(a,o)∈W'.n/\¬j6 W' h a:=λa o m q=>
 have w:(∀vs,¬kD o vs)/\¬j6 W K.h a:=q.elim (λq=>⟨Ts (.inl q),q.elim λv q=>R.aC.aC.nN m λf=>f.2.1 v q⟩) λq=>⟨Ts (.inr (R.xy m q).1),(R.xy m q).2⟩
 ⟨v.aI a o m w.1 w.2,v.aF a o m w.1 w.2⟩
def adm(R:aX F W K s)(R':aX (F.rF W s scope cl) W' bk s')(v:Sv W K.h W' bk.h)(sb:qa s.heap.objs.size s'.heap H'):aX F W' ⟨K.m,bk.h,bk.t⟩ {s' with heap:=H',toks:=tk}:=by
 have st:=LC R;have nL:=λq=>(bX.mp q).elim λp hp=>(R.aC.aF p hp.1).2.1 hp.2
 refine qH R.fr.ns λoL es ep hW=>oA hW λhL BC=>?_;have Tt:=C9 _ hL nL
 have keep:∀b o,(qE s.heap (W.n.map (·.1))).get? b=M o->H'.get? b=M o:=λb o e=>(sb.2 b (gZ (by have:=eJ e;rwa [Qo]at this))).trans (R'.fr.keep b o e)
 have ft:Fr F.h₀ F.L H' R.mm:=⟨⟨oL,es,ep,keep _ _ Tt,BC⟩,λb o e=>keep b o (st b o e),R.fr.above⟩;refine⟨⟨λp hp=>?_,R'.aC.aC,R'.aC.aK,R.aC.aI,R.aC.aI.keeps ft.keep,R'.aC.cC,R'.aC.bz,R.aC.bb⟩,⟨R.mm,ft,λi x q=>(R.lo i x q).elim λu w=>⟨u,w.1.imp id λw=>⟨w.1,w.2.elim λa w=>w.elim λo w=>⟨a,o,w.1,w.2.1.imp (λm=>(R.Em v a o m (.inl ⟨_,w.2.2⟩)).1) id,w.2.2⟩⟩,w.2.bU v.aC⟩⟩,
  λy hy=>(R.aI y hy).elim λa q=>q.elim λo q=>q.elim λu q=>⟨a,o,u,q.1,(R.Em v a o q.2.1 (.inl ⟨u,q.2.2⟩)).1,q.2.2⟩,R.aK,λp hp=>have k:=R.aF p hp;⟨k.1,k.2.1.elim λo q=>⟨o,(R.Em v _ o q.1 (.inr (gW hp))).1,q.2⟩,k.2.1.elim λo q=>(R.Em v _ o q.1 (.inr (gW hp))).2⟩⟩
 have z:=R'.aC.aF p hp;have z3:=z.2.2
 refine⟨(sb.2 _ z.2.1).trans z.1,λq=>(cW ((q▸z3).symm.trans Tt)),?_⟩;cases q:F.h₀.get? p.1 with
 |none=>rfl
 |some o=>exact cW (z3.symm.trans (st _ _ q))
def aX.reM(R:aX F W K s)(hc:∀i x,K.m i=M x->F.bV.kindOf (dh F.b i)≠M .local)(R':aX F W' bk s')(v:Sv W K.h W' bk.h):aX F W' ⟨K.m,bk.h,bk.t⟩ s':=
 ⟨R'.aC,⟨R'.mm,R'.fr,λi x q=>(R.lo i x q).elim λu w=>⟨u,.inr (w.1.elim (λk=>ax k.1 (hc i x q)) λw=>⟨w.1,w.2.elim λa w=>w.elim λo w=>⟨a,o,w.1,w.2.1.imp (λm=>(R.Em v a o m (.inl ⟨_,w.2.2⟩)).1) id,w.2.2⟩⟩),w.2.bU v.aC⟩⟩,R'.aI,R'.aK,R'.aF⟩
def ado{m:Mp}{g:fL}{c:aY}(r:j8 F.b scope du):∀i x,mN m du i=M x->(F.Lx scope cl g c).bV.kindOf (dh (F.Lx scope cl g c).b i)≠M .local:=λj x e w=>by
 refine bT (CU.mp e) λq hq e=>?_;obtain⟨i,rfl,e⟩:=CU.mp e;have z:=r.aC j i hq
 have w:(ie F.b scope).names.lookup (dh (ie F.b scope) j)=M .local:=w;rw[z.1]at w;exact z.2.1.elim (λk=>A2 (k.symm.trans w) Y) λk=>A2 (k.symm.trans w) Y
def adp{sc:fh}(h:DQ sc t=O):∀i∈t.is,∀x,qM sc i x=O->sc.names.lookup x=M .local:=by
 cases t with
 |v i=>exactλj hj x hx=>(Ea (bK.mp hj▸hx)).1▸bq h
 |a is=>exactλj hj x hx=>(Ea hx).1▸bq (lI.mp h j hj)
def aX.Tv{c:aY}(R:aX F W K s)(hL:c≠F.L)(h0:F.h₀.get? c=U)(hn:∀p∈W.n,p.1≠c)(sb:qa c s.heap H'):aX F W K {s with heap:=H',toks:=tk}:=
 have F':=⟨R.fr.ns.at λo e=>(sb.2 _ (Gw hL)).trans e,λb o e=>(sb.2 b λq=>hV ((q▸e).symm.trans h0)).trans (R.fr.keep b o e),R.fr.above⟩
 ⟨⟨λp hp=>⟨(sb.2 _ (hn p hp)).trans (R.aC.aF p hp).1,(R.aC.aF p hp).2⟩,R.aC.aC,R.aC.aK,R.aC.aI,R.aC.aI.keeps F'.keep,R.aC.cC,R.aC.bz,R.aC.bb⟩,⟨R.mm,F',R.lo⟩,R.aI,R.aK,R.aF⟩
end
noncomputable def Tw(ifs:List cj)(env:kP):hU Bool:=forIn ifs O λc r=>if r=O then do let ok<-JY c env (eval c env);pure (Ju ok)else pure (Ju r)
def LG(A:sA)(target:cj)(it:aS)(env:kP)(R:Dq->bL->Prop)(BD:(bL->Prop)->bL->Prop)(I:Nat->bL->Prop):Prop:=∀n s,I n s->wpAny Md A (AZ it) (λr bp=>(r=U/\R (.ok .next) bp)\/∃v,r=M v/\wpAny Md A (JB target it v) (λa b6=>wpAny Md A (JZ target env v) (λa b6=>BD (λs'=>∃m,m<n/\I m s') b6) br b6) br bp) br s
def Hu(A:sA)(elt:cj)(ifs:List cj)(acc:aS)(env:kP)(ah:bL->Prop)(s:bL):Prop:=wpAny Md A (Tw ifs env) (λok dW=>if ok=O then wpAny Md A (eval elt env) (λx uy=>wpAny Md A (call (.builtin "list.append") [acc,x]) (λa BA=>ah BA) br uy) br dW else ah dW) br s
def adq{R:Dq->bL->Prop}{env:kP}{elt target iter:cj}{ifs:List cj}{pos:iA}{it acc:aS}{I:Nat->bL->Prop}(turn:LG A target it env R (Hu A elt ifs acc env) I)(h:I n s):
 ry Md A (.compLoop (.ListComp elt [⟨target,iter,ifs,0⟩] scope pos) 0 it acc env) R s:=by
 refine codeAny_loop Y I (λn s hI=>?_) n h;refine wpAny_noted ?_;rw[compTurn_list];refine aN (xd (aN (jC (turn n s hI) (λr bp h₁=>?_) λa a h'=>h'.elim)));rcases h₁ with⟨rfl,h₁⟩|⟨v,rfl,h₁⟩
 .exact bw h₁
 .refine aN (jC h₁ (λa b6 h₁=>?_) λa a h'=>h'.elim);refine aN (jC h₁ (λa b6 lL=>aN (jC lL (λok dW ux=>?_) λa a h'=>h'.elim)) λa a h'=>h'.elim);cases ok with
  |false=>exact bw ⟨Y,ux⟩
  |true=>exact aN (aN (jC ux (λx uy SX=>aN (jC SX (λa BA SY=>bw (bw ⟨Y,SY⟩)) λa a h'=>h'.elim)) λa a h'=>h'.elim))
def CQ(o:af)(t:Tg)(du:List (Option Nat))(B:Loc->(Hp->Nat->Prop)->QA)(Q:QV)(S:Src):QA:=alloc o λa K=>∃l,a=.e l/\∃(N:Nat)(I:Nat->Hp->Nat->Prop),I 0 K.h K.t/\∀i h τ,I i h τ->(S i h U/\Q (.e l) ⟨K.m,h,τ⟩)\/∃v,S i h (M v)/\i<N/\xM t v (B l (I (i+1))) ⟨mN K.m du,h,τ⟩
def CI(F F':Fm)(bg f7:Wd)(h₁ ux:Hp)(mm:Mp)(It:Nat->Wd->(Loc->Prop)->Prop)(I:Nat->Hp->Nat->Prop)(N m:Nat)(s':bL):Prop:=∃i h τ W',m+i=N/\aX F' W' ⟨mm,h,τ⟩ s'/\Ext F.cH bg h₁ W' h/\It i W' (aZ h)/\Sv f7 ux W' h/\I i h τ
variable{f7:Wd} {aT gE:AS} {bp dW:bL} {Q:QV} {e:cj} {xv:aS} {xx:V} {use:Option (aS->hU Unit)} {BD:aS->kP->(bL->Prop)->bL->Prop} {B:Loc->(Hp->Nat->Prop)->QA}
section
variable{cl:List (aP×aY)} {o:af} {tg:cj} {ai:QE}
def Tx{F':Fm}{kY:Wd}{h₀ h':Hp}(hf:F'.fo=U)(ho:F'.o=[])(e:Ext F'.cH kY h₀ W' h'):Ext X kY h₀ W' h':=e.weaken λa w=>ax w (Tp hf ho a)
def adr{it:aY}{It:Nat->Wd->(Loc->Prop)->Prop}{I:Nat->Hp->Nat->Prop}{N:Nat}{R:Dq->bL->Prop}(r:j8 F.b scope du)(nS:aX F f7 gE dW)(i4:nR (F.rF f7 dW scope cl) A 0){uy:bL}(y6:aX (F.rF f7 dW scope cl) f7 ⟨mN gE.m du,gE.h,gE.t⟩ uy)(tl:DQ (ie F.b scope) t=O)(ct:um (ie F.b scope) t tg)(k:jH Z it J It S)(nJ:∀p∈bg.n,p.1∉J)
 (dl:aZ gE.h l)(bd:∀F' W K s ai,F'.b=ie F.b scope->St F' A 0 W K s->aZ K.h l->B l ai K->BD (.ref (W.ρ l)) F'.bV (λs'=>∃W' bk,aX F' W' bk s'/\Ext F'.cH W K.h W' bk.h/\ai bk.h bk.t) s)(mono:∀a env ah Z' s,(∀s,ah s->Z' s)->BD a env ah s->BD a env Z' s)
 (st:∀i h τ,I i h τ->(S i h U/\Q (.e l) ⟨gE.m,h,τ⟩)\/∃v,S i h (M v)/\i<N/\xM t v (B l (I (i+1))) ⟨mN gE.m du,h,τ⟩)
 (fin:∀W' h τ s',aX (F.rF f7 dW scope cl) W' ⟨mN gE.m du,h,τ⟩ s'->Sv f7 gE.h W' h->Ext F.cH bg aT.h W' h->Q (.e l) ⟨gE.m,h,τ⟩->R (.ok .next) s'):
 LG A tg (.ref it) (F.rF f7 dW scope cl).bV R (BD (.ref (f7.ρ l)) (F.rF f7 dW scope cl).bV) (CI F (F.rF f7 dW scope cl) bg f7 aT.h gE.h (mN gE.m du) It I N):=λm s' inv=>by
 refine xn inv λi h τ W' hW=>aaP hW λem R' E' i' S' j=>?_;rcases st i h τ j with⟨sn,q⟩|⟨v,sv,lt,tw⟩
 .refine wm (k.aI _ A 0 W' _ s' i ⟨i4,R'⟩ i' sn) λr dW d=>.inl ⟨d.1,d.2.elim λh' d=>?_⟩;rw[d.1];exact fin _ h τ _ (R'.SQ (k.aC _ _ _ i') d.2) (S'.dy (Tq R' (k.aC _ _ _ i') λp m q=>lZ.mpr ⟨m,az q⟩)) (E'.yJ (K:=⟨mN gE.m du,h,τ⟩) nJ) q
 .refine wm (k.aF _ A 0 W' _ s' i v tg ⟨i4,R'⟩ i' sv (λe=>b9 e)) λc BA d=>.inr (d.elim λu d=>⟨u,d.1,wm d.2 λc adi d=>d.elim λnw d=>?_⟩);refine wm (Lf ⟨i4,d.1⟩ (Lz (ak r.aK r.aO)) ct (.inr (adp tl)) d.2.2.2 tw) λc ads p=>p.dc λadt adu c LI LK c w=>?_;have adv:=S'.dy (Tq R' (k.aC _ _ _ i') d.2.1)
  have Tz:=adv.dy (LK.sv d.1 Y Y);have adw:=Ext.Lj E' nJ d.2.1
  have adx:=k.on d.1 d.2.2.1 LK;have z:=Tz.aC.aC l dl
  have b:=bd (F.rF f7 dW scope cl) adt adu ads (I (i+1)) Y ⟨i4,LI⟩ z.1 w;rw[z.2]at b;refine mono _ _ _ _ _ (λapY p=>?_) b;refine ug p λady TA adz LM q=>?_;have TB:=Tz.dy (LM.sv LI Y Y)
  have El:m=m-1+1:=(PM (yo λz=>dq N (by rw[z,ro]at em;exact em▸lt))).symm
  refine⟨m-1,Jr (i7 _) El.symm,i+1,TA.h,TA.t,ady,?_,y6.reM (ado r) adz TB,(adw.dy (Tx Y Y LK)).dy (Tx Y Y LM),k.on LI adx LM,TB,q⟩;rw[<-rj,w9,<-El,em]
def adA(T:St F A n bg aT bp)(r:j8 F.b scope du)(c2:∀x a,cl.lookup x=M a->F.l.lookup x=M a)(c3:∀p∈scope.names,p.2=.free->cl.lookup p.1=F.l.lookup p.1)(tl:DQ (ie F.b scope) t=O)(ct:um (ie F.b scope) t tg)
 {TF:hU aS}(na:∀W K s Q,aX F W K s->alloc o Q K->wpAny Md A TF (ib F W K.h Q) br s)
 (bd:∀F' W K s ai l,F'.b=ie F.b scope->St F' A 0 W K s->aZ K.h l->B l ai K->BD (.ref (W.ρ l)) F'.bV (λs'=>∃W' bk,aX F' W' bk s'/\Ext F'.cH W K.h W' bk.h/\ai bk.h bk.t) s)(mono:∀a env ah Z' s,(∀s,ah s->Z' s)->BD a env ah s->BD a env Z' s)
 (lp:∀it a env R I n s,LG A tg it env R (BD (.ref a) env) I->I n s->ry Md A (.compLoop e 0 it (.ref a) env) R s)
 (sp:∀it acc env R s,ry Md A (.compLoop e 0 it acc env) R s->wpAny Md A (vH it) (λLw s'=>ry Md A (.compLoop e 0 Lw acc env) R s') br s->ry Md A (.compStart e 0 it acc env) R s)
 (vx:VR bg (aZ aT.h) xv xx)(q:IB Z aT xx (CQ o t du B Q))
 (fin:∀acc c s'(mm:aP->Option aS) W' bk y,s'.heap.Ns c mm->aX F W' bk s'->Ext F.cH bg aT.h W' bk.h->c≠F.L->F.h₀.get? c=U->(∀p∈W'.n,p.1≠c)->VR W' (aZ bk.h) acc y->Q y bk->JQ Md A br use ai acc c (.ok .next) s'):
 wpAny Md A (vH xv) (λit b6=>wpAny Md A TF (λacc dW=>wpAny Md A (newFunctionEnv scope F.bV.globals cl [] F.bV.qual U .none (M F.bV)) (λTG uy=>
  ry Md A (.compStart e 0 it acc {TG with scope:=relabel scope F.bV}) (JQ Md A br use ai acc TG.locals) uy) br dW) br b6) br bp:=by
 refine wm (q F A n bg bp xv T vx) λitv b6 p=>p.elim λdt p=>p.elim λcK p=>p.elim λit p=>p.elim λJ p=>p.elim λIt p=>p.elim λS p=>?_;obtain⟨rfl,eN,fc,k,i0,nJ,al⟩:=p;refine wm (na dt cK b6 _ eN al) λacc dW p=>p.dc λf7 gE a nS uw va w=>?_;obtain⟨l,rfl,N,I,j0,st⟩:=w;obtain⟨rfl,dl⟩:=va;refine aoQ (λy hy=>r.aI y hy) (λy hy=>bA hy) (λh' ns sb=>?_) r.aF;have y6:aX (F.rF f7 dW scope cl) f7 ⟨mN gE.m du,gE.h,gE.t⟩ {dW with heap:=h',toks:=dW.toks+0}:=adk nS r c2 c3 ns sb
 have i4:=adl (cl:=cl) nS T.aF r.aF;have i3:=k.on eN i0 uw
 have loop:ry Md A (.compLoop e 0 (.ref it) (.ref (f7.ρ l)) (F.rF f7 dW scope cl).bV) (JQ Md A br use ai (.ref (f7.ρ l)) dW.heap.objs.size) {dW with heap:=h',toks:=dW.toks+0}:=by
  refine lp _ _ _ _ _ N _ (adr r nS i4 y6 tl ct k nJ dl (λF' W K s ai=>bd F' W K s ai l) mono st λW' h τ s' R' S' E' q=>?_) ⟨0,gE.h,gE.t,f7,Y,y6,fc.dy uw,i3,Sv.refl,j0⟩;have z:=S'.aC.aC l dl
  refine fin _ _ _ R'.mm W' ⟨gE.m,h,τ⟩ (.e l) R'.fr.ns (adm nS R' S' (aqx ..)) E' (fQ nS.fr.ns.lt) ?_ (λp hp=>(R'.aC.aF p hp).2.1) ⟨aq mJ z.2.symm,z.1⟩ q;cases q:F.h₀.get? dW.heap.objs.size with
  |none=>rfl
  |some o=>exact ax (eJ (nS.fr.keep _ _ q)) (dq _)
 exact sp _ _ _ _ _ loop (k.aO Y _ A 0 f7 _ _ 0 _ ⟨i4,y6⟩ i3 loop)
end
def WC(cs:Sx)(P:Bool->QA)(K:AS):Prop:=∀F A W s q,St F A 0 W K s->Ck cs F.b (.ts q)->wpAny Md A (Tw q F.bV) (Ks F W K.h P) br s
def LB(elt cs:Sx)(l:Loc)(ai:Hp->Nat->Prop)(K:AS):Prop:=l.1≠0/\WC cs (λb BE=>if b then WE 0 elt (λy y5=>∃ys,y5.h l=M (.l ys)/\ys.length<16777216/\ai (y5.h.aH l (.l (ys++[y]))) y5.t) BE else ai BE.h BE.t) K
variable{elt cs ek ev c:Sx} {ifs:List cj} {x y:cj} {ah Z':bL->Prop}
section
variable{ai:Hp->Nat->Prop}
def adB(q:P O K):WC .n P K:=λF A W s l T c=>ak (KY c) (wpAny_tests_nil (T.pg Y q))
def adC(h:WT 0 c P K):WC (.c c .n) P K:=λF A W s l T k=>(Sk k).elim λe k=>k.elim λq k=>ak k.1 (ak (KY k.2.2) (wpAny_tests_one (h F A W s e T k.2.1)))
def adD(hc:Ck cs F.b (.ts ifs))(he:Ck elt F.b (.e x))(T:St F A 0 W K s)(dl:aZ K.h l)(q:LB elt cs l ai K):Hu A x ifs (.ref (W.ρ l)) F.bV (λs'=>∃W' bk,aX F W' bk s'/\Ext F.cH W K.h W' bk.h/\ai bk.h bk.t) s:=
 wm (q.2 F A W s ifs T hc) (λok dW p=>p.dc λf7 gE b R e eq w=>by
  subst eq;cases ok with
  |false=>exact⟨f7,gE,R,e,w⟩
  |true=>exact wm (w F A f7 dW x ⟨T.aF,R⟩ he) (λy uy p=>p.dc λadE BE y' y6 En vy w=>w.elim λys w=>by have z:=((e.dy En).tu T.aC.aC.aC T.aC.nx).aC l dl;exact wm (D7 (Q:=λa bk=>bk=BE.aH l (.l (ys++[y'])) BE.t) q.1 w.1 w.2.1 Y F A adE uy [.ref (W.ρ l),y] ⟨T.aF,y6⟩ (.hY ⟨aq mJ z.2.symm,z.1⟩ (.hY vy .iH))).2 λa BA p=>p.dc λHr y5 a Hs Ht a k=>⟨Hr,y5,Hs,e.dy (En.dy Ht),ak k w.2.2⟩))
def adF{a:aS}{env:kP}(k:∀s,ah s->Z' s)(h:Hu A x ifs a env ah s):Hu A x ifs a env Z' s:=wm h (λok dW h=>by
 cases ok with
 |false=>exact k _ h
 |true=>exact wm h λb b h=>wm h λb s h=>k s h)
def adG{kx vx:V}{ai:QA}(T:St F A n W K s)(hl:K.h l=M (.d es))(ky:kx.cV 7=O)(hz:es.length<16777216)(vk:VR W (aZ K.h) u kx)(vv:VR W (aZ K.h) v vx)(q:ai (K.aH l (.d (cX es kx vx)) K.t)):wpAny Md A (JV (W.ρ l) u v) (uj F W K.h ai) br s:=
 Rl T.aC.th (T.aC.dg hl) (T.aC.md hl) (T.aC.sL hl) vk ky vv (T.cl (ao Y)) (by rw[kq];exact dK hz) λh' rA tk sb g al=>T.aC.Sq (x:=()) hl sb g al (Rj (T.aC.sL hl)) (Su hz) (λa a a=>trivial) q
def adH(gw:Ext F.cH W K.h bg aT.h):∀acc c s'(mm:aP->Option aS) W' bk y,s'.heap.Ns c mm->aX F W' bk s'->Ext F.cH bg aT.h W' bk.h->c≠F.L->F.h₀.get? c=U->(∀p∈W'.n,p.1≠c)->VR W' (aZ bk.h) acc y->Q y bk->JQ Md A br U (ib F W K.h Q) acc c (.ok .next) s':=
 λacc c s' mm W' bk y ns R' e hL h0 hn vy q=>⟨mm,ns,λh3 sb=>⟨W',bk,y,R'.Tv hL h0 hn sb,gw.dy e,vy,q⟩⟩
def adI{g:Comprehension}{p:iA}{v:cj}(T:St F A n W K s)(as:(g.is_async==0)=O)(ch:DN F.b scope du=O)(tl:DQ (ie F.b scope) t=O)(ci:Ck it F.b (.e g.iter))(ct:um (ie F.b scope) t g.target)(cc:Ck cs (ie F.b scope) (.ts g.ifs))(ce:Ck elt (ie F.b scope) (.e v))(nk7:nk [7] g.iter=O)
 (h:WE n it (λx aT=>IB Z aT x (CQ (.l []) t du (LB elt cs) Q)) K)
 (fin:∀(bg:Wd)(aT:AS),Ext F.cH W K.h bg aT.h->∀acc c s'(mm:aP->Option aS) W' bk y,s'.heap.Ns c mm->aX F W' bk s'->Ext F.cH bg aT.h W' bk.h->c≠F.L->F.h₀.get? c=U->(∀p∈W'.n,p.1≠c)->VR W' (aZ bk.h) acc y->Q y bk->JQ Md A br use R acc c (.ok .next) s'){pp:iA}:
 wpAny Md A (comprehension (.ListComp v [g] scope p) scope F.bV pp (newList []) (firstAsync [g]) (firstIter [g] F.bV) use) R br s:=by
 obtain⟨tg,iter,ifs,as'⟩:=g;obtain rfl:=bq as;have r:=j8.of ch
 refine fH (Tl T.aC r) λcl c1 c2 c3=>?_;refine wpAny_comprehension_free Y (λxv=>Td nk7 xv) c1 r.aF r.bb (wm (h F A W s iter T ci) λxv bp p=>p.dc λbg aT xx iU gw vx q=>?_);exact adA ⟨T.aF,iU⟩ r c2 c3 tl ct (λW K s Q R al=>GU R .iH (b7 _) al) (λF' W K s ai l e T' dl b=>adD (ak e cc) (ak e ce) T' dl b) (λa env ah Z' s=>adF) (λd d d d d d d tr i0=>adq tr i0) (λd d d d d h0 h=>codeAny_compStart_list h0 (jC h (λd d x=>x) λd d x=>x.elim)) vx q (fin bg aT gw)
def BF(h:WE n it (λx aT=>IB Z aT x (CQ (.l []) t du (LB elt cs) Q)) K):WE n (.xC elt t it cs du) Q K:=λF A W s q T c=>c.elim λv c=>c.elim λg c=>c.elim λscope c=>c.elim λp c=>gH c.1 (by rw[eval_ListComp];exact adI T c.2.1 c.2.2.1 c.2.2.2.1 c.2.2.2.2.1 c.2.2.2.2.2.1 c.2.2.2.2.2.2.1 c.2.2.2.2.2.2.2.1 c.2.2.2.2.2.2.2.2 h λbg aT e=>adH e)
end
def adK{ss:Ss}:∀{vs:List aS},bP (VR W D) vs (ss.map .s)->QL vs ss/\∀z∈ss,pZ z=O:=by
 induction ss with
 |nil=>exactλh=>ak h.oy ⟨.nil,λb m=>bA m⟩
 |cons a r ih=>exactλh=>h.kC.elim λu q=>q.elim λw q=>ak q.1 (cQ q.2.1 λt e=>ak e.1 ⟨.cons _ _ (ih q.2.2).1,lH.mpr ⟨e.2,(ih q.2.2).2⟩⟩)
def adL{ss:List Int}:∀{vs:List aS},bP (VR W D) vs (ss.map .i)->Gz vs ss:=by
 induction ss with
 |nil=>exactλh=>ak h.oy .nil
 |cons a r ih=>exactλh=>h.kC.elim λu q=>q.elim λw q=>ak q.1 (cQ q.2.1 λt e=>ak e (.cons _ _ (ih q.2.2)))
def adM{vs:List aS}{ss:Ss}(h:QL vs ss):(∀z∈ss,pZ z=O)->bP (VR W D) vs (ss.map .s):=by
 induction h with
 |nil=>exactλa=>.iH
 |cons x t h ih=>exactλk=>.hY ⟨t,Y,k _ (.head _)⟩ (ih λz hz=>k z (.tail _ hz))
def adN{vs:List aS}{ss:List Int}(h:Gz vs ss):bP (VR W D) vs (ss.map .i):=by
 induction h with
 |nil=>exact .iH
 |cons x t h ih=>exact .hY ⟨t,Y⟩ ih
def adO{bs:List Bool}:∀{vs:List aS},bP (VR W D) vs (bs.map .o)->vs=bs.map .bool:=by
 induction bs with
 |nil=>exactλh=>h.oy
 |cons a r ih=>exactλh=>h.kC.elim λu q=>q.elim λw q=>by rw[q.1,show u=.bool a from q.2.1,ih q.2.2];rfl
variable{x y:V} {js:List Int} {bs:List Bool} {z:aP} {a b:Int}
section
variable{ss:Ss}
def adP(q:Q (.i (if b<a then b else a)) K):OL n (.builtin "min") [.i a,.i b] Q K:=D6 (lO _) λF A W s v u T vx vy=>cQ vx λt e=>cQ vy λt' e'=>e▸e'▸min_two_ints T.aF.aC λh' tk hk=>⟨W,K,.i (if b<a then b else a),T.aC.qo hk,Ext.jE,by
 by_cases h:b<a
 .rw[aw h,aw h];exact⟨_,Y⟩
 .rw[au h,au h];exact⟨_,Y⟩,q⟩
def adQ(z1:z.length<=64)(z2:(ss.map (·.length)).sum+ss.length*64<=16777216)(ok:pZ (aax z ss)=O)(q:Q (.s (aax z ss)) K):OL n (.builtin "str.join") [.s z,V.cq (ss.map .s)] Q K:=D6 (lO _) λF A W s v u T vx vy=>cQ vx λt e=>e.1▸cQ (VR.lK.mp vy) λa p=>p.elim λws p=>p.1▸
 join_tupleC ⟨_,T.aC.th a ws p.2.1,Y,0,Y⟩ (adK p.2.2).1 z1 z2 λt' k'=>T.mf (x:=.s _) k' ⟨t',Y,ok⟩ q
def adR(hl:K.h l=M (.l (bs.map .o)))(q:Q (.o (bs.all id)) K):OL n (.builtin "all") [.e l] Q K:=rE (lO _) λF A W s v T vx=>vx.1▸by
 have ev:=adO (T.aC.jF hl);have g:=T.aC.iS hl
 have hL:=T.aC.pF hl;have ne:=gZ (eJ g)
 have sz:=(T.aC.pE hl).trans (bc ..);refine call_all_walk (Z6 hL ?_);refine⟨s.heap.objs.size,_,_,_,_,_,λi=>(bs[i]?).getD O,Y,Walks.list (show A.in1.handled=U from T.aF.aC) s.heap.objs.size (W.ρ l) ne (T.aC.bu hl),⟨⟨_,jY _ Y,Y,Y⟩,⟨_,eG _ g,Y,_,Y⟩⟩,λi v s' Q' E' hv h=>?_,λh' tk hk=>?_⟩
 .dsimp only at hv h;rw[<-si,ev,gX]at hv;obtain⟨b,hb,rfl⟩:=Ga.mp hv;rw[hb]at h;exact CZ h
 .have e:(bQ (T.aC.bu hl).size).all (λi=>(bs[i]?).getD O)=bs.all id:=by
   rw[sz];refine Qb.mpr (lI.trans (Iff.trans ⟨λh b hb=>?_,λh i hi=>?_⟩ lI.symm))
   .refine oE (sj hb) λi hi=>?_;have:=h i (j4.mpr (cG.mp hi).1)
    rw[hi]at this;exact this
   .rw[iO (j4.mp hi)];exact h _ (Jv _)
  exact aj e (⟨W,K,.o _,T.aC.qo λb o x=>hk b o (λm=>dq _ (bK.mp m▸eJ x)) (eG _ x),Ext.jE,Y,aj e.symm q⟩)
def adS(z:vs.length<=16777216)(q:alloc (.l vs) Q K):OL n (.type "list") [V.cq vs] Q K:=rE (Bu _) λF A W s v T vx=>cQ (VR.lK.mp vx) λa p=>p.elim λws p=>p.1▸
 call_list_seq _ (.inr Y) (T.aC.th a ws p.2.1) Y Y (λh' c' hk g'=>T.aC.Bd hk (λb o e=>eJ e) g' p.2.2 z q) (aj kq (aV (gy p.2.2.iI) z))
def aX.so(R:aX F W K s)(hl:K.h l=M (.s vs)):∃o,s.heap.get? (W.ρ l)=M o/\(W.ρ l,o)∈W.n/\yL o vs:=(R.aC.aC.aC l _ hl).2.elim λo q=>⟨o,(R.aC.aF _ q.1).1,q.1,q.2⟩
def yL.LN{o:bC}{a:aY}{h:fL}(so:yL o vs)(g:h.get? a=M o):h.SetOf (strKind pr w0) a (λz=>decide (V.s z∈vs)) vs.length:=
 so.elim λes q=>q.elim λep q=>q.elim λt q=>⟨o,es,ep,t,g,q.1,q.2.1,q.2.2.1,λk=>decide_eq_true_iff.trans (q.2.2.2.1 k),q.2.2.2.2⟩
def yL.adT{a:aY}{h:fL}{S:aP->Bool}(x:h.SetOf (strKind pr w0) a S vs.length)(e:∀k,S k=O↔V.s k∈vs):∃o,h.get? a=M o/\yL o vs:=
 cQ x λo q=>q.elim λes q=>q.elim λep q=>q.elim λt q=>⟨o,q.1,es,ep,t,q.2.1,q.2.2.1,q.2.2.2.1,λk=>(e k).symm.trans (q.2.2.2.2.1 k),q.2.2.2.2.2⟩
def TL(q:alloc (.s []) Q K):OL n (.type "set") [] Q K:=λF A W s vs T al=>⟨Bu _ _,al.oy▸call_set_0 λled=>q.elim λl q=>q.elim λt' q=>
 T.aC.GQ q.1 Rv (λb o e=>eG _ e) (λb o e=>eJ e) (jY _ Y) (λW' t m=>⟨q.1.l0,_,m,#[],0,_,⟨Y,Y,Y⟩,Y,(λe he=>bA he),λk=>⟨λh=>(bA h),λh=>h.elim λe h=>bA h.1⟩,ao Y,Y,Y⟩) q.2⟩
def setAdd(vs:Vs)(x:V):Vs:=if x∈vs then vs else vs++[x]
def adU:y∈setAdd vs x↔y∈vs\/y=x:=by
 unfold setAdd;by_cases h:x∈vs
 .rw[aw h];exact⟨.inl,λq=>q.elim id λe=>ak e h⟩
 .rw[au h,cZ,bK]
def adV(hl:K.h l=M (.s vs))(zl:vs.length<4000)(q:Q .n (K.aH l (.s (setAdd vs (.s z))) K.t)):OL n (.builtin "set.add") [.e l,.s z] Q K:=D6 (lO _) λF A W s v u T vx vy=>vx.1▸cQ vy λt e=>e.1▸(T.aC.so hl).elim λo k=>by
 have l0:=(T.aC.aC.aC.aC l _ hl).1;refine call_set_add (beq_self_eq_true z) Y (k.2.2.LN k.1) (bM zl (ao Y)) λh' sb S'=>?_;have ln:(setAdd vs (.s z)).length=if decide (V.s z∈vs)=O then vs.length else vs.length+1:=by
  unfold setAdd;by_cases h:V.s z∈vs
  .rw[aw h,aw (az h)]
  .rw[au h,au λw=>h (aB w),dY];rfl
 rw[<-ln]at S';refine(yL.adT S' λk'=>(yn.trans (Iff.trans (or_congr decide_eq_true_iff decide_eq_true_iff) ?_))).elim λo' k'=>?_
 .exact Iff.symm (adU.trans (or_congr Iff.rfl ⟨λe=>by cases e;rfl,λe=>aj e Y⟩))
 have nd:∀v,o.data≠.cell v:=λv w=>k.2.2.elim λes r=>r.elim λep r=>r.elim λt r=>j5 (r.2.1.symm.trans w) Y;exact(T.aC.Ku ⟨l0,nH hl,λw=>b9 w⟩ (λw=>ax w Rv) (λw=>w.elim λa w=>w.elim λb w=>yF (w.symm.trans hl) Y) k.2.1 nd sb k'.1 λW' t ea c m=>⟨l0,o',(show(W'.bY (l,Z),_)∈_ from ak ea m),k'.2⟩).elim λW' w=>⟨W',_,.n,w.1,w.2,Y,q⟩
def adW(hl:K.h l=M (.s vs))(q:Q (.i vs.length) K):OL n (.builtin "len") [.e l] Q K:=rE (lO _) λF A W s v T vx=>vx.1▸(T.aC.so hl).elim λo k=>k.2.2.elim λes r=>r.elim λep r=>r.elim λt r=>by refine call_len_set k.1 r.1 r.2.1 r.2.2.2.2.2.1 (aan (jB.mpr r.2.2.2.2.1) (ao Y)) ?_;exact ak r.2.2.2.2.2.2 (T.mf (x:=.i _) _ ⟨_,Y⟩ q)
def adX(hl:K.h l=M (.s vs)):GM K (.e l) "add" (.builtin "set.add"):=λF A n W s v pl T vx R q=>ak vx.1 ((T.aC.so hl).elim λo k=>k.2.2.elim λes r=>r.elim λep r=>r.elim λt r=>AN ⟨_,k.1,r.1.1⟩ PySem.F.plainAttrs_set PySem.F.slot_set_add PySem.F.type_set_add (λa e=>by cases e;exact⟨_,k.1,r.1.2.1⟩) (aj vx.1 q))
end
variable{ws:Vs} {a b:Sx}
section
variable{ss:Ss} {o:aS} {ds:List eQ}
def slice_list{lo hi:Option Int}{vl vu:aS}{sl:aY}(R:aX F W K s)(hl:K.h l=M (.l vs))(pl:IsPart vl lo)(pu:IsPart vu hi)(hs:s.heap.IsSliceOf sl vl vu .none)
 (z:vs.length<=16777216)(hw:ws=(vs.drop (lo.elim 0 (qF vs.length))).take (hi.elim vs.length (qF vs.length)-lo.elim 0 (qF vs.length)))(q:alloc (.l ws) Q K):wpAny Md A (yz (.ref (W.ρ l)) (.ref sl)) (ib F W K.h Q) br s:=by
 have al:=R.jF hl;have sz:=R.pE hl
 refine wpAny_getItem_list_slice (R.pF hl) hs pl pu .none (λe=>cW e) ?_ (by rw[kq,sz];exact z)
 have al':bP (VR W (aZ K.h)) (slicePick (R.bu hl) lo hi U).toList ws:=by rw[hw,slicePick_plain,sz];exact(al.yJ _).GK _
 have le:ws.length<=vs.length:=by rw[hw,xb,Gi];exact aV (aoU ..) (AX ..)
 exact R.Bd (λb o e=>eG _ e) (λb o e=>eJ e) (jY _ Y) al' (aV le z) q
def Hv{value:cj}{lo hi:Option cj}{p:iA}(hs:Slot s v)(h:wpAny Md A (yz v u) R br s):wpAny Md A (Ql value (.Slice lo hi U p) v u) R br s:=hs.elim λT k=>k.elim λid k=>by
 have fin:wpAny Md A (aau (.Slice lo hi U p) Z v u) (λr dW=>wpAny Md A (apO value v r>>=λa=>pure r) R br dW) br s:=
  show wpAny Md A (operate [u,v] (yz v u)) _ br s from apB (wm h λr dW h=>aN (ZJ (bw h)))
 unfold Ql;rw[aoL k.1.not_modules];exact aN (aN (yt k.1 k.2 (bw (aN fin))))
def LO{ab:aS->hU α}{g:aS->α->hU aS}{ai:QV}{Ev:hU aS}(T:St F A n W K s)(w:wpAny Md A Ev (ib F W K.h ai) br s)(k:∀v bp bg aT x,St F A n bg aT bp->Tu W bg (aZ K.h) (aZ aT.h)->VR bg (aZ aT.h) v x->ai x aT->wpAny Md A (ab v) (λi b6=>wpAny Md A (g v i) (ib F bg aT.h Q) br b6) br bp):
 wpAny Md A Ev (λv bp=>wpAny Md A (ab v) (λi b6=>wpAny Md A (g v i) (ib F W K.h Q) br b6) br bp) br s:=
 wm w λv bp p=>p.dc λbg aT x R e vx q=>wm (k v bp bg aT x ⟨T.aF,R⟩ (e.tu T.aC.aC.aC T.aC.nx) vx q) λa a w=>kS e w
def LP(R:aX F W K s)(hl:K.h l=M (.l vs)):Slot s (.ref (W.ρ l)):=⟨"list",_,⟨_,R.iS hl,Y⟩,Qa.lookup⟩
def adZ{t:aY}{us:List aS}(R:aX F W K s)(h:TupAt W t us):Slot s (.ref t):=⟨"tuple",_,⟨_,R.th t us h,Y⟩,Jf.lookup⟩
def LA(x:V)(Q:QV)(K:AS):Prop:=∃l vs,x=.e l/\K.h l=M (.l vs)/\vs.length<=16777216/\alloc (.l vs) Q K
def LL(x y:V)(Q:QV)(K:AS):Prop:=(∃l vs i,x=.e l/\y=.i i/\K.h l=M (.l vs)/\vs.length<=16777216/\alloc (.l (vs.drop (qF vs.length i))) Q K)\/∃(vs:Vs)(j:Nat),x=V.cq vs/\y=.i j/\j<=vs.length/\1<=j/\vs.length<=16777216/\Q (V.cq (vs.drop j)) K
def LU(x y:V)(Q:QV)(K:AS):Prop:=∃l vs i,x=.e l/\y=.i i/\K.h l=M (.l vs)/\vs.length<=16777216/\alloc (.l (vs.take (qF vs.length i))) Q K
def ad0(h:WE n a (λx aT=>LA x Q aT) K):WE n (.Ry a) Q K:=λF A W s q T c=>c.elim λv c=>c.elim λp c=>c.elim λp' c=>gH c.1<|Dc<|LO T (h F A W s v T c.2) λo bp bg aT x gD b vx q=>by
 obtain⟨l,vs,rfl,hl,z,al⟩:=q;obtain⟨rfl,_⟩:=vx;have R':aX F bg aT {bp with heap:=bp.heap.push {cls:=.type "slice",data:=.fields #[.none,.none,.none]}}:=gD.aC.qo λb b e=>eG _ e
 exact Qt (yp (yp (yp (Hv (LP R' hl) (slice_list R' hl .none .none (Jj ..) z (by show vs=(vs.drop 0).take (vs.length-0);rw[ao6,apv,iu]) al)))))
def Eo(h:WE n a (λx aT=>WE n b (λy cK=>LL x y Q cK) aT) K):WE n (.Be a b) Q K:=λF A W s q T c=>c.elim λv c=>c.elim λw c=>c.elim λp c=>c.elim λp' c=>gH c.1<|Dc<|LO T (h F A W s v T c.2.1) λo bp bg aT x gD d vx q=>by
 refine Qt (ZY (wm (q F A bg bp w gD c.2.2) λu b6 r=>r.dc λdt cK y eN fc vy q=>yp (yp ?_)));have R':aX F dt cK {b6 with heap:=b6.heap.push {cls:=.type "slice",data:=.fields #[u,.none,.none]}}:=eN.qo λd d e=>eG _ e
 have vx:=vx.bU (fc.tu gD.aC.aC.aC gD.aC.nx);refine kS fc (?_);rcases q with⟨l,vs,i,rfl,rfl,hl,z,al⟩|⟨vs,j,rfl,rfl,h2,h1,z,q⟩
 .obtain⟨rfl,_⟩:=vx;obtain⟨tk,rfl⟩:=vy;exact Hv (LP R' hl) (slice_list R' hl (.int i tk) .none (Jj ..) z (by show vs.drop (qF vs.length i)=(vs.drop (qF vs.length i)).take (vs.length-qF vs.length i);rw[AJ (gy (Gi ..))]) al)
 .obtain⟨t,us,rfl,ht,al⟩:=VR.lK.mp vx;obtain⟨tk,rfl⟩:=vy;have ln:=al.iI
  refine Hv (adZ R' ht) (getItem_tuple_from ⟨_,R'.th t us ht,Y,0,Y⟩ (Jj ..) (dJ Nat.zero_lt_one h1) (show j<=us.length from ak ln h2) ?_ (by rw[kq];exact aV (gy ln) z))
  have ae:=R'.Lh (o:=iJ (us.drop j)) (tk:=b6.toks) Y;exact⟨_,cK,_,ae.1,ae.2,VR.lK.mpr ⟨_,us.drop j,Y,⟨.inl (.head _),by rw[Gi];exact aV (AX ..) ht.2⟩,(al.yJ j).bU λd d=>VR.bU (ae.2.tu R'.aC.aC R'.nx)⟩,q⟩
def ad1(h:WE n a (λx aT=>WE n b (λy cK=>LU x y Q cK) aT) K):WE n (.Rz a b) Q K:=λF A W s q T c=>c.elim λv c=>c.elim λw c=>c.elim λp c=>c.elim λp' c=>gH c.1<|Dc<|LO T (h F A W s v T c.2.1) λo bp bg aT x gD d vx q=>by
 refine Qt (yp (ZY (wm (q F A bg bp w gD c.2.2) λu b6 r=>r.dc λdt cK y eN fc vy q=>yp ?_)));have R':aX F dt cK {b6 with heap:=b6.heap.push {cls:=.type "slice",data:=.fields #[.none,u,.none]}}:=eN.qo λd d e=>eG _ e
 have vx:=vx.bU (fc.tu gD.aC.aC.aC gD.aC.nx);refine kS fc (?_);obtain⟨l,vs,i,rfl,rfl,hl,z,al⟩:=q;obtain⟨rfl,_⟩:=vx;obtain⟨tk,rfl⟩:=vy;exact Hv (LP R' hl) (slice_list R' hl .none (.int i tk) (Jj ..) z (by show vs.take (qF vs.length i)=(vs.drop 0).take (qF vs.length i-0);rw[ao6,apv]) al)
def Hw(h1:K.h l=M (.l vs))(h2:K.h l'=M (.l ws))(z:vs.length+ws.length<=16777216)(q:alloc (.l (vs++ws)) Q K):O2 K (xi .Add) (.e l) (.e l') Q:=λF A n W s v u T vx vy=>by
 obtain⟨rfl,_⟩:=vx;obtain⟨rfl,_⟩:=vy;have R:=T.aC
 have sz:(R.bu h1).size+(R.bu h2).size=vs.length+ws.length:=by rw[R.pE h1,R.pE h2]
 refine concat_meets ⟨_,R.iS h1,Y⟩ ⟨_,R.iS h2,Y⟩ noFill_list_add seq_list_add PySem.F.slot_list_add PySem.F.entry_list_add (PySem.F.args_list_add_2 _ _) (aqM _ _ (R.bu h1) (R.bu h2) (R.Bc h1) (R.Bc h2) U U #[] #[] (by rw[kq,sz];exact z)) ⟨R.iS h1,R.iS h2,?_⟩
 exact R.Bd (λb o e=>eG _ e) (λb o e=>eJ e) (jY _ Y) (by rw[aon];exact(R.jF h1).xq (R.jF h2)) (by rw[dY];exact z) q
def ad2(h:z.length<=16777216)(q:Q (.i z.length) K):OL n (.builtin "len") [.s z] Q K:=rE (lO _) λF A W s v T vx=>cQ vx λt e=>ak e.1 (aqO (Gr.mpr (Ed (aV h (ao Y)))) (T.mf (x:=.i _) _ ⟨_,Y⟩ q))
def TM{m:Bool}(hl:K.h l=M (.s vs)):R2 K (ox (isin m)) (.s z) (.e l) (.o (m^^decide (V.s z∈vs))):=λF A n W s v u T vx vy=>vy.1▸cQ vx λt e=>e.1▸(T.aC.so hl).elim λo k=>by
 have kk:=show Value.isStrOf z (.str z t)=O from beq_self_eq_true z
 cases m
 .exact wpAny_inSet_of kk Y (k.2.2.LN k.1) (aj (AQ _).symm RV.oH)
 .exact wpAny_notInSet_of kk Y (k.2.2.LN k.1) (aj (Gm _).symm RV.oH)
def ad3{R:Bool->bL->Prop}(hd:(d==xh)=Z)(ho:s.heap.get? d=M (iZ ds k))(hz:ds.length<=33554432)(h:R (!ds.isEmpty) {s with toks:=s.toks+1+1}):wpAny Md A (JW (.ref d)) R E s:=by
 have hT:s.TypeIs (.ref d) "dict":=⟨_,ho,Y⟩;have Lo:((ds.length:Int)!=0)=!ds.isEmpty:=by
  cases ds with
  |nil=>rfl
  |cons a r=>exact bne_iff_ne.mpr λw=>qD _ (jT w)
 have key:wpAny Md A (runValue (.builtin "len" ⟨[.ref d],[]⟩)) (λr s'=>r=.int ds.length (s.toks+1)/\R (!ds.isEmpty) s') E s:=by refine apK (aaf entry_len ?_);rw[Zw plain_len _];exact jC (SN hd ho hz ⟨Y,h⟩) (λfin s' h'=>h'.elim λr h'=>ak h'.1 h'.2) λb b e=>Qq e
 unfold JW;refine aN (wpAny_callSpecial?_none hT noBool_dict ?_);refine aN (yt hT anY.lookup ?_);exact aN (wm key λr s' h'=>ak h'.1 (bw (ak Lo h'.2)))
def Ep(hl:K.h l=M (.d es)):Tr K (.e l) (!es.isEmpty):=λF A n W s v T vx=>vx.1▸by have ln:=(T.aC.md hl).iI;refine ad3 (T.aC.qj T.aF (T.aC.dm hl)) (T.aC.dg hl) (ak ln (T.aC.dz hl)) ⟨⟨_,Y⟩,?_⟩;cases es<;>cases e:T.aC.ds hl<;>first|rfl|(rw[e]at ln;cases ln)
def WF(n:Nat)(e:Sx)(acc:aP)(Q:QV)(K:AS):Prop:=∀F A W s l,St F A n W K s->Ck e F.b (.es l)->acc.length<=16777216->wpAny Md A (joinParts acc (QB l F.bV)) (ib F W K.h Q) br s
def FP(K:AS)(x:V)(w:aP):Prop:=∀F A n W s v,St F A n W K s->VR W (aZ K.h) v x->∀R:QE,(∀u h' tk,(∀b o,s.heap.get? b=M o->h'.get? b=M o)->R (.str w u) {s with heap:=h',toks:=tk})->wpAny Md A (convS v) (λr b6=>wpAny Md A (formatField r dC) R br b6) br s
def LR(h:z.length<=16777216):FP K (.s z) z:=λF A n W s v T vx R q=>cQ vx λt e=>e.1▸by
 have z':z.length<=yx:=by rw[kq];exact h
 exact SB.convS_str (λt' k=>apF (λLV k'=>q _ s.heap _ λa a e=>e) z') z'
def ad4{h:fL}{ss:Ss}:∀{bu:List aS},bP (VR W D) bu (ss.map .s)->∃as,aaC h bu (ss.map .str) as/\ZR (ss.map .str)<=1/\PyData.hasDictAll (ss.map .str)=Z:=by
 induction ss with
 |nil=>exactλk=>ak k.oy ⟨_,.nil,b7 _,Y⟩
 |cons a r ih=>exactλk=>k.kC.elim λu q=>q.elim λw q=>ak q.1 (cQ q.2.1 λt e=>ak e.1 ((ih q.2.2).elim λas p=>⟨_,.cons (.str _ _) p.1,Qr.mpr ⟨b7 _,p.2.1⟩,p.2.2⟩))
def ad5(hl:K.h l=M (.l (ss.map .s)))(hs:(xe (ss.map .str)).showable=O)(hz:(xe (ss.map .str)).shown.length<=16777216):FP K (.e l) (xe (ss.map .str)).shown:=λF A n W s v T vx R q=>vx.1▸by
 obtain⟨as,ra,da,hd⟩:=ad4 (T.aC.jF hl);have z':(xe (ss.map .str)).shown.length<=yx:=by rw[kq];exact hz
 refine convS_of_reads (.list (T.aC.iS hl) Y Y ra) hs (λh=>b9 (hd.symm.trans h)) T.aF.bb ?_ (λa a e=>e) (λh' u tk hk=>apF (λLV k'=>q _ h' _ hk) z') z';exact bM (gu (j3 (j3 da)) _) (T.cl (ao Y))
def TN{acc:aP}(ok:pZ acc=O)(q:Q (.s acc) K):WF n .n acc Q K:=λF A W s l T c hz=>ak (KX c) (joinParts_nil (T.mf (x:=.s acc) _ ⟨_,Y,ok⟩ q) (by rw[kq];exact hz))
def TO{acc w:aP}(hz:(acc++w).length<=16777216)(h:WF n b (acc++w) Q K):WF n (.c (.cS w) b) acc Q K:=λF A W s l T c z0=>(Bp c).elim λe c=>c.elim λr c=>ak c.1 (apS (cQ c.2.1 λk d=>d.elim λp d=>gH d.1 (ao9 ⟨by rw[kq];exact hz,wm (h F A W _ r ⟨T.aF,T.aC.qJ _⟩ c.2.2.1 hz) λa a p=>p⟩)))
def Hx{acc:aP}(h:WE n a (λx aT=>∃w,FP aT x w/\(acc++w).length<=16777216/\WF n b (acc++w) Q aT) K):WF n (.c (.l a) b) acc Q K:=λF A W s l T c z0=>(Bp c).elim λe c=>c.elim λr c=>c.1▸apS (c.2.1.elim (λd=>d.elim λv d=>cJ.no d.1 Y) λd=>d.elim (λd=>d.elim λv d=>cJ.no d.1 Y) λd=>d.elim λv d=>d.elim λp d=>by cases d.1;exact wpAny_FormattedValue_s (wm (h F A W s v T d.2) λu bp p=>p.dc λbg aT x R e vx k=>k.elim λw k=>k.1 F A n bg bp u ⟨T.aF,R⟩ vx _ λu h' tk hk=>⟨by rw[kq];exact k.2.1,kS e (k.2.2 F A bg _ r ⟨T.aF,R.qo hk⟩ c.2.2.1 k.2.1)⟩))
def TP(h:WF n a dC Q K):WE n (.Kx a) Q K:=λF A W s q T c=>c.elim λx c=>c.elim λy c=>c.elim λvs c=>c.elim λp c=>gH c.1 (JoinedStr_many (h F A W s _ T c.2 (ao Y)))
end
def ad6{ds:List eQ}{Q:Bool->bL->Prop}(g:s.heap.get? d=M (iZ ds k))(h:Q Z s):wpAny Md A (anz (.ref d)) Q E s:=by
 have hT:s.TypeIs (.ref d) "dict":=⟨_,g,Y⟩;unfold anz;refine aN (yt hT anY.lookup ?_);generalize TQ:("dict.__len__")=BG
 wp_delta
 rw[show splitId BG=M ("dict","__len__") from by subst TQ;decide+kernel]
 subst TQ;refine aN (Qf hT anV ?_);refine aae (λEr=>ax Er (ao Y)) (λa=>?_);refine aae (λa=>?_) (λEr=>ax (by decide+kernel) Er)
 exact aN (JJ hT (bw h))
def TR{ss:Ss}:∀{ds:List eQ}{es:Es},bP (DE W D) ds es->es.map (·.1)=ss.map .s->(∀e∈ds,∃z,(strKind pr w0).is z e.key=O/\e.hash=(strKind pr w0).hash z)/\Pairs (strKind pr w0) ds (ss.zip (ds.map (·.val)))/\(∀w∈ss,pZ w=O):=by
 induction ss with
 |nil=>
  exactλ{ds es} al e=>by obtain rfl:=List.map_eq_nil_iff.mp e;obtain rfl:=al.oy;exact⟨λc h=>(bA h),.nil,λc h=>bA h⟩
 |cons z r ih=>
  exactλ{ds es} al e=>by
   cases es with
   |nil=>cases e
   |cons b es=>
    obtain⟨a,rA,rfl,h,t⟩:=al.kC;have e1:b.1=.s z:=(d6 e).1
    have k:=h.aC;rw[e1]at k;refine bT k λt' kt ok=>?_;have kz:(strKind pr w0).is z a.key=O:=ak kt (beq_self_eq_true z)
    have i:=ih t (d6 e).2;exact⟨lH.mpr ⟨⟨z,kz,by rw[h.aF,e1];rfl⟩,i.1⟩,.cons kz Y i.2.1,lH.mpr ⟨ok,i.2.2⟩⟩
def TS{ds:List eQ}{h:fL}{ss:Ss}(g:h.get? d=M (iZ ds k))(al:bP (DE W D) ds es)(e:es.map (·.1)=ss.map .s)(nd:(es.map (·.1)).Nodup):
 h.DictAt (strKind pr w0) d (ss.zip (ds.map (·.val))) k/\ds.length=ss.length:=by
 have ln:ds.length=ss.length:=al.iI.trans (by have:=aq JI e;rwa [bc,bc]at this)
 have k:=TR al e;refine⟨⟨_,ds.toArray,g,⟨Y,Y,Y⟩,Y,λx hx=>k.1 x (Zy.mpr hx),k.2.1,?_⟩,ln⟩;rw[PZ (by rw[bc,ln];exact b8 _)]
 rw[e]at nd;exact(xa.mp nd).imp λh e=>h (by rw[e])
abbrev KP(W:Wd)(D:Loc->Prop):List (aS×aS)->Es->Prop:=bP λp e=>VR W D p.1 e.1/\VR W D p.2 e.2
def LW(env:kP)(pos:iA)(a:List (Option cj)):List cj->List (hU aS×hU aS):=rv (motive:=λc=>List cj->List (hU aS×hU aS)) (λc=>[]) (λk c ih b=>rv (motive:=λc=>List (hU aS×hU aS)) [] (λv r c=>(yw (motive:=λc=>hU aS) (pure .none) (λk=>eval k env) k,do let x<-eval v env;JT pos;pure x)::ih r) b) a
def Hy(n:Nat)(e:Sx)(L:Es->QA)(K:AS):Prop:=∀F A W s a b pos,St F A n W K s->Ck e F.b (.kv a b)->wpAny Md A (evalPairs (LW F.bV pos a b)) (PG KP F W K.h L) br s
def DS(l:Loc)(es:Es):Es->AS->AS:=rv (motive:=λa=>Es->AS->AS) (λa K=>K) (λe a ih acc K=>ih (cX acc e.1 e.2) (K.aH l (.d (cX acc e.1 e.2)) K.t)) es
def cJ.gC(x:cJ):List (Option cj)×List cj:=cJ.rec (motive:=λc=>List (Option cj)×List cj) (λc=>([],[])) (λc=>([],[])) (λc=>([],[])) (λc=>([],[])) (λc=>([],[])) (λc=>([],[])) (λc=>([],[])) (λa b=>(a,b)) x
variable{kk:Bool}
section
variable{L:Es->QA}
def TT(q:L [] K):Hy n .n L K:=λF A W s a b pos T c=>by have e:=c.elim (λc=>cJ.no c Y) λc=>c.elim (λc=>cJ.no c Y) λc=>c.elim (λc=>cJ.no c Y) id;obtain rfl:a=[]:=aq (λz=>(cJ.gC z).1) e;exact bw (T.pg bP.iH q)
def Hz(h:WE n a (λx aT=>WE n b (λy cK=>Hy n r (λes gE=>L ((x,y)::es) gE) cK) aT) K):Hy n (.kv a b r) L K:=λF A W s ks vs pos T c=>c.elim λke c=>c.elim λka c=>c.elim λve c=>c.elim λvb c=>by
 obtain rfl:ks=M ke::ka:=aq (λz=>(cJ.gC z).1) c.1;obtain rfl:vs=ve::vb:=aq (λz=>(cJ.gC z).2) c.1;refine aN (wm (h F A W s ke T c.2.1) λo bp p=>p.dc λbg aT x iU gw vx q=>aN (jU (aN (wm (q F A bg bp ve ⟨T.aF,iU⟩ c.2.2.1) λu b6 p=>p.dc λdt cK y eN fc vy q=>aN (xd (bw (aN (jU (wm (q F A dt b6 ka vb pos ⟨T.aF,eN⟩ c.2.2.2) λus dW p=>p.dc λf7 gE es nS uw al q=>bw ?_)))))))));have t3:=uw.tu eN.aC.aC eN.nx
 exact⟨f7,gE,(x,y)::es,nS,gw.dy (fc.dy uw),.hY ⟨(vx.bU (fc.tu iU.aC.aC iU.nx)).bU t3,vy.bU t3⟩ al,q⟩
def ad7{ai:QA}:∀{es:Es}{us:List (aS×aS)}{W:Wd}{K:AS}{s:bL}{acc:Es},St F A n W K s->KP W (aZ K.h) us es->K.h l=M (.d acc)->(∀e∈es,e.1.cV 7=O)->acc.length+es.length<=16777216->ai (DS l es acc K)->
 wpAny Md A (forIn us () λ(p:aS×aS) a=>do JV (W.ρ l) p.1 p.2;pure (Ju ())) (uj F W K.h ai) br s:=by
 intro es
 induction es with
 |nil=>intro us W K s acc T al hl hk hz q;exact ak al.oy (bw (T.pg (x:=()) trivial q))
 |cons e r ih=>
  intro us W K s acc T al hl hk hz q;obtain⟨p,us,rfl,hp,al⟩:=al.kC;rw[aoX];have z1:=dJ (an7 (fY _)) hz
  refine aN (aN (wm (adG T hl (hk e (.head _)) z1 hp.1 hp.2 Y) λa bp p=>p.dc λbg aT a iU gw a w=>bw ?_));subst w;have t:=gw.tu T.aC.aC.aC T.aC.nx
  have d:=t.aC l (nH hl);refine aj d.2 (kS gw (ih ⟨T.aF,iU⟩ (al.bU λa a z=>⟨z.1.bU t,z.2.bU t⟩) bo (λe' he=>hk e' (.tail _ he)) (aV (pW Kr _) (by rw[rj,sx 1];exact hz)) q))
def SK(e:Sx):Prop:=∀sc a b env pos,Ck e sc (.kv a b)->(evalEachOpt a env).zip ((QB b env).map λv=>do let x<-v;JT pos;pure x)=(LW env pos a b).map (λp=>(M p.1,p.2))/\(LW env pos a b).length=b.length
def ad8{sc:fh}{ka:List (Option cj)}{va:List cj}(c:Ck .n sc (.kv ka va)):ka=[]/\va=[]:=by have e:=c.elim (λc=>cJ.no c Y) λc=>c.elim (λc=>cJ.no c Y) λc=>c.elim (λc=>cJ.no c Y) id;exact⟨aq (λz=>(cJ.gC z).1) e,aq (λz=>(cJ.gC z).2) e⟩
def TU:SK .n:=λsc ka va env pos c=>by obtain⟨rfl,rfl⟩:=ad8 c;exact⟨Y,Y⟩
def HA(h:SK r):SK (.kv a b r):=λsc ks vs env pos c=>c.elim λke c=>c.elim λka c=>c.elim λve c=>c.elim λvb c=>by
 obtain rfl:ks=M ke::ka:=aq (λz=>(cJ.gC z).1) c.1;obtain rfl:vs=ve::vb:=aq (λz=>(cJ.gC z).2) c.1;have k:=h sc ka vb env pos c.2.2.2
 exact⟨aq (apT (M (eval ke env),(do let x<-eval ve env;JT pos;pure x:hU aS))) k.1,aq Gv k.2⟩
def ad9(R:aX F W K s)(h:alloc (.d []) Q K):ib F W K.h Q (.ref s.heap.objs.size) {s with heap:=s.heap.push (iZ [] 0)}:=h.elim λl q=>q.elim λt' q=>R.GQ (o:=.d []) q.1 Kt (λb o e=>eG _ e) (λb o e=>eJ e) (jY _ Y) (λW' t m=>⟨q.1.l0,[],m,.iH,gY,b7 _⟩) q.2
def TY(sk:SK (.kv a b r))(h:alloc (.d []) (λd aT=>Hy n (.kv a b r) (λes cK=>∃l,d=.e l/\cK.h l=M (.d [])/\(∀e∈es,e.1.cV 7=O)/\es.length<=16777216/\Q d (DS l es [] cK)) aT) K):WE n (.xB (.kv a b r)) Q K:=λF A W s w T c=>c.elim λka c=>c.elim λva c=>c.elim λp c=>gH c.1 (by
 have k:=sk F.b ka va F.bV p c.2.2;have z:=jo c.2.1
 refine Dt c.2.2 λke ap1 ve vb e f=>?_;rw[arm_eval_Dict];refine aN (xd ?_);rw[k.1,dictDisplay_pairs _ (λw=>by have:=k.2;rw[w]at this;exact pA (this.trans (aq (λz=>(cJ.gC z).2.length) e)) Y) (k.2▸bM z (by decide))]
 unfold subDict;refine aN (aN (wpAny_alloc (aN ?_)));obtain⟨bg,aT,d,iU,gw,vd,q⟩:=ad9 T.aC h;refine jU ?_;rw[aw (k.2▸aV z (by decide))]
 refine aN (wm (q F A bg _ ka va p ⟨T.aF,iU⟩ c.2.2) λvs b6 p=>p.dc λdt cK es eN fc al q=>jU ?_);obtain⟨l,rfl,hl,hk,hz,q⟩:=q;have e3:=(fc.tu iU.aC.aC iU.nx).aC l vd.2
 exact ak (ZZ vd.1) (e3.2▸aN (wm (ad7 ⟨T.aF,eN⟩ al hl hk (by rw[Z5,ro];exact hz) Y) λf dW p=>p.dc λf7 gE f nS En f w=>bw (bw (bw ⟨f7,gE,.e l,nS,gw.dy (fc.dy En),have z:=(En.tu eN.aC.aC eN.nx).aC l e3.1;⟨aq mJ z.2.symm,z.1⟩,w▸q⟩)))))
def mO(q:alloc (.d []) Q K):WE n (.xB .n) Q K:=λF A W s w T c=>c.elim λka c=>c.elim λva c=>c.elim λp c=>gH c.1 (by have e:=c.2.2.elim (λc=>cJ.no c Y) λc=>c.elim (λc=>cJ.no c Y) λc=>c.elim (λc=>cJ.no c Y) id;obtain rfl:ka=[]:=aq (λz=>(cJ.gC z).1) e;rw[arm_eval_Dict];exact aN (xd (abx T.aC q)))
def WO(n:Nat)(k:Bool)(e:Sx)(Q:QV)(K:AS):Prop:=∀F A W s q pos,St F A n W K s->Ck e F.b (.es q)->wpAny Md A (boolOp pos (Hg k) (QB q F.bV)) (ib F W K.h Q) br s
def TZ(h:WO n kk a Q K):WE n (.fJ kk a) Q K:=λF A W s q T c=>c.elim λvs c=>c.elim λp c=>c.elim (λc=>gH c.1 (h F A W s vs p T c.2)) λc=>cJ.no c.1 Y
def T4(h:WE n a Q K):WO n kk (.c a .n) Q K:=λF A W s l pos T c=>(Bp c).elim λe c=>c.elim λr c=>ak c.1 (ak (KX c.2.2.1) (h F A W s e T c.2.1))
def T5(h:WE n a (λx aT=>∃w,Tr aT x w/\if w=kk then WO n kk (.c b r) Q aT else Q x aT) K):WO n kk (.c a (.c b r)) Q K:=λF A W s l pos T c=>(Bp c).elim λe c=>c.elim λes c=>(Bp c.2.2.1).elim λe' d=>d.elim λdA d=>by
 obtain⟨rfl,c1,c2,_⟩:=c;obtain⟨rfl,_⟩:=d;show wpAny _ _ (do
  let v<-eval e F.bV
  JT pos
  let t<-holding [v] (JW v)
  match Hg kk,t with
  |.And,Z|.Or,O=>pure v
  |_,_=>boolOp pos (Hg kk) (QB (e'::dA) F.bV)) _ _ s
 refine aN (wm (h F A W s e T c1) λv bp p=>p.dc λbg aT x R gw vx q=>q.elim λw q=>aN (xd (aN (jU (wm (q.1 F A n bg bp v ⟨T.aF,R⟩ vx) λw' b6 p=>?_)))));obtain⟨⟨tk,rfl⟩,rfl⟩:=p;have go:=λg=>kS gw ((Eq.mp (aw g) q.2) F A bg _ _ pos ⟨T.aF,R.qJ tk⟩ c2)
 have stop:w'≠kk->ib F W K.h Q v {bp with toks:=tk}:=λg=>⟨bg,aT,x,R.qJ tk,gw,vx,Eq.mp (au g) q.2⟩
 cases kk<;>cases w'
 .exact go Y
 .exact bw (stop b9)
 .exact bw (stop b9)
 .exact go Y
def T6{a:aY}(hm:K.m i=M (.iF a))(h:WL n r (λxs aT=>OL n (.ref a) xs Q aT) K):WE n (.Ky i r) Q K:=λF A W s q T c=>c.elim λy c=>c.elim λqp c=>c.elim λvs c=>c.elim λp c=>gH c.1<|aN<|aaw (KL T c.2.1 hm λv vx=>ak (vx) (D3 c.2.2.2 T c.2.2.1 .iH h)) (G8 c.2.1).2.1
end
variable{ko:aP->Option xj} {x:aP}
def LX{a:α}{l:List (aP×α)}(n:(l.map (·.1)).Nodup)(h:(x,a)∈l):l.lookup x=M a:=by
 induction l with
 |nil=>cases h
 |cons p r ih=>
  have n:=iY.mp n;rw[su];cases e:x==p.1 with
  |true=>exact(cU.mp h).elim (λw=>aj w Y) λm=>ax (bX.mpr ⟨_,m,bq e⟩) n.1
  |false=>exact ih n.2 ((cU.mp h).resolve_left λw=>by rw[<-w,beq_self_eq_true]at e;cases e)
def ad'{l:List (aP×aS)}:∀{m:aP->Option aS},x∉l.map (·.1)->bindL ko l m x=m x:=by
 induction l with
 |nil=>exactλa=>rfl
 |cons p r ih=>
  intro m h;have h:=not_or.mp (λw=>h (cU.mpr w))
  refine(ih h.2).trans ?_;by_cases k:ko p.1=M .local
  .rw[aw k];exact au h.1
  .rw[au k]
def aea{l:List (aP×aS)}:∀{m:aP->Option aS},x∉l.map (·.1)->bindC ko l m x=m x:=by
 induction l with
 |nil=>exactλa=>rfl
 |cons p r ih=>
  intro m h;have h:=not_or.mp (λw=>h (cU.mpr w))
  refine(ih h.2).trans ?_;by_cases k:ko p.1=M .local
  .rw[aw k]
  .rw[au k];exact au h.1
def aeb(hk:ko x=M .local){l:List (aP×aS)}:∀{m:aP->Option aS},(l.map (·.1)).Nodup->(x,v)∈l->bindL ko l m x=M v:=by
 induction l with
 |nil=>exactλa h=>bA h
 |cons p r ih=>
  intro m n h;have n:=iY.mp n
  rcases cU.mp h with e|e
  .subst e;exact(ad' n.1).trans (by rw[aw hk];exact aw Y)
  .exact ih n.2 e
def aec(hk:ko x=M .cell){l:List (aP×aS)}:∀{m:aP->Option aS},(l.map (·.1)).Nodup->(x,v)∈l->bindC ko l m x=M v:=by
 induction l with
 |nil=>exactλa h=>bA h
 |cons p r ih=>
  intro m n h;have n:=iY.mp n
  rcases cU.mp h with e|e
  .subst e;exact(aea n.1).trans (by rw[au (λw=>(A2 (hk.symm.trans w) Y))];exact aw Y)
  .exact ih n.2 e
def aed(names:List (aP×xj)):∀(n:Nat)(acc:List (aP×aY)),(acc.map (·.2)).Nodup->(∀p∈acc,p.2<n)->(names.map (·.1)).Nodup->(acc.map (·.1)).Nodup->(∀x∈acc.map (·.1),x∉names.map (·.1))->
 ((pj n names acc).map (·.2)).Nodup/\(∀p∈pj n names acc,p∈acc\/n<=p.2)/\((pj n names acc).map (·.1)).Nodup/\∀x,(x,Jz)∈names\/x∈acc.map (·.1)->x∈(pj n names acc).map (·.1):=by
 induction names with
 |nil=>exactλn acc h1 a a h2 a=>⟨h1,λp hp=>.inl hp,h2,λx h=>h.elim (λq=>bA q) id⟩
 |cons p r ih=>
  intro n acc a1 a2 b1 b2 c;have b:=iY.mp b1
  unfold pj;by_cases k:(p.2==Jz)=O
  .rw[aw k];have z:=ih (n+1) ((p.1,n)::acc) (iY.mpr ⟨λq=>(bX.mp q).elim λp w=>dq _ (bM (gy (w.2.symm)) (a2 p w.1)),a1⟩) (λq hq=>(cU.mp hq).elim (λe=>ak e (i7 n)) λm=>sr (a2 q m)) b.2
    (iY.mpr ⟨λq=>c _ q (.head _),b2⟩) (λx hx q=>(cU.mp hx).elim (λe=>b.1 (aj (e) q)) λm=>c x m (.tail _ q))
   refine⟨z.1,λq hq=>(z.2.1 q hq).elim (λm=>(cU.mp m).elim (λe=>.inr (ak e (b8 _))) .inl) λm=>.inr (rh m),z.2.2.1,λx hx=>z.2.2.2 x (hx.elim (λm=>(cU.mp m).elim (λe=>.inr (aj (aq qf e) (.head _))) .inl) λm=>.inr (.tail _ m))⟩
  .rw[au k];have z:=ih n acc a1 a2 b.2 b2 λx hx q=>c x hx (.tail _ q)
   exact⟨z.1,z.2.1,z.2.2.1,λx hx=>z.2.2.2 x (hx.imp (λm=>(cU.mp m).resolve_left λe=>k (beq_iff_eq.mpr (aq JN e).symm)) id)⟩
def T7{cm:aP->Option aS}{cs:List (aP×aY)}{cells:List (aY×bC)}(h:CellsAre cm cs cells):cells.map (·.1)=cs.map (·.2)/\∀n c,(n,c)∈cs->∃o,(c,o)∈cells/\o.data=.cell (cm n):=by
 induction h with
 |nil=>exact⟨Y,λa a h=>bA h⟩
 |cons h t ih=>exact⟨aq (apT _) ih.1,λn c hm=>(cU.mp hm).elim (λe=>by cases e;exact⟨_,.head _,h⟩) λe=>(ih.2 n c e).elim λo q=>⟨o,.tail _ q.1,q.2⟩⟩
def lookup_mem{a:α}{l:List (aP×α)}(h:l.lookup x=M a):(x,a)∈l:=by
 induction l with
 |nil=>cases h
 |cons p r ih=>
  rw[su]at h;cases e:x==p.1 with
  |true=>rw[e]at h;rw[bq e,<-bF h];exact .head _
  |false=>rw[e]at h;exact .tail _ (ih h)
def Eu{l:List (aP×α)}(h:x∈l.map (·.1)):∃a,l.lookup x=M a:=by
 cases e:l.lookup x with
 |some a=>exact⟨a,Y⟩
 |none=>exact(bX.mp h).elim λp w=>bne_iff_ne.mp (an3.mp e p w.1) w.2.symm|>.elim
variable{new:List (aY×bC)} {a:aY}
noncomputable abbrev Wd.nV(W:Wd)(J:List aY):Wd:=⟨W.bY,W.n.filter λp=>decide (p.1∉J)⟩
def HR.T9(H:HR g W h)(n:∀a∈J,¬j6 W h a/\∀o vs,(a,o)∈W.n->o≠iJ vs):HR g (W.nV J) h/\Tu W (W.nV J) (aZ h) (aZ h):=
 have t:Tu W (W.nV J) (aZ h) (aZ h):=⟨λl q=>⟨q,Y⟩,λb ws mb=>lZ.mpr ⟨mb,az λe=>(n b e).2 _ ws mb Y⟩⟩
 ⟨⟨λl q e=>(H.aC l q e).bU t (λd=>Y) λb c l0 i m=>lZ.mpr ⟨m,az λj=>(n _ j).1 ⟨(l,b),⟨l0,nH e,λw=>ak e (i w)⟩,Y⟩⟩,H.aI.sublist (Jn.map _),H.aO,H.aF,H.aK⟩,t⟩
def HR.Ua(H:HR g W h)(n:∀p∈W.n,p.1≠a):¬j6 W h a:=λq=>q.elim λp q=>(H.cH q.1).elim λc m=>n _ m.1 q.2
def HR.Ub(H:HR g W h)(nd:((new++W.n).map (·.1)).Nodup):HR g ⟨W.bY,new++W.n⟩ h:=
 ⟨λl q e=>(H.aC l q e).bU (W:=W) ⟨λl d=>⟨d,Y⟩,λa a m=>dI _ m⟩ (λa=>Y) λa a a a m=>dI _ m,nd,H.aO,H.aF,H.aK⟩
def Sw(h h':Hp):Prop:=∀l,h' l=h l\/∃g g',h l=M (.fz g)/\h' l=M (.fz g')
def Sw.jE:Sw h h:=λl=>.inl Y
def Sw.qr{h':Hp}(s:Sw h h'):Sw h' h:=λl=>(s l).imp Eq.symm λq=>q.elim λg q=>q.elim λg' q=>⟨g',g,q.2,q.1⟩
def Sw.aH{g':Gx}(e:h l=M (.fz g)):Sw h (h.aH l (.fz g')):=λk=>by
 by_cases q:k=l
 .subst q;exact .inr ⟨g,g',e,bo⟩
 .exact .inl (aQ q)
def Sw.tr{h':Hp}(s:Sw h h')(p:Option af->Prop)(k:∀g g',p (M (.fz g))->p (M (.fz g')))(q:p (h l)):p (h' l):=(s l).elim (λe=>ak e q) λz=>z.elim λg z=>z.elim λg' z=>ak z.2 (k g g' (aj z.1 q))
def Sw.aZ{h':Hp}(s:Sw h h'):aZ h l->aZ h' l:=s.tr (·≠U) λa a a q=>hV q
def aee:¬iK (M (.fz g)):=λi=>i.elim λa i=>i.elim λa i=>by cases i
def aef:¬pC (M (.fz g)):=λi=>i.elim λa i=>i.elim λa i=>by cases i
def Sw.iK{h':Hp}(s:Sw h h'):iK (h l)->iK (h' l):=s.tr _ λa a q=>ax q aee
def Sw.pC{h':Hp}(s:Sw h h'):pC (h l)->pC (h' l):=s.tr _ λa a q=>ax q aef
def Sw.cH{h':Hp}{p:Loc×Bool}(s:Sw h h')(o:Own h p):Own h' p:=⟨o.1,s.aZ o.2.1,λw=>s.iK (o.2.2 w)⟩
def Sw.nN{h':Hp}(s:Sw h h')(o:j6 W h a):j6 W h' a:=o.elim λp o=>⟨p,s.cH o.1,o.2⟩
def Sw.tu{h':Hp}(s:Sw h h'):Tu W W (iB.Lean.aZ h) (iB.Lean.aZ h'):=⟨λl d=>⟨s.aZ d,Y⟩,λa a m=>m⟩
def HR.sw{h':Hp}{g':Gx}(H:HR g W h)(s:Sw h h')(hp:(∀p∈g'.p,aZ h p.1/\W.ρ p.1=p.2)/\pD h' g'):HR g' W h':=
 ⟨λl o e=>(s l).elim (λq=>(H.aC l o (q.symm.trans e)).bU s.tu (λa=>Y) λa a a a m=>m) λq=>q.elim λg q=>q.elim λg' q=>by cases q.2.symm.trans e;exact H.aC l _ q.1,H.aI,H.aO,⟨λp m=>⟨s.aZ (hp.1 p m).1,(hp.1 p m).2⟩,hp.2⟩,λp q o o' e=>H.aK p q (s.qr.cH o) (s.qr.cH o') e⟩
def Ext.sw{h' k k':Hp}(e:Ext X W h W' h')(s:Sw h k)(s':Sw h' k'):Ext X W k W' k':=
 ⟨λl d=>have z:=e.aC l (s.qr.aZ d);⟨s'.aZ z.1,λi=>s.iK (z.2.1 (s'.qr.iK i)),z.2.2⟩,λp m f=>e.aF p m λw=>f (s.nN w),e.aI,λl n d=>have z:=e.aK l (λw=>n (s.aZ w)) (s'.qr.aZ d);⟨z.1,λb o=>z.2 b (s'.qr.cH o)⟩,λl t=>s'.pC (e.aO l (s.qr.pC t))⟩
def aeg{ah X:jr}{h:fL}(hz:∀p∈ah,h.get? p.1=M p.2)(hx:X.In h):(ah++X).In h:=λa o e=>by
 rw[Jp]at e;cases q:ah.lookup a with
 |none=>rw[q]at e;exact hx a o e
 |some o'=>rw[q]at e;obtain rfl:=bF e;refine xm (an2.mp q) λl1 l2 e2 b=>?_;exact hz (a,o') (by rw[e2];exact dI _ (.head _))
structure Ew where
 q:aP
 s:fh
 f:aY
 cd:aS
 c:List (aP×aY)
noncomputable def Ew.fm(d:Ew)(g:fL)(L:aY)(os:List (aY×Data))(gx:Gx):Fm:=
 {h₀:=g,L:=L,q:=d.q++".<locals>.",b:=d.s,fo:=M d.f,cd:=d.cd,l:=d.c,f:=M L,o:=os,g:=gx}
def gI(F:Fm)(W:Wd)(h:Hp)(s:bL)(ah:List (aY×bC))(oL:bC)(g:fL)(L':aY):Prop:=s.heap.get? F.L=M oL/\(∃es ep,oL.data=.dict es ep)/\(∀p∈ah,p∈W.n)/\(∀p∈ah,¬j6 W h p.1)/\(∀p∈ah,∀vs,p.2≠iJ vs)/\(∀p∈ah,p.1∉F.o.map (·.1))/\g=qE s.heap (F.L::(W.nV (ah.map (·.1))).n.map (·.1))/\L'=s.heap.objs.size
section
variable{ah:List (aY×bC)} {oL:bC} {g:fL} {L':aY} (hh:gI F W h s ah oL g L')
def gI.aK:=hh.1
def gI.cC:=hh.2.1
def gI.aF:=hh.2.2.1
def gI.bz:=hh.2.2.2.1
def gI.aO:=hh.2.2.2.2.1
def gI.bb:=hh.2.2.2.2.2.1
def gI.aC:=hh.2.2.2.2.2.2.1
def gI.aI:=hh.2.2.2.2.2.2.2
end
variable{ah:List (aY×bC)} {Pn:List (Loc×aY)} {oL:bC} {g:fL} {L':aY} {d:Ew} {cells:List (aY×bC)}
noncomputable abbrev Wd.in(W:Wd)(cells:List (aY×bC))(L:aY)(oL:bC)(ah:List (aY×bC)):Wd:=⟨W.bY,(cells++[(L,oL)])++(W.nV (ah.map (·.1))).n⟩
noncomputable abbrev Gx.to(g:Gx)(ah:List (aY×bC))(P:List (Loc×aY)):Gx:=⟨ah++g.X,P++g.p⟩
noncomputable abbrev Fm.y7(F:Fm)(d:Ew)(g:fL)(L':aY)(oL:bC)(ah:List (aY×bC))(P:List (Loc×aY)):Fm:=d.fm g L' ((F.L,oL.data)::F.o) (F.g.to ah P)
def gI.gz(af:gI F W K.h s ah oL g L'):g.objs.size=L':=by rw[af.aC,Qo,af.aI]
def gI.Uc(af:gI F W K.h s ah oL g L'):F.L<L':=ak af.aI (eJ af.aK)
def gI.lt(af:gI F W K.h s ah oL g L')(R:aX F W K s):∀p∈W.n,p.1<L':=λp hp=>ak af.aI (eJ (R.aC.aF p hp).1)
def gI.Ud(af:gI F W K.h s ah oL g L'):∀b o,g.get? b=M o->s.heap.get? b=M o:=λb o e=>Qv _ (aj af.aC e)
def gI.st(af:gI F W K.h s ah oL g L')(R:aX F W K s):∀b o,F.h₀.get? b=M o->g.get? b=M o:=λb o e=>ak af.aC (C9 _ (R.fr.keep b o e) λq=>(cU.mp q).elim (λq=>hV (e.symm.trans (ak q (PO R.fr.above)))) λq=>(bX.mp q).elim λp hp=>hV (e.symm.trans (aj hp.2 (R.aC.aF p (lZ.mp hp.1).1).2.2)))
def gI.zg(af:gI F W K.h s ah oL g L')(R:aX F W K s):∀p∈ah,g.get? p.1=M p.2:=λp hp=>ak af.aC (C9 _ (R.aC.aF p (af.aF p hp)).1 λq=>(cU.mp q).elim (R.aC.aF p (af.aF p hp)).2.1 λq=>(bX.mp q).elim λp' jb=>aB (lZ.mp jb.1).2 (ak jb.2 (gW hp)))
def gI.gL(af:gI F W K.h s ah oL g L'):g.get? F.L=U:=ak af.aC (Qp _ (.head _))
def gI.gn(af:gI F W K.h s ah oL g L'):∀p∈(W.nV (ah.map (·.1))).n,g.get? p.1=U:=λp hp=>ak af.aC (Qp _ (.tail _ (gW hp)))
def gI.H0(af:gI F W K.h s ah oL g L')(R:aX F W K s):HR F.g (W.nV (ah.map (·.1))) K.h/\Tu W (W.nV (ah.map (·.1))) (aZ K.h) (aZ K.h):=R.aC.aC.T9 λa ha=>(bX.mp ha).elim λp hp=>aj hp.2 ⟨af.bz p hp.1,λo vs mo e=>af.aO p hp.1 vs (aj e (R.lM (af.aF p hp.1) mo))⟩
def gI.Ue(af:gI F W K.h s ah oL g L')(R:aX F W K s):Tu W (W.in cells F.L oL ah) (aZ K.h) (aZ K.h):=⟨λl d=>⟨d,Y⟩,λa vs m=>dI _ ((af.H0 R).2.aF a vs m)⟩
def Ug{hh:Hp}(af:gI F W K.h s ah oL g L')(sw:Sw K.h hh)(gk:pD hh (F.g.to ah Pn))(LY:∀p∈Pn,aZ K.h p.1/\W.ρ p.1=p.2)(R:aX F W K s)(i4:nR F A (n+1))(hk:d.s.kind=.function){h₁:fL}{tk:Nat}{mm:aP->Option aS}{m₁:Mp}
 (uz:h₁.Ns L' mm)(sU:∀b o,s.heap.get? b=M o->h₁.get? b=M o)(NC:vJ s.heap L' h₁ cells)(y8:∀p∈cells,L'+1<=p.1)(cnd:(cells.map (·.1)).Nodup)
 (vars:∀i x,m₁ i=M x->∃v,GP (F.y7 d g L' oL ah Pn) (W.in cells F.L oL ah) mm i v/\VR (W.in cells F.L oL ah) (aZ hh) v x)
 (aei:∀y,d.s.names.lookup y=M .cell->∃a o v,d.c.lookup y=M a/\(a,o)∈cells/\o.data=.cell v)(aej:∀y y' a,d.c.lookup y=M a->d.c.lookup y'=M a->y=y'):
 aX (F.y7 d g L' oL ah Pn) (W.in cells F.L oL ah) ⟨m₁,hh,K.t⟩ {s with heap:=h₁,toks:=tk}/\nR (F.y7 d g L' oL ah Pn) (A.deeper (F.y7 d g L' oL ah Pn).bV) n:=by
 have H0:=(af.H0 R).1;have st:=af.st R
 have nL:=λp hp=>(R.aC.aF p hp).2.1;have less:∀p∈(W.nV (ah.map (·.1))).n,p∈W.n:=λp m=>(lZ.mp m).1
 have Uh:∀p∈cells,∀b,b<L'->p.1≠b:=λp hp b lb e=>dq _ (dJ (jV (e▸lb) (i7 L')) (y8 p hp));have LZ:((W.in cells F.L oL ah).n.map (·.1)).Nodup:=by rw[dF,dF,t8,t8];refine⟨⟨cnd,iY.mpr ⟨(λq=>bA q),gY⟩,λx hx y hy e=>(bX.mp hx).elim λp hp=>Uh p hp.1 F.L af.Uc (hp.2.trans (e.trans (bK.mp hy)))⟩,H0.aI,λx hx y hy e=>(bX.mp hy).elim λq hq=>(cZ.mp hx).elim (λhx=>(bX.mp hx).elim λp hp=>Uh p hp.1 q.1 (af.lt R q (less q hq.1)) (hp.2.trans (e.trans hq.2.symm))) λhx=>nL q (less q hq.1) (hq.2.trans (e.symm.trans (bK.mp hx)))⟩
 have H1:=(HR.Ub H0 LZ).sw sw ⟨λp m=>(cZ.mp m).elim (LY p) (H0.aF.1 p),gk⟩;have ks:=R.aC.aI.keeps st
 have keep:=λb o e=>sU b o (af.Ud b o e);have inL:(F.L,oL)∈(W.in cells F.L oL ah).n:=dU _ (dI _ (.head _))
 have N':vJ g L' h₁ (W.in cells F.L oL ah).n:=λp hp=>(cZ.mp hp).elim (λhp=>(cZ.mp hp).elim (λhp=>have z:=NC p hp;⟨z.1,z.2.1,by
  cases q:g.get? p.1 with
  |none=>rfl
  |some o=>exact cW (z.2.2.symm.trans (af.Ud _ _ q))⟩) λhp=>ak (bK.mp hp) ⟨sU _ _ af.aK,gZ af.Uc,af.gL⟩) λhp=>⟨sU _ _ (R.aC.aF p (less p hp)).1,gZ (af.lt R p (less p hp)),af.gn p hp⟩
 refine⟨⟨⟨N',H1,λk hk=>Ge.mp λz=>sw.qr.aZ z (R.aC.aK k hk),ks,ks.keeps keep,R.aC.cC,R.aC.bz,aeg (af.zg R) (R.aC.bb.keeps st)⟩,⟨mm,⟨uz,keep,gy af.gz⟩,vars⟩,λy hy=>(aei y hy).elim λa q=>q.elim λo q=>q.elim λv q=>⟨a,o,v,q.1,dU _ (dU _ q.2.1),q.2.2⟩,aej,λp hp=>(cU.mp hp).elim (λe=>ak e ⟨af.cC,⟨oL,inL,Y⟩,λw=>R.aC.aC.Ua nL (sw.qr.nN w)⟩) λhp=>?_⟩,?_⟩
 .have z:=R.aF p hp;exact⟨z.1,z.2.1.elim λo q=>⟨o,dI _ (lZ.mpr ⟨q.1,az λw=>(bX.mp w).elim λz hz=>af.bb z hz.1 (ak (hz.2) (gW hp))⟩),q.2⟩,λw=>z.2.2 (sw.qr.nN w)⟩
 .refine fH (i4.cC (fY _)) λouter BH hA Ex=>?_;refine⟨λf=>⟨F.bV::outer,Y,an6 hA,λe he=>(cU.mp he).elim (λw=>ak w ⟨by rw[show F.bV.scope.kind=.function from i4.aF];decide,F.L,BH,.head _⟩) λhe=>⟨(Ex e he).1,(Ex e he).2.elim λa q=>⟨a,q.1,.tail _ q.2⟩⟩⟩,hk,?_,?_,i4.aC,i4.aI.elim λp t=>t.elim λl t=>t.elim λmg t=>t.elim λmb t=>⟨p,l,mg,mb,t.keeps st⟩,i4.aO.elim λo q=>⟨o,st _ _ q⟩,i4.bb⟩
  .have:=i4.aK;show A.depth+1+2*n<=600;exact aV (by rw[rj];exact gu (show 1+2*n<=2*(n+1) by rw[rq,sx];exact gu (ao Y) _) _) this
  .have:=i4.bz;rw[aoa];exact aV (by rw[rj];exact gu (show 3+10*n<=10*(n+1) by rw[rq,sx];exact gu (ao Y) _) _) this
def L0{hh:Hp}(af:gI F W K.h s ah oL g L')(R:aX F W K s)(sw:Sw K.h hh)(BJ:Sw bk.h lL)(gk:pD bk.h (F.g.to ah Pn)->pD lL F.g)(y8:∀y a,d.s.names.lookup y=M .cell->d.c.lookup y=M a->L'+1<=a)(R':aX (F.y7 d g L' oL ah Pn) W' bk s')(Bw:Ext (F.y7 d g L' oL ah Pn).cH (W.in cells F.L oL ah) hh W' bk.h):
 ∃news,aX F ⟨W'.bY,news⟩ ⟨K.m,lL,bk.t⟩ s'/\Ext F.cH W K.h ⟨W'.bY,news⟩ lL/\Tu W' ⟨W'.bY,news⟩ (aZ bk.h) (aZ lL):=by
 have e':=Bw.sw sw.qr BJ;have nL:=λp hp=>(R.aC.aF p hp).2.1
 have lt:=af.lt R;have st:=af.st R
 have zg:=af.zg R;refine xo R.fr.ns λHB ael aem hL0 Ui BC=>?_;obtain rfl:HB=oL:=bF (hL0.symm.trans af.aK);obtain⟨⟨dA,rG,L4⟩,⟨oL',Uj,L5⟩,nf'⟩:=R'.aF (F.L,HB.data) (.head _);have L6:∀p∈W.n,p.1∉ah.map (·.1)->p∈(W.in cells F.L HB ah).n:=λp m q=>dI _ (lZ.mpr ⟨m,az q⟩)
 have D:=(R'.aC.aC).T9 λa ha=>bK.mp ha▸⟨nf',λo vs mo e=>by have q:=R'.lM Uj mo;rw[q,e]at L5;exact j5 (L5.trans Ui) Y⟩
 have zk:∀p∈W'.n,p.1∉ah.map (·.1):=λp hp q=>(bX.mp q).elim λz hz=>cW ((R'.aC.aF p hp).2.2.symm.trans (aj hz.2 (zg z hz.1)));have zs:∀p,p∈W.n->p.1∈ah.map (·.1)->p∈ah:=λp hp q=>(bX.mp q).elim λz hz=>aj (ru hz.2 (R.lM (hz.2▸af.aF z hz.1) hp)) hz.1
 have nd2:(((W.n.filter λp=>decide (p.1∈ah.map (·.1)))++(W'.nV [F.L]).n).map (·.1)).Nodup:=by rw[dF,t8];exact⟨R.aC.aC.aI.sublist (Jn.map _),D.1.aI,λx hx y hy e=>(bX.mp hx).elim λp hp=>(bX.mp hy).elim λq hq=>zk q (lZ.mp hq.1).1 (aj (hp.2.trans (e.trans hq.2.symm)) (aB (lZ.mp hp.1).2))⟩
 have H3:=(HR.Ub D.1 nd2).sw BJ ⟨λp m=>D.1.aF.1 p (dI _ m),gk D.1.aF.2⟩;have L7:∀p∈W'.n,p.1≠F.L->p∈(W.n.filter λp=>decide (p.1∈ah.map (·.1)))++(W'.nV [F.L]).n:=λp m e=>dI _ (lZ.mpr ⟨m,az λq=>e (bK.mp q)⟩)
 have Uk:∀p∈W.n,p.1∈ah.map (·.1)->p∈(W.n.filter λp=>decide (p.1∈ah.map (·.1)))++(W'.nV [F.L]).n:=λp m e=>dU _ (lZ.mpr ⟨m,az e⟩);have own:∀p∈W.n,(F.y7 d g L' HB ah Pn).cH p.1->p.1∈F.o.map (·.1):=λp mp w=>w.elim (λw=>w.elim λy w=>ax (dJ (i7 L') (y8 y _ w.1 w.2.1)) (iP.mpr (dK (lt p mp)))) λz=>(cU.mp z).resolve_left (nL p mp)
 have kp:∀p∈W.n,¬j6 W K.h p.1->p.1∉F.o.map (·.1)->p∈(W.n.filter λp=>decide (p.1∈ah.map (·.1)))++(W'.nV [F.L]).n:=λp mp nf no=>by
  by_cases q:p.1∈ah.map (·.1)
  .exact Uk p mp q
  .exact L7 p (e'.aF p (L6 p mp q) nf λz=>no (own p mp z)) (nL p mp)
 have E:Ext F.cH W K.h ⟨W'.bY,(W.n.filter λp=>decide (p.1∈ah.map (·.1)))++(W'.nV [F.L]).n⟩ lL:=by
  refine⟨e'.aC,λp mp nf nx=>kp p mp nf λz=>nx (.inr z),λp mp=>?_,λl nd dd=>⟨(e'.aK l nd dd).1,λb ob p mp=>?_⟩,e'.aO⟩
  .by_cases q:p.1∈ah.map (·.1)
   .exact⟨p.2,Uk p mp q⟩
   .exact(e'.aI p (L6 p mp q)).elim λo mo=>⟨o,L7 _ mo (nL p mp)⟩
  .by_cases q:p.1∈ah.map (·.1)
   .exactλe=>(R'.aC.aC.cH (BJ.qr.cH ob)).elim λc mc=>zk _ mc.1 (ak (e) q)
   .exact(e'.aK l nd dd).2 b ob p (L6 p mp q)
 have tt:=E.tu R.aC.aC R.nx;have C':∀a o,(a,o)∈W.n->(∃v,o.data=.cell v)->(a,o)∈(W.n.filter λp=>decide (p.1∈ah.map (·.1)))++(W'.nV [F.L]).n:=λa o mo c=>kp _ mo (c.elim λv c=>R.aC.aC.nN mo λf=>f.2.1 v c) λz=>(R.xy mo z).1.elim λes q=>q.elim λep q=>c.elim λv c=>j5 (c.symm.trans q) Y
 refine⟨_,⟨⟨λp hp=>(cZ.mp hp).elim (λhp=>?_) λhp=>?_,H3,λk hk=>Ge.mp λz=>BJ.qr.aZ z (R'.aC.aK k hk),R.aC.aI,R'.aC.aO,R'.aC.cC,R'.aC.bz,R.aC.bb⟩,⟨R.mm,⟨⟨oL',ael,aem,(R'.aC.aF _ Uj).1,L5.trans Ui,BC⟩,λb o e=>R'.fr.keep b o (st b o e),R.fr.above⟩,λi x hx=>(R.lo i x hx).elim λv k=>⟨v,k.1.imp id λk=>⟨k.1,k.2.elim λb k=>k.elim λo k=>⟨b,o,k.1,k.2.1.imp (λz=>C' _ _ z ⟨_,k.2.2⟩) id,k.2.2⟩⟩,k.2.bU tt⟩⟩,
  λy hy=>(R.aI y hy).elim λa q=>q.elim λo q=>q.elim λv q=>⟨a,o,v,q.1,C' _ _ q.2.1 ⟨_,q.2.2⟩,q.2.2⟩,R.aK,λp hp=>?_⟩,E,⟨λl q=>⟨BJ.aZ q,Y⟩,λa vs m=>dI _ (D.2.aF a vs m)⟩⟩
 .have w:=lZ.mp hp;have hz:=zs p w.1 (aB w.2)
  exact⟨R'.fr.keep _ _ (zg p hz),nL p w.1,(R.aC.aF p w.1).2.2⟩
 .have w:=lZ.mp hp;have z:=R'.aC.aF p w.1
  refine⟨z.1,λq=>aB w.2 (bK.mpr q),?_⟩;cases q:F.h₀.get? p.1 with
  |none=>rfl
  |some o=>exact cW (z.2.2.symm.trans (st _ _ q))
 .have k:=R'.aF p (.tail _ hp);have k0:=R.aF p hp
  exact⟨k.1,k.2.1.elim λo q=>⟨o,L7 _ q.1 (k0.2.1.elim λo' q'=>nL (p.1,o') q'.1),q.2⟩,λw=>k.2.2 (BJ.qr.nN w)⟩
def kG(fd:QH)(fo:bC)(body:List ju)(pn:Ss)(dv:List aS)(f:aY)(k:Nat):Prop:=ai.lookup f=M fo/\(fo.data=.func fd)/\fd=fnX fd.name fd.qualname fd.params body fd.scope [] fd.defaults fd.kwdefaults fd.doc fd.pyModule fd.annotations fd.code fd.closureTuple/\codeIn ai fd.code fd.qualname=O/\J0 ai (.ref f)=O/\(∀(s:bL)(vs:List aS),ai.In s.heap->vs.length=k->BindsTo s fd ⟨vs,[]⟩ (pn.zip (vs++dv)))/\pn.length=k+dv.length/\(∀(j:Nat) x,pn[j]?=M x->fd.scope.names[j]?=M (x,.local)\/fd.scope.names[j]?=M (x,.cell))/\(fd.scope.names.map (·.1)).Nodup/\(fd.scope.kind=.function)/\fd.scope.isCoroutine=Z/\fd.scope.isGenerator=Z
section
variable{fd:QH} {fo:bC} {body:List ju} {pn:Ss} {dv:List aS} {f:aY} (hh:kG fd fo body pn dv f k)
def kG.bz:=hh.1
def kG.d9:=hh.2.1
def kG.aK:=hh.2.2.1
def kG.iL:=hh.2.2.2.1
def kG.bb:=hh.2.2.2.2.1
def kG.j9:=hh.2.2.2.2.2.1
def kG.aF:=hh.2.2.2.2.2.2.1
def kG.aO:=hh.2.2.2.2.2.2.2.1
def kG.aC:=hh.2.2.2.2.2.2.2.2.1
def kG.aI:=hh.2.2.2.2.2.2.2.2.2.1
def kG.jI:=hh.2.2.2.2.2.2.2.2.2.2.1
def kG.cC:=hh.2.2.2.2.2.2.2.2.2.2.2
end
def fE(f:aY)(k:Nat)(ast:Sx)(dx:Vs):Prop:=∃fd fo body pn dv,kG fd fo body pn dv f k/\(∀W D',bP (VR W D') dv dx)/\Ck ast fd.scope (.c body)
def bO(n:Nat)(f:aY)(xs:Vs)(Q:RQ)(h:Hp)(t:Nat):Prop:=∀m F A W s vs,St F A n W ⟨m,h,t⟩ s->bP (VR W (aZ h)) vs xs->Kp (.ref f) s.heap/\ry Md A (.call (.ref f) ⟨vs,[]⟩) (λr s'=>∃v,r=.ok (.ret v)/\ib F W h (λx bk=>bk.m=m/\Q x bk.h bk.t) v s') s
def Rt(Q:RQ)(g:Fw)(K:AS):Prop:=Fw.rec (motive:=λa=>Prop) (Q .n K.h K.t) False False (λv=>Q v K.h K.t) g
variable{prog:QK} {w:qg} {R:Dq->bL->Prop} {name qual:aP} {params:JP} {body:List ju} {dV kV doc pm y9 ct:aS} {an:Option aY} {fo:bC} {f:aY} {args:Args} {binds:List (aP×aS)}
def Ul(aer:s.heap.NoLimit)(ho:s.heap.get? f=M fo)(hd:fo.data=.func (fnX name qual params body scope [] dV kV doc pm an y9 ct))(uA:s.heap.CodeRec y9 qual)(aes:A.depth<recursionLimit)(L9:BindsTo s (fnX name qual params body scope [] dV kV doc pm an y9 ct) args binds)
 (aet:∀n,∀x∈binds,scope.names.lookup x.1=M .local\/(scope.names.lookup x.1=M .cell/\((pj n scope.names []).lookup x.1).isSome=O))(hnd:((pj 0 scope.names []).map (·.1)).Nodup)
 (h:∀h₁ tk cells,h₁.Ns s.heap.objs.size (bindL (Dr qual scope s.heap.objs.size f y9).kindOf binds λa=>U)->(∀b o,s.heap.get? b=M o->h₁.get? b=M o)->vJ s.heap s.heap.objs.size h₁ cells->CellsAre (bindC (Dr qual scope s.heap.objs.size f y9).kindOf binds λa=>U) (pj (s.heap.objs.size+1) scope.names []) cells->
  wpAny (model prog w) (A.deeper (Dr qual scope s.heap.objs.size f y9)) (execs body (Dr qual scope s.heap.objs.size f y9)) (λfl s'=>R (.ok (.ret (match fl with|.ret v=>v|_=>.none))) s') br {s with heap:=h₁,toks:=tk})
 (hco:scope.isCoroutine=Z)(aew:scope.isGenerator=Z)(hk:scope.kind=.function):ry (model prog w) A (.call (.ref f) args) R s:=by
 refine codeAny_call_function aes ho hd hco aew Y uA (L9 _ _ _ _ ?_);refine wpAny_newFunctionEnv_cells hk (aet _) λap2 he s' x=>?_;subst he;refine⟨aer.keeps x.toInCall.keep,codeAny_func ?_⟩;obtain⟨h₁,tk,rfl,_⟩:=x.done;refine bT (Cl.news (b8 _) λn c hm=>⟨x.cell n c (lookup_of_mem_nodup (aj (cellsFrom_names scope.names 0 (s.heap.objs.size+1) [] [] Y) hnd) hm),x.above n c hm⟩) λcells NC aa=>?_;exact jC (h h₁ tk cells x.toInCall.ns x.toInCall.keep NC aa) (λa a p=>p) λa a e=>e.elim
variable{fd:QH} {dv vs:List aS} {Q:RQ} {ast:Sx}
section
variable{pn:Ss} {dx:Vs}
def kG.Bb(ok:kG fd fo body pn dv f k):pn.Nodup/\∀y∈pn,fd.scope.names.lookup y=M .local\/(fd.scope.names.lookup y=M .cell/\(y,Jz)∈fd.scope.names):=by
 refine⟨?_,λy hy=>(sj hy).elim λj hj=>(ok.aO j y hj).imp (λq=>LX ok.aC (cO q)) λq=>⟨LX ok.aC (cO q),cO q⟩⟩;have key:∀i x,pn[i]?=M x->(fd.scope.names.map (·.1))[i]?=M x:=λi x e=>by rw[gX];rcases ok.aO i x e with q|q<;>rw[q]<;>rfl
 have e:pn=(fd.scope.names.map (·.1)).take pn.length:=Js λi=>by
  rw[ZH];by_cases lt:i<pn.length
  .rw[aw lt,key _ _ (iO lt),iO lt]
  .rw[au lt,aoe (iP.mp lt)]
 exact ak e ((aoC _ _).nodup ok.aC)
def kG.Um(ok:kG fd fo body pn dv f k){F':Fm}(C:∀x,(x,Jz)∈fd.scope.names\/x∈([]:List (aP×aY)).map (·.1)->x∈(pj (L'+1) fd.scope.names []).map (·.1))(Un:F'.b=fd.scope)(ecl:F'.l=pj (L'+1) fd.scope.names [])
 (cm:∀n c,(n,c)∈pj (L'+1) fd.scope.names []->∃o,(c,o)∈cells/\o.data=.cell (bindC (Dr fd.qualname fd.scope L' f fd.code).kindOf (pn.zip (vs++dv)) (λd=>U) n))(kin:∀p∈cells,p∈bg.n)(vl:vs.length=k)(al:bP (VR bg (aZ h)) (vs++dv) (xs++dx))(i:Nat)(x:V)(e:(xs++dx)[i]?=M x):
 ∃v,GP F' bg (bindL (Dr fd.qualname fd.scope L' f fd.code).kindOf (pn.zip (vs++dv)) λd=>U) i v/\VR bg (aZ h) v x:=by
 have nd:=ok.Bb;have bn:(pn.zip (vs++dv)).map (·.1)=pn:=by rw[PZ];rw[dY,vl,ok.aF];exact b8 _
 refine bT (al.nK e) λv hv vr=>?_;have Uo:i<pn.length:=by have:=(cG.mp hv).1;rw[dY,vl]at this;rw[ok.aF];exact this
 have hp:=iO Uo;have hz:(pn[i],v)∈pn.zip (vs++dv):=cO (by rw[anS];exact⟨hp,hv⟩)
 have hnm:dh F'.b i=pn[i]:=by rw[Un];unfold dh;rcases ok.aO i _ hp with q|q<;>rw[q]
 unfold GP;rw[hnm,ecl];have ek:∀y,F'.bV.kindOf y=fd.scope.names.lookup y:=λy=>by rw[<-Un];rfl
 rw[ek];refine⟨v,(nd.2 _ (Jv Uo)).imp (λlk=>⟨lk,aeb lk (by rw[bn];exact nd.1) hz⟩) λlk=>?_,vr⟩
 refine oE (Eu (C _ (.inl lk.2))) λa ea=>?_;refine bT (cm _ _ (lookup_mem ea)) λo m1 m2=>?_;exact⟨.inl lk.1,a,o,ea,.inl (kin _ m1),m2.trans (aq _ (aec lk.1 (by rw[bn];exact nd.1) hz))⟩
def Up{names:List (aP×xj)}(nd:(names.map (·.1)).Nodup)(n:Nat):((pj n names []).map (·.2)).Nodup/\(∀p∈pj n names [],n<=p.2)/\((pj n names []).map (·.1)).Nodup/\∀x,(x,Jz)∈names\/x∈([]:List (aP×aY)).map (·.1)->x∈(pj n names []).map (·.1):=by
 have z:=aed names n [] gY (by intro p h;cases h) nd gY (by intro p h;cases h)
 exact⟨z.1,λp hp=>(z.2.1 p hp).resolve_left (by intro h;cases h),z.2.2⟩
def Uq{l:List (aP×aY)}{y y':aP}(nd:(l.map (·.2)).Nodup)(e:l.lookup y=M a)(e':l.lookup y'=M a):y=y':=by
 refine oE (sj (lookup_mem e)) λi hi=>?_;refine oE (sj (lookup_mem e')) λj hj=>?_;have h1:(l.map (·.2))[i]?=M a:=by rw[gX,hi];rfl
 have h2:(l.map (·.2))[j]?=M a:=by rw[gX,hj];rfl
 obtain rfl:=(ua (cG.mp h1).1 nd).mp (h1.trans h2.symm);exact aq qf (bF (hi.symm.trans hj))
def Ma{hh:Hp}(sw:Sw K.h hh)(gk:pD hh (F.g.to ah Pn))(ok:kG fd fo body pn dv f k)(ze:∀W D',bP (VR W D') dv dx)(hk:xs.length=k)
 (hb:∀(F':Fm)(A':sA)(W':Wd)(s':bL),St F' A' n W' ⟨λi=>(xs++dx)[i]?,hh,K.t⟩ s'->Sf F'->F'.b=fd.scope->F'.cd=fd.code->F'.g=F.g.to ah Pn->wpAny Md A' (execs body F'.bV) (PG vX F' W' hh (Rt λx h' t'=>∃lL,Sw h' lL/\(pD h' (F.g.to ah Pn)->pD lL F.g)/\Q x lL t')) br s')
 (T:St F A (n+1) W K s)(al:bP (VR W (aZ K.h)) vs xs)(zin:∀p∈ah,p∈W.n)(znf:∀p∈ah,¬j6 W K.h p.1)(ztu:∀p∈ah,∀vs,p.2≠iJ vs)(zos:∀p∈ah,p.1∉F.o.map (·.1))(LY:∀p∈Pn,aZ K.h p.1/\W.ρ p.1=p.2):
 ry Md A (.call (.ref f) ⟨vs,[]⟩) (λr s'=>∃v,r=.ok (.ret v)/\ib F W K.h (λx bk=>bk.m=K.m/\Q x bk.h bk.t) v s') s:=by
 refine xn T.aF.aI λp loose mg mb tp=>?_;have R:=T.aC
 have vl:=al.iI.trans hk;have nd:=ok.Bb
 have bn:(pn.zip (vs++dv)).map (·.1)=pn:=by rw[PZ];rw[dY,vl,ok.aF];exact b8 _
 refine xo R.fr.ns λoL HC HD hL Ey BC=>?_;have C0:=Up ok.aC
 refine Ul (tp.nolimit.keeps R.fr.keep) (R.aC.aO _ _ ok.bz) (ok.d9.trans (aq apR ok.aK)) (codeRec_of R.aC.aO ok.iL) (bM (aV (mI ..) T.aF.aK) (by decide)) (ok.aK▸ok.j9 s vs R.aC.aO vl)
  (λn x hx=>(nd.2 _ (bn▸gW hx)).imp id λz=>⟨z.1,(Eu ((C0 n).2.2.2 _ (.inl z.2))).elim λa e=>e▸Y⟩) (C0 0).2.2.1 (λh₁ tk cells uz sU NC aa=>?_) ok.jI ok.cC ok.aI
 obtain⟨g,hg⟩:∃g,g=qE s.heap (F.L::(W.nV (ah.map (·.1))).n.map (·.1)):=⟨_,Y⟩;obtain⟨L',uB⟩:∃L',L'=s.heap.objs.size:=⟨_,Y⟩;have af:gI F W K.h s ah oL g L':=⟨hL,⟨HC,HD,Ey⟩,zin,znf,ztu,zos,hg,uB⟩
 rw[<-uB]at uz NC aa⊢;have C:=C0 (L'+1)
 have cm:=T7 aa;have y8:∀p∈cells,L'+1<=p.1:=λp hp=>(bX.mp (cm.1▸gW hp:p.1∈_)).elim λq hq=>hq.2▸C.2.1 q hq.1
 have tA:Tu W (W.in cells F.L oL ah) (aZ K.h) (aZ hh):=(af.Ue R).dy sw.tu;have en:=Ug af sw gk LY R T.aF (d:=⟨fd.qualname,fd.scope,f,fd.code,pj (L'+1) fd.scope.names []⟩) (tk:=tk) ok.aI uz sU NC y8 (cm.1▸C.1) (λi x e=>ok.Um C.2.2.2 Y Y cm.2 (λp hp=>dU _ (dU _ hp)) vl ((al.bU λj j=>VR.bU tA).xq (ze _ _)) i x e)
  (λy hy=>(Eu (C.2.2.2 y (.inl (lookup_mem hy)))).elim λa ea=>(cm.2 _ _ (lookup_mem ea)).elim λo q=>⟨a,o,_,ea,q⟩)
  (λy y' a e e'=>Uq C.1 e e')
 refine wm (hb _ _ _ _ ⟨en.2,en.1⟩ ⟨Lz ok.aC,λe=>hV e⟩ Y Y Y) λfl s' p=>p.dc λW' bk g' R' e' fr q=>?_;cases g' with
 |n=>exact cQ q λlL q=>(L0 af R sw q.1 q.2.1 (λy a hy lk=>C.2.1 _ (lookup_mem lk)) R' e').elim λnw z=>(fr)▸⟨_,Y,_,_,.n,z.1,z.2.1,Y,Y,q.2.2⟩
 |b=>exact q.elim
 |c=>exact q.elim
 |r x=>exact cQ q λlL q=>(L0 af R sw q.1 q.2.1 (λy a hy lk=>C.2.1 _ (lookup_mem lk)) R' e').elim λnw z=>cQ fr λv fr=>fr.1▸⟨_,Y,_,_,x,z.1,z.2.1,fr.2.bU z.2.2,Y,q.2.2⟩
def Mb{P:RQ}{g:Fw}(k:∀x h t,Q x h t->P x h t)(q:Rt Q g K):Rt P g K:=by
 cases g with
 |n=>exact k _ _ _ q
 |b=>exact q
 |c=>exact q
 |r v=>exact k _ _ _ q
def f9{t:Nat}(ok:fE f k ast dx)(hk:xs.length=k)(q:WB n ast (Rt Q) ⟨λi=>(xs++dx)[i]?,h,t⟩):bO (n+1) f xs Q h t:=λm F A W s vs T al=>by refine Du ok λfd fo body pn dv hW=>qG hW λok ze ck=>?_;exact⟨QJ ok.bb _ T.aC.aC.aO,Ma (ah:=[]) (Pn:=[]) .jE T.aC.aC.aC.aF.2 ok ze hk (λF' A' W' s' T' f' es a a=>wm (q F' A' W' s' body T' f' (ak es ck)) λa a p=>p.dc λbg aT x R e r q=>⟨bg,aT,x,R,e,r,Mb (λa a a q=>⟨_,.jE,id,q⟩) q⟩) T al (λp hp=>bA hp) (λp hp=>bA hp) (λp hp=>bA hp) (λp hp=>bA hp) λp hp=>bA hp⟩
def bO.ol{t:Nat}{m:Mp}{P:QV}(c:bO n f xs Q h t)(k:∀x h' t',Q x h' t'->P x ⟨m,h',t'⟩):OL n (.ref f) xs P ⟨m,h,t⟩:=λF A W s vs T al=>
 have w:=c m F A W s vs T al
 ⟨w.1,aav (Qn w.2 λr s' p=>p.elim λv p=>p.1▸p.2.dc λW' bk x R e vx q=>⟨W',bk,x,R,e,vx,by obtain⟨m',h',t'⟩:=bk;obtain rfl:m'=m:=q.1;exact k _ _ _ q.2⟩)⟩
end
def Ez(c f:Nat):Prop:=makesIn ai (hB c)=O/\(Dp ai (.ref (hB c)) "__init__"==M (M (.ref (bS f))))=O/\isFn ai (.ref (bS f))=O/\J0 ai (.ref (hB c))=O
variable{c f:Nat} {t:Nat} {x:V}
def nR.aeE{k:aY}{rest:List aS}{kw:List (aP×aS)}(c:nR F A (n+1)):nR F (A.under (.builtin "type.__call__" ⟨.ref k::rest,kw⟩)) n:=by
 have e3:(A.under (.builtin "type.__call__" ⟨.ref k::rest,kw⟩)).frames=A.frames:=by
  unfold ao4;have:Code.envs (.builtin "type.__call__" ⟨.ref k::rest,kw⟩)=[]:=Y
  dsimp only;rw[this];cases A.frames<;>rfl
 have e4:(A.under (.builtin "type.__call__" ⟨.ref k::rest,kw⟩)).guards=A.guards:=by
  unfold ao4;have:Code.guards (.builtin "type.__call__" ⟨.ref k::rest,kw⟩)=[]:=Y
  dsimp only;rw[this];cases A.guards<;>rfl
 exact⟨λh=>(c.cC (fY _)).elim λa q=>⟨a,q.1,e3.trans q.2.1,q.2.2⟩,c.aF,aV (by
  show A.depth+1+2*n<=A.depth+2*(n+1);rw[rq,rj,sx 1];exact gu (gu (ao Y) _) _) c.aK,aV (by
  show A.units+1+10*n<=A.units+10*(n+1);rw[rq,rj,sx 1];exact gu (gu (ao Y) _) _) c.bz,c.aC,c.aI,c.aO,e4.trans c.bb⟩
def nR.in1(c:nR F A (n+1)):nR F A.in1 n:=⟨λa=>c.cC (fY _),c.aF,aV (by
 rw[Around.in1_depth,rq];exact gu (mI _ _) _) c.aK,aV (by
 rw[Around.in1_units,rq,rj,sx 1];exact gu (gu (ao Y) _) _) c.bz,c.aC,c.aI,c.aO,c.bb⟩
def EA(ok:Ez c f)(r:qK ⟨λd=>U,h,t⟩ l t')(q:bO n (bS f) (.e l::xs) (λr h' LV=>r=.n/\Q (.e l) h' LV) (h.aH l (.i c λd=>U)) t'):bO (n+1) (hB c) xs Q h t:=λm F A W s vs T al=>by
 have R:=T.aC;have r:qK ⟨m,h,t⟩ l t':=r
 refine⟨QJ ok.2.2.2 _ R.aC.aO,make_K R.fr R.aC.aF R.aC.aO ok.1 (bq ok.2.1) (bq ok.2.2.1) λx dx h' F' N' lt Ur=>?_⟩;have hx:=fQ Ur
 have e1:(W.kR l x dx [(x,Dl (hB c) dx),(dx,iZ [] 0)]).ρ l=x:=aw Y;have e2:(W.kR l x dx [(x,Dl (hB c) dx),(dx,iZ [] 0)]).δ l=dx:=aw Y
 have ae:HR F.g (W.kR l x dx [(x,Dl (hB c) dx),(dx,iZ [] 0)]) (h.aH l (.i c λd=>U))/\Ext F.cH W h (W.kR l x dx [(x,Dl (hB c) dx),(dx,iZ [] 0)]) (h.aH l (.i c λd=>U)):=HR.Q6 R.aC.aC (r.no R) r.l0
  (λp hp q hq=>(cU.mp hq).elim (λe=>ak e (jV (lt p hp) Ur)) λhq=>ak (bK.mp hq) (lt p hp))
  (iY.mpr ⟨λq=>hx (bK.mp q),iY.mpr ⟨(λq=>bA q),gY⟩⟩) (λb d=>by cases b;exact⟨_,.head _⟩;exact⟨_,.tail _ (.head _)⟩) (λd=>hx.symm)
  ⟨r.l0,by rw[e1,e2];exact .head _,[],0,by rw[e2];exact .tail _ (.head _),⟨[],gY,(λd q=>bA q),b8 _⟩,λi=>Y⟩
 have R1:aX F (W.kR l x dx [(x,Dl (hB c) dx),(dx,iZ [] 0)]) ⟨m,h.aH l (.i c λd=>U),t'⟩ {s with heap:=h'}:=R.xA F' N' ae (λa o m d=>dI _ m) (r.tm R) Y Y
 have tt:=ae.2.tu R.aC.aC R.nx;have dl:aZ (h.aH l (.i c λd=>U)) l:=(sF l).mpr (.inl Y)
 refine Qn (q m F _ _ _ (.ref x::vs) ⟨nR.aeE T.aF,R1⟩ (.hY ⟨aq mJ e1.symm,dl⟩ (al.bU λd d=>VR.bU tt))).2 λrr s' z=>?_;obtain⟨v,rfl,W',bk,y,R2,E2,vy,em,rfl,qq⟩:=z;obtain rfl:v=.none:=vy;have z:=E2.aC l dl
 exact⟨Y,.ref x,Y,W',bk,.e l,R2,ae.2.dy E2,⟨aq mJ (e1.symm.trans (z.2.2 Z).symm),z.1⟩,em,qq⟩
def aeF{a:Nat}{P:QV}(h:WE (n+1) b (λx aT=>∃l c g f,x=.e l/\aT.h l=M (.i c g)/\g a=U/\DB c a=M f/\bO n (bS f) [.e l] (λr h' t'=>∃i:Nat,r=.i i/\i<=33554432/\P (.i i) ⟨aT.m,h',t'⟩) aT.h aT.t) K):WE (n+1) (.RA b a) P K:=λF A W s q T c=>c.elim λnq c=>c.elim λv c=>c.elim λp c=>gH c.1<|aN<|
 Bm T c.2.1 (Sn w0.params Z0 .l Y) (K5 .l Y).1 (ao Y)<|Te c.2.2.2.2<|wm (h F A W s v T c.2.2.2.1) (λu bp p=>p.dc λbg aT x R e vx k=>by
  obtain⟨l,cc,g,f,rfl,hl,hg,hm,q⟩:=k;have k:=QW hm
  have ea:=xp c.2.2.1;have HE:=vx
  obtain⟨rfl,_⟩:=vx;refine⟨lO _ _,len_K R.fr R.aC.aI (R.yU hl) (by have:=bq k.2.1;rwa [ea]at this) k.2.2.1 (aav (Qn (q aT.m F A.in1 bg bp [.ref (bg.ρ l)] ⟨T.aF.in1,R⟩ (.hY HE .iH)).2 λr s' z=>?_))⟩
  obtain⟨v,rfl,W',⟨m',h',t'⟩,y,R2,E2,vy,em,i,rfl,z,qq⟩:=z;obtain⟨tk,rfl⟩:=vy;obtain rfl:m'=aT.m:=em;exact⟨⟨jR i,AM (qb.mpr z) (ao Y)⟩,W',⟨aT.m,h',t'⟩,.i i,R2.qJ _,e.dy E2,⟨_,Y⟩,qq⟩)
variable{h:fL} {e:aY} {X:String} {z:V} {vs:Vs}
section
variable{tk:Nat}
noncomputable abbrev Wd.BK(W:Wd)(h:fL):Wd:=⟨W.bY,W.n.map λp=>(p.1,(h.get? p.1).getD p.2)⟩
def Us:(W.BK h).n.map (·.1)=W.n.map (·.1):=by rw[fC];rfl
def aX.slots(R:aX F W K s)(k:∀b o,s.heap.get? b=M o->b≠F.L->b∉F.o.map (·.1)->H'.get? b=M o)(ks:∀b o,s.heap.get? b=M o->∃sl,H'.get? b=M {o with slots:=sl}):
 aX F (W.BK H') K {s with heap:=H',toks:=tk}/\Ext F.cH W K.h (W.BK H') K.h:=by
 have at_:∀a o o',(a,o)∈W.n->H'.get? a=M o'->(a,o')∈(W.BK H').n:=λa o o' m g=>bX.mpr ⟨(a,o),m,by rw[g];rfl⟩
 have EB:=λa o m no=>at_ a o o m (k a o (R.aC.aF _ m).1 (R.aC.aF _ m).2.1 no);have Ut:∀a o,(a,o)∈W.n->∃sl,(a,({o with slots:=sl}))∈(W.BK H').n:=λa o m=>(ks a o (R.aC.aF _ m).1).elim λsl g=>⟨sl,at_ a o _ m g⟩
 have HF:∀a,j6 W K.h a->a∉F.o.map (·.1):=λa f q=>(bX.mp q).elim λp hp=>(R.aF p hp.1).2.2 (ak hp.2 f);have Uu:=λb o e=>k b o (R.fr.keep b o e) (gZ (dJ (eJ e) R.fr.above)) λq=>(bX.mp q).elim λp hp=>(R.aF p hp.1).2.1.elim λo' m=>cW ((R.aC.aF _ m.1).2.2.symm.trans (ak hp.2 e))
 have t:Tu W (W.BK H') (aZ K.h) (aZ K.h):=⟨λl d=>⟨d,Y⟩,λa vs m=>EB _ _ m λq=>R.nx _ _ m (.inr q)⟩;have Uv:∀a o,(a,o)∈W.n->(∃v,o.data=.cell v)->a∉F.o.map (·.1):=λa o m c q=>(R.xy m q).1.elim λes r=>r.elim λep r=>c.elim λv c=>j5 (c.symm.trans r) Y
 refine⟨⟨⟨λp hp=>?_,⟨λl o e=>(R.aC.aC.aC l o e).bU t (λj=>Y) λb c l0 i m=>EB _ _ m (HF _ ⟨(l,b),⟨l0,nH e,λw=>ak e (i w)⟩,Y⟩),by rw[Us];exact R.aC.aC.aI,R.aC.aC.aO,R.aC.aC.aF,R.aC.aC.aK⟩,R.aC.aK,R.aC.aI,R.aC.aI.keeps Uu,R.aC.cC,R.aC.bz,R.aC.bb⟩,⟨R.mm,⟨?_,Uu,R.fr.above⟩,λi x hx=>(R.lo i x hx).elim λv q=>⟨v,q.1.imp id λq=>⟨q.1,q.2.elim λa q=>q.elim λo q=>⟨a,o,q.1,q.2.1.imp (λz=>EB _ _ z (Uv _ _ z ⟨_,q.2.2⟩)) id,q.2.2⟩⟩,q.2.bU t⟩⟩,
  λy hy=>(R.aI y hy).elim λa q=>q.elim λo q=>q.elim λv q=>⟨a,o,v,q.1,EB _ _ q.2.1 (Uv _ _ q.2.1 ⟨_,q.2.2⟩),q.2.2⟩,R.aK,λp hp=>have z:=R.aF p hp;⟨z.1,z.2.1.elim λo q=>(Ut _ _ q.1).elim λsl m=>⟨_,m,q.2⟩,z.2.2⟩⟩,
  λl d=>⟨d,id,λj=>Y⟩,λp m f x=>EB p.1 p.2 m λq=>x (.inr q),λp m=>(Ut p.1 p.2 m).elim λsl z=>⟨_,z⟩,λj n d=>ax d n,λj=>id⟩
 .obtain⟨q,hq,rfl⟩:=bX.mp hp;have z:=R.aC.aF q hq
  exact(ks _ _ z.1).elim λsl g=>⟨by rw[g];rfl,z.2⟩
 .refine xo R.fr.ns λo es ep ho hd r=>?_;exact(ks _ _ ho).elim λsl g=>⟨_,es,ep,g,hd,r⟩
def wd(F:Fm)(W:Wd)(h:fL)(e:aY)(X:String):Prop:=∃ob vs tb EC ED,h.get? e=M ob/\ob.cls=.type X/\ob.data=.fields vs/\vs[1]?=M (.ref tb)/\h.get? tb=M EC/\EC.data=.fields ED/\3<ED.size/\tb≠F.L/\F.h₀.get? tb=U/\∀p∈W.n,p.1≠tb
def Uw(R:aX F W K s)(i4:nR F A (n+1))(ne:apt s.heap H' e X){Q:Unit->bL->Prop}
 (k:∀W' wc,aX F W' K {s with heap:=wc,toks:=tk}->Ext F.cH W K.h W' K.h->wd F W' wc e X->Q () {s with heap:=wc,toks:=tk}):
 wpAny Md A (noteFrame (.ref e) F.bV) (λf b6=>wpAny Md A (setFlight (.ref e) U) Q br b6) br {s with heap:=H',toks:=tk}:=by
 refine fH (i4.cC (fY _)) λouter BH hA Ex=>?_;refine ug ne.there λob t he aeG hd=>?_;refine xo R.fr.ns λoL HC HD hL Ey BC=>?_;have aeH:∀b,b∈(F.bV::outer).filterMap (·.frame)->b=F.L\/b∈F.o.map (·.1):=λb hb=>(vA.mp hb).elim λv q=>(cU.mp q.1).elim (λw=>.inl (bF ((w▸q.2).symm.trans BH))) λm=>(Ex v m).2.elim λc d=>.inr (aj (bF (d.1.symm.trans q.2)) d.2)
 have fr:∀o':List kP,(∀e∈o',e.scope.kind≠.module/\∃a,e.frame=M a/\a∈F.o.map (·.1))->H'.FunFrames F.h₀ (F.bV::o'):=λo' ho=>by
  refine⟨by rw[show F.bV.scope.kind=.function from i4.aF];decide,⟨F.L,oL,BH,PO R.fr.above,ne.keeps _ _ hL,λvs q=>j5 (Ey.symm.trans q) Y⟩,?_⟩
  induction o' with
  |nil=>trivial
  |cons v r ih=>refine oA (ho v (.head _)) λq1 hW=>bT hW λa q2 q3=>?_;obtain⟨p,hp,rfl⟩:=bX.mp q3;obtain⟨⟨es,ep,e1⟩,⟨o,m1,e2⟩,_⟩:=R.aF p hp;exact⟨q1,⟨p.1,o,q2,(R.aC.aF _ m1).2.2,ne.keeps _ _ (R.aC.aF _ m1).1,λvs q=>j5 ((e2.trans e1).symm.trans q) Y⟩,ih λw hw=>ho w (.tail _ hw)⟩
 have ff:=fr outer Ex;unfold noteFrame;rw[show F.bV.frame=M F.L from BH]
 refine aN (uc he hd (x:=.none) Y ?_);rw[au (ao Y)];refine aN (wpAny_frameOf_fun hA ff BH λh₁ vZ=>?_);refine aN (wpAny_entryPlaceOf λpl DC=>?_);unfold EntryCells.newEntry newFields;refine aN (vC ?_ (DC.sizeOk5 _ _ _ _ _));have ene:∀b o,s.heap.get? b=M o->b≠e:=λb o hb q=>cW ((q▸ne.new).symm.trans hb)
 have aeJ:=λhm=>(ff.mem hm).2.elim λo q=>q.2 _ (ak (bF (q.1.symm.trans he)) hd);have Eg:=(vZ.2.1 e aeJ).trans he
 obtain⟨T,hT⟩:∃T:bC,T={cls:=.type "traceback",dict:=U,data:=.fields ([pe,.ref F.L,.none,iw F.L,.none]++(if pl.isEmpty then aaa 6 pe else pl)).toArray}:=⟨_,Y⟩;rw[<-hT];have HG:T.data=.fields ([pe,.ref F.L,.none,iw F.L,.none]++(if pl.isEmpty then aaa 6 pe else pl)).toArray:=by rw[hT]
 have hTf:=Ji HG;have y2:=eG T Eg
 refine Gk y2 hd (by exact jo Y) ?_
 have Ux:=fQ (eJ Eg);have Mc:=CY hd (·.setIfInBounds 1 (mJ h₁.objs.size))
 have Hn:=tX (JE (·.setIfInBounds 1 (mJ h₁.objs.size))) y2 (Ji Mc);have Uy:=(Gb (h₁.push T) (JE (·.setIfInBounds 1 (mJ h₁.objs.size))) (Gw Ux)).trans (jY h₁ hTf)
 have hz:3<([pe,.ref F.L,.none,iw F.L,.none]++(if pl.isEmpty then aaa 6 pe else pl)).toArray.size:=by rw[q8,dY];exact dJ (by decide:3<5) (mI _ _)
 refine aoP Hn Mc Y Uy HG hz ?_;have HH:∀b o,s.heap.get? b=M o->h₁.objs.size≠b:=λb o hb q=>(vZ.2.2 b o (ne.keeps b o hb)).elim λsl z=>dq _ (q▸eJ z)
 have fin:∀b o o',s.heap.get? b=M o->h₁.get? b=M o'->(((h₁.push T).update e (JE (·.setIfInBounds 1 (mJ h₁.objs.size)))).update h₁.objs.size (JE (·.setIfInBounds 3 .none))).get? b=M o':=λb o o' hb h1=>by rw[Gb _ _ (HH b o hb),Gb _ _ (Gw (ene b o hb))];exact eG _ h1
 have ae:=R.slots (tk:=tk)
  (λb o hb h1 h2=>fin b o o hb ((vZ.2.1 b λq=>(aeH b q).elim h1 h2).trans (ne.keeps b o hb)))
  (λb o hb=>(vZ.2.2 b o (ne.keeps b o hb)).elim λsl z=>⟨sl,fin b o _ hb z⟩)
 refine k _ _ ae.1 ae.2 ⟨_,_,h₁.objs.size,_,_,(Gb _ _ Ux).trans Hn,by rw[ZO];exact aeG,Mc,Y,tX _ Uy (Ji (CY HG _)),CY HG _,by rw[Array.size_setIfInBounds];exact hz,HH _ _ hL,?_,λp hp=>?_⟩
 .cases z:F.h₀.get? h₁.objs.size with
  |none=>rfl
  |some o=>exact ax Y (HH _ _ (R.fr.keep _ _ z))
 .have:p.1∈W.n.map (·.1):=Us▸gW hp;exact(bX.mp this).elim λq hq=>aj hq.2 (HH _ _ (R.aC.aF q hq.1).1).symm
def Uz(R:aX F W K s)(L:wd F W s.heap e X){Q:Unit->bL->Prop}(k:∀h',aX F W K {s with heap:=h',toks:=s.toks}->Q () {s with heap:=h'}):wpAny Md A (setFlight (.ref e) U) Q E s:=by refine Du L λob vs tb EC ED hW=>aaT hW λhe hc hd h1 ht htd hz l1 l2 l3=>?_;exact aoP he hd h1 ht htd hz (k _ (R.Tv l1 l2 l3 (tY ..)))
def wd.UA(L:wd F W s.heap e X):s.TypeIs (.ref e) X:=cQ L λob q=>q.elim λa q=>q.elim λa q=>q.elim λa q=>q.elim λa q=>⟨ob,q.1,q.2.1⟩
def wd.UB(L:wd F W h e X)(k:∀b o,h.get? b=M o->H'.get? b=M o):wd F W H' e X:=
 cQ L λob q=>q.elim λvs q=>q.elim λtb q=>q.elim λEC q=>q.elim λED q=>⟨ob,vs,tb,EC,ED,k _ _ q.1,q.2.1,q.2.2.1,q.2.2.2.1,k _ _ q.2.2.2.2.1,q.2.2.2.2.2⟩
def Me{A':sA}{w:aP}{pos:iA}{Q:QE}(T:St F A n W K s)(g:kT F.b w=O)(e:nsIn ai lJ w=M U)(hv:C8 w=M v)(hn:w≠"__name__")(q:Q v s):wpAny Md A' (eval (.Name w pos) F.bV) Q E s:=
 have g:=KM g
 T.aF.aI.elim λp t=>t.elim λloose t=>t.elim λmg t=>t.elim λmb t=>ZK T.aF.aF g.1 (apa (t.g.keeps T.aC.fr.keep) (mg_none_of T.aC.aC.aI t.g e) (t.b.keeps T.aC.fr.keep) ((t.builtins w hn).trans hv) q) g.2
def Mf(P:jq)(ah:jr):nsIn (K0 P++ah) lJ "KeyError"=M U/\nsIn (K0 P++ah) lJ "IndexError"=M U:=⟨by kernel_rfl,by kernel_rfl⟩
def aeM(T:St F A n W K s)(L:wd F W s.heap e "KeyError"){pos p:iA}{EE:ju}{EF:List ju}{rest:List aaq}{Q:ue->bL->Prop}(g:kT F.b "KeyError"=O)
 (k:∀h',aX F W K {s with heap:=h',toks:=s.toks}->wpAny Md (A.mark (M (.ref e))) (execs (EE::EF) F.bV) Q br {s with heap:=h'}):wpAny Md A (handleBy (.ref e) F.bV (.ExceptHandler (M (.Name "KeyError" p)) U (EE::EF) pos::rest)) Q br s:=by
 refine wpAny_handleBy_builtin (X:="KeyError") (T:="KeyError") (b:=O) (yr (by decide+kernel)) (yr (by decide+kernel)) (yr (by decide+kernel)) (Me T g (Mf w0.params Z0).1 (v:=.type "KeyError") (by decide+kernel) (ao Y) ?_)
 refine⟨Y,L.UA,?_⟩;rw[aw Y];exact Uz T.aC L λh' R'=>jC (k h' R') (λa a x=>x) λa a x=>x.elim
def aeN(T:St F A n W K s)(L:wd F W s.heap e X)(hX:X="KeyError"\/X="IndexError"){pos p p1 p2:iA}{kk:Nat}{EE:ju}{EF:List ju}{rest:List aaq}{Q:ue->bL->Prop}(g1:kT F.b "IndexError"=O)(g2:kT F.b "KeyError"=O)
 (k:∀h',aX F W K {s with heap:=h',toks:=s.toks}->wpAny Md (A.mark (M (.ref e))) (execs (EE::EF) F.bV) Q br {s with heap:=h'}):wpAny Md A (handleBy (.ref e) F.bV (.ExceptHandler (M (.Tuple [.Name "IndexError" p1,.Name "KeyError" p2] kk p)) U (EE::EF) pos::rest)) Q br s:=by
 have hs:∃b1 b2,subB X (.type "IndexError")=M b1/\subB X (.type "KeyError")=M b2/\(b1||b2)=O:=by
  rcases hX with rfl|rfl
  .exact⟨Z,O,by decide+kernel,by decide+kernel,Y⟩
  .exact⟨O,Z,by decide+kernel,by decide+kernel,Y⟩
 refine ug hs λb1 b2 s1 s2 hb=>?_;refine wpAny_handleBy_tup2 (yr (by decide+kernel)) (yr (by decide+kernel)) (yr (by decide+kernel)) (yr (by decide+kernel)) (yr s1) (yr s2) ?_
 refine Tuple_ (C3 (Me T g1 (Mf w0.params Z0).2 (v:=.type "IndexError") (by decide+kernel) (ao Y) (C3 (Me T g2 (Mf w0.params Z0).1 (v:=.type "KeyError") (by decide+kernel) (ao Y) (C6 ?_)) Y)) Y)
 unfold aaA;refine vC ⟨_,Y,IsTup.new _ _,?_,?_⟩
 .exact(L.UB λa a e=>eG _ e).UA
 .rw[aw hb];have R':aX F W K {s with heap:=s.heap.push {cls:=.type "tuple",dict:=U,data:=.seq [xf "IndexError",.type "KeyError"].toArray}}:=T.aC.qo λa a e=>eG _ e
  exact Uz R' (L.UB λa a e=>eG _ e) λh' R2=>jC (k h' R2) (λa a x=>x) λa a x=>x.elim
end
def RZ(K:AS)(e:Sx)(X:String):Prop:=∀F A n W s q(R E:QE),St F A n W K s->Ck e F.b (.e q)->(∀W' s' h' tk ex,aX F W' K s'->Ext F.cH W K.h W' K.h->apt s'.heap h' ex X->E (.ref ex) {s' with heap:=h',toks:=tk})->wpAny Md A (eval q F.bV) R E s
variable{d:Loc} {a e:Sx} {Q:QF} {f:Mp}
def EG{q:cj}{R:QE}(h:RE K a x)(T:St F A n W K s)(ck:Ck a F.b (.e q))(k:∀v W' s',aX F W' K s'->Ext F.cH W K.h W' K.h->VR W' (aZ K.h) v x->R v s'):wpAny Md A (eval q F.bV) R E s:=
 jC (h n (λy bk=>y=x/\bk=K) ⟨Y,Y⟩ F A W s q T ck) (λv bp p=>p.dc λbg aT y R e vy q=>by obtain⟨rfl,rfl⟩:=q;exact k v bg bp R e vy) λc c e=>e.elim
def BL{q q':cj}{env:kP}{R:QE}(e:cJ.e q=.e q')(w:wpAny Md A (eval q' env) R E s):wpAny Md A (eval q env) R E s:=by cases e;exact w
def UC(ha:RE K a (.e l))(hb:RE K b y)(ho:K.h l=M (.d es))(ky:y.cV 7=O)(no:bI es y=U):RZ K (.s a b) "KeyError":=λF A n W s q R E T c k=>c.elim λo c=>c.elim λp c=>c.elim λpos c=>BL c.1<|Dc<|EG ha T c.2.1 λv bg bp iU gw vx=>EG hb ⟨T.aF,iU⟩ c.2.2.1 λu dt b6 eN fc vy=>by
 obtain⟨rfl,_⟩:=vx.bU (fc.tu iU.aC.aC iU.nx);have hT:b6.TypeIs (.ref (dt.ρ l)) "dict":=⟨_,eN.dg ho,Y⟩
 refine KS c.2.2.2 ⟨"dict",_,hT,Gg.lookup⟩ ?_;unfold yz;refine jU (aN (Jw hT (ao Y) ?_));refine aN (yl hT Gg (oo Gg hT ao' ?_ (apk _ _)));show wpAny _ _ (Dk (dt.ρ l) u>>=_) _ _ b6;refine aN (DD eN.th (eN.dg ho) (eN.md ho) (eN.sL ho) vy ky (St.cl (k:=9) ⟨T.aF,eN⟩ (ao Y)) (λf tk=>?_) λv y' e'=>cW (no.symm.trans e'));refine aN (ZW (eN.qj T.aF (eN.dm ho)) ?_);refine aN (JJ hT ?_);rw[au (ao Y)];exact aN (qe (wpAny_raise_newExc plainExc_KeyError T.aF.aC λh' e ne=>k dt b6 h' tk e eN (gw.dy fc) ne))
def aeO(ha:RE K a (V.cq vs))(hb:RE K b (.i j))(hj:vs.length<=j)(hz:j<=1000000):RZ K (.s a b) "IndexError":=λF A n W s q R E T c k=>c.elim λo c=>c.elim λp c=>c.elim λpos c=>BL c.1<|Dc<|EG ha T c.2.1 λv bg bp iU gw vx=>EG hb ⟨T.aF,iU⟩ c.2.2.1 λu dt b6 eN fc vy=>by
 obtain⟨t,us,rfl,ht,al⟩:=VR.lK.mp (vx.bU (fc.tu iU.aC.aC iU.nx));obtain⟨tk,rfl⟩:=vy;have hT:IsTup b6.heap t us.toArray:=⟨_,eN.th t us ht,Y,0,Y⟩
 have ln:=al.iI
 have hs:Dd (j) us.toArray.size=U:=by unfold Dd;rw[au (vG.mpr (jR j)),au];intro w;exact dq _ (dJ (jB.mp (aB (dS.mp w).2)) (show us.length<=j from ak ln hj))
 refine KS c.2.2.2 ⟨"tuple",_,hT.typeIs,Jf.lookup⟩ ?_;unfold yz;refine jU (aN (Jw hT.typeIs (ao Y) ?_));refine aN (yl hT.typeIs Jf (oo slot_tuple_getitem hT.typeIs entry_tuple_getitem ?_ (args_tuple_getitem _ _)));show wpAny _ _ (aqv (.ref t)>>=_) _ _ b6;refine aN (tupleItemsOf_ hT ?_);refine aN (JJ (typeIs_int b6 j tk) ?_);rw[au (ao Y)];refine aN (yt (typeIs_int b6 j tk) int_index ?_);rw[au (show¬(M (Value.builtin "int.__index__")).isNone=O from dZ)]
 refine aN (aat Y ?_);rw[au (by
  intro w;rcases yn.mp w with w|w
  .exact ax (aB w) (vG.mpr (yu (ao Y) (jR j)))
  .exact ax (aB w) (Gr.mpr (AM (qb.mpr hz) (ao Y))))]
 rw[hs];have hA:=T.aF.aC
 have h:=λh' tk e ne=>k dt b6 h' tk e eN (gw.dy fc) ne
 first
  |exact aN (qe (by exact_raiseError ZN hA h))
  |exact aN (qe (aN (by exact_raiseError ZN hA h)))
  |exact qe (by exact_raiseError ZN hA h)
def aeP(ha:RE K a x)(hb:RZ K b X):RZ K (.s a b) X:=λF A n W s q R E T c k=>c.elim λo c=>c.elim λp c=>c.elim λpos c=>BL c.1<|Dc<|EG ha T c.2.1 λv bg bp iU gw vx=>hb F A n bg bp p _ E ⟨T.aF,iU⟩ c.2.2.1 λW' s' h' tk ex r e ne=>k W' s' h' tk ex r (gw.dy e) ne
def aeQ(ha:RZ K a X):RZ K (.cD p a r) X:=λF A n W s q R E T c k=>c.elim λv c=>c.elim λqp c=>c.elim λl c=>c.elim λpos c=>BL c.1<|aN (aj (c.2.2.2.2.2.1 p.uk F.bV (eval v F.bV)).symm (ha F A n W s v _ E T c.2.1 k))
def aeR(h:WB n r Q K):WS n (.DI r) Q K:=λF A W s x T f c=>c.elim λb c=>c.elim λh' c=>c.elim λhs c=>c.elim λp c=>lP c.1<|Jy (jC (h F A W s b T f c.2) (λg bp p=>by cases g<;>first|exact AP p|exact p) λa a x=>x.elim)
def UD{x:cj}{sc:fh}(c:Ck (.cD p a r) sc (.e x)):SW x:=cQ c λv c=>c.elim λqp c=>c.elim λl c=>c.elim λpos c=>by cases c.1;exactλt k env=>Y
def aeS{d u:Sx}(h:WE n (.cD p a r) (λg aT=>Q .n aT) K):WS n (.GW (.cD p a r) b d u) Q K:=λF A W s q T f c=>c.elim λx c=>c.elim λp1 c=>c.elim λp2 c=>c.elim λz c=>c.elim λy c=>c.elim λp3 c=>c.elim λw c=>c.elim λp4 c=>c.elim λp5 c=>c.elim λp6 c=>c.elim λp7 c=>
 lP c.1 (Jy (ub (aak (jC (h F A W s x T c.2.2.1) (λv bp p=>p.dc λbg aT x R e vx q=>AP (AP ⟨bg,aT,.n,R,e,Y,q⟩)) λg g x=>x.elim) (by show(F.b.kind==.module&&_)=Z;rw[T.aF.aF];rfl) (UD c.2.2.1 _ _ _))))
def HI{q:cj}{R:QE}(kd:F.b.kind=.function)(r:aX F W K s)(c:Ck (.v i) F.b (.e q))(hm:K.m i=M x)(h:∀v,VR W (aZ K.h) v x->R v s):wpAny Md A (eval q F.bV) R E s:=cQ c λy c=>c.elim λp c=>BL c.1<|jC (aaw (RW kd r c.2 hm λv vx=>h v vx) (G8 c.2).2.1) (λa a p=>p) λa a e=>e.elim
def UE{o:af}{P:QV}(q:alloc o P K):alloc o (λx bk=>P x bk/\bk.m=K.m) K:=q.elim λl q=>q.elim λt q=>⟨l,t,q.1,q.2,Y⟩
def aeT{c':Nat}{dl:Loc}(hz:RZ K (.cD p a r) "KeyError")(ht:K.m i=M (.e l))(hk:K.m j=M y)(hv:K.m k=M x)(dp:ku c c'=O)(ky:y.cV 7=O)(hl:es.length<16777216)
 (al:alloc (.l [x]) (λz bk=>(∃g,bk.h l=M (.i c g)/\g c'=M (.e dl))/\bk.h dl=M (.d es)/\Q .n (bk.aH dl (.d (cX es y z)) bk.t)) K):WS (n+1) (.GW (.cD p a r) (.a (.v i) c') (.v j) (.v k)) Q K:=λF A W s q T f ck=>ck.elim λex ck=>ck.elim λp1 ck=>ck.elim λp2 ck=>ck.elim λz ck=>ck.elim λyy ck=>ck.elim λp3 ck=>ck.elim λu ck=>ck.elim λp4 ck=>ck.elim λp5 ck=>ck.elim λp6 ck=>ck.elim λp7 ck=>by
 refine J7 ck λeq g ce cz cy cu pu=>?_;have kd:=T.aF.aF
 refine lP eq (Jy (ub (aak (hz F A (n+1) W s ex _ _ T ce λW' s' h' tk exn R' e' ne=>?_) (by show(F.b.kind==.module&&_)=Z;rw[kd];rfl) (UD ce _ _ _))))
 refine Uw R' T.aF ne λW3 h3 R3 e3 L3=>aeM ⟨T.aF,R3⟩ L3 g λh4 R4=>?_;refine kS (e'.dy e3) (?_);refine ub (aoA (List_ (C3 (HI kd R4 cu hv λv vx=>C6 ?_) (pu.1 _ _))) Y);refine wm (GU R4 (.hY vx .iH) (show 1<=16777216 by decide) (UE al)) λlv s5 p=>p.dc λW5 UG zz R5 e5 vz q=>?_
 obtain⟨⟨⟨g,hg,ga⟩,hd,qq⟩,em⟩:=q;obtain⟨ve,ya,pa,ea,ata,cv,nb⟩:=cz;refine BL ea (RX nb (HI kd R5 cv (ak em ht) λo vo=>?_));have kk:=GH dp
 have gg:=ga▸R5.yT hg c';obtain⟨uu,g1,g2⟩:=gg;obtain⟨w,q1,q2,_⟩:=kk.2.2.2.1;rw[vo.1,<-xp ata];refine get_own R5.fr R5.aC.aI (R5.yU hg) kk.1 kk.2.1 q1 q2 g1 g2.R9 (HI kd (R5.qJ _) cy (ak em hk) λyv vy=>?_);rw[g2.1];have R5:=R5.qJ (s5.toks+1)
 refine wm (Sy R5 (R5.qj T.aF (R5.dm hd)) (St.cl (A:=A) ⟨T.aF,R5⟩ (ao Y)) hd ky hl vy vz Y) λB s6 p=>p.dc λW6 BM B R6 e6 B w=>AP ⟨W6,BM,.n,R6,e5.dy e6,Y,aj w qq⟩
def UH{x:cj}{sc:fh}(c:Ck (.s a b) sc (.e x)):SA x:=cQ c λl c=>c.elim λr c=>c.elim λp c=>by cases c.1;exact⟨λz y q k env=>Y,λz y q k env=>Y⟩
def aeW{o:Sx}(h:WE n (.s a b) (λy aT=>WE n o (λx cK=>D8 x c y (Q .n) cK) aT) K):WS n (.DK o c (.s a b)) Q K:=λF A W s q T f ck=>ck.elim λz ck=>ck.elim λy ck=>ck.elim λp1 ck=>ck.elim λex ck=>ck.elim λp2 ck=>ck.elim λq1 ck=>ck.elim λq2 ck=>ck.elim λkk ck=>ck.elim λq3 ck=>ck.elim λz' ck=>ck.elim λy' ck=>ck.elim λp3 ck=>ck.elim λp4 ck=>ck.elim λp5 ck=>ck.elim λp6 ck=>ck.elim λp7 ck=>by refine QQ ck λeq g1 g2 ay UI cz ce UJ=>?_;refine lP eq (Jy (ub (jC (Lb h F A W s (.Assign [.Attribute z y p1] ex p2) T f ⟨z,y,p1,ex,p2,Y,ay,cz,ce,UH ce⟩) (λg bp p=>p.dc λbg aT d R e fl k=>?_) λd d e=>e.elim)));obtain rfl:g=.next:=fl;exact AP (AP ⟨bg,aT,.n,R,e,Y,k⟩)
def aeX(hz:RZ K (.s a b) X)(hX:X="KeyError"\/X="IndexError")(ho:K.m i=M (.e l))(dp:ku j c=O)(al:alloc (.l []) (λz bk=>∃g,bk.h l=M (.i j g)/\Q .n (bk.aH l (.i j (aJ g c z)) bk.t)) K):WS (n+1) (.DK (.v i) c (.s a b)) Q K:=λF A W s q T f ck=>ck.elim λz ck=>ck.elim λy ck=>ck.elim λp1 ck=>ck.elim λex ck=>ck.elim λp2 ck=>ck.elim λq1 ck=>ck.elim λq2 ck=>ck.elim λkk ck=>ck.elim λq3 ck=>ck.elim λz' ck=>ck.elim λy' ck=>ck.elim λp3 ck=>ck.elim λp4 ck=>ck.elim λp5 ck=>ck.elim λp6 ck=>ck.elim λp7 ck=>by
 refine QQ ck λeq g1 g2 ay UI cz ce UJ=>?_;have kd:=T.aF.aF
 refine lP eq (Jy (ub (Zj (hz F A (n+1) W s ex _ _ T ce λW' s' h' tk exn R' e' ne=>?_) ((UH ce).1 _ _ _ _ _))));refine Uw R' T.aF ne λW3 h3 R3 e3 L3=>aeN ⟨T.aF,R3⟩ L3 hX g1 g2 λh4 R4=>?_;refine kS (e'.dy e3) (?_);refine ub (Zj (List_ (C6 ?_)) Y);refine wm (GU R4 .iH (b7 _) (UE al)) λlv s5 p=>p.dc λW5 UG zz R5 e5 vz q=>?_;obtain⟨⟨g,hg,qq⟩,em⟩:=q;refine HI kd R5 UJ (ak em ho) λo vo=>?_;rw[vo.1,<-xp UI];exact wm (SD R5 hg dp vz Y) λd s6 p=>p.dc λW6 BM d R6 e6 d w=>AP ⟨W6,BM,.n,R6,e5.dy e6,Y,aj w qq⟩
def aeY{sc:fh}(r:j8 sc scope du)(i:Nat):dh (ie sc scope) i=dh scope i:=by
 have key:∀sc:fh,dh sc i=((sc.names.map (·.1))[i]?).getD dC:=λsc=>by
  unfold dh;rw[gX];cases sc.names[i]? with
  |none=>rfl
  |some p=>rfl
 rw[key,key,r.aK]
def zf(g:Gx)(f:aY)(qual:aP)(px:iA)(body:cj)(scope:fh)(cl:List (aP×aY)):Prop:=(∃pm c' rH oc vs tq,g.X.lookup f=M (kla_obj "<lambda>" qual ⟨[],[⟨"x",U,px⟩],U,[],[],U,[]⟩ body scope cl pm c' rH)/\g.X.lookup c'=M oc/\oc.data=.fields vs/\vs[1]?=M (.str qual tq))/\(dh scope 0=bH "x"/\scope.names.lookup (bH "x")=M .local)/\scope.isCoroutine=Z/\scope.isGenerator=Z/\∀y y' a,cl.lookup y=M a->cl.lookup y'=M a->y=y'
section
variable{g:Gx} {f:aY} {px:iA} {body:cj} {cl:List (aP×aY)} (hh:zf g f qual px body scope cl)
def zf.aI:=hh.1
def zf.aC:=hh.2.1
def zf.aK:=hh.2.2.1
def zf.aF:=hh.2.2.2.1
def zf.aO:=hh.2.2.2.2
end
def HJ(g:Gx)(f:aY)(e:Sx)(du:List (Option Nat))(m:Mp):Prop:=∀n x(Q:RQ) h t,h hD=M (.fz g)->WE n e (λv K=>Q v K.h K.t) ⟨λi=>if i=0 then M x else mN m du i,h,t⟩->bO (n+1) f [x] Q h t
def aeZ{g:Gx}{f:aY}{px:iA}{body:cj}{sc:fh}{cl:List (aP×aY)}{m:Mp}(L:zf g f qual px body scope cl)(r:j8 sc scope du)(ck:Ck e scope (.e body))
 (free:∀(i j:Nat) z,du[i]?=M (M j)->m j=M z->∃a o v,cl.lookup (dh sc j)=M a/\g.X.lookup a=M o/\o.data=.cell (M v)/\∀W h,HR g W h->VR W (aZ h) v z):HJ g f e du m:=λn x Q h t hz q m₁ F A W s vs T al=>by
 refine aaQ L.aI λpm c' rH oc qh tq hW=>uf hW λhf hc Mg hq=>?_;have R:=T.aC
 obtain rfl:=R.aC.aC.aF.2 _ hz;have xs:F.g.X.In s.heap:=R.aC.bb.keeps R.fr.keep
 refine⟨⟨.frame,.inl Y,(Looks.ld (xs _ _ hf)).andThen .now⟩,?_⟩;refine xn T.aF.aI λp loose mg mb tp=>?_;obtain⟨v,ws,rfl,vx,al⟩:=al.kC;obtain rfl:=al.oy;refine xo R.fr.ns λoL HC HD hL Ey BC=>?_;obtain⟨gg,hg⟩:∃g,g=qE s.heap (F.L::(W.nV (([]:List (aY×bC)).map (·.1))).n.map (·.1)):=⟨_,Y⟩;obtain⟨L',uB⟩:∃L',L'=s.heap.objs.size:=⟨_,Y⟩;have af:gI F W h s [] oL gg L':=⟨hL,⟨HC,HD,Ey⟩,(λp hp=>bA hp),(λp hp=>bA hp),(λp hp=>bA hp),(λp hp=>bA hp),hg,uB⟩
 refine kla_callFunE (bM (aV (mI ..) T.aF.aK) (ao Y)) (xs _ _ hf) Y L.aK L.aF Y ⟨c',oc,qh,tq,Y,xs _ _ hc,Mg,hq⟩ ?_;have L9:aaB (kla_fn "<lambda>" qual ⟨[],[⟨"x",U,px⟩],U,[],[],U,[]⟩ body scope cl pm (.ref c') rH) ⟨[v],[]⟩=pure [(bH "x",v)]:=by kernel_rfl
 rw[L9];refine bw (aoQ r.aI (λy hy=>ak (bK.mp hy) L.aC.2) (λh₁ uz Mh=>⟨(tp.nolimit.keeps R.fr.keep).fresh _ Mh,?_⟩) r.aF);rw[<-uB]at uz Mh⊢;have sU:∀b o,s.heap.get? b=M o->h₁.get? b=M o:=λb o e=>Mh.extBut b o (ak uB (gZ (eJ e))) (eG _ e)
 have tA:Tu W (W.in [] F.L oL []) (aZ h) (aZ h):=af.Ue R;have en:=Ug (m₁:=λi=>if i=0 then M x else mN m du i) af .jE R.aC.aC.aF.2 (λp hp=>bA hp) R T.aF (d:=⟨qual,scope,f,.ref c',cl⟩) (tk:=s.toks+1) r.aF uz sU (λp hp=>bA hp) (λp hp=>bA hp) gY (λi z e=>?_) (λy hy=>ax Y (r.aI _ (mem_lookup hy))) L.aO
 .refine kla_codeExpr (jC (q _ _ _ _ body ⟨en.2,en.1⟩ ck) (λu s' p=>p.dc λW' bk z R' e' vz q=>?_) λc c x=>x.elim);exact(L0 af R .jE .jE id (λy a hy c=>ax Y (r.aI _ (mem_lookup hy))) R' e').elim λnw z=>⟨u,Y,_,_,_,z.1,z.2.1,vz.bU z.2.2,Y,q⟩
 .by_cases hi:i=0
  .subst hi;cases(aw Y:(if 0=0 then M x else mN m du 0)=M x).symm.trans e;refine⟨v,.inl ⟨?_,?_⟩,vx.bU tA⟩
   .exact(aq (λy=>scope.names.lookup y) L.aC.1).trans L.aC.2
   .exact(aq (λy=>List.lookup y [(bH "x",v)]) L.aC.1).trans (by rw[su];rfl)
  .have e:=(au hi:(if i=0 then M x else mN m du i)=mN m du i).symm.trans e;refine bT (CU.mp e) λw hw e=>?_;obtain⟨j,rfl,e⟩:=CU.mp e;refine qH (free i j z hw e) λa o u hW=>uf hW λk1 k2 k3 k4=>?_;have rr:=r.aC i j hw
   have hn:dh scope i=dh sc j:=(aeY r i).symm.trans rr.1;exact⟨u,.inr ⟨.inr ((aq (λy=>scope.names.lookup y) hn).trans (LX r.aO rr.2.2.1)),a,o,(aq (λy=>cl.lookup y) hn).trans k1,.inr k2,k3⟩,(k4 W h R.aC.aC).bU tA⟩
def rI(c P:aY):Prop:=(∀h,ai.In h->CodeHd h c P)/\(∀h mg,ai.In h->h.Ns lJ mg->h.BuiltinsAt mg P)/\lJ≠P
section
variable{c P:aY} (hh:rI c P)
def rI.aC:=hh.1
def rI.aI:=hh.2.1
def rI.aF:=hh.2.2
end
def pG(F:Fm)(W:Wd)(h:Hp)(p:aY×bC):Prop:=p∈W.n/\¬j6 W h p.1/\(∀vs,p.2≠iJ vs)/\p.1∉F.o.map (·.1)
section
variable{h:Hp} {p:aY×bC} (hh:pG F W h p)
def pG.aC:=hh.1
def pG.aF:=hh.2.1
def pG.aI:=hh.2.2.1
def pG.aK:=hh.2.2.2
end
def Made(F:Fm)(W:Wd)(h:Hp)(f:aY)(params:JP)(body:cj)(scope:fh):Prop:=∃cl pm c' rH oc vs tq,
 pG F W h (f,kla_obj "<lambda>" (F.bV.qual++"<lambda>") params body scope cl pm c' rH)/\pG F W h (c',oc)/\¬F.cH f/\¬F.cH c'/\oc.data=.fields vs/\vs[1]?=M (.str (F.bV.qual++"<lambda>") tq)/\
 (∀x a,cl.lookup x=M a->F.l.lookup x=M a)/\∀p∈scope.names,p.2=.free->cl.lookup p.1=F.l.lookup p.1
variable{h h':Hp}
def pG.we{p:aY×bC}(z:pG F W h p)(no:¬F.cH p.1)(e:Ext F.cH W h W' h'):pG F W' h' p:=⟨e.aF _ z.aC z.aF no,e.nN z.aC z.aF,z.aI,z.aK⟩
def Made.we{f:aY}{body:cj}(m:Made F W h f params body scope)(e:Ext F.cH W h W' h'):Made F W' h' f params body scope:=by refine aaR m λcl pm c' rH oc vs tq hW=>sC hW λz1 z2 n1 n2 k=>?_;exact⟨cl,pm,c',rH,oc,vs,tq,z1.we n1 e,z2.we n2 e,n1,n2,k⟩
def aX.ae0(R:aX F W K s){a:aY}(w:F.cH a):∃o,(a,o)∈W.n:=w.elim (λq=>q.elim λy q=>(R.aI y q.1).elim λb r=>r.elim λo r=>r.elim λv r=>⟨o,ak (bF (q.2.1.symm.trans r.1)) r.2.1⟩) λq=>(bX.mp q).elim λp hp=>(R.aF p hp.1).2.1.elim λo z=>⟨o,aj hp.2 z.1⟩
def ae1{P c' f:aY}{lt:Loc}{ps kH:Array aS}{oc:bC}{tk:Nat}(R:aX F W K s)(ht:K.h lt=M (.t P ps))(nf:(∀vs,fo≠iJ vs)/\∀vs,oc≠iJ vs)(hx:Gn P s.heap H')(BN:s.heap.objs.size<=c')(xO:c'<f)(g1:H'.get? f=M fo)(g2:H'.get? c'=M oc)(g3:H'.get? P=M (oz kH)):
 ∃W',aX F W' (K.aH lt (.t P kH) K.t) {s with heap:=H',toks:=tk}/\Ext F.cH W K.h W' (K.aH lt (.t P kH) K.t).h/\pG F W' (K.aH lt (.t P kH) K.t).h (f,fo)/\pG F W' (K.aH lt (.t P kH) K.t).h (c',oc)/\¬F.cH f/\¬F.cH c':=by
 obtain⟨l0,eP,mP⟩:lt.1≠0/\W.ρ lt=P/\(W.ρ lt,oz ps)∈W.n:=R.aC.aC.aC lt _ ht;have ob:Own K.h (lt,Z):=⟨l0,nH ht,λe=>b9 e⟩
 have ae:HR F.g ⟨W.bY,fk (W.ρ lt) (oz kH) W.n⟩ (K.h.aH lt (.t P kH))/\Ext F.cH W K.h ⟨W.bY,fk (W.ρ lt) (oz kH) W.n⟩ (K.h.aH lt (.t P kH)):=R.aC.aC.Q7 ob (λi=>i.elim λc i=>i.elim λc i=>yF i Y) (λc=>⟨P,kH,Y⟩) λc=>⟨l0,eP,vP mP⟩;have Mj:∀p∈fk (W.ρ lt) (oz kH) W.n,p.1<c':=λp hp=>by refine bT (bX.mp (xu▸gW hp)) λq hq e=>?_;exact dJ (e▸eJ (R.aC.aF q hq).1) BN
 have U1:HR F.g ⟨W.bY,(c',oc)::fk (W.ρ lt) (oz kH) W.n⟩ (K.h.aH lt (.t P kH))/\Ext F.cH _ _ ⟨W.bY,(c',oc)::fk (W.ρ lt) (oz kH) W.n⟩ (K.h.aH lt (.t P kH)):=ae.1.A5 Mj;have U2:HR F.g ⟨W.bY,(f,fo)::(c',oc)::fk (W.ρ lt) (oz kH) W.n⟩ (K.h.aH lt (.t P kH))/\Ext F.cH _ _ ⟨W.bY,(f,fo)::(c',oc)::fk (W.ρ lt) (oz kH) W.n⟩ (K.h.aH lt (.t P kH)):=U1.1.A5 λp hp=>(cU.mp hp).elim (λe=>e▸xO) λhp=>jV (Mj p hp) xO
 have nP:=(R.aC.aF _ mP).2;have old:=λb o e=>hx b o (λq=>cW (nP.2.symm.trans (eP.trans q.symm▸e))) (R.fr.keep b o e)
 have ge:∀a,c'<=a->a≠F.L/\F.h₀.get? a=U:=λa k=>⟨λe=>dq _ (dJ R.fr.ns.lt (aV BN (e▸k))),PO (aV R.fr.above (aV (dK R.fr.ns.lt) (aV BN k)))⟩;have no:∀a,c'<=a->¬F.cH a:=λa k w=>(R.ae0 w).elim λo m=>dq _ (dJ (eJ (R.aC.aF _ m).1) (aV BN k))
 have HF:∀a,c'<=a->¬j6 ⟨W.bY,(f,fo)::(c',oc)::fk (W.ρ lt) (oz kH) W.n⟩ (K.h.aH lt (.t P kH)) a:=λa k=>ae.1.Ua λp hp e=>dq _ (dJ (e▸Mj p hp) k);have N':vJ F.h₀ F.L H' ((f,fo)::(c',oc)::fk (W.ρ lt) (oz kH) W.n):=lH.mpr ⟨⟨g1,ge _ (dK xO)⟩,lH.mpr ⟨⟨g2,ge _ (b8 _)⟩,λp hp=>by
  obtain⟨p',jb,rfl⟩:=bX.mp hp;by_cases e:p'.1=W.ρ lt
  .rw[aw e];exact⟨eP.symm▸g3,nP⟩
  .rw[au e];exact⟨hx _ _ (λw=>e (w.trans eP.symm)) (R.aC.aF p' jb).1,(R.aC.aF p' jb).2⟩⟩⟩
 refine⟨⟨W.bY,_⟩,R.xA ⟨R.fr.ns.extBut hx λe=>nP.1 (eP.trans e.symm),old,R.fr.above⟩ N' ⟨U2.1,ae.2.dy (U1.2.dy U2.2)⟩ (λa o m x=>.tail _ (.tail _ (j7 (λ(e)=>?_) m))) (λk hk=>(aQ λ(e:bN k=lt)=>ob.2.1 (e▸R.aC.aK k hk)).trans (R.aC.aK k hk)) Y Y,
  ae.2.dy (U1.2.dy U2.2),⟨.head _,HF _ (dK xO),nf.1,λw=>no f (dK xO) (.inr w)⟩,⟨.tail _ (.head _),HF _ (b8 _),nf.2,λw=>no c' (b8 _) (.inr w)⟩,no _ (dK xO),no _ (b8 _)⟩
 subst e;exact x.elim (λx=>x.elim λv x=>j5 (R.lM m mP▸x) Y) λx=>(R.xy m x).2 ⟨_,ob,Y⟩
def ae2{c P:aY}(L:rI c P)(T:St F A n W K s)(uA:F.cd=.ref c){body:cj}{pos:iA}(r:j8 F.b scope du)(ae3:defaultsOf params F.bV=([],[]))
 {lt:Loc}{ps:Array aS}(ht:K.h lt=M (.t P ps))(tr:TriplesOk ps.toList)(nf:aaz pos ps.toList=U){Q:QE}
 (q:∀W' s' f c',aX F W' (K.aH lt (.t P (ps++#[iw pos.line,iw pos.col,.ref c'])) K.t) s'->Ext F.cH W K.h W' (K.aH lt (.t P (ps++#[iw pos.line,iw pos.col,.ref c'])) K.t).h->
  Made F W' (K.aH lt (.t P (ps++#[iw pos.line,iw pos.col,.ref c'])) K.t).h f params body scope->Q (.ref f) s'):
 wpAny Md A (eval (.Lambda params body scope pos) F.bV) Q br s:=by
 have R:=T.aC;refine fH (Tl R r) λcl hcl c1 c2=>?_;refine xn T.aF.aI λp loose mg mb tp=>?_;have UK:=tp.g.keeps R.fr.keep
 obtain⟨l0,eP,mP⟩:lt.1≠0/\W.ρ lt=P/\(W.ρ lt,oz ps)∈W.n:=R.aC.aC.aC lt _ ht;refine kla_eval ae3 (kla_makeFunction hcl Y UK uA (L.aC _ R.aC.aO) (aj eP (R.aC.aF _ mP).1) tr nf L.aF (L.aI _ _ R.aC.aO UK) λc' rH h' tk hx BN hlt ae6 htb=>?_);refine xn ae6 λc₂ oc vs tq hW=>uf hW λe2 Mg hd hv=>?_;cases e2;obtain⟨W',R',e,z1,z2,n1,n2⟩:=ae1 (fo:=kla_obj "<lambda>" (F.bV.qual++"<lambda>") params body scope cl ((mg "__name__").getD .none) c' rH) R ht
  (And.intro (λvs e=>j5 (aq Df e) Y) λus e=>j5 ((aq Df e).symm.trans hd) Y) (λb o nb e=>eG _ (hx b o nb e)) BN hlt (jY _ Y) (eG _ Mg) (eG _ htb)
 exact q W' _ _ c' R' e ⟨cl,_,c',rH,oc,vs,tq,z1,z2,n1,n2,hd,hv,c1,c2⟩
noncomputable abbrev Mk(px:iA):JP:=⟨[],[⟨"x",U,px⟩],U,[],[],U,[]⟩
def HK(sc:fh)(i:Nat)(e:Sx)(du:List (Option Nat))(pos:iA)(x:ju):Prop:=∃y py px body scope p,x=.Assign [.Name y py] (.Lambda (Mk px) body scope pos) p/\qM sc i y=O/\DN sc scope du=O/\Ck e scope (.e body)/\(dh scope 0==bH "x")=O/\(scope.names.lookup (bH "x")==M .local)=O/\scope.isCoroutine=Z/\scope.isGenerator=Z
def wg(F:Fm)(W:Wd)(h:Hp)(a:aY)(e:Sx)(du:List (Option Nat)):Prop:=∃px body scope,Made F W h a (Mk px) body scope/\j8 F.b scope du/\Ck e scope (.e body)/\(dh scope 0=bH "x"/\scope.names.lookup (bH "x")=M .local)/\scope.isCoroutine=Z/\scope.isGenerator=Z
def ae8{X:jr}{N:List (aY×bC)}(nd:(N.map (·.1)).Nodup)(hZ:∀p∈ah,p∈N){a:aY}{o:bC}(h:(a,o)∈ah):(ah++X).lookup a=M o:=by
 rw[Jp];cases q:ah.lookup a with
 |none=>exact ax (an3.mp q _ h) (by simp)
 |some o'=>refine xm (an2.mp q) λl1 l2 e b=>?_;exact aq M (Ke nd (hZ (a,o') (ak e (dI _ (.head _)))) (hZ _ h))
variable{a:aY}
def wg.we(m:wg F W h a e du)(x:Ext F.cH W h W' h'):wg F W' h' a e du:=m.elim λpx m=>m.elim λb m=>m.elim λsc m=>⟨px,b,sc,m.1.we x,m.2⟩
def UL{x:aP}{px p:iA}{v:cj}(T:St F A n W K s)(f:Sf F)(it:qM F.b i x=O)(sw:SW v){Q:ue->bL->Prop}
 (ev:wpAny Md A (eval v F.bV) (λu bp=>∃bg aT y,aX F bg aT bp/\VR bg (aZ aT.h) u y/\∀dt b6,aX F dt (aT.dw i y) b6->Ext F.cH bg aT.h dt aT.h->Q .next b6) br s):wpAny Md A (exec (.Assign [.Name x px] v p) F.bV) Q br s:=
 aph (wm ev λu bp q=>q.elim λbg q=>q.elim λaT q=>q.elim λy q=>wm (Eb ⟨T.aF,q.1⟩ f.aC it (.inl f.aF) q.2.1 Y) λa b6 z=>z.dc λdt cK a R e a k=>q.2.2 dt b6 (ak k R) (by cases k;exact e)) (sw _ _ _)
def UM{c P:aY}(L:rI c P)(T:St F A n W K s)(f:Sf F)(uA:F.cd=.ref c){x:ju}{pos:iA}(ck:HK F.b i e du pos x){lt:Loc}{ps:Array aS}(ht:K.h lt=M (.t P ps))(tr:TriplesOk ps.toList)(nf:aaz pos ps.toList=U){Q:ue->bL->Prop}
 (q:∀W' s' a c',aX F W' ((K.aH lt (.t P (ps++#[iw pos.line,iw pos.col,.ref c'])) K.t).dw i (.iF a)) s'->Ext F.cH W K.h W' (K.h.aH lt (.t P (ps++#[iw pos.line,iw pos.col,.ref c'])))->
  wg F W' (K.h.aH lt (.t P (ps++#[iw pos.line,iw pos.col,.ref c']))) a e du->Q .next s'):wpAny Md A (exec x F.bV) Q br s:=by
 obtain⟨y,py,px,body,scope,p,rfl,c1,c2,c3,c4,c5,c6,c7⟩:=ck;exact UL T f c1 (λd d d=>Y) (ae2 L T uA (j8.of c2) Y ht tr nf λW' s' a c' R e m=>⟨W',_,.iF a,R,Y,λdt b6 eN fc=>q dt b6 a c' eN (e.dy fc) ⟨px,body,scope,m.we fc,j8.of c2,c3,⟨bq c4,bq c5⟩,c6,c7⟩⟩)
def UN(R:aX F W K s)(ab:wg F W K.h a e du):∃Zs:List (aY×bC),(∀p∈Zs,pG F W K.h p)/\∀(ah:List (aY×bC))(Pn:List (Loc×aY)),(∀p∈Zs,p∈ah)->(∀p∈ah,p∈W.n)->(∀(i j:Nat),du[i]?=M (M j)->∃l a o,K.m j=M (.e l)/\F.l.lookup (dh F.b j)=M a/\(a,o)∈ah/\o.data=.cell (M (.ref (W.ρ l)))/\(l,W.ρ l)∈Pn)->HJ (F.g.to ah Pn) a e du K.m:=by
 obtain⟨px,body,scope,⟨cl,pm,c',rH,oc,vs,tq,z1,z2,n1,n2,k1,k2,k3,k4⟩,r,ck,hx,co,gen⟩:=ab;refine⟨[_,_],lH.mpr ⟨z1,lH.mpr ⟨z2,λp hp=>bA hp⟩⟩,λah Pn hs hn qR=>?_⟩;have lz:∀{a o},(a,o)∈ah->(ah++F.g.X).lookup a=M o:=λm=>ae8 R.aC.aC.aI hn m
 refine aeZ ⟨⟨pm,c',rH,oc,vs,tq,lz (hs _ (.head _)),lz (hs _ (.tail _ (.head _))),k1,k2⟩,hx,co,gen,λy y' b e e'=>R.aK y y' b (k3 _ _ e) (k3 _ _ e')⟩ r ck λi j z hj hz=>?_;refine qH (qR i j hj) λl b o hW=>sC hW λe1 e2 e3 e4 e5=>?_;cases e1.symm.trans hz;exact⟨b,o,_,(k4 _ (r.aC i j hj).2.2.1 Y).trans e2,lz e3,e4,λW1 h1 H1=>have q:=H1.aF.1 (l,W.ρ l) (dU _ e5);⟨aq mJ q.2.symm,q.1⟩⟩
def ae9(R:aX F W K s)(f:Sf F)(hk:F.b.names.lookup (dh F.b i)=M .cell)(hm:K.m i=M (.e l)):∃a o,F.l.lookup (dh F.b i)=M a/\pG F W K.h (a,o)/\o.data=.cell (M (.ref (W.ρ l)))/\aZ K.h l:=by
 obtain⟨v,vh,rfl,dl⟩:=R.lo i _ hm;rcases vh with⟨k,_⟩|⟨_,a,o,k2,k3,k4⟩
 .exact A2 ((k).symm.trans hk) Y
 .refine xo (R.aI _ hk) λa' o' v' e1 e2 e3=>?_;obtain rfl:=bF (k2.symm.trans e1);obtain rfl:o=o':=k3.elim (λm=>R.lM m e2) λx=>hV ((R.aC.bb _ _ x).symm.trans (R.aC.aF _ e2).2.2);exact⟨a,o,k2,⟨e2,R.aC.aC.nN e2 λf=>f.2.1 _ e3,(λvs e=>j5 ((aq Df e).symm.trans e3) Y),λw=>(R.xy e2 w).1.elim λes q=>q.elim λep q=>j5 (q.symm.trans e3) Y⟩,k4,dl⟩
def ae'(R:aX F W K s)(f:Sf F)(I:Nl):(∀j∈I,(∃l,K.m j=M (.e l))/\F.b.names.lookup (dh F.b j)=M .cell)->
 ∃(ah:List (aY×bC))(Pn:List (Loc×aY)),(∀p∈ah,pG F W K.h p)/\(∀p∈Pn,aZ K.h p.1/\W.ρ p.1=p.2)/\∀j∈I,∃l a o,K.m j=M (.e l)/\F.l.lookup (dh F.b j)=M a/\(a,o)∈ah/\o.data=.cell (M (.ref (W.ρ l)))/\(l,W.ρ l)∈Pn:=by
 induction I with
 |nil=>exactλc=>⟨[],[],(λp hp=>bA hp),(λp hp=>bA hp),(λj hj=>bA hj)⟩
 |cons j I ih=>
  intro hI;have hI:=lH.mp hI
  refine ug (ih hI.2) λah Pn h1 h2 h3=>?_;refine oE hI.1.1 λl hl=>?_;refine rz (ae9 R f hI.1.2 hl) λa o k1 k2 k3 k4=>?_;exact⟨(a,o)::ah,(l,W.ρ l)::Pn,lH.mpr ⟨k2,h1⟩,lH.mpr ⟨⟨k4,Y⟩,h2⟩,lH.mpr ⟨⟨l,a,o,hl,k1,.head _,k3,.head _⟩,λi hi=>(h3 i hi).elim λl z=>z.elim λa z=>z.elim λo z=>⟨l,a,o,z.1,z.2.1,.tail _ z.2.2.1,z.2.2.2.1,.tail _ z.2.2.2.2⟩⟩⟩
structure L3 where
 i1:Nat
 e1:Sx
 oN:List (Option Nat)
 i2:Nat
 e2:Sx
 oO:List (Option Nat)
 i3:Nat
 f:Nat
 k0:Nat
def Ml(sc:fh)(d:L3)(l:List ju):Prop:=∃s1 EH s2 EI x3 EJ g pg va pc p3 v4 p4,l=[s1,s2,.Assign [.Name x3 EJ] (.Call (.Name g pg) va [] pc) p3,.Return (M v4) p4]/\HK sc d.i1 d.e1 d.oN EH s1/\HK sc d.i2 d.e2 d.oO EI s2/\qM sc d.i3 x3=O/\kT sc g=O/\nD Dz d.f g=O/\
 Ck (.c (.v d.k0) (.c (.v d.i2) (.c (.v d.i1) .n))) sc (.es va)/\oB va/\SW (.Call (.Name g pg) va [] pc)/\Ck (.v d.i3) sc (.e v4)/\(dM EH.line EI.line&&dM EH.col EI.col)=Z
def EK(f k c:Nat)(d:L3):Prop:=∃fd fo body pn,kG fd fo body pn [] f k/\fd.code=.ref c/\Ml fd.scope d body
def afa{p1 p2:iA}{c:aS}(h:(dM p1.line p2.line&&dM p1.col p2.col)=Z):aaz p2 (#[]++#[iw p1.line,iw p1.col,c]:Array aS).toList=U:=by
 refine(au λw=>?_).trans Y;have w:=dS.mp w
 rw[jT (bq w.1),jT (bq w.2),AU,AU]at h;exact b9 h
def pD.UO{g:Gx}:pD (h.aH hD (.fz g)) g:=λg' e=>by
 cases bo.symm.trans e
 rfl
def nW{a b:af}:(h.aH l a).aH l b=h.aH l b:=funext λk=>by
 unfold Hp.aH;by_cases e:k=l
 .rw[aw e,aw e]
 .rw[au e,au e,au e]
variable{d:L3} {Q:RQ} {x0:V} {a1 a2:aY}
section
variable{dx:Vs} {g0:Gx}
def Q3(n:Nat)(d:L3)(ast:Sx)(dx:Vs)(Q:RQ)(g0:Gx)(x0:V)(K:AS):Prop:=∀g a1 a2,HJ g a1 d.e1 d.oN K.m->HJ g a2 d.e2 d.oO K.m->WB n ast (Rt λx h' t'=>(∃g',h' hD=M (.fz g'))/\Q x (h'.aH hD (.fz g0)) t') ⟨λi=>([x0,.iF a2,.iF a1]++dx)[i]?,K.h.aH hD (.fz g),K.t⟩
def afb(T:St F A (n+1) W K s)(f:Sf F)(M1:wg F W K.h a1 d.e1 d.oN)(M2:wg F W K.h a2 d.e2 d.oO)(hz:K.h hD=M (.fz g0))(ok:fE (bS d.f) 3 ast dx)(qR:∀(i j:Nat),d.oN[i]?=M (M j)\/d.oO[i]?=M (M j)->∃l,K.m j=M (.e l))(q:Q3 n d ast dx Q g0 x0 K)
 {vs:List aS}(al:bP (VR W (aZ K.h)) vs [x0,.iF a2,.iF a1]):Kp (.ref (bS d.f)) s.heap/\wpAny Md A (call (.ref (bS d.f)) vs) (ib F W K.h λx bk=>bk.m=K.m/\Q x bk.h bk.t) br s:=by
 have R:=T.aC;refine Du ok λfd fo body pn dv hW=>qG hW λok ze ck=>?_;refine bT (UN R M1) λZ1 z1 k1=>?_;refine bT (UN R M2) λZ2 z2 k2=>?_;refine xo M1 λc c c c r1 c=>?_;refine xo M2 λc c c c r2 c=>?_;have hr:∀(i j),d.oN[i]?=M (M j)\/d.oO[i]?=M (M j)->F.b.names.lookup (dh F.b j)=M .cell:=λi j w=>w.elim (λw=>(r1.aC i j w).2.2.2) λw=>(r2.aC i j w).2.2.2
 have inI:∀j,j∈(d.oN++d.oO).filterMap id->∃i:Nat,d.oN[i]?=M (M j)\/d.oO[i]?=M (M j):=λj w=>(vA.mp w).elim λo w=>(cZ.mp (w.2▸w.1)).elim (λw=>(sj w).elim λi w=>⟨i,.inl w⟩) λw=>(sj w).elim λi w=>⟨i,.inr w⟩;refine ug (ae' R f ((d.oN++d.oO).filterMap id) λj w=>(inI j w).elim λi w=>⟨qR i j w,hr i j w⟩) λZc Pn zc pp cc=>?_;have hZ:=λp hp=>(cZ.mp hp).elim (z1 p) λhp=>(cZ.mp hp).elim (z2 p) (zc p)
 have UP:∀j,M j∈d.oN++d.oO->∃l a o,K.m j=M (.e l)/\F.l.lookup (dh F.b j)=M a/\(a,o)∈Z1++(Z2++Zc)/\o.data=.cell (M (.ref (W.ρ l)))/\(l,W.ρ l)∈Pn:=λj w=>(cc j (vA.mpr ⟨_,w,Y⟩)).elim λl z=>z.elim λa z=>z.elim λo z=>⟨l,a,o,z.1,z.2.1,dI _ (dI _ z.2.2.1),z.2.2.2⟩;have w:=q (F.g.to (Z1++(Z2++Zc)) Pn) a1 a2 (k1 _ _ (λp m=>dU _ m) (λp m=>(hZ p m).aC) λi j w=>UP j (dU _ (cO w))) (k2 _ _ (λp m=>dI _ (dU _ m)) (λp m=>(hZ p m).aC) λi j w=>UP j (dI _ (cO w)))
 obtain rfl:=R.aC.aC.aF.2 _ hz;refine⟨QJ ok.bb _ R.aC.aO,aav (Qn (Ma (.aH hz) pD.UO ok ze Y (λF' A' W' s' T' f' es c c=>wm (w F' A' W' s' body T' f' (ak es ck)) λc c p=>p.dc λbg aT x R e r q=>⟨bg,aT,x,R,e,r,Mb (λx h t q=>q.1.elim λg' e=>⟨_,.aH e,(λc=>pD.UO),q.2⟩) q⟩) T al (λp hp=>(hZ p hp).aC) (λp hp=>(hZ p hp).aF) (λp hp=>(hZ p hp).aI) (λp hp=>(hZ p hp).aK) pp) λr s' p=>p.elim λv p=>ak p.1 p.2)⟩
def afd(T:St F A (n+1) W K s)(f:Sf F)(M1:wg F W K.h a1 d.e1 d.oN)(M2:wg F W K.h a2 d.e2 d.oO)(hz:K.h hD=M (.fz g0))(ok:fE (bS d.f) 3 ast dx)(qR:∀(i j:Nat),d.oN[i]?=M (M j)\/d.oO[i]?=M (M j)->∃l,K.m j=M (.e l))(q:Q3 n d ast dx Q g0 x0 K)
 (m0:K.m d.k0=M x0)(m1:K.m d.i1=M (.iF a1))(m2:K.m d.i2=M (.iF a2)){x3:aP}{EJ:iA}{g:aP}{pg:iA}{va:List cj}{pc p3:iA}{v4:cj}{p4:iA}(c3:qM F.b d.i3 x3=O)(c4:kT F.b g=O)(c5:nD Dz d.f g=O)
 (c6:Ck (.c (.v d.k0) (.c (.v d.i2) (.c (.v d.i1) .n))) F.b (.es va))(c7:oB va)(c8:SW (.Call (.Name g pg) va [] pc))(c9:Ck (.v d.i3) F.b (.e v4)):wpAny Md A (execs [.Assign [.Name x3 EJ] (.Call (.Name g pg) va [] pc) p3,.Return (M v4) p4] F.bV) (PG vX F W K.h (Rt Q)) br s:=by
 refine ub (UL T f c3 c8 (aN (Bl T c4 (bq (QZ c5).1) (yZ c7 (wm ((aW (aG m0) (aW (aG m2) (aW (aG m1) bD))) (n+1) (λys bk=>ys=[x0,.iF a2,.iF a1]/\bk=K) ⟨Y,Y⟩ F A W s va pc T c6) λws s5 p5=>p5.dc λW5 UG ys R5 E5 al5 e5=>?_)))));obtain⟨rfl,rfl⟩:=e5;have w:=afb ⟨T.aF,R5⟩ f (M1.we E5) (M2.we E5) hz ok qR q al5
 refine⟨w.1,wm w.2 λv s6 p=>p.dc λW6 BM y R6 E6 vy q6=>⟨W6,BM,y,R6,vy,λW7 s7 R7 E7=>?_⟩⟩;exact ub (apg (wm (aG (aw Y) (n+1) (λz bk=>z=y/\bk=BM.dw d.i3 y) ⟨Y,Y⟩ F A W7 s7 v4 ⟨T.aF,R7⟩ c9) (λu s8 p=>p.dc λW8 σ8 z R8 E8 vz e8=>⟨W8,σ8,.r z,R8,(E5.dy E6).dy (E7.dy (by cases e8.2;exact E8)),⟨u,Y,vz⟩,by obtain⟨rfl,rfl⟩:=e8;exact q6.2⟩)))
def afg{c P:aY}(L:rI c P)(T:St F A (n+1) W K s)(f:Sf F)(uA:F.cd=.ref c){l:List ju}(ck:Ml F.b d l)(ok:fE (bS d.f) 3 ast dx){lt:Loc}(ht:K.h lt=M (.t P #[]))(hz:K.h hD=M (.fz g0)) (lz:hD≠lt)
 (qR:∀(i j:Nat),d.oN[i]?=M (M j)\/d.oO[i]?=M (M j)->(∃l,K.m j=M (.e l))/\j≠d.i1/\j≠d.i2) (EL:d.i1≠d.i2) (EM:K.m d.k0=M x0) (EN:d.k0≠d.i1) (EO:d.k0≠d.i2)
 (q:∀ps m h',(∀j,j≠d.i1->j≠d.i2->m j=K.m j)->h'=K.h.aH lt (.t P ps)->Q3 n d ast dx Q g0 x0 ⟨m,h',K.t⟩):wpAny Md A (execs l F.bV) (PG vX F W K.h (Rt Q)) br s:=by
 obtain⟨s1,EH,s2,EI,x3,EJ,g,pg,va,pc,p3,v4,p4,rfl,c1,c2,c3,c4,c5,c6,c7,c8,c9,c10⟩:=ck;refine ub (UM L T f uA c1 ht trivial Y λW1 s1 a1 cc1 R1 E1 M1=>ub (UM L ⟨T.aF,R1⟩ f uA c2 bo trivial (afa c10) λW2 s2 a2 cc2 R2 E2 M2=>?_));have hm:∀j,j≠d.i1->j≠d.i2->aJ (aJ K.m d.i1 (.iF a1)) d.i2 (.iF a2) j=K.m j:=λj h1 h2=>(au h2).trans (au h1)
 exact kS (E1.dy E2) (afd ⟨T.aF,R2⟩ f (M1.we E2) M2 ((aQ lz).trans ((aQ lz).trans hz)) ok (λi j w=>(qR i j w).1.imp λl e=>(hm j (qR i j w).2.1 (qR i j w).2.2).trans e) (q _ _ _ hm nW) ((hm _ EN EO).trans EM) ((au EL).trans (aw Y)) (aw Y) c3 c4 c5 c6 c7 c8 c9)
end
def afi{P f:Nat}(L:rI c P)(ok:EK f k c d){dx:Vs}(ok2:fE (bS d.f) 3 ast dx)(hk:xs.length=k){lt:Loc}{g0:Gx}(ht:h lt=M (.t P #[]))(hz:h hD=M (.fz g0)) (lz:hD≠lt)
 (qR:∀(i j:Nat),d.oN[i]?=M (M j)\/d.oO[i]?=M (M j)->(∃l,xs[j]?=M (.e l))/\j≠d.i1/\j≠d.i2) (EL:d.i1≠d.i2) (EM:xs[d.k0]?=M x0) (EN:d.k0≠d.i1) (EO:d.k0≠d.i2)
 (q:∀ps m h',(∀j,j≠d.i1->j≠d.i2->m j=xs[j]?)->h'=h.aH lt (.t P ps)->Q3 n d ast dx Q g0 x0 ⟨m,h',t⟩):bO (n+2) f xs Q h t:=λm F A W s vs T al=>by
 refine xn ok λfd fo body pn hW=>qG hW λok uA ck=>?_;have e:=i8 xs
 exact⟨QJ ok.bb _ T.aC.aC.aO,Ma .jE T.aC.aC.aC.aF.2 ok (λa a=>.iH) hk (λF' A' W' s' T' f' es ec a=>wm (afg L T' f' (ec.trans uA) (ak es ck) ok2 ht hz lz (aj e.symm qR) EL (aj e.symm EM) EN EO (aj e.symm q)) λa a p=>p.dc λbg aT x R e r q=>⟨bg,aT,x,R,e,r,Mb (λa a a q=>⟨_,.jE,id,q⟩) q⟩) T al (λp hp=>bA hp) (λp hp=>bA hp) (λp hp=>bA hp) (λp hp=>bA hp) λp hp=>bA hp⟩
noncomputable abbrev bB:Sx:=.v 0
noncomputable abbrev cw:Sx:=.v 1
noncomputable abbrev cR:Sx:=.v 2
noncomputable abbrev cY:Sx:=.v 5
noncomputable abbrev dT:Sx:=.cI 1
noncomputable abbrev dO:Sx:=.v 3
noncomputable abbrev eO:Sx:=.cI 0
noncomputable abbrev gJ:Sx:=.v 14
noncomputable abbrev eB:Sx:=.v 4
noncomputable abbrev i5:Sx:=.v 12
noncomputable abbrev eW:Sx:=.v 7
noncomputable abbrev wh:Sx:=sq [.j (.cB Z)]
noncomputable abbrev fK:Sx:=.v 9
noncomputable abbrev iV:Sx:=.h .n
noncomputable abbrev fT:Sx:=.v 6
noncomputable abbrev i6:Sx:=.xB .n
noncomputable abbrev qs:Sx:=.a bB 30
noncomputable abbrev ij:Sx:=.v 8
noncomputable abbrev lQ:Sx:=.v 10
noncomputable abbrev EP:Sx:=.t (sq [.cS "right",eO])
noncomputable abbrev oP:Sx:=sq [.z]
noncomputable abbrev kI:Sx:=.v 13
noncomputable abbrev sV:Sx:=.a bB 19
noncomputable abbrev sW:Sx:=.cS "$end"
noncomputable abbrev zh:Sx:=.cB O
noncomputable abbrev ER:Sx:=.g (.v 3) zh
noncomputable abbrev oQ:Sx:=.cS "E"
noncomputable abbrev BO:Sx:=.s cR (.q dT)
noncomputable abbrev uC:Sx:=.a bB 20
noncomputable abbrev uD:Sx:=.a bB 21
noncomputable abbrev mQ:Sx:=.v 15
noncomputable abbrev Mm:Sx:=.Bf (.s cw (.a i5 2)) 57 .Add dT
noncomputable abbrev xP:Sx:=sq [cw]
noncomputable abbrev nX:Sx:=.v 11
noncomputable abbrev qt:Sx:=.v 17
noncomputable abbrev pH:Sx:=.v 18
noncomputable abbrev wi:Sx:=.v 19
noncomputable abbrev xQ:Sx:=.a bB 15
noncomputable abbrev ES:Sx:=.aaE lQ gJ i5
noncomputable abbrev Mo:Sx:=.aaE fK gJ (.q (.a i5 2))
noncomputable abbrev BP:Sx:=.a bB 1
noncomputable abbrev wj:Sx:=sq [.D]
noncomputable abbrev zo:Sx:=.a bB 18
noncomputable abbrev zq:Sx:=.a bB 36
noncomputable abbrev ET:Sx:=.cS "nonassoc"
noncomputable abbrev HM:Sx:=.m .Eq qt wi
noncomputable abbrev EU:Sx:=.p .l xP
noncomputable abbrev Mq:Sx:=.g (.v 3) (.cB Z)
noncomputable abbrev zu:Sx:=sq [bB]
noncomputable abbrev EV:Sx:=.cS "%prec"
noncomputable abbrev HN:Sx:=.o (.l wi)
noncomputable abbrev Mr:Sx:=.p .l (sq [BP])
def afk:Sx:=sq [.j (.fJ O (sq [.m .Gt (.p .l zu) eO,.p .b (sq [.xC (.m .In cw (.w 1)) (.v 1) bB .n [U,U,U]])]))]
noncomputable def afl:Sx:=sq [.i (.m .NotIn ij (.a bB 9)) (sq [.e (.cD .a (.a bB 9) (sq [ij]))]) .n]
def Ms:Sx:=sq [.dG bB 0 cR,.dG bB 1 (.p .t (sq [dO])),.dG bB 2 cw,.dG bB 3 cY,.dG bB 4 .cN,.dG bB 5 fT,.dG bB 6 eW,.dG bB 7 eB,.dG bB 8 Mr,.dG bB 9 iV,.f (.v 8) (.l BP) afl .n,.dG bB 10 iV,.dG bB 11 .cN,.i (.l BP) (sq [.dG bB 12 (.Kx (sq [.l (.a bB 0),.cS " -> ",.l (.cD .j (.cS " ") (sq [BP]))]))]) (sq [.dG bB 12 (.b .Mod (.cS "%s -> <empty>") (.a bB 0))])]
def afm:Sx:=sq [.j Mr]
def afn:Sx:=sq [.dG bB 0 (.a cw 0),.dG bB 1 (.p .i (sq [.a cw 1])),.dG bB 2 (.a cw 2),.dG bB 13 cR,.dG bB 14 i6,.e (.cD .n BP (sq [cR,.cS "."])),.dG bB 1 (.p .t (sq [BP])),.dG bB 8 Mr,.dG bB 9 (.a cw 9)]
noncomputable def afo:Sx:=sq [.i (.m .In (.s bB cR) cw) (sq [.j (.s bB cR)]) .n,.yQ 2 .Sub dT]
def afp:Sx:=sq [.g (.v 2) (.b .Sub (.p .l zu) dT),.qL (.m .GtE cR eO) afo .n,.j .cN]
noncomputable def afq:Sx:=sq [.aaE zo cR iV]
def afr:Sx:=sq [.dG bB 15 (.h (sq [.cN])),.dG bB 16 i6,.dG bB 17 i6,.dG bB 18 i6,.f (.v 2) (.l cw) afq .n,.aaE zo (.cS "error") iV,.dG bB 19 i6,.dG bB 20 i6,.dG bB 21 i6,.dG bB 22 i6,.dG bB 23 (.p .e .n),.dG bB 24 .cN]
noncomputable def afs:Sx:=sq [.F (.m .Eq xQ (.h (sq [.cN]))),.i (.m .In cw (.a bB 22)) oP .n,.i (.m .NotIn cR (.h (sq [.cS "left",.cS "right",ET]))) oP .n,.aaE (.a bB 22) cw (.t (sq [cR,dO]))]
def UQ:Sx:=sq [.i (.m .In (.s eW eO) (.cS "'\"")) oP .n,.i (.fJ O (sq [.o (.l (.d 1 (sq [eW]))),.m .NotEq eW EV])) oP .n]
def Mu:Sx:=sq [.i (.m .In gJ zo) (sq [.e (.cD .a (.s zo gJ) (sq [kI]))]) (sq [.i (.m .NotIn gJ sV) (sq [.aaE sV gJ iV]) .n,.e (.cD .a (.s sV gJ) (sq [kI]))])]
def aft:Sx:=sq [.i (.m .In cw zo) oP .n,.i (.m .Eq cw (.cS "error")) oP .n,.i (.o (.l (.d 1 xP))) oP .n,.f (.a [6,7]) (.u cR) UQ .n,.i (.m .In EV cR) (sq [.i (.m .Eq BO EV) oP .n,.i (.m .NotEq (.s cR (.q (.cI 2))) EV) oP .n,.g (.v 9) BO,.g (.v 10) (.cD .g (.a bB 22) (sq [fK])),.i (.o (.l lQ)) oP (sq [.e (.cD .d (.a bB 23) (sq [fK]))]),.Kz 2 2]) (sq [.g (.v 9) (.d 3 (sq [cR,zo])),.g (.v 10) (.cD .g (.a bB 22) (sq [fK,EP]))]),.g (.v 11) (.Kx (sq [.l cw,.cS " -> ",.l cR])),.i (.m .In nX (.a bB 17)) (sq [.g (.v 12) (.s (.a bB 17) nX),.z]) .n,.g (.v 13) (.p .l (sq [xQ])),.i (.m .NotIn cw sV) (sq [.aaE sV cw iV]) .n,.f (.v 14) (.l cR) Mu .n,.g (.v 15) (.B 1 (sq [kI,cw,cR,lQ,dO,eB,cY])),.e (.cD .a xQ (sq [mQ])),.aaE (.a bB 17) nX mQ,.GW (.cD .a (.s (.a bB 16) cw) (sq [mQ])) (.a bB 16) cw mQ]
def afu:Sx:=sq [.i (.o (.l cw)) (sq [.g (.v 1) (.a (.s xQ dT) 0)]) .n,.i (.m .NotIn cw sV) oP .n,.aaE xQ eO (.B 1 (sq [eO,.cS "S'",.h xP])),.e (.cD .a (.s sV cw) (sq [eO])),.dG bB 24 cw]
noncomputable def afv:Sx:=sq [.i (.m .Eq cY (.cS "<empty>")) (sq [.g (.v 4) zh]) (sq [.i (.m .NotIn cY cR) (sq [.e (.cD .a cR (sq [cY]))]) .n])]
noncomputable def afw:Sx:=sq [.g (.v 4) (.cB Z),.f (.v 5) (.l (.s uC dO)) afv .n,.i (.l eB) (sq [.E]) wj]
def afx:Sx:=sq [.g (.v 2) iV,.f (.v 3) (.l cw) afw (sq [.e (.cD .a cR (sq [.cS "<empty>"]))]),.j cR]
noncomputable def afy:Sx:=sq [.aaE uC cw (.h xP)]
noncomputable def afz:Sx:=sq [.aaE uC cR iV]
def UR:Sx:=sq [.i (.m .NotIn cY (.s uC cR)) (sq [.e (.cD .a (.s uC cR) (sq [cY])),ER]) .n]
def Mw:Sx:=sq [.f (.v 5) (.l (.ic bB 25 (sq [.a eB 1]))) UR .n]
def UT:Sx:=sq [.f (.v 4) (.l (.s (.a bB 16) cR)) Mw .n]
def UU:Sx:=sq [Mq,.f (.v 2) (.l sV) UT .n,.i (.o (.l dO)) wj .n]
def afA:Sx:=sq [.i (.l uC) (sq [.j uC]) .n,.f (.v 1) (.l zo) afy .n,.aaE uC sW (.h (sq [sW])),.f (.v 2) (.l sV) afz .n,.qL (.l zh) UU .n,.j uC]
noncomputable def afB:Sx:=sq [.aaE uD cR iV]
def Mx:Sx:=sq [.i (.fJ O (sq [.m .NotEq fK (.cS "<empty>"),.m .NotIn fK (.s uD fT)])) (sq [.e (.cD .a (.s uD fT) (sq [fK])),ER]) .n,.i (.m .Eq fK (.cS "<empty>")) (sq [.g (.v 8) zh]) .n]
def Mz:Sx:=sq [.i (.m .NotIn fK (.s uD fT)) (sq [.e (.cD .a (.s uD fT) (sq [fK])),ER]) .n]
def MA:Sx:=sq [.i (.m .In fT sV) (sq [.g (.v 7) (.ic bB 25 (sq [.Be (.a eB 1) (.b .Add cY dT)])),.g (.v 8) (.cB Z),.f (.v 9) (.l eW) Mx .n,.i (.fJ Z (sq [.l ij,.m .Eq cY (.b .Sub (.p .l (sq [.a eB 1])) dT)])) (sq [.f (.v 9) (.l (.s uD (.a eB 0))) Mz .n]) .n]) .n]
def MB:Sx:=sq [.f (.a [5,6]) (.u (.a eB 1)) MA .n]
def UW:Sx:=sq [Mq,.f (.v 4) (.l (.Be xQ dT)) MB .n,.i (.o (.l dO)) wj .n]
def afC:Sx:=sq [.i (.l uD) (sq [.j uD]) .n,.i (.o (.l uC)) (sq [.e (.ic bB 26 .n)]) .n,.f (.v 2) (.l sV) afB .n,.i (.o (.l cw)) (sq [.g (.v 1) (.a (.s xQ dT) 0)]) .n,.aaE uD cw (.h (sq [sW])),.qL (.l zh) UW .n,.j uD]
def UX:Sx:=sq [.i (.m .Gt dO (.RA cw 27)) (sq [.g (.v 5) .cN]) (sq [.g (.v 5) (.B 2 (sq [cw,dO])),.DK cY 28 (.s (.a bB 16) (.s (.a cY 1) (.b .Add dO dT))),.DI (sq [.dG cY 29 (.s (.a cY 1) (.b .Sub dO dT))])]),.dG cR 11 cY,.i (.o (.l cY)) wj .n,.e (.cD .a eB (sq [cY])),.g (.v 2) cY,.yQ 3 .Add dT]
noncomputable def afD:Sx:=sq [.g (.v 2) cw,.g (.v 3) eO,.g (.v 4) iV,.qL (.l zh) UX .n,.dG cw 10 eB]
def afE:Sx:=sq [.f (.v 1) (.l xQ) afD .n]
noncomputable def afF:Sx:=sq [.aaE dO eB eO]
def afG:Sx:=sq [.i (.m .Eq (.s dO eB) eO) (sq [.e (.d 5 (sq [eB,dO,cY,fT,bB,cw,cR]))]) .n]
def UY:Sx:=sq [.g (.v 3) i6,.f (.v 4) (.l bB) afF .n,.g (.v 5) iV,.g (.v 6) i6,.f (.v 4) (.l bB) afG .n,.j fT]
noncomputable def afH:Sx:=sq [.i (.m .NotIn lQ (.s dO bB)) (sq [.e (.cD .a (.s dO bB) (sq [lQ]))]) .n]
def MC:Sx:=sq [.i (.m .Eq (.s cw fK) eO) (sq [.e (.d 5 (sq [fK,cw,cR,dO,eB,cY,fT]))]) .n,.aaE cw bB (.p .m (sq [.s cw bB,.s cw fK])),.f (.v 10) (.l (.cD .g dO (sq [fK,iV]))) afH .n]
noncomputable def afI:Sx:=sq [.aaE cw BO (.w 0),.aaE dO BO (.s dO bB),.g (.v 11) (.cD .o cR .n)]
def MD:Sx:=sq [.e (.cD .a cR zu),.g (.v 7) (.p .l (sq [cR])),.aaE cw bB eW,.aaE dO bB (.Ky 6 zu),.g (.v 8) (.Ky 5 zu),.f (.v 9) (.l ij) MC .n,.i (.m .Eq (.s cw bB) eW) (sq [.aaE cw BO (.w 0),.aaE dO BO (.s dO bB),.g (.v 11) (.cD .o cR .n),.qL (.m .NotEq nX bB) afI .n]) .n]
def afJ:Sx:=sq [.i (.o (.l bB)) (sq [.j (.t .n)]) .n,.j (.p .t (sq [.xC (.t (sq [.a cw 2,.a cw 13])) (.v 1) bB .n [U,U]]))]
def ME:Sx:=sq [.i (.m .NotIn cR (.h (sq [.cS "SLR",.cS "LALR"]))) oP .n,.dG bB 30 cw,.dG bB 31 cR,.dG bB 32 i6,.dG bB 33 i6,.dG bB 34 (.a cw 15),.dG bB 35 i6,.dG bB 36 i6,.dG bB 37 eO,.dG bB 38 eO,.dG bB 39 eO,.dG bB 40 iV,.dG bB 41 iV,.dG bB 42 iV,.e (.ic qs 43 .n),.e (.ic qs 26 .n),.e (.ic qs 44 .n),.e (.ic bB 45 .n)]
def MF:Sx:=sq [.i (.m .Eq (.a cY 46) (.a bB 37)) (sq [.A]) .n,.e (.cD .a cR (sq [.a cY 11])),.dG cY 46 (.a bB 37),ER]
def MG:Sx:=sq [.f (.v 5) (.l (.a eB 28)) MF .n]
def UZ:Sx:=sq [Mq,.f (.v 4) (.l cR) MG .n]
def afK:Sx:=sq [.Bf bB 37 .Add dT,.g (.v 2) (.Ry cw),ER,.qL (.l dO) UZ .n,.j cR]
def MH:Sx:=sq [.g (.v 7) (.a fT 11),.i (.fJ O (sq [.l eW,.m .Eq (.a eW 29) cR])) (sq [.g (.v 8) (.cD .g eB (sq [.t (sq [.a eW 2,.a eW 13])])),.i (.o (.l ij)) (sq [.g (.v 8) i6,.aaE eB (.t (sq [.a eW 2,.a eW 13])) ij]) .n,.e (.cD .a cY (sq [eW])),.g (.v 4) ij]) .n]
def U0:Sx:=sq [.g (.v 3) (.cD .g (.a bB 35) (sq [.t (sq [.d 6 xP,cR])])),.i (.l dO) (sq [.j dO]) .n,.g (.v 4) (.cD .g (.a bB 35) (sq [cR])),.i (.o (.l eB)) (sq [.g (.v 4) i6,.aaE (.a bB 35) cR eB]) .n,.g (.v 5) iV,.f (.v 6) (.l cw) MH .n,.g (.v 3) (.cD .g eB (sq [sW])),.i (.o (.l dO)) (sq [.i (.l cY) (sq [.g (.v 3) (.ic bB 47 (sq [cY])),.aaE eB sW dO]) (sq [.aaE eB sW cY])]) .n,.aaE (.a bB 35) (.t (sq [.d 6 xP,cR])) dO,.j dO]
noncomputable def afL:Sx:=sq [.aaE zq (.d 6 (sq [dO])) cR,.yQ 2 .Add dT]
noncomputable def afM:Sx:=sq [.aaE eB fT .cN]
noncomputable def afN:Sx:=sq [.f (.v 6) (.l (.a cY 9)) afM .n]
def U3:Sx:=sq [.g (.v 8) (.ic bB 48 (sq [dO,eW])),.i (.fJ Z (sq [.o (.l ij),.m .In (.d 6 (sq [ij])) zq])) (sq [.A]) .n,.aaE zq (.d 6 (sq [ij])) EU,.e (.cD .a cw (sq [ij]))]
def U4:Sx:=sq [.g (.v 3) (.s cw cR),.yQ 2 .Add dT,.g (.v 4) i6,.f (.v 5) (.l dO) afN .n,.f (.v 7) (.l eB) U3 .n]
def MI:Sx:=sq [.g (.v 1) (.h (sq [.ic bB 47 (sq [.h (sq [.a (.s (.a qs 15) eO) 11])])])),.g (.v 2) eO,.f (.v 3) (.l cw) afL .n,.g (.v 2) eO,.qL (.m .Lt cR EU) U4 .n,.j cw]
def U5:Sx:=sq [.i (.m .NotIn eB cw) wj .n]
def afO:Sx:=sq [.i (.m .Eq (.a dO 8) eO) (sq [.e (.cD .d cw (sq [.a dO 0])),.A]) .n,.f (.v 4) (.l (.a dO 1)) U5 (sq [.e (.cD .d cw (sq [.a dO 0]))])]
noncomputable def afP:Sx:=sq [.f (.v 3) (.l (.Be (.a qs 15) dT)) afO .n,.i (.m .Eq EU cR) wj .n,.g (.v 2) EU]
def afQ:Sx:=sq [.g (.v 1) (.p .e .n),.g (.v 2) eO,.qL (.l zh) afP .n,.j cw]
noncomputable def afR:Sx:=sq [.i (.m .Lt (.a cY 13) (.b .Sub (.a cY 8) dT)) (sq [.g (.v 6) (.t (sq [dO,.s (.a cY 1) (.b .Add (.a cY 13) dT)])),.i (.m .In (.s fT dT) (.a qs 19)) (sq [.i (.m .NotIn fT cR) (sq [.e (.cD .a cR (sq [fT]))]) .n]) .n]) .n]
noncomputable def afS:Sx:=sq [.f (.v 5) (.l eB) afR .n]
def afT:Sx:=sq [.g (.v 2) iV,.f (.a [3,4]) (.u cw) afS .n,.j cR]
noncomputable def afU:Sx:=sq [.i (.m .Lt (.a ij 13) (.b .Sub (.a ij 8) dT)) (sq [.g (.v 9) (.s (.a ij 1) (.b .Add (.a ij 13) dT)),.i (.m .In fK (.a qs 18)) (sq [.i (.m .NotIn fK fT) (sq [.e (.cD .a fT (sq [fK]))]) .n]) .n]) .n]
def afV:Sx:=sq [.g (.a [4,5]) cR,.g (.v 6) iV,.g (.v 7) (.ic bB 48 (sq [.s cw eB,cY])),.f (.v 8) (.l eW) afU .n,.i (.fJ O (sq [.m .Eq eB eO,.m .Eq cY (.s (.a (.s (.a qs 15) eO) 1) eO)])) (sq [.e (.cD .a fT (sq [sW]))]) .n,.j fT]
noncomputable def afW:Sx:=sq [.i (.m .Lt (.a fK 13) (.b .Sub (.a fK 8) dT)) (sq [.g (.v 10) (.s (.a fK 1) (.b .Add (.a fK 13) dT)),.i (.m .In lQ dO) (sq [.e (.cD .a eB (sq [.t (sq [ij,lQ])]))]) .n]) .n]
def afX:Sx:=sq [.g (.v 4) iV,.g (.a [5,6]) cR,.g (.v 7) (.ic bB 48 (sq [.s cw cY,fT])),.g (.v 8) (.cD .g zq (sq [.d 6 (sq [eW]),.q dT])),.f (.v 9) (.l eW) afW .n,.j eB]
noncomputable def afY:Sx:=sq [.aaE fT eW dT]
noncomputable def afZ:Sx:=sq [.i (.m .In (.s (.a i5 1) mQ) (.a qs 18)) wj .n,.i (.m .NotIn (.s (.a i5 1) mQ) dO) wj .n,.g (.v 15) (.b .Add mQ dT)]
def U6:Sx:=sq [.g (.v 13) (.b .Add kI dT),.g (.v 7) (.s (.a i5 1) kI),.i (.m .In (.t (sq [gJ,eW])) fT) (sq [.g (.v 15) (.b .Add kI dT),.qL (.m .Lt mQ (.a i5 8)) afZ (sq [.e (.cD .a nX (sq [.t (sq [gJ,eW])]))])]) .n,.g (.v 16) (.ic bB 48 (sq [.s cw gJ,eW])),.g (.v 14) (.cD .g zq (sq [.d 6 (sq [.v 16]),.q dT]))]
noncomputable def af0:Sx:=sq [.i (.m .NotEq (.s (.a qt 1) pH) (.s (.a i5 1) (.b .Add pH dT))) wj .n,.g (.v 18) (.b .Add pH dT)]
def U7:Sx:=sq [.i (.m .NotEq (.a qt 0) (.a i5 0)) (sq [.A]) .n,.i (.m .NotEq (.a qt 8) (.a i5 8)) (sq [.A]) .n,.g (.v 18) eO,.qL (.m .Lt pH (.a qt 13)) af0 (sq [.e (.cD .a lQ (sq [.t (sq [gJ,qt])]))])]
def U8:Sx:=sq [.i (.m .NotEq (.a i5 0) fK) (sq [.A]) .n,.g (.v 13) (.a i5 13),.g (.v 14) ij,.qL (.m .Lt kI (.b .Sub (.a i5 8) dT)) U6 .n,.f (.v 17) (.l (.s cw gJ)) U7 .n]
noncomputable def U9:Sx:=sq [.i (.m .NotIn pH cY) (sq [.aaE cY pH iV]) .n,.e (.cD .a (.s cY pH) (sq [.t (sq [ij,fK])]))]
def U':Sx:=sq [.g (.v 10) iV,.g (.v 11) iV,.f (.v 12) (.l (.s cw ij)) U8 .n,.f (.v 18) (.l nX) U9 .n,.aaE eB (.t (sq [ij,fK])) lQ]
def af1:Sx:=sq [.g (.v 4) i6,.g (.v 5) i6,.g (.v 6) i6,.f (.v 7) (.l cR) afY .n,.f (.a [8,9]) (.l cR) U' .n,.j (.t (sq [eB,cY]))]
def Va:Sx:=sq [.i (.m .NotIn ij (.s (.a fT 14) cY)) (sq [.e (.cD .a (.s (.a fT 14) cY) (sq [ij]))]) .n]
def MJ:Sx:=sq [.i (.m .NotIn cY (.a fT 14)) (sq [.aaE (.a fT 14) cY iV]) .n,.g (.v 7) (.cD .g cR (sq [dO,iV])),.f (.v 8) (.l eW) Va .n]
noncomputable def af2:Sx:=sq [.f (.a [5,6]) (.l eB) MJ .n]
def Vb:Sx:=sq [.f (.a [3,4]) (.C cw) af2 .n]
def af3:Sx:=sq [.g (.v 2) (.ic bB 49 .n),.g (.v 3) (.ic bB 50 xP),.g (.v 4) (.ic bB 51 (sq [cw,dO,cR])),.g (.a [5,6]) (.ic bB 52 (sq [cw,dO,cR])),.g (.v 7) (.ic bB 53 (sq [dO,eB,fT])),.e (.ic bB 54 (sq [cY,eW]))]
def HO:Sx:=sq [.g (.v 15) (.cD .g fK (sq [gJ])),.i (.GV mQ) (sq [.i (.m .Gt mQ eO) (sq [.g (.a [16,17]) (.cD .g cR (sq [gJ,EP])),.g (.a [18,19]) (.a (.s cw (.a i5 2)) 7),.i (.fJ Z (sq [.m .Lt qt wi,.fJ O (sq [HM,.m .Eq pH (.cS "left")])])) (sq [Mo,ES,.i (.fJ O (sq [.o (.l qt),HN])) (sq [.e (.cD .a (.a bB 41) (sq [.t (sq [eW,gJ,.cS "reduce"])]))]) .n,Mm]) (sq [.i (.fJ O (sq [HM,.m .Eq pH ET])) (sq [.aaE fK gJ .cN]) (sq [.i HN (sq [.e (.cD .a (.a bB 41) (sq [.t (sq [eW,gJ,.cS "shift"])]))]) .n])])]) (sq [.i (.m .Lt mQ eO) (sq [.g (.v 20) (.s cw (.q mQ)),.g (.v 21) (.s cw (.a i5 2)),.i (.m .Gt (.a (.v 20) 6) (.a (.v 21) 6)) (sq [Mo,ES,.z,Mm,.Bf (.s cw (.a (.v 20) 2)) 57 .Sub dT]) oP,.e (.cD .a (.a bB 42) (sq [.t (sq [eW,.v 22,.v 23])]))]) oP])]) (sq [Mo,ES,Mm])]
def HQ:Sx:=sq [.i (.m .Eq (.a i5 8) (.b .Add (.a i5 13) dT)) (sq [.i (.m .Eq (.a i5 0) (.cS "S'")) (sq [.aaE fK sW eO,.aaE lQ sW i5]) (sq [.i (.m .Eq (.a bB 31) (.cS "LALR")) (sq [.g (.v 13) (.s (.a i5 14) eW)]) (sq [.g (.v 13) (.s (.a qs 21) (.a i5 0))]),.f (.v 14) (.l kI) HO .n])]) (sq [.g (.v 24) (.a i5 13),.g (.v 14) (.s (.a i5 1) (.b .Add (.v 24) dT)),.i (.m .In gJ (.a qs 18)) (sq [.g (.v 25) (.ic bB 48 (sq [ij,gJ])),.g (.v 26) (.cD .g zq (sq [.d 6 (sq [.v 25]),.q dT])),.i (.m .GtE (.v 26) eO) (sq [.g (.v 15) (.cD .g fK (sq [gJ])),.i (.GV mQ) (sq [.i (.m .Gt mQ eO) (sq [.i (.m .NotEq mQ (.v 26)) oP .n]) (sq [.i (.m .Lt mQ eO) (sq [.g (.a [16,17]) (.cD .g cR (sq [gJ,EP])),.g (.a [18,19]) (.a (.s cw (.a (.s lQ gJ) 2)) 7),.i (.fJ Z (sq [.m .Gt qt wi,.fJ O (sq [HM,.m .Eq pH (.cS "right")])])) (sq [.Bf (.s cw (.a (.s lQ gJ) 2)) 57 .Sub dT,.aaE fK gJ (.v 26),ES,.i HN (sq [.e (.cD .a (.a bB 41) (sq [.t (sq [eW,gJ,.cS "shift"])]))]) .n]) (sq [.i (.fJ O (sq [HM,.m .Eq pH ET])) (sq [.aaE fK gJ .cN]) (sq [.i (.fJ O (sq [.o (.l qt),HN])) (sq [.e (.cD .a (.a bB 41) (sq [.t (sq [eW,gJ,.cS "reduce"])]))]) .n])])]) oP])]) (sq [.aaE fK gJ (.v 26),ES])]) .n]) .n])]
noncomputable def af4:Sx:=sq [.i (.m .In (.v 29) (.a qs 19)) (sq [.aaE (.v 27) (.v 29) .cN]) .n]
noncomputable def af5:Sx:=sq [.f (.v 29) (.l (.a (.v 28) 9)) af4 .n]
def Vc:Sx:=sq [.g (.v 25) (.ic bB 48 (sq [ij,.v 30])),.g (.v 26) (.cD .g zq (sq [.d 6 (sq [.v 25]),.q dT])),.i (.m .GtE (.v 26) eO) (sq [.aaE nX (.v 30) (.v 26)]) .n]
def EW:Sx:=sq [.g (.v 9) i6,.g (.v 10) i6,.g (.v 11) i6,.f (.v 12) (.l ij) HQ .n,.g (.v 27) i6,.f (.v 28) (.l ij) af5 .n,.f (.v 30) (.l (.v 27)) Vc .n,.aaE eB eW fK,.aaE cY eW lQ,.aaE dO eW nX,.yQ 7 .Add dT]
def MK:Sx:=sq [.g (.v 1) (.a qs 15),.g (.v 2) (.a qs 22),.g (.v 3) (.a bB 33),.g (.v 4) (.a bB 32),.g (.v 5) i6,.g (.v 6) (.ic bB 55 .n),.i (.m .Eq (.a bB 31) (.cS "LALR")) (sq [.e (.ic bB 56 (sq [fT]))]) .n,.g (.v 7) eO,.f (.v 8) (.l fT) EW .n]
noncomputable def af6:Sx:=sq [.j (.sM (.m .Lt cw (.p .l zu)) (.b .Mod (.s bB cw) (.cI 720720)) eO)]
noncomputable def Vd:Sx:=sq [.g (.v 8) (.xB (.kv oQ oQ (.kv (.cS "t") (.s (.cS "pqr") fT) (.kv (.cS "x") (.s (.cS "xyz") fT) .n)))),.e (.cD .a cY (sq [.xC (.s cR cw) (.v 1) (.s (.w 2) eW) .n [U,U,M 8]]))]
noncomputable def EX:Sx:=sq [.g (.v 1) (.b .Mod bB (.cI 8)),.g (.v 2) (.b .Mod (.b .FloorDiv bB (.cI 8)) (.cI 8)),.g (.v 3) (.b .Mod (.b .FloorDiv bB (.cI 64)) (.cI 6)),.i (.m .Gt cw (.cI 4)) (sq [.g (.v 2) (.b .Mod cR (.cI 5))]) .n,.g (.v 4) (.h (sq [cw,cR])),.i (.fJ O (sq [.m .Lt cw (.cI 5),.m .Lt cR (.cI 5),.m .Lt dO (.cI 5)])) (sq [.e (.cD .a eB (sq [dO]))]) .n,.g (.v 5) (.h (sq [.h (sq [.cS "a"])])),.f (.a [6,7]) (.u eB) Vd .n,.i (.fJ O (sq [.m .Eq (.p .l (sq [eB])) (.cI 2),.m .Eq (.s (.s cY dT) eO) oQ,.l (.b .Mod (.b .FloorDiv bB (.cI 384)) (.cI 2))])) (sq [.e (.cD .a cY (sq [.h (sq [.cS "p",oQ])]))]) .n,.g (.v 9) (.b .Mod (.b .FloorDiv bB (.cI 768)) (.p .l (sq [cY]))),.j (.b .Add (.Be cY fK) (.Rz cY fK))]
noncomputable def Ve:Sx:=sq [.g (.v 5) (.b .Mod (.b .FloorDiv (.d 7 (sq [bB,.b .Add dT (.b .FloorDiv dO (.cI 2))])) (.sM (.l (.b .Mod dO (.cI 2))) (.cI 36) dT)) (.cI 36)),.i (.l (.b .Mod cY (.cI 4))) (sq [.aaE cw eB (.t (sq [.s (.h (sq [.cS "left",.cS "right",ET])) (.b .Mod (.b .FloorDiv cY (.cI 4)) (.cI 3)),.b .Add dT (.b .FloorDiv cY (.cI 12))]))]) .n]
noncomputable def af7:Sx:=sq [.g (.v 1) i6,.g (.v 2) (.h (sq [.cS "p",.cS "x",.cS "q",.cS "y",.cS "r",.cS "z",.cS "u",.cS "a"])),.f (.a [3,4]) (.u cR) Ve .n,.j cw]
noncomputable def Vf:Sx:=sq [.i (.fJ O (sq [.m .Eq (.s cR (.b .Sub dO dT)) oQ,.m .NotIn (.s cR dO) cw])) (sq [.e (.cD .a cw (sq [.s cR dO]))]) .n]
noncomputable def af8:Sx:=sq [.f (.v 3) (.KA (sq [dT,.p .l (sq [cR])])) Vf .n]
noncomputable def af9:Sx:=sq [.g (.v 1) (.h (sq [sW])),.f (.v 2) (.l bB) af8 .n,.j cw]
noncomputable def Vg:Sx:=sq [.i (.m .NotEq (.s lQ eO) oQ) (sq [.aaE eW (.s lQ eO) (.t (sq [fK,dT]))]) .n]
noncomputable def Vh:Sx:=sq [.i (.fJ O (sq [.m .Gt (.p .l (sq [lQ])) dT,.m .Eq (.s lQ eO) oQ])) (sq [.aaE eW (.s lQ dT) (.t (sq [fK,.cI 2]))]) .n]
noncomputable def Vi:Sx:=sq [.i (.m .NotIn kI eW) (sq [.aaE eW kI (.q eB),.A]) .n,.g (.v 14) (.sM (.m .In kI cR) (.s (.s cR kI) dT) eO),.i (.fJ Z (sq [.m .Lt gJ i5,.fJ O (sq [.m .Eq gJ i5,.m .Eq nX (.cS "left")])])) (sq [.aaE eW kI (.q eB)]) (sq [.i (.fJ O (sq [.m .Eq gJ i5,.m .Eq nX ET])) (sq [.aaE eW kI .cN]) (sq [.i (.m .Eq i5 eO) (sq [.e (.cD .a ij (sq [kI]))]) .n])])]
noncomputable def ML:Sx:=sq [.g (.v 6) (.s bB eB),.g (.v 7) i6,.g (.v 8) iV,.i (.m .Lt cY (.p .l (sq [fT]))) (sq [.i (.m .Eq (.s fT cY) oQ) (sq [.f (.a [9,10]) (.u bB) Vg .n]) (sq [.aaE eW (.s fT cY) (.t (sq [eB,.b .Add cY dT]))])]) .n,.i (.fJ O (sq [.m .Gt cY eO,.m .Eq (.s fT (.b .Sub cY dT)) oQ])) (sq [.f (.a [9,10]) (.u bB) Vh .n]) .n,.i (.m .Eq cY (.p .l (sq [fT]))) (sq [.i (.m .Eq eB eO) (sq [.aaE eW sW eO,.j (.t (sq [eW,ij]))]) .n,.g (.a [11,12]) (.s cw eB),.f (.v 13) (.l dO) Vi .n]) .n,.j (.t (sq [eW,ij]))]
def MM:Sx:=sq [.e (.ic eB 63 (sq [cY,.s (.s cR cY) eO,.s (.s cR cY) dT]))]
def BQ:Sx:=sq [.g (.v 9) (.s (.h (sq [.cS "",.cS "u",.cS "q"])) (.b .Mod eW (.cI 3))),.g (.v 7) (.b .FloorDiv eW (.cI 3)),.i (.m .NotIn fK cR) (sq [.g (.v 9) (.cS "")]) .n,.g (.v 10) (.sM (.l fK) fK (.s (.xC cw (.v 1) ij (sq [.m .NotEq cw oQ]) [U,U]) (.q dT))),.e (.cD .a fT (sq [.sM (.m .In lQ cR) (.s cR lQ) EP])),.e (.ic eB 58 (sq [oQ,.b .Add ij (.sM (.l fK) (.h (sq [EV,fK])) iV)]))]
def HS:Sx:=sq [.i (.m .NotIn cY (.v 21)) wh .n,.i (.l (.KB (.s wi cY))) (sq [.e (.cD .a (.v 22) (sq [.t (sq [.s (.v 21) cY,.s wi cY])]))]) (sq [.i (.m .NotEq (.s (.v 21) cY) (.s wi cY)) wh .n])]
noncomputable def MN:Sx:=sq [.i (.m .NotIn (.v 24) (.a nX 32)) wh .n,.i (.m .In (.v 24) kI) (sq [.i (.m .NotEq (.s kI (.v 24)) cY) wh .n]) (sq [.i (.RB cY kI) wh (sq [.aaE kI (.v 24) cY,.e (.cD .a gJ (sq [.v 24]))])])]
def BS:Sx:=sq [.g (.a [17,18]) (.s kI (.v 16)),.g (.a [19,20]) (.d 11 (sq [dO,fT,cR,i5,qt,pH])),.g (.v 15) (.b .Add mQ (.xC (.t (sq [cR,cw,.cS "shift"])) (.v 1) (.v 20) .n [U,U,M 16])),.g (.v 21) (.s (.a nX 32) (.v 16)),.i (.m .NotEq (.p .l (sq [.v 21])) (.p .l (sq [wi]))) wh .n,.g (.v 22) iV,.f (.v 5) (.l wi) HS .n,.g (.v 23) (.s (.a nX 33) (.v 16)),.i (.fJ O (sq [.m .Lt pH (.p .l (sq [.s dO qt])),.m .Eq (.s (.s dO qt) pH) oQ])) (sq [.i (.m .NotEq (.p .i (sq [.v 23])) (.h (sq [oQ]))) wh .n,.e (.cD .a (.v 22) (sq [.t (sq [.s (.v 23) oQ,.t (sq [qt,.b .Add pH dT])])]))]) (sq [.i (.m .NotEq (.v 23) i6) wh .n]),.f (.a [24,5]) (.l (.v 22)) MN .n]
def sX:Sx:=sq [.g (.v 1) (.d 7 (sq [bB,eO])),.g (.v 2) (.d 9 zu),.g (.v 3) (.b .Add (.h (sq [.h (sq [oQ])])) (.d 8 xP)),.g (.v 4) (.B 4 (sq [.h (sq [.cS "a",.cS "p",.cS "q",.cS "r",.cS "x",.cS "y",.cS "z"])])),.f (.v 5) (.l cR) MM .n,.g (.v 6) (.h (sq [EP])),.g (.v 7) (.d 7 (sq [bB,.cI 5])),.f (.v 8) (.l (.Be dO dT)) BQ .n,.e (.ic eB 59 (sq [oQ])),.g (.v 11) (.B 6 (sq [eB,.sM (.m .Gt (.p .u (sq [.xC EU (.v 1) dO .n [U,U,U]])) (.cI 10)) (.cS "SLR") (.s (.h (sq [.cS "LALR",.cS "SLR"])) (.b .Mod (.b .FloorDiv cw (.cI 3840)) (.cI 2)))])),.g (.v 12) (.d 10 (sq [dO])),.g (.v 13) (.xB (.kv eO (.t (sq [eO,eO])) .n)),.g (.v 14) (.h (sq [eO])),.g (.v 15) iV,.f (.v 16) (.l gJ) BS .n,.i (.fJ Z (sq [.m .NotEq (.p .l (sq [.a nX 32])) (.p .l (sq [kI])),.m .NotEq (.p .l (sq [.a nX 33])) (.p .l (sq [kI]))])) wh .n,.j (.fJ O (sq [.m .Eq (.a nX 42) iV,.m .Eq (.p .s (sq [.a nX 41])) (.p .s (sq [mQ]))]))]
def fG(f:aY):QH:=((ai.lookup f).map Df).elim default λd=>if h:d.ctorIdx=7 then Data.func.elim d h id else default
def zA(f:aY):List ju:=if h:(fG f).body.ctorIdx=0 then aq8 (fG f).body h id else []
abbrev BU(f:aY):Ss:=(fG f).params.args.map (·.arg)
abbrev HT(f:aY):bC:=⟨.type "function",U,.func (fG f),#[]⟩
def nmB(xs:Ss)(l:List (aP×xj)):Bool:=xs.zipIdx.all λp=>l[p.2]?==M (p.1,.local)||l[p.2]?==M (p.1,.cell)
def dB(f:aY)(k:Nat)(dv:List aS):Bool:=codeIn ai (fG f).code (fG f).qualname&&(J0 ai (.ref f)&&(dM (BU f).length (k+dv.length)&&(nmB (BU f) (fG f).scope.names&&(decide ((fG f).scope.names.map (·.1)).Nodup&&((fG f).scope.kind==.function&&(!(fG f).scope.isCoroutine&&!(fG f).scope.isGenerator))))))
def Vj(X:Type)(k:Nat):Type:=JR X (λa T=>aS->T) k
def cur{X:Type}(k:Nat):(List aS->X)->Vj X k:=JR (motive:=λk=>(List aS->X)->Vj X k) (λp=>p []) (λa ih p v=>ih λvs=>p (v::vs)) k
def aga{X:Type}:∀{p q:List aS->X},cur k p=cur k q->∀vs,vs.length=k->p vs=q vs:=by
 induction k with
 |zero=>exactλh vs e=>ak (anI e) h
 |succ k ih=>
  intro p q h vs e;cases vs with
  |nil=>exact ax e (qD k).symm
  |cons v vs=>exact ih (congrFun h v) vs (pb e)
def Vk{b:Bool}(h:(!b)=O):b=Z:=by
 cases b
 .rfl
 .exact b9 h
def dOk{f:Nat}(look:ai.lookup f=M (HT f))(hb:dB f k dv=O)
 (eta:fG f=fnX (fG f).name (fG f).qualname (fG f).params (zA f) (fG f).scope [] (fG f).defaults (fG f).kwdefaults (fG f).doc (fG f).pyModule (fG f).annotations (fG f).code (fG f).closureTuple)
 (bind:(λS=>cur k λvs=>peek ai S (aaB (fG f) ⟨vs,[]⟩))=λS=>cur k λvs=>M ((BU f).zip (vs++dv))):kG (fG f) (HT f) (zA f) (BU f) dv f k:=
 have h:=dS.mp hb;have h2:=dS.mp h.2
 have h3:=dS.mp h2.2;have h4:=dS.mp h3.2
 have h5:=dS.mp h4.2;have h6:=dS.mp h5.2
 have h7:=dS.mp h6.2
 ⟨look,Y,eta,h.1,h2.1,λs vs hK hl=>kp_binds hK λS=>aga (congrFun bind S) vs hl,aok h3.1,λj x e=>(yn.mp (lI.mp h4.1 (x,j) (CM.mpr e))).imp bq bq,aB h5.1,bq h6.1,Vk h7.1,Vk h7.2⟩
def HU(f k:Nat)(dv:List aS):=(ai.lookup f,dB f k dv,fG f,λS=>cur k λvs=>peek ai S (aaB (fG f) ⟨vs,[]⟩))
def HV(f k:Nat)(dv:List aS):=(M (HT f),O,fnX (fG f).name (fG f).qualname (fG f).params (zA f) (fG f).scope [] (fG f).defaults (fG f).kwdefaults (fG f).doc (fG f).pyModule (fG f).annotations (fG f).code (fG f).closureTuple,λa:Setting=>cur k λvs=>M ((BU f).zip (vs++dv)))
def Vl{f:Nat}(h:HU f k dv=HV f k dv):kG (fG f) (HT f) (zA f) (BU f) dv f k:=
 have h:=cP h;have h2:=cP h.2
 have h3:=cP h2.2
 dOk h.1 h2.1 h3.1 h3.2
def EY{f:Nat}{dx:Vs}(hd:∀W D',bP (VR W D') dv dx)(h:(HU f k dv,(ck ast (fG f).scope (.c (zA f))).isSome)=(HV f k dv,O)):fE f k ast dx:=⟨_,_,_,_,_,Vl (cP h).1,hd,dg _ (cP h).2⟩
def ip{f:Nat}(h:(HU f k [],(ck ast (fG f).scope (.c (zA f))).isSome)=(HV f k [],O)):fE f k ast []:=EY (λa a=>.iH) h
def agc(k:∀b c d a,DP (PE (.Lambda a b c d)))(x:cj):DP (PE x):=cc λh=>aq0 x h λa b c d=>k b c d a
def agd{P:JP->Prop}(k:∀px,DP (P (Mk px)))(x:JP):DP (P x):=by
 cases x with|mk a b c d e f g=>
 revert a;refine l0 ?_;revert b;refine l1 λb=>?_;revert c;refine xD ?_;revert d;refine l0 ?_;revert e;refine l0 ?_;revert f;refine xD ?_;revert g;refine l0 ?_;cases b with|mk y a px=>
 revert a;refine xD ?_;revert y;exact hG _ (k px)
def Vm{P:ju->Prop}{sc:fh}{i:Nat}{e:Sx}{du:List (Option Nat)}(k:∀pos s,HK sc i e du pos s->DP (P s)):∀x,DP (P x):=xE λp v=>jc λpy y=>by revert v;refine agc λbody scope pos=>agd λpx=>?_;exact dj (d5 (dx (dr (dn (db _) (dn (db _) (dn (ck _ _ _) (dn (db _) (dn (db _) (dn (dN _) (dN _))))))))):DP (HK sc i e du pos _)) (k pos _)
def age(sc:fh)(d:L3):∀l,DP (Ml sc d l):=lc λs1 r=>by revert s1;refine Vm (sc:=sc) (i:=d.i1) (e:=d.e1) (du:=d.oN) λEH s1 h1=>?_;revert r;refine lc λs2 r=>?_;revert s2;refine Vm (sc:=sc) (i:=d.i2) (e:=d.e2) (du:=d.oO) λEI s2 h2=>?_;revert r;refine lc λs3 r=>?_;revert s3;refine xE λp3 v=>jc λEJ x3=>?_;revert v;refine mM λpc va=>jc λpg g=>?_;revert r;refine l1 (RM λp4 v4=>?_);exact d5 (d5 (d3 (dr (dn (M ⟨h1⟩) (dn (M ⟨h2⟩) (dn (db _) (dn (db _) (dn (db _) (dn (ck _ _ _) (dn (xF _) (dn (sw _) (dn (ck _ _ _) (dN _)))))))))))))
def Vn{f:Nat}(h:(HU f k [],(fG f).code,(age (fG f).scope d (zA f)).isSome)=(HV f k [],.ref c,O)):EK f k c d:=⟨_,_,_,_,Vl (cP h).1,(cP (cP h).2).1,dg _ (cP (cP h).2).2⟩
def agf:fE (bS 1) 1 afk []:=ip (by kernel_rfl)
def agg:fE (bS 20) 4 Ms [V.cq [.s "right",.i 0],.n,.s "",.i 0]:=EY (λa a=>.hY (VR.lK.mpr ⟨54,[vS "right" 249,vI 0 250],Y,⟨.inr (by kernel_rfl),by decide⟩,.hY ⟨249,Y,by decide+kernel⟩ (.hY ⟨250,Y⟩ .iH)⟩) (.hY Y (.hY ⟨251,Y,by decide+kernel⟩ (.hY ⟨252,Y⟩ .iH)))) (by kernel_rfl)
def agh:fE (bS 21) 1 afm []:=ip (by kernel_rfl)
def agi:fE (bS 22) 3 afn []:=ip (by kernel_rfl)
def agj:fE (bS 3) 2 afp []:=ip (by kernel_rfl)
def agk:fE (bS 23) 2 afr []:=ip (by kernel_rfl)
def agl:fE (bS 25) 3 aft [.n,.s "",.i 0]:=EY (dv:=[.none,vS "" 448,vI 0 449]) (λa a=>(.hY Y (.hY ⟨_,Y,by decide+kernel⟩ (.hY ⟨_,Y⟩ .iH)))) (by kernel_rfl)
def agm:fE (bS 27) 2 afx []:=ip (by kernel_rfl)
def agn:fE (bS 28) 1 afA []:=ip (by kernel_rfl)
def ago:fE (bS 29) 1 afC [.n]:=EY (λa a=>(.hY Y .iH)) (by kernel_rfl)
def agp:fE (bS 30) 1 afE []:=ip (by kernel_rfl)
def agq:fE (bS 4) 3 UY []:=ip (by kernel_rfl)
def agr:fE (bS 5) 7 MD []:=ip (by kernel_rfl)
def MO:fE (bS 6) 1 afJ []:=ip (by kernel_rfl)
def ags:fE (bS 32) 2 afK []:=ip (by kernel_rfl)
def Vo:fE (bS 33) 3 U0 []:=ip (by kernel_rfl)
def agt:fE (bS 34) 1 MI []:=ip (by kernel_rfl)
def agu:fE (bS 35) 1 afQ []:=ip (by kernel_rfl)
def agv:fE (bS 36) 2 afT []:=ip (by kernel_rfl)
def agw:fE (bS 37) 4 afV []:=ip (by kernel_rfl)
def agx:fE (bS 38) 4 afX []:=ip (by kernel_rfl)
def agy:fE (bS 39) 4 af1 []:=ip (by kernel_rfl)
def agz:L3:=⟨4,(.ic (.v 3) 61 (.c (.v 1) (.c (.v 0) (.c (.v 2) .n)))),[U,M 1,M 3,M 0],5,(.ic (.v 3) 62 (.c (.v 1) (.c (.v 0) (.c (.v 2) .n)))),[U,M 1,M 3,M 0],6,4,2⟩
def agA:EK (bS 40) 4 395 agz:=Vn (by kernel_rfl)
def agB:L3:=⟨4,(.s (.v 1) (.v 0)),[U,M 2],5,(.cD .g (.v 1) (.c (.v 0) (.c (.h .n) .n))),[U,M 3],6,4,1⟩
def agC:EK (bS 41) 4 402 agB:=Vn (by kernel_rfl)
def agD:fE (bS 42) 3 Vb []:=ip (by kernel_rfl)
def agE:fE (bS 43) 2 af3 []:=ip (by kernel_rfl)
def agF:fE (bS 44) 1 MK []:=ip (by kernel_rfl)
def agG:fE (bS 7) 2 af6 []:=ip (by kernel_rfl)
def agH:fE (bS 8) 1 EX []:=ip (by kernel_rfl)
def agI:fE (bS 9) 1 af7 []:=ip (by kernel_rfl)
def agJ:fE (bS 10) 1 af9 []:=ip (by kernel_rfl)
def agK:fE (bS 11) 6 ML []:=ip (by kernel_rfl)
def agL:fE (bS 12) 1 sX []:=ip (by kernel_rfl)
def agM:fE (bS 24) 4 afs []:=ip (by kernel_rfl)
def agN:fE (bS 20) 8 Ms []:=ip (by kernel_rfl)
def agO:fE (bS 26) 2 afu []:=ip (by kernel_rfl)
def agP:fE (bS 31) 3 ME [.n]:=EY (λa a=>(.hY Y .iH)) (by kernel_rfl)
def agQ:nsIn (K0 w0.params++Z0) lJ "__builtins__"=M (M (.ref 4)):=by kernel_rfl
def xR(c:aY):Array aS:=((ai.lookup c).map Df).elim #[] λd=>if h:d.ctorIdx=9 then aq9 d h id else#[]
def Vp{c P:aY}{tf:pv}(k:ai.lookup c=M (oF (vY "code") (xR c)))(k1:((xR c)[11]?,(xR c).getD 11 .none,(xR c).getD 18 .none,(xR c).getD 7 .none,(xR c).getD 9 .none,(xR c).getD 10 .none,ai.lookup 4)=(M (.ref P),.ref P,fS tf,vI 3 0,vT O,vI 181 0,M (boot_o_4 w0.params)))(k7:c≠P)
 (g:lJ≠P)(b4:4≠P):rI c P:=by
 refine J7 (cP k1|>.imp id λh=>cP h|>.imp id λh=>cP h|>.imp id λh=>cP h|>.imp id λh=>cP h|>.imp id λh=>cP h) λk1 k2 k3 k4 k5 k6 hb=>?_;exact⟨λh X=>⟨_,xR c,_,tf,3,0,O,181,0,X _ _ k,Y,Y,k1,k2,k3,k4,k5,k6,k7⟩,λh mg X G=>⟨4,_,mg_of X G agQ,ao Y,ao Y,b4,X _ _ hb,by kernel_rfl,by kernel_rfl,by kernel_rfl⟩,g⟩
def Vq:rI 395 391:=Vp (tf:=806) (by kernel_rfl) (by kernel_rfl) (ao Y) (ao Y) (ao Y)
def Vt:rI 402 398:=Vp (tf:=821) (by kernel_rfl) (by kernel_rfl) (ao Y) (ao Y) (ao Y)
variable{Q:Src->QA} {d t es:Sx} {k:Int} {a:Nat} {b:Bool} {it:aY}
section
variable{ai:QA} {N:Nat}
def Vu:Tr K (.i k) (k !=0):=λF A n W s v T vx=>cQ vx λt e=>ak e (truthy_int ⟨⟨s.toks,Y⟩,Y⟩)
def MP{z:aP}(hj:j<=1000)(h:z.cps[j]?=M c):I2 K (.s z) (.i j) (.s ⟨#[c]⟩):=λF A n W s v u T vx vy=>cQ vx λt e=>e.1▸cQ vy λt' e'=>e'▸
 ⟨⟨"str",_,typeIs_str s z t,slot_str_getitem.lookup⟩,getItem_str (by rw[aA (vG.mpr (yu (ao Y) (jR j))),aA (Gr.mpr (AM (qb.mpr hj) (ao Y)))];rfl) (by
   have lt:=(anM.mp h).1;rw[show Dd (j) (z.length)=M j from KT lt];exact h) ⟨⟨s.toks+1,Y⟩,⟨s.toks,Y,by
   have k:=e.2;unfold pZ at k⊢;rw[aoy]at k;refine oE (anM.mp h) λlt hc=>?_;have q:=k j lt
   rw[hc]at q;rw[aoy];exactλi hi=>by obtain rfl:i=0:=Qi.mp hi;exact q⟩⟩⟩
def agR{Q:QV}(hl:K.h l=M (.l (js.map .i)))(q:Q (.i js.sum) K):OL n (.builtin "sum") [.e l] Q K:=rE (lO _) λF A W s v T vx=>vx.1▸by
 have I:=adL (T.aC.jF hl);obtain⟨xs,e⟩:=I.allInts.items;have hi:s.heap.IsList (W.ρ l) (intItems xs):=aj e (T.aC.pF hl)
 have p:preSum (numAt xs) xs.size=js.sum:=by
  rw[preSum_eq,AJ (by rw[bc,AL];exact b8 _),<-nums_intItems,<-e]
  exact aq List.sum I.numsOf
 exact sum_intListG T.aF.aC hi λh' tk t' hk=>⟨W,K,.i js.sum,T.aC.qo hk,Ext.jE,⟨t',aq (Value.int · t') p⟩,q⟩
def Vv(P:jq)(ah:jr):nsIn (K0 P++ah) lJ "isinstance"=M U/\nsIn (K0 P++ah) lJ "tuple"=M U:=⟨by kernel_rfl,by kernel_rfl⟩
def Vw:C8 "isinstance"=M (.builtin "isinstance")/\C8 "tuple"=M (.type "tuple"):=⟨by decide+kernel,by decide+kernel⟩
def IsT(x:V)(b:Bool):Prop:=(∃xs,x=V.cq xs/\b=O)\/((∃k,x=.i k)/\b=Z)\/(x=.n/\b=Z)
def agS{R:QE}(T:St F A n W K s)(vx:VR W (aZ K.h) v x)(i:IsT x b)(q:∀tk,R (.bool b) {s with toks:=tk}):wpAny Md A (call (.builtin "isinstance") [v,.type "tuple"]) R br s:=by
 rcases i with⟨xs,rfl,rfl⟩|⟨⟨k,rfl⟩,rfl⟩|⟨rfl,rfl⟩
 .obtain⟨a,us,rfl,ht,_⟩:=VR.lK.mp vx;exact IsiPair.tuple_tuple (T.aC.th a us ht) Y (q s.toks)
 .obtain⟨t,rfl⟩:=vx;exact IsiPair.int_tuple (q _)
 .obtain rfl:v=.none:=vx;exact IsiPair.NoneType_tuple (q _)
def agT{Q:QV}(h:WE n e (λx aT=>∃b,IsT x b/\Q (.o b) aT) K):WE n (.KB e) Q K:=λF A W s q T c=>c.elim λq1 c=>c.elim λq2 c=>c.elim λv c=>c.elim λp c=>gH c.1<|aN<|
 Bm T c.2.1 (Vv w0.params Z0).1 Vw.1 (ao Y)<|yZ (λpos env=>by rw[c.2.2.2.2.1];rfl)<|C3 (he:=c.2.2.2.2.1 _ _)<|
 wm (h F A W s v T c.2.2.2.1) λu bp p=>p.dc λbg aT x R e vx k=>k.elim λb k=>
  C3 (Bm ⟨T.aF,R⟩ c.2.2.1 (Vv w0.params Z0).2 Vw.2 (ao Y) (C6 ⟨lO _ _,agS ⟨T.aF,R⟩ vx k.1 λtk=>⟨bg,aT,.o b,R.qJ tk,e,Y,k.2⟩⟩))
noncomputable def MQ(a N:Nat):Src:=λi b x=>(if a+i<N then M (.i (a+i:Nat))else U)=x
def agU:jH b it [it] (λi W D=>True/\∃o,(it,o)∈W.n/\o=Lq ((a+i:Nat):Int) ((N:Int)-(a+i:Nat))) (MQ a N):=
 .oM (nm:="range_iterator") (ao Y) (λi o p=>ak p ⟨Y,_,Y⟩) (λc c c c h t=>h) (λF A n W K s i o R T g p r=>wpAny_pyIter_rangeiter (p▸g) r) λF A n W K s i o x T g p e sv R h1 h2=>by
  subst p;by_cases hi:a+i<N
  .exact wpAny_pyNext_range_item g (Int.sub_pos.mpr (jB.mpr hi)) λh' fD sb=>h1 _ _ h' _ _ (sv.symm.trans (aw hi)) sb fD (show Lq (((a+i))+1) ((N)-(a+i)-1)=Lq ((a+(i+1))) ((N)-((a+(i+1)))) by rw[Int.sub_sub];rfl) ⟨_,Y⟩
  .exact wpAny_pyNext_range_end T.aF.aC g (Int.sub_nonpos_of_le (qb.mpr (iP.mp hi))) λh'=>h2 (sv.symm.trans (au hi)) h'
def agV(h:a<=N):aqw (a:Int) (N:Int) 1=(N:Int)-(a:Nat):=by
 rw[rangeSize_one];by_cases c:(a:Int)<N
 .exact aw c
 .rw[au c];obtain rfl:a=N:=pY h (iP.mp λw=>c (jB.mpr w));exact(Int.sub_self _).symm
def agW(h:WL n es (λxs aT=>∃a N:Nat,xs=[.i a,.i N]/\a<=N/\N<=1000000/\Q (MQ a N) aT) K):WI n b (.KA es) Q K:=λF A W s q T c=>c.elim λnq c=>c.elim λvs c=>c.elim λp c=>Lv c.1<|aN<|Bm T c.2.1 (Tf w0.params Z0).2 Th.2 (ao Y)<|yZ c.2.2.2<|
 wm (h F A W s vs p T c.2.2.1) λus bp p=>p.dc λbg aT xs R e al k=>k.elim λa k=>k.elim λN k=>by
  obtain⟨rfl,le,z,q⟩:=k;obtain⟨u,r,rfl,⟨t,rfl⟩,a1⟩:=al.kC;obtain⟨v,r,rfl,⟨t',rfl⟩,a2⟩:=a1.kC;obtain rfl:=bP.oy a2;refine⟨Bu _ _,call_range_2 (wpAny_pyIter_range (IsRange.new ..) (small_one (yu (ao Y) (jR a)) (AM (qb.mpr (aV le z)) (ao Y)) (yu (ao Y) (jR N)) (AM (qb.mpr z) (ao Y))) ?_)⟩;have R':aX F bg aT {bp with heap:=bp.heap.push {cls:=.type "range",data:=.fields #[.int a t,.int N t',.int 1 bp.toks]},toks:=bp.toks+1}:=R.qo λd d e=>eG _ e
  exact(oK.oM R' Y (by rw[agV le];rfl) trivial (λd d d d h t=>h) agU q).dy e
end
def agX:∀(vs:List aS)(zs:Ss),vs.length=zs.length->(∀(j:Nat)(v:aS)(z:aP),vs[j]?=M v->zs[j]?=M z->∃t,v=.str z t)->QL vs zs:=by
 intro vs
 induction vs with
 |nil=>intro zs l _;cases zs<;>first|exact .nil|cases l
 |cons v vs ih=>
  intro zs l q;cases zs with
  |nil=>cases l
  |cons z zs=>obtain⟨t,rfl⟩:=q 0 v z Y Y;exact .cons _ _ (ih zs (pb l) λj v' z' h1 h2=>q (j+1) v' z' h1 h2)
def agY{S d:aY}{held:aS}{ds:List eQ}{k:Nat}{es:Es}{ss:Ss}(hh:A.handled=U)(na:(d==xh)=Z)(g:s.heap.get? d=M (iZ ds k))(hS:s.heap.get? S=M (listOf #[] c))(Sd:S≠d)
 (al:bP (DE W D) ds es) (e:es.map (·.1)=ss.map .s) (nd:(es.map (·.1)).Nodup) (z:ss.length<64)
 (h:∀h' tk BV c',(∀b o,b≠S->s.heap.get? b=M o->h'.get? b=M o)->h'.get? S=M (listOf BV c')->QL BV.toList ss->R (.ok (.ret held)) {s with heap:=h',toks:=tk}):
 wpAny Md A.in1 (anA (.ref S) (.ref d) held) (λfin s'=>match fin with|.done f=>R (.ok f) s'|.again c'=>c'.quiet=O/\ry Md A c' R s') E s:=by
 refine oA (TS g al e nd) λDA ln=>?_;have kl:(ss.zip (ds.map (·.val))).length=ss.length:=by simp[ln]
 have dlt:d<s.heap.objs.size:=eJ g;have slt:S<s.heap.objs.size:=eJ hS
 unfold anA;refine aN (JJ ⟨_,g,Y⟩ ?_);have h1:anF (.ref S) (.ref d)=Z:=by simp[anF,Sd]
 have h2:(xf "dict"==xf "list")=Z:=ao Y;have h3:(xf "dict"==xf "tuple")=Z:=ao Y
 simp only[h1,h2,h3,apc,CX,if_false];refine aN (wpAny_pyIter_dict na DA ?_);refine aN (jU (ad6 (eG _ g) ?_));refine aae (λa=>?_) (λEr=>ax (by decide+kernel) Er)
 refine aN (qe ?_);have S2:=eG ({cls:=.type "dict_keyiterator",data:=.fields #[.ref d,.int 0 0,.int (ss.zip (ds.map (·.val))).length 0,.int k 0]}:bC) hS
 refine aN ?_;refine aN (aad S2 Y ?_);have S3:=tX (qc (·.push pe)) S2 Y
 refine aad S3 Y ?_;have S4:=tX (qc (·.pop)) S3 Y
 have nY:∀b o,b≠S->(s.heap.push ({cls:=.type "dict_keyiterator",data:=.fields #[.ref d,.int 0 0,.int (ss.zip (ds.map (·.val))).length 0,.int k 0]}:bC)).get? b=M o->
  (((s.heap.push ({cls:=.type "dict_keyiterator",data:=.fields #[.ref d,.int 0 0,.int (ss.zip (ds.map (·.val))).length 0,.int k 0]}:bC)).update S (qc (·.push pe))).update S (qc (·.pop))).get? b=M o:=
  λb o hb e=>(Gb _ _ (Gw hb)).trans ((Gb _ _ (Gw hb)).trans e)
 have nI:d≠s.heap.objs.size:=gZ dlt;have WK:=(Walks.dictKeys (knd:=strKind pr w0) (A:=A.in1) (by simpa using hh) s.heap.objs.size d nI (ss.zip (ds.map (·.val))) k).toS
 have I4:=nY s.heap.objs.size _ (fQ slt) (jY _ Y);have D4:=nY d _ (Gw Sd) (eG _ g)
 refine bw ⟨plainId_quiet PySem.F.plain_extend_loop _,codeAny_extend_loopS WK (by rw[kq,kl];exact aV (dK z) (ao Y)) S (by simp;exact⟨gZ slt,Sd⟩) _ _ 0 _ _ _ Y (b7 _) ⟨⟨_,I4,Y,Y⟩,?_⟩ S4 (ItemsOf.nil _) λs' BV c' hm S' ag0=>?_⟩
 .exact(TS D4 al e nd).1
 .rw[Moved.eq_with hm];refine h s'.heap s'.toks BV c' (λb o hb eb=>?_) S' ?_
  .refine hm.heap b o (λMR=>?_) (nY b o hb (eG _ eb));rcases cU.mp MR with e1|MR
   .exact hb e1
   .rw[bK.mp MR]at eb;exact ax (eJ eb) (dq _)
  .refine oA ag0 λq1 q2=>?_;have ag1:BV.toList.length=ss.length:=by simpa [kl]using q1
   refine agX _ _ ag1 λj v zz hv hz=>?_;refine xm (q2 j v (by simpa using hv)) λk' x hx hk=>?_
   have:(ss.zip (ds.map (·.val)))[j]?=M (k',x):=hx;rw[anS]at this;rw[hz]at this;obtain⟨t,rfl⟩:=Value.isStrOf_shape hk;have:=this.1
   cases this;exact⟨t,Y⟩
def ag2{f:Nat->Bool}:∀{l:List α}{b:Nat},(∀k,k<b+l.length->f k=decide (m<=k))->((l.zipIdx b).filterMap λp=>if f p.2=O then U else M p.1)=l.take (m-b):=λ{l}=>by
 induction l with
 |nil=>exactλd=>List.take_nil.symm
 |cons a l ih=>
  intro b h;have h':∀k,k<b+1+l.length->f k=decide (m<=k):=λk lt=>h k (by rw[vD,<-rj,w9];exact lt)
  have hb:=h b (an7 (fY _));rw[List.zipIdx_cons,Jo];by_cases c:m<=b
  .rw[aw (hb.trans (az c)),ih h',aoj c,aoj (jZ c)]
   rfl
  .rw[au (λw=>c (aB (hb.symm.trans w))),ih h',<-Nat.succ_sub_succ m b,apu (Gp.mp c)]
   rfl
def ag3{z k:Nat}(hn:0<n)(h:k<z):(decide ((sliceBounds (M (-(n:Int))) U U z).1<=(k:Int))&&decide ((k:Int)<(z:Int))&&(((k:Int)-(sliceBounds (M (-(n:Int))) U U z).1)%1==0))=decide (z-n<=k):=by
 rw[az (jB.mpr h),Int.emod_one,Qj];refine(Qj _).trans (decide_eq_decide.mpr ?_);show max 0 (min (if(-(n:Int))<0 then-(n:Int)+z else-(n:Int)) z)<=(k:Int)↔_;have Vx:-(n:Int)<0:=aoE (jB.mpr hn)
 rw[aw Vx,Z9 (yu (Int.add_le_add_right (JG Vx) _) (Int.le_of_eq (apx _))),Int.max_le,apA,Int.add_neg_eq_sub];exact⟨λh=>aoi.mpr (qb.mp (Int.le_add_of_sub_right_le h.2)),λh=>⟨jR k,Int.sub_right_le_of_le_add (qb.mpr (aoi.mp h))⟩⟩
theorem ag4{a sl:aY}{bu:Array aS}{k:Nat}{t:pv}{Q:Unit->bL->Prop}(hl:s.heap.get? a=M (listOf bu k))(hs:s.heap.IsSliceOf sl (.int (-(n:Nat)) t) .none .none)(hn:0<n)(z:bu.size<=yx)
 (h:∀h' k',qa a s.heap h'->h'.get? a=M (listOf (bu.toList.take (bu.size-n)).toArray k')->Q () {s with heap:=h'}):wpAny Md A (delItem (.ref a) (.ref sl)) Q br s:=by
 refine fH (id hs) λos zB hcs MS=>?_;have hT:s.TypeIs (.ref a) "list":=⟨_,hl,Y⟩
 have Vy:s.TypeIs (.ref sl) "slice":=⟨os,zB,hcs⟩;refine wpAny_delItem_slot hT (ao Y) F.slot_list_delitem (oo F.slot_list_delitem hT F.entry_list_delitem ?_ (F.args_list_delitem_2 _ _));show wpAny _ _ (Zi (.ref sl)>>=_) _ _ s;refine aN ?_;unfold Zi;refine aN (yt Vy slice_no_index ?_);simp only[Option.isNone_none,if_true];refine bw ?_;refine aN (JJ Vy ?_);rw[au (ao Y),listSliceParts_eq];refine aN (aN (uc zB MS Y (aN (aaj .none ?_))));rw[au (show¬((rawPart U==iw 0)=O) from dZ)]
 refine aN (uc zB MS Y (aN (aaj (.int _ t) ?_)));refine aN (uc zB MS Y (aN (aaj .none (bw ?_))));refine aN ?_;unfold aqB;refine aN (Qk hl Y (bw ?_));refine aN (aat (sliceIndices_raw (M (-n)) U U bu.size (λe=>cW e)) ?_);refine aN (qe (aN ?_));have e:=ag2 (l:=bu.toList) λk lt=>ag3 hn (by rwa [ro]at lt)
 refine aad (_hz':=?_) hl Y (aN (Qs (bw ⟨_,Y,?_⟩)))
 .exact h _ _ (tY ..) ((tX _ hl Y).trans (aq (λx:List aS=>M (listOf x.toArray _)) e))
 .exact jZ (aV (CT ..) (by rw[PR,AL];exact z))
def ag6{k:Nat}{ai:QA}(hm:K.m i=M (.e l))(l0:l.1≠0)(hl:K.h l=M (.l vs))(hk:0<k)(z:vs.length<=16777216)(q:ai (K.aH l (.l (vs.take (vs.length-k))) K.t)):WN n (.Kz i k) ai K:=λF A W s x T f c=>c.elim λy c=>c.elim λp c=>c.elim λk' c=>c.elim λp2 c=>c.elim λp3 c=>c.elim λp4 c=>c.elim λp5 c=>c.elim λp6 c=>lP c.1<|wpAny_Delete<|wpAny_deleteEach_cons<|wpAny_delete_Subscript<|
 wm (aG hm n (λx bk=>x=.e l/\bk=K) ⟨Y,Y⟩ F A W s _ T ⟨y,p,Y,c.2⟩) λv bp r=>by
  obtain⟨bg,aT,x,iU,gw,vx,rfl,rfl⟩:=r;refine Qt (ZY (wm (rD bG n (λy bk=>y=.i (-(k:Int))/\bk=aT) ⟨Y,Y⟩ F A bg bp _ ⟨T.aF,iU⟩ ⟨_,_,Y,_,_,Y⟩) λu b6 r=>?_));obtain⟨dt,cK,y,eN,fc,vy,rfl,rfl⟩:=r;obtain⟨t,rfl⟩:=vy;refine yp (yp ?_);have R':aX F dt cK {b6 with heap:=b6.heap.push {cls:=.type "slice",data:=.fields #[.int (-(k:Int)) t,.none,.none]}}:=eN.qo λa a e=>eG _ e
  have vx:=vx.bU (fc.tu iU.aC.aC iU.nx);obtain⟨rfl,_⟩:=vx;have ln:=R'.pE hl
  refine ag4 (R'.iS hl) (Jj ..) hk (by rw[ln,kq];exact z) λh' k' sb g=>?_
  obtain⟨f7,gE,x,nS,uw,fl,q⟩:=R'.K7 (rel:=λa a(f:ue)(a:Unit)=>f=Qu) (ai:=λa=>ai) (x:=()) l0 hl sb g (by rw[List.toList_toArray,ln];exact(R'.jF hl).GK _) (aV (q7 ..) (aV z (ao Y))) (λa a a=>Y) q
  exact wpAny_deleteEach_nil ⟨f7,gE,(),nS,gw.dy (fc.dy uw),fl,q⟩
variable{h:fL}
def wk(x:V):J1:=(ia x).1
def HW(T:TH W h):∀{vs:Vs},(∀y∈vs,y.cV 7=O)->∀{bu:List aS},bP (VR W D) bu vs->∃as,aaC h bu (vs.map wk) as/\aoo (vs.map wk)=O/\ZR (vs.map wk)<=8:=λ{vs}=>by
 induction vs with
 |nil=>exactλa {bu} k=>ak k.oy ⟨_,.nil,Y,b7 _⟩
 |cons x vs ih=>
  intro kv bu k;obtain⟨v,r,rfl,vx,al⟩:=k.kC;refine fH (ih (λy h=>kv y (.tail _ h)) al) λbs rb cb db=>?_;have ai:=(vQ (D:=D) T x 7 (kv x (.head _))).1
  obtain⟨⟨as,ra⟩,_,ca⟩:=ai.aC v vx;exact⟨_,.cons ra rb,dS.mpr ⟨ca,cb⟩,Qr.mpr ⟨ai.aF,db⟩⟩
def Vz:∀{vs:Vs},(∀y∈vs,y.cV 7=O)->JC (vs.map wk) (vs.map wk)=O:=λ{vs}=>by
 induction vs with
 |nil=>exactλa=>rfl
 |cons x vs ih=>exactλkv=>dS.mpr ⟨(KW (kv x (.head _)) (kv x (.head _))).trans (az Y),ih λy h=>kv y (.tail _ h)⟩
def MT(h1:K.h l=M (.l vs))(h2:K.h l'=M (.l vs))(kv:∀y∈vs,y.cV 7=O):R2 K (ox .Eq) (.e l) (.e l') (.o O):=λF A n W s v u T vx vy=>vx.1▸vy.1▸by
 refine fH (HW T.aC.th kv (T.aC.jF h1)) λas ra ca da=>?_;refine fH (HW T.aC.th kv (T.aC.jF h2)) λbs rb cb db=>?_;have e:AW (.list (vs.map wk)) (.list (vs.map wk))=O:=Vz kv
 exact aj e (an5 (.list (T.aC.iS h1) Y Y ra) (.list (T.aC.iS h2) Y Y rb) ca cb (bM (gu (aV (Qe ..) (j3 da)) _) (T.cl (ao Y))) (RV.oH))
def ag7(h1:K.h l=M (.l vs))(h2:K.h l'=M (.l vs))(kv:∀y∈vs,y.cV 7=O):R2 K (ox .NotEq) (.e l) (.e l') (.o Z):=λF A n W s v u T vx vy=>vx.1▸vy.1▸by
 refine fH (HW T.aC.th kv (T.aC.jF h1)) λas ra ca da=>?_;refine fH (HW T.aC.th kv (T.aC.jF h2)) λbs rb cb db=>?_;have e:(!AW (.list (vs.map wk)) (.list (vs.map wk)))=Z:=aq (!·) (Vz kv)
 exact aj e (an4 (.list (T.aC.iS h1) Y Y ra) (.list (T.aC.iS h2) Y Y rb) ca cb (bM (gu (aV (Qe ..) (j3 da)) _) (T.cl (ao Y))) (RV.oH))
noncomputable def mix(R:Nl)(u h:Hp):Hp:=λl=>bif R.contains l.1 then u l else h l
noncomputable def ba(R:Nl)(u m:Mp):Mp:=λi=>bif R.contains i then u i else m i
abbrev Nx(n:Nat)(r:Sx)(Q:QF):QF:=λg K=>Fw.rec (motive:=λd=>Prop) (WB n r Q K) (Q .b K) (Q .c K) (λv=>Q (.r v) K) g
variable{k:Nat} {Q:QF} {E:QV} {a b:Sx} {c:Bool} {h:Hp} {ob:af}
section
variable{o:Sx} {ai:QA} {ds:Es}
def uE{R:Nl}:h=mix R h h:=funext λl=>by unfold mix;cases R.contains l.1<;>rfl
def bJ{R:Nl}{u:Hp}(hl:R.contains l.1=O):(mix R u h).aH l ob=mix R (u.aH l ob) h:=funext λk=>by
 unfold mix Hp.aH;by_cases e:k=l
 .rw[aw e,e,hl,aw Y];rfl
 .rw[au e,au e]
def mR{R:Nl}(hl:R.contains l.1=O):h.aH l ob=mix R (h.aH l ob) h:=(aq (λx:Hp=>x.aH l ob) uE).trans (bJ hl)
def kb{R R':Nl}{u v:Hp}(s:R'.all R.contains=O):mix R' v (mix R u h)=mix R (mix R' v u) h:=funext λk=>by
 unfold mix;cases q:R'.contains k.1 with
 |false=>rfl
 |true=>rw[lI.mp s _ (gj.mp q)];rfl
def re(h:RE K e x)(q:E x K):WE n e E K:=h n _ q
def rl{P:Vs->QA}(h:RL K es xs)(q:P xs K):WL n es P K:=h n _ q
def eZ(h:RE K e x)(k:WB n r Q (K.dw i x)):WB n (.c (.g (.v i) e) r) Q K:=hM (SG (h n _ k))
def cF(h:WE n e (λx aT=>WB n r Q (aT.dw i x)) K):WB n (.c (.g (.v i) e) r) Q K:=hM (SG h)
def kc(h:RE K e x)(k:Q (.r x) K):WB n (.c (.j e) r) Q K:=f6 (SE (h n _ k))
def EZ(h:WE n e (λx aT=>Q (.r x) aT) K):WB n (.c (.j e) r) Q K:=f6 (SE h)
def oR(h:WE n e (λa aT=>WB n r Q aT) K):WB n (.c (.e e) r) Q K:=hM (acj h)
def zC(q:Q .c K):WB n (.c .A r) Q K:=f6 (aci q)
def xS(q:Q .b K):WB n (.c .D r) Q K:=f6 (ach q)
def VA{a:Nat}(he:RE K e y)(ho:RE K o (.e l))(hl:K.h l=M (.i k f))(d:ku k a=O)(q:WB n r Q (K.aH l (.i k (aJ f a y)) K.t)):WB n (.c (.dG o a e) r) Q K:=hM (Lb (he n _ (ho n _ (vW hl d q))))
def E0{a:Nat}(he:WE n e (λy K=>WE n o (λx cK=>D8 x a y (WB n r Q) cK) K) K):WB n (.c (.dG o a e) r) Q K:=hM (Lb he)
def wo(he:RE K e z)(ho:RE K o (.e l))(hi:RE K a y)(hl:K.h l=M (.d ds))(kx:y.cV 7=O)(hz:ds.length<16777216)(q:WB n r Q (K.aH l (.d (cX ds y z)) K.t)):WB n (.c (.aaE o a e) r) Q K:=hM (uv (he n _ (ho n _ (hi n _ (vV hl kx hz q)))))
def mq(h:RT K t c)(ha:c=O->WB n a (Nx n r Q) K)(hb:c=Z->WB n b (Nx n r Q) K):WB n (.c (.i t a b) r) Q K:=f6 (xK (h n _ (by
 cases c
 .exact hb Y
 .exact ha Y)))
def gN(h:RT K t O)(ha:WB n a (Nx n r Q) K):WB n (.c (.i t a b) r) Q K:=f6 (xK (h n _ ha))
def eC(h:RT K t Z)(hb:WB n b (Nx n r Q) K):WB n (.c (.i t a b) r) Q K:=f6 (xK (h n _ hb))
def MU(N:Nat)(I:Nat->QA)(j:Nat):QA:=if j<=N then I j elseλa=>False
def oU{tg:Tg}{G:QF}(xs:Vs)(I:Nat->QA)(hS:∀i K,I i K->S i K.h xs[i]?)(i0:I 0 K)(step:∀j v K,xs[j]?=M v->I j K->xM tg v (WB n b (Fw.lp (I (j+1)) G)) K)(fin:∀K,I xs.length K->WB n o G K):
 ∃(I:Nat->QA)(N:Nat),I 0 K/\∀i K,I i K->(S i K.h U/\WB n o G K)\/∃v,S i K.h (M v)/\i<N/\xM tg v (λbk=>WB n b (Fw.lp (I (i+1)) G) bk) K:=by
 have e:∀{j},j<=xs.length->MU xs.length I j=I j:=λh=>aw h;refine⟨MU xs.length I,xs.length,aj (e (b7 _)) i0,λj K J=>?_⟩;by_cases le:j<=xs.length
 .rw[e le]at J;have s:=hS j K J
  cases hv:xs[j]? with
  |none=>exact .inl ⟨aj hv s,fin K (aj (pY le (jj.mp hv)) J)⟩
  |some v=>have lt:=(cG.mp hv).1;exact .inr ⟨v,aj hv s,lt,aj (e lt).symm (step j v K hv J)⟩
 .unfold MU at J;rw[au le]at J;exact J.elim
def iW(vs:Vs)(I:Nat->QA)(he:RE K e (.e l))(hl:∀j K,I j K->K.h l=M (.l vs))(i0:I 0 K)(step:∀j v K,vs[j]?=M v->I j K->WB n b (Fw.lp (I (j+1)) (Nx n r Q)) (K.dw i v))(fin:∀K,I vs.length K->WB n r Q K):WB n (.c (.f (.v i) (.l e) b .n) r) Q K:=
 f6 (nU (qQ (re he (qP (hl 0 K i0) (oU vs I (λi K J=>⟨vs,hl i K J,Y⟩) i0 step λK J=>aM (fin K J))))))
def ag8(vs:Vs)(I:Nat->QA)(he:RE K e (V.cq vs))(i0:I 0 K)(step:∀j v K,vs[j]?=M v->I j K->WB n b (Fw.lp (I (j+1)) (Nx n r Q)) (K.dw i v))(fin:∀K,I vs.length K->WB n r Q K):WB n (.c (.f (.v i) (.l e) b .n) r) Q K:=
 f6 (nU (qQ (re he (Lu (oU vs I (λi K J=>Y) i0 step λK J=>aM (fin K J))))))
def BW{i':Nat}(vs:Vs)(I:Nat->QA)(he:RE K e (.e l))(hl:∀j K,I j K->K.h l=M (.l vs))(i0:I 0 K)(step:∀j v K,vs[j]?=M v->I j K->WB n b (Fw.lp (I (j+1)) (Nx n r Q)) ((K.dw i (.i j)).dw i' v))(fin:∀K,I vs.length K->WB n r Q K):WB n (.c (.f (.a [i,i']) (.u e) b .n) r) Q K:=
 f6 (nU (Ti (re he (ac9 (hl 0 K i0) (oU (vs.mapIdx λj v=>V.cq [.i j,v]) I (λj K J=>⟨vs[j]?,⟨vs,hl j K J,Y⟩,Jk⟩) i0 (λj v K hv J=>by rw[Jk]at hv;obtain⟨x,hx,rfl⟩:=Ga.mp hv;exact⟨_,Y,Y,step j x K hx J⟩) λK J=>aM (fin K (by rwa [ZG]at J)))))))
def wq(I:Nat->QA){m₀:Nat}(i0:I m₀ K)(turn:∀m K,I m K->∃c,RT K t c/\(c=O->WB n a (Fw.lp (λK=>∃m',m'<m/\I m' K) (Nx n r Q)) K)/\(c=Z->WB n r Q K)):WB n (.c (.qL t a .n) r) Q K:=
 f6 (Lc I i0 λm K J=>(turn m K J).elim λc k=>k.1 n _ (by
  cases c
  .exact aM (k.2.2 Y)
  .exact k.2.1 Y))
def MV{m:Mp}:aJ (aJ m i x) i y=aJ m i y:=funext λj=>by
 unfold aJ;by_cases e:j=i
 .rw[aw e,aw e]
 .rw[au e,au e,au e]
def jx{R:Nl}{m:Mp}:m=ba R m m:=funext λj=>by unfold ba;cases R.contains j<;>rfl
def bZ{R:Nl}{u m:Mp}(hl:R.contains i=O):aJ (ba R u m) i x=ba R (aJ u i x) m:=funext λk=>by
 unfold ba aJ;by_cases e:k=i
 .rw[aw e,e,hl,aw Y];rfl
 .rw[au e,au e]
def wt(h:RE K e x)(g:∀n Q,Q y K->OL n (.builtin "len") [x] Q K):RE K (.p .l (.c e .n)) y:=λn Q q=>qO Y (aW h bD n _ (g n Q q))
def qu(h:RE K e (.e l))(hl:K.h l=M (.l vs)):RE K (.p .l (.c e .n)) (.i vs.length):=wt h λn Q q=>ab2 hl q
def HX(h:RE K e (V.cq vs)):RE K (.p .l (.c e .n)) (.i vs.length):=wt h λn Q q=>acr q
def zG(ha:RE K a (.e l))(hl:K.h l=M (.l vs))(hb:RE K b (.i j))(hj:vs[j]?=M z):RE K (.s a b) z:=dH ha hb (mj hl hj)
def zH(ha:RE K a (V.cq vs))(hb:RE K b (.i j))(hj:vs[j]?=M z):RE K (.s a b) z:=dH ha hb (yV hj)
def sY(ha:RE K a x)(hb:RE K b (.e l))(hl:K.h l=M (.d ds))(kx:x.cV 7=O):RT K (.m .In a b) (bI ds x).isSome:=aj (AQ (bI ds x).isSome) (eH ha hb (in_dict (n:=Z) hl kx))
def wu(ha:RE K a x)(hb:RE K b (.e l))(hl:K.h l=M (.d ds))(kx:x.cV 7=O):RT K (.m .NotIn a b) (!(bI ds x).isSome):=aj (Gm (bI ds x).isSome) (eH ha hb (in_dict (n:=O) hl kx))
def HY(ha:RE K a x)(hb:RE K b (.e l))(hl:K.h l=M (.l vs))(kv:∀y∈vs,y.cV 7=O)(kx:x.cV 7=O):RT K (.m .NotIn a b) (!decide (x∈vs)):=aj (Gm (decide (x∈vs))) (eH ha hb (in_list (n:=O) hl kv kx))
end
def d7{f:α->β}{l:List α}{y:β}(h:(l.map f)[j]?=M y):∃x,l[j]?=M x/\f x=y:=Ga.mp (aj gX h)
def fU{f:α->β}{l:List α}{x:α}(h:l[j]?=M x):(l.map f)[j]?=M (f x):=gX.trans (aq (Go f) h)
def jy{l:List α}(h:j<l.length):∃x,l[j]?=M x:=⟨l[j],iO h⟩
def succ_sub(m:Nat):((m+1:Nat):Int)-1=(m:Int):=Int.add_sub_cancel (m:Int) 1
variable{Q:QV} {t:Tg} {ys:Vs} {τ:Nat} {m:Mp} {w:aP}
section
variable{o:af} {ai:Hp->Nat->Prop}
def xT:(bN k).1≠0:=show 99≠0 by decide
def jJ(q:Q (.e (bN K.t)) (K.aH (bN K.t) o (K.t+1))):alloc o Q K:=⟨_,_,.inl ⟨Y,Y⟩,q⟩
noncomputable def rg(l:Loc):Bool:=Di 1 l.1&&Di l.1 98
def MW(h:rg l=O):l.1≠0:=λe=>dq 0 (dJ (jo (dS.mp h).1) (gy e))
def dQ(l:Loc)(r:rg l=O)(f:K.h l=U)(q:Q (.e l) (K.aH l o K.t)):alloc o Q K:=⟨l,_,.inr ⟨MW r,λe=>dq 98 (dJ (i7 98) (aV (gy e.symm) (jo (dS.mp r).2))),f,Y⟩,q⟩
def take_snoc{l:List α}{x:α}(h:l[j]?=M x):l.take (j+1)=l.take j++[x]:=by rw[List.take_succ,h];rfl
def MX{g:α->Option β}{v:α}:[v].filterMap g=(g v).toList:=by rw[Jo];cases g v<;>rfl
def VB(xs:Vs)(g:V->Option V)(rm:qK K l t')(hS:∀ys i,S i (K.h.aH l (.l ys)) xs[i]?)
 (body:∀v∈xs,∀ys ai,ys.length<=xs.length->ai (K.h.aH l (.l (ys++(g v).toList))) t'->xM t v (LB elt cs l ai) ⟨mN K.m du,K.h.aH l (.l ys),t'⟩)(q:Q (.e l) (K.aH l (.l (xs.filterMap g)) t')):CQ (.l []) t du (LB elt cs) Q S K:=
 ⟨l,t',rm,l,Y,xs.length,λi h τ=>h=K.h.aH l (.l ((xs.take i).filterMap g))/\τ=t',⟨Y,Y⟩,λi h τ I=>by
  obtain⟨rfl,rfl⟩:=I;have s:=hS ((xs.take i).filterMap g) i
  cases hv:xs[i]? with
  |none=>exact .inl ⟨aj hv s,aj (AJ (jj.mp hv)).symm q⟩
  |some v=>exact .inr ⟨v,aj hv s,(cG.mp hv).1,body v (cO hv) _ _ (aV (CT ..) (q7 ..)) ⟨by rw[take_snoc hv,Jh,MX],Y⟩⟩⟩
def E3(l0:l.1≠0)(z:ys.length<16777216)(he:RE ⟨m,h.aH l (.l ys),τ⟩ elt y)(k:ai (h.aH l (.l (ys++[y]))) τ):LB elt .n l ai ⟨m,h.aH l (.l ys),τ⟩:=⟨l0,adB (he 0 _ ⟨ys,bo,z,aj nW.symm k⟩)⟩
def ag9(l0:l.1≠0)(z:ys.length<16777216)(hc:RT ⟨m,h.aH l (.l ys),τ⟩ e c)(he:RE ⟨m,h.aH l (.l ys),τ⟩ elt y)(k:ai (h.aH l (.l (ys++(bif c then M y else U).toList))) τ):LB elt (.c e .n) l ai ⟨m,h.aH l (.l ys),τ⟩:=⟨l0,adC (hc 0 _ (by
 cases c
 .exact aj (i8 ys) k
 .exact he 0 _ ⟨ys,bo,z,aj nW.symm k⟩))⟩
end
noncomputable def BY(c:Nat):Bool:=Bo ⟨#[c]⟩ KN
noncomputable def E4(s:aP):Bool:=(s.cps.toList.map BY).all id
def MY(s:aP):Prop:=0<s.length/\s.length<=1000/\s.cps.all (·<128)=O
noncomputable def VC(v:V):Bool:=decide (∃c,v=.s ⟨#[c]⟩/\BY c=O)
def VD{c:Nat}:VC (.s ⟨#[c]⟩)=BY c:=by
 cases h:BY c with
 |true=>exact az ⟨c,Y,h⟩
 |false=>refine aA λw=>?_;refine bT w λd e w=>?_;cases e;exact dZ (h.symm.trans w)
def VE{s:aP}{t:Nat}{Q:RQ}(hs:MY s)(q:∀u,Q (.o (E4 s)) (mix [99] u h) (t+1)):bO (n+1) (bS 1) [.s s] Q h t:=by
 have z:(s.cps.toList.map λc=>V.s ⟨#[c]⟩).length<=1000:=by rw[bc,AL];exact hs.2.1
 refine f9 agf Y (EZ (TZ (T5 (Sg (wt (aG Y) λn Q q=>ad2 (aV hs.2.1 (ao Y)) q) bG Bn n _ ⟨_,oI,?_⟩))));rw[show decide ((0:Int)<(s.length))=O from az (Int.natCast_pos.mpr hs.1)]
 refine T4 (qO Y (fM (BF (aG Y n _ (ac8 hs.2.2 (VB (s.cps.toList.map λc=>.s ⟨#[c]⟩) (λv=>M (.o (VC v))) (.inl ⟨Y,Y⟩) (λys i=>(gX.trans (aq _ si)).symm) (λv hv ys ai le k=>?_) (eV (adR (bs:=s.cps.toList.map BY) ?_ ?_))))))))
 .obtain⟨c,hc,rfl⟩:=bX.mp hv;exact E3 xT (bM le (bM z (ao Y))) (Sg (aG Y) abN (in_str (n:=Z))) (aj (AQ (BY c)).symm (aj VD k))
 .refine bo.trans (aq (λx=>M (af.l x)) ?_);rw[ZI,fC];exact(congrFun (Jg) _).trans (Jm λc b=>aq V.o VD)
 .exact(show Q _ (h.aH (bN t) _) _ by rw[mR (R:=[99]) Y];exact q _)
variable{a:Nat} {Q:QF} {jX:af} {t:Nat}
section
variable{o:Sx}
def E9(ne:l'≠l):(h.aH l ob).aH l' jX=(h.aH l' jX).aH l ob:=funext λk=>by
 unfold Hp.aH;by_cases e:k=l'
 .rw[aw e,au (e▸ne),aw e]
 .rw[au e,au e]
def aU(h:dM l.1 l'.1=Z):l≠l':=λe=>by rw[e,AU]at h;exact b9 h
def uF(ne:l'≠l):((h.aH l' ob).aH l jX) l'=M ob:=(aQ ne).trans bo
def put3{Fa:af}(ne:l'≠l):((h.aH l ob).aH l' jX).aH l Fa=(h.aH l' jX).aH l Fa:=by rw[E9 ne,nW]
def VF{Fa:af}(ne:l'≠l):((h.aH l' ob).aH l jX).aH l' Fa=(h.aH l' Fa).aH l jX:=by rw[E9 ne,nW]
def mu{m':Mp}(e:m=m')(e':h=h'):(⟨m,h,t⟩:AS)=⟨m',h',t⟩:=by rw[e,e']
def xU{p:Prop} [Decidable p](h:(!decide p)=O):¬p:=λw=>by rw[az w]at h;exact b9 h
def MZ{p:Prop} [Decidable p](h:(!decide p)=Z):p:=Ge.mp λw=>by rw[aA w]at h;exact b9 h
def kg(d:ku k a=O)(he:RE ⟨m,h.aH l (.i k f),t⟩ e y)(ho:m i=M (.e l))(q:WB n r Q ⟨m,h.aH l (.i k (aJ f a y)),t⟩):WB n (.c (.dG (.v i) a e) r) Q ⟨m,h.aH l (.i k f),t⟩:=VA he (aG ho) bo d (show WB n r Q ⟨m,(h.aH l (.i k f)).aH l _,t⟩ from aj nW.symm q)
def VG(l':Loc)(d:ku k a=O)(he:RL ⟨m,h.aH l (.i k f),t⟩ es xs)(z:xs.length<=16777216)(ho:m i=M (.e l))(rl:rg l'=O)(ne:l'≠l)(fr:h l'=U)(q:WB n r Q ⟨m,(h.aH l' (.l xs)).aH l (.i k (aJ f a (.e l'))),t⟩):WB n (.c (.dG (.v i) a (.h es)) r) Q ⟨m,h.aH l (.i k f),t⟩:=
 E0 (fy (iB.Lean.rl he ⟨z,dQ l' rl ((aQ ne).trans fr) (re (aG ho) (vW ((aQ ne.symm).trans bo) d (show WB n r Q ⟨m,((h.aH l (.i k f)).aH l' (.l xs)).aH l _,t⟩ from aj (put3 ne).symm q)))⟩))
def Fb(l':Loc)(d:ku k a=O)(ho:m i=M (.e l))(rl:rg l'=O)(ne:l'≠l)(fr:h l'=U)(q:WB n r Q ⟨m,(h.aH l' (.l [])).aH l (.i k (aJ f a (.e l'))),t⟩):WB n (.c (.dG (.v i) a (.h .n)) r) Q ⟨m,h.aH l (.i k f),t⟩:=VG l' d bD (b7 _) ho rl ne fr q
def xV(l':Loc)(d:ku k a=O)(ho:m i=M (.e l))(rl:rg l'=O)(ne:l'≠l)(fr:h l'=U)(q:WB n r Q ⟨m,(h.aH l' (.d [])).aH l (.i k (aJ f a (.e l'))),t⟩):WB n (.c (.dG (.v i) a (.xB .n)) r) Q ⟨m,h.aH l (.i k f),t⟩:=
 E0 (mO (dQ l' rl ((aQ ne).trans fr) (aG ho n _ (vW ((aQ ne.symm).trans bo) d (show WB n r Q ⟨m,((h.aH l (.i k f)).aH l' (.d [])).aH l _,t⟩ from aj (put3 ne).symm q)))))
def Fc(ho:RE K o (.e l))(he:RE K e y)(l0:l.1≠0)(hl:K.h l=M (.l vs))(z:vs.length<16777216)(q:WB n r Q (K.aH l (.l (vs++[y])) K.t)):WB n (.c (.e (.cD .a o (.c e .n))) r) Q K:=
 oR (iT (re ho ⟨_,Hi hl,iB.Lean.rl (aW he bD) (D7 l0 hl z q)⟩))
def zJ(ho:RE K o (.e l))(he:RE K e y)(l0:rg l=O)(hl:K.h l=M (.l vs))(z:vs.length<16777216)(q:WB n r Q (K.aH l (.l (vs++[y])) K.t)):WB n (.c (.e (.cD .a o (.c e .n))) r) Q K:=Fc ho he (MW l0) hl z q
end
noncomputable def ki(l:Ss)(a:aP):Ss:=if a∈l then l else l++[a]
def zL{l:Ss}{a:aP}(h:a∉l):ki l a=l++[a]:=au h
def zM{l:Ss}{a:aP}(h:a∈l):ki l a=l:=aw h
noncomputable def dd(l:Ss):Ss:=l.foldl ki []
def wx{a:aP}{l:Ss}:V.s a∈l.map V.s↔a∈l:=⟨λh=>(bX.mp h).elim λb q=>by cases q.2;exact q.1,λh=>gW h⟩
def Fd{l:Ss}:∀y∈l.map V.s,y.cV 7=O:=λy h=>(bX.mp h).elim λb q=>aj q.2 Y
def M0{l:Ss}{a:aP}:(ki l a).length<=l.length+1:=by
 unfold ki
 split
 .exact l7 _
 .rw[dY];exact b8 _
def VH{l:Ss}{a:aP}(h:l[j]?=M a):dd (l.take (j+1))=ki (dd (l.take j)) a:=by unfold dd;rw[take_snoc h,ZM];rfl
def HZ{l:Ss}:(dd l).length<=l.length:=by
 unfold dd;have:∀(l k:Ss),(l.foldl ki k).length<=k.length+l.length:=λl=>by
  induction l with
  |nil=>exactλk=>b8 _
  |cons a l ih=>exactλk=>aV (ih _) (by rw[vD,sx l.length,<-rj];exact pW M0 _)
 exact aV (this l []) (gy (ro _))
noncomputable def jn(ss:Ss):aP:=aax " " ss
def zO(nm:aP)(ss:Ss):Prop:=ss.length<=100/\nm.length<=1000/\(ss.map (·.length)).sum<=1000/\pZ (jn ss)=O/\pZ (dC++nm++" -> "++jn ss)=O/\(dC++nm++" -> "++jn ss).length<=16777216/\(dC++nm++" -> ").length<=16777216/\(dC++nm).length<=16777216/\(jn ss).length<=16777216/\ss.isEmpty=Z
def H2(p:Nat)(nm:aP)(ss:Ss)(prec line:V)(f:Mp):Prop:=f 0=M (.s nm)/\f 1=M (V.cq (ss.map .s))/\f 2=M (.i p)/\f 6=M line/\f 7=M prec/\f 8=M (.i ss.length)/\f 9=M (.e (3,[p]))/\f 46=U/\f 57=U/\f 27=U
def VI{p:Nat}{ss:Ss}{ls:Loc}{prec fn fl li:V}{Q:RQ}(z:zO nm ss)(hl:h ls=M (.l (ss.map .s)))(nl:ls≠(2,[p]))(h3:h (3,[p])=U)(h7:h (7,[p])=U)
 (m0:m 0=M (.e (2,[p])))(m1:m 1=M (.i p))(m2:m 2=M (.s nm))(m3:m 3=M (.e ls))(m4:m 4=M prec)(m5:m 5=M fn)(m6:m 6=M fl)(m7:m 7=M li)
 (q:∀f,H2 p nm ss prec li f->Q .n (((h.aH (3,[p]) (.l ((dd ss).map .s))).aH (7,[p]) (.l [])).aH (2,[p]) (.i 1 f)) t):WB n Ms (Rt Q) ⟨m,h.aH (2,[p]) (.i 1 λb=>U),t⟩:=by
 have zl:(ss.map V.s).length<=16777216:=by rw[bc];exact aV z.1 (ao Y)
 refine kg Y (aG m2) m0 (kg Y (λn Q q=>qO Y (aW (aG m3) bD n _ (K9 ((aQ nl).trans hl) zl q))) m0 (kg Y (aG m1) m0 (kg Y (aG m5) m0 (kg Y uo m0 (kg Y (aG m6) m0 (kg Y (aG m7) m0 (kg Y (aG m4) m0 (kg Y (HX (ra (aG m0) bo Y Y)) m0
  (Fb (3,[p]) Y m0 Y (aU Y) h3 ?_)))))))))
 generalize hf:aJ _ 9 _=f;have k9:f 9=M (.e (3,[p])):=aj hf Y
 refine ag8 (ss.map .s) (λj K=>∃v,K=⟨ba [8] v m,(h.aH (3,[p]) (.l ((dd (ss.take j)).map .s))).aH (2,[p]) (.i 1 f),t⟩) (ra (aG m0) bo Y (aj hf Y)) ⟨m,aq (AS.mk · _ t) jx⟩ (λj v K hv I=>?_) λK I=>?_
 .obtain⟨u,rfl⟩:=I;obtain⟨a,ha,rfl⟩:=d7 hv;have e9:=uF (h:=h) (l':=(3,[p])) (l:=(2,[p])) (ob:=.l ((dd (ss.take j)).map .s)) (jX:=.i 1 f) (aU Y)
  have r9:RE ⟨aJ (ba [8] u m) 8 (.s a),(h.aH (3,[p]) (.l ((dd (ss.take j)).map .s))).aH (2,[p]) (.i 1 f),t⟩ (.a (.v 0) 9) (.e (3,[p])):=ra (aG m0) bo Y k9;have zj:(dd (ss.take j)).length<=100:=aV HZ (aV (q7 ..) z.1)
  refine mq (HY (aG Y) r9 e9 Fd Y) (λc=>zJ r9 (aG Y) Y e9 (by rw[bc];exact bM zj (ao Y)) (aM (aM ⟨aJ u 8 (.s a),mu (bZ Y) ((VF (aU Y)).trans (aq (λx=>(h.aH (3,[p]) (.l x)).aH (2,[p]) (.i 1 f)) ?_))⟩))) λc=>aM (aM ⟨aJ u 8 (.s a),mu (bZ Y) (aq (λx=>(h.aH (3,[p]) (.l (x.map .s))).aH (2,[p]) (.i 1 f)) ((VH ha).trans (aw (wx.mp (MZ c)))).symm)⟩)
  rw[VH ha,ki,au λw=>xU c (wx.mpr w),dF]
  rfl
 .obtain⟨u,rfl⟩:=I;rw[bc,iu];refine Fb (7,[p]) Y m0 Y (aU Y) ((aQ (aU Y)).trans h7) (kg Y uo m0 ?_);have fin:∀s,Q .n (((h.aH (3,[p]) (.l ((dd ss).map .s))).aH (7,[p]) (.l [])).aH (2,[p]) (.i 1 (aJ (aJ (aJ f 10 (.e (7,[p]))) 11 .n) 12 s))) t:=λs=>q _ (aj hf ⟨Y,Y,Y,Y,Y,aq (λx:Nat=>M (V.i x)) (bc ..),Y,Y,Y,Y⟩)
  have r1:RE ⟨ba [8] u m,((h.aH (3,[p]) (.l ((dd ss).map .s))).aH (7,[p]) (.l [])).aH (2,[p]) (.i 1 (aJ (aJ f 10 (.e (7,[p]))) 11 .n)),t⟩ (.a (.v 0) 1) (V.cq (ss.map .s)):=ra (aG m0) bo Y (aj hf Y);have r0:RE ⟨ba [8] u m,((h.aH (3,[p]) (.l ((dd ss).map .s))).aH (7,[p]) (.l [])).aH (2,[p]) (.i 1 (aJ (aJ f 10 (.e (7,[p]))) 11 .n)),t⟩ (.a (.v 0) 0) (.s nm):=ra (aG m0) bo Y (aj hf Y)
  exact mq (fq r1 SO) (λb=>kg Y (λn Q q=>TP (Hx (r0 n _ ⟨nm,LR (aV z.2.1 (ao Y)),z.2.2.2.2.2.2.2.1,TO z.2.2.2.2.2.2.1 (Hx (iT (bW n _ ⟨_,ab0,aW r1 bD n _ (adQ (ao Y) (aV (ri z.2.2.1 (Nat.mul_le_mul_right 64 z.1)) (ao Y)) z.2.2.2.1 ⟨_,LR z.2.2.2.2.2.2.2.2.1,z.2.2.2.2.2.1,TN z.2.2.2.2.1 q⟩)⟩)))⟩))) m0 (aM (aM (fin _)))) λc=>b9 ((aq (!·) (List.isEmpty_map.trans z.2.2.2.2.2.2.2.2.2)).symm.trans c:O=Z)
def VJ:Ez 1 20:=⟨(by kernel_rfl),(by kernel_rfl),(by kernel_rfl),(by kernel_rfl)⟩
def ag':Ez 2 22:=⟨(by kernel_rfl),(by kernel_rfl),(by kernel_rfl),(by kernel_rfl)⟩
def aha:Ez 4 23:=⟨(by kernel_rfl),(by kernel_rfl),(by kernel_rfl),(by kernel_rfl)⟩
def ahb:Ez 6 31:=⟨(by kernel_rfl),(by kernel_rfl),(by kernel_rfl),(by kernel_rfl)⟩
def Fe(r:rg l=O)(f:h l=U):qK ⟨m,h,t⟩ l t:=.inr ⟨MW r,λe=>dq 98 (dJ (i7 98) (aV (gy e.symm) (jo (dS.mp r).2))),f,Y⟩
variable{p:Nat} {ls:Loc} {prec fl li:V} {Q:RQ}
section
variable{ss:Ss} {fn:V}
def ahc(z:zO nm ss)(hl:h ls=M (.l (ss.map .s)))(h2:h (2,[p])=U)(h3:h (3,[p])=U)(h7:h (7,[p])=U)
 (q:∀f,H2 p nm ss prec li f->Q (.e (2,[p])) (((h.aH (3,[p]) (.l ((dd ss).map .s))).aH (7,[p]) (.l [])).aH (2,[p]) (.i 1 f)) t):bO (n+2) (hB 1) [.i p,.s nm,.e ls,prec,fn,fl,li] Q h t:=
 EA VJ (Fe Y h2) (f9 agN Y (VI z hl (λe=>hV ((e▸hl).symm.trans h2)) h3 h7 Y Y Y Y Y Y Y Y λf k=>⟨Y,q f k⟩))
def ahd(z:zO nm ss)(hl:h ls=M (.l (ss.map .s)))(h2:h (2,[p])=U)(h3:h (3,[p])=U)(h7:h (7,[p])=U)
 (q:∀f,H2 p nm ss (V.cq [.s "right",.i 0]) (.i 0) f->Q (.e (2,[p])) (((h.aH (3,[p]) (.l ((dd ss).map .s))).aH (7,[p]) (.l [])).aH (2,[p]) (.i 1 f)) t):bO (n+2) (hB 1) [.i p,.s nm,.e ls] Q h t:=
 EA VJ (Fe Y h2) (f9 agg Y (VI z hl (λe=>hV ((e▸hl).symm.trans h2)) h3 h7 Y Y Y Y Y Y Y Y λf k=>⟨Y,q f k⟩))
def ahe(h2:h (2,[p])=M (.i 1 f))(h1:f 1=M (V.cq (ss.map .s)))(q:Q (.i ss.length) h t):bO (n+1) (bS 21) [.e (2,[p])] Q h t:=
 f9 agh Y (kc (HX (ra (aG Y) h2 Y h1)) (ak (bc (f:=V.s)) q))
def n_L{G:QF}(d:ku k a=O)(he:RE ⟨m,h.aH l (.i k f),t⟩ e (V.cq vs))(z:vs.length<=16777216)(ho:m i=M (.e l))(ne:bN t≠l)(q:WB n r G ⟨m,(h.aH (bN t) (.l vs)).aH l (.i k (aJ f a (.e (bN t)))),t+1⟩):WB n (.c (.dG (.v i) a (.p .i (.c e .n))) r) G ⟨m,h.aH l (.i k f),t⟩:=
 E0 (qO Y (rl (aW he bD) (adS z (jJ (re (aG ho) (vW ((aQ ne.symm).trans bo) d (show WB n r G ⟨m,((h.aH l (.i k f)).aH (bN t) (.l vs)).aH l _,t+1⟩ from aj (put3 ne).symm q)))))))
noncomputable def M3:aP:="."
noncomputable def dot(ss:Ss)(i:Nat):Ss:=ss.take i++M3::ss.drop i
def M4(p i:Nat)(nm:aP)(ss:Ss)(f:Mp):Prop:=f 0=M (.s nm)/\f 1=M (V.cq ((dot ss i).map .s))/\f 2=M (.i p)/\f 8=M (.i (ss.length+1:Nat))/\f 9=M (.e (3,[p]))/\f 13=M (.i i)/\f 14=M (.e (6,[p,i]))
def Ff(hi:i<=ss.length):(dot ss i).length=ss.length+1:=by rw[dot,dY,vD,xb,Gi,xc hi,<-rj,CV hi]
def ahg(h2:h (2,[p])=M (.i 1 f))(k0:f 0=M (.s nm))(k1:f 1=M (V.cq (ss.map .s)))(k2:f 2=M (.i p))(k9:f 9=M (.e (3,[p])))(hi:i<=ss.length)(zs:ss.length<=100)(h5:h (5,[p,i])=U)(h6:h (6,[p,i])=U)
 (q:∀f u,M4 p i nm ss f->Q (.e (5,[p,i])) ((mix [99] u (h.aH (6,[p,i]) (.d []))).aH (5,[p,i]) (.i 2 f)) (t+1)):bO (n+2) (hB 2) [.e (2,[p]),.i i] Q h t:=by
 refine EA ag' (Fe Y h5) (f9 agi Y ?_);have zl:(ss.map V.s).length<=100:=by rw[bc];exact zs
 refine kg Y (ra (aG Y) h2 Y k0) Y (n_L Y (ra (aG Y) h2 Y k1) (aV zl (ao Y)) Y (aU Y) ?_);refine kg Y (ra (aG Y) h2 Y k2) Y (kg Y (aG Y) Y (xV (6,[p,i]) Y Y Y (aU Y) h6 ?_));generalize hf:aJ _ 14 _=g;have k1:g 1=M (.e (bN t)):=aj hf Y
 have ed:(((h.aH (bN t) (.l (ss.map .s))).aH (6,[p,i]) (.d [])).aH (5,[p,i]) (.i 2 g)) (bN t)=M (.l (ss.map .s)):=(aQ (aU Y)).trans (uF (aU Y));refine oR (iT (re (ra (aG Y) bo Y k1) ⟨_,abZ ed,rl (aW (aG Y) (aW bW bD)) (acu xT ed (by rw[bc];exact hi) (bM zl (ao Y)) ?_)⟩))
 have eh:(((h.aH (bN t) (.l (ss.map .s))).aH (6,[p,i]) (.d [])).aH (5,[p,i]) (.i 2 g)).aH (bN t) (.l ((ss.map .s).take i++.s M3::(ss.map .s).drop i))=((h.aH (6,[p,i]) (.d [])).aH (bN t) (.l ((dot ss i).map .s))).aH (5,[p,i]) (.i 2 g):=by rw[E9 (aU Y),VF (aU Y),E9 (aU Y) (h:=h),dot,dF,AR,l6,Gl]
 have ez:(((h.aH (6,[p,i]) (.d [])).aH (bN t) (.l ((dot ss i).map .s))).aH (5,[p,i]) (.i 2 g)) (bN t)=M (.l ((dot ss i).map .s)):=uF (aU Y);have zd:((dot ss i).map V.s).length<=101:=by rw[bc,Ff hi];exact j3 zs
 show WB n _ _ ⟨_,(((h.aH (bN t) (.l (ss.map .s))).aH (6,[p,i]) (.d [])).aH (5,[p,i]) (.i 2 g)).aH (bN t) (.l ((ss.map .s).take i++.s M3::(ss.map .s).drop i)),t+1⟩;rw[eh];refine kg Y (λn Q q=>qO Y (rl (aW (ra (aG Y) bo Y k1) bD) (K9 ez (aV zd (ao Y)) q))) Y (kg Y (HX (ra (aG Y) bo Y Y)) Y (kg Y (ra (aG Y) h2 Y k9) Y (aM ⟨Y,?_⟩)));rw[mR (R:=[99]) (h:=h.aH (6,[p,i]) (.d [])) Y,bc,Ff hi];refine q _ _ ?_;subst hf;exact⟨Y,Y,Y,Y,Y,Y,Y⟩
end
noncomputable def cd(s:aP):Nl:=s.cps.toList
def ahh{a b:aP}(h:cd a=cd b):a=b:=by cases a;cases b;exact aq Str.mk (aoG.mp h)
noncomputable def kJ(r:Nat)(ks:Ss):Es:=ks.map λs=>(.s s,.e (r,cd s))
variable{es:Es} {r:Nat} {ks:Ss} {a b:aP}
def pI:(bI es x).isSome=decide (x∈es.map (·.1)):=by
 induction es with
 |nil=>exact(aA Gh).symm
 |cons e t ih=>
  rw[ui];by_cases h:e.1=x
  .rw[aw h,az (aj h (.head _))];rfl
  .rw[au h,ih];exact decide_eq_decide.mpr ⟨.tail _,λm=>(cU.mp m).resolve_left λe=>h e.symm⟩
def mw(h:x∉es.map (·.1)):cX es x y=es++[(x,y)]:=by
 induction es with
 |nil=>rfl
 |cons e t ih=>rw[yO,au λw:e.1=x=>h (aj w (.head _)),ih λm=>h (.tail _ m)];rfl
def wy:bI (cX es x y) x=M y:=by
 induction es with
 |nil=>exact aw rfl
 |cons e t ih=>
  rw[yO];by_cases h:e.1=x
  .rw[aw h];exact aw h
  .rw[au h];exact(au h).trans ih
def rJ(n:x≠z):bI (cX es x y) z=bI es z:=by
 induction es with
 |nil=>exact au n
 |cons e t ih=>
  rw[yO,ui];by_cases h:e.1=x
  .rw[aw h,au λw=>n (h.symm.trans w)];exact au λw=>n (h.symm.trans w)
  .rw[au h];by_cases q:e.1=z
   .rw[aw q];exact aw q
   .rw[au q];exact(au q).trans ih
def str_inj(h:V.s a=.s b):a=b:=by
 cases h
 rfl
def M5:(kJ r ks).map (·.1)=ks.map .s:=fC
def ahi:(bI (kJ r ks) (.s a)).isSome=decide (a∈ks):=pI.trans (decide_eq_decide.mpr (ak M5 wx))
def M6(h:a∈ks):bI (kJ r ks) (.s a)=M (.e (r,cd a)):=by
 induction ks with
 |nil=>cases h
 |cons k t ih=>
  rw[kJ,l6,ui];by_cases e:k=a
  .rw[e];exact aw Y
  .exact(au λw=>e (str_inj w)).trans (ih ((cU.mp h).resolve_left λw=>e w.symm))
def M7(h:a∉ks):cX (kJ r ks) (.s a) (.e (r,cd a))=kJ r (ks++[a]):=(mw (ak M5 λm=>h (wx.mp m))).trans (dF (l₂:=[a])).symm
def zP{r':Nat}(h:a≠b):((r,cd a):Loc)≠(r',cd b):=λe=>h (ahh (aq JN e))
def ahj{Q:QF}{o a r es:Sx}{ds:Es}(l':Loc)(rl:rg l'=O)(fr:K.h l'=U)(he:RL K es xs)(z:xs.length<=16777216)(ho:RE (K.aH l' (.l xs) K.t) o (.e l))(hi:RE (K.aH l' (.l xs) K.t) a y)(hl:(K.h.aH l' (.l xs)) l=M (.d ds))(kx:y.cV 7=O)(hz:ds.length<16777216)
 (q:WB n r Q ((K.aH l' (.l xs) K.t).aH l (.d (cX ds y (.e l'))) K.t)):WB n (.c (.aaE o a (.h es)) r) Q K:=hM (uv (fy (iB.Lean.rl he ⟨z,dQ l' rl fr (re ho (re hi (vV hl kx hz q)))⟩)))
variable{a:Nat} {R:Nl} {u:Hp} {Q:QF} {b r:Sx}
section
variable{o:Sx} {ds:Es}
def m_s(d:ku k a=O)(rl:R.contains l.1=O)(ho:RE ⟨m,mix R u h,t⟩ o (.e l))(hl:(mix R u h) l=M (.i k f))(he:RE ⟨m,mix R u h,t⟩ e y)(q:WB n r Q ⟨m,mix R (u.aH l (.i k (aJ f a y))) h,t⟩):WB n (.c (.dG o a e) r) Q ⟨m,mix R u h,t⟩:=VA he ho hl d (show WB n r Q ⟨m,(mix R u h).aH l _,t⟩ from aj (bJ rl).symm q)
def VK(rl:R.contains l.1=O)(ho:RE ⟨m,mix R u h,t⟩ o (.e l))(hl:(mix R u h) l=M (.d ds))(hi:RE ⟨m,mix R u h,t⟩ b y)(he:RE ⟨m,mix R u h,t⟩ e z)(kx:y.cV 7=O)(hz:ds.length<16777216)(q:WB n r Q ⟨m,mix R (u.aH l (.d (cX ds y z))) h,t⟩):WB n (.c (.aaE o b e) r) Q ⟨m,mix R u h,t⟩:=
 wo he ho hi hl kx hz (show WB n r Q ⟨m,(mix R u h).aH l _,t⟩ from aj (bJ rl).symm q)
def pJ(rl:R.contains l.1=O)(l0:rg l=O)(ho:RE ⟨m,mix R u h,t⟩ o (.e l))(hl:(mix R u h) l=M (.l vs))(he:RE ⟨m,mix R u h,t⟩ e y)(z:vs.length<16777216)(q:WB n r Q ⟨m,mix R (u.aH l (.l (vs++[y]))) h,t⟩):WB n (.c (.e (.cD .a o (.c e .n))) r) Q ⟨m,mix R u h,t⟩:=
 zJ ho he l0 hl z (show WB n r Q ⟨m,(mix R u h).aH l _,t⟩ from aj (bJ rl).symm q)
def H4{es:Sx}(l':Loc)(rl:R.contains l.1=O)(Fg:R.contains l'.1=O)(g:rg l'=O)(fr:(mix R u h) l'=U)(he:RL ⟨m,mix R u h,t⟩ es xs)(zx:xs.length<=16777216)(ho:RE ⟨m,mix R (u.aH l' (.l xs)) h,t⟩ o (.e l))(hl:(mix R (u.aH l' (.l xs)) h) l=M (.d ds))(hi:RE ⟨m,mix R (u.aH l' (.l xs)) h,t⟩ b y)(kx:y.cV 7=O)(hz:ds.length<16777216)
 (q:WB n r Q ⟨m,mix R ((u.aH l' (.l xs)).aH l (.d (cX ds y (.e l')))) h,t⟩):WB n (.c (.aaE o b (.h es)) r) Q ⟨m,mix R u h,t⟩:=by
 have e:=bJ (u:=u) (h:=h) (ob:=.l xs) Fg;rw[<-e]at ho hl hi;refine ahj l' g fr he zx ho hi hl kx hz (show WB n r Q ⟨m,((mix R u h).aH l' _).aH l _,t⟩ from ?_)
 rw[e,bJ rl];exact q
def H5(l':Loc)(rl:R.contains l.1=O)(Fg:R.contains l'.1=O)(g:rg l'=O)(fr:(mix R u h) l'=U)(ho:RE ⟨m,mix R (u.aH l' (.l [])) h,t⟩ o (.e l))(hl:(mix R (u.aH l' (.l [])) h) l=M (.d ds))(hi:RE ⟨m,mix R (u.aH l' (.l [])) h,t⟩ b y)(kx:y.cV 7=O)(hz:ds.length<16777216)
 (q:WB n r Q ⟨m,mix R ((u.aH l' (.l [])).aH l (.d (cX ds y (.e l')))) h,t⟩):WB n (.c (.aaE o b (.h .n)) r) Q ⟨m,mix R u h,t⟩:=H4 l' rl Fg g fr bD (b7 _) ho hl hi kx hz q
def H6(l':Loc)(d:ku k a=O)(rl:R.contains l.1=O)(Fg:R.contains l'.1=O)(g:rg l'=O)(fr:(mix R u h) l'=U)(ho:RE ⟨m,mix R (u.aH l' (.d [])) h,t⟩ o (.e l))(hl:(mix R (u.aH l' (.d [])) h) l=M (.i k f))
 (q:WB n r Q ⟨m,mix R ((u.aH l' (.d [])).aH l (.i k (aJ f a (.e l')))) h,t⟩):WB n (.c (.dG o a (.xB .n)) r) Q ⟨m,mix R u h,t⟩:=by
 have e:=bJ (u:=u) (h:=h) (ob:=.d []) Fg;rw[<-e]at ho hl;refine E0 (mO (dQ l' g fr (re ho (vW hl d (show WB n r Q ⟨m,((mix R u h).aH l' _).aH l _,t⟩ from ?_)))))
 rw[e,bJ rl];exact q
end
noncomputable def lA:aP:="a"
noncomputable def lets:Ss:=[lA,"p","q","r","x","y","z"]
noncomputable def BZ:aP:="error"
noncomputable def ts:Ss:=lets++[BZ]
def Fh(f:Mp):Prop:=f 15=M (.e (41,[]))/\f 16=M (.e (42,[]))/\f 17=M (.e (43,[]))/\f 18=M (.e (44,[]))/\f 19=M (.e (45,[]))/\f 20=M (.e (46,[]))/\f 21=M (.e (47,[]))/\f 22=M (.e (48,[]))
def jK(l:Loc)(r z:Nat)(ks:Ss)(h:Hp):Prop:=h l=M (.d (kJ r ks))/\∀s,if s∈ks then∃vs,h (r,cd s)=M (.l vs)/\vs.length<=z else h (r,cd s)=U
def B0(f:Mp)(h:Hp):Prop:=h (1,[])=M (.i 4 f)/\Fh f/\h (41,[])=M (.l [.n])/\h (42,[])=M (.d [])/\h (43,[])=M (.d [])/\jK (44,[]) 12 0 ts h/\h (45,[])=M (.d [])/\h (46,[])=M (.d [])/\h (47,[])=M (.d [])/\h (48,[])=M (.d [])/\h (49,[])=M (.s [])
def uG{c:Prop} [Decidable c]{p q:Prop}(h:if c then p else q)(k:¬c):q:=by rwa [au k]at h
def H7{c:Prop} [Decidable c]{p q:Prop}(h:if c then p else q)(k:c):p:=by rwa [aw k]at h
def sZ{c:Prop} [Decidable c]{p q:Prop}(k:c)(h:p):if c then p else q:=by rwa [aw k]
def uH{c:Prop} [Decidable c]{p q:Prop}(k:¬c)(h:q):if c then p else q:=by rwa [au k]
def pK{l:List α}{a:α}(n:l.Nodup)(h:l[j]?=M a):a∉l.take j:=λm=>(t8.mp (aj (take_snoc h) ((aoC (j+1) l).nodup n))).2.2 a m a (.head _) Y
def ahk:lets.Nodup:=ao Y
def jK.H8{r:Nat}(k:ks.length<=100):(kJ r ks).length<16777216:=by rw[kJ,bc];exact bM k (ao Y)
def jK.kR{r z:Nat}{a:aP}(d:jK l r z ks h)(n:a∉ks)(ne:dM l.1 r=Z):jK l r z (ks++[a]) ((h.aH (r,cd a) (.l [])).aH l (.d (kJ r (ks++[a])))):=⟨bo,λs=>by
 have nl:((r,cd s))≠l:=λe=>aU ne e.symm;rw[aQ nl];by_cases e:s=a
 .subst e;rw[aw (dI _ (.head _)),bo];exact⟨[],Y,b7 _⟩
 .rw[aQ (zP e)];have w:=d.2 s
  by_cases m:s∈ks
  .rw[aw m]at w;rw[aw (dU _ m)];exact w
  .rw[au m]at w;rw[au λq=>(cZ.mp q).elim m λq=>e (bK.mp q)];exact w⟩
noncomputable abbrev gR:Nl:=[1,12,41,42,43,44,45,46,47,48,49]
noncomputable def f0:Mp:=aJ (aJ (aJ (aJ (aJ (aJ (aJ (aJ (aJ (aJ (λa=>U) 15 (.e (41,[]))) 16 (.e (42,[]))) 17 (.e (43,[]))) 18 (.e (44,[]))) 19 (.e (45,[]))) 20 (.e (46,[]))) 21 (.e (47,[]))) 22 (.e (48,[]))) 23 (.e (49,[]))) 24 .n
def ahl{x:Nl}{Q:RQ}(hl:h (99,x)=M (.l (lets.map .s)))(hn:∀k x,gR.contains k=O->h (k,x)=U)
 (q:∀u,B0 f0 u->Q (.e (1,[])) (mix gR u h) t):bO (n+2) (hB 4) [.e (99,x)] Q h t:=by
 refine EA aha (Fe Y (hn 1 [] Y)) (f9 agk Y ?_);refine VG (41,[]) Y (aW uo bD) (ao Y) Y Y (λe=>by cases e) (hn 41 [] Y) (xV (42,[]) Y Y Y (λe=>by cases e) (hn 42 [] Y) (xV (43,[]) Y Y Y (λe=>by cases e) (hn 43 [] Y) (xV (44,[]) Y Y Y (λe=>by cases e) (hn 44 [] Y) ?_)))
 rw[mR (R:=gR) (h:=h) Y,bJ Y,bJ Y,bJ Y,bJ Y];generalize hf:aJ _ 18 _=f;have kf:f 15=M (.e (41,[]))/\f 16=M (.e (42,[]))/\f 17=M (.e (43,[]))/\f 18=M (.e (44,[])):=aj hf ⟨Y,Y,Y,Y⟩
 generalize hu:((((h.aH (41,[]) _).aH (42,[]) _).aH (43,[]) _).aH (44,[]) _).aH (1,[]) _=u;refine iW (lets.map .s) (λj K=>∃v u,K=⟨ba [2] v λi=>([V.e (1,[]),V.e (99,x)]++[])[i]?,mix gR u h,t⟩/\u (1,[])=M (.i 4 f)/\u (41,[])=M (.l [.n])/\u (42,[])=M (.d [])/\u (43,[])=M (.d [])/\jK (44,[]) 12 0 (lets.take j) u/\u (45,[])=U/\u (46,[])=U/\u (47,[])=U/\u (48,[])=U/\u (49,[])=U) (aG Y) (λj K I=>?_) ⟨_,u,mu jx Y,?_⟩ (λj v K hv I=>?_) λK I=>?_
 .obtain⟨v,u,rfl,_⟩:=I;exact hl
 .subst hu;exact⟨Y,Y,Y,Y,⟨Y,λs=>uH Gh (hn 12 _ Y)⟩,hn 45 [] Y,hn 46 [] Y,hn 47 [] Y,hn 48 [] Y,hn 49 [] Y⟩
 .obtain⟨v,u,rfl,g0,g1,g2,g3,g4,g5⟩:=I;obtain⟨a,ha,rfl⟩:=d7 hv;have n:=pK ahk ha
  refine H5 (12,cd a) Y Y Y (uG (g4.2 a) n) (ra (aG Y) g0 Y kf.2.2.2) g4.1 (aG Y) Y (jK.H8 (aV (q7 ..) (ao Y))) (aM ⟨_,_,mu (bZ Y) Y,g0,g1,g2,g3,?_,g5⟩);rw[M7 n,take_snoc ha];exact g4.kR n Y
 .obtain⟨v,u,rfl,g0,g1,g2,g3,g4,g5,g6,g7,g8,g9⟩:=I;refine H5 (y:=.s BZ) (12,cd BZ) Y Y Y (uG (g4.2 BZ) (ao Y)) (ra (aG Y) g0 Y kf.2.2.2) g4.1 bW Y (jK.H8 (ao Y)) ?_;have g4:=g4.kR (a:=BZ) (ao Y) Y
  rw[M7 (ao Y)];refine H6 (45,[]) Y Y Y Y g5 (aG Y) g0 (H6 (46,[]) Y Y Y Y g6 (aG Y) Y (H6 (47,[]) Y Y Y Y g7 (aG Y) Y (H6 (48,[]) Y Y Y Y g8 (aG Y) Y ?_)));generalize hv:Hp.aH _ (1,[]) (.i 4 (aJ _ 22 _))=w;have e0:w (1,[])=M (.i 4 (aJ (aJ (aJ (aJ f 19 (.e (45,[]))) 20 (.e (46,[]))) 21 (.e (47,[]))) 22 (.e (48,[])))):=aj hv Y
  have e9:w (49,[])=U:=aj hv g9;refine E0 (qO Y (rl bD (TL (dQ (49,[]) Y e9 (re (aG Y) (vW e0 Y (show WB n _ _ ⟨_,((mix gR w h).aH (49,[]) (.s [])).aH (1,[]) _,t⟩ from ?_)))))))
  rw[bJ Y,bJ Y];exact m_s Y Y (aG Y) Y uo (aM (by subst hv;exact⟨Y,q _ ⟨by rw[<-hf];rfl,⟨Y,Y,Y,Y,Y,Y,Y,Y⟩,g1,g2,g3,g4,Y,Y,Y,Y,Y⟩⟩))
variable{i':Nat} {P:QV} {G:RQ} {t a:Sx} {c:Prop} {s s':aP}
section
variable{ds:Es}
def bO.o{f:aY}(w:bO n f xs (λx h' t'=>P x ⟨m,h',t'⟩) h τ):OL n (.ref f) xs P ⟨m,h,τ⟩:=w.ol λa a a q=>q
def B4(ha:RE K a (.s s))(hb:RE K b (.e l))(hl:K.h l=M (.d (kJ k ks))):RT K (.m .In a b) (decide (s∈ks)):=aj ahi (sY ha hb hl Y)
def zQ(ha:RE K a (.s s))(hb:RE K b (.e l))(hl:K.h l=M (.l (ks.map .s))):RT K (.m .NotIn a b) (!decide (s∈ks)):=aj (decide_eq_decide.mpr (wx)) (HY ha hb hl Fd Y)
def my(ha:RE K a (.s s))(hb:RE K b (.s s')):RT K (.m .Eq a b) (decide (s=s')):=aj (decide_eq_decide.mpr ⟨str_inj,aq V.s⟩:decide (V.s s=V.s s')=decide (s=s')) (eH ha hb (qn Y Y))
variable [d:Decidable c]
def jd(h:RT K t (decide c))(ha:c->WB n a (Nx n r Q) K)(hb:¬c->WB n b (Nx n r Q) K):WB n (.c (.i t a b) r) Q K:=mq h (λe=>ha (aB e)) λe=>hb (of_decide_eq_false e)
def wB(h:RT K t (!decide c))(ha:¬c->WB n a (Nx n r Q) K)(hb:c->WB n b (Nx n r Q) K):WB n (.c (.i t a b) r) Q K:=mq h (λe=>ha (xU e)) λe=>hb (MZ e)
def s_1(h:RT K t (!decide c))(hc:c)(k:WB n r Q K):WB n (.c (.i t a .n) r) Q K:=wB h (λe=>ax hc e) λb=>aM k
def Fi(h:WT n t (λc bk=>c=Z/\WB n r Q bk) K):WB n (.c (.i t a .n) r) Q K:=f6 (xK λF A W s q T k=>wm (h F A W s q T k) (λd bp p=>p.dc λW' bk x R e v z=>⟨W',bk,x,R,e,v,by rw[z.1];exact aM z.2⟩))
end
noncomputable def sE:aP:="E"
def xW:Ss:=sE::lets
def sN(c:Nat):aP:=(xW[c]?).getD dC
noncomputable def zU:List Nl:=[[0,1,0],[1,0],[0,1],[1],[1,0,2],[0,1,0,2,0],[1,0,2,0],[0,1,0,2]]
noncomputable def Fj(k c:Nat):Nat:=if c=0 then 0 else 3*c+k-1
noncomputable def wC(k s:Nat):Nl:=((zU[s]?).getD []).map (Fj k)
noncomputable def B5(f s t:Nat):Nl:=if f<5/\s<5/\t<5 then [f,s,t]else [f,s]
noncomputable def H9(f g:Nat)(c:Nl):List Nl:=if c.length=2/\(wC 0 f)[0]?=M 0/\g≠0 then [[2,0]]else []
noncomputable def VL(f s t g:Nat):List Nl:=[1]::(B5 f s t).mapIdx wC++H9 f g (B5 f s t)
def tc(k:Nat):Nat:=(((qi[k]?).getD 0)%720720).toNat
def fV:Nat:=tc 0
def qv:Nat:=if 4<fV%8 then fV/8%8%5 else fV/8%8
def iX:List Nl:=VL (fV%8) qv (fV/64%6) (fV/384%2)
def te:Nat:=fV/768%iX.length
def qS:List Nl:=iX.drop te++iX.take te
def gs:List Ss:=qS.map (Qw sN)
def ss(k:Nat):Ss:=((([sE]::gs)[k]?).getD [])
noncomputable def zV:List Nl:=[1]::[2,0]::(bQ 3).flatMap λk=>(bQ 8).map (wC k)
def bh:Nl->Nl:=rv [] λa l r=>match l with
 |[]=>[]
 |b::_=>if a=0 then b::r else r
def VM(r r':Nl):Bool:=(r==r'||(!(r[0]?==r'[0]?)||r[0]?==M 0))&&((r==r'||(!(r[0]?==M 0)||(!(r'[0]?==M 0)||!(r[1]?==r'[1]?))))&&(!(r'[0]?==M 0)||!(bh r.tail).any λc=>r'[1]?==M c))
def VN(l:List Nl):Bool:=rx 2 l.length&&(rx l.length 5&&(decide l.Nodup&&(l.all zV.contains&&l.all λr=>l.all λr'=>VM r r')))
def ahn:∀f<8,∀s<8,∀t<6,∀g<2,VN (VL f s t g)=O:=by decide+kernel
def zW:VN iX=O:=ahn _ (qd _ (ao Y)) _ (by
 unfold qv
 split
 .exact dJ (qd _ (ao Y)) (ao Y)
 .exact qd _ (ao Y)) _ (qd _ (ao Y)) _ (qd _ (ao Y))
def Fl:qS.Perm iX:=List.perm_append_comm.trans (.of_eq (PN te iX))
def qT{a b:Bool}(h:(a&&b)=O):a=O:=(dS.mp h).1
def jL{a b:Bool}(h:(a&&b)=O):b=O:=(dS.mp h).2
def aho:qS.Nodup:=Fl.nodup_iff.mpr (aB (qT (jL (jL zW))))
def ahp:2<qS.length/\qS.length<5:=by rw[Fl.length_eq];exact⟨jo (qT zW),jo (qT (jL zW))⟩
def B6{r:Nl}(h:r∈qS):r∈zV:=gj.mp (lI.mp (qT (jL (jL (jL zW)))) r (Fl.mem_iff.mp h))
def M8{r r':Nl}(h:r∈qS)(h':r'∈qS):VM r r'=O:=lI.mp (lI.mp (jL (jL (jL (jL zW)))) r (Fl.mem_iff.mp h)) r' (Fl.mem_iff.mp h')
def sy(k d:Nat):Option aP:=(ss k)[d]?
def nG:Nat:=gs.length
def kK:2<nG/\nG<5:=by unfold nG gs;rw[bc];exact ahp
noncomputable def VO(r:Nl):Bool:=rx 0 r.length&&(rx r.length 6&&(r.all (rx · 8)&&(!(r==[0])&&(bQ 5).all λd=>(r[d]?).all λa=>(r[d+1]?).all λb=>dM a 0 !=dM b 0)))
def VP:zV.all VO=O:=by decide+kernel
def Ia:∀c<8,∀d<8,sN c=sN d->c=d:=by decide+kernel
def RC(k:Nat)(r:Nl):Prop:=qS[k]?=M r/\VO r=O/\ss (k+1)=r.map sN
section
variable{r:Nl} (hh:RC k r)
def RC.aC:=hh.1
def RC.aI:=hh.2.1
def RC.aF:=hh.2.2
end
def pL{d:Nat}{x:aP}(h:sy (k+1) d=M x):∃r c,RC k r/\r[d]?=M c/\c<8/\sN c=x:=by
 cases e:qS[k]? with
 |none=>have:ss (k+1)=[]:=aq (JH · []) ((gX).trans (aq _ e));rw[sy,this]at h;exact cW h
 |some r=>
  have q:ss (k+1)=r.map sN:=aq (JH · []) ((gX).trans (aq _ e));have o:=lI.mp VP r (B6 (cO e))
  rw[sy,q]at h;obtain⟨c,hc,rfl⟩:=d7 h;exact⟨r,c,⟨e,o,q⟩,hc,jo (lI.mp (qT (jL (jL o))) c (cO hc)),Y⟩
def RC.sy{d:Nat}{r:Nl}(h:RC k r):sy (k+1) d=(r[d]?).map sN:=(aq (·[d]?) h.aF).trans gX
def RC.un{r:Nl}(h:RC k r)(h':RC j r):k=j:=(ua (cG.mp h.aC).1 aho).mp (h.aC.trans h'.aC.symm)
def RC.fn{r r':Nl}(h:RC k r)(h':RC k r'):r=r':=bF (h.aC.symm.trans h'.aC)
def VQ{a:Nl}{c:Nl}{b:Bool}(h:(a==c||b)=O):a=c\/b=O:=(yn.mp h).imp eq_of_beq id
def c0{c:Nat}(h:c<8)(e:sN c=sE):c=0:=Ia c h 0 (ao Y) e
def ahq{x:aP}(h:sy (k+1) 0=M x)(h':sy (j+1) 0=M x)(n:x≠sE):k=j:=by
 obtain⟨r,c,R,hc,l,rfl⟩:=pL h;refine rz (pL h') λr' c' R' zX l' e=>?_;obtain rfl:=Ia _ l' _ l e;rcases VQ (qT (M8 (cO R.aC) (cO R'.aC)))with w|w
 .exact R.un (ak w R')
 .rw[hc,zX,beq_self_eq_true,C7,apd]at w;exact ax (aq sN (bF (eq_of_beq w))) n
def ahr{x:aP}(h0:sy (k+1) 0=M sE)(h0':sy (j+1) 0=M sE)(h:sy (k+1) 1=M x)(h':sy (j+1) 1=M x):k=j:=by
 obtain⟨r,c,R,hc,l,rfl⟩:=pL h;refine rz (pL h') λr' c' R' zX l' e=>?_;obtain rfl:=Ia _ l' _ l e;refine rz (pL h0) λr0 b S hb m e0=>?_;refine rz (pL h0') λr0' b' S' qU m' e0'=>?_;obtain rfl:=R.fn S;obtain rfl:=R'.fn S';rw[c0 m e0]at hb;rw[c0 m' e0']at qU;rcases VQ (qT (jL (M8 (cO R.aC) (cO R'.aC))))with w|w
 .exact R.un (ak w R')
 .rw[hb,qU,hc,zX,beq_self_eq_true,beq_self_eq_true]at w;exact b9 w
def ahu{d c:Nat}:∀{l:Nl},l[d]?=M 0->l[d+1]?=M c->c∈bh l:=by
 induction d with
 |zero=>
  intro l h h';cases l with
  |nil=>exact cW h
  |cons a l=>cases l with
  |nil=>exact cW h'
  |cons b l=>obtain rfl:=bF h;obtain rfl:=bF h';exact .head _
 |succ d ih=>
  intro l h h';cases l with
  |nil=>exact cW h
  |cons a l=>cases l with
  |nil=>exact cW h'
  |cons b l=>
   have w:=ih h h';show c∈if a=0 then b::bh (b::l)else bh (b::l)
   split
   .exact .tail _ w
   .exact w
def ahv{d:Nat}{x:aP}(h0:sy (j+1) 0=M sE)(h1:sy (j+1) 1=M x)(h:sy (k+1) (d+1)=M sE)(h':sy (k+1) (d+2)=M x):False:=by
 refine rz (pL h) λr c R hc l e=>?_;obtain⟨r2,c',R2,zX,l',rfl⟩:=pL h';obtain rfl:=R.fn R2;refine rz (pL h0) λr' b S hb m e0=>?_;refine rz (pL h1) λr2' b' S2 qU m' e1=>?_;obtain rfl:=S.fn S2;rw[c0 l e]at hc;rw[c0 m e0]at hb;obtain rfl:=Ia _ m' _ l' e1;have w:=jL (jL (M8 (cO R.aC) (cO S.aC)))
 rw[hb,beq_self_eq_true,C7,apd]at w;have q:(bh r.tail).any (λc=>r'[1]?==M c)=O:=ZV.mpr ⟨b',ahu (by rw[aov];exact hc) (by rw[aov];exact zX),by rw[qU];exact beq_self_eq_true _⟩
 rw[q]at w;exact b9 w
def M9{d:Nat}{x:aP}(h:sy 0 d=M x):d=0/\x=sE:=by
 cases d with
 |zero=>exact⟨Y,(bF h).symm⟩
 |succ d=>exact cW h
def wD{d:Nat}{x y:aP}(h:sy k d=M x)(h':sy k (d+1)=M y):x=sE↔y≠sE:=by
 cases k with
 |zero=>exact ax (M9 h').1 (qD d)
 |succ k=>
  obtain⟨r,c,R,hc,l,rfl⟩:=pL h;obtain⟨r2,c',R2,zX,l',rfl⟩:=pL h';obtain rfl:=R.fn R2;have z:=dJ (cG.mp hc).1 (hO (jo (qT (jL R.aI))))
  have w:=lI.mp (jL (jL (jL (jL R.aI)))) d (j4.mpr z);rw[hc,zX]at w
  constructor
  .intro e f;rw[c0 l e,c0 l' f]at w;exact b9 w
  .intro f;cases c with
   |zero=>rfl
   |succ c=>
    cases c' with
    |zero=>exact ax Y f
    |succ c'=>exact b9 w
def tj{d:Nat}{x:aP}(h:sy k d=M x):x∈xW:=by
 cases k with
 |zero=>exact ak (M9 h).2 (.head _)
 |succ k=>obtain⟨r,c,R,hc,l,rfl⟩:=pL h;unfold sN;rw[iO (l)];exact Jv _
def xX{d:Nat}{x:aP}(h:sy k d=M x):k<=nG:=by
 cases k with
 |zero=>exact b7 _
 |succ k=>refine rz (pL h) λr c R hc l e=>?_;unfold nG gs;rw[bc];exact(cG.mp R.aC).1
def Fn(h:k<nG):∃r,RC k r:=by unfold nG gs at h;rw[bc]at h;exact⟨qS[k],iO h,lI.mp VP _ (B6 (Jv _)),aq (JH · []) ((gX).trans (aq _ (iO h)))⟩
def oV(h:k<=nG):0<(ss k).length/\(ss k).length<6:=by
 cases k with
 |zero=>exact⟨pd,ao Y⟩
 |succ k=>refine oE (Fn h) λr R=>?_;rw[R.aF,bc];exact⟨jo (qT R.aI),jo (qT (jL R.aI))⟩
def VS(h:sy (k+1) 0=M sE):∃x,sy (k+1) 1=M x:=by
 refine rz (pL h) λr c R hc l e=>?_;rw[c0 l e]at hc;cases r with
 |nil=>exact cW hc
 |cons a r=>cases r with
 |nil=>obtain rfl:=bF hc;exact b9 (qT (jL (jL (jL R.aI))))
 |cons b r=>exact⟨sN b,R.sy⟩
noncomputable def pN:Ss:=["p","x","q","y","r","z","u","a"]
noncomputable def tB:Ss:=["left","right","nonassoc"]
def wF(k:Nat):Nat:=tc (1+k/2)/(if k%2=0 then 1 else 36)%36
abbrev Wl:=aP×Nat
def tp(p:Wl):V:=V.cq [.s p.1,.i p.2]
def uI(k:Nat):Wl:=((tB[wF k/4%3]?).getD dC,1+wF k/12)
def lu(j:Nat):List (aP×Wl):=(bQ j).filterMap λk=>if wF k%4=0 then U else M ((pN[k]?).getD dC,uI k)
def xY(p:aP×Wl):V×V:=(.s p.1,tp p.2)
def gF:Es:=(lu 8).map xY
noncomputable def Fp:Wl:=("right",0)
def kn(a:aP):Option Wl:=(lu 8).lookup a
def pq(a:aP):Wl:=(kn a).getD Fp
def ahw{l:List (aP×Wl)}{a:aP}:bI (l.map xY) (.s a)=(l.lookup a).map tp:=by
 induction l with
 |nil=>rfl
 |cons p l ih=>
  rw[l6,ui,su];by_cases e:p.1=a
  .rw[e,beq_self_eq_true];exact aw (aq V.s e)
  .refine(au λw=>e (str_inj w)).trans (ih.trans ?_);cases q:a==p.1 with
   |true=>exact ax (eq_of_beq q).symm e
   |false=>rfl
def zY{a:aP}:bI gF (.s a)=(kn a).map tp:=ahw
def Na:lu (j+1)=lu j++(if wF j%4=0 then U else M ((pN[j]?).getD dC,uI j)).toList:=by unfold lu;rw[C4,Jh,MX]
def Ib(j:Nat):apq ((lu j).map (·.1)) ((bQ j).map λk=>(pN[k]?).getD dC):=by
 induction j with
 |zero=>exact .refl _
 |succ j ih=>
  rw[Na,C4,dF,dF];refine ih.append ?_
  split
  .exact List.nil_sublist _
  .exact .refl _
def Nb:(uI k).1∈tB/\(uI k).2≠0:=by
 have lt:wF k/4%3<tB.length:=qd _ (ao Y);refine⟨?_,?_⟩
 .unfold uI;rw[iO lt];exact Jv _
 .show 1+_≠0;rw[sx];exact qD _
def VT{p:aP×Wl}(h:p∈lu j):∃k,p.2=uI k:=by
 refine bT (vA.mp h) λk a e=>?_
 split at e
 .exact cW e
 .exact⟨k,aq JN (bF e).symm⟩
def ahx{l:List (aP×Wl)}{a:aP}{w:Wl}(h:l.lookup a=M w):(a,w)∈l:=by
 induction l with
 |nil=>exact cW h
 |cons p l ih=>
  rw[su]at h;cases q:a==p.1 with
  |true=>rw[q]at h;obtain rfl:=bF h;rw[eq_of_beq q];exact .head _
  |false=>rw[q]at h;exact .tail _ (ih h)
def VU{a:aP}:(pq a).1∈tB/\((pq a).2=0->(pq a).1="right"):=by
 unfold pq;cases h:kn a with
 |none=>exact⟨.tail _ (.head _),λb=>Y⟩
 |some w=>
  refine oE (VT (ahx h)) λk e=>?_;have e:w=uI k:=e
  exact ak e ⟨Nb.1,λz=>ax z Nb.2⟩
def xZ(k:Nat):Nat:=JR (tc 5) (λa d=>d/3) k
def gO(k:Nat):aP:=match(["","u","q"]:Ss)[xZ k%3]? with
 |some a=>if(kn a).isSome then a else dC
 |none=>dC
def x1(l:Ss):aP:=((l.filter λs=>!decide (s=sE)).getLast?).getD dC
def lst(k:Nat):aP:=if gO k=dC then x1 (ss (k+1))else gO k
def pk(k:Nat):Wl:=match k with
 |0=>Fp
 |k+1=>pq (lst k)
def VW(ha:RE K a x)(hb:RE K b (.e l))(hl:K.h l=M (.l vs))(kv:∀y∈vs,y.cV 7=O)(kx:x.cV 7=O):RT K (.m .In a b) (decide (x∈vs)):=aj (AQ (decide (x∈vs))) (eH ha hb (in_list (n:=Z) hl kv kx))
def VX{es:Sx}{o:CmpOp}{p:Bool}{P:Bool->QA}(ha:RE K a x)(hx:RL K es xs)(z:xs.length<=16777216)(g:R2 (K.aH (bN K.t) (.l xs) (K.t+1)) (ox o) x (.e (bN K.t)) (.o p))(q:P p (K.aH (bN K.t) (.l xs) (K.t+1))):WT n (.m o a (.h es)) P K:=xH (re ha (fy (rl hx ⟨z,jJ ⟨p,g,q⟩⟩)))
def ahy{t:Nat}{a:aP}{w:Wl}{Q:RQ}(gi:h (1,[])=M (.i 4 f))(gf:Fh f)(g1:h (41,[])=M (.l [.n]))(g8:h (48,[])=M (.d es))(z:es.length<16777216)(nw:V.s a∉es.map (·.1))(hw:w.1∈tB)(q:∀u t',Q .n ((mix [99] u h).aH (48,[]) (.d (es++[(.s a,tp w)]))) t'):bO (n+1) (bS 24) [.e (1,[]),.s a,.s w.1,.i w.2] Q h t:=by
 have e8:=gf.2.2.2.2.2.2.2;refine f9 agM Y (hM (ack (VX (ra (aG Y) gi Y gf.1) (aW uo bD) (ao Y) (MT g1 bo (λy hy=>ak (bK.mp hy) Y)) ⟨Y,?_⟩)));refine eC (aj (pI.trans (aA nw)) (sY (aG Y) (ra (aG Y) gi Y e8) g8 Y)) (aM (Fi (VX (xs:=tB.map .s) (aG Y) (aW bW (aW bW (aW bW bD))) (ao Y) (in_list (n:=O) bo Fd Y) ⟨?_,?_⟩)))
 .rw[az (wx.mpr hw)]
  rfl
 .refine wo (jG (aW (aG Y) (aW (aG Y) bD)) (by decide:2<=16777216)) (ra (aG Y) gi Y e8) (aG Y) g8 Y z (aM ?_)
  rw[mw nw];show Q .n (((h.aH (bN t) _).aH (bN (t+1)) _).aH (48,[]) _) _;rw[mR (R:=[99]) (l:=bN t) Y,bJ Y];exact q _ _
def ahz{p:aP->Bool}{l:Ss}{a:aP}(h:l[j]?=M a):(l.take (j+1)).filter p=(l.take j).filter p++if p a then [a]else []:=by
 rw[take_snoc h,aow,ZT]
 rfl
def ahA{l:Ss}{ld:Loc}{t:Nat}{Q:RQ}(hl:h ls=M (.l (l.map .s)))(hd:h ld=M (.d (kJ 12 ts)))(hs:∀s∈l,s∈ts↔¬s=sE)(ne:(l.filter λs=>!decide (s=sE))≠[])(q:Q (.s (x1 l)) h t):bO (n+1) (bS 3) [.e ls,.e ld] Q h t:=
 f9 agj Y (eZ (jv (qu (aG Y) hl) bG xG) (wq (λm K=>m<=(l.map V.s).length/\(l.take m).filter (λs=>!decide (s=sE))=l.filter (λs=>!decide (s=sE))/\K=⟨aJ (λi=>[V.e ls,.e ld][i]?) 2 (.i ((m)-1)),h,t⟩) ⟨b8 _,by rw[bc,iu],Y⟩ λm K I=>by
  obtain⟨le,ef,rfl⟩:=I;refine⟨_,eH (aG Y) bG Hd,λhc=>?_,λhc=>?_⟩
  .cases m with
   |zero=>exact b9 hc
   |succ j=>
    rw[succ_sub];refine oE (jy le) λx hx=>?_;obtain⟨z,hz,rfl⟩:=d7 hx;rw[ahz hz]at ef;have rs:RE ⟨aJ (λi=>[V.e ls,.e ld][i]?) 2 (.i j),h,t⟩ (.s (.v 0) (.v 2)) (.s z):=zG (aG Y) hl (aG Y) hx
    refine jd (B4 rs (aG Y) hd) (λc=>kc rs ?_) λc=>aM (hM (Ec Y (bG n _ ⟨_,SH,aM ⟨j,i7 j,dK le,?_,aq (AS.mk · h t) MV⟩⟩)))
    .rw[aw (by rw[aA ((hs z (cO hz)).mp c)];rfl)]at ef
     rw[x1,<-ef,List.getLast?_append]at q;exact q
    .rw[au (λw=>c ((hs z (cO hz)).mpr (xU w))),i8]at ef;exact ef
  .cases m with
   |zero=>exact ax ef.symm ne
   |succ j=>rw[succ_sub,az (jR j)]at hc;exact b9 hc))
def Nc(ha:RE K a (.s s))(hb:RE K b (.s s')):RT K (.m .NotEq a b) (!decide (s=s')):=aj (aq (!·) (decide_eq_decide.mpr ⟨str_inj,aq V.s⟩)) (eH ha hb (qN Y Y))
noncomputable def qw:aP:="%prec"
noncomputable def VY:Ss:="u"::qw::xW
noncomputable def Nf(s:aP):Bool:=(s.cps[0]?).any λc=>!Bo ⟨#[c]⟩ "'\""
def VZ:∀s∈VY,MY s/\Nf s=O/\(s=qw\/E4 s=O):=by unfold MY;decide+kernel
def ahB(h:Nf s=O):∃c,s.cps[0]?=M c/\Bo ⟨#[c]⟩ "'\""=Z:=by
 unfold Nf at h;cases e:s.cps[0]? with
 |none=>rw[e]at h;exact b9 h
 |some c=>rw[e]at h;exact⟨c,Y,apr h⟩
variable{l:Ss} {x:Nl} {t:Nat}
def tiC{p q:aP}(ha:RE K a (.s p))(hb:RE K b (.s q)):RT K (.m .In a b) (Bo p q):=aj (AQ (Bo p q)) (eH ha hb (in_str (n:=Z)))
def ahD(ok:∀s∈l,s∈VY)(gi:h (1,[])=M (.i 4 f))(g18:f 18=M (.e (44,[])))(gt:h (44,[])=M (.d (kJ 12 ts)))(hs:h (62,x)=M (.l (l.map .s)))
 (m0:m 0=M (.e (1,[])))(m1:m 1=M (.s sE))(m2:m 2=M (.e (62,x)))(k:∀v u' t',WB (n+1) r Q ⟨ba [6,7] v m,mix [99] u' h,t'⟩):
 WB (n+1) (.c (.i (.m .In (.v 1) (.a (.v 0) 18)) (.c .z .n) .n) (.c (.i (.m .Eq (.v 1) (.cS "error")) (.c .z .n) .n) (.c (.i (.o (.l (.d 1 (.c (.v 1) .n)))) (.c .z .n) .n) (.c (.f (.a [6,7]) (.u (.v 2)) UQ .n) r)))) Q ⟨m,h,t⟩:=by
 have aE:=VZ sE (ao Y);have iE:=aE.2.2.resolve_left (ao Y)
 refine eC (aj (aA (by decide:sE∉ts)) (B4 (aG m1) (ra (aG m0) gi Y g18) gt)) (aM (eC (aj (aA (by decide:¬sE=BZ)) (my (aG m1) bW)) (aM (Fi (Hf (He (kU (rl (aW (aG m1) bD) ((VE aE.1 λu'=>⟨E4 sE,oI,by rw[iE];rfl,?_⟩).o)))))))))
 refine BW (l.map .s) (λj K=>∃v u t,K=⟨ba [6,7] v m,mix [99] u h,t⟩) (aG m2) (λj K I=>?_) ⟨m,u',t+1,mu jx Y⟩ (λj v K hv I=>?_) λK I=>?_
 .obtain⟨v,u,t,rfl⟩:=I;exact hs
 .obtain⟨w,u,t,rfl⟩:=I;obtain⟨s,hs,rfl⟩:=d7 hv;refine qG (VZ s (ok s (cO hs))) λk1 k2 k4=>?_;refine bT (ahB k2) λc hc k3=>?_;have fin:∀u' t,Fw.lp (λK=>∃v u t,K=⟨ba [6,7] v m,mix [99] u h,t⟩) (Nx (n+1) r Q) .n ⟨aJ (aJ (ba [6,7] w m) 6 (.i j)) 7 (.s s),mix [99] u' (mix [99] u h),t⟩:=λu' t=>⟨aJ (aJ w 6 (.i j)) 7 (.s s),_,_,mu ((aq (aJ · 7 (.s s)) (bZ Y)).trans (bZ Y)) (kb Y)⟩
  refine eC (aj k3 (tiC (dH (aG Y) bG (MP (b7 _) hc)) bW)) (aM (Fi (Hh (Bq (Hf (He (kU (rl (aW (aG Y) bD) ((VE k1 λu'=>⟨E4 s,oI,?_⟩).o)))))))));cases e:E4 s with
  |true=>exact⟨Y,aM (fin _ _)⟩
  |false=>obtain rfl:=k4.resolve_right λw=>dZ (e.symm.trans w);exact Br (eH (aG Y) bW (qN Y Y)) ⟨aq (!·) (az Y),aM (fin _ _)⟩
 .obtain⟨v,u,t,rfl⟩:=I;exact k v u t
noncomputable def pre(i:Nat):Ss:=if gO i=dC then []else [qw,gO i]
def aaV:gO i=dC\/∃a,a∈(["","u","q"]:Ss)/\gO i=a/\(kn a).isSome=O:=by
 unfold gO;cases e:(["","u","q"]:Ss)[xZ i%3]? with
 |none=>exact .inl rfl
 |some a=>
  by_cases c:(kn a).isSome=O
  .exact .inr ⟨a,cO e,aw c,c⟩
  .exact .inl (au c)
def V0(h:¬gO i=dC):(gO i="u"\/gO i="q")/\∃w,kn (gO i)=M w:=(aaV.resolve_left h).elim λa k=>⟨(cU.mp (k.2.1.symm▸k.1)).elim (λe=>ax e h) λm=>(cU.mp m).imp id bK.mp,CR.mp (k.2.1.symm▸k.2.2)⟩
def V4{a:aP}:(bI gF (.s a)).getD (tp Fp)=tp (pq a):=by rw[zY,pq];cases kn a<;>rfl
def zZ(h:s∈ss k):s∈xW:=(List.mem_iff_getElem?.mp h).elim λd e=>tj e
def z4:∀s∈xW,s∈ts↔¬s=sE:=ao Y
def ahF:qw∉xW:=ao Y
def ahG:V.s qw∉(ss k).map V.s:=λw=>ahF (zZ (wx.mp w))
def ahH(gi:h (1,[])=M (.i 4 f))(gf:Fh f)(f23:f 23=M (.e (49,[])))(gt:h (44,[])=M (.d (kJ 12 ts)))(g8:h (48,[])=M (.d gF))(g9:h (49,[])=M (.s xs))(z9:xs.length<=i)(zi:i<=10)(hi:i<nG)(hs:h (62,x)=M (.l ((ss (i+1)++pre i).map .s)))
 (ne:((ss (i+1)).filter λs=>!decide (s=sE))≠[])(m0:m 0=M (.e (1,[])))(m2:m 2=M (.e (62,x)))(k:∀a u ys,u (62,x)=M (.l ((ss (i+1)).map .s))->(∀y,y≠x->u (62,y)=h (62,y))->u (49,[])=M (.s ys)->ys.length<=i+1->WB (n+1) r Q ⟨aJ (aJ m 9 a) 10 (tp (pk (i+1))),mix [49,62] u h,t⟩):
 WB (n+1) (.c (.i (.m .In (.cS "%prec") (.v 2)) (sq [.i (.m .Eq (.s (.v 2) (.q (.cI 1))) (.cS "%prec")) (sq [.z]) .n,.i (.m .NotEq (.s (.v 2) (.q (.cI 2))) (.cS "%prec")) (sq [.z]) .n,.g (.v 9) (.s (.v 2) (.q (.cI 1))),.g (.v 10) (.cD .g (.a (.v 0) 22) (sq [.v 9])),.i (.o (.l (.v 10))) (sq [.z]) (sq [.e (.cD .d (.a (.v 0) 23) (sq [.v 9]))]),.Kz 2 2]) (sq [.g (.v 9) (.d 3 (sq [.v 2,.a (.v 0) 18])),.g (.v 10) (.cD .g (.a (.v 0) 22) (sq [.v 9,.t (sq [.cS "right",.cI 0])]))])) r) Q ⟨m,h,t⟩:=by
 have e8:=gf.2.2.2.2.2.2.2;unfold pre at hs;by_cases c:gO i=dC
 .rw[aw c,i8]at hs;have el:lst i=x1 (ss (i+1)):=aw c
  have fin:=k (.s (x1 (ss (i+1)))) h xs hs (λb b=>Y) g9 (jZ z9);rw[<-uE]at fin;refine eC (aj (aA ahG) (VW bW (aG m2) hs Fd Y)) (cF (kU (rl (aW (aG m2) (aW (ra (aG m0) gi Y gf.2.2.2.1) bD)) ((ahA hs gt (λs q=>z4 s (zZ q)) ne ?_).o))));refine cF (iT (re (ra (aG m0) gi Y e8) ⟨_,kX g8,rl (aW (aG Y) (aW (jG (aW bW (aW bG bD)) (ao Y)) bD)) (ur g8 Y (aM ?_))⟩));have ep:(bI gF (.s (x1 (ss (i+1))))).getD (V.cq [.s "right",.i 0])=tp (pk (i+1)):=V4.trans (aq (λa=>tp (pq a)) el.symm)
  exact ak ep fin
 .refine oA (V0 c) λhn hW=>oE hW λw hw=>?_;rw[au c]at hs;have el:lst i=gO i:=au c
  have ep:tp (pk (i+1))=tp w:=aq tp ((aq pq el).trans (by rw[pq,hw];rfl))
  have np:¬gO i=qw:=λe=>hn.elim (λq=>ax (q.symm.trans e) (ao Y)) λq=>ax (q.symm.trans e) (ao Y);have zl:=(oV hi).2
  have ln:((ss (i+1)++[qw,gO i]).map V.s).length=(ss (i+1)).length+2:=by rw[bc,dY];rfl
  have at1:((ss (i+1)++[qw,gO i]).map V.s)[((ss (i+1)++[qw,gO i]).map V.s).length-(0+1)]?=M (.s (gO i)):=by
   rw[ln,dF,CN (by rw[bc];exact l7 _),bc,show(ss (i+1)).length+2-(0+1)-(ss (i+1)).length=1 from an8 ..]
   rfl
  have at2:((ss (i+1)++[qw,gO i]).map V.s)[((ss (i+1)++[qw,gO i]).map V.s).length-(1+1)]?=M (.s qw):=by
   rw[ln,dF,CN (by rw[bc];exact b8 _),bc,show(ss (i+1)).length+2-(1+1)-(ss (i+1)).length=0 from JF _]
   rfl
  have r1:∀{m:Mp},m 2=M (.e (62,x))->RE ⟨m,h,t⟩ (.s (.v 2) (.q (.cI 1))) (.s (gO i)):=λm2=>dH (aG m2) (rD bG) (Hb hs (ak ln (fY _)) at1);have r2:RE ⟨m,h,t⟩ (.s (.v 2) (.q (.cI 2))) (.s qw):=dH (aG m2) (rD bG) (Hb hs (ak ln (vE (fY _))) at2)
  refine gN (aj (az (wx.mpr (dI _ (.head _)))) (VW bW (aG m2) hs Fd Y)) (eC (aj (aA np) (my (r1 m2) bW)) (aM (s_1 (Nc r2 bW) Y (eZ (r1 m2) ?_))));refine cF (iT (re (ra (aG m0) gi Y e8) ⟨_,kX g8,rl (aW (aG Y) bD) (sS g8 Y ?_)⟩));have eg:(bI gF (.s (gO i))).getD .n=tp (pk (i+1)):=by rw[zY,hw,ep];rfl
  rw[eg];refine eC (kF (fq (aG Y) (SO (vs:=[.s (pk (i+1)).1,.i (pk (i+1)).2])))) (oR (iT (re (ra (aG m0) gi Y f23) ⟨_,adX g9,rl (aW (aG Y) bD) (adV g9 (bM (aV z9 zi) (ao Y)) (aM (hM (ag6 m2 (show 62≠0 by decide) hs (ao Y) (ak ln (aV (pW (dK zl) 2) (by decide))) (aM ?_)))))⟩)))
  show WB _ r Q ⟨_,(h.aH (49,[]) _).aH (62,x) _,t⟩;rw[mR (R:=[49,62]) (h:=h) Y,bJ Y];refine k _ _ (setAdd xs (.s (gO i))) ?_ (λy e=>aQ λw=>e (aq JN w)) Y ?_
  .rw[bo,ln,show(ss (i+1)).length+2-2=((ss (i+1)).map V.s).length from(PU ..).trans (bc ..).symm,dF,List.take_left]
  .unfold setAdd
   split
   .exact jZ z9
   .rw[dY];exact j3 z9
noncomputable def wG(r:Ss):aP:=dC++sE++bH " -> "++(xe (r.map .str)).shown
def ahK:∀c∈zV,zO sE (c.map sN)/\(xe ((c.map sN).map .str)).showable=O/\(xe ((c.map sN).map .str)).shown.length<=16777216/\(wG (c.map sN)).length<=16777216/\pZ (wG (c.map sN))=O/\((c.map sN).filter λs=>!decide (s=sE))≠[]:=by unfold zO;decide+kernel
def ahL:∀c∈zV,∀d∈zV,wG (c.map sN)=wG (d.map sN)->c=d:=by decide+kernel
def V5(h:i<nG):zO sE (ss (i+1))/\(xe ((ss (i+1)).map .str)).showable=O/\(xe ((ss (i+1)).map .str)).shown.length<=16777216/\(wG (ss (i+1))).length<=16777216/\pZ (wG (ss (i+1)))=O/\((ss (i+1)).filter λs=>!decide (s=sE))≠[]:=by refine oE (Fn h) λr R=>?_;exact ak R.aF (ahK r (B6 (cO R.aC)))
def V6(h:i<nG):V.s (wG (ss (i+1)))∉(bQ i).map λj=>V.s (wG (ss (j+1))):=λw=>by
 refine bT (bX.mp w) λj hj e=>?_;have lt:=j4.mp hj
 refine oE (Fn h) λr R=>?_;refine oE (Fn (jV lt h)) λr' R'=>?_;rw[R.aF,R'.aF]at e;exact ax ((ahL _ (B6 (cO R'.aC)) _ (B6 (cO R.aC)) (str_inj e)▸R').un R) (gZ lt)
variable{z:Nat} {a:aP}
section
variable{lo:Loc}
def jK.bU{z':Nat}(d:jK lo k z ks h)(le:z<=z'):jK lo k z' ks h:=⟨d.1,λs=>by
 have w:=d.2 s;by_cases e:s∈ks
 .exact sZ e ((H7 w e).imp λvs q=>⟨q.1,aV q.2 le⟩)
 .exact uH e (uG w e)⟩
def jK.app(d:jK lo k z ks h)(i:a∈ks)(e:h (k,cd a)=M (.l vs))(zv:vs.length<=z)(ne:dM lo.1 k=Z):jK lo k (z+1) ks (h.aH (k,cd a) (.l (vs++[y]))):=⟨(aQ (aU ne)).trans d.1,λs=>by
 have w:=d.2 s;by_cases e:s∈ks
 .refine sZ e ?_;by_cases q:s=a
  .subst q;exact⟨_,bo,ak dY (j3 zv)⟩
  .exact ak (aQ (zP q)) ((H7 w e).imp λvs q=>⟨q.1,jZ q.2⟩)
 .exact uH e ((aQ (zP λq:s=a=>e (aj q.symm i))).trans (uG w e))⟩
noncomputable def d1(i r:Nat):Es:=if i=0 then []else [(.s sE,.e (r,[]))]
def rK{r:Nat}:(bI (d1 (i+1) r) (.s sE))=M (.e (r,[])):=aw Y
def ahM{a:Sx}{x:V}{l:Loc}(ha:RE K a x)(hb:RE K b (.e l))(hl:K.h l=M (.d []))(kx:x.cV 7=O):RT K (.m .NotIn a b) O:=wu ha hb hl kx
def Ng{a:Sx}{l:Loc}{r:Nat}(ha:RE K a (.s sE))(hb:RE K b (.e l))(hl:K.h l=M (.d (d1 (i+1) r))):RT K (.m .NotIn a b) Z:=Qy (motive:=λo:Option V=>RT K (.m .NotIn a b) (!o.isSome)) rK (wu ha hb hl Y)
def ahN(gi:h (1,[])=M (.i 4 f))(gf:Fh f)(d4:jK (44,[]) 12 z ts h)(g5:h (45,[])=M (.d (d1 i 13)))(l5:if i=0 then h (13,[])=U else∃vs,h (13,[])=M (.l vs)/\vs.length<=z)(zn:l.length<=9/\z<=1000)(hl:∀s∈l,s∈xW)(hs:h (62,x)=M (.l (l.map .s)))(m0:m 0=M (.e (1,[])))(m1:m 1=M (.s sE))(m2:m 2=M (.e (62,x)))(Ic:m 13=M y)
 (k:∀v u ws,jK (44,[]) 12 (z+l.length) ts u->u (45,[])=M (.d (d1 1 13))->u (13,[])=M (.l ws)->ws.length<=z+l.length->WB n r Q ⟨ba [14] v m,mix [12,13,44,45] u h,t⟩):
 WB n (.c (.i (.m .NotIn (.v 1) (.a (.v 0) 19)) (.c (.aaE (.a (.v 0) 19) (.v 1) (.h .n)) .n) .n) (.c (.f (.v 14) (.l (.v 2)) Mu .n) r)) Q ⟨m,h,t⟩:=by
 have z8:=gf.2.2.2.2.1;have loop:∀u ws,jK (44,[]) 12 z ts u->u (45,[])=M (.d (d1 1 13))->u (13,[])=M (.l ws)->ws.length<=z->WB n (.c (.f (.v 14) (.l (.v 2)) Mu .n) r) Q ⟨m,mix [12,13,44,45] u h,t⟩:=λu ws e4 e5 pO zw=>by
  refine iW (l.map .s) (λj K=>j<=l.length/\∃v u ws,K=⟨ba [14] v m,mix [12,13,44,45] u h,t⟩/\jK (44,[]) 12 (z+j) ts u/\u (45,[])=M (.d (d1 1 13))/\u (13,[])=M (.l ws)/\ws.length<=z+j) (aG m2) (λj K I=>?_) ⟨b7 _,m,u,ws,mu jx Y,e4,e5,pO,zw⟩ (λj v K hv I=>?_) λK I=>?_
  .obtain⟨_,v,u,ws,rfl,_⟩:=I;exact hs
  .obtain⟨lj,w,u,ws,rfl,e4,e5,pO,zw⟩:=I;obtain⟨s,hs,rfl⟩:=d7 hv;have hm:aJ (ba [14] w m) 14 (.s s)=ba [14] (aJ w 14 (.s s)) m:=bZ Y
   have lt:j<l.length:=(cG.mp hs).1;have zj:z+j<16777216:=bM (ri zn.2 (aV lj zn.1)) (ao Y)
   refine jd (B4 (aG Y) (ra (aG m0) gi Y gf.2.2.2.1) e4.1) (λc=>?_) λc=>?_
   .refine bT (H7 (e4.2 s) c) λvs k1 k2=>?_;exact pJ Y Y (dH (ra (aG m0) gi Y gf.2.2.2.1) (aG Y) (ig e4.1 Y (M6 c))) k1 (aG Ic) (bM k2 zj) (aM (aM ⟨lt,_,_,ws,mu hm Y,e4.app c k1 k2 Y,e5,pO,jZ zw⟩))
   .have es:s=sE:=Ge.mp λw=>c ((z4 s (hl s (cO hs))).mpr w);subst es;refine eC (Ng (aG Y) (ra (aG m0) gi Y z8) e5) (aM ?_);exact pJ Y Y (dH (ra (aG m0) gi Y z8) (aG Y) (ig e5 Y rK)) pO (aG Ic) (bM zw zj) (aM (aM ⟨lt,_,_,ws++[y],mu hm Y,e4.bU (l7 _),e5,Y,ak dY (j3 zw)⟩))
  .obtain⟨_,v,u,ws,rfl,e⟩:=I;rw[bc]at e;exact k v u ws e.1 e.2.1 e.2.2.1 e.2.2.2
 have mk:=uE (R:=[12,13,44,45]) (h:=h);cases i with
 |zero=>refine gN (ahM (aG m1) (ra (aG m0) gi Y z8) g5 Y) ?_;rw[mk];refine H5 (13,[]) Y Y Y l5 (ra (aG m0) gi Y z8) g5 (aG m1) Y (ao Y) (aM ?_);exact loop _ [] d4 Y Y (b7 _)
 |succ i=>refine eC (Ng (aG m1) (ra (aG m0) gi Y z8) g5) ?_;refine bT (uG l5 (qD i)) λws pO zw=>?_;exact ak mk (aM (loop _ ws d4 g5 pO zw))
end
noncomputable def rL(k:Nat):Vs:=(bQ k).map λp=>.e (2,[p+1])
def V7:rL k++[.e (2,[k+1])]=rL (k+1):=by rw[rL,rL,C4,dF];rfl
def Fq:(rL k).length=k:=by rw[rL,bc,fP]
noncomputable def uK(j:Nat):V:=.s (wG (ss (j+1)))
def nZ(u:Hp)(g:Mp)(p:Nat)(nm:aP):Prop:=H2 p nm (ss p) (tp (pk p)) (.i 0) g/\u (2,[p])=M (.i 1 g)/\u (3,[p])=M (.l ((dd (ss p)).map .s))
section
variable{g:Mp} (hh:nZ u g p nm)
def nZ.aC:=hh.1
def nZ.aF:=hh.2.1
def nZ.aI:=hh.2.2
end
structure GA(k:Nat)(F:Nat->Mp)(u:Hp):Prop where
 aC:u (1,[])=M (.i 4 f0)
 aK:u (41,[])=M (.l (.n::rL k))
 aO:u (42,[])=M (.d (d1 k 8))
 bb:if k=0 then u (8,[])=U else u (8,[])=M (.l (rL k))
 pP:∃es,u (43,[])=M (.d es)/\es.map (·.1)=(bQ k).map uK
 aF:jK (44,[]) 12 (9*k) ts u
 bz:u (45,[])=M (.d (d1 k 13))
 j9:if k=0 then u (13,[])=U else∃vs,u (13,[])=M (.l vs)/\vs.length<=9*k
 d9:u (46,[])=M (.d [])
 cC:u (47,[])=M (.d [])
 aI:u (48,[])=M (.d gF)
 wH:∃xs,u (49,[])=M (.s xs)/\xs.length<=k
 jI:∀p<k,nZ u (F (p+1)) (p+1) sE
 iL:∀p,k<p\/p=0->u (2,[p])=U/\u (3,[p])=U/\u (7,[p])=U
def gQ:Fh f0:=⟨Y,Y,Y,Y,Y,Y,Y,Y⟩
def mz{r p':Nat}(h:p'≠p):((r,[p']):Loc)≠(r,[p]):=λe=>h (d6 (cP e).2).1
def ahO(hi:i<nG)(gi:h (1,[])=M (.i 4 f0))(gp:h (41,[])=M (.l (.n::rL i)))(gm:h (43,[])=M (.d es))(em:es.map (·.1)=(bQ i).map uK)(gn:h (42,[])=M (.d (d1 i 8)))(g8:if i=0 then h (8,[])=U else h (8,[])=M (.l (rL i)))
 (fr:h (2,[i+1])=U/\h (3,[i+1])=U/\h (7,[i+1])=U)(hs:h (62,x)=M (.l ((ss (i+1)).map .s)))(m0:m 0=M (.e (1,[])))(m1:m 1=M (.s sE))(m2:m 2=M (.e (62,x)))(m3:m 3=M .n)(m4:m 4=M (.s dC))(m5:m 5=M (.i 0))(m10:m 10=M (tp (pk (i+1))))(m11:m 11=M (uK i))(Ic:m 13=M (.i (i+1:Nat)))
 (k:∀v g ae,nZ ae g (i+1) sE->(∀p',p'≠i+1->ae (2,[p'])=h (2,[p'])/\ae (3,[p'])=h (3,[p'])/\ae (7,[p'])=h (7,[p']))->ae (41,[])=M (.l (.n::rL (i+1)))->(∃es,ae (43,[])=M (.d es)/\es.map (·.1)=(bQ (i+1)).map uK)->ae (42,[])=M (.d (d1 (i+1) 8))->ae (8,[])=M (.l (rL (i+1)))->Q .n ⟨ba [15] v m,mix [2,3,7,8,41,42,43] ae h,t⟩):
 WB (n+2) (.c (.g (.v 15) (.B 1 (.c (.v 13) (.c (.v 1) (.c (.v 2) (.c (.v 10) (.c (.v 3) (.c (.v 4) (.c (.v 5) .n))))))))) (.c (.e (.cD .a (.a (.v 0) 15) (.c (.v 15) .n))) (.c (.aaE (.a (.v 0) 17) (.v 11) (.v 15)) (.c (.GW (.cD .a (.s (.a (.v 0) 16) (.v 1)) (.c (.v 15) .n)) (.a (.v 0) 16) (.v 1) (.v 15)) .n)))) Q ⟨m,h,t⟩:=by
 have zi:=jV hi kK.2;have nw:uK i∉es.map (·.1):=ak em (V6 hi)
 refine cF (D5 (rl (aW (aG Ic) (aW (aG m1) (aW (aG m2) (aW (aG m10) (aW (aG m3) (aW (aG m4) (aW (aG m5) bD))))))) ((ahc (V5 hi).1 hs fr.1 fr.2.1 fr.2.2 λg pf=>?_).o)));rw[mR (R:=[2,3,7,8,41,42,43]) (h:=h) Y,bJ Y,bJ Y];have hm:aJ m 15 (.e (2,[i+1]))=ba [15] (aJ m 15 (.e (2,[i+1]))) m:=by rw[<-bZ Y,<-jx]
 generalize hu:((h.aH (3,[i+1]) _).aH (7,[i+1]) _).aH (2,[i+1]) _=u;refine pJ (vs:=.n::rL i) Y Y (ra (aG m0) gi Y gQ.1) (aj hu gp) (aG Y) (by rw[vD,Fq];exact jV (vE zi) (ao Y)) (VK (ds:=es) Y (ra (aG m0) gi Y gQ.2.2.1) (aj hu gm) (aG m11) (aG Y) Y (by rw[<-bc,em,bc,fP];exact jV zi (ao Y)) (f6 ?_))
 have nY:∀p',p'≠i+1->u (2,[p'])=h (2,[p'])/\u (3,[p'])=h (3,[p'])/\u (7,[p'])=h (7,[p']):=λp' e=>aj hu ⟨aQ (mz e),aQ (mz e),aQ (mz e)⟩;have ph:nZ u g (i+1) sE:=⟨pf,aj hu bo,aj hu bo⟩
 have Ie:u (42,[])=M (.d (d1 i 8)):=aj hu gn;have V8:(cX es (uK i) (.e (2,[i+1]))).map (·.1)=(bQ (i+1)).map uK:=by rw[mw nw,dF,em,C4,dF];rfl
 have e41:(.n::rL i)++[V.e (2,[i+1])]=.n::rL (i+1):=aq (V.n::·) V7;rw[e41];cases i with
 |succ i=>
  have k8:u (8,[])=M (.l (rL (i+1))):=aj hu (uG g8 (qD i));refine aeS (iT (re (dH (ra (aG m0) gi Y gQ.2.1) (aG m1) (ig Ie Y rK)) ⟨_,Hi k8,rl (aW (aG Y) bD) (D7 (show 8≠0 by decide) k8 (by rw[Fq];exact jV zi (ao Y)) (aM ?_))⟩))
  show Q .n ⟨aJ m 15 (.e (2,[i+1+1])),(mix [2,3,7,8,41,42,43] ((u.aH (41,[]) (.l (.n::rL (i+1+1)))).aH (43,[]) (.d (cX es (uK (i+1)) (.e (2,[i+1+1]))))) h).aH (8,[]) (.l (rL (i+1)++[.e (2,[i+1+1])])),t⟩;rw[bJ Y,hm,V7];exact k _ g _ ⟨ph.aC,ph.aF,ph.aI⟩ nY Y ⟨_,Y,V8⟩ Ie bo
 |zero=>have n8:u (8,[])=U:=aj hu g8;refine aeT (aeQ (UC (ra (aG m0) gi Y gQ.2.1) (aG m1) Ie Y Y)) m0 m1 Y Y Y (ao Y) (dQ (8,[]) Y n8 ⟨⟨f0,gi,Y⟩,Ie,aM ?_⟩);show Q .n ⟨aJ m 15 (.e (2,[0+1])),((mix [2,3,7,8,41,42,43] ((u.aH (41,[]) (.l (.n::rL (0+1)))).aH (43,[]) (.d (cX es (uK 0) (.e (2,[0+1]))))) h).aH (8,[]) (.l [.e (2,[0+1])])).aH (42,[]) (.d (d1 1 8)),t⟩;rw[bJ Y,bJ Y,hm];exact k _ g _ ⟨ph.aC,ph.aF,ph.aI⟩ nY Y ⟨_,Y,V8⟩ Y Y
variable{F:Nat->Mp}
def GA.next{ae:Hp}{g:Mp}(G:GA k F h)(P:nZ ae g (k+1) sE)(o:∀p',p'≠k+1->ae (2,[p'])=h (2,[p'])/\ae (3,[p'])=h (3,[p'])/\ae (7,[p'])=h (7,[p']))(Nh:ae (41,[])=M (.l (.n::rL (k+1))))(Ni:∃es,ae (43,[])=M (.d es)/\es.map (·.1)=(bQ (k+1)).map uK)(Nj:ae (42,[])=M (.d (d1 (k+1) 8)))(u8:ae (8,[])=M (.l (rL (k+1))))
 (d4:jK (44,[]) 12 (9*(k+1)) ts h')(Nk:h' (45,[])=M (.d (d1 1 13)))(pO:h' (13,[])=M (.l ws))(zw:ws.length<=9*(k+1))(e1:h' (1,[])=M (.i 4 f0))(e46:h' (46,[])=M (.d []))(Nm:h' (47,[])=M (.d []))(Nn:h' (48,[])=M (.d gF))(Np:h' (49,[])=M (.s ys))(zy:ys.length<=k+1):
 GA (k+1) (λp=>if p=k+1 then g else F p) (mix [2,3,7,8,41,42,43] ae h')where
 aC:=e1
 aK:=Nh
 aO:=Nj
 bb:=u8
 pP:=Ni
 aF:=d4
 bz:=Nk
 j9:=⟨ws,pO,zw⟩
 d9:=e46
 cC:=Nm
 aI:=Nn
 wH:=⟨ys,Np,zy⟩
 jI:=λp lt=>by
  by_cases e:p=k
  .subst e;rw[aw Y];exact⟨P.aC,P.aF,P.aI⟩
  .have w:=G.jI p (t7 (hO lt) e);have ne:p+1≠k+1:=λq=>e (pb q)
   rw[au ne];exact⟨w.aC,(o _ ne).1.trans w.aF,(o _ ne).2.1.trans w.aI⟩
 iL:=λp hp=>by
  have ne:p≠k+1:=λq=>hp.elim (λw=>dq _ (q▸w)) λw=>pA (q.symm.trans w) Y;have w:=G.iL p (hp.imp PW id)
  exact⟨(o _ ne).1.trans w.1,(o _ ne).2.1.trans w.2.1,(o _ ne).2.2.trans w.2.2⟩
noncomputable abbrev aR:Nl:=[2,3,7,8,12,13,41,42,43,44,45,49,62,99]
def ahT{Q:RQ}(G:GA k F h)(hk:k<nG)(hs:h (62,x)=M (.l ((ss (k+1)++pre k).map .s)))
 (q:∀F' u t',GA (k+1) F' (mix aR u h)->(∀y,y≠x->u (62,y)=h (62,y))->Q .n (mix aR u h) t'):bO (n+3) (bS 25) [.e (1,[]),.s sE,.e (62,x)] Q h t:=by
 have zk:k<5:=jV hk kK.2;refine bT G.wH λxs g9 z9=>?_;refine bT G.pP λes ge ek=>?_;have T:=V5 hk
 refine f9 agl Y (ahD (λs hm=>?_) G.aC gQ.2.2.2.1 G.aF.1 hs Y Y Y λv1 u1 t1=>?_)
 .rcases cZ.mp hm with w|w
  .exact .tail _ (.tail _ (zZ w))
  .unfold pre at w
   split at w
   .exact bA w
   .rcases cU.mp w with e|w
    .exact e▸.tail _ (.head _)
    .obtain rfl:=bK.mp w;exact(V0 ‹_›).1.elim (λe=>e▸.head _) λe=>e▸(by decide)
 refine ahH G.aC gQ Y G.aF.1 G.aI g9 z9 (dK (dJ zk (by decide))) hk hs T.2.2.2.2.2 Y Y λa u2 ys Nq o62 Np zy=>?_
 refine eZ (λn Q q=>TP (Hx (re (aG Y) ⟨sE,LR (by decide),(by decide),TO (by decide) (Hx (re (aG Y) ⟨_,ad5 Nq T.2.1 T.2.2.1,T.2.2.2.1,TN T.2.2.2.2.1 q⟩))⟩))) ?_
 refine eC (aA (ek▸V6 hk)▸pI▸sY (aG Y) (ra (aG Y) G.aC Y gQ.2.2.1) ge Y) (aM (eZ (qu (ra (aG Y) G.aC Y gQ.1) G.aK) ?_));refine ahN G.aC gQ G.aF G.bz G.j9 ⟨dK (dJ (oV hk).2 (by decide)),aV (o9 9 (dK zk)) (by decide)⟩ (λs hs=>zZ hs) Nq Y Y Y Y λv3 u3 ws d4 Nk pO zw=>?_
 refine ahO hk G.aC G.aK ge ek G.aO G.bb (G.iL (k+1) (.inl (i7 k))) Nq Y Y Y Y Y Y Y Y (aq (λx:Nat=>M (V.i (x+1:Nat))) (Fq)) λv4 g ae P o Nh Ni Nj u8=>?_;have zz:9*k+(ss (k+1)).length<=9*(k+1):=gu (dK (dJ (oV hk).2 (by decide))) _
 have G':=G.next (h':=mix [12,13,44,45] u3 (mix [49,62] u2 (mix [99] u1 h))) P o Nh Ni Nj u8 (d4.bU zz) Nk pO (aV zw zz) G.aC G.d9 G.cC G.aI Np zy;have e:mix [2,3,7,8,41,42,43] ae (mix [12,13,44,45] u3 (mix [49,62] u2 (mix [99] u1 h)))=mix aR (mix [2,3,7,8,41,42,43] ae (mix [12,13,44,45] u3 (mix [49,62] u2 (mix [99] u1 h)))) h:=by have w:=uE (R:=aR) (h:=h);rw[<-kb Y,<-kb Y,<-kb Y,<-kb Y,<-w]
 have z:=q (λp=>if p=k+1 then g else F p) (mix [2,3,7,8,41,42,43] ae (mix [12,13,44,45] u3 (mix [49,62] u2 (mix [99] u1 h)))) t1 (e▸G') o62;rw[<-e]at z;exact z
noncomputable def f1:Mp:=aJ f0 24 (.s sE)
noncomputable def sP:aP:="S'"
noncomputable def qW(p:Nat):aP:=if p=0 then sP else sE
noncomputable def refs(n:Nat):Vs:=(bQ n).map λp=>.e (2,[p])
structure GS(F:Nat->Mp)(u:Hp):Prop where
 aC:u (1,[])=M (.i 4 f1)
 aF:u (41,[])=M (.l (refs (nG+1)))
 bb:u (42,[])=M (.d (d1 1 8))
 aO:u (44,[])=M (.d (kJ 12 ts))
 aK:u (45,[])=M (.d (d1 1 13))
 iL:u (46,[])=M (.d [])
 d9:u (47,[])=M (.d [])
 cC:u (48,[])=M (.d gF)
 aI:∀p≤nG,nZ u (F p) p (qW p)
 bz:u (8,[])=M (.l (rL nG))
def ahV:zO sP [sE]:=⟨ao Y,ao Y,ao Y,by decide+kernel,by decide+kernel,by decide+kernel,ao Y,ao Y,by decide+kernel,Y⟩
variable{Q:RQ}
def ahW:(.n::rL n).set 0 (.e (2,[0]))=refs (n+1):=by rw[rL,refs,Zu,l6,fC];rfl
def ahX(G:GA nG F h)(q:∀F' u t',GS F' u->Q .n (mix [1,2,3,7,13,41,99] u h) t'):bO (n+3) (bS 26) [.e (1,[]),.s sE] Q h t:=by
 refine qG (G.iL 0 (.inr Y)) λk2 k3 k7=>?_;have n0:nG≠0:=fQ (jV (ao Y) kK.1)
 have nt:h (45,[])=M (.d (d1 1 13)):=aj (aq (λe=>M (af.d e)) (au n0)) G.bz;have pn:h (42,[])=M (.d (d1 1 8)):=aj (aq (λe=>M (af.d e)) (au n0)) G.aO
 refine bT (uG G.j9 n0) λvs k8 k9=>?_;refine f9 agO Y (eC (kF (p:=O) (fq (aG Y) (Lg (ao Y)))) (aM (eC (Ng (aG Y) (ra (aG Y) G.aC Y gQ.2.2.2.2.1) nt) (aM (hM (uv (D5 (fM (re bG (fM (re bW (fM (fy (rl (aW (aG Y) bD) ⟨(ao Y),jJ (eV ((ahd (h:=h.aH (bN t) (.l ((ss 0).map .s))) ahV bo k2 k3 k7 λg pf=>?_).o))⟩))))))))))))));rw[mR (R:=[1,2,3,7,13,41,99]) (h:=h) Y,bJ Y,bJ Y,bJ Y];generalize hu:(((h.aH _ _).aH (3,[0]) _).aH (7,[0]) _).aH (2,[0]) _=u;have p0:u (41,[])=M (.l (.n::rL nG)):=aj hu G.aK
 have g1:u (1,[])=M (.i 4 f0):=aj hu G.aC;have g13:u (13,[])=M (.l vs):=aj hu k8
 have g45:u (45,[])=M (.d (d1 1 13)):=aj hu nt;refine re (ra (aG Y) g1 Y gQ.1) (re bG (ab5 (show 41≠0 by decide) p0 (fY _) ?_))
 show WB _ _ _ ⟨_,(mix [1,2,3,7,13,41,99] u h).aH (41,[]) _,t+1⟩;rw[bJ Y,ahW];refine pJ Y Y (dH (ra (aG Y) g1 Y gQ.2.2.2.2.1) (aG Y) (ig nt Y (rK))) g13 bG (bM k9 (bM (o9 9 (dK kK.2)) (ao Y))) (m_s Y Y (aG Y) g1 (aG Y) (aM (q (λp=>if p=0 then g else F p) _ _ ?_)));refine⟨Y,Y,aj hu pn,aj hu G.aF.1,g45,aj hu G.d9,aj hu G.cC,aj hu G.aI,λp hp=>?_,aj hu (uG G.bb n0)⟩;cases p with
 |zero=>exact⟨pf,aj hu Y,aj hu Y⟩
 |succ p=>have w:=G.jI p hp;rw[au (qD p)];exact⟨w.aC,aj hu w.aF,aj hu w.aI⟩
def ah0{z:V}(hy:vs[vs.length-1]?=M z):I2 K (V.cq vs) (.i (-1)) z:=λF A n W s v u T vx vy=>cQ (VR.lK.mp vx) λa q=>q.elim λbu q=>q.1▸cQ vy λt e=>e▸
 have g:=T.aC.th a bu q.2.1;have ln:=q.2.2.iI
 have lt:=bM (b7 _) (cG.mp hy).1
 have sq:Dd (-1) (vs.length)=M (vs.length-1):=by
  have e:(-1)+(vs.length)=((vs.length-1:Nat):Int):=(apA ..).trans (Int.ofNat_sub lt).symm;have k:=KT (xg lt pd)
  unfold Dd at k⊢;rw[au (vG.mpr (jR _))]at k;rw[aw (by decide:(-1)<0),e]
  exact k
 ⟨⟨"tuple",_,⟨_,g,Y⟩,Jf.lookup⟩,(q.2.2.nK hy).elim λw r=>anC ⟨_,g,Y,0,Y⟩ (ao Y) (ao Y) (by rw[q8,ln];exact sq) (by rw[AK];exact r.1) ⟨⟨s.toks,Y⟩,r.2⟩⟩
noncomputable def Aa(p i:Nat):Loc:=if sy p i=M sE then(8,[])else(9,[p,i])
def mA(p i:Nat)(f:Mp)(ae:Hp):Prop:=M4 p i (qW p) (ss p) f/\f 28=M (.e (Aa p i))/\(∀s,0<i->sy p (i-1)=M s->f 29=M (.s s))/\ae (5,[p,i])=M (.i 2 f)/\ae (6,[p,i])=M (.d [])/\(Aa p i=(9,[p,i])->ae (9,[p,i])=M (.l []))
section
variable{ae:Hp} (hh:mA p i f ae)
def mA.aC:=hh.1
def mA.aI:=hh.2.1
def mA.bb:=hh.2.2.1
def mA.aF:=hh.2.2.2.1
def mA.aO:=hh.2.2.2.2.1
def mA.aK:=hh.2.2.2.2.2
end
variable{xs:Ss} {Q:QF} {g:Mp}
def Nr(hi:i<=xs.length)(h:xs[i]?=M s):(dot xs i)[i+1]?=M s:=by
 have e:(xs.take i).length=i:=by rw[xb,xc hi]
 rw[dot,CN (by rw[e];exact l7 i),e,an8,Zq,PT]
 exact h
def ah1(hi:i+1<=xs.length):(dot xs (i+1))[i]?=xs[i]?:=by
 have e:(xs.take (i+1)).length=i+1:=by rw[xb,xc hi]
 rw[dot,AI (by rw[e];exact i7 i),ZH,aw (i7 i)]
def ah2(gi:h (1,[])=M (.i 4 (f1)))(gn:h (42,[])=M (.d (d1 1 8)))(P:nZ h g p (qW p))(hp:p<=nG)(hi:i<=(ss p).length)(h5:h (5,[p,i])=U)(h6:h (6,[p,i])=U)(h9:h (9,[p,i])=U)
 (m0:m 0=M (.e (1,[])))(m1:m 1=M (.e (2,[p])))(m3:m 3=M (.i i))
 (k:∀f ae t',mA p i f ae->(∀y,y≠[p,i]->ae (5,y)=h (5,y)/\ae (6,y)=h (6,y)/\ae (9,y)=h (9,y))->WB (n+2) r Q ⟨aJ m 5 (.e (5,[p,i])),mix [5,6,9,99] ae h,t'⟩):
 WB (n+2) (.c (.g (.v 5) (.B 2 (.c (.v 1) (.c (.v 3) .n)))) (.c (.DK (.v 5) 28 (.s (.a (.v 0) 16) (.s (.a (.v 5) 1) (.b .Add (.v 3) (.cI 1))))) (.c (.DI (.c (.dG (.v 5) 29 (.s (.a (.v 5) 1) (.b .Sub (.v 3) (.cI 1)))) .n)) r))) Q ⟨m,h,t⟩:=by
 have h2:=P.aF;have pf:=P.aC
 have zs:(ss p).length<=100:=dK (dJ (oV hp).2 (ao Y));refine cF (D5 (rl (aW (aG m1) (aW (aG m3) bD)) ((ahg h2 pf.1 pf.2.1 pf.2.2.1 pf.2.2.2.2.2.2.1 hi zs h5 h6 λf u it=>?_).o)));rw[mR (R:=[5,6,9,99]) (h:=h) Y,kb Y,bJ Y];generalize hu:(mix [99] u (h.aH (6,[p,i]) _)).aH (5,[p,i]) _=v;have e5:=hu▸bo
 have nY:∀y,y≠[p,i]->v (5,y)=h (5,y)/\v (6,y)=h (6,y)/\v (9,y)=h (9,y):=λy e=>aj hu ⟨aQ λw=>e (cP w).2,(show(h.aH (6,[p,i]) (.d [])) (6,y)=_ from aQ λw=>e (cP w).2),Y⟩
 have e6:v (6,[p,i])=M (.d []):=aj hu bo;have e9:v (9,[p,i])=U:=aj hu h9
 have fin:∀ae f2 t',ae (5,[p,i])=M (.i 2 f2)->M4 p i (qW p) (ss p) f2->f2 28=M (.e (Aa p i))->ae (6,[p,i])=M (.d [])->(Aa p i=(9,[p,i])->ae (9,[p,i])=M (.l []))->(∀y,y≠[p,i]->ae (5,y)=h (5,y)/\ae (6,y)=h (6,y)/\ae (9,y)=h (9,y))->
  WB (n+2) (.c (.DI (.c (.dG (.v 5) 29 (.s (.a (.v 5) 1) (.b .Sub (.v 3) (.cI 1)))) .n)) r) Q ⟨aJ m 5 (.e (5,[p,i])),mix [5,6,9,99] ae h,t'⟩:=λae f2 t' e5 it a28 e6 e9 nY=>by
  have done:∀z,(∀s,0<i->sy p (i-1)=M s->z=.s s)->WB (n+2) r Q ⟨aJ m 5 (.e (5,[p,i])),mix [5,6,9,99] (ae.aH (5,[p,i]) (.i 2 (aJ f2 29 z))) h,t'⟩:=λz hz=>
   k (aJ f2 29 z) _ t' ⟨it,a28,λs h0 hs=>aq M (hz s h0 hs),bo,e6,e9⟩ λy e=>⟨(aQ λw=>e (cP w).2).trans (nY y e).1,(nY y e).2⟩
  refine f6 (aeR ?_);cases i with
  |zero=>
   have lt:0<((dot (ss p) 0).map V.s).length:=by rw[bc,Ff hi];exact fY _
   obtain⟨z,hz⟩:=jy (xg lt pd);exact m_s Y Y (aG Y) e5 (dH (ra (aG Y) e5 Y it.2.1) (jv (aG m3) bG xG) (ah0 hz)) (aM (done z λs h0=>ax h0 (dq 0)))
  |succ j=>
   obtain⟨s,hs⟩:=jy hi;have e:=succ_sub j
   exact m_s Y Y (aG Y) e5 (dH (ra (aG Y) e5 Y it.2.1) (e▸jv (aG m3) bG xG) (yV (fU ((ah1 hi).trans hs)))) (aM (done _ λs' q By=>aq V.s (bF (hs.symm.trans By))))
 have rr:RE ⟨aJ m 5 (.e (5,[p,i])),mix [5,6,9,99] v h,t+1⟩ (.b .Add (.v 3) (.cI 1)) (.i (i+1)):=jv (aG m3) bG qm;have r1:RE ⟨aJ m 5 (.e (5,[p,i])),mix [5,6,9,99] v h,t+1⟩ (.a (.v 5) 1) (V.cq ((dot (ss p) i).map .s)):=ra (aG Y) e5 Y it.2.1
 have r0:RE ⟨aJ m 5 (.e (5,[p,i])),mix [5,6,9,99] v h,t+1⟩ (.a (.v 0) 16) (.e (42,[])):=ra (aG m0) gi Y gQ.2.1;have out:Aa p i=(9,[p,i])->∀X,X="KeyError"\/X="IndexError"->RZ ⟨aJ m 5 (.e (5,[p,i])),mix [5,6,9,99] v h,t+1⟩ (.s (.a (.v 0) 16) (.s (.a (.v 5) 1) (.b .Add (.v 3) (.cI 1)))) X->WB (n+2) (.c (.DK (.v 5) 28 (.s (.a (.v 0) 16) (.s (.a (.v 5) 1) (.b .Add (.v 3) (.cI 1))))) (.c (.DI (.c (.dG (.v 5) 29 (.s (.a (.v 5) 1) (.b .Sub (.v 3) (.cI 1)))) .n)) r)) Q ⟨aJ m 5 (.e (5,[p,i])),mix [5,6,9,99] v h,t+1⟩:=λea X hX hz=>
  f6 (aeX hz hX Y Y (dQ (9,[p,i]) Y e9 ⟨f,e5,by show WB (n+2) _ Q ⟨aJ m 5 (.e (5,[p,i])),((mix [5,6,9,99] v h).aH (9,[p,i]) (.l [])).aH (5,[p,i]) (.i 2 (aJ f 28 (.e (9,[p,i])))),t+1⟩;rw[bJ Y,bJ Y];exact fin _ (aJ f 28 (.e (9,[p,i]))) _ bo it (aj ea.symm Y) e6 (λq=>bo) λy e=>⟨(aQ λw=>e (cP w).2).trans (nY y e).1,(nY y e).2.1,(show(Hp.aH v (9,[p,i]) (.l [])) (9,y)=_ from aQ λw=>e (cP w).2).trans (nY y e).2.2⟩⟩))
 cases hs:sy p i with
 |none=>have ei:=pY hi (jj.mp hs);exact out (au λw=>cW (hs.symm.trans w)) _ (.inr Y) (aeP r0 (aeO r1 rr (by rw[bc,Ff hi,ei];exact b8 _) (aV (j3 (aV hi zs)) (ao Y))))
 |some s=>
  have rs:=dH r1 rr (yV (fU (Nr hi hs)));by_cases c:s=sE
  .subst c;have ea:Aa p i=(8,[]):=aw hs
   refine f6 (aeW (re (dH r0 rs (ig gn Y (rK))) (re (aG Y) (vW e5 Y ?_))));show WB (n+2) _ Q ⟨aJ m 5 (.e (5,[p,i])),(mix [5,6,9,99] v h).aH (5,[p,i]) (.i 2 (aJ f 28 (.e (8,[])))),t+1⟩;rw[bJ Y];exact fin _ (aJ f 28 (.e (8,[]))) _ bo it (aj ea.symm Y) e6 (λw=>nnl (ea.symm.trans w) Y) λy e=>⟨(aQ λw=>e (cP w).2).trans (nY y e).1,(nY y e).2⟩
  .exact out (au λw=>c (bF (hs.symm.trans w))) _ (.inl Y) (UC r0 rs gn Y (au λw=>c (str_inj w).symm))
noncomputable def Ab(q j:Nat):V:=if j<(ss q).length then .e (5,[q,j+1])else .n
def LJ(p i:Nat)(u:Hp):Prop:=(∀q≤nG,∃g,nZ u g q (qW q)/\(q<p\/q=p/\0<i->g 11=M (.e (5,[q,0]))))/\(∀q j,q<=nG->j<=(ss q).length->q<p\/q=p/\j<i->∃f,mA q j f u/\(q<p\/j+1<i->f 11=M (Ab q j)))/\∀q j,p<q\/q=p/\i<=j->u (5,[q,j])=U/\u (6,[q,j])=U/\u (9,[q,j])=U
variable(hh:LJ p i u)
def LJ.aF:=hh.1
def LJ.aC:=hh.2.1
def LJ.aI:=hh.2.2
variable{ae:Hp} {z:V}
def qx{a b c d:Nat}(h:[a,b]=[c,d]):a=c/\b=d:=⟨(d6 h).1,(d6 (d6 h).2).1⟩
def mA.aJ{q:Nat}{W:Hp}(x:mA q j f u)(h5:W (5,[q,j])=M (.i 2 (aJ f 11 z)))(h6:W (6,[q,j])=u (6,[q,j]))(h9:W (9,[q,j])=u (9,[q,j])):mA q j (aJ f 11 z) W:=⟨x.aC,x.aI,x.bb,h5,h6.trans x.aO,λe=>h9.trans (x.aK e)⟩
def mA.eq{q:Nat}{W:Hp}(x:mA q j f u)(h5:W (5,[q,j])=u (5,[q,j]))(h6:W (6,[q,j])=u (6,[q,j]))(h9:W (9,[q,j])=u (9,[q,j])):mA q j f W:=⟨x.aC,x.aI,x.bb,h5.trans x.aF,h6.trans x.aO,λe=>h9.trans (x.aK e)⟩
def LS(p i:Nat)(f:Mp)(u ae:Hp):Prop:=mA p i f ae/\(∀y,y≠[p,i]->ae (5,y)=u (5,y)/\ae (6,y)=u (6,y)/\ae (9,y)=u (9,y))/\∀y,ae (2,y)=u (2,y)/\ae (3,y)=u (3,y)
variable(hh:LS p i f u ae)
def LS.aI:=hh.1
def LS.aC:=hh.2.1
def LS.aF:=hh.2.2
theorem LJ.ah4(J:LJ p 0 u)(hp:p<=nG)(S:LS p 0 f u ae)(P:nZ u g p (qW p)):LJ p 1 (ae.aH (2,[p]) (.i 1 (aJ g 11 (.e (5,[p,0]))))):=
 ⟨λq hq=>by
  by_cases e:q=p
  .subst e;exact⟨aJ g 11 (.e (5,[q,0])),⟨P.aC,bo,(S.aF _).2.trans P.aI⟩,λa=>Y⟩
  .refine bT (J.aF q hq) λg' k1 k3=>?_;exact⟨g',⟨k1.aC,(aQ (mz e)).trans ((S.aF _).1.trans k1.aF),(S.aF _).2.trans k1.aI⟩,λw=>k3 (w.imp id λw=>ax w.1 e)⟩,
 λq j hq hj hd=>by
  by_cases e:q=p
  .subst e;obtain rfl:j=0:=Qi.mp (hd.resolve_left (dq _)).2;exact⟨f,S.aI.eq Y Y Y,λw=>w.elim (λw=>ax w (dq _)) λw=>ax w (ao Y)⟩
  .have ne:[q,j]≠[p,0]:=λw=>e (d6 w).1;refine bT (J.aC q j hq hj (.inl (hd.resolve_right λw=>e w.1))) λf' k1 k2=>?_;exact⟨f',k1.eq (S.aC _ ne).1 (S.aC _ ne).2.1 (S.aC _ ne).2.2,λw=>k2 (.inl (hd.resolve_right λw=>e w.1))⟩,
 λq j hd=>by
  have ne:[q,j]≠[p,0]:=λw=>hd.elim (λq'=>dq _ ((qx w).1▸q')) λq'=>ax q'.2 (by rw[(qx w).2];decide)
  have k:=J.aI q j (hd.imp id λw=>⟨w.1,b7 _⟩);exact⟨(S.aC _ ne).1.trans k.1,(S.aC _ ne).2.1.trans k.2.1,(S.aC _ ne).2.2.trans k.2.2⟩⟩
theorem LJ.ah5{f':Mp}(J:LJ p (i+1) u)(hp:p<=nG)(hi:i+1<=(ss p).length)(S:LS p (i+1) f u ae)(x':mA p i f' u):LJ p (i+2) (ae.aH (5,[p,i]) (.i 2 (iB.Lean.aJ f' 11 (.e (5,[p,i+1]))))):=
 ⟨λq hq=>(J.aF q hq).imp λg' k=>⟨⟨k.1.aC,(S.aF _).1.trans k.1.aF,(S.aF _).2.trans k.1.aI⟩,λw=>k.2 (w.imp id λw=>⟨w.1,fY _⟩)⟩,
 λq j hq hj hd=>by
  by_cases e:[q,j]=[p,i+1]
  .obtain⟨rfl,rfl⟩:=qx e;exact⟨f,S.aI.eq (aQ λw=>ax (qx (cP w).2).2 (Z3 i)) Y Y,λw=>w.elim (λw=>ax w (dq _)) λw=>ax w (dq _)⟩
  .have o:=S.aC _ e;by_cases e2:[q,j]=[p,i]
   .obtain⟨rfl,rfl⟩:=qx e2;exact⟨_,x'.aJ bo o.2.1 o.2.2,λa=>aq M (aw hi).symm⟩
   .have L4:q<p\/q=p/\j<i+1:=hd.imp id λw=>⟨w.1,t7 (hO w.2) λk=>e (by rw[w.1,k])⟩
    refine bT (J.aC q j hq hj L4) λNt k1 k2=>?_;exact⟨Nt,k1.eq ((aQ λw=>e2 (cP w).2).trans o.1) o.2.1 o.2.2,λa=>k2 (L4.imp id λl=>vE (t7 (hO l.2) λk=>e2 (by rw[l.1,k])))⟩,
 λq j hd=>by
  have ne:[q,j]≠[p,i+1]:=λw=>hd.elim (λq'=>dq _ ((qx w).1▸q')) λq'=>ax q'.2 (ak ((qx w).2) (dq _));have k:=J.aI q j (hd.imp id λw=>⟨w.1,rh w.2⟩)
  have Ig:((5,[q,j]):Loc)≠(5,[p,i]):=λw=>hd.elim (λq'=>dq _ ((qx (cP w).2).1▸q')) λq'=>ax q'.2 (by rw[(qx (cP w).2).2];exact Gp.mpr (sr (i7 i)))
  exact⟨(aQ Ig).trans ((S.aC _ ne).1.trans k.1),(S.aC _ ne).2.1.trans k.2.1,(S.aC _ ne).2.2.trans k.2.2⟩⟩
theorem LJ.last{f':Mp}{W:Hp}(J:LJ p ((ss p).length+1) u)(hp:p<=nG)(x':mA p (ss p).length f' u)(h5:W (5,[p,(ss p).length])=M (.i 2 (iB.Lean.aJ f' 11 .n)))(o5:∀y,y≠[p,(ss p).length]->W (5,y)=u (5,y))(o6:∀y,W (6,y)=u (6,y)/\W (9,y)=u (9,y))
 (P:nZ u g p (qW p))(h2:W (2,[p])=M (.i 1 (iB.Lean.aJ g 10 z)))(o2:∀y,y≠p->W (2,[y])=u (2,[y]))(o3:∀y,W (3,y)=u (3,y)):LJ (p+1) 0 W:=
 ⟨λq hq=>by
  refine bT (J.aF q hq) λah6 k1 k3=>?_;by_cases e:q=p
  .subst e;cases k1.aF.symm.trans P.aF;exact⟨iB.Lean.aJ g 10 z,⟨P.aC,h2,(o3 _).trans P.aI⟩,λa=>k3 (.inr ⟨Y,fY _⟩)⟩
  .exact⟨ah6,⟨k1.aC,(o2 _ e).trans k1.aF,(o3 _).trans k1.aI⟩,λw=>k3 (.inl (t7 (hO (w.resolve_right λw=>ax w.2 (dq 0))) e))⟩,
 λq j hq hj hd=>by
  have hd:=hd.resolve_right λw=>ax w.2 (nC j);by_cases e:[q,j]=[p,(ss p).length]
  .obtain⟨rfl,rfl⟩:=qx e;exact⟨_,x'.aJ h5 (o6 _).1 (o6 _).2,λa=>aq M (au (dq _)).symm⟩
  .obtain⟨Nt,k1,k2⟩:=J.aC q j hq hj (by
    by_cases w:q=p
    .subst w;exact .inr ⟨Y,pX hj⟩
    .exact .inl (t7 (hO hd) w))
   refine⟨Nt,k1.eq (o5 _ e) (o6 _).1 (o6 _).2,λa=>k2 ?_⟩;by_cases w:q=p
   .subst w;exact .inr (vE (t7 hj λk=>e (by rw[k])))
   .exact .inl (t7 (hO hd) w),
 λq j hd=>by
  have lt:p<q:=hd.elim PW λw=>ak w.1 (i7 p);have k:=J.aI q j (.inl lt)
  exact⟨(o5 _ λw=>dq _ ((qx w).1▸lt)).trans k.1,(o6 _).1.trans k.2.1,(o6 _).2.trans k.2.2⟩⟩
noncomputable abbrev bR:Nl:=[2,3,5,6,9,10,99]
noncomputable def ah7(p:Nat):Nat->Loc:=λi=>JR (2,[p]) (λi a=>(5,[p,i])) i
def BI(p i:Nat)(v:Mp)(u:Hp):Prop:=LJ p i u/\v 1=M (.e (2,[p]))/\v 2=M (.e (ah7 p i))/\v 3=M (.i i)/\v 4=M (.e (10,[p]))/\(∃vs,u (10,[p])=M (.l vs)/\vs.length=i)/\∀q,p<q->u (10,[q])=U
section
variable{v:Mp} (hh:BI p i v u)
def BI.aC:=hh.1
def BI.aF:=hh.2.1
def BI.aO:=hh.2.2.1
def BI.aK:=hh.2.2.2.1
def BI.aI:=hh.2.2.2.2.1
def BI.bz:=hh.2.2.2.2.2.1
def BI.bb:=hh.2.2.2.2.2.2
end
variable{v:Mp}
def gtT{a:Sx}(ha:RE K a (.i i)){P:Bool->QA}{N:Nat}(hb:WE N b (λx aT=>x=.i k/\aT=K/\P (decide (k<i)) K) K):WT N (.m .Gt a b) P K:=xH (re ha (by
 intro F A W s q T c;exact wm (hb F A W s q T c) (λu bp p=>p.dc λW' bk x R e vx k=>by obtain⟨rfl,rfl,k⟩:=k;exact⟨W',bk,_,R,e,vx,_,Bn,aj (decide_eq_decide.mpr jB).symm k⟩)))
theorem ah9(gi:h (1,[])=M (.i 4 (f1)))(gn:h (42,[])=M (.d (d1 1 8)))(m0:m 0=M (.e (1,[])))(hp:p<=nG)(hi:i<=(ss p).length+1)(B:BI p i v u)
 (k1:∀v' u' t',i<=(ss p).length->BI p (i+1) v' u'->Q .n ⟨ba [1,2,3,4,5] v' m,mix bR u' h,t'⟩)(k2:∀v' u' t',v' 1=M (.e (2,[p]))->v' 4=M (.e (10,[p]))->(∃g,u' (2,[p])=M (.i 1 g)/\∀ae z,(∀y,y≠p->ae (2,[y])=u' (2,[y]))->ae (2,[p])=M (.i 1 (aJ g 10 z))->(∀y,ae (5,y)=u' (5,y)/\ae (6,y)=u' (6,y)/\ae (9,y)=u' (9,y)/\ae (3,y)=u' (3,y))->LJ (p+1) 0 ae)->(∀q,p<q->u' (10,[q])=U)->Q .b ⟨ba [1,2,3,4,5] v' m,mix bR u' h,t'⟩):
 WB (n+3) UX Q ⟨ba [1,2,3,4,5] v m,mix bR u h,t⟩:=by
 refine bT (B.aC.aF p hp) λg P g11=>?_;have g2:=P.aF
 have pf:=P.aC;have zs:(ss p).length<=100:=dK (dJ (oV hp).2 (ao Y))
 refine f6 (xK (gtT (aG B.aK) (aeF (re (aG B.aF) ⟨(2,[p]),1,g,21,Y,g2,pf.2.2.2.2.2.2.2.2.2,Y,ahe g2 pf.2.1 ⟨(ss p).length,Y,aV zs (ao Y),Y,Y,?_⟩⟩))));by_cases c:(ss p).length<i
 .rw[az c];obtain rfl:i=(ss p).length+1:=pY hi c;refine bT (B.aC.aC p (ss p).length hp (b8 _) (.inr ⟨Y,i7 _⟩)) λf' x' r=>?_;refine eZ uo (aM (m_s Y Y (aG B.aO) x'.aF (aG Y) (gN (kF (fq (aG Y) sO)) (xS ?_))));have e:aJ (ba [1,2,3,4,5] v m) 5 V.n=ba [1,2,3,4,5] (aJ v 5 .n) m:=bZ Y
  rw[e];exact k2 _ _ t B.aF B.aI ⟨g,g2,λae z o2 h2 o=>B.aC.last hp x' ((o _).1.trans bo) (λy ne=>(o _).1.trans (aQ λw=>ne (cP w).2)) (λy=>⟨(o _).2.1,(o _).2.2.1⟩) P h2 o2 λy=>(o _).2.2.2⟩ B.bb
 .rw[aA c];have le:=iP.mp c
  refine qG (B.aC.aI p i (.inr ⟨Y,b8 _⟩)) λn5 n6 n9=>?_;refine ah2 gi gn ⟨P.aC,P.aF,P.aI⟩ hp le n5 n6 n9 m0 B.aF B.aK λf' ae t' X o=>aM ?_;rw[kb Y];have S:LS p i f' u (mix [5,6,9,99] ae u):=⟨X.eq Y Y Y,o,λr=>⟨Y,Y⟩⟩
  refine bT B.bz λvs l1 l2=>?_;have fin:∀W,LJ p (i+1) W->W (5,[p,i])=M (.i 2 f')->W (10,[p])=M (.l vs)->(∀q,p<q->W (10,[q])=U)->WB (n+3) (.c (.i (.o (.l (.v 5))) (.c .D .n) .n) (.c (.e (.cD .a (.v 4) (.c (.v 5) .n))) (.c (.g (.v 2) (.v 5)) (.c (.yQ 3 .Add (.cI 1)) .n)))) Q ⟨aJ (ba [1,2,3,4,5] v m) 5 (.e (5,[p,i])),mix bR W h,t'⟩:=λW J w5 w10 wf=>by
   refine eC (kF (fq (aG Y) (Sj w5))) (aM (pJ Y Y (aG B.aI) w10 (aG Y) (bM (aV (gy l2) (aV le zs)) (ao Y)) (eZ (aG Y) (hM (Ec B.aK (re bG ⟨_,Bx,aM ?_⟩))))));have e:aJ (aJ (aJ (ba [1,2,3,4,5] v m) 5 (.e (5,[p,i]))) 2 (.e (5,[p,i]))) 3 (.i ((i)+1))=ba [1,2,3,4,5] (aJ (aJ (aJ v 5 (.e (5,[p,i]))) 2 (.e (5,[p,i]))) 3 (.i ((i)+1))) m:=by rw[bZ Y,bZ Y,bZ Y]
   show Q .n ⟨aJ (aJ (aJ (ba [1,2,3,4,5] v m) 5 (.e (5,[p,i]))) 2 (.e (5,[p,i]))) 3 (.i ((i)+1)),_,t'⟩;rw[e];exact k1 _ _ t' le ⟨⟨λq a=>(J.aF q a).imp λg k=>⟨⟨k.1.aC,k.1.aF,k.1.aI⟩,k.2⟩,λq j a b d=>(J.aC q j a b d).imp λf k=>⟨k.1.eq Y Y Y,k.2⟩,J.aI⟩,B.aF,Y,Y,B.aI,⟨_,bo,by rw[dY,l2];rfl⟩,λq lt=>(aQ (mz (fQ lt))).trans (wf q lt)⟩
  cases i with
  |zero=>exact m_s Y Y (aG B.aO) g2 (aG Y) (fin _ (B.aC.ah4 hp S P) X.aF l1 B.bb)
  |succ j=>
   refine bT (B.aC.aC p j hp (rh le) (.inr ⟨Y,i7 j⟩)) λap8 x' r=>?_;have ne:[p,j]≠[p,j+1]:=λw=>ax (qx w).2 (gZ (i7 j))
   exact m_s Y Y (aG B.aO) ((o _ ne).1.trans x'.aF) (aG Y) (fin _ (B.aC.ah5 hp le S x') ((aQ λw=>ne (cP w).2.symm).trans X.aF) l1 B.bb)
variable{Q:RQ}
def aia{v:V}(h:(refs k)[p]?=M v):p<k/\v=.e (2,[p]):=by
 obtain⟨x,hx,rfl⟩:=d7 h;rw[ny (by have:=(cG.mp hx).1;rwa [fP]at this)]at hx
 cases hx;exact⟨by have:=(cG.mp h).1;rwa [refs,bc,fP]at this,Y⟩
def aib(G:GS F h)(fr:∀y,h (5,y)=U/\h (6,y)=U/\h (9,y)=U/\h (10,y)=U)(q:∀u t',LJ (nG+1) 0 u->Q .n (mix bR u h) t'):bO (n+4) (bS 30) [.e (1,[])] Q h t:=by
 refine f9 agp Y (iW (refs (nG+1)) (λp K=>∃v u t,K=⟨ba [1,2,3,4,5] v λi=>([V.e (1,[])]++[])[i]?,mix bR u h,t⟩/\LJ p 0 u/\∀q,p<=q->u (10,[q])=U) (ra (aG Y) G.aC Y gQ.1) (λj K I=>?_) ⟨_,h,t,mu jx uE,⟨λq hq=>⟨F q,G.aI q hq,λw=>w.elim (λw=>ax w (nC _)) λw=>ax w.2 (dq 0)⟩,λq j a b w=>w.elim (λw=>ax w (nC _)) λw=>ax w.2 (nC _),λq j c=>⟨(fr _).1,(fr _).2.1,(fr _).2.2.1⟩⟩,λq c=>(fr _).2.2.2⟩ (λp v K hv I=>?_) λK I=>?_)
 .obtain⟨v,u,t,rfl,_⟩:=I;exact G.aF
 .obtain⟨w,u,t,rfl,J,Ih⟩:=I;obtain⟨lt,rfl⟩:=aia hv;have hp:p<=nG:=hO lt
  refine eZ (aG Y) (eZ bG (cF (fy (eV ⟨b7 _,dQ (10,[p]) Y (Ih p (b8 _)) ?_⟩))));show WB _ _ _ ⟨aJ (aJ (aJ (aJ (ba [1,2,3,4,5] w _) 1 _) 2 _) 3 _) 4 _,(mix bR u h).aH _ _,_⟩;rw[bJ Y,bZ Y,bZ Y,bZ Y,bZ Y];refine wq (λk K=>∃i v u t,k+i=(ss p).length+1/\K=⟨ba [1,2,3,4,5] v λi=>([V.e (1,[])]++[])[i]?,mix bR u h,t⟩/\BI p i v u) ⟨0,_,_,_,Y,Y,⟨⟨λq a=>(J.aF q a).imp λg k=>⟨⟨k.1.aC,k.1.aF,k.1.aI⟩,k.2⟩,λq j a b d=>(J.aC q j a b d).imp λf k=>⟨k.1.eq Y Y Y,k.2⟩,J.aI⟩,Y,Y,Y,Y,⟨[],bo,Y⟩,λq l=>(aQ (mz (fQ l))).trans (Ih q (dK l))⟩⟩ λk K I=>⟨O,fq ql oI,λc=>?_,λe=>b9 e⟩;obtain⟨i,v,u,t,ei,rfl,B⟩:=I;refine ah9 G.aC G.bb Y hp (aj ei (Gj i k)) B (λv' u' t' le B'=>?_) λv' u' t' e1 e4 nx Ih=>?_
  .cases k with
   |zero=>exact ax (aV (gy (ei.symm.trans (ro i))) le) (Jl _)
   |succ k=>exact⟨k,i7 k,i+1,v',u',t',by rw[<-ei,w9];rfl,Y,B'⟩
  .refine bT nx λg g2 nx=>?_;exact m_s Y Y (aG e1) g2 (aG e4) (aM ⟨v',_,t',Y,nx _ _ (λy ne=>aQ (mz ne)) bo λy=>⟨Y,Y,Y,Y⟩,λq l=>Ih q l⟩)
 .obtain⟨v,u,t,rfl,J,_⟩:=I;rw[refs,bc,fP]at J;exact aM (q _ _ J)
abbrev It:=Nat×Nat
noncomputable def bu(I:List It):Vs:=I.map λx=>.e (5,[x.1,x.2])
def fW(x:It):V:=V.cq [.i x.1,.i x.2]
def n4(I:List It):V:=V.cq (I.map fW)
def V9(v:V):V:=V.rec (motive:=λa=>V) .n (λa=>.n) (λa=>.n) (λa=>.n) (λl=>V.cq [.i (l.2.getD 0 0:Nat),.i (l.2.getD 1 0:Nat)]) (λa=>.n) .n (λa a a a=>.n) v
def Wa(h:Hp):Prop:=∀q j,q<=nG->j<=(ss q).length->∃f,mA q j f h/\f 11=M (Ab q j)
variable{I:List It} {l:Loc}
def LJ.bu(J:LJ (nG+1) 0 h):Wa h:=λq j hq hj=>
 have lt:=pX hq
 (J.aC q j hq hj (.inl lt)).imp λf k=>⟨k.1,k.2 (.inl lt)⟩
def aic{x:V}(hx:x=.n\/∃l,x=.e l/\h l=M (.l []))(q:Q (V.cq []) h t):bO (n+1) (bS 6) [x] Q h t:=by
 have ret:WB n (.c (.j (.t .n)) .n) (Nx n (.c (.j (.p .t (.c (.xC (.t (.c (.a (.v 1) 2) (.c (.a (.v 1) 13) .n))) (.v 1) (.v 0) .n [U,U]) .n))) .n) (Rt Q)) ⟨λi=>([x]++[])[i]?,h,t⟩:=kc (jG bD (b7 _)) q;rcases hx with rfl|⟨l,rfl,hl⟩
 .exact f9 MO Y (gN (kF (fq (aG Y) sO)) ret)
 .exact f9 MO Y (gN (kF (fq (aG Y) (sQ (vs:=[]) hl))) ret)
def aid(hI:∀x∈I,∃f,h (5,[x.1,x.2])=M (.i 2 f)/\f 2=M (.i x.1)/\f 13=M (.i x.2))(zI:I.length<=1000)(ne:I≠[])(l9:dM l.1 99=Z)(hl:h l=M (.l (bu I)))(q:∀u,Q (n4 I) (mix [99] u h) (t+1)):bO (n+1) (bS 6) [.e l] Q h t:=by
 have ni:(!(bu I).isEmpty)=O:=by
  cases I with
  |nil=>exact ax Y ne
  |cons x I=>rfl
 have zl:(bu I).length<=1000:=by rw[bu,bc];exact zI
 have e:(bu I).filterMap (λv=>M (V9 v))=I.map fW:=by rw[bu,ZI];exact congrFun Jg I
 refine f9 MO Y (eC (kF (ni▸fq (aG Y) (sQ hl))) (aM (EZ (qO Y (fM (BF (re (aG Y) (qP hl (VB (bu I) (λv=>M (V9 v)) (.inl ⟨Y,Y⟩) (λys i=>⟨_,(aQ (aU l9)).trans hl,Y⟩) (λv hv ys ai le k=>?_) (eV (K9 bo ?_ ?_)))))))))))
 .obtain⟨x,hx,rfl⟩:=bX.mp hv;refine fH (hI x hx) λf k5 k2 k13=>?_;exact E3 xT (bM (aV le zl) (ao Y)) (jG (aW (ra (aG Y) k5 Y k2) (aW (ra (aG Y) k5 Y k13) bD)) (by decide:2<=16777216)) k
 .rw[e,bc];exact aV zI (ao Y)
 .rw[e];show Q _ (h.aH (bN t) _) _;rw[mR (R:=[99]) Y];exact q _
noncomputable def dP:aP:="$end"
noncomputable def oW:aP:="<empty>"
def U1:Ss:=ts++[dP]
def ly [BEq α] [LawfulBEq α]{l:List α}:∀{u:List α},l.Nodup->(∀a∈l,a∈u)->l.length<=u.length:=by
 induction l with
 |nil=>exactλc c=>b7 _
 |cons a l ih=>
  intro u n s;have n:=iY.mp n
  have s:=lH.mp s;have k:=ih n.2 λb hb=>(aol λe:b=a=>n.1 (aj e hb)).mpr (s.2 b hb)
  rw[anZ s.1]at k;exact ZP (bM k (xg (an9 s.1) pd))
def tC(l:Ss):Prop:=l.Nodup/\∀a∈l,a∈U1
def tC.lB{l:Ss}(h:tC l):l.length<=9:=ly h.1 h.2
def tC.add{l:Ss}(h:tC l)(i:a∈U1)(n:a∉l):tC (l++[a]):=⟨mK h.1 n,λb hb=>(cZ.mp hb).elim (h.2 b) λe=>ak (bK.mp e) i⟩
def kj(l:Loc)(r:Nat)(ks:Ss)(L:aP->Ss)(h:Hp):Prop:=h l=M (.d (kJ r ks))/\∀s∈ks,h (r,cd s)=M (.l ((L s).map .s))/\tC (L s)
noncomputable def fst(L:aP->Ss)(bs:Ss):Ss:=bs.head?.elim [oW] L
variable{bs:Ss}
section
variable{L:aP->Ss}
def Wb(gi:h (1,[])=M (.i 4 f1))(D:kj (46,[]) 14 ks L h)(hb:∀s∈bs,s∈ks)(q:∀u t' k,u (99,k)=M (.l ((fst L bs).map .s))->Q (.e (99,k)) (mix [99] u h) t'):bO (n+1) (bS 27) [.e (1,[]),V.cq (bs.map .s)] Q h t:=by
 obtain⟨m,hm⟩:∃m,m=aJ (λi=>([V.e (1,[]),V.cq (bs.map .s)]++[])[i]?) 2 (.e (bN t)):=⟨_,Y⟩;have m0:m 0=M (.e (1,[])):=ak hm Y
 have m1:m 1=M (V.cq (bs.map .s)):=ak hm Y;have m2:m 2=M (.e (bN t)):=ak hm Y
 refine f9 agm Y (cF (fy (eV ⟨b7 _,jJ ?_⟩)));show WB _ _ _ ⟨aJ (λi=>([V.e (1,[]),V.cq (bs.map .s)]++[])[i]?) 2 (.e (bN t)),h.aH (bN t) (.l []),t+1⟩;rw[<-hm];have fin:∀v rs,fst L bs=rs->WB (n+1-1) (.c (.j (.v 2)) .n) (Rt Q) ⟨ba [3,4,5] v m,h.aH (bN t) (.l (rs.map .s)),t+1⟩:=λv rs e=>kc (aG m2) (by rw[mR (R:=[99]) Y];exact q _ _ _ (aj e bo))
 refine f6 (nU (qQ (re (aG m1) (Lu (oU (bs.map .s) (λj K=>j=0/\K=⟨ba [3,4,5] m m,h.aH (bN t) (.l []),t+1⟩) (λi K J=>Y) ⟨Y,mu jx Y⟩ (λj v K hv I=>?_) λK I=>?_)))))
 .obtain⟨rfl,rfl⟩:=I;obtain⟨s,hs,rfl⟩:=d7 hv;have sk:=hb s (cO hs)
  refine oA (D.2 s sk) λe1 e2=>?_;have ef:=aq (λo:Option aP=>o.elim [oW] L) ((List.head?_eq_getElem? ..).trans hs)
  refine eZ ql (iW ((L s).map .s) (λj K=>∃v,K=⟨ba [3,4,5] v m,h.aH (bN t) (.l (((L s).take j).map .s)),t+1⟩/\v 4=M (.o Z)) (dH (ra (aG m0) gi Y gQ.2.2.2.2.2.1) (aG Y) (ig D.1 Y (M6 sk))) (λj K I=>?_) ⟨aJ (aJ m 3 (.s s)) 4 (.o Z),mu ((aq (aJ · 4 (.o Z)) (bZ Y)).trans (bZ Y)) Y,Y⟩ (λj v K hv I=>?_) λK I=>?_)
  .obtain⟨v,rfl,_⟩:=I;exact e1
  .obtain⟨w,rfl,b4⟩:=I;obtain⟨a,ha,rfl⟩:=d7 hv;have me:aJ (ba [3,4,5] w m) 5 (.s a)=ba [3,4,5] (aJ w 5 (.s a)) m:=bZ Y
   have ne:¬a=oW:=λe=>ax (e2.2 a (cO ha)) (ak e (by decide))
   refine eC (aj (aA ne) (my (aG Y) bW)) (wB (zQ (aG Y) (aG m2) bo) (λd=>?_) λd=>ax d (pK e2.1 ha));refine Fc (aG m2) (aG Y) xT bo (by rw[bc];exact bM (q7 ..) (bM e2.lB (ao Y))) (aM (aM (aM ⟨_,mu me ?_,b4⟩)))
   rw[take_snoc ha];exact nW.trans (aq (λx=>h.aH (bN t) (.l x)) (dF (l₂:=[a])).symm)
  .obtain⟨v,rfl,b4⟩:=I;rw[bc,iu];exact eC (fq (aG b4) oI) (xS (fin v _ ef))
 .obtain⟨e,rfl⟩:=I;have eb:=PL.mp ((bc ..).symm.trans e)
  refine Fc (aG m2) bW xT bo (ao Y) (aM ?_);show WB _ _ _ ⟨_,(h.aH (bN t) (.l [])).aH (bN t) (.l [.s oW]),_⟩;rw[nW];exact fin m [oW] (by rw[eb];rfl)
end
def Wc:DB 4 25=M 27:=by kernel_rfl
def kA:Ss:=ts++[dP]++[sE]
noncomputable def LF(F:Ss)(s:aP):Ss:=if s=sE then F else [s]
def CF(T0:Nat)(v:Mp)(u:Hp):Prop:=∃F b,kj (46,[]) 14 kA (LF F) u/\v 3=M (.o b)/\T0<=F.length/\(b=O->T0<F.length)
def HP(h:Hp):Prop:=∀p≤nG,∃g,nZ h g p (qW p)
variable{r:Nat} {Q:QF} {q:Sx}
def Ac(I:Nat->QA)(he:RE K e (.e l))(hl:∀j K,I j K->∃es,K.h l=M (.d es)/\es.map (·.1)=ks.map .s)(i0:I 0 K)(step:∀j s K,ks[j]?=M s->I j K->WB n b (Fw.lp (I (j+1)) (Nx n q Q)) (K.dw i (.s s)))(fin:∀K,I ks.length K->WB n q Q K):WB n (.c (.f (.v i) (.l e) b .n) q) Q K:=by refine bT (hl 0 K i0) λes e1 e2=>?_;exact f6 (nU (qQ (re he (ac7 e1 (oU (ks.map .s) I (λj K J=>(hl j K J).elim λes k=>⟨es,k.1,k.2.trans e2.symm,aj e2 Y⟩) i0 (λj v K hv J=>(d7 hv).elim λs k=>aj k.2 (step j s K k.1 J)) λK J=>aM (fin K (aj (bc (f:=V.s)) J)))))))
variable{F:Ss}
section
variable{L:aP->Ss}
def kj.rM(D:kj l r ks L u)(n:s∉ks)(ok:tC (L s))(ne:dM l.1 r=Z):kj l r (ks++[s]) L ((u.aH (r,cd s) (.l ((L s).map .s))).aH l (.d (cX (kJ r ks) (.s s) (.e (r,cd s))))):=⟨aj (M7 n).symm bo,λx hx=>by
 have nl:((r,cd x))≠l:=λe=>aU ne e.symm;rw[aQ nl];by_cases e:x=s
 .subst e;rw[bo];exact⟨Y,ok⟩
 .rw[aQ (zP e)];exact D.2 x ((cZ.mp hx).resolve_right λw=>e (bK.mp w))⟩
def Nu:LF F sE=F:=aw Y
def Nv:sE∈kA:=dI _ (.head _)
def kj.add(D:kj (46,[]) 14 kA (LF F) u)(i:a∈U1)(n:a∉F):kj (46,[]) 14 kA (LF (F++[a])) (u.aH (14,cd sE) (.l (F.map .s++[.s a]))):=⟨D.1,λx hx=>by
 have k:=D.2 x hx;by_cases e:x=sE
 .subst e;rw[Nu]at k⊢;exact⟨bo.trans (aq (λy=>M (af.l y)) (dF (l₂:=[a])).symm),k.2.add i n⟩
 .rw[show LF (F++[a]) x=LF F x from(au e).trans (au e).symm]
  exact⟨(aQ (zP e)).trans k.1,k.2⟩⟩
def kj.ok(D:kj (46,[]) 14 kA (LF F) u):tC F:=by
 have k:=(D.2 sE Nv).2
 rwa [Nu]at k
def We(h:a∈U1):tC [a]:=⟨iY.mpr ⟨(λw=>bA w),gY⟩,λb hb=>ak (bK.mp hb) h⟩
def aif:tC []:=⟨gY,λa w=>bA w⟩
def Nw:∀s∈xW,s∈kA:=ao Y
end
variable{T0:Nat} {X es:Sx}
section
variable{ds:Ss} {l0:Loc}
def aih(gi:h (1,[])=M (.i 4 f1))(hp:p<nG)(P:HP h)(m0:m 0=M (.e (1,[])))(C:CF T0 v u)(v2:v 2=M (.s sE))(v4:v 4=M (.e (2,[p+1])))
 (k:∀v' u' t',CF T0 v' u'->v' 2=M (.s sE)->Q .n ⟨ba [2,3,4,5] v' m,mix [14,46,99] u' h,t'⟩):WB (n+1) Mw Q ⟨ba [2,3,4,5] v m,mix [14,46,99] u h,t⟩:=by
 refine oE (P (p+1) hp) λg P=>?_;refine rz C λF b D v3 le lt=>?_;have fu:∀a∈fst (LF F) (ss (p+1)),a∈U1:=λa ha=>by
  cases e:ss (p+1)with
  |nil=>exact ax (oV hp).1 (by rw[e];decide)
  |cons s l=>rw[e]at ha;exact(D.2 s (Nw s (zZ (k:=p+1) (ak e (.head _))))).2.2 a ha
 refine f6 (nU (qQ (jw (re (aG m0) ⟨_,kW gi Wc Y,rl (aW (ra (aG v4) P.aF Y P.aC.2.1) bD) ((Wb (h:=mix [14,46,99] u h) gi D (λs hs=>Nw s (zZ hs)) λu' t' kk hk=>qP hk (oU ((fst (LF F) (ss (p+1))).map .s) (λf K=>∃v u,K=⟨ba [2,3,4,5] v m,mix [14,46,99] u h,t'⟩/\CF T0 v u/\v 2=M (.s sE)/\u (99,kk)=M (.l ((fst (LF F) (ss (p+1))).map .s))) (λi K J=>?_) ⟨v,mix [99] u' u,mu Y (kb Y),⟨F,b,D,v3,le,lt⟩,v2,hk⟩ (λj x K hv J=>?_) λK J=>?_)).o)⟩))))
 .obtain⟨v,u,rfl,_,_,e⟩:=J;exact⟨_,e,Y⟩
 .obtain⟨w,u,rfl,⟨F',b,D,v3,le,lt⟩,w2,e⟩:=J;obtain⟨a,ha,rfl⟩:=d7 hv;have me:aJ (ba [2,3,4,5] w m) 5 (.s a)=ba [2,3,4,5] (aJ w 5 (.s a)) m:=bZ Y
  show WB (n+1) UR _ ⟨aJ (ba [2,3,4,5] w m) 5 (.s a),mix [14,46,99] u h,t'⟩;rw[me];have d:=D.2 sE Nv
  rw[Nu]at d;have rg:∀{v:Mp},v 2=M (.s sE)->RE ⟨ba [2,3,4,5] v m,mix [14,46,99] u h,t'⟩ (.s (.a (.v 0) 20) (.v 2)) (.e (14,cd sE)):=λe=>dH (ra (aG m0) gi Y gQ.2.2.2.2.2.1) (aG e) (ig D.1 Y (M6 Nv))
  refine wB (zQ (aG Y) (rg w2) d.1) (λc=>pJ Y Y (rg w2) d.1 (aG Y) (by rw[bc];exact bM d.2.lB (ao Y)) (eZ ql (aM (aM ⟨_,_,mu (bZ Y) Y,⟨F'++[a],O,D.add (fu a (cO ha)) c,Y,?_,λf=>?_⟩,w2,e⟩)))) λf=>aM (aM ⟨_,u,Y,⟨F',b,D,v3,le,lt⟩,w2,e⟩)
  .rw[dY];exact jZ le
  .rw[dY];exact pX le
 .obtain⟨v',u'',rfl,C',Ny,_⟩:=J;exact aM (aM (k v' u'' t' C' Ny))
def aij(gi:h (1,[])=M (.i 4 f1))(gn:h (42,[])=M (.d (d1 1 8)))(g5:h (45,[])=M (.d (d1 1 13)))(g8:h (8,[])=M (.l (rL nG)))(P:HP h)(m0:m 0=M (.e (1,[])))(D:kj (46,[]) 14 kA (LF F) u)
 (k1:∀F' v' u' t',kj (46,[]) 14 kA (LF F') u'->F.length<F'.length->Q .n ⟨ba [2,3,4,5] v' m,mix [14,46,99] u' h,t'⟩)(k2:∀F' v' u' t',kj (46,[]) 14 kA (LF F') u'->Q .b ⟨ba [2,3,4,5] v' m,mix [14,46,99] u' h,t'⟩):
 WB (n+1) UU Q ⟨ba [2,3,4,5] v m,mix [14,46,99] u h,t⟩:=by
 refine eZ ql ?_;show WB (n+1) _ _ ⟨aJ (ba [2,3,4,5] v m) 3 (.o Z),mix [14,46,99] u h,t⟩;rw[bZ Y];refine Ac (ks:=[sE]) (λa K=>∃v u t,K=⟨ba [2,3,4,5] v m,mix [14,46,99] u h,t⟩/\CF F.length v u) (ra (aG m0) gi Y gQ.2.2.2.2.1) (λj K J=>?_) ⟨_,u,t,Y,F,Z,D,Y,b8 _,λe=>b9 e⟩ (λj s K hs J=>?_) λK J=>?_
 .obtain⟨v,u,t,rfl,_⟩:=J;exact⟨_,g5,Y⟩
 .obtain⟨w,u,t,rfl,C⟩:=J;obtain rfl:=bK.mp (cO hs);show WB (n+1) UT _ ⟨aJ (ba [2,3,4,5] w m) 2 (.s sE),mix [14,46,99] u h,t⟩;rw[bZ Y];refine iW (rL nG) (λa K=>∃v u t,K=⟨ba [2,3,4,5] v m,mix [14,46,99] u h,t⟩/\CF F.length v u/\v 2=M (.s sE)) (dH (ra (aG m0) gi Y gQ.2.1) (aG Y) (ig gn Y (rK))) (λj K J=>?_) ⟨_,u,t,Y,C,Y⟩ (λj x K hv J=>?_) λK J=>?_
  .obtain⟨v,u,t,rfl,_⟩:=J;exact g8
  .obtain⟨w,u,t,rfl,C,w2⟩:=J;obtain⟨p,hp,rfl⟩:=bX.mp (cO hv);show WB (n+1) Mw _ ⟨aJ (ba [2,3,4,5] w m) 4 (.e (2,[p+1])),mix [14,46,99] u h,t⟩;rw[bZ Y];exact aih gi (j4.mp hp) P m0 C w2 Y λv' u' t' C' Ny=>⟨v',u',t',Y,C',Ny⟩
  .obtain⟨v,u,t,rfl,C,_⟩:=J;exact aM ⟨v,u,t,Y,C⟩
 .obtain⟨v,u,t,rfl,F',b,D',v3,le,lt⟩:=J;cases b with
  |false=>exact gN (kF (p:=Z) (fq (aG v3) oI)) (xS (k2 F' v u t D'))
  |true=>exact eC (kF (p:=O) (fq (aG v3) oI)) (aM (aM (k1 F' v u t D' (lt Y))))
def Wf(gi:h (1,[])=M (.i 4 f1))(m0:m 0=M (.e (1,[])))(i0:dM 0 i=Z)(hX:RE ⟨ba [i] v m,mix [14,46,99] u h,t⟩ X (.e l0))(hd:∀u,∃es,(mix [14,46,99] u h) l0=M (.d es)/\es.map (·.1)=ds.map .s)(nd:(ks++ds).Nodup)(zk:(ks++ds).length<=100)(D:kj (46,[]) 14 ks (LF []) u)(fr:∀s,s∉ks->u (14,cd s)=U)
 (he:∀v u s,v i=M (.s s)->s∈ds->RL ⟨ba [i] v m,mix [14,46,99] u h,t⟩ es ((LF [] s).map .s))(ok:∀s∈ds,tC (LF [] s))(k:∀v u,kj (46,[]) 14 (ks++ds) (LF []) u->(∀s,s∉ks++ds->u (14,cd s)=U)->WB n q Q ⟨ba [i] v m,mix [14,46,99] u h,t⟩):
 WB n (.c (.f (.v i) (.l X) (.c (.aaE (.a (.v 0) 20) (.v i) (.h es)) .n) .n) q) Q ⟨ba [i] v m,mix [14,46,99] u h,t⟩:=by
 refine Ac (ks:=ds) (λj K=>∃v u,K=⟨ba [i] v m,mix [14,46,99] u h,t⟩/\kj (46,[]) 14 (ks++ds.take j) (LF []) u/\∀s,s∉ks++ds.take j->u (14,cd s)=U) hX (λj K J=>?_) ⟨v,u,Y,by rw[JA,i8];exact D,by rw[JA,i8];exact fr⟩ (λj s K hs J=>?_) λK J=>?_
 .obtain⟨v,u,rfl,_⟩:=J;exact hd u
 .obtain⟨w,u,rfl,D,fr⟩:=J;have c:[i].contains i=O:=gj.mpr (.head _)
  have sm:=cO hs;have ns:=λw=>by have nd:=t8.mp nd;exact(cZ.mp w).elim (λw=>nd.2.2 s w s sm Y) (pK nd.2.1 hs)
  show WB n _ _ ⟨aJ (ba [i] w m) i (.s s),mix [14,46,99] u h,t⟩;rw[bZ c];have vi:aJ w i (.s s) i=M (.s s):=aw Y
  have mi:(ba [i] (aJ w i (.s s)) m) i=M (.s s):=by unfold ba;rw[c];exact vi
  have Nz:(ba [i] (aJ w i (.s s)) m) 0=M (.e (1,[])):=by
   unfold ba;rw[show [i].contains 0=Z from nz.mpr λw=>ax (bK.mp (gj.mp w)) (λe=>by rw[<-e]at i0;exact b9 i0)]
   exact m0
  have sn:=take_snoc hs;refine H4 (14,cd s) Y Y Y (fr s ns) (he _ _ s vi sm) (by rw[bc];exact aV (ok s sm).lB (ao Y)) (ra (aG Nz) gi Y gQ.2.2.2.2.2.1) D.1 (aG mi) Y (jK.H8 ?_) (aM ⟨_,_,Y,by rw[sn,<-q9];exact D.rM ns (ok s sm) Y,λx hx=>?_⟩)
  .exact aV (by rw[dY,dY];exact gu (q7 ..) _) zk
  .rw[sn,<-q9]at hx;exact((aQ (zP λe:x=s=>hx (aj e (dI _ (.head _))))).trans (fr x λw=>hx (dU _ w)))
 .obtain⟨v,u,rfl,D,fr⟩:=J;rw[iu]at D fr;exact k v u D fr
end
variable{Q:RQ}
def Wg:∀s∈U1,LF [] s=[s]:=ao Y
def aik(gi:h (1,[])=M (.i 4 f1))(gn:h (42,[])=M (.d (d1 1 8)))(g4:h (44,[])=M (.d (kJ 12 ts)))(g5:h (45,[])=M (.d (d1 1 13)))(g6:h (46,[])=M (.d []))(fr:∀x,h (14,x)=U)(g8:h (8,[])=M (.l (rL nG)))(P:HP h)(q:∀F u t',kj (46,[]) 14 kA (LF F) u->Q (.e (46,[])) (mix [14,46,99] u h) t'):bO (n+2) (bS 28) [.e (1,[])] Q h t:=by
 have mh:=uE (R:=[14,46,99]) (h:=h);have NA:=gQ.2.2.2.2.2.1
 refine f9 agn Y (eC (fq (ra (aG Y) gi Y NA) (Ep (es:=[]) g6)) (aM ?_));obtain⟨m,hm⟩:∃m:Mp,m=λi=>([V.e (1,[])]++[])[i]?:=⟨_,Y⟩;have m0:m 0=M (.e (1,[])):=ak hm Y
 rw[<-hm,mh,jx (m:=m)];refine Wf (ks:=[]) gi m0 Y (ra (aG m0) gi Y gQ.2.2.2.1) (λu=>⟨_,g4,M5⟩) (ao Y) (ao Y) ⟨g6,λs w=>bA w⟩ (λs a=>fr _) (λv u s e hs=>ak (Wg s (dU _ hs)) (aW (aG e) bD)) (λs hs=>ak (Wg s (dU _ hs)) (We (dU _ hs))) λv u D Wh=>?_;refine H4 (y:=.s dP) (14,cd dP) Y Y Y (Wh _ (ao Y)) (aW (x:=.s dP) bW bD) (ao Y) (ra (aG (m0)) gi Y NA) D.1 bW Y (jK.H8 (ao Y)) ?_;have D2:kj (46,[]) 14 ([]++ts++[dP]) (LF []) ((u.aH (14,cd dP) (.l [.s dP])).aH (46,[]) (.d (cX (kJ 14 ([]++ts)) (.s dP) (.e (14,cd dP))))):=D.rM (ao Y) (We (ao Y)) Y
 generalize hu:(u.aH (14,cd dP) (.l [.s dP])).aH (46,[]) (.d (cX (kJ 14 ([]++ts)) (.s dP) (.e (14,cd dP))))=u2 at D2⊢;have NF:∀s,s∉ts++[dP]->u2 (14,cd s)=U:=λs w=>aj hu ((aQ (zP λe:s=dP=>w (aj e (dI _ (.head _))))).trans (Wh s λk=>w (dU _ k)))
 obtain⟨m2,Fs⟩:∃m2:Mp,m2=ba [1] v m:=⟨_,Y⟩;have Ad:m2 0=M (.e (1,[])):=ak Fs m0
 rw[<-Fs,jx (m:=m2)];refine Wf gi Ad Y (ra (aG Ad) gi Y gQ.2.2.2.2.1) (λu=>⟨_,g5,Y⟩) (ao Y) (ao Y) D2 NF (λv u s e hs=>aj (bK.mp hs).symm bD) (λs hs=>aj (bK.mp hs).symm aif) λv u D a=>?_;have e3:ba [2] v m2=ba [2,3,4,5] (ba [2] v m2) (ba [2] v m2):=jx
 rw[e3];refine wq (λk K=>∃F v' u t,k+F.length=9/\K=⟨ba [2,3,4,5] v' (ba [2] v m2),mix [14,46,99] u h,t⟩/\kj (46,[]) 14 kA (LF F) u) ⟨[],_,u,t,Y,Y,D⟩ λk K J=>⟨O,fq ql oI,λa=>?_,λe=>b9 e⟩;obtain⟨F,v',u,t,ek,rfl,D⟩:=J;refine aij gi gn g5 g8 P Ad D (λF' v' u' t' D' lt=>⟨9-F'.length,?_,F',v',u',t',?_,Y,D'⟩) λF' v' u' t' D'=>kc (ra (aG (Ad)) gi Y NA) (q F' u' t' D')
 .rw[aop ek];exact ZF (dJ lt D'.ok.lB) lt
 .exact Gf D'.ok.lB
variable{Q:QF} {r x y:Sx} {c d:Bool}
def Ii(ha:RT K x c)(hb:RT K y d):RT K (.fJ Z (.c x (.c y .n))) (c||d):=Bt λn P q=>by
 cases c
 .exact Bs ha (Br hb q)
 .exact xJ ha q
def uL(ha:RT K x c)(hb:RT K y d):RT K (.fJ O (.c x (.c y .n))) (c&&d):=Bt λn P q=>by
 cases c
 .exact xJ ha q
 .exact Bs ha (Br hb q)
def ail(vs:Vs)(I:Nat->QA)(he:RE K e (V.cq vs))(i0:I 0 K)(step:∀j v K,vs[j]?=M v->I j K->WB n b (Fw.lp (I (j+1)) (Nx n r Q)) ((K.dw i (.i j)).dw i' v))(fin:∀K,I vs.length K->WB n r Q K):WB n (.c (.f (.a [i,i']) (.u e) b .n) r) Q K:=
 f6 (nU (Ti (re he (ac' (oU (vs.mapIdx λj v=>V.cq [.i j,v]) I (λj K J=>⟨vs[j]?,Y,Jk⟩) i0 (λj v K hv J=>by rw[Jk]at hv;obtain⟨x,hx,rfl⟩:=Ga.mp hv;exact⟨_,Y,Y,step j x K hx J⟩) λK J=>aM (fin K (by rwa [ZG]at J)))))))
def aim{a:Sx}{r:Nat}(ha:RE K a (.s sE))(hb:RE K b (.e l))(hl:K.h l=M (.d (d1 (i+1) r))):RT K (.m .In a b) O:=Qy (motive:=λo:Option V=>RT K (.m .In a b) o.isSome) rK (sY ha hb hl Y)
def jM(a:aP):Prop:=a=dP\/∃k d,sy k d=M sE/\sy k (d+1)=M a
def oX(h:jM a):a∈U1:=h.elim (λe=>ak e (dI _ (.head _))) λwz=>xm wz λk d e f=>dU _ ((z4 a (tj f)).mpr ((wD e f).mp Y))
def Cd(k i:Nat)(L:Ss):Prop:=∀k' d a,k'<k\/k'=k/\d<i->sy (k'+1) d=M sE->sy (k'+1) (d+1)=M a->a∈L
noncomputable abbrev wR:Nl:=[15,16,17,47,99]
noncomputable abbrev wM:Nl:=[3,4,5,6,7,8,9]
def CW(T0:Nat)(c:Nl->Option af)(L:Ss)(v:Mp)(u:Hp):Prop:=u (47,[])=M (.d (d1 1 16))/\u (16,[])=M (.l (L.map .s))/\L.Nodup/\(∀a∈L,jM a)/\dP∈L/\(∃b,v 3=M (.o b)/\(b=O->T0<L.length))/\T0<=L.length/\∀x,u (17,x)=c x
section
variable{c:Nl->Option af} {L:Ss} (hh:CW T0 c L v u)
def CW.aF:=hh.1
def CW.aC:=hh.2.1
def CW.aK:=hh.2.2.1
def CW.aI:=hh.2.2.2.1
def CW.bb:=hh.2.2.2.2.1
def CW.cC:=hh.2.2.2.2.2.1
def CW.aO:=hh.2.2.2.2.2.2.1
def CW.bz:=hh.2.2.2.2.2.2.2
end
def C5(p i:Nat)(rs:Ss)(kk:Nl)(b:Bool)(v:Mp)(u:Hp):Prop:=v 4=M (.e (2,[p+1]))/\v 5=M (.i i)/\v 6=M (.s sE)/\v 8=M (.o b)/\u (99,kk)=M (.l (rs.map .s))
section
variable{rs:Ss} {kk:Nl} {b:Bool} (hh:C5 p i rs kk b v u)
def C5.aC:=hh.1
def C5.aI:=hh.2.1
def C5.aF:=hh.2.2.1
def C5.aO:=hh.2.2.2.1
def C5.aK:=hh.2.2.2.2
end
variable{rs:Ss} {kk:Nl} {c:Nl->Option af}
section
variable{L:Ss}
def CW.len(C:CW T0 c L v u):L.length<=9:=ly C.aK λa ha=>oX (C.aI a ha)
def CW.add{v':Mp}(C:CW T0 c L v u)(i:jM a)(n:a∉L)(e:v' 3=M (.o O)):CW T0 c (L++[a]) v' (u.aH (16,[]) (.l (L.map .s++[.s a]))):=
 ⟨C.aF,bo.trans (aq (λy=>M (af.l y)) (dF (l₂:=[a])).symm),mK C.aK n,λb hb=>(cZ.mp hb).elim (C.aI b) λe=>ak (bK.mp e) i,dU _ C.bb,⟨O,e,λd=>by rw[dY];exact pX C.aO⟩,by rw[dY];exact jZ C.aO,C.bz⟩
def CW.dw{v':Mp}(C:CW T0 c L v u)(e:v' 3=v 3):CW T0 c L v' u:=⟨C.aF,C.aC,C.aK,C.aI,C.bb,C.cC.imp λb k=>⟨e.trans k.1,k.2⟩,C.aO,C.bz⟩
def ain(gi:h (1,[])=M (.i 4 f1))(m0:m 0=M (.e (1,[])))(C:CW T0 c L v u)(C':C5 p i rs kk Z v u)(v7:v 7=M (.e (99,kk)))(ok:∀a∈rs,a=oW\/jM a)
 (k:∀v' u' L' b',CW T0 c L' v' u'->C5 p i rs kk b' v' u'->(∀a∈L,a∈L')->(∀a∈rs,a=oW\/a∈L')->WB n q Q ⟨ba wM v' m,mix wR u' h,t⟩):
 WB n (.c (.f (.v 9) (.l (.v 7)) Mx .n) q) Q ⟨ba wM v m,mix wR u h,t⟩:=by
 refine iW (rs.map .s) (λj K=>∃v u L' b',K=⟨ba wM v m,mix wR u h,t⟩/\CW T0 c L' v u/\C5 p i rs kk b' v u/\(∀a∈L,a∈L')/\∀a∈rs.take j,a=oW\/a∈L') (aG v7) (λj K J=>?_) ⟨v,u,L,_,Y,C,C',λa ha=>ha,λa ha=>bA ha⟩ (λj x K hv J=>?_) λK J=>?_
 .obtain⟨v,u,L,b',rfl,J⟩:=J;exact J.2.1.aK
 .obtain⟨w0,u,L',b',rfl,C,C',s1,s2⟩:=J;obtain⟨a,ha,rfl⟩:=d7 hv;show WB n Mx _ ⟨aJ (ba wM w0 m) 9 (.s a),mix wR u h,t⟩;rw[bZ Y];generalize hI:(λ(K:AS)=>∃v u L' b',K=⟨ba wM v m,mix wR u h,t⟩/\CW T0 c L' v u/\C5 p i rs kk b' v u/\(∀a∈L,a∈L')/\∀a∈rs.take (j+1),a=oW\/a∈L')=I;have fin:∀v' u' L',v' 9=M (.s a)->CW T0 c L' v' u'->C5 p i rs kk b' v' u'->(∀a∈L,a∈L')->(∀a∈rs.take j,a=oW\/a∈L')->a=oW\/a∈L'->WB n (.c (.i (.m .Eq (.v 9) (.cS "<empty>")) (.c (.g (.v 8) (.cB O)) .n) .n) .n) (Fw.lp I (Nx n q Q)) ⟨ba wM v' m,mix wR u' h,t⟩:=λv' u' L' e9 C C' s1 s2 s3=>by
   have s4:∀a∈rs.take (j+1),a=oW\/a∈L':=λb hb=>by rw[take_snoc ha]at hb;exact(cZ.mp hb).elim (s2 b) λe=>ak (bK.mp e) s3
   exact jd (my (aG e9) bW) (λd=>eZ ql (aM (aM (aj hI ⟨_,u',L',O,mu (bZ Y) Y,C.dw Y,⟨C'.aC,C'.aI,C'.aF,Y,C'.aK⟩,s1,s4⟩)))) λd=>aM (aM (aj hI ⟨v',u',L',b',Y,C,C',s1,s4⟩))
  have g:RE ⟨ba wM (aJ w0 9 (.s a)) m,mix wR u h,t⟩ (.s (.a (.v 0) 21) (.v 6)) (.e (16,[])):=dH (ra (aG m0) gi Y gQ.2.2.2.2.2.2.1) (aG C'.aF) (ig C.aF Y (rK));refine mq (uL (eH (aG Y) bW (qN Y Y)) (zQ (aG Y) g C.aC)) (λw=>?_) λw=>aM (fin _ u L' Y (C.dw Y) ⟨C'.aC,C'.aI,C'.aF,C'.aO,C'.aK⟩ s1 s2 ?_)
  .have w:=dS.mp w;have na:=xU w.2
   have ne:¬a=oW:=λe=>ax (az (aq V.s e)) (nz.mp (Bool.not_eq_true' ..|>.mp w.1));have bh:=(ok a (cO ha)).resolve_left ne
   refine pJ Y Y g C.aC (aG Y) (by rw[bc];exact bM C.len (ao Y)) (eZ ql (aM ?_))
   show WB n _ _ ⟨aJ (ba wM (aJ w0 9 (.s a)) m) 3 (.o O),_,t⟩;rw[bZ Y];exact fin _ _ (L'++[a]) Y (C.add bh na Y) ⟨C'.aC,C'.aI,C'.aF,C'.aO,C'.aK⟩ (λb hb=>dU _ (s1 b hb)) (λb hb=>(s2 b hb).imp id (dU _)) (.inr (dI _ (.head _)))
  .by_cases e:a=oW
   .exact .inl e
   .refine .inr (Zt λna=>?_);rw[show(!decide (a∈L'))=O by rw[aA na];rfl,Qj]at w
    exact e (str_inj (aB (apr w)))
 .obtain⟨v',u',L',b',rfl,J⟩:=J;rw[bc,iu]at J;exact k v' u' L' b' J.1 J.2.1 J.2.2.1 J.2.2.2
def aio(gi:h (1,[])=M (.i 4 f1))(P:HP h)(hp:p<nG)(m0:m 0=M (.e (1,[])))(C:CW T0 c L v u)(v4:v 4=M (.e (2,[p+1])))(v6:v 6=M (.s sE))
 (k:∀v',CW T0 c L v' u->v' 4=M (.e (2,[p+1]))->WB n q Q ⟨ba wM v' m,mix wR u h,t⟩):
 WB n (.c (.f (.v 9) (.l (.s (.a (.v 0) 21) (.a (.v 4) 0))) Mz .n) q) Q ⟨ba wM v m,mix wR u h,t⟩:=by
 obtain⟨g,P⟩:=P (p+1) hp;refine iW (L.map .s) (λb K=>∃v,K=⟨ba wM v m,mix wR u h,t⟩/\CW T0 c L v u/\v 4=M (.e (2,[p+1]))/\v 6=M (.s sE)) (dH (ra (aG m0) gi Y gQ.2.2.2.2.2.2.1) (ra (aG v4) P.aF Y P.aC.1) (ig C.aF Y (rK))) (λj K J=>?_) ⟨v,Y,C,v4,v6⟩ (λj x K hv J=>?_) λK J=>?_
 .obtain⟨v,rfl,J⟩:=J;exact C.aC
 .obtain⟨w,rfl,J⟩:=J;obtain⟨a,ha,rfl⟩:=d7 hv;show WB n Mz _ ⟨aJ (ba wM w m) 9 (.s a),mix wR u h,t⟩;rw[bZ Y];exact wB (zQ (aG Y) (dH (ra (aG m0) gi Y gQ.2.2.2.2.2.2.1) (aG J.2.2) (ig C.aF Y (rK))) C.aC) (λn=>ax (cO ha) n) λb=>aM (aM ⟨_,Y,J.1.dw Y,J.2⟩)
 .obtain⟨v',rfl,J⟩:=J;exact k v' J.1 J.2.1
def aip(gi:h (1,[])=M (.i 4 f1))(g5:h (45,[])=M (.d (d1 1 13)))(DF:kj (46,[]) 14 kA (LF F) h)(P:HP h)(hp:p<nG)(m0:m 0=M (.e (1,[])))(hi:sy (p+1) i=M a)(C:CW T0 c L v u)(v4:v 4=M (.e (2,[p+1])))(v5:v 5=M (.i i))(v6:v 6=M (.s a))
 (k:∀v' u' L' t',CW T0 c L' v' u'->v' 4=M (.e (2,[p+1]))->(∀a∈L,a∈L')->(∀b,a=sE->sy (p+1) (i+1)=M b->b∈L')->Q .n ⟨ba wM v' m,mix wR u' h,t'⟩):
 WB (n+1) MA Q ⟨ba wM v m,mix wR u h,t⟩:=by
 have P':=P;refine oE (P (p+1) hp) λg P=>?_;have r1:∀{v u t},v 4=M (.e (2,[p+1]))->RE ⟨ba wM v m,mix wR u h,t⟩ (.a (.v 4) 1) (V.cq ((ss (p+1)).map .s)):=λe=>ra (aG e) P.aF Y P.aC.2.1
 by_cases ea:a=sE
 case neg=>
  refine eC ?_ (aM (aM (k v u L t C v4 (λa h=>h) λb e=>ax e ea)));exact aj (show(bI (d1 1 13) (.s a)).isSome=Z by rw[show bI (d1 1 13) (.s a)=U from au λw=>ea (str_inj w).symm];rfl) (sY (aG v6) (ra (aG m0) gi Y gQ.2.2.2.2.1) g5 Y)
 subst ea;have lt:=(cG.mp hi).1
 have zs:=(oV hp).2;refine gN (aim (aG v6) (ra (aG m0) gi Y gQ.2.2.2.2.1) g5) ?_;refine cF (jw (re (aG m0) ⟨_,kW gi Wc Y,fM (Eo (re (r1 v4) (re (jv (aG v5) bG qm) (.inr ⟨(ss (p+1)).map .s,i+1,Y,Y,by rw[bc];exact lt,Gj ..,by rw[bc];exact aV (dK zs) (ao Y),eV ?_⟩))))⟩))
 rw[<-Gl];have er:fst (LF F) ((ss (p+1)).drop (i+1))=(sy (p+1) (i+1)).elim [oW] (LF F):=aq (λo:Option aP=>o.elim [oW] (LF F)) ((List.head?_drop ..))
 have e1:∀b,sy (p+1) (i+1)=M b->fst (LF F) ((ss (p+1)).drop (i+1))=[b]:=λb hb=>by rw[er,hb];exact au ((wD hi hb).mp Y)
 refine(Wb (h:=mix wR u h) gi DF (λa ha=>Nw a (zZ (Zz ha))) λu' t' kk hk=>?_).o;show WB _ _ _ ⟨aJ (ba wM v m) 7 _,_,t'⟩;rw[bZ Y,kb Y];refine eZ ql ?_;show WB _ _ _ ⟨aJ (ba wM (aJ v 7 _) m) 8 _,_,t'⟩;rw[bZ Y];refine ain gi m0 ⟨C.aF,C.aC,C.aK,C.aI,C.bb,C.cC,C.aO,C.bz⟩ ⟨v4,v5,v6,Y,hk⟩ Y (λb hb=>?_) λv' u' L' b' C C' s1 s2=>?_
 .cases e:sy (p+1) (i+1)with
  |none=>rw[er,e]at hb;exact .inl (bK.mp hb)
  |some b'=>rw[e1 b' e]at hb;exact .inr (.inr ⟨p+1,i,hi,e.trans (aq M (bK.mp hb).symm)⟩)
 .have s3:∀b,sE=sE->sy (p+1) (i+1)=M b->b∈L':=λb f hb=>(s2 b (ak (e1 b hb) (.head _))).resolve_left λe=>ax (e▸tj hb) (by decide)
  exact mq (Ii (fq (aG C'.aO) oI) (eH (aG C'.aI) (jv (HX (r1 C'.aC)) bG xG) (qn Y Y))) (λf=>aio gi P' hp m0 C C'.aC C'.aF λWi C e4=>aM (aM (aM (k Wi u' L' t' C e4 s1 s3)))) λf=>aM (aM (aM (k v' u' L' t' C C'.aC s1 s3)))
theorem aiq(gi:h (1,[])=M (.i 4 f1))(g5:h (45,[])=M (.d (d1 1 13)))(DF:kj (46,[]) 14 kA (LF F) h)(P:HP h)(hp:p<nG)(m0:m 0=M (.e (1,[])))(C:CW T0 c L v u)(ai:Cd p 0 L)(v4:v 4=M (.e (2,[p+1])))
 (k:∀v' u' L' t',CW T0 c L' v' u'->Cd (p+1) 0 L'->Q .n ⟨ba wM v' m,mix wR u' h,t'⟩):
 WB (n+1) MB Q ⟨ba wM v m,mix wR u h,t⟩:=by
 have P':=P;refine oE (P (p+1) hp) λg P=>?_;refine ail ((ss (p+1)).map .s) (λj K=>∃v u L t,K=⟨ba wM v m,mix wR u h,t⟩/\CW T0 c L v u/\Cd p j L/\v 4=M (.e (2,[p+1]))) (ra (aG v4) P.aF Y P.aC.2.1) ⟨v,u,L,t,Y,C,ai,v4⟩ (λj x K hv J=>?_) λK J=>?_
 .obtain⟨w,u,L,t,rfl,C,ai,w4⟩:=J;obtain⟨a,ha,rfl⟩:=d7 hv;show WB (n+1) MA _ ⟨aJ (aJ (ba wM w m) 5 (.i j)) 6 (.s a),mix wR u h,t⟩;rw[bZ Y,bZ Y];refine aip gi g5 DF P' hp m0 ha (C.dw Y) w4 Y Y λv' u' L' t' C e s1 s2=>⟨v',u',L',t',Y,C,λk' d b hd h1 h2=>?_,e⟩;by_cases e:k'=p/\d=j
  .obtain⟨rfl,rfl⟩:=e;exact s2 b (bF ((ha).symm.trans h1)) h2
  .exact s1 b (ai k' d b (hd.imp id λw=>⟨w.1,t7 (hO w.2) λq=>e ⟨w.1,q⟩⟩) h1 h2)
 .obtain⟨w,u,L,t,rfl,J⟩:=J;refine aM (k w u L t J.1 λk' d b hd h1 h2=>J.2.1 k' d b ?_ h1 h2);rw[bc];have hd:=hO (hd.resolve_right λw=>nC _ w.2)
  exact(ZL hd).imp id λe=>⟨e,aj e (cG.mp h1).1⟩
end
def uM(L:Ss):Prop:=L.Nodup/\∀a,a∈L↔jM a
section
variable{L:Ss}
def NG(h:1<=n):qF n 1=1:=by
 unfold qF;rw[au (ao Y),Z9 (show(1:Int)<=n from qb.mpr h)]
 rfl
def Ae:(refs n).length=n:=by rw[refs,bc,fP]
def B7(h:p<n):(refs n)[p]?=M (.e (2,[p])):=by
 rw[refs,gX,ny h]
 rfl
def C2(L:Ss)(u:Hp):Prop:=u (47,[])=M (.d (d1 1 16))/\u (16,[])=M (.l (L.map .s))/\L.Nodup/\(∀a∈L,jM a)/\dP∈L/\∀j,L.length<=j->u (17,[j])=U
section
variable{L:Ss} (hh:C2 L u)
def C2.bb:=hh.1
def C2.aK:=hh.2.1
def C2.aF:=hh.2.2.1
def C2.aC:=hh.2.2.2.1
def C2.aO:=hh.2.2.2.2.1
def C2.aI:=hh.2.2.2.2.2
end
def air(gi:h (1,[])=M (.i 4 f1))(gp:h (41,[])=M (.l (refs (nG+1))))(g5:h (45,[])=M (.d (d1 1 13)))(DF:kj (46,[]) 14 kA (LF F) h)(P:HP h)(m0:m 0=M (.e (1,[])))(D:C2 L u)
 (k1:∀L' v' u' t',C2 L' u'->L.length<L'.length->Q .n ⟨ba wM v' m,mix wR u' h,t'⟩)(k2:∀L' v' u' t',u' (47,[])=M (.d (d1 1 16))->u' (16,[])=M (.l (L'.map .s))->uM L'->Q .b ⟨ba wM v' m,mix wR u' h,t'⟩):
 WB (n+1) UW Q ⟨ba wM v m,mix wR u h,t⟩:=by
 have zr:1<=(refs (nG+1)).length:=ak Ae (fY _);refine eZ ql ?_;show WB (n+1) _ _ ⟨aJ (ba wM v m) 3 (.o Z),mix wR u h,t⟩;rw[bZ Y];refine f6 (nU (qQ (Eo (re (ra (aG m0) gi Y gQ.1) (re bG (.inl ⟨_,refs (nG+1),1,Y,Y,gp,ak Ae (aV kK.2 (by decide)),dQ (17,[L.length]) Y (D.aI _ (b8 _)) ?_⟩))))))
 rw[NG zr];show IB _ ⟨_,(mix wR u h).aH (17,[L.length]) _,t⟩ _ _;rw[bJ Y];refine qP bo (oU ((refs (nG+1)).drop 1) (λj K=>∃v u' L' t,K=⟨ba wM v m,mix wR u' h,t⟩/\CW L.length (λx=>(u.aH (17,[L.length]) (.l ((refs (nG+1)).drop 1))) (17,x)) L' v u'/\Cd j 0 L') (λi K J=>?_) ⟨_,_,L,t,Y,⟨D.bb,D.aK,D.aF,D.aC,D.aO,⟨Z,Y,λe=>b9 e⟩,b8 _,λx=>Y⟩,λk d a hd=>hd.elim (λw=>ax w (nC _)) λw=>ax w.2 (nC _)⟩ (λj x K hv J=>?_) λK J=>?_)
 .obtain⟨v,u,L,t,rfl,J,_⟩:=J;exact⟨_,(J.bz _).trans bo,Y⟩
 .obtain⟨w,u,L',t,rfl,C,ai⟩:=J;rw[PT]at hv;have lt:=Jr (cG.mp hv).1 Ae
  rw[B7 lt]at hv;obtain rfl:=bF hv;rw[sx 1 j]at lt⊢;show WB (n+1) MB _ ⟨aJ (ba wM w m) 4 (.e (2,[j+1])),mix wR u h,t⟩;rw[bZ Y];exact aiq gi g5 DF P (Zv lt) m0 (C.dw Y) ai Y λv' u' L' t' C ai=>⟨v',u',L',t',Y,C,ai⟩
 .obtain⟨v,u',L',t,rfl,C,ai⟩:=J;rw[Gi,Ae,PU]at ai;refine bT C.cC λb v3 lt=>?_;cases b with
  |false=>
   refine aM (gN (kF (p:=Z) (fq (aG v3) oI)) (xS (k2 L' v u' t C.aF C.aC ⟨C.aK,λa=>⟨C.aI a,λh=>?_⟩⟩)));rcases h with e|⟨k,d,h1,h2⟩
   .exact ak e C.bb
   .cases k with
    |zero=>exact cW h2
    |succ k=>exact ai k d a (.inl (xX h1)) h1 h2
  |true=>exact aM (eC (kF (p:=O) (fq (aG v3) oI)) (aM (aM (k1 L' v u' t ⟨C.aF,C.aC,C.aK,C.aI,C.bb,λj hj=>(C.bz _).trans ((aQ λe=>dq j (dJ ((d6 (cP e).2).1▸lt Y) hj)).trans (D.aI j (aV C.aO hj)))⟩ (lt Y)))))
end
variable{Q:RQ}
def ais{x y:V}:cX [(.s s,x)] (.s s) y=[(.s s,y)]:=aw Y
def ait:jM dP:=.inl Y
def aiu(gi:h (1,[])=M (.i 4 f1))(gp:h (41,[])=M (.l (refs (nG+1))))(g5:h (45,[])=M (.d (d1 1 13)))(DF:kj (46,[]) 14 kA (LF F) h)(g7:h (47,[])=M (.d []))(fr:∀k x,[15,16,17].contains k=O->h (k,x)=U)(P:HP h)
 (q:∀L u t',u (47,[])=M (.d (d1 1 16))->u (16,[])=M (.l (L.map .s))->uM L->Q (.e (47,[])) (mix wR u h) t'):bO (n+2) (bS 29) [.e (1,[])] Q h t:=by
 have mh:=uE (R:=wR) (h:=h);have Ij:=gQ.2.2.2.2.2.2.1
 refine oE (P 1 (dK (jV (ao Y) kK.1))) λg P1=>?_;obtain⟨m,hm⟩:∃m:Mp,m=λi=>([V.e (1,[])]++[V.n])[i]?:=⟨_,Y⟩;have m0:m 0=M (.e (1,[])):=ak hm Y
 have m1:m 1=M .n:=ak hm Y;refine f9 ago Y ?_;rw[<-hm];refine eC (fq (ra (aG m0) gi Y Ij) (Ep (es:=[]) g7)) (aM (eC (kF (p:=O) (fq (ra (aG m0) gi Y gQ.2.2.2.2.2.1) (Ep (es:=kJ 14 kA) DF.1))) (aM ?_)));refine Ac (ks:=[sE]) (λj K=>∃v u,K=⟨ba [2] v m,mix wR u h,t⟩/\(∀k x,k=16\/k=17\/j=0/\k=15->u (k,x)=U)/\u (47,[])=M (.d (if j=0 then []else d1 1 15))) (ra (aG m0) gi Y gQ.2.2.2.2.1) (λj K J=>?_) ⟨m,h,mu jx mh,λk x e=>fr k x (by rcases e with e|e|⟨_,e⟩<;>subst e<;>rfl),g7⟩ (λj s K hs J=>?_) λK J=>?_
 .obtain⟨v,u,rfl,_⟩:=J;exact⟨_,g5,Y⟩
 .obtain⟨w,u,rfl,C,d⟩:=J;have j0:=Qi.mp (cG.mp hs).1
  subst j0;obtain rfl:=bF hs;show WB _ _ _ ⟨aJ (ba [2] w m) 2 (.s sE),mix wR u h,t⟩;rw[bZ Y];exact H5 (15,[]) Y Y Y (C 15 _ (.inr (.inr ⟨Y,Y⟩))) (ra (aG m0) gi Y Ij) d (aG Y) Y (ao Y) (aM ⟨_,_,Y,λk x e=>(aQ λq=>by cases q;exact ax e (ao Y)).trans ((aQ λq=>by cases q;exact ax e (ao Y)).trans (C k x (e.imp id (Or.imp id λw=>⟨Y,w.2⟩)))),bo⟩)
 .obtain⟨v,u,rfl,C,d⟩:=J;refine gN (kF (fq (aG (m1)) sO)) (eZ (ra (zG (ra (aG m0) gi Y gQ.1) gp bG (B7 (vE (jV (ao Y) kK.1)))) P1.aF Y P1.aC.1) (aM ?_));refine H4 (16,[]) Y Y Y (C 16 _ (.inl Y)) (aW bW bD) (ao Y) (ra (aG m0) gi Y Ij) d (aG Y) Y (ao Y) ?_;generalize hu:Hp.aH _ (47,[]) _=u2;have D:C2 [dP] u2:=⟨aj hu (bo.trans (aq (λe=>M (af.d e)) ais)),aj hu Y,iY.mpr ⟨λw=>bA w,gY⟩,λa ha=>ak (bK.mp ha) ait,.head _,λj b=>aj hu (C 17 [j] (.inr (.inl Y)))⟩
  obtain⟨m2,Fs⟩:∃m2:Mp,m2=aJ (ba [2] v m) 1 (.s sE):=⟨_,Y⟩;have Ad:m2 0=M (.e (1,[])):=ak Fs m0
  show WB _ _ _ ⟨aJ (ba [2] v m) 1 (.s sE),mix wR u2 h,t⟩;rw[<-Fs];refine wq (λk K=>∃L v' u t,k+L.length=9/\K=⟨ba wM v' m2,mix wR u h,t⟩/\C2 L u) ⟨[dP],m2,u2,t,Y,mu jx Y,D⟩ λk K J=>⟨O,fq ql oI,λb=>?_,λe=>b9 e⟩;obtain⟨L,v',u,t,ek,rfl,D⟩:=J;refine air gi gp g5 DF P Ad D (λL' v' u' t' D' lt=>⟨9-L'.length,?_,L',v',u',t',?_,Y,D'⟩) λL' v' u' t' d l a=>kc (ra (aG (Ad)) gi Y Ij) (q L' u' t' d l a)
  .rw[aop ek];exact ZF (dJ lt (ly D'.aF λa ha=>oX (D'.aC a ha))) lt
  .exact Gf (ly D'.aF λa ha=>oX (D'.aC a ha))
def sym(x:It):Option aP:=sy x.1 x.2
def bE(x:It):Prop:=0<x.2/\sy x.1 (x.2-1)=M sE
def K1(I:List It)(s:aP):List It:=I.filterMap λy=>if sym y=M s then M (y.1,y.2+1)else U
noncomputable def fF(s:aP)(j:Nat):Option It:=if sy (j+1) 0=M s then M (j+1,1)else U
noncomputable def eF:List It:=(bQ nG).filterMap (fF sE)
noncomputable def aL:List It:=(bQ nG).map λj=>(j+1,0)
noncomputable def kr(x:It):List It:=x::if bE x then eF else []
def stI(x:It):List It:=kr x++if sym x=M sE then aL else []
def Mn(x:It):Prop:=x.1<=nG/\x.2<=(ss x.1).length/\(x.1=0\/(0<x.2/\¬(x.2=1/\sy x.1 0=M sE)))
section
variable{x:It} (hh:Mn x)
def Mn.aC:=hh.1
def Mn.aF:=hh.2.1
def Mn.aI:=hh.2.2
end
noncomputable def mv(x:It)(s:aP):Option It:=(K1 (stI x) s).head?
def Io(x:It):Prop:=x.1<=nG/\x.2<=(ss x.1).length
variable{x y z:It} {J r:List It}
def Wj{f:Nat->Option It}{l:Nl}(u:∀i j a b,f i=M a->f j=M b->i=j):l.Nodup->l.filterMap f=y::r->r=[]:=by
 induction l with
 |nil=>exactλg h=>yE h.symm rfl
 |cons a l ih=>
  intro nd h;have nd:=iY.mp nd
  cases e:f a with
  |none=>exact ih nd.2 ((List.filterMap_cons_none e).symm.trans h)
  |some b=>
   rw[List.filterMap_cons_some e]at h;rw[<-(d6 h).2];refine anT.mpr λc hc=>?_;cases e':f c with
   |none=>rfl
   |some d=>exact ax hc (aj (u a c b d e e') nd.1)
def NH(h:y∈K1 I s):∃z∈I,sym z=M s/\y=(z.1,z.2+1):=by
 refine bT (vA.mp h) λz hz e=>?_;by_cases c:sym z=M s
 .exact⟨z,hz,c,bF (e.symm.trans (aw c))⟩
 .exact hV (e.symm.trans (au c))
def Wm(h:z∈I)(c:sym z=M s):(z.1,z.2+1)∈K1 I s:=vA.mpr ⟨z,h,aw c⟩
def Wn:K1 (I++J) s=K1 I s++K1 J s:=Jh ..
def uN:K1 (x::I) s=if sym x=M s then(x.1,x.2+1)::K1 I s else K1 I s:=by
 unfold K1;rw[Jo];by_cases c:sym x=M s
 .rw[aw c,aw c]
 .rw[au c,au c]
def aiv(h:∀z∈I,sym z≠M s):K1 I s=[]:=anT.mpr λz hz=>au (h z hz)
def Af(h:fF s i=M y):sy (i+1) 0=M s/\y=(i+1,1):=by
 unfold fF at h;by_cases c:sy (i+1) 0=M s
 .rw[aw c]at h;exact⟨c,(bF h).symm⟩
 .rw[au c]at h;exact cW h
def Ik:K1 aL s=(bQ nG).filterMap (fF s):=ZI ..
def tE:y∈eF↔∃i,sy (i+1) 0=M sE/\y=(i+1,1):=vA.trans ⟨λwz=>bT wz λi a e=>⟨i,Af e⟩,λwz=>bT wz λi e q=>⟨i,j4.mpr (xX e),(aw e).trans (aq M q.symm)⟩⟩
def wI:y∈aL↔∃i<nG,y=(i+1,0):=bX.trans ⟨λwz=>bT wz λi h e=>⟨i,j4.mp h,e.symm⟩,λwz=>bT wz λi h e=>⟨i,j4.mpr h,e.symm⟩⟩
def Il(b:bE x)(h:sym x=M s):s≠sE:=by
 obtain⟨k,d⟩:=x;cases d with
 |zero=>exact ax b.1 (dq 0)
 |succ d=>exact(wD b.2 h).mp Y
def Ag(h:y∈eF):∃s,sym y=M s/\s≠sE:=by obtain⟨i,e,rfl⟩:=tE.mp h;obtain⟨x,hx⟩:=VS e;exact⟨x,hx,(wD e hx).mp Y⟩
def aiw(m:Mn x)(b:¬bE x)(n:sym x≠M sE):sym x=U:=by
 obtain⟨k,d⟩:=x;cases h:sym (k,d)with
 |none=>rfl
 |some s=>
  cases d with
  |zero=>obtain rfl:k=0:=m.aI.resolve_right λw=>ax w.1 (dq 0);exact ax Y n
  |succ d=>
   refine oE (jy (ZQ m.aF)) λt ht=>?_;have w:=wD ht h
   have ns:s≠sE:=λe=>n (h.trans (aq M e));exact ax ⟨fY d,ht.trans (aq M (w.mpr ns))⟩ b
def B8(h:¬bE y):kr y=[y]:=aq (y::·) (au h)
def Wo(h:bE y):kr y=y::eF:=aq (y::·) (aw h)
def uO(h:sym x=M sE):stI x=x::aL:=by
 unfold stI;rw[aw h,B8 λb=>Il b h Y]
 rfl
def rN(b:bE x):stI x=x::eF:=by unfold stI;rw[au λw=>Il b w Y,i8,Wo b]
def Ft(b:¬bE x)(n:sym x≠M sE):stI x=[x]:=by unfold stI;rw[au n,i8,B8 b]
def Mv(x:It)(s:aP)(y:It):Prop:=Mn y/\K1 (stI x) s=kr y/\bE y=(s=sE)/\0<y.2/\sy y.1 (y.2-1)=M s
def Mv.NI(m:Mn y)(n:s≠sE)(e:K1 (stI x) s=[y])(h0:0<y.2)(h:sy y.1 (y.2-1)=M s):Mv x s y:=
 have nb:¬bE y:=λb=>n (bF (h.symm.trans b.2))
 ⟨m,e.trans (B8 nb).symm,propext ⟨λb=>ax b nb,λe=>ax e n⟩,h0,h⟩
def aix(m:Mn x)(e:K1 (stI x) s=y::r):Mv x s y:=by
 by_cases a:sym x=M sE
 .rw[uO a,uN]at e;by_cases c:s=sE
  .subst c;rw[aw a,Ik]at e;obtain⟨rfl,rfl⟩:=d6 e;have b:bE (x.1,x.2+1):=⟨fY _,a⟩
   refine⟨⟨m.aC,(cG.mp a).1,m.aI.imp id λw=>⟨fY _,λq=>ax (pb q.1) (fQ w.1)⟩⟩,?_,propext ⟨λf=>Y,λf=>b⟩,fY _,a⟩;rw[uO a,uN,aw a,Ik,Wo b];rfl
  .rw[au λw=>c (bF (w.symm.trans a)),Ik]at e;have er:r=[]:=Wj (λi j a b ha hb=>ahq (Af ha).1 (Af hb).1 c) AO e
   refine bT (vA.mp (show y∈(bQ nG).filterMap (fF s) by rw[e];exact .head _)) λi hi q=>?_
   obtain⟨h0,rfl⟩:=Af q;refine .NI ⟨xX h0,(cG.mp h0).1,.inr ⟨pd,λw=>c (bF (h0.symm.trans w.2))⟩⟩ c ?_ pd h0;rw[uO a,uN,au λw=>c (bF (w.symm.trans a)),Ik,e,er]
 .by_cases b:bE x
  .have e0:=e;rw[rN b,uN]at e;by_cases c:sym x=M s
   .rw[aw c]at e;obtain⟨rfl,h⟩:=d6 e;have n:=Il b c
    have no:K1 eF s=[]:=aiv λz hz w=>by
     obtain⟨i,h0,rfl⟩:=tE.mp hz;obtain⟨k,d⟩:=x;cases d with
     |zero=>exact ax b.1 (dq 0)
     |succ d=>
      cases k with
      |zero=>exact cW c
      |succ k=>
       cases d with
       |zero=>exact(m.aI.resolve_left (qD k)).2 ⟨Y,b.2⟩
       |succ d=>exact ahv h0 w b.2 c
    refine .NI ⟨m.aC,(cG.mp c).1,m.aI.imp id λw=>⟨fY _,λq=>ax (pb q.1) (fQ b.1)⟩⟩ n ?_ (fY _) c;rw[e0,<-h,no]
   .rw[au c]at e;have hy:y∈K1 eF s:=by rw[e];exact .head _
    obtain⟨z,hz,h1,rfl⟩:=NH hy;refine bT (Ag hz) λt ht n=>?_;obtain rfl:=bF (ht.symm.trans h1);obtain⟨i,h0,rfl⟩:=tE.mp hz;refine .NI ⟨xX h0,(cG.mp h1).1,.inr ⟨AV,λw=>ax (pb w.1) Z8⟩⟩ n ?_ AV h1;have er:r=[]:=by
     unfold K1 eF at e;rw[List.filterMap_filterMap]at e;refine Wj (λi j a b ha hb=>?_) AO e;have go:∀{i:Nat}{a:It},((fF sE i).bind λy=>if sym y=M t then M (y.1,y.2+1)else U)=M a->sy (i+1) 0=M sE/\sy (i+1) 1=M t:=λ{i a} h=>by
      refine bT (CU.mp h) λz hz h=>?_;obtain⟨h0,rfl⟩:=Af hz;refine⟨h0,?_⟩;by_cases w:sym (i+1,1)=M t
      .exact w
      .rw[au w]at h;exact cW h
     exact ahr (go ha).1 (go hb).1 (go ha).2 (go hb).2
    rw[e0,er]
  .have h:=aiw m b a;rw[Ft b a,uN,h,au (λw=>cW w)]at e;exact yE e.symm Y
def Fu(m:Mn x)(e:mv x s=M y):Mv x s y:=by
 unfold mv at e;cases h:K1 (stI x) s with
 |nil=>rw[h]at e;exact cW e
 |cons z r=>rw[h]at e;obtain rfl:=bF e;exact aix m h
def NJ(e:mv x s=U):K1 (stI x) s=[]:=List.head?_eq_none_iff.mp e
def x2(h:sym x=M sE):mv x sE=M (x.1,x.2+1):=by
 unfold mv;rw[uO h,uN,aw h]
 rfl
def Fv(m:Mn x)(h:mv x sE=M y):sym x=M sE/\y=(x.1,x.2+1):=by
 refine fH (NH (aoc h)) λz hz e c=>?_;by_cases a:sym x=M sE
 .exact⟨a,(bF ((x2 a).symm.trans h)).symm⟩
 .refine ax e ?_;by_cases b:bE x
  .rw[rN b]at hz;rcases cU.mp hz with rfl|hz
   .exact a
   .refine bT (Ag hz) λs h1 n=>?_;exactλw=>n (bF (h1.symm.trans w))
  .rw[Ft b a]at hz;exact ak (bK.mp hz) a
def B9(h:mv x s=M y):∃z∈stI x,sym z=M s/\y=(z.1,z.2+1):=NH (aoc h)
def tF(m:Mn x)(hz:z∈stI x)(e:sym z=M s)(n:s≠sE):mv x s=M (z.1,z.2+1):=by
 have k:=Wm hz e;cases h:mv x s with
 |none=>rw[NJ h]at k;exact bA k
 |some y=>refine uf (Fu m h) λa T b a=>?_;rw[T,B8 λw=>n (b.mp w)]at k;exact aq M (bK.mp k).symm
def Ah:x∈stI x:=dU _ (.head _)
def rO(m:Mn x)(h:y∈stI x):Io y:=by
 have go:∀z,z∈eF\/z∈aL->Io z:=λz h=>by
  rcases h with h|h
  .obtain⟨i,h0,rfl⟩:=tE.mp h;exact⟨xX h0,(cG.mp h0).1⟩
  .obtain⟨i,h0,rfl⟩:=wI.mp h;exact⟨h0,b7 _⟩
 unfold stI kr at h;rcases cZ.mp h with h|h
 .rcases cU.mp h with rfl|h
  .exact⟨m.aC,m.aF⟩
  .split at h
   .exact go y (.inl h)
   .exact bA h
 .split at h
  .exact go y (.inr h)
  .exact bA h
def rP:(stI x).length<=10:=by
 have g:=kK.2;have e1:eF.length<=4:=aV (CT ..) (by rw[fP];exact hO g)
 have e2:aL.length<=4:=by rw[aL,bc,fP];exact hO g
 have a1:(if bE x then eF else []).length<=4:=by
  split
  .exact e1
  .exact b7 _
 have a2:(if sym x=M sE then aL else []).length<=4:=by
  split
  .exact e2
  .exact b7 _
 unfold stI kr;rw[dY,vD];exact aV (ri (j3 a1) a2) (ao Y)
def Ai:stI x≠[]:=λe=>bA (aj e Ah:x∈[])
def NL(e:stI x=stI y):x=y:=(d6 e).1
def Ca:Mn (0,0):=⟨b7 _,b7 _,.inl Y⟩
def uP{X:Type}(w:X)(P R:X->Prop):X:=@JM X ⟨w⟩ λx=>P x/\¬R x
def x4{X:Type}{w:X}{P R:X->Prop}(core:P (uP w P R)->R (uP w P R)){x:X}(p:P x):R x:=Zt λn=>
 have e:=JK (p:=λx=>P x/\¬R x) ⟨x,p,n⟩
 e.2 (core e.1)
structure Rn where
 n:Nat
 u:Hp
 t:Nat
 Q:RQ
noncomputable def Cb:Rn:=⟨0,λa=>U,0,λa a a=>True⟩
abbrev wJ(P R:Rn->Prop):Rn:=uP Cb P R
def x5{P R:Rn->Prop}(core:P (wJ P R)->R (wJ P R)){x:Rn}(p:P x):R x:=x4 core p
def pQ:aP:=if 10<([sE]::gs).foldl (λn l=>n+l.length) 0 then"SLR" else if fV/3840%2=0 then"LALR" else"SLR"
noncomputable def aiy:aP:="LALR"
def F0:Mp:=aJ (aJ (aJ (aJ (aJ (aJ (aJ (aJ (aJ (aJ (aJ (aJ (aJ (λa=>U) 30 (.e (1,[]))) 31 (.s pQ)) 32 (.e (23,[]))) 33 (.e (25,[]))) 34 (.e (41,[]))) 35 (.e (21,[]))) 36 (.e (22,[]))) 37 (.i 0)) 38 (.i 0)) 39 (.i 0)) 40 (.e (26,[]))) 41 (.e (27,[]))) 42 (.e (28,[]))
noncomputable abbrev lR:Nl:=[0,2,6,20,21,22,23,24,25,26,27,28,29,30,31,32,33,34,35,36,37,38,39,40,50,51,52,53,54,55,99]
def Rd(x:It)(a:aP):Prop:=x.1≠0/\sym x=U/\jM a
def gh(k:Nat)(a:aP):Nat:=if(pk k).2<(pq a).2\/(pq a).2=(pk k).2/\(pk k).1="right" then 0 else if(pq a).2=(pk k).2/\(pk k).1="nonassoc" then 2 else 1
inductive Cell(cs:List It)(x:It)(a:aP):V->Prop
 |a:x.1=0->sym x=U->a=dP->Cell cs x a (.i 0)
 |sh {y:It} {i:Nat}:mv x a=M y->a≠sE->cs[i]?=M y->(Rd x a->gh x.1 a=0)->Cell cs x a (.i (i:Nat))
 |r:Rd x a->(mv x a=U\/gh x.1 a=1)->Cell cs x a (.i (-(x.1:Int)))
 |n {y:It}:Rd x a->mv x a=M y->gh x.1 a=2->Cell cs x a .n
def Told(x:It)(a:aP):Prop:=Rd x a/\(∃y,mv x a=M y)/\gh x.1 a=0/\(pk x.1).2=0
def gS(p:Nat×aP):V:=V.cq [.i p.1,.s p.2,.s "shift"]
def jN(cs:List It)(u:Hp):Prop:=cs.length<=100/\cs.Nodup/\cs[(0:Nat)]?=M (0,0)/\(∀x∈cs,Mn x)/\(∀x∈cs,∀s y,mv x s=M y->y∈cs)/\(∀(j:Nat) y,0<j->cs[j]?=M y->∃i<j,∃x s,cs[i]?=M x/\mv x s=M y)/\(∃c,u (20,[])=M (.i 6 (aJ F0 37 c)))/\(u (23,[])=M (.d ((bQ cs.length).map λj=>(.i (j:Nat),.e (29,[j])))))/\(u (25,[])=M (.d ((bQ cs.length).map λj=>(.i (j:Nat),.e (30,[j])))))/\(∀(j:Nat) x,cs[j]?=M x->∃es,u (29,[j])=M (.d es)/\(es.map (·.1)).Nodup/\∀k v,(k,v)∈es↔∃a,k=.s a/\Cell cs x a v)/\(∀(j:Nat) x,cs[j]?=M x->∃es,u (30,[j])=M (.d es)/\if sym x=M sE then∃i:Nat,cs[i]?=M (x.1,x.2+1)/\es=[(.s sE,.i i)]else es=[])/\(∃l:List (Nat×aP),u (27,[])=M (.l (l.map gS))/\l.Nodup/\∀j a,(j,a)∈l↔∃x,cs[j]?=M x/\Told x a)/\u (28,[])=M (.l [])
section
variable{cs:List It} (hh:jN cs u)
def jN.aK:=hh.1
def jN.aF:=hh.2.1
def jN.aC:=hh.2.2.1
def jN.aI:=hh.2.2.2.1
def jN.aO:=hh.2.2.2.2.1
def jN.jI:=hh.2.2.2.2.2.1
def jN.bz:=hh.2.2.2.2.2.2.1
def jN.cC:=hh.2.2.2.2.2.2.2.1
def jN.bb:=hh.2.2.2.2.2.2.2.2.1
def jN.pP:=hh.2.2.2.2.2.2.2.2.2.1
def jN.j9:=hh.2.2.2.2.2.2.2.2.2.2.1
def jN.d9:=hh.2.2.2.2.2.2.2.2.2.2.2.1
def jN.iL:=hh.2.2.2.2.2.2.2.2.2.2.2.2
end
def jO(x:Rn):Prop:=x.u (1,[])=M (.i 4 f1)/\x.u (41,[])=M (.l (refs (nG+1)))/\x.u (8,[])=M (.l (rL nG))/\x.u (44,[])=M (.d (kJ 12 ts))/\x.u (45,[])=M (.d (d1 1 13))/\x.u (48,[])=M (.d gF)/\(∃L,x.u (47,[])=M (.d (d1 1 16))/\x.u (16,[])=M (.l (L.map .s))/\uM L)/\Wa x.u/\(∀q≤nG,∃g,nZ x.u g q (qW q)/\g 11=M (.e (5,[q,0])))/\x.u (20,[])=M (.i 6 F0)/\x.u (21,[])=M (.d [])/\x.u (22,[])=M (.d [])/\x.u (23,[])=M (.d [])/\x.u (25,[])=M (.d [])/\x.u (27,[])=M (.l [])/\x.u (28,[])=M (.l [])/\(∀k y,[24,29,30,31,32,33,34,35,36,37,38,39,40,52,53,54,55].contains k=O->x.u (k,y)=U)/\(∃g,x.u hD=M (.fz g))/\x.u (50,[])=M (.t 391 #[])/\x.u (51,[])=M (.t 398 #[])/\∀cs u t',jN cs u->x.Q .n (mix lR u x.u) t'
section
variable{x:Rn} (hh:jO x)
def jO.aC:=hh.1
def jO.aI:=hh.2.1
def jO.jI:=hh.2.2.1
def jO.aK:=hh.2.2.2.1
def jO.bb:=hh.2.2.2.2.1
def jO.bz:=hh.2.2.2.2.2.1
def jO.aiz:=hh.2.2.2.2.2.2.1
def jO.pP:=hh.2.2.2.2.2.2.2.1
def jO.iL:=hh.2.2.2.2.2.2.2.2.1
def jO.aF:=hh.2.2.2.2.2.2.2.2.2.1
def jO.aiA:=hh.2.2.2.2.2.2.2.2.2.2.1
def jO.aiB:=hh.2.2.2.2.2.2.2.2.2.2.2.1
def jO.aiC:=hh.2.2.2.2.2.2.2.2.2.2.2.2.1
def jO.aiD:=hh.2.2.2.2.2.2.2.2.2.2.2.2.2.1
def jO.aiE:=hh.2.2.2.2.2.2.2.2.2.2.2.2.2.2.1
def jO.wH:=hh.2.2.2.2.2.2.2.2.2.2.2.2.2.2.2.1
def jO.aO:=hh.2.2.2.2.2.2.2.2.2.2.2.2.2.2.2.2.1
def jO.aiF:=hh.2.2.2.2.2.2.2.2.2.2.2.2.2.2.2.2.2.1
def jO.d9:=hh.2.2.2.2.2.2.2.2.2.2.2.2.2.2.2.2.2.2.1
def jO.cC:=hh.2.2.2.2.2.2.2.2.2.2.2.2.2.2.2.2.2.2.2.1
def jO.j9:=hh.2.2.2.2.2.2.2.2.2.2.2.2.2.2.2.2.2.2.2.2
end
def NM(x:Rn):Prop:=bO (x.n+44) (bS 44) [.e (20,[])] x.Q x.u x.t
def lx:Rn:=wJ jO NM
abbrev hL:Hp:=lx.u
abbrev hp(u:Hp):Hp:=mix lR u hL
abbrev HL:Prop:=jO lx
def IX(x:It)(f:Mp):Prop:=hL (5,[x.1,x.2])=M (.i 2 f)/\f 0=M (.s (qW x.1))/\f 1=M (V.cq ((dot (ss x.1) x.2).map .s))/\f 2=M (.i x.1)/\f 8=M (.i ((ss x.1).length+1:Nat))/\f 9=M (.e (3,[x.1]))/\f 11=M (Ab x.1 x.2)/\f 13=M (.i x.2)/\f 14=M (.e (6,[x.1,x.2]))/\(sym x=M sE->f 28=M (.e (8,[])))/\(sym x≠M sE->f 28=M (.e (9,[x.1,x.2]))/\hL (9,[x.1,x.2])=M (.l []))/\(∀s,0<x.2->sy x.1 (x.2-1)=M s->f 29=M (.s s))/\hL (6,[x.1,x.2])=M (.d [])
variable(hh:IX x f)
def IX.aC:=hh.1
def IX.aO:=hh.2.1
def IX.aK:=hh.2.2.1
def IX.bb:=hh.2.2.2.1
def IX.aI:=hh.2.2.2.2.1
def IX.d9:=hh.2.2.2.2.2.1
def IX.j9:=hh.2.2.2.2.2.2.1
def IX.aF:=hh.2.2.2.2.2.2.2.1
def IX.bz:=hh.2.2.2.2.2.2.2.2.1
def IX.jI:=hh.2.2.2.2.2.2.2.2.2.1
def IX.pP:=hh.2.2.2.2.2.2.2.2.2.2.1
def IX.iL:=hh.2.2.2.2.2.2.2.2.2.2.2.1
def IX.cC:=hh.2.2.2.2.2.2.2.2.2.2.2.2
def fI(x:It):Mp:=@JM _ ⟨λa=>U⟩ (IX x)
def PX(p:Nat)(g:Mp):Prop:=nZ hL g p (qW p)/\g 11=M (.e (5,[p,0]))
variable(hh:PX p g)
def PX.aC:=hh.1
def PX.aF:=hh.2
def gP(p:Nat):Mp:=@JM _ ⟨λa=>U⟩ (PX p)
def px(H:HL)(h:p<=nG):PX p (gP p):=(H.iL p h).elim λg k=>@JK _ (PX p) ⟨g,k.1,k.2⟩
def ix(H:HL)(i:Io x):IX x (fI x):=by
 refine bT (H.pP x.1 x.2 i.1 i.2) λf X qX=>?_;have ea:sym x≠M sE->Aa x.1 x.2=(9,[x.1,x.2]):=λn=>au n
 exact@JK _ (IX x) ⟨f,X.aF,X.aC.1,X.aC.2.1,X.aC.2.2.1,X.aC.2.2.2.1,X.aC.2.2.2.2.1,qX,X.aC.2.2.2.2.2.1,X.aC.2.2.2.2.2.2,λe=>X.aI.trans (aq (λl=>M (V.e l)) (aw e)),λn=>⟨aj (ea n) X.aI,X.aK (ea n)⟩,X.bb,X.aO⟩
def Wq(i:Io x)(c:sym x=M s):Io (x.1,x.2+1):=⟨i.1,(cG.mp c).1⟩
def Wr{Q:QF}{r:Sx}(B:Nat)(I:Nat->QA)(he:RE K e (.e l))(i0:I 0 K)(st:∀j K,I j K->∃vs,K.h l=M (.l vs)/\j<=vs.length/\vs.length<=B/\(∀v,vs[j]?=M v->WB n b (Fw.lp (I (j+1)) (Nx n r Q)) (K.dw i v))/\(j=vs.length->WB n r Q K)):WB n (.c (.f (.v i) (.l e) b .n) r) Q K:=by
 refine bT (st 0 K i0) λvs hl a=>?_;refine f6 (nU (qQ (re he (qP hl ⟨I,B,i0,λj K J=>?_⟩))));refine oE (st j K J) λvs hW=>sC hW λhl le lb s1 s2=>?_;cases hv:vs[j]? with
 |none=>exact .inl ⟨⟨vs,hl,hv⟩,aM (s2 (pY le (jj.mp hv)))⟩
 |some v=>exact .inr ⟨v,⟨vs,hl,hv⟩,dJ (cG.mp hv).1 lb,s1 v hv⟩
def Old(c:Int)(g:Mp):Prop:=∃o,o<=c/\(g 46=M (.i o)\/g 46=U/\o=0)
def Gq(g:Mp)(p:Nat):Prop:=(∀a,a≠46->a≠57->g a=gP p a)/\(g 57=U\/∃k:Int,g 57=M (.i k))
def Gq.set{v:V}(h:Gq g p):Gq (aJ g 46 v) p:=⟨λa h1 h2=>(au h1).trans (h.1 a h1 h2),h.2⟩
def Pw(c:Int)(w:Hp):Prop:=0<=c/\∀p≤nG,∃g,w (2,[p])=M (.i 1 g)/\Gq g p/\Old c g
def CS(u:Hp)(c:Int)(y:It)(j:Nat)(m:Nat)(w:Hp):Prop:=w (34,[j])=M (.l (bu (kr y++aL.take m)))/\(∀p≤nG,∃g,w (2,[p])=M (.i 1 g)/\Gq g p/\if 0<p/\p<=m then g 46=M (.i (c+1))else Old c g)/\∀k l,k≠2->(k,l)≠(34,[j])->w (k,l)=u (k,l)
section
variable{c:Int} {m:Nat} {w:Hp} (hh:CS u c y j m w)
def CS.aI:=hh.1
def CS.aF:=hh.2.1
def CS.aC:=hh.2.2
end
noncomputable def nE(y:It):Nat:=if sym y=M sE then nG else 0
noncomputable abbrev mT:Nl:=[3,4,5]
variable{q:Nat} {w:Hp} {Q:QF} {c:Int} {b:Bool}
def Ws:bu I++[.e (5,[x.1,x.2])]=bu (I++[x]):=(dF (l₂:=[x])).symm
def aiG(h:q<nG):aL[q]?=M (q+1,0):=by
 rw[aL,gX,ny h]
 rfl
def NN:(kr y++aL.take k).length<=10:=by
 have g:=kK.2;have e1:eF.length<=4:=aV (CT ..) (by rw[fP];exact hO g)
 have e2:(aL.take k).length<=4:=aV (q7 ..) (by rw[aL,bc,fP];exact hO g)
 have a1:(if bE y then eF else []).length<=4:=by
  split
  .exact e1
  .exact b7 _
 unfold kr;rw[dY,vD];exact aV (ri (j3 a1) e2) (ao Y)
def aiH(H:HL)(x6:u (20,[])=M (.i 6 (aJ F0 37 (.i (c+1)))))(m0:m 0=M (.e (20,[])))(m2:m 2=M (.e (34,[j])))(J:CS u c y j k w)(hq:q<nG)(qk:q<=k)(v5:v 5=M (.e (2,[q+1])))
 (k0:q<k->Q .c ⟨ba mT v m,hp w,t⟩)(k1:∀w',q=k->CS u c y j (k+1) w'->Q .n ⟨ba mT (aJ v 3 (.o O)) m,hp w',t⟩):
 WB n MF Q ⟨ba mT v m,hp w,t⟩:=by
 refine fH (J.aF (q+1) hq) λg e2 ga gm=>?_;have ec:∀{w':Hp},w' (20,[])=u (20,[])->RE ⟨ba mT v m,hp w',t⟩ (.a (.v 0) 37) (.i (c+1)):=λe=>ra (aG m0) (e.trans x6) Y Y
 have NO:=J.aC 20 [] (ao Y) (aU Y);by_cases lt:q<k
 .rw[aw ⟨fY q,lt⟩]at gm;exact gN (aj (az (Y:V.i (c+1)=V.i (c+1))) (eH (ra (aG v5) e2 Y gm) (ec NO) (qn Y Y))) (zC (k0 lt))
 .obtain rfl:q=k:=pY qk (iP.mp lt);rw[au λw=>Jl _ w.2]at gm;refine bT gm λo lo go=>?_;have er:RE ⟨ba mT v m,hp w,t⟩ (.a (.v 5) 46) (.i o):=by
   rcases go with go|⟨go,rfl⟩
   .exact ra (aG v5) e2 Y go
   .exact Sb (aG v5) (Sa e2 Y go Y)
  have X:=px H hq;have qX:RE ⟨ba mT v m,hp w,t⟩ (.a (.v 5) 11) (.e (5,[q+1,0])):=ra (aG v5) e2 Y ((ga.1 11 (ao Y) (ao Y)).trans X.aF)
  have w2:=e2;refine eC (aj (aA (λe:V.i o=V.i (c+1)=>by cases e;exact ax lo (Gr.mpr (aas c)))) (eH er (ec NO) (qn Y Y))) (aM (pJ Y Y (aG m2) J.aI qX (by rw[bu,bc];exact bM NN (ao Y)) (m_s Y Y (aG v5) w2 (ec NO) (eZ ql (aM ?_)))))
  show Q .n ⟨aJ (ba mT v m) 3 (.o O),_,t⟩;rw[bZ Y];refine k1 _ Y ⟨?_,λp hp=>?_,λk l h1 h2=>?_⟩
  .exact bo.trans (aq (λx=>M (af.l x)) (Ws (x:=(q+1,0)).trans (aq bu (by rw[take_snoc (aiG hq),q9]))))
  .by_cases e:p=q+1
   .subst e;exact⟨_,bo,ga.set,by rw[aw ⟨fY q,b8 _⟩];rfl⟩
   .refine fH (J.aF p hp) λg' e2 ga gm=>?_;refine⟨g',(aQ (mz e)).trans e2,ga,?_⟩;by_cases d:0<p/\p<=q
    .rw[aw d]at gm;rw[aw ⟨d.1,jZ d.2⟩];exact gm
    .rw[au d]at gm;rw[au λw=>d ⟨w.1,hO (t7 w.2 e)⟩];exact gm
  .exact(aQ λe=>h1 (cP e).1).trans ((aQ h2).trans (J.aC k l h1 h2))
def aiI(H:HL)(x6:u (20,[])=M (.i 6 (aJ F0 37 (.i (c+1)))))(m0:m 0=M (.e (20,[])))(m2:m 2=M (.e (34,[j])))(J:CS u c y j k w)(hk:k=0\/k=nG)(hz:Io z)(v3:v 3=M (.o b))(v4:v 4=M (.e (5,[z.1,z.2])))
 (kk:∀v' w' k' b',CS u c y j k' w'->v' 3=M (.o b')->(k=nG->b'=b)->k'=(if sym z=M sE then nG else k)->(sym z≠M sE->b'=b)->Q .n ⟨ba mT v' m,hp w',t⟩):
 WB n MG Q ⟨ba mT v m,hp w,t⟩:=by
 have X:=ix H hz;have gp:0<nG:=jV (ao Y) kK.1
 by_cases s:sym z=M sE
 .refine iW (rL nG) (λi K=>∃v w b',K=⟨ba mT v m,hp w,t⟩/\CS u c y j (if k=0 then i else nG) w/\v 3=M (.o b')/\(k=nG->b'=b)) (ra (aG v4) X.aC Y (X.jI s)) (λi K I=>?_) ⟨v,w,b,Y,?_,v3,λa=>Y⟩ (λi x K hx I=>?_) λK I=>?_
  .obtain⟨v,w,b',rfl,_⟩:=I;exact H.jI
  .rcases hk with rfl|rfl
   .rw[aw Y];exact J
   .rw[au (fQ gp)];exact J
  .obtain⟨v,w,b',rfl,J,v3,hb⟩:=I;have li:=Fq (k:=nG)▸(cG.mp hx).1
   have ex:x=.e (2,[i+1]):=by rw[rL,gX,ny li]at hx;exact(bF hx).symm
   subst ex;show WB n MF _ ⟨aJ (ba mT v m) 5 (.e (2,[i+1])),hp w,t⟩;rw[bZ Y];refine aiH H x6 m0 m2 J li ?_ Y (λlt=>⟨_,w,b',Y,?_,v3,hb⟩) λw' e J'=>⟨_,w',O,Y,?_,Y,λe'=>?_⟩
   .split
    .exact b8 _
    .exact dK li
   .by_cases d:k=0
    .rw[aw d]at lt;exact ax lt (dq _)
    .rw[au d]at J⊢;exact J
   .by_cases d:k=0
    .rw[aw d]at J'⊢;exact J'
    .rw[au d]at e;exact ax li (aj e (dq _))
   .by_cases d:k=0
    .exact ax (e'.symm.trans d) (fQ gp)
    .rw[au d]at e;exact ax li (aj e (dq _))
  .obtain⟨v,w,b',rfl,J,v3,hb⟩:=I;refine aM (kk v w _ b' J v3 hb ?_ λn=>ax s n);rw[aw s,Fq];exact ite_self nG
 .have d:=X.pP s;exact iW [] (λa K=>K=⟨ba mT v m,hp w,t⟩) (ra (aG v4) X.aC Y d.1) (λi K I=>ak I d.2) Y (λi x K hx a=>cW hx) λK I=>ak I (aM (kk v w k b J v3 (λa=>Y) (au s).symm λa=>Y))
def aiJ(H:HL)(My:Mn y)(x6:u (20,[])=M (.i 6 (aJ F0 37 (.i (c+1)))))(m0:m 0=M (.e (20,[])))(m2:m 2=M (.e (34,[j])))(J:CS u c y j k w)(hk:k=0\/k=nE y)
 (kk:∀v' w' b',CS u c y j (nE y) w'->v' 3=M (.o b')->(k=nE y->b'=Z)->Q .n ⟨ba mT v' m,hp w',t⟩):
 WB n UZ Q ⟨ba mT v m,hp w,t⟩:=by
 have NP:nE y=0\/nE y=nG:=by
  unfold nE
  split
  .exact .inr Y
  .exact .inl Y
 refine eZ ql ?_;show WB n _ _ ⟨aJ (ba mT v m) 3 (.o Z),hp w,t⟩;rw[bZ Y];refine Wr 10 (λi K=>∃v w k' b,K=⟨ba mT v m,hp w,t⟩/\CS u c y j k' w/\(k'=if i=0 then k else nE y)/\i<=(kr y++aL.take k').length/\v 3=M (.o b)/\(k=nE y->b=Z)) (aG m2) ⟨_,w,k,Z,Y,J,Y,b7 _,Y,λd=>Y⟩ λi K I=>?_;obtain⟨v,w,k',b,rfl,J,ek,le,v3,hb⟩:=I;have ll:(bu (kr y++aL.take k')).length=(kr y++aL.take k').length:=bc ..
 have k0:k'=0\/k'=nG:=by
  rw[ek]
  split
  .exact hk.elim .inl λe=>ak e NP
  .exact NP
 refine⟨_,J.aI,ak ll le,ak ll NN,λx hx=>?_,λe=>?_⟩
 .obtain⟨z,hz,rfl⟩:=d7 hx;show WB n MG _ ⟨aJ (ba mT v m) 4 (.e (5,[z.1,z.2])),hp w,t⟩;rw[bZ Y];have hm:=cO hz
  have sub:∀{z},z∈aL.take k'->z∈aL:=λh=>Gd h;have kE:sym z=M sE->nE y=nG:=λs=>by
   rcases cZ.mp hm with hm|hm
   .unfold kr at hm;rcases cU.mp hm with rfl|hm
    .exact aw s
    .split at hm
     .exact(Ag hm).elim λa h=>ax (bF (h.1.symm.trans s)) h.2
     .exact bA hm
   .refine NP.resolve_left λe=>?_;have e':k'=0:=by
     rw[ek]
     split
     .exact hk.elim id λq=>q.trans e
     .exact e
    rw[e']at hm;exact bA hm
  have io:Io z:=by
   rcases cZ.mp hm with hm|hm
   .exact rO My (dU _ hm)
   .obtain⟨i,h0,rfl⟩:=wI.mp (sub hm);exact⟨h0,b7 _⟩
  have kn:(if sym z=M sE then nG else k')=nE y:=by
   by_cases s:sym z=M sE
   .rw[aw s,kE s]
   .rw[au s,ek];by_cases i0:i=0
    .subst i0;rw[aw Y];obtain rfl:y=z:=bF hz;exact hk.elim (λe=>e.trans (au s).symm) id
    .rw[au i0]
  refine aiI H x6 m0 m2 J k0 io v3 Y λv' w' k2 b' J' Cc b1 e2 b2=>⟨v',w',k2,b',Y,J',?_,?_,Cc,λe=>?_⟩
  .rw[e2,kn,au (qD i)]
  .rw[e2,kn];have lt:=(cG.mp hz).1
   refine aV lt ?_;rw[ek]
   split
   .rcases hk with rfl|rfl
    .rw[dY,dY];exact gu (b7 _) _
    .exact b8 _
   .exact b8 _
  .have bf:=hb e;by_cases s:sym z=M sE
   .refine(b1 ?_).trans bf;rw[ek]
    split
    .exact e.trans (kE s)
    .exact kE s
   .exact(b2 s).trans bf
 .have i0:i≠0:=λh=>by rw[ll,dY]at e;exact ax (h.symm.trans e) (gZ (dJ (fY _) (mI ..)))
  rw[au i0]at ek;exact aM (kk v w b (aj ek J) v3 hb)
noncomputable def Sx.tl(x:Sx):Sx:=by cases x with|c _ r=>exact r|_=>exact .n
noncomputable def Sx.gG(k:Nat)(x:Sx):Sx:=JR x (λa y=>y.tl) k
variable{c:Nat} {l:Nl} {Q:RQ}
def aiK:kr y++aL.take (nE y)=stI y:=by
 unfold stI nE;refine aq (kr y++·) ?_;by_cases e:sym y=M sE
 .rw[aw e,aw e];exact AJ (by rw[aL,bc,fP];exact b8 _)
 .rw[au e,au e];rfl
def CP(u:Hp)(c:Int)(y:It)(j:Nat)(w:Hp):Prop:=w (34,[j])=M (.l (bu (stI y)))/\w (20,[])=M (.i 6 (aJ F0 37 (.i (c+1))))/\Pw (c+1) w/\∀k l,k≠2->(k,l)≠(20,[])->(k,l)≠(34,[j])->w (k,l)=u (k,l)
section
variable{c:Int} (hh:CP u c y j w)
def CP.aK:=hh.1
def CP.aI:=hh.2.1
def CP.aF:=hh.2.2.1
def CP.aC:=hh.2.2.2
end
def Wt{c:Int}{l:Loc}(H:HL)(My:Mn y)(tb:u (20,[])=M (.i 6 (aJ F0 37 (.i c))))(pw:Pw c u)(NQ:dM l.1 20=Z)(hl:(hp u) l=M (.l (bu (kr y))))(fr:u (34,[j])=U)(q:∀w,CP u c y j w->Q (.e (34,[j])) (hp w) t):bO (n+1) (bS 32) [.e (20,[]),.e l] Q (hp u) t:=by
 obtain⟨m,hm⟩:∃m:Mp,m=λi=>([V.e (20,[]),.e l]++[])[i]?:=⟨_,Y⟩;have m0:m 0=M (.e (20,[])):=ak hm Y
 have m1:m 1=M (.e l):=ak hm Y;refine f9 ags Y ?_;rw[<-hm];refine hM (SJ (re (aG m0) ⟨_,KR tb Y Y,re bG ⟨_,Bx,vW tb Y ?_⟩⟩));have Aj:((hp u).aH (20,[]) (.i 6 (aJ F0 37 (.i (c+1))))) l=M (.l (bu (kr y))):=(aQ (aU NQ)).trans hl
 have zk:(bu (kr y)).length<=10:=by rw[bu,bc];exact aV (gy (by rw[JA,i8])) (NN)
 rw[MV];refine cF (ad0 (re (aG m1) ⟨l,_,Y,Aj,aV zk (ao Y),dQ (34,[j]) Y fr ?_⟩));show WB n _ _ ⟨aJ m 2 (.e (34,[j])),((hp u).aH (20,[]) _).aH (34,[j]) _,t⟩;rw[bJ Y,bJ Y];obtain⟨u1,Im⟩:∃u1,u1=u.aH (20,[]) (.i 6 (aJ F0 37 (.i (c+1)))):=⟨_,Y⟩;rw[<-Im];have x6:u1 (20,[])=M (.i 6 (aJ F0 37 (.i (c+1)))):=ak Im bo
 have S0:CS u1 c y j 0 (u1.aH (34,[j]) (.l (bu (kr y)))):=⟨by rw[JA,i8];exact bo,λp lp=>by refine fH (pw.2 p lp) λg e2 ga go=>?_;refine⟨g,ak Im e2,ga,?_⟩;rw[au λw=>dq 0 (dJ w.1 w.2)];exact go,λk l h1 h2=>aQ h2⟩
 generalize u1.aH (34,[j]) (.l (bu (kr y)))=u2 at S0⊢;refine eZ ql ?_;obtain⟨m',Ip⟩:∃m':Mp,m'=aJ (aJ m 2 (.e (34,[j]))) 3 (.o O):=⟨_,Y⟩;have Nz:m' 0=M (.e (20,[])):=ak Ip m0
 have m2:m' 2=M (.e (34,[j])):=ak Ip Y;show WB n _ _ ⟨aJ (aJ m 2 (.e (34,[j]))) 3 (.o O),hp u2,t⟩;rw[<-Ip,jx (m:=m')];refine wq (λi K=>∃v k b w,K=⟨ba mT v m',hp w,t⟩/\CS u1 c y j k w/\v 3=M (.o b)/\(k=0\/k=nE y)/\(i=2->b=O)/\(i≠2->k=nE y)/\(i=0->b=Z)) ⟨m',0,O,u2,Y,S0,ak Ip Y,.inl Y,λa=>Y,λe=>ax Y e,λe=>pA e Y⟩ λi K J=>?_;obtain⟨v,k,b,w,rfl,S,v3,hk,b2,kn,b0⟩:=J;refine⟨b,fq (aG v3) oI,λe=>?_,λe=>?_⟩
 .refine aiJ H My x6 Nz m2 S hk λv' w' b' S' Cc hb=>?_;by_cases e2:k=nE y
  .refine⟨0,?_,v',nE y,b',w',Y,S',Cc,.inr Y,λq=>pA q.symm Y,λa=>Y,λa=>hb e2⟩;cases i with
   |zero=>exact ax (e.symm.trans (b0 Y)) (λw=>b9 w)
   |succ i=>exact fY i
  .have i2:i=2:=AH λq=>e2 (kn q);exact⟨1,ak i2 (i7 1),v',nE y,b',w',Y,S',Cc,.inr Y,λq=>ax (pb q) (Nat.zero_ne_one),λa=>Y,λq=>ax q Z8⟩
 .obtain rfl:k=nE y:=by refine kn λq=>?_;rw[b2 q]at e;exact b9 e
  refine kc (aG (m2)) (q w ⟨aj aiK S.aI,(S.aC 20 [] (ao Y) (aU Y)).trans x6,⟨yu pw.1 (JG (aas c)),λp lp=>?_⟩,λk l h1 h2 h3=>(S.aC k l h1 h3).trans (ak Im (aQ h2))⟩);refine fH (S.aF p lp) λg e2 ga gm=>?_;refine⟨g,e2,ga,?_⟩
  split at gm
  .exact⟨c+1,Qm _,.inl gm⟩
  .exact gm.imp λo k=>⟨yu k.1 (JG (aas c)),k.2⟩
def aiL(H:HL)(io:∀y∈I,Io y)(z:I.length<=1000)(ne:I≠[])(hl:u (34,l)=M (.l (bu I)))(q:∀w,Q (n4 I) (hp (mix [99] w u)) (t+1)):bO (n+1) (bS 6) [.e (34,l)] Q (hp u) t:=
 aid (λx hx=>have X:=ix H (io x hx);⟨fI x,X.aC,X.bb,X.aF⟩) z ne Y hl λw=>ak (kb (R:=lR) (R':=[99]) Y) (q w)
noncomputable def gk(x:It)(s:aP):V:=V.cq [n4 (stI x),.s s]
def x7(H:HL)(ab:Mn x)(hl:u (34,l)=M (.l (bu (stI x))))(q:∀w,Q (n4 (stI x)) (hp (mix [99] w u)) (t+1)):bO (n+1) (bS 6) [.e (34,l)] Q (hp u) t:=
 aiL H (λy hy=>rO ab hy) (aV rP (ao Y)) Ai hl q
def NR(H:HL)(ab:Mn x)(hl:u (34,l)=M (.l (bu (stI x))))(m1:m 1=M (.e (34,l)))(m2:m 2=M (.s s))(q:∀w,P (gk x s) ⟨m,hp (mix [99] w u),t+1⟩):WE (n+1) (.t (.c (.d 6 (.c (.v 1) .n)) (.c (.v 2) .n))) P ⟨m,hp u,t⟩:=
 KZ (fM (kU (rl (aW (aG m1) bD) ((x7 H ab hl λw=>fM (re (aG m2) (eV ⟨(by decide:2<=16777216),q w⟩))).o))))
def aiM{a b c d:V}(h:V.iG a b=.iG c d):a=c/\b=d:=by cases h;exact⟨Y,Y⟩
def Fx:∀{xs ys:Vs},V.cq xs=V.cq ys->xs=ys:=by
 intro xs
 induction xs with
 |nil=>
  intro ys h;cases ys with
  |nil=>rfl
  |cons y ys=>exact Kc h rfl
 |cons x xs ih=>
  intro ys h;cases ys with
  |nil=>exact Kc h rfl
  |cons y ys=>have h:=aiM (h);rw[h.1,ih h.2]
def lT{a b:Int}(h:V.i a=.i b):a=b:=by
 cases h
 rfl
def Iq{a b:It}(h:fW a=fW b):a=b:=by have h:=Fx h;exact ru (jT (lT (d6 h).1)) (jT (lT (d6 (d6 h).2).1))
def map_inj{f:α->β}(hf:∀a b,f a=f b->a=b):∀{l l':List α},l.map f=l'.map f->l=l':=by
 intro l
 induction l with
 |nil=>
  intro l' h;cases l' with
  |nil=>rfl
  |cons b l'=>exact yE h rfl
 |cons a l ih=>
  intro l' h;cases l' with
  |nil=>exact yE h rfl
  |cons b l'=>rw[hf a b (d6 h).1,ih (d6 h).2]
def Ir(h:n4 I=n4 J):I=J:=map_inj (λa a=>Iq) (Fx h)
def aiN{x':It}(h:gk x s=gk x' s'):x=x'/\s=s':=by have h:=Fx h;exact⟨NL (Ir (d6 h).1),str_inj (d6 (d6 h).2).1⟩
def Ak{d:Nat}:∀{I:List It},(n4 I).cV (d+2)=O/\(n4 I).ja=O:=by
 intro I
 induction I with
 |nil=>exact⟨Y,Y⟩
 |cons a I ih=>
  have k:=ih;have e:n4 (a::I)=.iG (fW a) (n4 I):=Y
  exact aj e ⟨aaY Y k.1 k.2,Y⟩
def NS:(gk x s).cV 7=O:=aaY Ak.1 Y Y
def uQ(u:Hp)(v:V)(L:Vs):Prop:=∃l,v=.e (34,l)/\u (34,l)=M (.l L)
def Al(x:It)(s:aP)(u:Hp)(v:V):Prop:=(∃y,mv x s=M y/\uQ u v (bu (stI y)))\/(mv x s=U/\(uQ u v []\/v=.n))
def Iu(u:Hp)(v:V)(y:It):Prop:=∃l g,v=.e (35,l)/\u (35,l)=M (.d [(.s dP,g)])/\uQ u g (bu (stI y))
def tG(A:It->Prop)(B:V->It->Prop)(u:Hp)(ds:Es):Prop:=∀k v,bI ds k=M v->(k=.s dP/\uQ u v [])\/∃y,k=fW y/\((¬bE y/\(Iu u v y\/B v y))\/(bE y/\A (y.1,y.2-1)))
def Fz(k:Nat)(o:af):Prop:=(k=34/\∃L,o=.l L)\/(k=35/\∃e,o=.d [e])
def fN(w w':Hp):Prop:=∀k l o,Fz k o->w (k,l)=M o->w' (k,l)=M o
def FR(w:Hp):Prop:=∃j0,∀j,j0<=j->w (34,[j])=U/\w (35,[j])=U
structure GC(es:Es)(A:It->Prop)(B:V->It->Prop)(N:Nat)(u:Hp):Prop where
 aC:∃c:Int,u (20,[])=M (.i 6 (aJ F0 37 (.i c)))/\Pw c u
 aI:u (21,[])=M (.d es)
 aK:es.length<=N
 bb:∀s v,bI es (.s s)=M v->∃l ds,v=.e (34,l)/\u (34,l)=M (.d ds)/\ds.length<=N/\tG A B u ds
 aO:∀x s v,bI es (gk x s)=M v->Al x s u v
 aF:FR u
def nB(_:V)(_:It):Prop:=False
variable{w':Hp} {N':Nat} {v:V} {es:Es} {A A':It->Prop} {B B':V->It->Prop}
section
variable{N:Nat} {L:Vs} {ds:Es} {o:af}
def uQ.fR(h:uQ w v L)(p:fN w w'):uQ w' v L:=h.elim λl k=>⟨l,k.1,p 34 l _ (.inl ⟨Y,_,Y⟩) k.2⟩
def Al.fR(h:Al x s w v)(p:fN w w'):Al x s w' v:=h.imp (λq=>q.imp λy k=>⟨k.1,k.2.fR p⟩) λq=>⟨q.1,q.2.imp (·.fR p) id⟩
def Iu.fR(h:Iu w v y)(p:fN w w'):Iu w' v y:=h.imp λl k=>k.imp λg k=>⟨k.1,p 35 l _ (.inr ⟨Y,_,Y⟩) k.2.1,k.2.2.fR p⟩
def tG.fR(h:tG A B w ds)(p:fN w w')(a:∀y,A y->A' y)(b:∀v y,B v y->B' v y):tG A' B' w' ds:=λk v e=>(h k v e).imp (λq=>⟨q.1,q.2.fR p⟩) λq=>q.imp λy q=>⟨q.1,q.2.imp (λr=>⟨r.1,r.2.imp (·.fR p) (b v y)⟩) λr=>⟨r.1,a _ r.2⟩⟩
def GC.cg(C:GC es A B N w)(p:fN w w')(d:∀l ds,w (34,l)=M (.d ds)->ds.length<=N->tG A B w ds->∃rA,w' (34,l)=M (.d rA)/\rA.length<=N'/\tG A' B' w' rA)(ch:w' (21,[])=w (21,[]))(tb:∃c:Int,w' (20,[])=M (.i 6 (aJ F0 37 (.i c)))/\Pw c w')(le:N<=N')(fr:FR w'):GC es A' B' N' w':=
 ⟨tb,ch.trans C.aI,aV C.aK le,λs v e=>by refine rz (C.bb s v e) λl ds e1 e2 e3 e4=>?_;refine oE (d l ds e2 e3 e4) λrA k=>?_;exact⟨l,rA,e1,k⟩,λx s v e=>(C.aO x s v e).fR p,fr⟩
def pn(f:w (34,[j])=U){o':af}(e:w (k,l)=M o'):(w.aH (34,[j]) o) (k,l)=M o':=(aQ λq=>by rw[<-q,e]at f;exact hV f).trans e
def fN.aH{l:Loc}(h:∀o',w l=M o'->¬Fz l.1 o'):fN w (w.aH l o):=λk l' o' f e=>(aQ λq:(k,l')=l=>h o' (aj q e) (aj q f)).trans e
def fN.rM{l:Loc}(h:w l=U):fN w (w.aH l o):=.aH λo' e=>cW (h.symm.trans e)
def fN.tr{Wu:Hp}(p:fN w w')(q:fN w' Wu):fN w Wu:=λk l o f e=>q k l o f (p k l o f e)
def fN.jE:fN w w:=λa a a a e=>e
def FR.aH{l:Loc}(f:FR w):FR (w.aH l o):=f.elim λj0 k=>⟨max j0 (l.2.headD 0+1),λj h=>by
 have ne:∀r,(r,[j])≠l:=λr e=>dq j (by rw[<-e]at h;exact aV (aoV j0 (j+1)) h)
 have q:=k j (aV (ao5 ..) h);exact⟨(aQ (ne 34)).trans q.1,(aQ (ne 35)).trans q.2⟩⟩
def GC.rM(C:GC es A B N w)(f:w (34,[j])=U):GC es A B N (w.aH (34,[j]) o):=C.cg (.rM f) (λl ds e z k=>⟨ds,pn f e,z,k.fR (.rM f) (λa h=>h) λa a h=>h⟩) Y C.aC (b8 _) C.aF.aH
def GC.Wv{dn wK:Es}(C:GC es A B N w)(hd:w (34,l)=M (.d dn))(a:∀y,A y->A' y)(b:∀v y,B v y->B' v y)(le:N<=N')(k:tG A' B' w wK)(z:wK.length<=N'):GC es A' B' N' (w.aH (34,l) (.d wK))/\fN w (w.aH (34,l) (.d wK)):=by
 have p:fN w (w.aH (34,l) (.d wK)):=.aH λo' e f=>by rw[hd]at e;obtain rfl:=bF e;exact f.elim (λf=>f.2.elim λL q=>yF (aq M q) Y) λf=>ax f.1 (show¬34=35 by decide)
 refine⟨C.cg p (λl' ds e z' k'=>?_) Y C.aC le C.aF.aH,p⟩;by_cases c:(34,l')=(34,l)
 .rw[c];exact⟨wK,bo,z,k.fR p (λg h=>h) λg g h=>h⟩
 .exact⟨ds,(aQ c).trans e,aV z' le,k'.fR p a b⟩
def GC.nd(C:GC es A B N w)(f:∀o',w (35,l)=M o'->¬Fz 35 o'):GC es A B N (w.aH (35,l) o):=C.cg (.aH f) (λl' ds e z k=>⟨ds,e,z,k.fR (.aH f) (λa h=>h) λa a h=>h⟩) Y C.aC (b8 _) C.aF.aH
def GC.bU(C:GC es A B N w)(a:∀y,A y->A' y)(b:∀v y,B v y->B' v y)(le:N<=N'):GC es A' B' N' w:=C.cg .jE (λl ds e z k=>⟨ds,e,aV z le,k.fR .jE a b⟩) Y C.aC le C.aF
end
noncomputable abbrev fe:Nl:=[2,20,21,34,35,99]
noncomputable abbrev gV:Nl:=[3,4,5,6,7,8]
def GR(es:Es)(A:It->Prop)(N:Nat)(u:Hp)(x:It)(s:aP)(dA:Es)(A':It->Prop)(B:V->It->Prop)(N':Nat)(w:Hp):Prop:=GC dA A' B N' w/\fN u w/\(∀k,bI es k≠U->bI dA k≠U)/\(∀y,A' y->A y\/(y=x/\s=sE))/\N'<=N+4
section
variable{N:Nat} {dA:Es} (hh:GR es A N u x s dA A' B N' w)
def GR.aC:=hh.1
def GR.aF:=hh.2.1
def GR.aI:=hh.2.2.1
def GR.aK:=hh.2.2.2.1
def GR.aO:=hh.2.2.2.2
end
structure GX where
 n:Nat
 u:Hp
 t:Nat
 Q:RQ
 x:It
 s:aP
 l:Nl
 es:Es
 A:It->Prop
 N:Nat
def mV(x:GX):Prop:=HL/\GC x.es x.A nB x.N x.u/\Mn x.x/\x.u (34,x.l)=M (.l (bu (stI x.x)))/\x.N<=16000000/\(bI x.es (gk x.x x.s)=U->x.s=sE->¬x.A x.x)/\∀v dA A' N' w t',GR x.es x.A x.N x.u x.x x.s dA A' nB N' w->Al x.x x.s w v->bI dA (gk x.x x.s)≠U->x.Q v (hp (mix fe w x.u)) t'
section
variable{x:GX} (hh:mV x)
def mV.aF:=hh.1
def mV.bz:=hh.2.1
def mV.aC:=hh.2.2.1
def mV.aK:=hh.2.2.2.1
def mV.aI:=hh.2.2.2.2.1
def mV.bb:=hh.2.2.2.2.2.1
def mV.aO:=hh.2.2.2.2.2.2
end
def Ww(x:GX):Prop:=bO (x.n+3) (bS 33) [.e (20,[]),.e (34,x.l),.s x.s] x.Q (hp x.u) x.t
def gx:GX:=uP ⟨0,λa=>U,0,λa a a=>True,(0,0),dC,[],[],λa=>True,0⟩ mV Ww
def gM:Mp:=λi=>([V.e (20,[]),.e (34,gx.l),.s gx.s]++[])[i]?
abbrev qy(dA:Es)(A':It->Prop)(B:V->It->Prop)(N':Nat)(w:Hp):Prop:=GR gx.es gx.A gx.N gx.u gx.x gx.s dA A' B N' w
abbrev mW(v:Mp)(w:Hp)(t:Nat):AS:=⟨ba gV v gM,hp (mix fe w gx.u),t⟩
abbrev gT(k:Nat):Sx:=Sx.gG k U0
abbrev gK:List It:=K1 (stI gx.x) gx.s
variable{v:Mp} {g:V} {lg lg':Loc}
section
variable{dn:Es} {N:Nat}
def wL{x y:V}{N:Nat}(h:es.length<=N):(cX es x y).length<=N+1:=aV Kr (j3 h)
def aiO:hp (mix [99] w' (mix fe w gx.u))=hp (mix fe (mix [99] w' w) gx.u):=aq hp (kb Y)
def GC.tm(C:GC es A B N w)(w':Hp):GC es A B N (mix [99] w' w):=⟨C.aC,C.aI,C.aK,λs v e=>by
 refine xl (C.bb s v e) λl ds k=>?_;exact⟨l,ds,k.1,k.2.1,k.2.2.1,k.2.2.2.fR (λk l o f e=>by
  rcases f with⟨rfl,_⟩|⟨rfl,_⟩<;>exact e) (λa h=>h) λa a h=>h⟩,λx s v e=>(C.aO x s v e).fR λk l o f e=>by
  rcases f with⟨rfl,_⟩|⟨rfl,_⟩<;>exact e,C.aF⟩
def fN.tm(p:fN gx.u w)(w':Hp):fN gx.u (mix [99] w' w):=p.tr λk l o f e=>by rcases f with⟨rfl,_⟩|⟨rfl,_⟩<;>exact e
def GR.tm(C:qy es A B N w)(w':Hp):qy es A B N (mix [99] w' w):=⟨C.aC.tm w',C.aF.tm w',C.aI,C.aK,C.aO⟩
def Wx:gk x s≠.s a:=λq=>by cases(q)
def NT(H:mV gx)(R:qy es A nB N w)(zN:N<=gx.N+3)(v3:v 3=M g)(a:Al gx.x gx.s w g):WB (gx.n+2) (gT 8) (Rt gx.Q) (mW v w t):=by
 refine hM (uv (re (aG v3) (re (ra (aG Y) R.aC.aC.choose_spec.1 Y Y) (NR H.aF H.aC (R.aF _ _ _ (.inl ⟨Y,_,Y⟩) H.aK) Y Y λw'=>vV R.aC.aI NS (bM R.aC.aK (bM zN (bM (pW H.aI 3) (ao Y)))) ?_))));have R:=R.tm w'
 have a:=a.fR (w':=mix [99] w' w) λk l o f e=>by rcases f with⟨rfl,_⟩|⟨rfl,_⟩<;>exact e
 rw[aiO];show WB _ _ _ ⟨_,(hp (mix fe (mix [99] w' w) gx.u)).aH (21,[]) _,_⟩;rw[bJ Y,bJ Y];generalize mix [99] w' w=w at R a⊢;have p:∀{o},fN w (w.aH (21,[]) o):=λk l o f e=>by rcases f with⟨rfl,_⟩|⟨rfl,_⟩<;>exact e
 refine kc (aG v3) (H.aO _ (cX es (gk gx.x gx.s) g) A (N+1) _ _ ⟨⟨R.aC.aC,bo,wL R.aC.aK,λs v e=>?_,λx s v e=>?_,R.aC.aF⟩,R.aF.tr p,λk hk=>?_,R.aK,j3 zN⟩ (a.fR p) ?_)
 .rw[rJ Wx]at e;exact(R.aC.bb s v e).imp λl q=>q.imp λds q=>⟨q.1,q.2.1,jZ q.2.2.1,q.2.2.2.fR p (λb h=>h) λb b h=>h⟩
 .by_cases c:gk gx.x gx.s=gk x s
  .obtain⟨rfl,rfl⟩:=aiN c;rw[wy]at e;exact aj (bF e) (a.fR p)
  .rw[rJ c]at e;exact(R.aC.aO x s v e).fR p
 .by_cases c:gk gx.x gx.s=k
  .rw[<-c,wy];exactλq=>hV q
  .rw[rJ c];exact R.aI k hk
 .rw[wy];exactλq=>hV q
def Wy:V.s dP≠fW y:=λq=>by cases(q)
end
def gA(z:It):Prop:=gx.A z\/(z=gx.x/\gx.s=sE)
def gB(l:Nl)(v:V)(y:It):Prop:=v=.e (35,l)/\mv gx.x gx.s=M y/\gx.s≠sE
variable{c:Int} {w2:Hp} {l':Nl}
section
variable{dn:Es} {N:Nat}
def CP.gc(P:CP w c y j w2)(f:w (34,[j])=U)(C:GC es A B N w):GC es A B N w2/\fN w w2:=by
 have nj:∀{l o},w (34,l)=M o->((34,l))≠(34,[j]):=λe q=>by rw[q,f]at e;exact cW e
 have p:fN w w2:=λk l o fz e=>by
  rcases fz with⟨rfl,_⟩|⟨rfl,_⟩
  .exact(P.aC 34 l (ao Y) (aU Y) (nj e)).trans e
  .exact(P.aC 35 l (ao Y) (aU Y) (aU Y)).trans e
 refine⟨C.cg p (λl ds e z k=>⟨ds,(P.aC 34 l (ao Y) (aU Y) (nj e)).trans e,z,k.fR p (λa h=>h) λa a h=>h⟩) (P.aC 21 [] (ao Y) (aU Y) (aU Y)) ⟨_,P.aI,P.aF⟩ (b8 _) ?_,p⟩;refine oE C.aF λj0 k=>?_;refine⟨max j0 (j+1),λi h=>?_⟩;have q:=k i (aV (ao5 ..) h)
 have ne:[i]≠[j]:=λe=>dq j (Jr (aV (aoV j0 (j+1)) h) (d6 e).1);exact⟨(P.aC 34 [i] (ao Y) (aU Y) λe=>ne (cP e).2).trans q.1,(P.aC 35 [i] (ao Y) (aU Y) (aU Y)).trans q.2⟩
def Wz(h:gK≠[]):∃y,mv gx.x gx.s=M y:=by
 unfold mv;cases e:K1 (stI gx.x) gx.s with
 |nil=>exact ax e h
 |cons y r=>exact⟨y,Y⟩
def Fy(h:I≠[]):(!(bu I).isEmpty)=O:=by
 cases I with
 |nil=>exact ax Y h
 |cons _ _=>rfl
def aiP(H:mV gx)(R:qy es A nB (gx.N+2) w)(v4:v 4=M (.e (34,l')))(v5:v 5=M (.e (34,l)))(hl:w (34,l)=M (.l []))(e0:mv gx.x gx.s=U)(hd:w (34,l')=M (.d dn))(zd:dn.length<=gx.N+2)(ke:tG A nB w dn):WB (gx.n+2) (gT 6) (Rt gx.Q) (mW v w t):=by
 have fal:∃g,(bI dn (.s dP)).getD .n=g/\(uQ w g []\/g=.n):=by
  cases hk:bI dn (.s dP)with
  |none=>exact⟨_,Y,.inr Y⟩
  |some g=>exact⟨_,Y,(ke _ g hk).elim (λq=>.inl q.2) λq=>q.elim λy q=>ax q.1 Wy⟩
 refine bT fal λg eg fg=>?_;refine cF (iT (re (aG v4) ⟨_,kX hd,rl (aW (x:=.s dP) bW bD) (sS hd Y ?_)⟩));rw[eg];show WB _ _ _ ⟨aJ (ba gV v gM) 3 g,_,t⟩;rw[bZ Y];have tf:Tr (mW (aJ v 3 g) w t) g Z:=fg.elim (λq=>q.elim λl q=>ak q.1 (sQ (vs:=[]) q.2)) λq=>ak q sO
 refine gN (kF (fq (aG Y) tf)) (eC (fq (aG v5) (sQ (vs:=[]) hl)) (wo (aG v5) (aG v4) bW hd Y (bM zd (bM (pW H.aI 2) (ao Y))) (aM (aM ?_))));show WB _ _ _ ⟨_,(hp (mix fe w gx.u)).aH (34,l') _,t⟩;rw[bJ Y,bJ Y];have D:=R.aC.Wv hd (λa h=>h) (λa a h=>h) (l7 _) (λk v e=>by
  by_cases q:V.s dP=k
  .rw[<-q,wy]at e;exact .inl ⟨q.symm,l,(bF e).symm,hl⟩
  .rw[rJ q]at e;exact ke k v e) (wL zd)
 exact NT H ⟨D.1,R.aF.tr D.2,R.aI,R.aK,l7 _⟩ (b8 _) Y (.inr ⟨e0,fg.imp (·.fR D.2) id⟩)
def aiR(H:mV gx)(R:qy es A (gB l) (gx.N+2) w)(v4:v 4=M (.e (35,l)))(v5:v 5=M (.e lg))(NQ:dM lg.1 20=Z)(hg:(hp (mix fe w gx.u)) lg=M (.l (bu gK)))(e0:mv gx.x gx.s=M y)(hd:w (35,l)=M (.d [])):WB (gx.n+2) (gT 6) (Rt gx.Q) (mW v w t):=by
 refine qG (Fu H.aC e0) λMy eK a=>?_;have hg:=(aq (λI=>M (af.l (bu I))) eK)▸hg
 refine cF (iT (re (aG v4) ⟨_,kX hd,rl (aW bW bD) (sS hd Y ?_)⟩));show WB _ _ _ ⟨aJ (ba gV v gM) 3 .n,_,t⟩;rw[bZ Y];refine oE R.aC.aF λj fj=>?_;have fj:=(fj j (b8 _)).1
 refine bT R.aC.aC λc tb pw=>?_;refine gN (kF (fq (aG Y) sO)) (gN (aj (Fy (ZU _ _)) (fq (aG v5) (sQ hg))) (cF (jw (re (aG Y) ⟨_,kW tb Y Y,rl (aW (aG v5) bD) ((Wt (u:=mix fe w gx.u) H.aF My tb pw NQ hg fj λw3 P=>?_).o)⟩))));show WB _ _ _ ⟨aJ (ba gV (aJ v 3 .n) gM) 3 _,hp w3,t⟩;rw[bZ Y];obtain⟨w2,FA⟩:∃w2,w2=mix fe w3 w:=⟨_,Y⟩;have e3:w3=mix fe w2 gx.u:=by
  funext l
  rw[FA];unfold mix;by_cases q:fe.contains l.1=O
  .rw[q];rfl
  .rw[nz.mpr q];have nc:∀k,fe.contains k=O->l.1≠k:=λk h e=>q (ak e h)
   refine(P.aC l.1 l.2 (nc 2 Y) (λe=>nc 20 Y (cP e).1) λe=>nc 34 Y (cP e).1).trans ?_;show(bif fe.contains l.1 then _ else _)=_;rw[nz.mpr q];rfl
 have P:CP w c y j w2:=by
  refine⟨ak FA P.aK,ak FA P.aI,ak FA P.aF,λk l h1 h2 h3=>?_⟩;rw[FA];have o:=P.aC k l h1 h2 h3
  unfold mix at o⊢;by_cases q:fe.contains k=O
  .rw[show fe.contains ((k,l)).1=O from q]at o⊢
   exact o
  .rw[show fe.contains ((k,l)).1=Z from nz.mpr q];rfl
 rw[e3];refine oA (P.gc fj R.aC) λC2 p2=>?_;have e2:=P.aK
 have d2:=(P.aC 35 l (ao Y) (aU Y) (aU Y)).trans hd;refine wo (aG Y) (aG v4) bW d2 Y (ao Y) (aM (aM ?_));show WB _ _ _ ⟨_,(hp (mix fe w2 gx.u)).aH (35,l) (.d [(.s dP,.e (34,[j]))]),t⟩;rw[bJ Y,bJ Y];have nf:∀o',w2 (35,l)=M o'->¬Fz 35 o':=λo' e f=>by
  rw[d2]at e;obtain rfl:=bF e;rcases f with⟨h,_⟩|⟨_,e,h⟩
  .exact ax h (ao Y)
  .cases h
 have p3:fN w2 (w2.aH (35,l) (.d [(.s dP,.e (34,[j]))])):=.aH nf;refine NT H ⟨C2.cg p3 (λl' ds e z k=>⟨ds,e,jZ z,λx v e=>(k x v e).imp (λq=>⟨q.1,q.2.fR p3⟩) λq=>q.imp λz q=>⟨q.1,q.2.imp (λr=>⟨r.1,.inl (r.2.elim (·.fR p3) λb=>?_)⟩) id⟩⟩) Y C2.aC (l7 _) C2.aF.aH,(R.aF.tr p2).tr p3,R.aI,R.aK,l7 _⟩ (b8 _) Y (.inl ⟨y,e0,[j],Y,e2⟩);obtain⟨rfl,e,_⟩:=b;obtain rfl:=bF (e0.symm.trans e);exact⟨l,_,Y,bo,[j],Y,e2⟩
def aiS(H:mV gx)(R:qy es A nB (gx.N+2) w)(v4:v 4=M (.e (35,l)))(e0:mv gx.x gx.s=M y)(hd:w (35,l)=M (.d [(.s dP,g)]))(hg:uQ w g (bu (stI y))):WB (gx.n+2) (gT 6) (Rt gx.Q) (mW v w t):=by
 obtain⟨l2,rfl,h2⟩:=hg;refine cF (iT (re (aG v4) ⟨_,kX hd,rl (aW (x:=.s dP) bW bD) (sS hd Y ?_)⟩));show WB _ _ _ ⟨aJ (ba gV v gM) 3 _,_,t⟩;rw[show bI [(V.s dP,V.e (34,l2))] (.s dP)=M (.e (34,l2)) from aw Y,bZ Y]
 have R':qy es A nB (gx.N+3) w:=⟨R.aC.bU (λa h=>h) (λa a h=>h) (l7 _),R.aF,R.aI,R.aK,l7 _⟩;exact eC (kF (fq (aG Y) (Fy Ai▸sQ h2))) (aM (NT H R' (b8 _) Y (.inl ⟨y,e0,l2,Y,h2⟩)))
end
inductive GJ(L:List It)(v:Mp)(w:Hp):Prop
 |r {es dn:Es} {l:Nl}:qy es gA nB (gx.N+2) w->K1 L gx.s=[]->v 4=M (.e (34,l))->w (34,l)=M (.d dn)->dn.length<=gx.N+1->tG gx.A nB w dn->GJ L v w
 |n {es:Es} {l:Nl}:qy es gA (gB l) (gx.N+2) w->K1 L gx.s≠[]->v 4=M (.e (35,l))->w (35,l)=M (.d [])->GJ L v w
 |o {es:Es} {l:Nl} {g:V} {y:It}:qy es gA nB (gx.N+2) w->K1 L gx.s≠[]->gx.s≠sE->v 4=M (.e (35,l))->w (35,l)=M (.d [(.s dP,g)])->mv gx.x gx.s=M y->uQ w g (bu (stI y))->GJ L v w
def GI(lg:Loc)(L:List It)(v:Mp)(w:Hp):Prop:=GJ L v w/\v 5=M (.e lg)/\(hp (mix fe w gx.u)) lg=M (.l (bu (K1 L gx.s)))
section
variable{L:List It} (hh:GI lg L v w)
def GI.aI:=hh.1
def GI.aF:=hh.2.1
def GI.aC:=hh.2.2
end
variable{Q:QF}
section
variable{dn:Es} {L I2:List It}
def aiT(H:HL)(i:Io y)(m7:m 7=M (Ab y.1 y.2))(m2:m 2=M (.s s)):RT ⟨m,hp u,t⟩ (.fJ O (.c (.l (.v 7)) (.c (.m .Eq (.a (.v 7) 29) (.v 2)) .n))) (decide (sym y=M s)):=by
 cases hs:sym y with
 |none=>exact aj (aA (λe:U=M s=>cW e)) (Bt λn P q=>xJ (fq (aG (m7.trans (aq M (au (iP.mpr (jj.mp hs)))))) sO) q)
 |some s'=>
  have X:=ix H (Wq i hs);have m7:=m7.trans (aq M (aw (cG.mp hs).1))
  rw[show decide (M s'=M s)=(O&&decide (s'=s)) from decide_eq_decide.mpr ⟨bF,aq M⟩]
  exact uL (fq (aG m7) (Sj X.aC)) (my (ra (aG m7) X.aC Y (X.iL s' (fY _) hs)) (aG m2))
def aiU(ab:Mn gx.x)(n:gx.s≠sE):gK.length<=1:=by
 cases h:mv gx.x gx.s with
 |none=>rw[gK,NJ h];exact b7 _
 |some y=>refine uf (Fu ab h) λa e b a=>?_;rw[gK,e,B8 λq=>n (b.mp q)];exact b8 _
def aiV(H:mV gx)(J:GI lg L v w)(nv:gx.s=sE->gK≠[]->¬gx.A gx.x)(lk:gK≠[]->∃k,lg=(99,k))(eI:stI gx.x=L++y::I2)(v6:v 6=M (.e (5,[y.1,y.2])))(k:∀v' w',GI lg (L++[y]) v' w'->Q .n (mW v' w' t)):WB n MH Q (mW v w t):=by
 have ym:=eI▸dI _ (.head _);have i:=rO H.aC ym
 have X:=ix H.aF i;have NU:K1 (L++[y]) gx.s=K1 L gx.s++if sym y=M gx.s then [(y.1,y.2+1)]else []:=Wn.trans (aq _ uN)
 have zK:(K1 L gx.s).length<=1000:=by refine aV (CT ..) (aV ?_ (aV (rP (x:=gx.x)) (ao Y)));rw[eI,dY];exact mI ..
 refine eZ (ra (aG v6) X.aC Y X.j9) ?_;show WB n _ _ ⟨aJ (ba gV v gM) 7 _,_,t⟩;rw[bZ Y];refine jd (aiT H.aF i Y Y) (λhs=>?_) λhs=>aM (aM (k _ w ?_))
 .have kn:=Wm ym hs;have ne:=List.ne_nil_of_mem kn
  obtain⟨kk,rfl⟩:=lk ne;have Xn:=ix H.aF (Wq i hs)
  have v7:aJ v 7 (Ab y.1 y.2) 7=M (.e (5,[y.1,y.2+1])):=aq M (aw (cG.mp hs).1);have v5:aJ v 7 (Ab y.1 y.2) 5=M (.e (99,kk)):=J.aF
  have v4:aJ v 7 (Ab y.1 y.2) 4=v 4:=Y;generalize aJ v 7 _=v' at v7 v5 v4⊢;have rk:∀{m u},m 7=M (.e (5,[y.1,y.2+1]))->RE ⟨m,hp u,t⟩ (.t (.c (.a (.v 7) 2) (.c (.a (.v 7) 13) .n))) (fW (y.1,y.2+1)):=λe=>jG (aW (ra (aG e) Xn.aC Y Xn.bb) (aW (ra (aG e) Xn.aC Y Xn.aF) bD)) (by decide:2<=16777216)
  have Ig:K1 (L++[y]) gx.s≠[]:=by rw[NU,aw hs];exact List.append_ne_nil_of_right_ne_nil _ (ZU _ _)
  have WD:∀{w2:Hp},(w2.aH (99,kk) (.l (bu (K1 L gx.s)++[.e (5,[y.1,y.2+1])]))) (99,kk)=M (.l (bu (K1 (L++[y]) gx.s))):=by rw[NU,aw hs];exact bo.trans (aq (λx=>M (af.l x)) (Ws (x:=(y.1,y.2+1))))
  have one:=λc=>AH λn=>by have z:=aiU H.aC n;rw[gK,eI,Wn,uN,aw hs,dY]at z;exact ax (aV (ri (ZD.mpr c) (j3 (b7 _))) z) (ao Y)
  obtain⟨em,hm⟩:∃y0,mv gx.x gx.s=M y0:=Wz ne;have go:∀r {l es dn j},fe.contains r=O->lR.contains r=O->((r,l))≠(99,kk)->((r,l))≠(35,[j])->v' 4=M (.e (r,l))->(hp (mix fe w gx.u)) (r,l)=M (.d dn)->dn.length<=gx.N+1->w (35,[j])=U->bI dn (fW (y.1,y.2+1))=U->qy es gA (gB [j]) (gx.N+2) ((w.aH (35,[j]) (.d [])).aH (r,l) (.d (cX dn (fW (y.1,y.2+1)) (.e (35,[j])))))->WB n (.c (.g (.v 8) (.cD .g (.v 4) (.c (.t (.c (.a (.v 7) 2) (.c (.a (.v 7) 13) .n))) .n))) (.c (.i (.o (.l (.v 8))) (.c (.g (.v 8) (.xB .n)) (.c (.aaE (.v 4) (.t (.c (.a (.v 7) 2) (.c (.a (.v 7) 13) .n))) (.v 8)) .n)) .n) (.c (.e (.cD .a (.v 5) (.c (.v 7) .n))) (.c (.g (.v 4) (.v 8)) .n)))) (Nx n .n Q) (mW v' w t):=λr l es dn j c1 c2 n99 FC e4 hd zd fj no R'=>by
   refine cF (iT (re (aG e4) ⟨_,kX hd,rl (aW (rk v7) bD) (sS hd Y ?_)⟩));rw[no];show WB n _ _ ⟨aJ (ba gV v' gM) 8 .n,_,t⟩;rw[bZ Y];refine gN (kF (fq (aG Y) sO)) (cF (mO (dQ (35,[j]) Y fj ?_)));show WB n _ _ ⟨aJ (ba gV (aJ v' 8 .n) gM) 8 (.e (35,[j])),(hp (mix fe w gx.u)).aH (35,[j]) (.d []),t⟩;have hd2:(hp (mix fe (w.aH (35,[j]) (.d [])) gx.u)) (r,l)=M (.d dn):=by show mix lR (mix fe (w.aH (35,[j]) (.d [])) gx.u) hL (r,l)=_;rw[<-bJ Y,<-bJ Y];exact(aQ FC).trans hd
   rw[bZ Y,bJ Y,bJ Y];refine wo (aG Y) (aG e4) (rk v7) hd2 Y (bM zd (bM (pW H.aI 1) (ao Y))) (aM (Fc (aG v5) (aG v7) (show 99≠0 by decide) ((aQ n99.symm).trans J.aC) (by rw[bu,bc];exact bM zK (ao Y)) (eZ (aG Y) (aM (aM ?_)))))
   show Q .n ⟨aJ (ba gV _ gM) 4 _,((hp (mix fe (w.aH (35,[j]) (.d [])) gx.u)).aH (r,l) _).aH (99,kk) _,t⟩;rw[bZ Y,bJ c2,bJ (R:=fe) c1,bJ Y,bJ Y];exact k _ _ ⟨.n ⟨R'.aC.cg (λk l o f e=>by rcases f with⟨rfl,_⟩|⟨rfl,_⟩<;>exact e) (λl ds e z k=>⟨ds,e,z,k.fR (λk l o f e=>by rcases f with⟨rfl,_⟩|⟨rfl,_⟩<;>exact e) (λp h=>h) λp p h=>h⟩) Y R'.aC.aC (b8 _) R'.aC.aF.aH,R'.aF.tr λk l o f e=>by rcases f with⟨rfl,_⟩|⟨rfl,_⟩<;>exact e,R'.aI,R'.aK,R'.aO⟩ Ig rfl ((aQ FC.symm).trans bo),v5,WD⟩
  cases J.aI with
  |@r es dn l R c e4 hd zd ke=>
   refine oE R.aC.aF λj fj=>?_;have fj:=(fj j (b8 _)).2
   cases hk:bI dn (fW (y.1,y.2+1))with
   |none=>
    have C0:GC es gA nB (gx.N+2) (w.aH (35,[j]) (.d [])):=R.aC.nd λo' e=>cW (fj.symm.trans e);have p0:fN w (w.aH (35,[j]) (.d [])):=.rM fj
    have D:=C0.Wv (B':=gB [j]) hd (λp h=>h) (λp p h=>h.elim) (b8 _) (λk v e=>by
     by_cases q:fW (y.1,y.2+1)=k
     .refine .inr ⟨_,q.symm,?_⟩;rw[<-q,wy]at e;by_cases b:gx.s=sE
      .obtain⟨ea,rfl⟩:sym gx.x=M sE/\gx.x=y:=by
        rw[b]at hm;have ea:=(Fv H.aC hm).1
        refine⟨ea,?_⟩;cases L with
        |nil=>exact(d6 eI).1
        |cons z L=>obtain rfl:gx.x=z:=(d6 eI).1;rw[uN,b,aw ea]at c;exact yE c Y
       exact .inr ⟨⟨fY _,ea⟩,.inr ⟨Y,b⟩⟩
      .have nb:¬bE (y.1,y.2+1):=λq=>b (bF (hs.symm.trans q.2));exact .inl ⟨nb,.inr ⟨(bF e).symm,tF H.aC ym hs b,b⟩⟩
     .rw[rJ q]at e;exact(ke.fR p0 (λp h=>.inl h) (λp p h=>h.elim)) k v e) (wL zd)
    exact go 34 Y Y (aU Y) (aU Y) (v4.trans e4) hd zd fj hk ⟨D.1,(R.aF.tr p0).tr D.2,R.aI,R.aK,R.aO⟩
   |some v1=>
    rcases ke _ v1 hk with q|⟨z,ez,q⟩
    .exact ax q.1.symm Wy
    .obtain rfl:=Iq ez;rcases q with⟨nb,q⟩|⟨b,q⟩
     .obtain⟨l1,g1,rfl,h1,h2⟩:=q.resolve_right λh=>h;have nE:=λe=>nb ⟨fY _,hs.trans (aq M e)⟩
      refine cF (iT (re (aG (v4.trans e4)) ⟨_,kX hd,rl (aW (rk v7) bD) (sS hd Y ?_)⟩));rw[hk];show WB n _ _ ⟨aJ (ba gV v' gM) 8 (.e (35,l1)),_,t⟩;rw[bZ Y];refine eC (kF (fq (aG Y) (Ep (es:=[(.s dP,g1)]) h1))) (aM (Fc (aG v5) (aG v7) (show 99≠0 by decide) J.aC (by rw[bu,bc];exact bM zK (ao Y)) (eZ (aG Y) (aM (aM ?_)))))
      show Q .n ⟨aJ (ba gV _ gM) 4 _,(hp (mix fe w gx.u)).aH (99,kk) _,t⟩;rw[bZ Y,bJ Y,bJ Y];have p9:∀{o},fN w (w.aH (99,kk) o):=λk l o f e=>by rcases f with⟨rfl,_⟩|⟨rfl,_⟩<;>exact e
      exact k _ _ ⟨.o ⟨R.aC.cg p9 (λl ds e z k=>⟨ds,e,z,k.fR p9 (λp h=>h) λp p h=>h⟩) Y R.aC.aC (b8 _) R.aC.aF.aH,R.aF.tr p9,R.aI,R.aK,R.aO⟩ Ig nE Y h1 (tF H.aC ym hs nE) (h2.fR p9),v5,WD⟩
     .exfalso;have e:=bF (hs.symm.trans b.2)
      rw[e]at hm;have ea:=(Fv H.aC hm).1
      cases L with
      |nil=>obtain rfl:gx.x=y:=(d6 eI).1;exact nv e ne q
      |cons z L=>obtain rfl:gx.x=z:=(d6 eI).1;rw[uN,e,aw ea]at c;exact yE c rfl
  |@n es l R c e4 hd=>
   refine oE R.aC.aF λj fj=>?_;have fj:=(fj j (b8 _)).2
   have eE:=one c;have C0:GC es gA (gB l) (gx.N+2) (w.aH (35,[j]) (.d [])):=R.aC.nd λo' e=>cW (fj.symm.trans e)
   have FC:((35,l))≠(35,[j]):=λq=>by rw[q,fj]at hd;exact cW hd
   have GD:(w.aH (35,[j]) (.d [])) (35,l)=M (.d []):=(aQ FC).trans hd;have nf:∀o',(w.aH (35,[j]) (.d [])) (35,l)=M o'->¬Fz 35 o':=λo' e f=>by
    rw[GD]at e;obtain rfl:=bF e;rcases f with⟨h,_⟩|⟨_,e,h⟩
    .exact ax h (ao Y)
    .cases h
   exact go 35 Y Y (aU Y) FC (v4.trans e4) hd (b7 _) fj Y ⟨(C0.nd nf).bU (λp h=>h) (λp p h=>ax eE h.2.2) (b8 _),(R.aF.tr (.rM fj)).tr (.aH nf),R.aI,R.aK,R.aO⟩
  |o R c n=>exact ax (one c) n
 .have e:K1 (L++[y]) gx.s=K1 L gx.s:=by rw[NU,au hs,i8]
  refine⟨?_,J.aF,ak e J.aC⟩;cases J.aI with
  |r R c e4 hd zd ke=>exact .r R (e.trans c) e4 hd zd ke
  |n R c e4 hd=>exact .n R (ak e c) e4 hd
  |o R c n e4 hd e0 hg=>exact .o R (ak e c) n e4 hd e0 hg
end
section
variable{dn:Es}
def aiY(H:mV gx)(J:GI lg [] v w)(nv:gx.s=sE->gK≠[]->¬gx.A gx.x)(lk:gK≠[]->∃k,lg=(99,k))(lk0:gK=[]->∃k,lg=(34,k)):WB (gx.n+2) (gT 5) (Rt gx.Q) (mW v w t):=by
 refine iW (bu (stI gx.x)) (λj K=>∃v w,K=mW v w t/\GI lg ((stI gx.x).take j) v w) (aG Y) (λj K J=>?_) ⟨v,w,Y,J⟩ (λj y K hy J=>?_) λK J=>?_
 .obtain⟨v,w,rfl,J⟩:=J;have p:fN gx.u w:=by cases J.aI with
   |r R=>exact R.aF
   |n R=>exact R.aF
   |o R=>exact R.aF
  exact p 34 gx.l _ (.inl ⟨Y,_,Y⟩) H.aK
 .obtain⟨v,w,rfl,J⟩:=J;obtain⟨y,hz,rfl⟩:=d7 hy;show WB (gx.n+2) MH _ ⟨aJ (ba gV v gM) 6 _,hp (mix fe w gx.u),t⟩;rw[bZ Y];have eI:stI gx.x=(stI gx.x).take j++y::(stI gx.x).drop (j+1):=by rw[<-List.drop_eq_getElem_cons (cG.mp hz).1|>.trans (aq (·::_) (cG.mp hz).2),PN]
  refine aiV H ⟨?_,J.aF,J.aC⟩ nv lk eI Y λv' w' J'=>⟨v',w',Y,by rw[take_snoc hz];exact J'⟩
  cases J.aI with
  |r R c e4 hd zd ke=>exact .r R c e4 hd zd ke
  |n R c e4 hd=>exact .n R c e4 hd
  |o R c n e4 hd e0 hg=>exact .o R c n e4 hd e0 hg
 .obtain⟨v,w,rfl,J⟩:=J;rw[bu,bc,iu]at J;cases J.aI with
  |r R c e4 hd zd ke=>
   obtain⟨k,rfl⟩:=lk0 c;have e0:=aq List.head? c
   exact aiP H R e4 J.aF ((J.aC).trans (aq (λI=>M (af.l (bu I))) c)) e0 hd (jZ zd) (ke.fR .jE (λa h=>.inl h) λa a h=>h)
  |n R c e4 hd=>obtain⟨k,rfl⟩:=lk c;obtain⟨y,e0⟩:=Wz c;exact aiR H R e4 J.aF Y J.aC e0 hd
  |o R c n e4 hd e0 hg=>exact aiS H R e4 e0 hd hg
def WG(H:mV gx)(R:qy es gx.A nB (gx.N+1) w)(nv:gx.s=sE->gK≠[]->¬gx.A gx.x)(v4:v 4=M (.e (34,l)))(hd:w (34,l)=M (.d dn))(zd:dn.length<=gx.N+1)(ke:tG gx.A nB w dn):WB (gx.n+2) (gT 4) (Rt gx.Q) (mW v w t):=by
 have go:∀lg w' t',((gK≠[]->∃k,lg=(99,k))/\(gK=[]->∃k,lg=(34,k)))->GC es gx.A nB (gx.N+1) w'->fN w w'->(hp (mix fe w' gx.u)) lg=M (.l [])->w' (34,l)=M (.d dn)->WB (gx.n+2) (gT 5) (Rt gx.Q) (mW (aJ v 5 (.e lg)) w' t'):=λlg w' t' lk C p hg hd=>aiY H ⟨.r ⟨C.bU (λa h=>.inl h) (λa a h=>h) (l7 _),R.aF.tr p,R.aI,λy h=>h,gu (ao Y) _⟩ Y v4 hd zd (ke.fR p (λa h=>h) λa a h=>h),Y,hg⟩ nv lk.1 lk.2;by_cases c:gK=[]
 .refine oE R.aC.aF λj fj=>?_;have fj:=(fj j (b8 _)).1
  refine cF (fy (eV ⟨b7 _,dQ (34,[j]) Y fj ?_⟩));show WB _ _ _ ⟨aJ (ba gV v gM) 5 _,(hp (mix fe w gx.u)).aH (34,[j]) _,t⟩;rw[bZ Y,bJ Y,bJ Y];exact go (34,[j]) _ t ⟨λq=>ax c q,λa=>⟨[j],Y⟩⟩ (R.aC.rM fj) (.rM fj) bo (pn fj hd)
 .refine cF (fy (eV ⟨b7 _,jJ ?_⟩));show WB _ _ _ ⟨aJ (ba gV v gM) 5 _,(hp (mix fe w gx.u)).aH (bN t) _,t+1⟩;rw[bZ Y,bJ Y,bJ Y];have p9:∀{o},fN w (w.aH (bN t) o):=λk l o f e=>by rcases f with⟨rfl,_⟩|⟨rfl,_⟩<;>exact e
  exact go (bN t) _ _ ⟨λa=>⟨[t],Y⟩,λq=>ax q c⟩ (R.aC.cg p9 (λl ds e z k=>⟨ds,e,z,k.fR p9 (λa h=>h) λa a h=>h⟩) Y R.aC.aC (b8 _) R.aC.aF.aH) p9 bo hd
def ai0(H:mV gx)(R:qy gx.es gx.A nB gx.N w)(nv:gx.s=sE->gK≠[]->¬gx.A gx.x):WB (gx.n+2) (gT 2) (Rt gx.Q) (mW v w t):=by
 refine cF (iT (re (ra (aG Y) R.aC.aC.choose_spec.1 Y Y) ⟨_,kX R.aC.aI,rl (aW (aG Y) bD) (sS R.aC.aI Y ?_)⟩));have new:∀g,Tr (mW (aJ v 4 g) w t) g Z->WB (gx.n+2) (gT 3) (Rt gx.Q) (mW (aJ v 4 g) w t):=λg tg=>by
  refine oE R.aC.aF λj fj=>?_;have fj:=(fj j (b8 _)).1
  refine gN (kF (fq (aG Y) tg)) (cF (mO (dQ (34,[j]) Y fj ?_)));show WB _ _ _ ⟨aJ (ba gV _ gM) 4 _,(hp (mix fe w gx.u)).aH (34,[j]) _,t⟩;rw[bZ Y,bJ Y,bJ Y];have C1:GC gx.es gx.A nB gx.N (w.aH (34,[j]) (.d [])):=R.aC.rM fj
  refine wo (aG Y) (ra (aG Y) C1.aC.choose_spec.1 Y Y) (aG Y) C1.aI Y (bM C1.aK (bM H.aI (ao Y))) (aM ?_);show WB _ _ _ ⟨_,(hp (mix fe (w.aH (34,[j]) (.d [])) gx.u)).aH (21,[]) _,t⟩;rw[bJ Y,bJ Y];have C2:=C1.bU (λa h=>h) (λa a h=>h) (l7 _)
  have ke:tG gx.A nB (w.aH (34,[j]) (.d [])) []:=λk v e=>cW e;have NV:(w.aH (34,[j]) (.d [])) (34,[j])=M (.d []):=bo
  have p1:fN w (w.aH (34,[j]) (.d [])):=.rM fj;generalize w.aH (34,[j]) (.d [])=w1 at C1 C2 ke NV p1⊢;have p:∀{o},fN w1 (w1.aH (21,[]) o):=λk l o f e=>by rcases f with⟨rfl,_⟩|⟨rfl,_⟩<;>exact e
  refine WG H ⟨⟨C2.aC,bo,wL C1.aK,λx v e=>?_,λx s v e=>?_,C2.aF.aH⟩,(R.aF.tr p1).tr p,λk hk=>?_,R.aK,gu (ao Y) _⟩ nv Y NV (b7 _) (ke.fR p (λa h=>h) λa a h=>h)
  .by_cases c:V.s gx.s=.s x
   .rw[<-c,wy]at e;exact⟨[j],[],(bF e).symm,NV,b7 _,ke.fR p (λa h=>h) λa a h=>h⟩
   .rw[rJ c]at e;exact(C2.bb x v e).imp λl k=>k.imp λds k=>⟨k.1,k.2.1,k.2.2.1,k.2.2.2.fR p (λa h=>h) λa a h=>h⟩
  .rw[rJ Wx.symm]at e;exact(C2.aO x s v e).fR p
  .by_cases c:V.s gx.s=k
   .rw[<-c,wy];exactλq=>hV q
   .rw[rJ c];exact hk
 show WB _ _ _ ⟨aJ (ba gV v gM) 4 _,_,t⟩;rw[bZ Y];cases hk:bI gx.es (.s gx.s)with
 |none=>exact new _ sO
 |some g=>
  obtain⟨l,ds,rfl,hd,zd,ke⟩:=R.aC.bb _ g hk;have td:Tr (mW (aJ v 4 (.e (34,l))) w t) (.e (34,l)) (!ds.isEmpty):=Ep hd
  cases ds with
  |nil=>exact new _ td
  |cons d ds=>have C2:=R.aC.bU (λa h=>h) (λa a h=>h) (l7 _);exact eC (kF (fq (aG Y) td)) (aM (WG H ⟨C2,R.aF,R.aI,R.aK,gu (ao Y) _⟩ nv Y hd (jZ zd) ke))
def ai1(H:mV gx):Ww gx:=by
 have C:=H.bz;refine f9 Vo Y ?_;refine cF (iT (re (ra (aG Y) C.aC.choose_spec.1 Y Y) ⟨_,kX C.aI,fM (NR H.aF H.aC H.aK Y Y λw=>eV (sS C.aI NS ?_))⟩));have R:qy gx.es gx.A nB gx.N (mix [99] w gx.u):=⟨C.tm w,fN.tm .jE w,λa h=>h,λa h=>.inl h,mI ..⟩
 have e0:mix [99] w gx.u=mix fe (mix [99] w gx.u) gx.u:=by have e:=uE (R:=fe) (h:=gx.u);rw[<-kb Y,<-e]
 show WB _ _ _ ⟨aJ gM 3 _,hp (mix [99] w gx.u),_⟩;rw[show aJ gM 3 _=ba gV _ gM from(aq (aJ · 3 _) jx).trans (bZ Y),e0]
 have no:∀g,Tr (mW (aJ gM 3 g) (mix [99] w gx.u) (gx.t+1)) g Z->(gx.s=sE->gK≠[]->¬gx.A gx.x)->WB (gx.n+2) (gT 1) (Rt gx.Q) (mW (aJ gM 3 g) (mix [99] w gx.u) (gx.t+1)):=λg tg nv=>eC (fq (aG Y) tg) (aM (ai0 H R nv));cases hk:bI gx.es (gk gx.x gx.s)with
 |none=>exact no _ sO λe a=>H.bb hk e
 |some g=>
  rcases C.aO _ _ g hk with⟨y,e0,l,rfl,hl⟩|⟨e0,q⟩
  .exact gN (fq (aG Y) (aj (Fy Ai) (sQ hl))) (kc (aG Y) (H.aO _ _ _ _ _ _ R (.inl ⟨y,e0,l,Y,hl⟩) (by rw[hk];exactλq=>hV q)))
  .refine no g ?_ λa q=>ax (NJ e0) q;exact q.elim (λq=>q.elim λl q=>ak q.1 (sQ (vs:=[]) q.2)) λq=>ak q sO
end
def WH{N:Nat}{Q:RQ}(H:HL)(C:GC es A nB N u)(ab:Mn x)(hl:u (34,l)=M (.l (bu (stI x))))(zN:N<=16000000)(fs:bI es (gk x s)=U->s=sE->¬A x)(k:∀v dA A' N' w t',GR es A N u x s dA A' nB N' w->Al x s w v->bI dA (gk x s)≠U->Q v (hp (mix fe w u)) t'):bO (n+3) (bS 33) [.e (20,[]),.e (34,l),.s s] Q (hp u) t:=x4 ai1 (x:=⟨n,u,t,Q,x,s,l,es,A,N⟩) ⟨H,C,ab,hl,zN,fs,k⟩
abbrev n7:=Nl×It
def Pk(pl:List It)(x0:It)(ys:Ss)(x:It)(s:aP):Prop:=(x∈pl/\∃y∈stI x,s∈ss y.1)\/(x=x0/\s∈ys)
noncomputable def rQ(cs:List n7):Es:=cs.zipIdx.map λp=>(n4 (stI p.1.2),.i (p.2:Nat))
structure IS(cs:List n7)(pl:List It)(x0:It)(ys:Ss)(es:Es)(A:It->Prop)(N:Nat)(w:Hp):Prop where
 aO:GC es A nB N w
 aF:w (24,[])=M (.l (cs.map λc=>.e (34,c.1)))
 aK:∀c∈cs,w (34,c.1)=M (.l (bu (stI c.2)))/\Mn c.2
 aC:w (22,[])=M (.d (rQ cs))
 aI:(cs.map (·.2)).Nodup
 d9:∃l,cs[(0:Nat)]?=M (l,(0,0))
 bz:∀y,A y->Pk pl x0 ys y sE
 cC:∀(j:Nat)(c:n7),0<j->cs[j]?=M c->∃i<j,∃c' s,cs[i]?=M c'/\mv c'.2 s=M c.2
 bb:∀x s,Pk pl x0 ys x s->bI es (gk x s)≠U/\∀y,mv x s=M y->y∈cs.map (·.2)
variable{cs:List n7} {x0:It} {ys:Ss} {dA:Es} {c:n7}
section
variable{pl:List It} {N:Nat}
def NW:(rQ cs).map (·.1)=(cs.map (·.2)).map λx=>n4 (stI x):=by have e:=aq (Qw λc:n7=>n4 (stI c.2)) (List.zipIdx_map_fst 0 cs);rw[fC]at e;rw[fC];exact fC.trans e
def WJ:n4 (stI y)∈(rQ cs).map (·.1)↔y∈cs.map (·.2):=by rw[NW];exact⟨λh=>(bX.mp h).elim λx k=>aj (NL (Ir k.2)) k.1,gW⟩
def ai2:rQ (cs++[c])=rQ cs++[(n4 (stI c.2),.i (cs.length:Nat))]:=by
 rw[rQ,aos,dF,ro]
 rfl
def ai3{l:List α}{a:α}(h:a∈l):∃j:Nat,l[j]?=M a:=sj h
def Pk.WM(h:Pk pl x0 ys x s){t:aP}:Pk pl x0 (ys++[t]) x s:=h.imp id λq=>⟨q.1,dU _ q.2⟩
def Pk.un{t:aP}(h:Pk pl x0 (ys++[t]) x s):Pk pl x0 ys x s\/(x=x0/\s=t):=h.elim (λq=>.inl (.inl q)) λq=>(cZ.mp q.2).imp (λk=>.inr ⟨q.1,k⟩) λk=>⟨q.1,bK.mp k⟩
def IS.WQ(S:IS cs pl x0 ys es A N w)(R:GR es A N u x0 s dA A' nB N' w')(hu:fN w u)(NX:w' (24,[])=w (24,[]))(NY:w' (22,[])=w (22,[]))(no:∀y,mv x0 s=M y->y∈cs.map (·.2))(hk:bI dA (gk x0 s)≠U):IS cs pl x0 (ys++[s]) dA A' N' w' where
 aO:=R.aC
 aF:=NX.trans S.aF
 aK:=λc hc=>⟨R.aF 34 _ _ (.inl ⟨Y,_,Y⟩) (hu 34 _ _ (.inl ⟨Y,_,Y⟩) (S.aK c hc).1),(S.aK c hc).2⟩
 aC:=NY.trans S.aC
 aI:=S.aI
 d9:=S.d9
 bz:=λy hy=>(R.aK y hy).elim (λh=>(S.bz y h).WM) λh=>.inr ⟨h.1,aj h.2 (dI _ (.head _))⟩
 cC:=S.cC
 bb:=λx t P=>P.un.elim (λP=>⟨R.aI _ (S.bb x t P).1,(S.bb x t P).2⟩) λe=>by obtain⟨rfl,rfl⟩:=e;exact⟨hk,no⟩
def IS.add(S:IS cs pl x0 ys es A N w)(R:GR es A N u x0 s dA A' nB N' w')(hu:fN w u)(hi:cs[i]?=M c)(eI:c.2=x0)(nw:y∉cs.map (·.2))(e0:mv x0 s=M y)(My:Mn y)(NX:w' (24,[])=M (.l ((cs++[(l,y)]).map λc=>.e (34,c.1))))(NY:w' (22,[])=M (.d (rQ (cs++[(l,y)]))))(hk:bI dA (gk x0 s)≠U)(hl:w' (34,l)=M (.l (bu (stI y)))):IS (cs++[(l,y)]) pl x0 (ys++[s]) dA A' N' w' where
 aO:=R.aC
 aF:=NX
 aK:=λc' hc=>(cZ.mp hc).elim (λhc=>⟨R.aF 34 _ _ (.inl ⟨Y,_,Y⟩) (hu 34 _ _ (.inl ⟨Y,_,Y⟩) (S.aK c' hc).1),(S.aK c' hc).2⟩) λhc=>ak (bK.mp hc) ⟨hl,My⟩
 aC:=NY
 aI:=by rw[dF];exact mK S.aI nw
 d9:=S.d9.imp λl k=>(AI (cG.mp k).1).trans k
 bz:=λy hy=>(R.aK y hy).elim (λh=>(S.bz y h).WM) λh=>.inr ⟨h.1,aj h.2 (dI _ (.head _))⟩
 cC:=λj c' h0 hj=>by
  rw[List.getElem?_append]at hj;have lt:=(cG.mp hi).1
  by_cases a:j<cs.length
  .rw[aw a]at hj;refine bT (S.cC j c' h0 hj) λi' li hW=>xm hW λc1 t h1 h2=>?_;exact⟨i',li,c1,t,(AI (cG.mp h1).1).trans h1,h2⟩
  .rw[au a]at hj;obtain rfl:=bK.mp (cO hj);exact⟨i,dJ lt (iP.mp a),c,s,(AI lt).trans hi,ak eI e0⟩
 bb:=λx t P=>P.un.elim (λP=>⟨R.aI _ (S.bb x t P).1,λz hz=>by rw[dF];exact dU _ ((S.bb x t P).2 z hz)⟩) λe=>by obtain⟨rfl,rfl⟩:=e;refine⟨hk,λz hz=>?_⟩;rw[dF];exact aj (bF (hz.symm.trans e0)) (dI _ (.head _))
def IS.lB(S:IS cs pl x0 ys es A N w):cs.length<=35:=by
 have:=ly (u:=(bQ 5).flatMap λp=>(bQ 7).map λj=>(p,j)) S.aI λy hy=>by
  obtain⟨c,hc,rfl⟩:=bX.mp hy;have ab:=(S.aK c hc).2
  refine ZS.mpr ⟨c.2.1,j4.mpr (bM ab.aC kK.2),bX.mpr ⟨c.2.2,j4.mpr (bM ab.aF (sr (oV ab.aC).2)),Y⟩⟩
 rwa [bc]at this
end
noncomputable def jP(xs:Ss):Es:=xs.map λs=>(.s s,.n)
def US(I:List It):Ss:=I.flatMap λy=>dd (ss y.1)
def WR:cX (jP xs) (.s s) .n=jP (ki xs s):=by
 have ek:(jP xs).map (·.1)=xs.map .s:=fC;by_cases c:s∈xs
 .rw[zM c];have:∀{xs:Ss},s∈xs->cX (jP xs) (.s s) .n=jP xs:=λ{xs}=>by
   induction xs with
   |nil=>exactλh=>bA h
   |cons z xs ih=>
    intro h;show cX ((V.s z,V.n)::jP xs) (.s s) .n=(V.s z,V.n)::jP xs;rw[yO];by_cases e:V.s z=.s s
    .exact(aw e).trans Y
    .rw[au e,ih ((cU.mp h).resolve_left λw=>e (aj w Y))]
  exact this c
 .rw[zL c,mw (ak ek λw=>c (wx.mp w))];exact(dF (l₂:=[s])).symm
def ai4{l:Ss}{b:aP}(h:b∈ki l a):b∈l\/b=a:=by
 by_cases c:a∈l
 .rw[zM c]at h;exact .inl h
 .rw[zL c]at h;exact(cZ.mp h).imp id bK.mp
def ai5{l:Ss}{b:aP}(h:b∈l):b∈ki l a:=by
 by_cases c:a∈l
 .rwa [zM c]
 .rw[zL c];exact dU _ h
def ai6{l:Ss}:a∈ki l a:=by
 by_cases c:a∈l
 .rwa [zM c]
 .rw[zL c];exact dI _ (.head _)
def ai7{l:Ss}:∀{b:Ss},a∈l\/a∈b->a∈l.foldl ki b:=by
 induction l with
 |nil=>exactλh=>h.resolve_left λw=>bA w
 |cons c l ih=>exactλh=>ih (h.elim (λh=>(cU.mp h).elim (λe=>.inr (aj e ai6)) .inl) λh=>.inr (ai5 h))
def ai8(h:xs.Nodup):(ki xs s).Nodup:=by
 by_cases c:s∈xs
 .rwa [zM c]
 .rw[zL c];exact mK h c
def WU:∀{ys xs:Ss},xs.Nodup->(ys.foldl ki xs).Nodup:=by
 intro ys
 induction ys with
 |nil=>exactλh=>h
 |cons y ys ih=>exactλh=>ih (ai8 h)
def ai9:∀{ys xs:Ss},s∈ys.foldl ki xs->s∈xs\/s∈ys:=by
 intro ys
 induction ys with
 |nil=>exactλh=>.inl h
 |cons y ys ih=>exactλh=>(ih h).elim (λh=>(ai4 h).imp id λe:s=y=>aj e (.head _)) λh=>.inr (.tail _ h)
def FE:s∈dd ys↔s∈ys:=⟨λh=>(ai9 h).resolve_left (λw=>bA w),λh=>ai7 (.inl h)⟩
def NZ:s∈US I↔∃y∈I,s∈ss y.1:=ZS.trans ⟨λh=>h.imp λy k=>⟨k.1,FE.mp k.2⟩,λh=>h.imp λy k=>⟨k.1,FE.mpr k.2⟩⟩
def WV(io:∀y∈I,Io y):(US I).length<=5*I.length:=by
 induction I with
 |nil=>exact b8 _
 |cons y I ih=>rw[US,List.flatMap_cons,dY,vD,rq,sx];exact ri (ih λz hz=>io z (.tail _ hz)) (aV HZ (hO (oV (io y (.head _)).1).2))
variable{a b c:Nat} {ab:Nl} {body r:Sx} {f:Ss->aP->Ss}
def WW(H:HL)(io:∀y∈I,Io y)(ca:ab.contains a=O)(cc:ab.contains c=O)(ac:dM a c=Z)(hb:RE ⟨ba ab v m,hp (mix R (w.aH (36,[i]) (.d (jP []))) u),t⟩ (.v b) (.e (34,l)))
 (hl:∀xs,(hp (mix R (w.aH (36,[i]) (.d (jP xs))) u)) (34,l)=M (.l (bu I)))
 (step:∀v' xs s Q,(∀z,z≠a->z≠c->v' z=v z)->xs.length<=(US I).length->Q .n ⟨ba ab (aJ v' c (.s s)) m,hp (mix R (w.aH (36,[i]) (.d (jP (f xs s)))) u),t⟩->WB n body Q ⟨ba ab (aJ v' c (.s s)) m,hp (mix R (w.aH (36,[i]) (.d (jP xs))) u),t⟩)(fl:∀xs s,(f xs s).length<=xs.length+1)
 (k:∀v',(∀z,z≠a->z≠c->v' z=v z)->WB n r Q ⟨ba ab v' m,hp (mix R (w.aH (36,[i]) (.d (jP ((US I).foldl f [])))) u),t⟩):
 WB n (.c (.f (.v a) (.l (.v b)) (.c (.f (.v c) (.l (.a (.v a) 9)) body .n) .n) .n) r) Q ⟨ba ab v m,hp (mix R (w.aH (36,[i]) (.d (jP []))) u),t⟩:=by
 have fz:∀(ys xs:Ss),(ys.foldl f xs).length<=xs.length+ys.length:=λys=>by
  induction ys with
  |nil=>exactλxs=>b8 _
  |cons y ys ih=>exactλxs=>aV (ih _) (aV (pW (fl xs y) _) (gy (by rw[vD,rj,sx 1])))
 refine iW (bu I) (λj K=>∃v',K=⟨ba ab v' m,hp (mix R (w.aH (36,[i]) (.d (jP ((US (I.take j)).foldl f [])))) u),t⟩/\∀z,z≠a->z≠c->v' z=v z) hb (λj K J=>?_) ⟨v,Y,λg g g=>Y⟩ (λj y K hy J=>?_) λK J=>?_
 .obtain⟨v',rfl,_⟩:=J;exact hl _
 .obtain⟨v',rfl,hv⟩:=J;obtain⟨y,hz,rfl⟩:=d7 hy;have X:=ix H (io y (cO hz))
  have e3:=(px H (io y (cO hz)).1).aC.aI;have eU:US (I.take (j+1))=US (I.take j)++dd (ss y.1):=by rw[take_snoc hz,US,aoq];exact aq _ (i8 _)
  have le:(US (I.take (j+1))).length<=(US I).length:=by
   have e:=aq (λI=>(US I).length) (PN (j+1) I);rw[<-show(US (I.take (j+1)++I.drop (j+1))).length=(US I).length from e,US,US,aoq,dY]
   exact mI ..
  have va:∀z:Nat,z≠a->z≠c->aJ v' a (.e (5,[y.1,y.2])) z=v z:=λz h1 h2=>(au h1).trans (hv z h1 h2);show WB n _ _ ⟨aJ (ba ab v' m) a (.e (5,[y.1,y.2])),_,t⟩;rw[bZ ca];have ra':∀{v1:Mp},v1 a=M (.e (5,[y.1,y.2]))->(ba ab v1 m) a=M (.e (5,[y.1,y.2])):=λe=>by unfold ba;rw[ca];exact e
  refine iW ((dd (ss y.1)).map .s) (λk K=>∃v',K=⟨ba ab v' m,hp (mix R (w.aH (36,[i]) (.d (jP ((US (I.take j)++(dd (ss y.1)).take k).foldl f [])))) u),t⟩/\∀z,z≠a->z≠c->v' z=v z) (ra (aG (ra' (aw Y))) X.aC Y X.d9) (λk K J=>?_) ⟨_,by rw[JA,i8],va⟩ (λk x K hx J=>?_) λK J=>?_
  .obtain⟨v',rfl,_⟩:=J;exact e3
  .obtain⟨v',rfl,hv⟩:=J;obtain⟨s,hs,rfl⟩:=d7 hx;show WB n body _ ⟨aJ (ba ab v' m) c (.s s),_,t⟩;rw[bZ cc];refine step v' _ s _ hv ?_ ⟨aJ v' c (.s s),?_,λz h1 h2=>(au h2).trans (hv z h1 h2)⟩
   .refine aV (fz _ []) (aV ?_ le);rw[eU,Z5,ro,dY,dY];exact gu (q7 ..) _
   .rw[take_snoc hs,<-q9,ZM (l':=[s])];rfl
  .obtain⟨v',rfl,hv⟩:=J;refine aM ⟨v',?_,hv⟩;rw[bc,iu,eU]
 .obtain⟨v',rfl,hv⟩:=J;rw[bu,bc,iu];exact k v' hv
noncomputable abbrev iR:Nl:=[2,20,21,22,24,34,35,36,99]
noncomputable abbrev iM:Nl:=[1,2,3,4,5,6,7,8]
def qz(x:Rn):Prop:=HL/\(∀y,x.u (2,y)=hL (2,y))/\x.u (20,[])=M (.i 6 F0)/\x.u (21,[])=M (.d [])/\x.u (22,[])=M (.d [])/\(∀k y,[24,34,35,36].contains k=O->x.u (k,y)=U)/\∀cs es A N w t',IS cs (cs.map (·.2)) (0,0) [] es A N w->N<=8000000->(∀j,cs.length<=j->w (36,[j])=U)->x.Q (.e (24,[])) (hp (mix iR w x.u)) t'
section
variable{x:Rn} (hh:qz x)
def qz.aC:=hh.1
def qz.aK:=hh.2.1
def qz.aI:=hh.2.2.1
def qz.bz:=hh.2.2.2.1
def qz.bb:=hh.2.2.2.2.1
def qz.aF:=hh.2.2.2.2.2.1
def qz.aO:=hh.2.2.2.2.2.2
end
def N0(x:Rn):Prop:=bO (x.n+5) (bS 34) [.e (20,[])] x.Q (hp x.u) x.t
def nx:Rn:=wJ qz N0
noncomputable def nM:Mp:=λi=>([V.e (20,[])]++[])[i]?
abbrev tH(v:Mp)(w:Hp)(t:Nat):AS:=⟨ba iM v nM,hp (mix iR w nx.u),t⟩
def JS(cs:List n7)(i:Nat)(c0:n7)(xs:Ss)(k:Nat)(es:Es)(A:It->Prop)(N:Nat)(v:Mp)(w:Hp):Prop:=IS cs ((cs.take i).map (·.2)) c0.2 (xs.take k) es A N w/\cs[i]?=M c0/\v 1=M (.e (24,[]))/\v 2=M (.i (i+1:Nat))/\v 3=M (.e (34,c0.1))/\w (36,[i])=M (.d (jP xs))/\(∀j,i<j->w (36,[j])=U)/\N<=200*i+4*k
section
variable{c0:n7} {N:Nat} (hh:JS cs i c0 xs k es A N v w)
def JS.cC:=hh.1
def JS.aC:=hh.2.1
def JS.aF:=hh.2.2.1
def JS.aK:=hh.2.2.2.1
def JS.aI:=hh.2.2.2.2.1
def JS.bb:=hh.2.2.2.2.2.1
def JS.aO:=hh.2.2.2.2.2.2.1
def JS.bz:=hh.2.2.2.2.2.2.2
end
section
variable{c0:n7} {N:Nat}
def Iv(s:R.all iR.contains=O):hp (mix R w' (mix iR w nx.u))=hp (mix iR (mix R w' w) nx.u):=aq hp (kb s)
def aja{l:List α}{a:α}(h:l[i]?=M a){m:List α}:(l++m).take i=l.take i:=anH (dK (cG.mp h).1)
def ajb{l:List n7}(nd:(l.map (·.2)).Nodup)(h:l[i]?=M c0):c0.2∉(l.take i).map (·.2):=by rw[AR];exact pK nd ((gX ..).trans (aq _ h))
def GC.qY{B:It->Prop}(C:GC es B nB N w)(h4:∀l,w2 (34,l)=w (34,l))(h5:∀l,w2 (35,l)=w (35,l))(h0:w2 (20,[])=w (20,[]))(h1:w2 (21,[])=w (21,[]))(h2:∀l,w2 (2,l)=w (2,l)):GC es B nB N w2/\fN w w2:=by
 have p:fN w w2:=λk l o f e=>by
  rcases f with⟨rfl,_⟩|⟨rfl,_⟩
  .exact(h4 l).trans e
  .exact(h5 l).trans e
 exact⟨C.cg p (λl ds e z k=>⟨ds,(h4 l).trans e,z,k.fR p (λa h=>h) λa a h=>h⟩) h1 (C.aC.imp λc k=>⟨h0.trans k.1,k.2.1,λq lq=>(k.2.2 q lq).imp λg k=>⟨(h2 _).trans k.1,k.2⟩⟩) (b8 _) (C.aF.imp λj0 k j h=>⟨(h4 _).trans (k j h).1,(h5 _).trans (k j h).2⟩),p⟩
def n_5(H:qz nx)(J:JS cs i c0 xs k es A N v w)(nd:xs.Nodup)(hx:xs[k]?=M s)(v7:v 7=M (.s s))(zi:i<=35)(zk:k<=50)(q:∀cs es A N v' w' t',JS cs i c0 xs (k+1) es A N v' w'->Q .n (tH v' w' t')/\Q .c (tH v' w' t')):WB (nx.n+4) U3 Q (tH v w t):=by
 have S:=J.cC;have N1:=cO J.aC
 have L:=S.aK c0 N1;have zN:=aV J.bz (ri (o9 _ zi) (o9 _ zk))
 have nA:s=sE->¬A c0.2:=λe h=>(S.bz _ h).elim (λP=>ajb S.aI J.aC P.1) λP=>pK nd hx (ak e P.2);have C0:=(S.aO.qY (w2:=mix iR w nx.u) (λb=>Y) (λb=>Y) Y Y λb=>Y)
 refine cF (jw (re (aG Y) ⟨_,kW S.aO.aC.choose_spec.1 Y Y,rl (aW (aG J.aI) (aW (aG v7) bD)) (bO.o (WH H.aC C0.1 L.2 L.1 (aV zN (ao Y)) (λb e=>nA e) λg dA A' N' w' t' R a hk=>?_))⟩));show WB _ _ _ ⟨aJ (ba iM v nM) 8 g,hp (mix fe w' (mix iR w nx.u)),t'⟩;rw[bZ Y,Iv Y];have ts:=take_snoc hx
 have R2:∀{w2:Hp},(∀l,w2 (34,l)=w' (34,l))->(∀l,w2 (35,l)=w' (35,l))->w2 (20,[])=w' (20,[])->w2 (21,[])=w' (21,[])->(∀l,w2 (2,l)=w' (2,l))->GR es A N (mix iR w nx.u) c0.2 s dA A' nB N' w2:=λh4 h5 h0 h1 h2=>have G:=R.aC.qY h4 h5 h0 h1 h2;⟨G.1,R.aF.tr G.2,R.aI,R.aK,R.aO⟩
 have Ce:N'<=200*i+4*(k+1):=aV R.aO (by rw[rq,<-rj];exact pW J.bz 4)
 rcases a with⟨y,e0,l,rfl,hl⟩|⟨e0,a⟩
 .have My:=(Fu L.2 e0).1;have kk:(n4 (stI y)).cV 7=O:=(Ak).1
  refine f6 (xK (Hh (Bq (Hf (He (re (aG Y) ⟨O,aj (Fy Ai) (sQ hl),?_⟩))))));refine Bq (xH (kU (rl (aW (aG Y) bD) (bO.o (x7 H.aC My hl λw2=>?_)))));rw[Iv Y];refine re (ra (aG Y) R.aC.aC.choose_spec.1 Y Y) ⟨_,in_dict (n:=Z) S.aC kk,?_⟩;rw[pI];by_cases c:y∈cs.map (·.2)
  .rw[az (WJ.mpr c)];refine zC (q cs dA A' N' (aJ v 8 (.e (34,l))) (mix [99] w2 (mix fe w' w)) _ ⟨?_,J.aC,J.aF,J.aK,J.aI,J.bb,J.aO,Ce⟩).2;rw[ts];exact S.WQ (R2 (λb=>Y) (λb=>Y) Y Y λb=>Y) C0.2 Y Y (λz hz=>aj (bF (e0.symm.trans hz)) c) hk
  .have nk:=λh=>c (WJ.mp h);rw[aA nk];refine Sm (aM (hM (uv (re (qu (aG J.aF) S.aF) (re (ra (aG Y) R.aC.aC.choose_spec.1 Y Y) (kU (rl (aW (aG Y) bD) (bO.o (x7 H.aC My hl λw3=>?_)))))))));rw[Iv Y,bc];have zc:=S.lB
   refine vV S.aC kk (by rw[rQ,bc,PR];exact bM zc (ao Y)) ?_
   show WB _ _ _ ⟨_,(hp (mix iR _ nx.u)).aH (22,[]) _,_⟩;rw[bJ Y,bJ Y,mw nk,<-ai2 (c:=(l,y))];refine pJ Y Y (aG J.aF) S.aF (aG Y) (by rw[bc];exact bM zc (ao Y)) (aM ?_)
   rw[bJ Y,show(cs.map λc=>V.e (34,c.1))++[V.e (34,l)]=(cs++[(l,y)]).map λc=>V.e (34,c.1) from(dF (l₂:=[(l,y)])).symm]
   refine(q (cs++[(l,y)]) dA A' N' (aJ v 8 (.e (34,l))) (((mix [99] w3 (mix [99] w2 (mix fe w' w))).aH (22,[]) (.d (rQ (cs++[(l,y)])))).aH (24,[]) (.l ((cs++[(l,y)]).map λc=>.e (34,c.1)))) _ ⟨?_,(AI (cG.mp J.aC).1).trans J.aC,J.aF,J.aK,J.aI,J.bb,J.aO,Ce⟩).1;rw[ts,aja J.aC];exact S.add (R2 (λb=>Y) (λb=>Y) Y Y λb=>Y) C0.2 J.aC Y c e0 My Y Y hk hl
 .have tf:Tr (tH (aJ v 8 g) (mix fe w' w) t') g Z:=a.elim (λq=>q.elim λl q=>ak q.1 (sQ (vs:=[]) q.2)) λq=>q▸sO;refine f6 (xK (Hh (xJ (kF (fq (aG Y) tf)) (zC (q cs dA A' N' (aJ v 8 g) (mix fe w' w) t' ⟨?_,J.aC,J.aF,J.aK,J.aI,J.bb,J.aO,Ce⟩).2))));rw[ts];exact S.WQ (R2 (λb=>Y) (λb=>Y) Y Y λb=>Y) C0.2 Y Y (λy hy=>cW (e0.symm.trans hy)) hk
def n_2(H:qz nx)(S:IS cs ((cs.take i).map (·.2)) (0,0) [] es A N w)(hi:cs[i]?=M c0)(v1:v 1=M (.e (24,[])))(v2:v 2=M (.i i))(uR:∀j,i<=j->w (36,[j])=U)(zN:N<=200*i)(zi:i<=35)(q:∀cs es A N v' w' t',IS cs ((cs.take (i+1)).map (·.2)) (0,0) [] es A N w'->i+1<=cs.length->v' 1=M (.e (24,[]))->v' 2=M (.i (i+1:Nat))->(∀j,i+1<=j->w' (36,[j])=U)->N<=200*(i+1)->Q .n (tH v' w' t')):WB (nx.n+4) U4 Q (tH v w t):=by
 have N1:=cO hi;have L:=S.aK c0 N1
 have io:∀y∈stI c0.2,Io y:=λy hy=>rO L.2 hy;refine eZ (zG (aG v1) S.aF (aG v2) (fU hi)) (hM (Ec v2 (re bG ⟨_,Bx,cF (mO (dQ (36,[i]) Y (uR i (b8 _)) ?_))⟩)));show WB _ _ _ ⟨aJ (aJ (aJ (ba iM v nM) 3 (.e (34,c0.1))) 2 (.i (i+1))) 4 (.e (36,[i])),(hp (mix iR w nx.u)).aH (36,[i]) (.d (jP [])),t⟩;rw[bZ Y,bZ Y,bZ Y,bJ Y,bJ Y];generalize hv:aJ (aJ (aJ v 3 (.e (34,c0.1))) 2 (.i (i+1))) 4 (.e (36,[i]))=v0;have w1:v0 1=M (.e (24,[])):=aj hv v1
 have w2:v0 2=M (.i (i+1)):=aj hv Y;have w3:v0 3=M (.e (34,c0.1)):=aj hv Y
 have w4:v0 4=M (.e (36,[i])):=aj hv Y;have Iw:=aV (WV io) (o9 5 rP)
 refine WW (f:=ki) H.aC io Y Y Y (aG w3) (λa=>L.1) (λv' xs s Q od le q=>wo (uo) (aG ((od 4 (ao Y) (ao Y)).trans w4)) (aG Y) bo Y (by rw[jP,bc];exact bM le (bM Iw (ao Y))) (aM ?_)) (λxs s=>M0) λv' od=>?_
 .show Q .n ⟨_,(hp (mix iR (w.aH (36,[i]) (.d (jP xs))) nx.u)).aH (36,[i]) _,t⟩;rw[bJ Y,bJ Y,WR,nW];exact q
 have nd:(dd (US (stI c0.2))).Nodup:=WU gY;have zl:=aV HZ Iw
 refine Ac (ks:=dd (US (stI c0.2))) (λk K=>k<=50/\∃cs es A N v w t,K=tH v w t/\JS cs i c0 (dd (US (stI c0.2))) k es A N v w) (aG ((od 4 (ao Y) (ao Y)).trans w4)) (λk K J=>?_) ⟨b7 _,cs,es,A,N,v',_,t,Y,⟨⟨(S.aO.qY (w2:=w.aH (36,[i]) (.d (jP (dd (US (stI c0.2)))))) (λa=>Y) (λa=>Y) Y Y λa=>Y).1,S.aF,S.aK,S.aC,S.aI,S.d9,λy hy=>.inl ((S.bz y hy).resolve_right λq=>bA q.2),S.cC,λx s P=>S.bb x s (.inl (P.resolve_right λq=>bA q.2))⟩,hi,(od 1 (ao Y) (ao Y)).trans w1,(od 2 (ao Y) (ao Y)).trans w2,(od 3 (ao Y) (ao Y)).trans w3,bo,λj lt=>(aQ λq=>fQ lt (d6 (cP q).2).1).trans (uR j (dK lt)),zN⟩⟩ (λk s K hx J=>?_) λK J=>?_
 .obtain⟨_,cs,es,A,N,v,w,t,rfl,J⟩:=J;exact⟨_,J.bb,fC⟩
 .obtain⟨zk,cs,es,A,N,v,w,t,rfl,J⟩:=J;show WB _ _ _ ⟨aJ (ba iM v nM) 7 (.s s),_,t⟩;rw[bZ Y];have lt:=dJ (cG.mp hx).1 zl
  exact n_5 H ⟨J.cC,J.aC,J.aF,J.aK,J.aI,J.bb,J.aO,J.bz⟩ nd hx Y zi zk λcs es A N v' w' t' J'=>⟨⟨lt,cs,es,A,N,v',w',t',Y,J'⟩,⟨lt,cs,es,A,N,v',w',t',Y,J'⟩⟩
 .obtain⟨_,cs,es,A,N,v,w,t,rfl,J⟩:=J;have S:=J.cC
  rw[iu]at S;have et:(cs.take (i+1)).map (·.2)=(cs.take i).map (·.2)++[c0.2]:=by rw[take_snoc J.aC,dF];rfl
  have ep:∀x s,Pk ((cs.take (i+1)).map (·.2)) (0,0) [] x s↔Pk ((cs.take i).map (·.2)) c0.2 (dd (US (stI c0.2))) x s:=λx s=>by unfold Pk;rw[et,cZ,bK,FE,NZ];exact⟨λh=>(h.resolve_right λq=>bA q.2).elim λh k=>h.elim (λh=>.inl ⟨h,k⟩) λe=>.inr ⟨e,aj e k⟩,λh=>.inl (h.elim (λh=>⟨.inl h.1,h.2⟩) λh=>⟨.inr h.1,ak h.1 h.2⟩)⟩
  exact aM (q cs es A N v w t ⟨S.aO,S.aF,S.aK,S.aC,S.aI,S.d9,λy hy=>(ep _ _).mpr (S.bz y hy),S.cC,λx s P=>S.bb x s ((ep x s).mp P)⟩ (cG.mp J.aC).1 J.aF J.aK J.aO (aV J.bz (by rw[rq];exact gu (o9 4 zl) _)))
end
def wN(i:Nat)(cs:List n7)(es:Es)(A:It->Prop)(N:Nat)(v:Mp)(w:Hp):Prop:=IS cs ((cs.take i).map (·.2)) (0,0) [] es A N w/\i<=cs.length/\v 1=M (.e (24,[]))/\v 2=M (.i i)/\(∀j,i<=j->w (36,[j])=U)/\N<=200*i
section
variable{N:Nat} (hh:wN i cs es A N v w)
def wN.aC:=hh.1
def wN.aI:=hh.2.1
def wN.aF:=hh.2.2.1
def wN.aO:=hh.2.2.2.1
def wN.bb:=hh.2.2.2.2.1
def wN.aK:=hh.2.2.2.2.2
end
def aje(H:qz nx){N:Nat}(W:wN 0 cs es A N v w):WB (nx.n+4) (Sx.gG 4 MI) (Rt nx.Q) (tH v w t):=by
 refine wq (λk K=>∃i cs es A N v w t,k+i=36/\K=tH v w t/\wN i cs es A N v w) ⟨0,cs,es,A,N,v,w,t,Y,Y,W⟩ λk K J=>?_;obtain⟨i,cs,es,A,N,v,w,t,ek,rfl,W⟩:=J;have zc:=W.aC.lB
 refine⟨_,eH (aG W.aO) (qu (aG W.aF) W.aC.aF) yX,λc=>?_,λc=>?_⟩
 .have lt:i<cs.length:=by
   have c:=jB.mp (aB c)
   rwa [bc]at c
  refine oE (jy lt) λc0 h0=>?_;refine n_2 H W.aC h0 W.aF W.aO W.bb W.aK (aV W.aI zc) λcs es A N v' w' t' S le v1 v2 uR zN=>?_;cases k with
  |zero=>exact ax (dJ lt zc) (by rw[ro]at ek;rw[ek];decide)
  |succ k=>exact⟨k,i7 k,i+1,cs,es,A,N,v',w',t',by rw[<-ek,w9];rfl,Y,S,le,v1,v2,uR,zN⟩
 .have le:cs.length<=i:=by have c:=vG.mp (of_decide_eq_false c);rw[bc]at c;exact qb.mp c
  have S:=W.aC;rw[AJ le]at S;exact kc (aG W.aF) (H.aO cs es A N w t S (aV W.aK (aV (o9 200 (aV W.aI zc)) (ao Y))) λj h=>W.bb j (aV W.aI h))
def ajf:aJ F0 37 (.i 0)=F0:=funext λa=>by
 by_cases e:a=37
 .subst e;rfl
 .exact au e
def kr0:kr (0,0)=[(0,0)]:=B8 λb=>ax b.1 (dq 0)
def ajh(H:qz nx):N0 nx:=by
 refine f9 agt Y ?_;have P0:=px H.aC (b7 _)
 have N3:RE ⟨nM,hp nx.u,nx.t⟩ (.a (.s (.a (.a (.v 0) 30) 15) (.cI 0)) 11) (.e (5,[0,0])):=ra (zG (ra (ra (aG Y) H.aI Y Y) H.aC.aC Y Y) H.aC.aI bG (B7 (fY _))) ((H.aK _).trans P0.aC.aF) Y P0.aF;have pw0:Pw 0 (nx.u.aH (bN nx.t) (.l (bu [(0,0)]))):=⟨Qm 0,λp lp=>have X:=px H.aC lp;⟨_,(H.aK _).trans X.aC.aF,⟨λb b b=>Y,.inl X.aC.aC.2.2.2.2.2.2.2.2.1⟩,0,Qm 0,.inr ⟨X.aC.aC.2.2.2.2.2.2.2.1,Y⟩⟩⟩
 refine cF (fy (fM (jw (re (aG Y) ⟨_,kW H.aI Y Y,fM (fy (rl (aW N3 bD) ⟨(ao Y),jJ ?_⟩))⟩))));show WL _ _ _ ⟨nM,(hp nx.u).aH (bN nx.t) (.l (bu [(0,0)])),nx.t+1⟩;rw[bJ Y];refine eV (bO.o (Wt (j:=0) H.aC Ca (aj ajf.symm H.aI) pw0 Y (aj kr0 bo) (H.aF 34 _ Y) λw1 P=>eV ⟨(ao Y),dQ (24,[]) Y ((P.aC 24 [] (ao Y) (aU Y) (aU Y)).trans (H.aF 24 [] Y)) ?_⟩));generalize ht:V.e (34,[0])=r0;show WB _ (Sx.gG 1 MI) _ ⟨aJ nM 1 (.e (24,[])),(hp w1).aH (24,[]) (.l [r0]),nx.t+1⟩;have nY:∀k y,iR.contains k=Z->w1 (k,y)=nx.u (k,y):=λk y e=>by have n:∀i,iR.contains i=O->k≠i:=λi h q=>b9 (e.symm.trans (ak q h));exact(P.aC k y (n 2 Y) (λq=>n 20 Y (cP q).1) λq=>n 34 Y (cP q).1).trans (aQ λq=>n 99 Y (cP q).1)
 have FF:∀k y,dM k 99=Z->dM k 2=Z->dM k 20=Z->(k,y)≠(34,[0])->w1 (k,y)=nx.u (k,y):=λk y h9 h2 h0 h4=>(P.aC k y (λe=>by rw[e]at h2;exact b9 h2) (λe=>by rw[(cP e).1]at h0;exact b9 h0) h4).trans (aQ (aU h9))
 obtain⟨w0,hw⟩:∃w0,w0=w1.aH (24,[]) (.l [r0]):=⟨_,Y⟩;have e1:w0=mix iR w0 nx.u:=by
  funext l
  unfold mix;cases q:iR.contains l.1 with
  |true=>rfl
  |false=>exact ak hw ((aQ λe=>by rw[e]at q;exact b9 q).trans (nY l.1 l.2 q))
 rw[bJ Y,<-hw,e1,show aJ nM 1 (.e (24,[]))=ba iM (aJ nM 1 (.e (24,[]))) nM from(aq (aJ · 1 _) jx).trans (bZ Y)]
 have N4:=hw▸bo;have WX:w0 (20,[])=M (.i 6 (aJ F0 37 (.i (0+1)))):=ak hw P.aI
 have uJ:w0 (34,[0])=M (.l (bu (stI (0,0)))):=ak hw P.aK;refine eZ bG ?_;show WB _ _ _ ⟨aJ (ba iM (aJ nM 1 (.e (24,[]))) nM) 2 (.i 0),hp (mix iR w0 nx.u),nx.t+1⟩;rw[bZ Y];refine iW [r0] (λj K=>K.h (24,[])=M (.l [r0])/\(j=0->K=tH (aJ (aJ nM 1 (.e (24,[]))) 2 (.i 0)) w0 (nx.t+1))/\(j=1->∃v w t,K=tH v w t/\v 1=M (.e (24,[]))/\(∀j,w (36,[j])=U)/\IS [([0],(0,0))] [] (0,0) [] [] (λb=>False) 0 w)) (aG Y) (λj K J=>J.1) ⟨N4,λb=>Y,λe=>pA e Y⟩ (λj x K hx J=>?_) λK J=>?_
 .cases j with
  |succ j=>exact cW hx
  |zero=>
   obtain rfl:r0=x:=bF hx;obtain rfl:=J.2.1 Y;subst ht;show WB _ _ _ ⟨aJ (ba iM _ nM) 3 (.e (34,[0])),hp (mix iR w0 nx.u),nx.t+1⟩;rw[bZ Y];refine hM (uv (re (aG Y) (re (ra (aG Y) WX Y Y) (kU (rl (aW (aG Y) bD) (bO.o (x7 H.aC Ca uJ λw'=>?_)))))));have w22:w0 (22,[])=M (.d []):=ak hw ((FF 22 [] Y Y Y (aU Y)).trans H.bb)
   refine vV w22 (Ak).1 (ao Y) ?_;show WB _ _ _ ⟨_,(hp (mix [99] w' (mix iR w0 nx.u))).aH (22,[]) _,_⟩;rw[Iv Y,bJ Y,bJ Y];refine hM (Ec Y (re bG ⟨_,Bx,aM ⟨N4,(λe=>pA e Y),λb=>⟨_,_,_,mu (bZ Y) Y,Y,λj=>?_,?_⟩⟩⟩))
   .exact(ak hw ((FF 36 [j] Y Y Y (aU Y)).trans (H.aF 36 _ Y)))
   .refine⟨⟨⟨0+1,WX,P.aF.1,λp lp=>(P.aF.2 p lp).imp λg k=>⟨(ak hw k.1),k.2⟩⟩,(ak hw ((FF 21 [] Y Y Y (aU Y)).trans H.bz)),b8 _,(λx v e=>cW e),(λx s v e=>cW e),1,λj hj=>⟨(ak hw ((FF 34 [j] Y Y Y λe=>ax hj (by rw[(d6 (cP e).2).1];decide)).trans (H.aF 34 _ Y))),(ak hw ((FF 35 [j] Y Y Y (aU Y)).trans (H.aF 35 _ Y)))⟩⟩,N4,λc hc=>ak (bK.mp hc) ⟨uJ,Ca⟩,bo,iY.mpr ⟨λh=>bA h,gY⟩,⟨[0],Y⟩,λy h=>h.elim,λj c h e=>?_,λx s P=>P.elim (λq=>bA q.1) λq=>bA q.2⟩
    cases j with
    |zero=>exact ax h (dq 0)
    |succ j=>exact cW e
 .obtain⟨v,w,t,rfl,v1,uR,S⟩:=J.2.2 Y;refine eZ bG ?_;show WB _ _ _ ⟨aJ (ba iM v nM) 2 (.i 0),hp (mix iR w nx.u),t⟩;rw[bZ Y];exact aje H ⟨S,b7 _,v1,Y,λj b=>uR j,b8 _⟩
def ajk{x:Rn}:qz x->N0 x:=x5 ajh
structure BX where
 u:Hp
 t:Nat
 c:List n7
 es:Es
 A:It->Prop
 N:Nat
def dD(x:BX):Prop:=HL/\IS x.c (x.c.map (·.2)) (0,0) [] x.es x.A x.N x.u/\x.N<=8000000/\(∀j,x.c.length<=j->x.u (36,[j])=U)/\(∀y,x.u (6,y)=hL (6,y))/\x.u (23,[])=M (.d [])/\x.u (25,[])=M (.d [])/\x.u (27,[])=M (.l [])/\x.u (28,[])=M (.l [])/\x.u (40,[])=M (.d [])/\x.u (50,[])=M (.t 391 #[])/\x.u (51,[])=M (.t 398 #[])/\(∃g,x.u hD=M (.fz g))/\∀k y,[29,30,31,32,33,37,38,39,52,53].contains k=O->x.u (k,y)=U
section
variable{x:BX} (hh:dD x)
def dD.aC:=hh.1
def dD.aF:=hh.2.1
def dD.aK:=hh.2.2.1
def dD.bb:=hh.2.2.2.1
def dD.bz:=hh.2.2.2.2.1
def dD.wH:=hh.2.2.2.2.2.1
def dD.pP:=hh.2.2.2.2.2.2.1
def dD.j9:=hh.2.2.2.2.2.2.2.1
def dD.jI:=hh.2.2.2.2.2.2.2.2.1
def dD.iL:=hh.2.2.2.2.2.2.2.2.2.1
def dD.d9:=hh.2.2.2.2.2.2.2.2.2.2.1
def dD.cC:=hh.2.2.2.2.2.2.2.2.2.2.2.1
def dD.aO:=hh.2.2.2.2.2.2.2.2.2.2.2.2.1
def dD.aI:=hh.2.2.2.2.2.2.2.2.2.2.2.2.2
end
noncomputable def pM:Mp:=aJ (aJ (aJ (aJ (aJ (aJ (λi=>([V.e (20,[])]++[])[i]?) 1 (.e (41,[]))) 2 (.e (48,[]))) 3 (.e (25,[]))) 4 (.e (23,[]))) 5 (.e (40,[]))) 6 (.e (24,[]))
def WY(x:BX):Prop:=WB (lx.n+43) (Sx.gG 6 MK) (Rt lx.Q) ⟨pM,hp x.u,x.t⟩
def bx:BX:=uP ⟨λa=>U,0,[],[],λa=>True,0⟩ dD WY
noncomputable abbrev zR:Nl:=[0,6,31,32,33,37,38,39,50,51,52,53,99]
abbrev hb(w:Hp):Hp:=hp (mix zR w bx.u)
def Cs(j:Nat)(x:It):Prop:=∃l,bx.c[j]?=M (l,x)/\bx.u (34,l)=M (.l (bu (stI x)))/\Mn x
variable{c:n7}
def Cs.of(B:dD bx)(h:bx.c[j]?=M c):Cs j c.2:=⟨c.1,h,B.aF.aK c (cO h)⟩
theorem N5(B:dD bx)(h:x∈bx.c.map (·.2)):∃j,Cs j x:=by obtain⟨c,hc,rfl⟩:=bX.mp h;refine oE (ai3 hc) λj hj=>?_;exact⟨j,.of B hj⟩
def Cs.A4(h:Cs j x):x∈bx.c.map (·.2):=h.elim λl k=>gW (cO k.1)
def Cs.rR(h:Cs j x):(bx.c.map (·.2))[j]?=M x:=h.elim λl k=>(gX ..).trans (aq _ k.1)
def Cs.N6(B:dD bx)(h:Cs j x)(h':Cs i x):j=i:=(ua (cG.mp h.rR).1 B.aF.aI).mp (h.rR.trans h'.rR.symm)
def Cs.fn(h:Cs j x)(h':Cs j y):x=y:=bF (h.rR.symm.trans h'.rR)
def Cs.mn(h:Cs j x):Mn x:=h.elim λl k=>k.2.2
def Cs.pk(B:dD bx)(h:Cs j x)(hy:y∈stI x)(hs:s∈ss y.1):bI bx.es (gk x s)≠U:=(B.aF.bb x s (.inl ⟨h.A4,y,hy,hs⟩)).1
def Iy(h:sym y=M s):s∈ss y.1:=cO h
def Cs.go(B:dD bx)(h:Cs j x)(e:mv x s=M y):∃i,Cs i y:=by refine fH (B9 e) λz hz ez a=>?_;exact N5 B ((B.aF.bb x s (.inl ⟨h.A4,z,hz,Iy ez⟩)).2 y e)
def WZ(m:Mn x)(h:sym x=M s):mv x s=M (x.1,x.2+1):=by
 by_cases e:s=sE
 .subst e;exact x2 h
 .exact tF m Ah h e
def wO(B:dD bx):Cs 0 (0,0):=B.aF.d9.elim λl k=>.of B k
theorem ajl(B:dD bx)(m:Mn x):∃j,Cs j x:=by
 obtain⟨k,d⟩:=x;have s1:=(wO B).go B (WZ Ca Y)
 cases k with
 |zero=>
  cases d with
  |zero=>exact⟨0,wO B⟩
  |succ d=>obtain rfl:d=0:=Nat.le_zero.mp (Nat.le_of_succ_le_succ m.aF);exact s1
 |succ k=>
  have go:∀d,Mn (k+1,d)->∃j,Cs j (k+1,d):=λd=>by
   induction d with
   |zero=>exactλm=>ax (m.aI.resolve_left (qD k)).1 (dq 0)
   |succ d ih=>
    intro m;refine oE (jy m.aF) λs hs=>?_;have hs:sym (k+1,d)=M s:=hs
    have c:=(m.aI.resolve_left (qD k)).2;cases d with
    |zero=>have n:=λe=>c ⟨Y,hs.trans (aq M e)⟩;refine(wO B).go B (tF Ca ?_ hs n);rw[uO Y];exact .tail _ (wI.mpr ⟨k,m.aC,Y⟩)
    |succ d=>
     by_cases e:d=0/\sy (k+1) 0=M sE
     .obtain⟨rfl,e⟩:=e;refine oE s1 λj h=>?_;refine h.go B (tF h.mn ?_ hs ((wD e hs).mp Y));rw[rN ⟨pd,Y⟩];exact .tail _ (tE.mpr ⟨k,e,Y⟩)
     .have m':Mn (k+1,d+1):=⟨m.aC,rh m.aF,.inr ⟨fY d,λw=>e ⟨pb w.1,w.2⟩⟩⟩;refine oE (ih m') λj h=>?_;exact h.go B (WZ m' hs)
  exact go d m
variable{k v:V}
def x8{p q:Prop} [Decidable p] [Decidable q]{a b:α}(h:p↔q):(if p then a else b)=if q then a else b:=by
 by_cases c:p
 .rw[aw c,aw (h.mp c)]
 .rw[au c,au λw=>c (h.mpr w)]
def Am:∀{es:Es},(es.map (·.1)).Nodup->(k,v)∈es->bI es k=M v:=by
 intro es
 induction es with
 |nil=>exactλa h=>bA h
 |cons e es ih=>
  intro nd h;have nd:=iY.mp nd
  rw[ui];rcases cU.mp h with h|h
  .rw[<-h];exact aw Y
  .rw[au λq:e.1=k=>nd.1 (show e.1∈_ from ak q (gW h))]
   exact ih nd.2 h
def Iz{f:α->β}{l:List α}(hf:∀a b,f a=f b->a=b)(nd:l.Nodup):(l.map f).Nodup:=by
 induction l with
 |nil=>exact gY
 |cons a l ih=>have nd:=iY.mp nd;exact iY.mpr ⟨λh=>(bX.mp h).elim λb k=>nd.1 (aj (hf _ _ k.2) k.1),ih nd.2⟩
def ajm(B:dD bx):((rQ bx.c).map (·.1)).Nodup:=by rw[NW];exact Iz (λa b e=>NL (Ir e)) B.aF.aI
def N7(B:dD bx)(h:Cs j x):bI (rQ bx.c) (n4 (stI x))=M (.i j):=
 Am (ajm B) (h.elim λl k=>bX.mpr ⟨((l,x),j),CM.mpr k.1,Y⟩)
noncomputable def tV(j:Nat):V:=V.cq [.i j,.s sE]
noncomputable def rS(cs:List n7):Nl:=(cs.zipIdx.filter λp=>decide (sym p.1.2=M sE)).map (·.2)
def cA:Nl:=rS bx.c
def tI(h:tV i=tV j):i=j:=jT (lT (d6 (Fx h)).1)
def ajn:tV i∈l.map tV↔i∈l:=⟨λh=>(bX.mp h).elim λB k=>aj (tI k.2) k.1,gW⟩
def ajo(h:cs[j]?=M c):rS (cs.take (j+1))=rS (cs.take j)++if sym c.2=M sE then [j]else []:=by
 have le:=dK (cG.mp h).1;unfold rS;rw[take_snoc h,aos,aow,dF,ro,xb,xc le];refine aq _ ?_;show Qw _ (List.filter _ [(c,j)])=_;rw[ZT];by_cases e:sym c.2=M sE
 .rw[aw e,az (e)];rfl
 .rw[au e,aA (e)];rfl
def FG(B:dD bx):j∈cA↔∃x,Cs j x/\sym x=M sE:=by
 refine bX.trans ⟨λh=>?_,λh=>?_⟩
 .obtain⟨p,hp,rfl⟩:=h;have hp:=lZ.mp hp
  exact⟨p.1.2,.of B (CM.mp hp.1),aB hp.2⟩
 .obtain⟨x,⟨l,k,_⟩,e⟩:=h;exact⟨((l,x),j),lZ.mpr ⟨CM.mpr k,az e⟩,Y⟩
def IA:cA.Nodup:=by have s:apq cA (bx.c.zipIdx.map (·.2)):=Jn.map _;refine s.nodup ?_;rw[List.zipIdx_map_snd];exact List.nodup_range'
def x9(B:dD bx):cA.length<=35:=by unfold cA rS;rw[bc];exact aV (aod ..) (by rw[PR];exact B.aF.lB)
def P1(x:Rn):Prop:=dD bx/\x.u (53,[])=U/\∀w t,w (53,[])=M (.s [])->x.Q (.e (53,[])) (hb (mix [53,99] w x.u)) t
section
variable{x:Rn} (hh:P1 x)
def P1.aI:=hh.1
def P1.aF:=hh.2.1
def P1.aC:=hh.2.2
end
def N8(x:Rn):Prop:=bO (x.n+1) (bS 35) [.e (20,[])] x.Q (hb x.u) x.t
def r1:Rn:=wJ P1 N8
noncomputable def m1:Mp:=aJ (λi=>([V.e (20,[])]++[])[i]?) 1 (.e (53,[]))
abbrev s1(v:Mp)(w:Hp)(t:Nat):AS:=⟨ba [2,3,4] v m1,hb (mix [53,99] w r1.u),t⟩
inductive NK(_:Nat):QA
 |mk {v:Mp} {w:Hp}:v 2=M (.i 0)->w (53,[])=M (.s [])->w (99,[r1.t])=M (.l ((refs (nG+1)).drop 1))->NK _ (s1 v w (r1.t+1))
def qA(B:dD bx):bx.u (20,[])=M (.i 6 (aJ F0 37 (.i B.aF.aO.aC.choose))):=B.aF.aO.aC.choose_spec.1
def W0(B:dD bx)(h:p<=nG):∃g,bx.u (2,[p])=M (.i 1 g)/\∀a,a≠46->a≠57->g a=gP p a:=(B.aF.aO.aC.choose_spec.2.2 p h).imp λg k=>⟨k.1,k.2.1.1⟩
def ajp(H:P1 r1):N8 r1:=by
 have B:=H.aI;refine f9 agu Y (cF (qO Y (rl bD (TL (dQ (53,[]) Y H.aF (eZ bG ?_))))));show WB _ _ _ ⟨aJ m1 2 (.i 0),(hb r1.u).aH (53,[]) (.s []),r1.t⟩;rw[bJ Y,bJ Y,show r1.u.aH (53,[]) (.s [])=mix [53,99] (r1.u.aH (53,[]) (.s [])) r1.u from mR Y,show aJ m1 2 (.i 0)=ba [2,3,4] (aJ m1 2 (.i 0)) m1 from(aq (aJ · 2 _) jx).trans (bZ Y)]
 refine wq (λk K=>k=1/\K=s1 (aJ m1 2 (.i 0)) (r1.u.aH (53,[]) (.s [])) r1.t) ⟨Y,Y⟩ λk K J=>⟨O,fq ql oI,λa=>?_,λe=>b9 e⟩;obtain⟨_,rfl⟩:=J;refine f6 (nU (qQ (Eo (re (ra (ra (aG Y) (qA B) Y Y) B.aC.aC Y Y) (re bG (.inl ⟨_,refs (nG+1),1,Y,Y,B.aC.aI,Ae▸aV kK.2 (by decide),jJ ?_⟩))))))
 rw[NG (Ae▸fY _)];show IB _ ⟨_,(hb (mix [53,99] (r1.u.aH (53,[]) (.s [])) r1.u)).aH (99,[r1.t]) (.l ((refs (nG+1)).drop 1)),r1.t+1⟩ _ _;rw[bJ Y,bJ Y,bJ Y];refine qP bo (oU ((refs (nG+1)).drop 1) NK (λi K J=>?_) (.mk Y ((aQ (aU Y)).trans bo) bo) (λj x K hx I=>?_) λK I=>?_)
 .obtain⟨_,_,e⟩:=J;exact⟨_,e,Y⟩
 .cases I with|@mk v w v2 s e=>?_
  rw[PT]at hx;have lt:=Jr (cG.mp hx).1 Ae
  rw[B7 lt]at hx;obtain rfl:=bF hx;rw[sx 1 j]at lt⊢;have hp:=hO lt
  refine bT (W0 B hp) λg hg eg=>?_;have pf:=(px B.aC hp).aC.aC
  show WB _ _ _ ⟨aJ (ba [2,3,4] v m1) 3 (.e (2,[j+1])),_,r1.t+1⟩;rw[bZ Y];have zl:=(oV hp).1
  refine eC (aA (λe:V.i ((ss (j+1)).length)=V.i 0=>fQ zl (jT (lT e)))▸eH (ra (aG Y) hg Y ((eg 8 (by decide) (by decide)).trans pf.2.2.2.2.2.1)) bG (qn Y Y)) (aM ?_)
  refine f6 (nU (qQ (re (ra (aG Y) hg Y ((eg 1 (by decide) (by decide)).trans pf.2.1)) (Lu (oU _ (λi K=>i=0/\K=s1 (aJ v 3 (.e (2,[j+1]))) w (r1.t+1)) (λi K J=>Y) ⟨Y,Y⟩ (λi x K hx J=>?_) λK J=>?_)))))
  .obtain⟨_,rfl⟩:=J;obtain⟨s',_,rfl⟩:=d7 hx;show WB _ U5 _ ⟨aJ (ba [2,3,4] _ m1) 4 (.s s'),_,r1.t+1⟩;rw[bZ Y];have e1:(O^^decide (V.s s'∈([])))=O:=by rw[aA λh=>bA h];rfl
   exact gN (Qy e1 (eH (aG Y) (aG Y) (TM (m:=O) s))) (xS (aM (.mk v2 s e)))
  .refine oA J λe0 a=>?_;rw[bc]at e0;exact ax e0 (fQ zl)
 .cases I with|@mk v w v2 s e=>?_
  have rl:RE (s1 v w (r1.t+1)) (.p .l (.c (.v 1) .n)) (.i ([]).length):=wt (aG Y) λn Q q=>adW s q;exact aM (gN (az (Y:V.i 0=V.i 0)▸eH rl (aG v2) (qn Y Y)) (xS (kc (aG Y) (H.aC w _ s))))
def ajq{x:Rn}(p:P1 x):N8 x:=x5 ajp p
def N9(H:HL)(i:Io y)(ha:m a=M (.e (5,[y.1,y.2]))):RT ⟨m,hp u,t⟩ (.m .Lt (.a (.v a) 13) (.b .Sub (.a (.v a) 8) (.cI 1))) (sym y).isSome:=by
 have X:=ix H i;have r:RT ⟨m,hp u,t⟩ (.m .Lt (.a (.v a) 13) (.b .Sub (.a (.v a) 8) (.cI 1))) (decide ((y.2)<(((ss y.1).length+1:Nat):Int)-1)):=eH (ra (aG ha) X.aC Y X.aF) (jv (ra (aG ha) X.aC Y X.aI) bG xG) yX
 rw[succ_sub]at r;have e:decide ((y.2:Int)<((ss y.1).length))=(sym y).isSome:=by
  cases hs:sym y with
  |none=>exact aA λw=>ax (jB.mp w) (iP.mpr (jj.mp hs))
  |some s=>exact az (jB.mpr (cG.mp hs).1)
 exact aj e r
def Oa(H:HL)(i:Io y)(ha:m a=M (.e (5,[y.1,y.2])))(hs:sym y=M s):RE ⟨m,hp u,t⟩ (.s (.a (.v a) 1) (.b .Add (.a (.v a) 13) (.cI 1))) (.s s):=by have X:=ix H i;exact zH (ra (aG ha) X.aC Y X.aK) (jv (ra (aG ha) X.aC Y X.aF) bG qm) (fU (Nr i.2 hs))
def W4:(bI (d1 1 13) (.s s)).isSome=decide (s=sE):=by
 by_cases e:s=sE
 .subst e;rw[rK,az Y];rfl
 .rw[show bI (d1 1 13) (.s s)=U from au λw=>e (str_inj w).symm,aA e];rfl
def P2(x:Rn):Prop:=dD bx/\x.u (32,[])=U/\∀w,w (32,[])=M (.l (cA.map tV))->x.Q (.e (32,[])) (hb (mix [32] w x.u)) x.t
section
variable{x:Rn} (hh:P2 x)
def P2.aI:=hh.1
def P2.aF:=hh.2.1
def P2.aC:=hh.2.2
end
def Ob(x:Rn):Prop:=bO (x.n+1) (bS 36) [.e (20,[]),.e (24,[])] x.Q (hb x.u) x.t
def r2:Rn:=wJ P2 Ob
noncomputable def m2:Mp:=aJ (λi=>([V.e (20,[]),.e (24,[])]++[])[i]?) 2 (.e (32,[]))
abbrev s2(v:Mp)(xs:Nl):AS:=⟨ba [3,4,5,6] v m2,hb (mix [32] (r2.u.aH (32,[]) (.l (xs.map tV))) r2.u),r2.t⟩
def TC(j k:Nat)(x:It):Nl:=rS (bx.c.take j)++if sym x=M sE/\k≠0 then [j]else []
inductive TJ(j k:Nat)(x:It):QA
 |mk {v:Mp}:v 3=M (.i j)->TJ j k x (s2 v (TC j k x))
inductive TI(j:Nat):QA
 |mk {v:Mp}:TI j (s2 v (rS (bx.c.take j)))
def ajr(H:P2 r2):Ob r2:=by
 have B:=H.aI;refine f9 agv Y (cF (fy (eV ⟨b7 _,dQ (32,[]) Y H.aF ?_⟩)));show WB _ _ _ ⟨m2,(hb r2.u).aH (32,[]) (.l []),r2.t⟩;rw[bJ Y,bJ Y,show r2.u.aH (32,[]) (.l [])=mix [32] (r2.u.aH (32,[]) (.l [])) r2.u from mR Y,show m2=ba [3,4,5,6] m2 m2 from jx]
 refine BW (bx.c.map λc=>.e (34,c.1)) TI (aG Y) (λj K J=>by cases J;exact B.aF.aF) (.mk) (λj x K hx J=>?_) λK J=>?_
 .cases J with|@mk v=>?_
  obtain⟨c,hc,rfl⟩:=d7 hx;refine fH (Cs.of B hc) λlc hj hl ab=>?_;have el:=aq qf (bF (hj.symm.trans hc))
  subst el;have zt:(rS (bx.c.take j)).length<=35:=by unfold rS;rw[bc];exact aV (aod ..) (by rw[PR];exact aV (q7 ..) B.aF.lB)
  show WB _ _ _ ⟨aJ (aJ (ba [3,4,5,6] v m2) 3 (.i j)) 4 (.e (34,c.1)),_,r2.t⟩;rw[bZ Y,bZ Y];have e0:TC j 0 c.2=rS (bx.c.take j):=by unfold TC;rw[au λw=>w.2 Y,i8]
  rw[<-e0];refine iW (bu (stI c.2)) (λk=>TJ j k c.2) (aG Y) (λk K J=>by cases J;exact hl) (.mk Y) (λk y K hy J=>?_) λK J=>?_
  .cases J with|@mk v v3=>?_
   obtain⟨y,hz,rfl⟩:=d7 hy;have ym:=cO hz
   have i:=rO ab ym;show WB _ _ _ ⟨aJ (ba [3,4,5,6] v m2) 5 (.e (5,[y.1,y.2])),_,r2.t⟩;rw[bZ Y];have hE:sym y=M sE->sym c.2=M sE:=λs=>by
    unfold stI kr at ym;rcases cZ.mp ym with h|h
    .rcases cU.mp h with rfl|h
     .exact s
     .split at h
      .exact(Ag h).elim λa w=>ax (bF (w.1.symm.trans s)) w.2
      .exact bA h
    .split at h
     .assumption
     .exact bA h
   have done:∀v':Mp,v' 3=M (.i j)->(sym y=M sE->k≠0)->TJ j (k+1) c.2 (s2 v' (TC j k c.2)):=λv' v3 no=>by
    have e:TC j (k+1) c.2=TC j k c.2:=by unfold TC;refine aq _ (x8 ⟨λw=>⟨w.1,?_⟩,λw=>⟨w.1,qD k⟩⟩);intro k0;subst k0;obtain rfl:c.2=y:=bF hz;exact no w.1 Y
    exact aj e (.mk v3)
   refine mq (N9 B.aC i Y) (λhs=>?_) λhs=>aM (aM (done _ v3 λe=>by rw[e]at hs;exact b9 hs))
   refine oE (CR.mp hs) λs hs=>?_;refine eZ (jG (aW (aG v3) (aW (Oa B.aC i Y hs) bD)) (by decide:2<=16777216)) ?_
   show WB _ _ _ ⟨aJ (ba [3,4,5,6] _ m2) 6 _,_,r2.t⟩;rw[bZ Y];refine jd (aj W4 (sY (dH (aG Y) bG (yV Y)) (ra (ra (aG Y) (qA B) Y Y) B.aC.aC Y Y) B.aC.bb Y)) (λsn=>?_) λsn=>aM (aM (aM (done _ v3 λe=>ax (bF (hs.symm.trans e)) sn)));subst sn;have cE:=hE hs
   have tt:decide (tV j∈(TC j k c.2).map tV)=decide (j∈TC j k c.2):=decide_eq_decide.mpr ajn;have rT:=(bo:(r2.u.aH (32,[]) (.l ((TC j k c.2).map tV))) (32,[])=_)
   have nb:j∉rS (bx.c.take j):=λh=>by
    refine bT (bX.mp h) λp hp e=>?_;have:=(cG.mp (CM.mp (lZ.mp hp).1)).1
    rw[e]at this;exact dq j (dJ this (List.length_take_le ..))
   have jm:j∈TC j k c.2↔k≠0:=by
    unfold TC;by_cases k0:k=0
    .rw[au λw=>w.2 k0,i8];exact⟨λh=>ax h nb,λh=>ax k0 h⟩
    .rw[aw ⟨cE,k0⟩];exact⟨λb=>k0,λb=>dI _ (.head _)⟩
   refine wB (aj tt (HY (aG Y) (aG Y) rT (λv h=>(bX.mp h).elim λB k=>aj k.2 Y) Y)) (λni=>?_) λni=>aM (aM (aM (aM (done _ v3 λb=>jm.mp ni))));have k0:=Ge.mp λw=>ni (jm.mpr w)
   subst k0;refine pJ Y Y (aG Y) rT (aG Y) (by rw[bc,e0];exact bM zt (ao Y)) (aM (aM (aM (aM ?_))))
   rw[bJ Y,bJ Y,nW,show(TC j 0 c.2).map tV++[V.cq [V.i j,V.s sE]]=(TC j 1 c.2).map tV from by rw[e0];unfold TC;rw[aw ⟨cE,Z8⟩,dF];rfl]
   exact .mk v3
  .rw[bu,bc]at J;cases J with|@mk v v3=>?_
   refine aM ?_;have e:TC j (stI c.2).length c.2=rS (bx.c.take (j+1)):=by rw[ajo hc];unfold TC;refine aq _ (x8 ⟨λw=>w.1,λw=>⟨w,λz=>Ai (PL.mp z)⟩⟩)
   exact ak e .mk
 .rw[bc]at J;cases J with|@mk v=>?_
  exact ak iu (kc (aG Y) (H.aC _ bo))
def ajs{x:Rn}(p:P2 x):Ob x:=x5 ajr p
noncomputable def sl(j:Nat):Nl:=bx.c[j]?.elim [] (·.1)
variable{k:Nat} {Q:RQ}
def Cs.sl(h:Cs j x):bx.c[j]?=M (iB.Lean.sl j,x)/\bx.u (34,iB.Lean.sl j)=M (.l (bu (stI x))):=by
 refine fH h λl k e a=>?_;have q:iB.Lean.sl j=l:=aq (λo:Option n7=>o.elim [] (·.1)) k
 exact ak q ⟨k,e⟩
def Oc{l:Loc}{o:af}(e:R.contains l.1=Z):mix R w (u.aH l o)=(mix R w u).aH l o:=funext λk=>by
 unfold mix Hp.aH;by_cases c:k=l
 .rw[aw c,aw c,c,e];rfl
 .rw[au c,au c]
def W9{N:Nat}(H:HL)(C:GC es A nB N u)(hk:bI es (gk x s)≠U)(ab:Mn x)(e0:mv x s=M y)(hl:u (34,l)=M (.l (bu (stI x))))(q:∀l w',u (34,l)=M (.l (bu (stI y)))->Q (.e (34,l)) (hp (mix [99] w' u)) (t+1)):bO (n+3) (bS 33) [.e (20,[]),.e (34,l),.s s] Q (hp u) t:=by
 refine oE (anJ.mp hk) λv hv=>?_;rcases C.aO _ _ v hv with⟨y',e1,l',rfl,Xa⟩|⟨e1,_⟩
 .obtain rfl:=bF (e0.symm.trans e1);refine f9 Vo Y (cF (iT (re (ra (aG Y) C.aC.choose_spec.1 Y Y) ⟨_,kX C.aI,fM (NR H ab hl Y Y λw'=>eV (sS C.aI NS ?_))⟩)));exact ak hv (gN (Fy Ai▸fq (aG Y) (sQ Xa)) (kc (aG Y) (q l' w' Xa)))
 .exact cW (e1.symm.trans e0)
def Xb(B:dD bx)(h:Cs j x)(e0:mv x s=M y)(q:∀l w',bx.u (34,l)=M (.l (bu (stI y)))->Q (.e (34,l)) (hb (mix [99] w' w)) (t+1)):bO (n+3) (bS 33) [.e (20,[]),.e (34,sl j),.s s] Q (hb w) t:=by
 refine fH (B9 e0) λz hz ez a=>?_;refine W9 B.aC (B.aF.aO.qY (w2:=mix zR w bx.u) (λa=>Y) (λa=>Y) Y Y λa=>Y).1 (h.pk B hz (Iy ez)) h.mn e0 h.sl.2 λl w' hl=>?_;rw[show hp (mix [99] w' (mix zR w bx.u))=hb (mix [99] w' w) from aq hp (kb Y)]
 exact q l w' hl
noncomputable def mC(x:It):It:=(x.1,x.2+1)
def mD(x:It)(k:Nat):Ss:=dd (((stI (mC x)).take k).filterMap sym)
def DR(x:It):Ss:=mD x (stI (mC x)).length++if x=(0,0)then [dP]else []
def FH(h:sym x=M sE):bE (mC x):=⟨fY _,h⟩
def Xc(m:Mn x)(h:sym x=M sE):Mn (mC x):=(Fu m (x2 h)).1
def ajt(h:sym x=M sE)(hy:y∈stI (mC x))(hs:sym y=M s):s≠sE:=by
 rw[rN (FH h)]at hy;rcases cU.mp hy with rfl|hy
 .exact Il (FH h) hs
 .exact(Ag hy).elim λa k=>aj (bF (k.1.symm.trans hs)) k.2
def Xd(B:dD bx)(h:Cs j x)(hx:sym x=M sE)(m0:m 0=M (.e (20,[])))(m1:m 1=M (.e (24,[])))(ma:m a=M (.i j))(mb:m b=M (.s sE))(q:∀l w',bx.u (34,l)=M (.l (bu (stI (mC x))))->P (.e (34,l)) ⟨m,hb (mix [99] w' w),t+1⟩):WE (n+3) (.ic (.v 0) 48 (.c (.s (.v 1) (.v a)) (.c (.v b) .n))) P ⟨m,hb w,t⟩:=
 jw (re (aG m0) ⟨_,kW (qA B) Y Y,rl (aW (zG (aG m1) B.aF.aF (aG ma) (fU h.sl.1)) (aW (aG mb) bD)) (bO.o (Xb B h (x2 hx) q))⟩)
structure uS extends Rn where
 j:Nat
 x:It
def P3(x:uS):Prop:=dD bx/\Cs x.j x.x/\sym x.x=M sE/\x.u (39,[x.j])=U/\∀w,x.Q (.e (39,[x.j])) (hb ((mix [99] w x.u).aH (39,[x.j]) (.l ((DR x.x).map .s)))) (x.t+1)
section
variable{x:uS} (hh:P3 x)
def P3.aO:=hh.1
def P3.aC:=hh.2.1
def P3.aF:=hh.2.2.1
def P3.aK:=hh.2.2.2.1
def P3.aI:=hh.2.2.2.2
end
def Od(x:uS):Prop:=bO (x.n+4) (bS 37) [.e (20,[]),.e (24,[]),tV x.j,.e (53,[])] x.Q (hb x.u) x.t
def r3:uS:=uP ⟨Cb,0,(0,0)⟩ P3 Od
def m3:Mp:=aJ (aJ (aJ (λi=>([V.e (20,[]),.e (24,[]),tV r3.j,.e (53,[])]++[])[i]?) 4 (.i r3.j)) 5 (.s sE)) 6 (.e (39,[r3.j]))
abbrev s3(v:Mp)(w:Hp)(xs:Ss):AS:=⟨ba [7,8,9] v m3,hb ((mix [99] w r3.u).aH (39,[r3.j]) (.l (xs.map .s))),r3.t+1⟩
inductive DJ(w:Hp)(k:Nat):QA
 |mk {v:Mp}:DJ w k (s3 v w (mD r3.x k))
def Xe{l:List It}(h:l[k]?=M x):dd ((l.take (k+1)).filterMap sym)=(sym x).toList.foldl ki (dd ((l.take k).filterMap sym)):=by
 rw[take_snoc h,Jh,MX,dd,ZM]
 rfl
def Xf:(mD x k).length<=10:=aV HZ (aV (CT ..) (aV (q7 ..) rP))
def aju(h:sym y=M s)(n:s≠sE):s∈ts:=(z4 s (tj h)).mpr n
def ajv(H:P3 r3):Od r3:=by
 have B:=H.aO;have M':=Xc H.aC.mn H.aF
 refine f9 agw Y (hM (xN (re (aG Y) ⟨[.i r3.j,.s sE],Y,Y,cF (fy (eV ⟨b7 _,dQ (39,[r3.j]) Y H.aK ?_⟩))⟩)));show WB _ _ _ ⟨m3,(hb r3.u).aH (39,[r3.j]) (.l []),r3.t⟩;rw[bJ Y,bJ Y];refine cF (Xd B H.aC H.aF Y Y Y Y λl w hl=>?_);rw[show mix [99] w (r3.u.aH (39,[r3.j]) (.l []))=(mix [99] w r3.u).aH (39,[r3.j]) (.l (([]).map .s)) from Oc Y,show m3=ba [7,8,9] m3 m3 from jx]
 show WB _ _ _ ⟨aJ (ba [7,8,9] m3 m3) 7 _,_,_⟩;rw[bZ Y];refine iW (bu (stI (mC r3.x))) (DJ w) (aG Y) (λk K J=>by cases J;exact hl) .mk (λk y K hy J=>?_) λK J=>?_
 .cases J with|@mk v=>?_
  obtain⟨y,hz,rfl⟩:=d7 hy;have ym:=cO hz
  have i:=rO M' ym;show WB _ _ _ ⟨aJ (ba [7,8,9] v m3) 8 (.e (5,[y.1,y.2])),_,_⟩;rw[bZ Y];refine mq (N9 B.aC i Y) (λhs=>?_) λhs=>aM (aM ?_)
  .refine oE (CR.mp hs) λs hs=>?_;have eT:mD r3.x (k+1)=ki (mD r3.x k) s:=by unfold mD;rw[Xe hz,hs];rfl
   refine eZ (Oa B.aC i Y hs) ?_;show WB _ _ _ ⟨aJ (ba [7,8,9] _ m3) 9 _,_,_⟩;rw[bZ Y];have Cg:=(bo:((mix [99] w r3.u).aH (39,[r3.j]) (.l ((mD r3.x k).map .s))) (39,[r3.j])=_)
   refine gN (aj (az (aju hs (ajt H.aF ym hs))) (B4 (aG Y) (ra (ra (aG Y) (qA B) Y Y) B.aC.aC Y Y) B.aC.aK)) (wB (zQ (aG Y) (aG Y) Cg) (λni=>?_) λni=>aM (aM (aM (aM (aj (eT.trans (zM ni)) .mk)))));refine pJ Y Y (aG Y) Cg (aG Y) (by rw[bc];exact bM Xf (ao Y)) (aM (aM (aM (aM ?_))))
   rw[bJ Y,nW,show(mD r3.x k).map V.s++[.s s]=(ki (mD r3.x k) s).map .s from aj (zL ni).symm (dF (l₂:=[s])).symm,<-eT]
   exact .mk
  .have eT:mD r3.x (k+1)=mD r3.x k:=by
    unfold mD;rw[Xe hz];cases h:sym y with
    |none=>rfl
    |some s=>rw[h]at hs;exact b9 hs
   exact(aj eT .mk)
 .rw[bu,bc]at J;cases J with|@mk v=>?_
  have P0:=px B.aC (b7 _);refine bT (W0 B (b7 _)) λg hg eg=>?_;have e1:=(eg 1 (ao Y) (ao Y)).trans P0.aC.aC.2.1
  have rs:RE (s3 v w (mD r3.x (stI (mC r3.x)).length)) (.s (.a (.s (.a (.a (.v 0) 30) 15) (.cI 0)) 1) (.cI 0)) (.s sE):=zH (ra (zG (ra (ra (aG Y) (qA B) Y Y) B.aC.aC Y Y) B.aC.aI bG (B7 (fY _))) hg Y e1) bG Y;refine mq (uL (eH (aG Y) bG (qn Y Y)) (my (aG Y) rs)) (λc=>?_) λc=>aM (kc (aG Y) ?_)
  .have c:r3.x=(0,0):=by have e:=jT (lT (aB (dS.mp c).1));exact(e▸H.aC).fn (wO B)
   have Cg:=(bo:((mix [99] w r3.u).aH (39,[r3.j]) (.l ((mD r3.x (stI (mC r3.x)).length).map .s))) (39,[r3.j])=_);refine pJ (y:=.s dP) Y Y (aG Y) Cg bW (by rw[bc];exact bM Xf (ao Y)) (aM (kc (aG Y) ?_))
   rw[bJ Y,nW,show(mD r3.x (stI (mC r3.x)).length).map V.s++[.s dP]=(DR r3.x).map .s from by rw[DR,aw c,dF];rfl]
   exact H.aI w
  .have c:r3.x≠(0,0):=λe=>by have e:=H.aC.N6 B (ak e (wO B));rw[e,az (Y)]at c;exact of_decide_eq_false ((Qj _).symm.trans c) Y
   have e:mD r3.x (stI (mC r3.x)).length=DR r3.x:=by rw[DR,au c,i8]
   exact ak e (H.aI w)
def ajw{x:uS}(p:P3 x):Od x:=x4 ajv p
def P4(x:uS):Prop:=dD bx/\Cs x.j x.x/\sym x.x=M sE/\x.u (33,[0,x.j])=U/\x.u (53,[])=M (.s [])/\∀w,x.Q (.e (33,[0,x.j])) (hb ((mix [99] w x.u).aH (33,[0,x.j]) (.l []))) (x.t+1+1)
section
variable{x:uS} (hh:P4 x)
def P4.bb:=hh.1
def P4.aF:=hh.2.1
def P4.aC:=hh.2.2.1
def P4.aO:=hh.2.2.2.1
def P4.aK:=hh.2.2.2.2.1
def P4.aI:=hh.2.2.2.2.2
end
def Oe(x:uS):Prop:=bO (x.n+4) (bS 38) [.e (20,[]),.e (24,[]),tV x.j,.e (53,[])] x.Q (hb x.u) x.t
def r4:uS:=uP ⟨Cb,0,(0,0)⟩ P4 Oe
def m4:Mp:=aJ (aJ (aJ (λi=>([V.e (20,[]),.e (24,[]),tV r4.j,.e (53,[])]++[])[i]?) 4 (.e (33,[0,r4.j]))) 5 (.i r4.j)) 6 (.s sE)
abbrev s4(v:Mp)(w:Hp)(t:Nat):AS:=⟨ba [7,8,9,10] v m4,hb ((mix [99] w r4.u).aH (33,[0,r4.j]) (.l [])),t⟩
inductive RJ(w:Hp)(_:Nat):QA
 |mk {v:Mp}:RJ w _ (s4 v w (r4.t+1+1))
def ajx(H:P4 r4):Oe r4:=by
 have B:=H.bb;have M':=Xc H.aF.mn H.aC
 have h31:=H.aK;refine f9 agx Y (cF (fy (eV ⟨b7 _,dQ (33,[0,r4.j]) Y H.aO (hM (xN (re (aG Y) ⟨[.i r4.j,.s sE],Y,Y,?_⟩)))⟩)));show WB _ _ _ ⟨m4,(hb r4.u).aH (33,[0,r4.j]) (.l []),r4.t⟩;rw[bJ Y,bJ Y];refine cF (Xd B H.aF H.aC Y Y Y Y λl w hl=>?_);rw[Oc Y,show m4=ba [7,8,9,10] m4 m4 from jx]
 show WB _ _ _ ⟨aJ (ba [7,8,9,10] m4 m4) 7 _,_,_⟩;rw[bZ Y];refine cF (iT (re (ra (aG Y) (qA B) Y Y) ⟨_,kX B.aF.aC,fM (kU (rl (aW (aG Y) bD) (bO.o (x7 B.aC M' hl λw2=>rl (aW (rD bG) bD) (ur B.aF.aC (Ak).1 ?_)))))⟩));rw[show hp (mix [99] w2 (mix zR ((mix [99] w r4.u).aH (33,[0,r4.j]) (.l [])) bx.u))=hb ((mix [99] (mix [99] w2 w) r4.u).aH (33,[0,r4.j]) (.l [])) from aq hp ((kb Y).trans (aq (λx=>mix zR x bx.u) ((Oc Y).trans (aq (λx:Hp=>x.aH (33,[0,r4.j]) (.l [])) (kb Y)))))]
 show WB _ _ _ ⟨aJ (ba [7,8,9,10] _ m4) 8 _,_,_⟩;rw[bZ Y];refine iW (bu (stI (mC r4.x))) (RJ (mix [99] w2 w)) (aG Y) (λk K J=>by cases J;exact hl) .mk (λk y K hy J=>?_) λK J=>?_
 .cases J with|@mk v=>?_
  obtain⟨y,hz,rfl⟩:=d7 hy;have i:=rO M' (cO hz)
  show WB _ _ _ ⟨aJ (ba [7,8,9,10] v m4) 9 (.e (5,[y.1,y.2])),_,_⟩;rw[bZ Y];refine mq (N9 B.aC i Y) (λhs=>?_) λhs=>aM (aM .mk);refine oE (CR.mp hs) λs hs=>?_;refine eZ (Oa B.aC i Y hs) ?_;show WB _ _ _ ⟨aJ (ba [7,8,9,10] _ m4) 10 _,_,_⟩;rw[bZ Y];have e1:(Z^^decide (V.s s∈([])))=Z:=by rw[aA λh=>bA h];rfl
  exact eC (Qy e1 (eH (aG Y) (aG Y) (TM (m:=Z) h31))) (aM (aM (aM .mk)))
 .cases J with|@mk v=>?_
  exact kc (aG Y) (H.aI _)
def ajz{x:uS}(p:P4 x):Oe x:=x4 ajx p
def ND(f:Nat->Int):Es:=cA.map λj=>(tV j,.i (f j))
noncomputable def FD(ds:Nl)(f:Nat->Nat):Es:=ds.map λj=>(tV j,.e (39,[f j]))
noncomputable def mS{α:Type}(f:Nat->α)(a:Nat)(v:α):Nat->α:=λb=>if b=a then v else f b
variable{g:Nat->V} {f:Nat->Nat} {z:Int} {k:V}
section
variable{N:Nat->Int} {ds:Nl}
def Xg:∀{ks:Nl},a∈ks->ks.Nodup->cX (ks.map λB=>(tV B,g B)) (tV a) v=ks.map λB=>(tV B,mS g a v B):=by
 intro ks
 induction ks with
 |nil=>exactλh b=>bA h
 |cons B ks ih=>
  intro h nd;have nd:=iY.mp nd
  rw[l6,yO,l6];by_cases c:B=a
  .rw[aw (aq tV c),c];exact congr (aq _ (aq _ (aw Y).symm)) (Jm λx hx=>aq _ (au λw:x=a=>nd.1 (ak (c.trans w.symm) hx)).symm)
  .rw[au λw=>c (tI w),ih ((cU.mp h).resolve_left λw=>c w.symm) nd.2];exact aq (·::_) (aq _ (au c).symm)
def uT:∀{ks:Nl},a∈ks->bI (ks.map λB=>(tV B,g B)) (tV a)=M (g a):=by
 intro ks
 induction ks with
 |nil=>exactλh=>bA h
 |cons B ks ih=>
  intro h;rw[l6,ui];by_cases c:B=a
  .rw[aw (aq tV c),c]
  .rw[au λw=>c (tI w)];exact ih ((cU.mp h).resolve_left λw=>c w.symm)
def Xh{f:Nat->α}{v:α}(h:α->β):(λB=>mS (λj=>h (f j)) a (h v) B)=λB=>h (mS f a v B):=funext λB=>by
 unfold mS;by_cases c:B=a
 .rw[aw c,aw c]
 .rw[au c,au c]
def kL{f:Nat->α}{v:α}:mS f a v a=v:=aw Y
def kN{f:Nat->α}{v:α}(h:b≠a):mS f a v b=f b:=au h
def Of(h:a∈cA):cX (ND N) (tV a) (.i z)=ND (mS N a z):=(Xg h IA).trans (aq (λg:Nat->V=>cA.map λB=>(tV B,g B)) (Xh V.i))
def ajA(h:a∈ds)(nd:ds.Nodup):cX (FD ds f) (tV a) (.e (39,[b]))=FD ds (mS f a b):=(Xg h nd).trans (aq (λg:Nat->V=>ds.map λB=>(tV B,g B)) (Xh λi=>V.e (39,[i])))
def ajB(n:a∉ds):cX (FD ds f) (tV a) (.e (39,[b]))=FD (ds++[a]) (mS f a b):=(mw (by
 rw[FD,fC];exactλh=>(bX.mp h).elim λB k=>n (aj (tI k.2) k.1))).trans (by
  unfold FD;rw[dF];refine congr (aq _ (Jm λi hi=>?_)) ?_
  .rw[kN λe:i=a=>n (aj e hi)]
  .show [(tV a,V.e (39,[b]))]=[(tV a,V.e (39,[mS f a b a]))];rw[kL])
end
variable{v:Mp} {u0 h0:Hp} {Q:QF} {b:Sx} {x y z:V} {l:Loc}
section
variable{R1 R2:Nl} {o:Sx} {ds:Es}
def hN(c:ab.contains i=O)(k:WB n r Q ⟨ba ab (aJ v i x) m,h,t⟩):WB n r Q (AS.dw ⟨ba ab v m,h,t⟩ i x):=(show WB n r Q ⟨aJ (ba ab v m) i x,h,t⟩ from aj (bZ c).symm k)
def FI(c:ab.contains i=O)(c':ab.contains j=O)(k:WB n r Q ⟨ba ab (aJ (aJ v i x) j y) m,h,t⟩):WB n r Q (AS.dw (AS.dw ⟨ba ab v m,h,t⟩ i x) j y):=(show WB n r Q ⟨aJ (aJ (ba ab v m) i x) j y,h,t⟩ from aj ((aq (aJ · j y) (bZ c)).trans (bZ c')).symm k)
def rU(he:RE ⟨ba ab v m,h,t⟩ e x)(c:ab.contains i=O)(k:WB n r Q ⟨ba ab (aJ v i x) m,h,t⟩):WB n (.c (.g (.v i) e) r) Q ⟨ba ab v m,h,t⟩:=eZ he (hN c k)
def je(c1:R1.contains l.1=O)(c2:R2.contains l.1=O):(mix R1 (mix R2 w u0) h0).aH l ob=mix R1 (mix R2 (w.aH l ob) u0) h0:=(bJ c1).trans (aq (λx=>mix R1 x h0) (bJ c2))
def An(c1:R1.contains l.1=O)(c2:R2.contains l.1=O)(l0:rg l=O)(ho:RE ⟨m,mix R1 (mix R2 w u0) h0,t⟩ o (.e l))(hl:(mix R1 (mix R2 w u0) h0) l=M (.l vs))(he:RE ⟨m,mix R1 (mix R2 w u0) h0,t⟩ e y)(z:vs.length<16777216)(q:WB n r Q ⟨m,mix R1 (mix R2 (w.aH l (.l (vs++[y]))) u0) h0,t⟩):WB n (.c (.e (.cD .a o (.c e .n))) r) Q ⟨m,mix R1 (mix R2 w u0) h0,t⟩:=
 zJ ho he l0 hl z (show WB n r Q ⟨m,(mix R1 (mix R2 w u0) h0).aH l _,t⟩ from aj (je c1 c2).symm q)
def lC(c1:R1.contains l.1=O)(c2:R2.contains l.1=O)(ho:RE ⟨m,mix R1 (mix R2 w u0) h0,t⟩ o (.e l))(hl:(mix R1 (mix R2 w u0) h0) l=M (.d ds))(hi:RE ⟨m,mix R1 (mix R2 w u0) h0,t⟩ b y)(he:RE ⟨m,mix R1 (mix R2 w u0) h0,t⟩ e z)(kx:y.cV 7=O)(hz:ds.length<16777216)(q:WB n r Q ⟨m,mix R1 (mix R2 (w.aH l (.d (cX ds y z))) u0) h0,t⟩):WB n (.c (.aaE o b e) r) Q ⟨m,mix R1 (mix R2 w u0) h0,t⟩:=
 wo he ho hi hl kx hz (show WB n r Q ⟨m,(mix R1 (mix R2 w u0) h0).aH l _,t⟩ from aj (je c1 c2).symm q)
end
noncomputable def tk(k:Nat)(l:Loc):Bool:=[39,99].contains l.1||([33,37,38].contains l.1&&dM (l.2.headD 0) k)
def Off(k:Nat)(u w:Hp):Prop:=∀l:Loc,tk k l=Z->w l=u l
structure TX extends Rn where
 k:Nat
 b:Nat->Ss
 ys:Nat->Nl
 c:aY
 a:aY
def P5(x:TX):Prop:=dD bx/\(∀n' j w t Q,j∈cA->Off x.k x.u w->w (39,[j])=x.u (39,[j])->(∀w' t',(∀l:Loc,l.1≠99->l≠(39,[j])->w' l=w l)->w' (39,[j])=M (.l ((x.b j).map .s))->Q (.e (39,[j])) (hb w') t')->bO (x.n+n') x.c [tV j] Q (hb w) t)/\(∀n' j w t Q,j∈cA->Off x.k x.u w->w (33,[x.k,j])=x.u (33,[x.k,j])->(∀r y w' t',(∀l:Loc,l.1≠99->l≠(33,[x.k,j])->w' l=w l)->(r=31\/r=33/\y=[x.k,j])->w' (r,y)=M (.l ((x.ys j).map tV))->Q (.e (r,y)) (hb w') t')->bO (x.n+n') x.a [tV j] Q (hb w) t)/\(∀j∈cA,∀i∈x.ys j,i∈cA)/\∀j∈cA,(x.b j).Nodup/\∀a∈x.b j,jM a
section
variable{x:TX} (hh:P5 x)
def P5.aC:=hh.1
def P5.aO:=hh.2.1
def P5.aK:=hh.2.2.1
def P5.aF:=hh.2.2.2.1
def P5.aI:=hh.2.2.2.2
end
structure Dg where
 D:Nl
 S:Nl
 N:Nat->Int
 f:Nat->Nat
 L:Nat->Ss
structure Dh(x:TX)(s:Dg)(w:Hp):Prop where
 aK:w (37,[x.k])=M (.d (ND s.N))
 aO:w (37,[x.k,0])=M (.l (s.S.map tV))
 aF:w (38,[x.k])=M (.d (FD s.D s.f))
 aI:∀i∈s.D,w (39,[i])=M (.l ((s.L i).map .s))
 bb:∀i,i∉s.D->w (39,[i])=x.u (39,[i])
 bz:∀i,i∉s.D->w (33,[x.k,i])=x.u (33,[x.k,i])
 aC:Off x.k x.u w
structure Mi(x:TX)(s:Dg):Prop where
 bb:s.D.Nodup
 aC:∀i∈s.D,i∈cA
 bz:s.S.Nodup
 aI:∀i∈s.S,i∈s.D
 aF:∀i∈cA,0<=s.N i/\(s.N i=0↔i∉s.D)
 aK:∀i∈s.D,s.f i∈s.D/\∀a∈x.b i,a∈s.L (s.f i)
 aO:∀i∈s.D,(s.L i).Nodup/\∀a∈s.L i,jM a
def Po(x:TX)(j:Nat)(s s':Dg)(T:Nl):Prop:=(∃X,s'.D=s.D++X)/\j∈s'.D/\(∀i∈s.D,s'.f i=s.f i)/\(∀i∈s.D,∀a∈s.L i,a∈s'.L i)/\s'.S=s.S++T/\(∀y∈T,y∉s.D/\∀a∈x.b y,a∈s'.L (s'.f j))/\((∀i,x.ys i=[])->(∀i∈s.D,s.f i=i)->∀i∈s'.D,s'.f i=i)
section
variable{x:TX} {s s':Dg} {T:Nl} (hh:Po x j s s' T)
def Po.aC:=hh.1
def Po.aI:=hh.2.1
def Po.aK:=hh.2.2.1
def Po.bz:=hh.2.2.2.1
def Po.aO:=hh.2.2.2.2.1
def Po.aF:=hh.2.2.2.2.2.1
def Po.bb:=hh.2.2.2.2.2.2
end
def Lp(x:TX)(j:Nat)(s0 s:Dg)(T:Nl):Prop:=(∃X,s.D=s0.D++j::X)/\s.f j=j/\(∀i∈s0.D,s.f i=s0.f i)/\(∀i∈s0.D,∀a∈s0.L i,a∈s.L i)/\s.S=s0.S++j::T/\∀y∈T,y∉s0.D/\y≠j/\∀a∈x.b y,a∈s.L j
section
variable{x:TX} {s0 s:Dg} {T:Nl} (hh:Lp x j s0 s T)
def Lp.aI:=hh.1
def Lp.aC:=hh.2.1
def Lp.bb:=hh.2.2.1
def Lp.aO:=hh.2.2.2.1
def Lp.aK:=hh.2.2.2.2.1
def Lp.aF:=hh.2.2.2.2.2
end
def Og(x:TX):Prop:=∀m j s w t(Q:RQ),Dh x s w->Mi x s->j∈cA->j∉s.D->cA.length<=s.D.length+m->(∀s' w' t' T,Dh x s' w'->Mi x s'->Po x j s s' T->(∀i∈s.D,w' (33,[x.k,i])=w (33,[x.k,i]))->Q .n (hb w') t')->bO (x.n+m) (bS 5) [tV j,.e (37,[x.k]),.e (37,[x.k,0]),.e (38,[x.k]),.e (32,[]),.iF x.a,.iF x.c] Q (hb w) t
def r5:TX:=uP ⟨Cb,0,λa=>[],λa=>[],0,0⟩ P5 Og
def m5(j:Nat):Mp:=λi=>([tV j,.e (37,[r5.k]),.e (37,[r5.k,0]),.e (38,[r5.k]),.e (32,[]),.iF r5.a,.iF r5.c]++[])[i]?
abbrev s5(j:Nat)(v:Mp)(w:Hp)(t:Nat):AS:=⟨ba [7,8,9,10,11] v (m5 j),hb w,t⟩
abbrev t5(k:Nat):Sx:=Sx.gG k MD
variable{k:Nat} {s:Dg} {a:aP} {c:Ss}
section
variable{o:af}
def FJ{a:Nat}{y:Nl}{p:Prop}(h:dM a 37=Z):((a,y):Loc).1=37->p:=λe=>by
 rw[show a=37 from e]at h
 exact b9 h
def Ci:((37,[k,0]):Loc)≠(37,[k]):=λq=>pA (aq (λl:Loc=>l.2.length) q) Y
def lU:(tV i).cV 7=O:=Y
def Oh(B:dD bx){f:Nat->Int}:(ND f).length<16777216:=by rw[ND,bc];exact bM (x9 B) (ao Y)
def ajC(B:dD bx)(ab:Mi r5 s):s.D.length<=35:=aV (ly ab.bb ab.aC) (x9 B)
def Xi(B:dD bx)(ab:Mi r5 s):s.S.length<=35:=aV (ly ab.bz λi h=>ab.aC i (ab.aI i h)) (x9 B)
def Xj(B:dD bx)(ab:Mi r5 s):(FD s.D s.f).length<16777216:=by rw[FD,bc];exact bM (ajC B ab) (ao Y)
def uU(f:Off k u w)(c:tk k l=O):Off k u (w.aH l o):=λl' h=>(aQ λq=>by subst q;rw[h]at c;exact b9 c).trans (f l' h)
def uV{a:Nat}{y:Nl}(h:[33,37,38].contains a=O):tk k (a,k::y)=O:=by unfold tk;rw[h];show(_||(O&&dM k k))=O;rw[AU];exact Bool.or_true _
def oY(c:R.contains l.1=O):(mix R u h) l=u l:=by unfold mix;rw[c];rfl
def Dh.tm(d:Dh r5 s w):Dh r5 s (w.aH (99,[t]) o):=⟨d.aK,d.aO,d.aF,d.aI,d.bb,d.bz,uU d.aC Y⟩
def Dh.add(d:Dh r5 s w)(hj:j∈s.D):Dh r5 {s with L:=mS s.L j c} (w.aH (39,[j]) (.l (c.map .s)))where
 aK:=d.aK
 aO:=d.aO
 aF:=d.aF
 aI:=λi hi=>by
  by_cases e:i=j
  .subst e;rw[show({s with L:=mS s.L i c}:Dg).L i=c from kL]
   exact bo
  .rw[show({s with L:=mS s.L j c}:Dg).L i=s.L i from kN e]
   exact(aQ (mz e)).trans (d.aI i hi)
 bb:=λi hi=>(aQ (mz λe:i=j=>hi (ak e hj))).trans (d.bb i hi)
 bz:=d.bz
 aC:=uU d.aC Y
def Dh.N{N:Nat->Int}(d:Dh r5 s w):Dh r5 {s with N:=N} (w.aH (37,[r5.k]) (.d (ND N))):=⟨bo,(aQ Ci).trans d.aO,d.aF,d.aI,d.bb,d.bz,uU d.aC (uV Y)⟩
def Mi.L(ab:Mi r5 s)(gr:∀a∈s.L j,a∈c)(nd:c.Nodup)(ok:∀a∈c,jM a):Mi r5 {s with L:=mS s.L j c}where
 bb:=ab.bb
 aC:=ab.aC
 bz:=ab.bz
 aI:=ab.aI
 aF:=ab.aF
 aK:=λi hi=>⟨(ab.aK i hi).1,λa ha=>by
  have k:=(ab.aK i hi).2 a ha;show a∈mS s.L j c (s.f i);by_cases e:s.f i=j
  .rw[e,kL];exact gr a (aj e k)
  .rw[kN e];exact k⟩
 aO:=λi hi=>by
  show(mS s.L j c i).Nodup/\∀a∈mS s.L j c i,jM a;by_cases e:i=j
  .rw[e,kL];exact⟨nd,ok⟩
  .rw[kN e];exact ab.aO i hi
def Mi.N{z:Int}(ab:Mi r5 s)(hj:j∈s.D)(z0:0<z):Mi r5 {s with N:=mS s.N j z}:=⟨ab.bb,ab.aC,ab.bz,ab.aI,λi hi=>by
 show 0<=mS s.N j z i/\(mS s.N j z i=0↔i∉s.D);by_cases e:i=j
 .rw[e,kL];exact⟨JG z0,λh=>ax h (apy z0),λh=>ax hj h⟩
 .rw[kN e];exact ab.aF i hi,ab.aK,ab.aO⟩
def Mi.Xk(ab:Mi r5 s)(hj:j∈s.D):0<s.N j:=Int.lt_iff_le_and_ne.mpr ⟨(ab.aF j (ab.aC j hj)).1,λe=>(ab.aF j (ab.aC j hj)).2.mp e.symm hj⟩
end
inductive TK(j i:Nat)(s:Dg)(w0:Hp)(v7:Option V)(t p:Nat):QA
 |mk {v:Mp} {w:Hp} {c:Ss}:v 7=v7->Dh r5 {s with L:=mS s.L j c} w->c.Nodup->(∀a∈c,jM a)->(∀a∈s.L j,a∈c)->(∀a∈(s.L (s.f i)).take p,a∈c)->(s.f i=j->c=s.L j)->(∀y,w (33,y)=w0 (33,y))->TK j i s w0 v7 t p (s5 j v w t)
variable{y m:Nat} {s0:Dg} {T X:Nl} {d:Int}
section
variable{w0:Hp}
def Xl(h:Dh r5 s w)(hj:j∈s.D):RE (s5 j v w t) (.s (.v 3) (.v 0)) (.e (39,[s.f j])):=dH (aG Y) (aG Y) (ig h.aF lU (uT hj))
def IC(h:Dh r5 s w)(hj:j∈cA){a:Nat}{b:Nat}(ha:(ba [7,8,9,10,11] v (m5 j)) a=M (tV i))(hi:i∈cA):RE (s5 j v w t) (.s (.v 1) (.v a)) (.i (s.N i)):=dH (aG Y) (aG ha) (ig h.aK lU (uT hi))
def Xm(P:P5 r5)(h:Dh r5 s w)(ab:Mi r5 s)(hj:j∈s.D)(fx:s.f j=j)(hi:i∈s.D)(v9:v 9=M (tV i))
 (q:∀v' w' t' z c,v' 7=v 7->Dh r5 {s with N:=mS s.N j z,L:=mS s.L j c} w'->Mi r5 {s with N:=mS s.N j z,L:=mS s.L j c}->(∀a∈s.L j,a∈c)->(∀a∈s.L (s.f i),a∈c)->(∀y,w' (33,y)=w (33,y))->Q .n (s5 j v' w' t')):WB n (Sx.tl MC) Q (s5 j v w t):=by
 have jt:=ab.aC j hj;have it:=ab.aC i hi
 have e0:RE (s5 j v w t) (.s (.v 1) (.v 0)) (.i (s.N j)):=IC (b:=0) h jt Y jt;have e9:RE (s5 j v w t) (.s (.v 1) (.v 9)) (.i (s.N i)):=IC (b:=0) h jt v9 it
 have z0:0<(if s.N i<s.N j then s.N i else s.N j):=by
  split
  .exact ab.Xk hi
  .exact ab.Xk hj
 refine lC Y Y (aG Y) h.aK (aG Y) (λn Q q=>qO Y (rl (aW e0 (aW e9 bD)) (adP q))) lU (Oh P.aC) ?_;generalize(if s.N i<s.N j then s.N i else s.N j)=z at z0;rw[Of jt];have h1:=h.N (N:=mS s.N j z)
 have M1:=ab.N hj z0;have k0:∀y,(w.aH (37,[r5.k]) (.d (ND (mS s.N j z)))) (33,y)=w (33,y):=λy=>Y
 generalize w.aH (37,[r5.k]) _=w1 at h1 k0;obtain⟨s1,es⟩:∃s1:Dg,s1={s with N:=mS s.N j z}:=⟨_,Y⟩
 have eL:s1.L=s.L:=ak es Y;have ef:s1.f=s.f:=ak es Y
 have eD:s1.D=s.D:=ak es Y;rw[<-es]at h1 M1;have Xo:i∈s1.D:=ak eD hi
 have ID:j∈s1.D:=ak eD hj;have fx1:s1.f j=j:=ak ef fx
 have q1:∀v' w' t' c,v' 7=v 7->Dh r5 {s1 with L:=mS s1.L j c} w'->Mi r5 {s1 with L:=mS s1.L j c}->(∀a∈s1.L j,a∈c)->(∀a∈s1.L (s1.f i),a∈c)->(∀y,w' (33,y)=w1 (33,y))->Q .n (s5 j v' w' t'):=by exact ak es λv' w' t' c h7 d ab g1 g2 k3=>q v' w' t' z c h7 d ab g1 g2 λy=>(k3 y).trans (k0 y)
 clear q es h ab k0 z0 e0 e9 fx eL ef eD hi hj;refine oA (M1.aK i Xo) λfd g=>?_;refine f6 (nU (qQ (iT (re (aG Y) ⟨_,kX h1.aF,fM (re (aG v9) (fM (fy (eV ⟨b7 _,jJ (eV (ur h1.aF lU ?_))⟩))))⟩))));rw[show bI (FD s1.D s1.f) (tV i)=M (.e (39,[s1.f i])) from uT Xo]
 show IB _ ⟨_,(hb w1).aH (99,[t]) (.l []),t+1⟩ _ _;rw[je Y Y];have eLj:(mS s1.L j (s1.L j))=s1.L:=funext λa=>by
  unfold mS;by_cases e:a=j
  .rw[aw e,e]
  .rw[au e]
 have cont:∀{c:Ss}{w:Hp},Dh r5 {s1 with L:=mS s1.L j c} w->(s1.f i=j->c=s1.L j)->w (39,[s1.f i])=M (.l ((s1.L (s1.f i)).map .s)):=λ{c w} d e=>by
  refine(d.aI (s1.f i) fd).trans (aq (λl:Ss=>M (af.l (l.map .s))) ?_);show mS s1.L j c (s1.f i)=s1.L (s1.f i);by_cases q:s1.f i=j
  .rw[q,kL,e q]
  .rw[kN q]
 have Xp:=M1.aO j ID;have d0:Dh r5 {s1 with L:=mS s1.L j (s1.L j)} (w1.aH (99,[t]) (.l [])):=aj eLj.symm h1.tm
 refine qP (cont (w:=w1.aH (99,[t]) (.l [])) d0 λg=>Y) (oU ((s1.L (s1.f i)).map .s) (TK j i s1 w1 (v 7) (t+1)) (λp K J=>by cases J with|@mk v w c h7 d _ _ _ _ e _=>exact⟨_,cont (w:=w) d e,Y⟩) (.mk Y d0 Xp.1 Xp.2 (λa h=>h) (λa h=>bA h) (λg=>Y) λg=>Y) (λp x K hx J=>?_) λK J=>?_)
 .cases J with|@mk v w c h7 d nd ok g1 g2 e k3=>?_
  obtain⟨a,ha,rfl⟩:=d7 hx;refine hN Y ?_;have rf:RE (s5 j (aJ v 10 (.s a)) w (t+1)) (.s (.v 3) (.v 0)) (.e (39,[j])):=aj (aq (λi=>V.e (39,[i])) fx1) (Xl (s:={s1 with L:=mS s1.L j c}) d ID)
  have ej:w (39,[j])=M (.l (c.map .s)):=(d.aI j ID).trans (aq (λl:Ss=>M (af.l (l.map .s))) kL);have am:=cO ha
  have g3:∀{c':Ss},(∀b∈c,b∈c')->a∈c'->∀b∈(s1.L (s1.f i)).take (p+1),b∈c':=λ{c'} h1 h2 b hb=>by rw[take_snoc ha]at hb;exact(cZ.mp hb).elim (λhb=>h1 b (g2 b hb)) λe=>ak (bK.mp e) h2
  have zc:c.length<=9:=ly nd λa ha=>oX (ok a ha);refine wB (zQ (aG Y) rf ej) (λni=>An Y Y Y rf ej (aG Y) (by rw[bc];exact bM zc (ao Y)) (aM (aM ?_))) λni=>aM (aM (.mk h7 d nd ok g1 (g3 (λb h=>h) ni) e k3))
  have d2:Dh r5 {s1 with L:=mS s1.L j (c++[a])} (w.aH (39,[j]) (.l ((c++[a]).map .s))):=by
   have q:=d.add (c:=c++[a]) ID;have e2:mS (mS s1.L j c) j (c++[a])=mS s1.L j (c++[a]):=funext λb=>by
    unfold mS;by_cases e:b=j
    .rw[aw e,aw e]
    .rw[au e,au e,au e]
   rw[show({({s1 with L:=mS s1.L j c}:Dg)with L:=mS (mS s1.L j c) j (c++[a])}:Dg)={s1 with L:=mS s1.L j (c++[a])} from aq (λL=>({s1 with L:=L}:Dg)) e2]at q
   exact q
  have nf:¬s1.f i=j:=λq=>ni (ak (e q) (q▸am));exact .mk h7 (by rw[show c.map V.s++[V.s a]=(c++[a]).map .s from(dF (l₂:=[a])).symm];exact d2) (mK nd ni) (λb hb=>(cZ.mp hb).elim (ok b) λe=>ak (bK.mp e) ((M1.aO _ fd).2 a am)) (λb hb=>dU _ (g1 b hb)) (g3 (λb hb=>dU _ hb) (dI _ (.head _))) (λq=>ax q nf) k3
 .rw[bc]at J;cases J with|@mk v w c h7 d nd ok g1 g2 e k3=>?_
  rw[iu]at g2;exact aM (aM (q1 v w _ c h7 d (M1.L g1 nd ok) g1 g2 k3))
end
noncomputable def FK:Int:=9223372036854775807
noncomputable def Oi(s:Dg)(S:Nl)(y j:Nat):Dg:={s with S:=S,N:=mS s.N y FK,f:=mS s.f y j}
def Xq{l:List α}(h:l≠[]):∃R y,l=R++[y]:=by
 induction l with
 |nil=>exact ax Y h
 |cons a l ih=>
  by_cases c:l=[]
  .exact⟨[],a,by rw[c];rfl⟩
  .refine xl (ih c) λR y e=>?_;exact⟨a::R,y,aq (a::·) e⟩
variable{S':Nl}
section
variable{w0:Hp}
def Mi.pop(ab:Mi r5 s)(e:s.S=S'++[y])(hj:j∈s.D)(fx:s.f j=j)(b:∀a∈r5.b y,a∈s.L j):Mi r5 (Oi s S' y j)where
 bb:=ab.bb
 aC:=ab.aC
 bz:=(t8.mp (aj e ab.bz)).1
 aI:=λi hi=>ab.aI i (ak e (dU _ hi))
 aF:=(ab.N (ab.aI y (ak e (dI _ (.head _)))) (ao Y)).aF
 aK:=λi hi=>by
  show mS s.f y j i∈s.D/\∀a∈r5.b i,a∈s.L (mS s.f y j i);by_cases q:i=y
  .rw[q,kL];exact⟨hj,b⟩
  .rw[kN q];exact ab.aK i hi
 aO:=ab.aO
def ajF(P:P5 r5)(h:Dh r5 s w)(ab:Mi r5 s)(e:s.S=S'++[y])(hj:j∈s.D)(fx:s.f j=j)(q:∀w',Dh r5 (Oi s S' y j) w'->(∀l,w' (33,l)=w (33,l))->WB n r Q (s5 j (aJ v 11 (tV y)) w' t)):
 WB n (.c (.aaE (.v 1) (.s (.v 2) (.q (.cI 1))) (.w 0)) (.c (.aaE (.v 3) (.s (.v 2) (.q (.cI 1))) (.s (.v 3) (.v 0))) (.c (.g (.v 11) (.cD .o (.v 2) .n)) r))) Q (s5 j v w t):=by
 have yD:y∈s.D:=ab.aI y (ak e (dI _ (.head _)));have eS:s.S.map tV=S'.map tV++[tV y]:=by rw[e,dF];rfl
 have zl:(S'.map tV++[tV y]).length=S'.length+1:=by rw[dY,bc];rfl
 have zS:=Xi P.aC ab;have rt:∀{w:Hp},w (37,[r5.k,0])=M (.l (s.S.map tV))->RE (s5 j v w t) (.s (.v 2) (.q (.cI 1))) (tV y):=λh=>dH (aG Y) (rD bG) (Hb (eS▸h) (ak zl (fY _)) (by rw[zl,CN (by rw[bc];exact b8 _),bc,show S'.length+1-(0+1)-S'.length=0 from JF _];rfl))
 refine lC Y Y (aG Y) h.aK (rt h.aO) abM lU (Oh P.aC) ?_;rw[show cX (ND s.N) (tV y) (.i 9223372036854775807)=ND (mS s.N y FK) from Of (ab.aC y yD)]
 have h1:=h.N (N:=mS s.N y FK);have k1:∀l,(w.aH (37,[r5.k]) (.d (ND (mS s.N y FK)))) (33,l)=w (33,l):=λl=>Y
 generalize w.aH (37,[r5.k]) _=w1 at h1 k1;refine lC Y Y (aG Y) h1.aF (rt h1.aO) (Xl h1 hj) lU (show(FD s.D s.f).length<_ from Xj P.aC ab) ?_
 rw[show({s with N:=mS s.N y FK}:Dg).f j=j from fx,show cX (FD s.D s.f) (tV y) (.e (39,[j]))=FD s.D (mS s.f y j) from ajA yD ab.bb]
 have e2:(w1.aH (38,[r5.k]) (.d (FD s.D (mS s.f y j)))) (37,[r5.k,0])=M (.l (S'.map tV++[tV y])):=(aQ (aU Y)).trans (aj eS h1.aO);refine cF (iT (re (aG Y) ⟨_,abY e2,rl bD (ab1 (y:=tV y) (show 37≠0 by decide) e2 ?_ ?_ (hN Y ?_))⟩))
 .rw[zl,CN (by rw[bc];exact b8 _),bc,show S'.length+1-1-S'.length=0 from JF _];rfl
 .rw[zl,<-show s.S.length=S'.length+1 by rw[e,dY];rfl];exact aV zS (ao Y)
 rw[je Y Y,show(S'.map tV++[tV y]).eraseIdx ((S'.map tV++[tV y]).length-1)=S'.map tV by
  rw[zl,show S'.length+1-1=(S'.map tV).length from(bc ..).symm,List.eraseIdx_append_of_length_le (b8 _),JF]
  exact i8 _]
 refine q _ ⟨(aQ Ci.symm).trans h1.aK,bo,(aQ (aU Y)).trans bo,h1.aI,h1.bb,h1.bz,uU (uU h1.aC (uV Y)) (uV Y)⟩ λl=>(k1 l)
def ajG{Q:RQ}(P:P5 r5)(h:Dh r5 s w)(ab:Mi r5 s)(jn:j∉s0.D)(L:Lp r5 j s0 s T)(v7:v 7=M (.i d))(di:(∀i,r5.ys i=[])->T=[]/\((∀i∈s0.D,s0.f i=i)->∀i∈s.D,s.f i=i))(q:∀s' w' t' T,Dh r5 s' w'->Mi r5 s'->Po r5 j s0 s' T->(∀l,w' (33,l)=w (33,l))->Q .n (hb w') t'):WB n (t5 6) (Rt Q) (s5 j v w t):=by
 refine oE L.aI λX eX=>?_;have jD:j∈s.D:=eX▸dI _ (.head _)
 have tD:∀y∈j::T,y∈s.D:=λy hy=>ab.aI y (L.aK▸dI _ hy);have tb:∀y∈j::T,∀a∈r5.b y,a∈s.L j:=λy hy=>by
  rcases cU.mp hy with rfl|hy
  .exactλa ha=>by
    have k:=(ab.aK y jD).2 a ha
    rwa [L.aC]at k
  .exact(L.aF y hy).2.2
 refine mq (eH (IC (b:=0) h (ab.aC j jD) Y (ab.aC j jD)) (aG v7) (qn Y Y)) (λm=>?_) λm=>aM (aM (q s w t (j::T) h ab ⟨⟨_,eX⟩,jD,L.bb,L.aO,L.aK,λy hy=>⟨?_,by rw[L.aC];exact tb y hy⟩,λa b=>(di a).2 b⟩ λm=>Y))
 .have step:∀{n:Nat}{v:Mp}{w1:Hp}{s1:Dg}{R X:Nl}{y:Nat}{r:Sx}{Q':QF},Dh r5 s1 w1->Mi r5 s1->s1.D=s.D->s1.L=s.L->s1.S=s0.S++R++[y]->j::T=R++y::X->s1.f j=j->(∀i,i∉T->s1.f i=s.f i)->(∀v' w' s',Dh r5 s' w'->Mi r5 s'->s'.D=s.D->s'.L=s.L->s'.S=s0.S++R->s'.f j=j->(∀i,i∉T->s'.f i=s.f i)->(∀l,w' (33,l)=w1 (33,l))->v' 11=M (tV y)->WB n r Q' (s5 j v' w' t))->WB n (.c (.aaE (.v 1) (.s (.v 2) (.q (.cI 1))) (.w 0)) (.c (.aaE (.v 3) (.s (.v 2) (.q (.cI 1))) (.s (.v 3) (.v 0))) (.c (.g (.v 11) (.cD .o (.v 2) .n)) r))) Q' (s5 j v w1 t):=λ{n v w1 s1 R X y r Q'} h1 M1 eD eL eS eT f1 Ao k=>by
   have ym:y∈j::T:=eT▸dI _ (.head _);have bj:∀a∈r5.b y,a∈s1.L j:=eL▸tb y ym
   refine ajF P h1 M1 eS (eD▸jD) f1 λw' h' k3=>k _ w' (Oi s1 (s0.S++R) y j) h' (M1.pop eS (eD▸jD) f1 bj) eD eL Y ?_ (λi hi=>?_) k3 Y
   .show mS s1.f y j j=j;by_cases e:j=y
    .rw[e,kL]
    .rw[kN e];exact f1
   .show mS s1.f y j i=s.f i;by_cases e:i=y
    .rw[e,kL];exact(cU.mp ym).elim (λq=>q▸L.aC.symm) λq=>ax (e▸q) hi
    .rw[kN e];exact Ao i hi
  obtain⟨R,y,eR⟩:∃R y,j::T=R++[y]:=Xq (ZU _ _);refine step h ab Y Y (by rw[q9,<-eR];exact L.aK) eR L.aC (λm m=>Y) λv1 w1 s1 h1 M1 eD eL eS f1 Ao k3 v11=>?_
  refine wq (λk K=>∃v w1 s1 R X y,K=s5 j v w1 t/\k=R.length/\j::T=R++y::X/\Dh r5 s1 w1/\Mi r5 s1/\s1.D=s.D/\s1.L=s.L/\s1.S=s0.S++R/\s1.f j=j/\(∀i,i∉T->s1.f i=s.f i)/\(∀l,w1 (33,l)=w (33,l))/\v 11=M (tV y)) ⟨v1,w1,s1,R,[],y,Y,Y,eR,h1,M1,eD,eL,eS,f1,Ao,k3,v11⟩ λk K J=>?_;obtain⟨v,w1,s1,R,X,y,rfl,rfl,eR,h1,M1,eD,eL,eS,f1,Ao,k3,v11⟩:=J;refine⟨_,eH (aG v11) (aG (Y)) (qN lU lU),λc=>?_,λc=>?_⟩
  .have ne:y≠j:=λe=>by rw[e,az (Y:tV j=tV j)]at c;exact b9 c
   by_cases R0:R=[]
   .rw[R0]at eR;exact ax (d6 eR).1.symm ne
   .obtain⟨R,z,rfl⟩:=Xq R0;refine step h1 M1 eD eL (by rw[q9];exact eS) (by rw[eR,q9];rfl) f1 Ao λv' w' s' h' M' eD' eL' eS' f' ff' Oj ajL=>aM ⟨R.length,dY▸i7 _,v',w',s',R,y::X,z,Y,Y,by rw[eR,q9];rfl,h',M',eD',eL',eS',f',ff',λl=>(Oj l).trans (k3 l),ajL⟩
  .have e:y=j:=tI (AH λne=>by rw[aA ne]at c;exact b9 c)
   have R0:R=[]:=by
    cases R with
    |nil=>rfl
    |cons z R=>have q:=(d6 eR).2;exact ax e (L.aF y (ak q (dI _ (.head _)))).2.1
   subst R0;exact aM (aM (q s1 w1 t [] h1 M1 ⟨⟨_,eD.trans eX⟩,eD▸jD,λi hi=>(Ao i λh=>(L.aF i h).1 hi).trans (L.bb i hi),eL▸L.aO,eS,λy h=>bA h,λa b i hi=>(Ao i (((di a).1)▸λh=>bA h)).trans ((di a).2 b i (eD▸hi))⟩ k3))
 .rcases cU.mp hy with rfl|hy
  .exact jn
  .exact(L.aF y hy).1
end
def Lp.mg{s1:Dg}{z:Int}{T1:Nl}(ab:Mi r5 s)(L:Lp r5 j s0 s T)(jD:j∈s.D)(sub:∃X,s1.D=s.D++X)(ff:∀i∈s.D,s1.f i=s.f i)(gr:∀i∈s.D,∀a∈s.L i,a∈s1.L i)(st:s1.S=s.S++T1)(g1:∀a∈s1.L j,a∈c)(tb:∀y∈T1,y∉s.D/\∀a∈r5.b y,a∈c):Lp r5 j s0 {s1 with N:=mS s1.N j z,L:=mS s1.L j c} (T++T1):=by
 refine oE L.aI λX eX=>?_;refine oE sub λX1 e1=>?_;have Ol:∀i∈s0.D,i∈s.D:=λi hi=>ak eX (dU _ hi)
 refine⟨⟨X++X1,by rw[show({s1 with N:=mS s1.N j z,L:=mS s1.L j c}:Dg).D=s1.D from Y,e1,eX,q9];rfl⟩,(ff j jD).trans L.aC,λi hi=>(ff i (Ol i hi)).trans (L.bb i hi),λi hi a ha=>?_,by rw[show({s1 with N:=mS s1.N j z,L:=mS s1.L j c}:Dg).S=s1.S from Y,st,L.aK,q9];rfl,λy hy=>?_⟩
 .have k:=gr i (Ol i hi) a (L.aO i hi a ha);show a∈mS s1.L j c i;by_cases e:i=j
  .rw[e,kL];exact g1 a (aj e k)
  .rw[kN e];exact k
 .show y∉s0.D/\y≠j/\∀a∈r5.b y,a∈mS s1.L j c j;rw[kL];rcases cZ.mp hy with hy|hy
  .have k:=L.aF y hy;exact⟨k.1,k.2.1,λa ha=>g1 a (gr j jD a (k.2.2 a ha))⟩
  .have k:=tb y hy;exact⟨λh=>k.1 (Ol y h),λe=>k.1 (ak e jD),k.2⟩
def ajM(P:P5 r5)(IH:∀j s w t(Q:RQ),Dh r5 s w->Mi r5 s->j∈cA->j∉s.D->cA.length<=s.D.length+m->(∀s' w' t' T,Dh r5 s' w'->Mi r5 s'->Po r5 j s s' T->(∀i∈s.D,w' (33,[r5.k,i])=w (33,[r5.k,i]))->Q .n (hb w') t')->bO (r5.n+m) (bS 5) [tV j,.e (37,[r5.k]),.e (37,[r5.k,0]),.e (38,[r5.k]),.e (32,[]),.iF r5.a,.iF r5.c] Q (hb w) t)
 (h:Dh r5 s w)(ab:Mi r5 s)(L:Lp r5 j s0 s T)(le:cA.length<=s.D.length+m)(it:i∈cA)(v9:v 9=M (tV i))
 (q:∀v' w' t' s' T',v' 7=v 7->Dh r5 s' w'->Mi r5 s'->Lp r5 j s0 s' T'->s.D.length<=s'.D.length->(∀i∈s.D,w' (33,[r5.k,i])=w (33,[r5.k,i]))->Q .n (s5 j v' w' t')):WB (r5.n+m) MC Q (s5 j v w t):=by
 refine oE L.aI λX eX=>?_;have jD:=eX▸dI _ (.head _)
 have rt:RT (s5 j v w t) (.m .Eq (.s (.v 1) (.v 9)) (.cI 0)) (decide (V.i (s.N i)=.i 0)):=eH (IC (b:=0) h (ab.aC j jD) v9 it) bG (qn Y Y);by_cases iD:i∈s.D
 .have n0:=λe=>(ab.aF i it).2.mp e iD;exact eC (aj (aA (λe=>n0 (lT e))) rt) (aM (Xm P h ab jD L.aC iD v9 λv' w' t' z c h7 h' M' g1 g2 k3=>q v' w' t' _ (T++[]) h7 h' M' (L.mg ab jD ⟨[],(i8 _).symm⟩ (λd d=>Y) (λd d d h=>h) (i8 _).symm g1 λy h=>bA h) (b8 _) λi d=>k3 _))
 .have n0:=(ab.aF i it).2.mpr iD;refine gN (aj (az (aq V.i n0)) rt) (oR (kU (rl (aW (aG v9) (aW (aG Y) (aW (aG Y) (aW (aG Y) (aW (aG Y) (aW (aG Y) (aW (aG Y) bD))))))) (bO.o (IH i s w t _ h ab it iD le λs1 w1 t1 T1 h1 M1 af k3=>aM ?_)))));refine oE af.aC λX1 e1=>?_;have sub:∀{i},i∈s.D->i∈s1.D:=λh=>ak e1 (dU _ h)
  refine Xm P h1 M1 (sub jD) ((af.aK j jD).trans L.aC) af.aI v9 λv' w' t' z c h7 h' M' g1 g2 Oj=>q v' w' t' _ (T++T1) h7 h' M' (L.mg ab jD af.aC af.aK af.bz af.aO g1 λy hy=>⟨(af.aF y hy).1,λa ha=>g2 a ((af.aF y hy).2 a ha)⟩) (by rw[show({s1 with N:=mS s1.N j z,L:=mS s1.L j c}:Dg).D=s.D++X1 from e1,dY];exact mI ..) λi hi=>(Oj _).trans (k3 i hi)
def ajN(P:P5 r5):Og r5:=by
 intro m
 induction m with
 |zero=>intro j s w t Q h ab jt jn le;refine ax (ly (mK ab.bb jn) λi hi=>(cZ.mp hi).elim (ab.aC i) λe=>bK.mp e▸jt) ?_;rw[dY];exact Gp.mpr (pX le)
 |succ m IH=>
  intro j s w t Q h ab jt jn le q;have jS:=λe=>jn (ab.aI j e)
  refine f9 agr Y ?_;show WB (r5.n+m) MD _ ⟨m5 j,hb w,t⟩;rw[show m5 j=ba [7,8,9,10,11] (m5 j) (m5 j) from jx]
  have zS:=Xi P.aC ab;refine An Y Y Y (aG Y) h.aO (aG Y) (by rw[bc];exact bM zS (by decide)) ?_
  have e1:(w.aH (37,[r5.k,0]) (.l (s.S.map tV++[tV j]))) (37,[r5.k,0])=M (.l (s.S.map tV++[tV j])):=bo;have zl:(s.S.map tV++[tV j]).length=s.S.length+1:=by rw[dY,bc];rfl
  refine rU (zl▸qu (aG Y) e1) Y ?_;refine lC Y Y (aG Y) ((aQ Ci.symm).trans h.aK) (aG Y) (aG Y) lU (Oh P.aC) ?_;rw[show cX (ND s.N) (tV j) (.i ((s.S.length+1:Nat)))=ND (mS s.N j (s.S.length+1:Nat)) from Of jt]
  have Cj:∀l:Loc,(l.1=37->l.2.headD 0≠r5.k)->((w.aH (37,[r5.k,0]) (.l (s.S.map tV++[tV j]))).aH (37,[r5.k]) (.d (ND (mS s.N j (s.S.length+1:Nat))))) l=w l:=λl h=>(aQ λe=>h (by rw[e]) (by rw[e];rfl)).trans (aQ λe=>h (by rw[e]) (by rw[e];rfl))
  generalize hw:(w.aH (37,[r5.k,0]) _).aH (37,[r5.k]) _=w1 at Cj;have e37:=hw▸bo
  have es:=hw▸(aQ Ci).trans (bo.trans (aq (λl=>M (af.l l)) (dF (l₂:=[j])).symm));have Xr:=hw▸uU (uU h.aC (uV Y)) (uV Y)
  have a9:∀{k y},dM k 99=Z->((k,y):Loc).1≠99:=λ{k y} h e=>by rw[show k=99 from e]at h;exact b9 h
  have rm:∀{v:Mp} {w t},RL (s5 j v w t) (.c (.v 0) .n) [tV j]:=aW (aG Y) bD;have zF:=Xj P.aC ab
  refine hM (uv (T6 Y (rl rm (bO.o (P.aO m j w1 _ _ jt Xr ((Cj _ (FJ Y)).trans (h.bb j jn)) λw2 t2 f2 Cg=>re (aG Y) (re (aG Y) (vV ((f2 (38,[r5.k]) (a9 Y) (aU Y)).trans ((Cj _ (FJ Y)).trans h.aF)) lU zF ?_)))))));show WB _ _ _ ⟨_,(hb w2).aH (38,[r5.k]) _,t2⟩;rw[je Y Y,ajB jn];have f3:∀l:Loc,l.1≠99->l≠(39,[j])->l≠(38,[r5.k])->(w2.aH (38,[r5.k]) (.d (FD (s.D++[j]) (mS s.f j j)))) l=w1 l:=λl h9 h39 h38=>(aQ h38).trans (f2 l h9 h39)
  have Xs:(w2.aH (38,[r5.k]) (.d (FD (s.D++[j]) (mS s.f j j)))) (39,[j])=M (.l ((r5.b j).map .s)):=Cg;have Xt:(w2.aH (38,[r5.k]) (.d (FD (s.D++[j]) (mS s.f j j)))) (38,[r5.k])=M (.d (FD (s.D++[j]) (mS s.f j j))):=bo
  generalize w2.aH (38,[r5.k]) _=w3 at f3 Xs Xt;have tn:∀{l:Loc}{l':Loc},tk r5.k l=Z->tk r5.k l'=O->l≠l':=λh h' e=>by rw[e,h']at h;exact b9 h
  have t9:∀{l:Loc},tk r5.k l=Z->l.1≠99:=λh e=>by unfold tk at h;rw[e]at h;exact b9 h
  have Xu:=λl h=>(f3 l (t9 h) (tn h Y) (tn h (uV Y))).trans (Xr l h);have Om:∀i,w3 (33,[r5.k,i])=w (33,[r5.k,i]):=λi=>(f3 _ (a9 Y) (aU Y) (aU Y)).trans (Cj _ (FJ Y))
  refine cF (T6 Y (rl rm (bO.o (P.aK m j w3 _ _ jt Xu ((Om j).trans (h.bz j jn)) λr y w4 t4 f4 cr el=>hN Y ?_))));obtain⟨s1,hs⟩:∃s1:Dg,s1=⟨s.D++[j],s.S++[j],mS s.N j (s.S.length+1),mS s.f j j,mS s.L j (r5.b j)⟩:=⟨_,Y⟩;have o4:∀{k:Nat}{y:Nl},dM k 99=Z->dM k 33=Z->w4 (k,y)=w3 (k,y):=λh9 h3=>f4 _ (a9 h9) (aU h3)
  have h1:Dh r5 s1 w4:=by
   subst hs;refine⟨(o4 Y Y).trans ((f3 _ (a9 Y) (aU Y) (aU Y)).trans e37),(o4 Y Y).trans ((f3 _ (a9 Y) (aU Y) (aU Y)).trans es),(o4 Y Y).trans Xt,λi hi=>?_,λi hi=>?_,λi hi=>?_,λl h=>(f4 l (t9 h) (tn h (uV Y))).trans (Xu l h)⟩
   .show w4 (39,[i])=M (.l ((mS s.L j (r5.b j) i).map .s));refine(o4 Y Y).trans ?_;by_cases e:i=j
    .rw[e,kL];exact Xs
    .rw[kN e];exact(f3 _ (a9 Y) (mz e) (aU Y)).trans ((Cj _ (FJ Y)).trans (h.aI i ((cZ.mp hi).resolve_right λq=>e (bK.mp q))))
   .have ne:i≠j:=λe=>hi (e▸dI _ (.head _));exact(o4 Y Y).trans ((f3 _ (a9 Y) (mz ne) (aU Y)).trans ((Cj _ (FJ Y)).trans (h.bb i λq=>hi (dU _ q))))
   .have ne:i≠j:=λe=>hi (e▸dI _ (.head _));exact(f4 _ (a9 Y) λe=>ne (d6 (d6 (cP e).2).2).1).trans ((Om i).trans (h.bz i λq=>hi (dU _ q)))
  have z0:(0:Int)<(s.S.length+1):=jB.mpr (fY _);have M1:Mi r5 s1:=by
   subst hs;refine⟨mK ab.bb jn,λi hi=>(cZ.mp hi).elim (ab.aC i) λe=>bK.mp e▸jt,mK ab.bz jS,λi hi=>(cZ.mp hi).elim (λh=>dU _ (ab.aI i h)) λe=>dI _ e,λi hi=>?_,λi hi=>?_,λi hi=>?_⟩
   .show 0<=mS s.N j _ i/\(mS s.N j _ i=0↔i∉s.D++[j]);by_cases e:i=j
    .rw[e,kL];exact⟨JG z0,λh=>ax h (apy z0),λh=>ax (dI _ (.head _)) h⟩
    .rw[kN e];exact⟨(ab.aF i hi).1,(ab.aF i hi).2.trans ⟨λn h=>(cZ.mp h).elim n λq=>e (bK.mp q),λn h=>n (dU _ h)⟩⟩
   .show mS s.f j j i∈s.D++[j]/\∀a∈r5.b i,a∈mS s.L j (r5.b j) (mS s.f j j i);by_cases e:i=j
    .rw[e,kL,kL];exact⟨dI _ (.head _),λa h=>h⟩
    .have iD:=(cZ.mp hi).resolve_right λq=>e (bK.mp q);have k:=ab.aK i iD
     rw[kN e,kN λq:s.f i=j=>jn (q▸k.1)];exact⟨dU _ k.1,k.2⟩
   .show(mS s.L j (r5.b j) i).Nodup/\∀a∈mS s.L j (r5.b j) i,jM a;by_cases e:i=j
    .rw[e,kL];exact P.aI j jt
    .rw[kN e];exact ab.aO i ((cZ.mp hi).resolve_right λq=>e (bK.mp q))
  have L1:Lp r5 j s s1 []:=by
   subst hs;have ne:∀i∈s.D,i≠j:=λi hi e=>jn (e▸hi)
   refine⟨⟨[],Y⟩,kL,λi hi=>kN (ne i hi),λi hi a ha=>?_,Y,λy h=>bA h⟩;show a∈mS s.L j (r5.b j) i;rw[kN (ne i hi)];exact ha
  have di1:(∀i∈s.D,s.f i=i)->∀i∈s1.D,s1.f i=i:=by
   subst hs;intro h i hi;show mS s.f j j i=i;by_cases e:i=j
   .rw[e,kL]
   .rw[kN e];exact h i ((cZ.mp hi).resolve_right λq=>e (bK.mp q))
  have le1:cA.length<=s1.D.length+m:=by
   subst hs;rw[show(⟨s.D++[j],s.S++[j],mS s.N j (s.S.length+1),mS s.f j j,mS s.L j (r5.b j)⟩:Dg).D=s.D++[j] from Y,dY]
   exact aV le (gy (w9 s.D.length m 1))
  have k1:=λi hi=>(f4 _ (a9 Y) λe=>jn ((d6 (d6 (cP e).2).2).1▸hi)).trans (Om i);clear hs;have keep:∀{s':Dg}{w':Hp},Dh r5 s' w'->w' (33,[r5.k,j])=w4 (33,[r5.k,j])->(hb w') (r,y)=M (.l ((r5.ys j).map tV)):=λ{s' w'} h' k3=>by
   have go:w' (r,y)=w4 (r,y):=by
    rcases cr with rfl|⟨rfl,rfl⟩
    .exact(h'.aC (31,y) Y).trans (h1.aC (31,y) Y).symm
    .exact k3
   have cL:lR.contains r=O/\zR.contains r=O:=by rcases cr with rfl|⟨rfl,rfl⟩<;>exact⟨rfl,rfl⟩
   exact(oY cL.1).trans ((oY cL.2).trans (go.trans el))
  refine iW ((r5.ys j).map tV) (λp K=>∃v w s1 t T,K=s5 j v w t/\v 7=M (.i (s.S.length+1))/\Dh r5 s1 w/\Mi r5 s1/\Lp r5 j s s1 T/\cA.length<=s1.D.length+m/\(∀i∈s.D,w (33,[r5.k,i])=w4 (33,[r5.k,i]))/\w (33,[r5.k,j])=w4 (33,[r5.k,j])/\((∀i,r5.ys i=[])->T=[]/\((∀i∈s.D,s.f i=i)->∀i∈s1.D,s1.f i=i))) (aG Y) (λp K J=>?_) ⟨_,w4,s1,t4,[],Y,Y,h1,M1,L1,le1,λg g=>Y,Y,λg=>⟨Y,di1⟩⟩ (λp b K qU J=>?_) λK J=>?_
  .obtain⟨v,w,s1,t,T,rfl,_,h',_,_,_,_,k3,_⟩:=J;exact keep h' k3
  .obtain⟨v,w,s1,t,T,rfl,v7,h',M',L',Ap,ks,k3,_⟩:=J;obtain⟨i,hi,rfl⟩:=d7 qU;refine hN Y (ajM P IH h' M' L' Ap (P.aF j jt i (cO hi)) Y λv' w' t' s' T' h7 wc Oo L'' ajU kk=>?_);obtain⟨X,eX⟩:=L'.aI;have sD:∀i,i∈s.D\/i=j->i∈s1.D:=λi hi=>by rw[eX];exact hi.elim (dU _) λe=>dI _ (e▸.head _)
   exact⟨v',w',s',t',T',Y,h7.trans v7,wc,Oo,L'',aV Ap (pW ajU m),λi hi=>(kk i (sD i (.inl hi))).trans (ks i hi),(kk j (sD j (.inr Y))).trans k3,λa=>bA (a j▸cO hi)⟩
  .obtain⟨v,w,s1,t,T,rfl,v7,h',M',L',Ap,ks,k3,di⟩:=J;exact ajG P h' M' jn L' v7 di λs' w' t' T' wc Oo af kk=>q s' w' t' T' wc Oo af λi hi=>(kk _).trans ((ks i hi).trans (k1 i hi))
def ajV{x:TX}(p:P5 x):Og x:=x4 ajN p
def P6(x:TX):Prop:=P5 x/\x.u (32,[])=M (.l (cA.map tV))/\(x.u (37,[x.k])=U/\x.u (37,[x.k,0])=U/\x.u (38,[x.k])=U)/\∀s w t,Dh x s w->Mi x s->(∀i∈cA,i∈s.D)->((∀i,x.ys i=[])->∀i∈s.D,s.f i=i)->x.Q (.e (38,[x.k])) (hb w) t
section
variable{x:TX} (hh:P6 x)
def P6.aI:=hh.1
def P6.aF:=hh.2.1
def P6.aC:=hh.2.2.1
def P6.aK:=hh.2.2.2
end
def Xv(x:TX):Prop:=WB (x.n+35) UY (Rt x.Q) ⟨λi=>([V.e (32,[]),.iF x.a,.iF x.c]++[])[i]?,hb x.u,x.t⟩
def r6:TX:=uP ⟨Cb,0,λa=>[],λa=>[],0,0⟩ P6 Xv
def m6:Mp:=aJ (λi=>([V.e (32,[]),.iF r6.a,.iF r6.c]++[])[i]?) 3 (.e (37,[r6.k]))
abbrev s6(v:Mp)(w:Hp)(t:Nat):AS:=⟨ba [4,5,6] v m6,hb w,t⟩
inductive DZ(j:Nat):QA
 |mk {v:Mp}:DZ j (s6 v (r6.u.aH (37,[r6.k]) (.d ((cA.take j).map λB=>(tV B,.i 0)))) r6.t)
inductive DL(j:Nat):QA
 |mk {v:Mp} {w:Hp} {t:Nat} {s:Dg}:v 5=M (.e (37,[r6.k,0]))->v 6=M (.e (38,[r6.k]))->Dh r6 s w->Mi r6 s->(∀i∈cA.take j,i∈s.D)->((∀i,r6.ys i=[])->∀i∈s.D,s.f i=i)->DL j (s6 v w t)
def ajW(H:P6 r6):Xv r6:=by
 have B:=H.aI.aC;refine cF (mO (dQ (37,[r6.k]) Y H.aC.1 ?_));show WB _ _ _ ⟨m6,(hb r6.u).aH (37,[r6.k]) (.d []),r6.t⟩;rw[je Y Y,show m6=ba [4,5,6] m6 m6 from jx]
 have zl:∀{j},((cA.take j).map λB=>(tV B,V.i 0)).length<16777216:=by intro j;rw[bc];exact bM (aV (q7 ..) (x9 B)) (ao Y)
 refine iW (cA.map tV) DZ (aG Y) (λj K J=>by cases J;exact H.aF) .mk (λj x K hx J=>?_) λK J=>?_
 .cases J with|@mk v=>?_
  obtain⟨A,hA,rfl⟩:=d7 hx;refine hN Y (lC Y Y (aG Y) bo (aG Y) bG lU zl (aM ?_));rw[nW,mw (by rw[fC];exactλh=>(bX.mp h).elim λB k=>pK IA hA (aj (tI k.2) k.1)),show((cA.take j).map λB=>(tV B,V.i 0))++[(tV A,.i 0)]=(cA.take (j+1)).map λB=>(tV B,.i 0) from by rw[take_snoc hA,dF];rfl]
  exact .mk
 .rw[bc]at J;cases J with|@mk v=>?_
  rw[iu];generalize hw:r6.u.aH (37,[r6.k]) _=w1;refine cF (fy (eV ⟨b7 _,dQ (37,[r6.k,0]) Y (aj hw ((aQ Ci).trans H.aC.2.1)) (hN Y ?_)⟩));rw[je Y Y];refine cF (mO (dQ (38,[r6.k]) Y (aj hw H.aC.2.2) (hN Y ?_)));rw[je Y Y];refine iW (cA.map tV) DL (aG Y) (λj K J=>by cases J with|mk _ _ S=>exact(S.aC (32,[]) Y).trans H.aF) (.mk (s:=⟨[],[],λb=>0,λb=>0,λb=>[]⟩) Y Y ⟨?_,bo,bo,(λi h=>bA h),λi b=>aj hw Y,λi b=>aj hw Y,?_⟩ ⟨gY,λi h=>bA h,gY,λi h=>bA h,λi b=>⟨Qm 0,λb h=>bA h,λb=>Y⟩,λi h=>bA h,λi h=>bA h⟩ (λi h=>bA h) λb i h=>bA h) (λj x K hx J=>?_) λK J=>?_
  .exact(aQ Ci.symm).trans (aj hw bo)
  .exact uU (uU (aj hw (uU (λb b=>Y) (uV Y))) (uV Y)) (uV Y)
  .cases J with|@mk v w t s v5 v6 S ab dn di=>?_
   obtain⟨A,hA,rfl⟩:=d7 hx;have At:=cO hA
   refine hN Y ?_;have rt:RT (s6 (aJ v 4 (tV A)) w t) (.m .Eq (.s (.v 3) (.v 4)) (.cI 0)) (decide (V.i (s.N A)=.i 0)):=eH (dH (aG Y) (aG Y) (ig S.aK lU (uT At))) bG (qn Y Y)
   have wK:∀{s':Dg},(∀i∈s.D,i∈s'.D)->A∈s'.D->∀i∈cA.take (j+1),i∈s'.D:=λh1 h2 i hi=>by rw[take_snoc hA]at hi;exact(cZ.mp hi).elim (λhi=>h1 i (dn i hi)) λe=>ak (bK.mp e) h2
   by_cases aD:A∈s.D
   .have n0:=λe=>(ab.aF A At).2.mp e aD;exact eC (aj (aA (λe=>n0 (lT e))) rt) (aM (aM (.mk v5 v6 S ab (wK (λb h=>h) aD) di)))
   .have n0:=(ab.aF A At).2.mpr aD;refine gN (aj (az (aq V.i n0)) rt) (oR (kU (rl (aW (aG Y) (aW (aG Y) (aW (aG v5) (aW (aG v6) (aW (aG Y) (aW (aG Y) (aW (aG Y) bD))))))) (bO.o (ajV H.aI 35 A s w t _ S ab At aD (aV (x9 B) (Gj ..)) λs' w' t' T S' M' af b=>aM (aM ?_))))));refine oE af.aC λX eX=>?_;exact .mk v5 v6 S' M' (wK (λi h=>ak eX (dU _ h)) af.aI) λa=>af.bb a (di a)
  .rw[bc]at J;cases J with|@mk v w t s v5 v6 S ab dn di=>?_
   rw[iu]at dn;exact kc (aG v6) (H.aK s w t S ab dn di)
def Oq(k r:Nat)(u w:Hp):Prop:=(∀l:Loc,dM l.1 0=Z->tk k l=Z->l≠(r,[])->w l=u l)/\∃g,w hD=M (.fz g)
def DO(k:Nat)(b:Nat->Ss)(s:Dg)(w:Hp):Prop:=w (38,[k])=M (.d (FD s.D s.f))/\(∀i∈cA,i∈s.D)/\(∀i∈s.D,i∈cA)/\(∀i∈s.D,s.f i∈s.D/\∀a∈b i,a∈s.L (s.f i))/\(∀i∈s.D,w (39,[i])=M (.l ((s.L i).map .s)))/\∀i∈s.D,(s.L i).Nodup/\∀a∈s.L i,jM a
section
variable{b:Nat->Ss} (hh:DO k b s w)
def DO.aO:=hh.1
def DO.aC:=hh.2.1
def DO.bb:=hh.2.2.1
def DO.aK:=hh.2.2.2.1
def DO.aI:=hh.2.2.2.2.1
def DO.aF:=hh.2.2.2.2.2
end
variable{r c P:Nat} {d:L3} {f:aY} {xs:Vs} {D:Nat->Ss} {ys:Nat->Nl} {Q:RQ}
def gU(e:R.contains l.1=Z):(mix R u h) l=h l:=by unfold mix;rw[e];rfl
def Cm(h:l.1≠99):(mix [99] w' w) l=w l:=gU (nz.mpr λq=>h (bK.mp (gj.mp q)))
def Xw(B:dD bx)(L:rI c P)(ok:EK f 4 c d)(df:d.f=4)(hk:xs.length=4)(rr:r=50\/r=51)(tb:u (r,[])=M (.t P #[]))(fz:∃g,u hD=M (.fz g)) (rT:u (32,[])=M (.l (cA.map tV))) (fr:u (37,[k])=U/\u (37,[k,0])=U/\u (38,[k])=U)
 (qR:∀(i j:Nat),d.oN[i]?=M (M j)\/d.oO[i]?=M (M j)->(∃l,xs[j]?=M (.e l))/\j≠d.i1/\j≠d.i2) (EL:d.i1≠d.i2) (EM:xs[d.k0]?=M (.e (32,[]))) (EN:d.k0≠d.i1) (EO:d.k0≠d.i2)
 (hF:∀(n:Nat)(m:Mp)(j:Nat)(w:Hp)(t:Nat)(Q:RQ),(∀j,j≠d.i1->j≠d.i2->m j=xs[j]?)->j∈cA->(∀l:Loc,dM l.1 0=Z->tk k l=Z->l≠(r,[])->w l=u l)->w (39,[j])=u (39,[j])->(∀(w':Hp) t',(∀l:Loc,l.1≠99->l≠(39,[j])->w' l=w l)->w' (39,[j])=M (.l ((D j).map .s))->Q (.e (39,[j])) (hb w') t')->WE (n+4) d.e1 (λv K=>Q v K.h K.t) ⟨λi=>if i=0 then M (tV j)else mN m d.oN i,hb w,t⟩)
 (hR:∀(n:Nat)(m:Mp)(j:Nat)(w:Hp)(t:Nat)(Q:RQ),(∀j,j≠d.i1->j≠d.i2->m j=xs[j]?)->j∈cA->(∀l:Loc,dM l.1 0=Z->tk k l=Z->l≠(r,[])->w l=u l)->w (33,[k,j])=u (33,[k,j])->(∀r y(w':Hp) t',(∀l:Loc,l.1≠99->l≠(33,[k,j])->w' l=w l)->(r=31\/r=33/\y=[k,j])->w' (r,y)=M (.l ((ys j).map tV))->Q (.e (r,y)) (hb w') t')->WE (n+4) d.e2 (λv K=>Q v K.h K.t) ⟨λi=>if i=0 then M (tV j)else mN m d.oO i,hb w,t⟩)
 (hy:∀j∈cA,∀i∈ys j,i∈cA) (hok:∀j∈cA,(D j).Nodup/\∀a∈D j,jM a)
 (q:∀s w t,DO k D s w->((∀i,ys i=[])->∀i∈s.D,s.f i=i)->Oq k r u w->Q (.e (38,[k])) (hb w) t):bO (n+42) f xs Q (hb u) t:=by
 refine oE fz λg0 hz=>?_;have rc:lR.contains r=O/\zR.contains r=O:=rr.elim (λe=>ak e ⟨Y,Y⟩) λe=>ak e ⟨Y,Y⟩
 have rn:∀l:Loc,[33,37,39,99].contains l.1=O\/l.1=38\/l.1=32->l≠(r,[]):=λl h e=>by
  rw[e]at h;rcases rr with rfl|rfl
  .exact ax h (ao Y)
  .exact ax h (ao Y)
 have r0:hD≠(r,[]):=λe=>by have e:0=r:=aq qf e;rw[<-e]at rr;exact ax rr (ao Y)
 refine afi L ok (aj df.symm agq) hk ((oY rc.1).trans ((oY rc.2).trans tb)) hz r0 qR EL EM EN EO λps m h' hm eh g a1 a2 L1 L2=>?_;subst eh;rw[je rc.1 rc.2,je Y Y];obtain⟨u1,hu⟩:∃u1,u1=(u.aH (r,[]) (.t P ps)).aH hD (.fz g):=⟨_,Y⟩;rw[<-hu];have e1:∀l:Loc,l.1≠0->l≠(r,[])->u1 l=u l:=λl h h'=>ak hu ((aQ λe=>h (by rw[e];rfl)).trans (aQ h'))
 have z0:∀{l:Loc},dM l.1 0=Z->l.1≠0:=λh e=>by rw[e]at h;exact b9 h
 have off:∀{w},Off k u1 w->(∀l:Loc,dM l.1 0=Z->tk k l=Z->l≠(r,[])->w l=u l)/\w hD=M (.fz g):=λf=>⟨λl h h8 hr=>(f l h8).trans (e1 l (z0 h) hr),(f hD Y).trans (ak hu bo)⟩;have lv:=λn'=>w9 n 5 n'
 refine x4 ajW (x:=⟨⟨n+5,u1,t,_⟩,k,D,ys,a1,a2⟩) ⟨⟨B,λn' j w t Q hj f e q=>ak (lv n') (L1 _ _ _ _ _ (off f).2 (hF (n+n') m j w t Q hm hj (off f).1 (e.trans (e1 _ (show 39≠0 by decide) (rn _ (.inl Y)))) q)),λn' j w t Q hj f e q=>ak (lv n') (L2 _ _ _ _ _ (off f).2 (hR (n+n') m j w t Q hm hj (off f).1 (e.trans (e1 _ (show 33≠0 by decide) (rn _ (.inl Y)))) q)),hy,hok⟩,(e1 _ (show 32≠0 by decide) (rn _ (.inr (.inr Y)))).trans rT,⟨(e1 _ (show 37≠0 by decide) (rn _ (.inl Y))).trans fr.1,(e1 _ (show 37≠0 by decide) (rn _ (.inl Y))).trans fr.2.1,(e1 _ (show 38≠0 by decide) (rn _ (.inr (.inl Y)))).trans fr.2.2⟩,λs w t S ab dn di=>⟨⟨g,(off S.aC).2⟩,?_⟩⟩
 rw[je Y Y];have n0:∀{k:Nat}{y:Nl},dM k 0=Z->((k,y))≠hD:=λh=>aU h
 exact q s _ t ⟨(aQ (n0 Y)).trans S.aF,dn,ab.aC,ab.aK,λi hi=>(aQ (n0 Y)).trans (S.aI i hi),ab.aO⟩ di ⟨λl h h8 hr=>(aQ λe=>z0 h (by rw[e];rfl)).trans ((off S.aC).1 l h h8 hr),g0,bo⟩
def IF{P:Nat->Prop}(h:∀o∈du,yw (motive:=λa=>Prop) True P o)(e:du[i]?=M (M j)):P j:=h _ (cO e)
noncomputable def mi(j:Nat):It:=bx.c[j]?.elim (0,0) (·.2)
noncomputable def Cn(j:Nat):Ss:=DR (mi j)
variable{x:It}
def Cs.mi(h:Cs j x):mi j=x:=aq (λo:Option n7=>o.elim (0,0) (·.2)) h.sl.1
def FL(B:dD bx)(h:j∈cA):Cs j (iB.Lean.mi j)/\sym (iB.Lean.mi j)=M sE:=by refine bT ((FG B).mp h) λx c e=>?_;exact ak c.mi ⟨c,e⟩
def Ot(hx:sym x=M sE):a∈DR x↔(∃y∈stI (mC x),sym y=M a)\/x=(0,0)/\a=dP:=by
 unfold DR;rw[cZ];refine or_congr ?_ ?_
 .unfold mD;rw[iu,FE,vA]
 .by_cases e:x=(0,0)
  .rw[aw e];exact⟨λh=>⟨e,bK.mp h⟩,λh=>aj h.2 (.head _)⟩
  .rw[au e];exact⟨λh=>bA h,λh=>ax h.1 e⟩
def ajY(hx:sym x=M sE)(h:a∈DR x):jM a:=by
 rcases(Ot hx).mp h with⟨y,hy,e⟩|h
 .rw[rN (FH hx)]at hy;rcases cU.mp hy with rfl|hy
  .exact .inr ⟨x.1,x.2,hx,e⟩
  .obtain⟨i,h0,rfl⟩:=tE.mp hy;exact .inr ⟨i+1,0,h0,e⟩
 .exact .inl h.2
def ajZ(hx:sym x=M sE):(DR x).Nodup:=by
 unfold DR;have nd:(mD x (stI (mC x)).length).Nodup:=WU gY
 by_cases e:x=(0,0)
 .rw[aw e];refine mK nd λh=>?_;unfold mD at h;refine bT (vA.mp (FE.mp h)) λy a h=>?_;exact ax (tj h) (ao Y)
 .rw[au e,i8];exact nd
def aj0(B:dD bx)(nu:u (53,[])=M (.s []))(tb:u (50,[])=M (.t 391 #[]))(fz:∃g,u hD=M (.fz g)) (rT:u (32,[])=M (.l (cA.map tV))) (fr:u (37,[0])=U/\u (37,[0,0])=U/\u (38,[0])=U) (f39:∀j,u (39,[j])=U) (Ov:∀j,u (33,[0,j])=U)
 (q:∀s w t,DO 0 Cn s w->(∀i∈s.D,s.f i=i)->Oq 0 50 u w->Q (.e (38,[0])) (hb w) t):bO (n+42) (bS 40) [.e (20,[]),.e (24,[]),.e (32,[]),.e (53,[])] Q (hb u) t:=by
 have cp:∀o∈[U,M 1,M 3,M 0],yw True (λj:Nat=>(∃l,([V.e (20,[]),.e (24,[]),.e (32,[]),.e (53,[])])[j]?=M (.e l))/\j≠4/\j≠5) o:=lH.mpr ⟨trivial,lH.mpr ⟨⟨⟨_,Y⟩,ao Y⟩,lH.mpr ⟨⟨⟨_,Y⟩,ao Y⟩,lH.mpr ⟨⟨⟨_,Y⟩,ao Y⟩,λb h=>bA h⟩⟩⟩⟩;refine Xw B Vq agA Y Y (.inl Y) tb fz rT fr (λi j h=>h.elim (IF cp) (IF cp)) (ao Y) Y (ao Y) (ao Y) (λn m j w t Q hm hj f e k=>?_) (λn m j w t Q hm hj f e k=>?_) (λb b b h=>bA h) (λj hj=>⟨ajZ (FL B hj).2,λa ha=>ajY (FL B hj).2 ha⟩) λs w t d i=>q s w t d (i λb=>Y)
 .have h0:=hm 0 (ao Y) (ao Y);have c:=FL B hj
  exact jw (re (aG h0) ⟨_,kW (qA B) Y Y,rl (aW (aG (hm 1 (ao Y) (ao Y))) (aW (aG Y) (aW (aG (hm 3 (ao Y) (ao Y))) bD))) (bO.o (ajw (x:=⟨⟨n,w,t,_⟩,j,mi j⟩) ⟨B,c.1,c.2,e.trans (f39 j),λw'=>k _ _ (λl h h'=>(aQ h').trans (Cm h)) bo⟩))⟩)
 .have h0:=hm 0 (ao Y) (ao Y);have c:=FL B hj
  exact jw (re (aG h0) ⟨_,kW (qA B) Y Y,rl (aW (aG (hm 1 (ao Y) (ao Y))) (aW (aG Y) (aW (aG (hm 3 (ao Y) (ao Y))) bD))) (bO.o (ajz (x:=⟨⟨n,w,t,_⟩,j,mi j⟩) ⟨B,c.1,c.2,e.trans (Ov j),(f _ Y Y (aU Y)).trans nu,λw'=>k 33 _ _ _ (λl h h'=>(aQ h').trans (Cm h)) (.inr ⟨Y,Y⟩) bo⟩))⟩)
def aj2{inc:Es}{yI:Nat->Nl}{b0:Nat->Ss}(B:dD bx)(tb:u (51,[])=M (.t 398 #[]))(fz:∃g,u hD=M (.fz g)) (rT:u (32,[])=M (.l (cA.map tV))) (fr:u (37,[1])=U/\u (37,[1,0])=U/\u (38,[1])=U) (Ov:∀j,u (33,[1,j])=U)
 (R:DO 0 b0 s0 u) (BG:∀i∈s0.D,s0.f i=i) (ei:u (31,[2])=M (.d inc)) (hi:∀j∈cA,(bI inc (tV j)=M (.e (31,[9,j]))/\u (31,[9,j])=M (.l ((yI j).map tV)))\/(bI inc (tV j)=U/\yI j=[])) (hy:∀j∈cA,∀i∈yI j,i∈cA)
 (q:∀s w t,DO 1 s0.L s w->Oq 1 51 u w->Q (.e (38,[1])) (hb w) t):bO (n+42) (bS 41) [.e (20,[]),.e (32,[]),.e (38,[0]),.e (31,[2])] Q (hb u) t:=by
 have xr:∀{j:Nat},j<4->∃l,([V.e (20,[]),.e (32,[]),.e (38,[0]),.e (31,[2])])[j]?=M (.e l):=λ{j} lt=>by refine oE (jy (l:=[((20,[])),(32,[]),(38,[0]),(31,[2])]) lt) λx hx=>?_;exact⟨x,fU hx⟩
 refine Xw B Vt agC Y Y (.inr Y) tb fz rT fr (λi j h=>?_) (ao Y) Y (ao Y) (ao Y) (λn m j w t Q hm hj f e k=>?_) (λn m j w t Q hm hj f e k=>?_) hy (λj hj=>R.aF j (R.aC j hj)) λs w t d a=>q s w t d
 .have lt:=h.elim (IF (P:=λj=>j<4) (lH.mpr ⟨trivial,lH.mpr ⟨(ao Y),λa h=>bA h⟩⟩)) (IF (P:=λj=>j<4) (lH.mpr ⟨trivial,lH.mpr ⟨(ao Y),λa h=>bA h⟩⟩));exact⟨xr lt,gZ lt,gZ (sr lt)⟩
 .have jD:=R.aC j hj;have l38:=(f (38,[0]) Y Y (aU Y)).trans R.aO
  have kl:bI (FD s0.D s0.f) (tV j)=M (.e (39,[j])):=(uT jD).trans (aq (λi=>M (V.e (39,[i]))) (BG j jD));exact re (dH (aG (hm 2 (ao Y) (ao Y))) (aG Y) (ig l38 lU kl)) (k w t (λa a a=>Y) (e.trans (R.aI j jD)))
 .have Xy:=(f (31,[2]) Y Y (aU Y)).trans ei;refine iT (re (aG (hm 3 (ao Y) (ao Y))) ⟨_,kX Xy,fM (re (aG Y) (fM (fy (eV ⟨b7 _,dQ (33,[1,j]) Y (e.trans (Ov j)) (eV (ur Xy lU ?_))⟩))))⟩);show Q _ ((hb w).aH (33,[1,j]) (.l [])) t;rw[je Y Y];rcases hi j hj with⟨h1,h2⟩|⟨h1,h2⟩
  .exact ak h1 (k 31 _ _ _ (λl a h=>aQ h) (.inl Y) ((f (31,[9,j]) Y Y (aU Y)).trans h2))
  .exact ak h1 (k 33 _ _ _ (λl a h=>aQ h) (.inr ⟨Y,Y⟩) (bo.trans (by rw[h2];rfl)))
def fin(y:It):It:=(y.1,(ss y.1).length)
def yb(p:Nat×It):V:=V.cq [.i p.1,.e (5,[p.2.1,p.2.2])]
def Ow(p:Nat×It):Prop:=∃x,Cs p.1 x/\p.2∈stI x
noncomputable def m7:Mp:=aJ (aJ (aJ (λi=>([V.e (20,[]),.e (24,[]),.e (32,[]),.e (53,[])]++[])[i]?) 4 (.e (31,[1]))) 5 (.e (31,[2]))) 6 (.e (31,[3]))
noncomputable abbrev kM:Nl:=[7,8,9,10,11,12,13,14,15,16,17,18]
abbrev s7(v:Mp)(w:Hp)(t:Nat):AS:=⟨ba kM v m7,hb w,t⟩
def jf(i:Nat)(w0:Hp)(xs:List (Nat×It))(ins:Nl)(v:Mp)(w:Hp):Prop:=v 8=M (.i i)/\v 9=M (.s sE)/\v 10=M (.e (31,[4,i]))/\v 11=M (.e (31,[5,i]))/\w (31,[4,i])=M (.l (xs.map yb))/\w (31,[5,i])=M (.l (ins.map tV))/\(∀p∈xs,Ow p)/\(∀j∈ins,j∈cA)/\∀l:Loc,l.1≠99->l≠(31,[4,i])->l≠(31,[5,i])->w l=w0 l
section
variable{w0:Hp} {xs:List (Nat×It)} {ins:Nl} (hh:jf i w0 xs ins v w)
def jf.aI:=hh.1
def jf.aF:=hh.2.1
def jf.aO:=hh.2.2.1
def jf.aK:=hh.2.2.2.1
def jf.d9:=hh.2.2.2.2.1
def jf.cC:=hh.2.2.2.2.2.1
def jf.bb:=hh.2.2.2.2.2.2.1
def jf.bz:=hh.2.2.2.2.2.2.2.1
def jf.aC:=hh.2.2.2.2.2.2.2.2
end
variable{d:Nat} {xs:List (Nat×It)} {ins:Nl} {v':Mp} {y z:It} {Q:QF} {s:aP} {l:Ss}
section
variable{w0:Hp}
def aj4(h:i<j)(hj:j<=l.length):(dot l j)[i]?=l[i]?:=by
 have e:(l.take j).length=j:=by rw[xb,xc hj]
 rw[dot,AI (by rw[e];exact h),ZH,aw h]
def Ox(hj:j<=l.length)(h:j<=i):(dot l j)[i+1]?=l[i]?:=by
 have e:(l.take j).length=j:=by rw[xb,xc hj]
 rw[dot,CN (by rw[e];exact jZ h),e,apu h,Zq,PT,CV h]
def Xz(h:z∈stI x)(e:sym z=M sE):sym x=M sE:=by
 unfold stI kr at h;rcases cZ.mp h with h|h
 .rcases cU.mp h with rfl|h
  .exact e
  .split at h
   .exact(Ag h).elim λa w=>ax (bF (w.1.symm.trans e)) w.2
   .exact bA h
 .split at h
  .assumption
  .exact bA h
def XA(m:Mn x)(h:z∈stI x)(e:sym z=M s):∃y,mv x s=M y/\(z.1,z.2+1)∈stI y:=by
 by_cases c:s=sE
 .subst c;have ex:=Xz h e
  refine⟨mC x,x2 ex,?_⟩;rw[uO ex]at h;rcases cU.mp h with rfl|h
  .exact Ah
  .obtain⟨i,hi,rfl⟩:=wI.mp h;rw[rN (FH ex)];exact .tail _ (tE.mpr ⟨i,e,Y⟩)
 .exact⟨_,tF m h e c,Ah⟩
def XB(h:z∈stI x)(e:sym z=U):z=x:=by
 unfold stI kr at h;rcases cZ.mp h with h|h
 .rcases cU.mp h with h|h
  .exact h
  .split at h
   .exact(Ag h).elim λa w=>cW (e.symm.trans w.1)
   .exact bA h
 .split at h
  .obtain⟨i,hi,rfl⟩:=wI.mp h;have lt:=(oV hi).1
   exact ax (jj.mp e) (Gp.mpr lt)
  .exact bA h
def aj5:sym (fin y)=U:=jj.mpr (b8 _)
def jg{a b:Nat}{x y:Nl}(h:dM a b=Z):((31,a::x):Loc)≠(31,b::y):=λe=>by rw[(d6 (cP e).2).1,AU]at h;exact b9 h
def Aq{a:Nat}(h:i≠j):((31,[a,i]):Loc)≠(31,[a,j]):=λe=>h (d6 (d6 (cP e).2).2).1
def jf.tm(I:jf i w0 xs ins v w)(w':Hp):jf i w0 xs ins v (mix [99] w' w):=⟨I.aI,I.aF,I.aO,I.aK,I.d9,I.cC,I.bb,I.bz,λl h h4 h5=>(Cm h).trans (I.aC l h h4 h5)⟩
def jf.vv(I:jf i w0 xs ins v w)(e8:v' 8=v 8)(e9:v' 9=v 9)(N3:v' 10=v 10)(qX:v' 11=v 11):jf i w0 xs ins v' w:=⟨e8.trans I.aI,e9.trans I.aF,N3.trans I.aO,qX.trans I.aK,I.d9,I.cC,I.bb,I.bz,I.aC⟩
def aj6(B:dD bx)(iy:Io y)(hj:Cs j x)(hz:z∈stI x)(I:jf i w0 xs ins v w)(fA:v 12=M (.e (5,[y.1,y.2])))(mE:v 14=M (.i j))(rV:v 17=M (.e (5,[z.1,z.2])))(zx:xs.length<=100000)
 (q:∀v' w' mX,(∀a,a≠18->v' a=v a)->jf i w0 mX ins v' w'->mX.length<=xs.length+1->(∀p∈xs,p∈mX)->(y.2=0->z=fin y->(j,z)∈mX)->Q .n (s7 v' w' t)/\Q .c (s7 v' w' t)):WB n U7 Q (s7 v w t):=by
 have zi:=rO hj.mn hz;have aa:=ix B.aC iy
 have ah:=ix B.aC zi;have Oy:∀{v:Mp} {a x},v 12=M (.e (5,[y.1,y.2]))->ku 2 a=O->fI y a=M x->RE (s7 v w t) (.a (.v 12) a) x:=λe d h=>ra (aG e) aa.aC d h
 have IG:∀{v:Mp} {a x},v 17=M (.e (5,[z.1,z.2]))->ku 2 a=O->fI z a=M x->RE (s7 v w t) (.a (.v 17) a) x:=λe d h=>ra (aG e) ah.aC d h;have out:∀v':Mp,(∀a,a≠18->v' a=v a)->¬(y.2=0/\z=fin y)->Q .n (s7 v' w t)/\Q .c (s7 v' w t):=λv' hv ne=>q v' w xs hv (I.vv (hv 8 (ao Y)) (hv 9 (ao Y)) (hv 10 (ao Y)) (hv 11 (ao Y))) (l7 _) (λf h=>h) λa b=>ax ⟨a,b⟩ ne
 refine mq (eH (IG rV Y ah.aO) (Oy fA Y aa.aO) (qN Y Y)) (λh=>zC (out v (λf f=>Y) λe=>xU h (by rw[e.2];rfl)).2) λh1=>aM (mq (eH (IG rV Y ah.aI) (Oy fA Y aa.aI) (qN Y Y)) (λh=>zC (out v (λf f=>Y) λe=>xU h (by rw[e.2];rfl)).2) λh2=>aM (rU bG Y ?_))
 have h2:=pb (jT (lT (MZ h2)));refine f6 (Lc (λm K=>∃i,m+i=z.2/\K=s7 (aJ v 18 (.i i)) w t) ⟨0,Y,Y⟩ λm K J=>?_);obtain⟨i',em,rfl⟩:=J;refine eH (aG Y) (IG (v:=aJ v 18 (.i i')) rV Y ah.aF) yX n _ ?_;by_cases c:i'<z.2
 .rw[az (jB.mpr c),aw Y];refine oE (jy (dJ c zi.2)) λa ha=>?_;refine oE (jy (by rw[Ff iy.2,<-h2];exact vE (dJ c zi.2))) λb qU=>?_
  refine mq (eH (zH (IG rV Y ah.aK) (aG Y) (fU ((aj4 c zi.2).trans ha))) (zH (Oy fA Y aa.aK) (jv (aG Y) bG qm) (fU qU)) (qN Y Y)) (λh=>xS (aM (out (aJ v 18 (.i i')) (λa h=>au h) λe=>xU h (aq V.s (bF ?_))).1)) λh=>aM (rU (jv (aG Y) bG qm) Y (aM ?_))
  .have e2:=(Ox iy.2 (by rw[e.1];exact b7 _)).symm.trans qU
   have e3:=(aq (λz:It=>(ss z.1)[i']?) e.2).symm.trans ha;exact e3.symm.trans e2
  .cases m with
   |zero=>exact ax (em▸c) (by rw[ro];exact dq _)
   |succ m=>exact⟨m,i7 _,i'+1,by rw[<-em,w9];rfl,by rw[MV];rfl⟩
 .rw[aA λh=>c (jB.mp h),au (λh=>b9 h)];refine An Y Y Y (aG I.aO) I.d9 (jG (aW (aG mE) (aW (aG rV) bD)) (by decide:2<=16777216)) (by rw[bc];exact bM zx (ao Y)) (aM (aM ?_))
  refine(q (aJ v 18 (.i i')) (w.aH (31,[4,i]) (.l (xs.map yb++[yb (j,z)]))) (xs++[(j,z)]) (λa h=>au h) ⟨I.aI,I.aF,I.aO,I.aK,bo.trans (aq (λl=>M (af.l l)) (dF (l₂:=[(j,z)])).symm),(aQ (jg Y)).trans I.cC,λp hp=>(cZ.mp hp).elim (I.bb p) λe=>ak (bK.mp e) ⟨x,hj,hz⟩,I.bz,λl h h4 h5=>(aQ h4).trans (I.aC l h h4 h5)⟩ (gy (dY)) (λp hp=>dU _ hp) λf f=>dI _ (.head _)).1
end
def uW:Es:=cA.map λB=>(tV B,.i 1)
def LQ(i:Nat)(w0:Hp)(y:It)(xs:List (Nat×It))(ins:Nl)(k j:Nat)(x:It)(v:Mp)(w:Hp):Prop:=jf i w0 xs ins v w/\v 12=M (.e (5,[y.1,y.2]))/\v 13=M (.i k)/\v 14=M (.i j)/\Cs j x/\(y.1,k)∈stI x/\y.2<=k
section
variable{w0:Hp} (hh:LQ i w0 y xs ins k j x v w)
def LQ.bz:=hh.1
def LQ.aI:=hh.2.1
def LQ.bb:=hh.2.2.1
def LQ.aF:=hh.2.2.2.1
def LQ.aC:=hh.2.2.2.2.1
def LQ.aK:=hh.2.2.2.2.2.1
def LQ.aO:=hh.2.2.2.2.2.2
end
inductive XC(i:Nat)(w0:Hp)(y:It)(xs:List (Nat×It))(n0:Nat)(m:Nat):QA
 |mk {k j:Nat} {x:It} {v:Mp} {w:Hp} {t:Nat} {ins:Nl}:m+k=(ss y.1).length->LQ i w0 y xs ins k j x v w->ins.length+m<=n0->XC i w0 y xs n0 m (s7 v w t)
inductive Oz(i:Nat)(w0:Hp)(y:It)(xs:List (Nat×It))(ins:Nl)(j:Nat)(x:It)(p:Nat):QA
 |mk {mX:List (Nat×It)} {v:Mp} {w:Hp} {t:Nat}:jf i w0 mX ins v w->v 12=M (.e (5,[y.1,y.2]))->v 14=M (.i j)->mX.length<=xs.length+p->(∀a∈xs,a∈mX)->(y.2=0->fin y∈(stI x).take p->(j,fin y)∈mX)->Oz i w0 y xs ins j x p (s7 v w t)
section
variable{w0:Hp}
def aj7(d3:w0 (31,[3])=M (.d uW))(I:jf i w0 xs ins v w):w (31,[3])=M (.d uW):=(I.aC _ (show 31≠99 by decide) (jg Y) (jg Y)).trans d3
def OA{a:Nat}(B:dD bx)(hc:Cs j x)(va:(ba kM v m7) a=M (.i j)):RE (s7 v w t) (.s (.v 1) (.v a)) (.e (34,sl j)):=zG (aG Y) B.aF.aF (aG va) (fU hc.sl.1)
def aj8(B:dD bx)(d3:w0 (31,[3])=M (.d uW))(iy:Io y)(lt:k<(ss y.1).length)(L:LQ i w0 y xs ins k j x v w)(zi:ins.length<=1000)(q:∀v' w' t' j' x' rW,rW.length<=ins.length+1->LQ i w0 y xs rW (k+1) j' x' v' w'->Q .n (s7 v' w' t')):WB (n+3) U6 Q (s7 v w t):=by
 refine oE (jy lt) λs hs=>?_;have sk:=hs
 have aa:=ix B.aC iy;have ab:=L.aC.mn
 refine rU (jv (aG L.bb) bG qm) Y (rU (zH (ra (aG L.aI) aa.aC Y aa.aK) (aG Y) (fU ((Ox iy.2 L.aO).trans hs))) Y ?_);have rest:∀(v) w rW,rW.length<=ins.length+1->jf i w0 xs rW v w->v 12=M (.e (5,[y.1,y.2]))->v 13=M (.i (k+1))->v 14=M (.i j)->v 7=M (.s s)->WB (n+3) (.c (.g (.v 16) (.ic (.v 0) 48 (.c (.s (.v 1) (.v 14)) (.c (.v 7) .n)))) (.c (.g (.v 14) (.cD .g (.a (.v 0) 36) (.c (.d 6 (.c (.v 16) .n)) (.c (.q (.cI 1)) .n)))) .n)) Q (s7 v w t):=λv w rW zl I fA oe mE v7=>by
  refine bT (XA ab L.aK sk) λx' e0 yc'=>?_;refine oE (L.aC.go B e0) λj' lV=>?_;refine cF (jw (re (aG Y) ⟨_,kW (qA B) Y Y,rl (aW (OA B L.aC mE) (aW (aG v7) bD)) (bO.o (Xb B L.aC e0 λl w1 hl=>hN Y ?_))⟩));refine cF (iT (re (ra (aG Y) (qA B) Y Y) ⟨_,kX B.aF.aC,fM (kU (rl (aW (aG Y) bD) (bO.o (x7 B.aC lV.mn hl λw2=>rl (aW (rD bG) bD) (ur B.aF.aC (Ak).1 ?_)))))⟩));rw[N7 B lV,show hp (mix [99] w2 (mix zR (mix [99] w1 w) bx.u))=hb (mix [99] w2 (mix [99] w1 w)) from aq hp (kb Y)]
  exact hN Y (aM (q _ _ _ j' x' rW zl ⟨((I.tm w1).tm w2).vv Y Y Y Y,fA,oe,Y,lV,yc',jZ L.aO⟩))
 have e6:∀{v:Mp} {w},jf i w0 xs ins v w->v 14=M (.i j)->v 7=M (.s s)->RT (s7 v w t) (.m .In (.t (.c (.v 14) (.c (.v 7) .n))) (.v 6)) (bI uW (V.cq [.i j,.s s])).isSome:=λ{v} {w} I mE v7=>sY (jG (aW (aG mE) (aW (aG v7) bD)) (by decide:2<=16777216)) (aG Y) (aj7 (w:=w) d3 I) Y
 have I:=L.bz.vv (v':=aJ (aJ v 13 (.i ((k)+1))) 7 (.s s)) Y Y Y Y;by_cases c:s=sE
 .subst c;have jt:=(FG B).mpr ⟨x,L.aC,Xz L.aK sk⟩
  have yes:(bI uW (V.cq [.i j,.s sE])).isSome=O:=by
   rw[show bI uW (V.cq [.i j,.s sE])=M (.i 1) from uT jt]
   rfl
  refine gN (aj yes (e6 I L.aF Y)) (rU (jv (aG Y) bG qm) Y ?_);have I2:=I.vv (v':=aJ (aJ (aJ v 13 (.i ((k)+1))) 7 (.s sE)) 15 (.i ((k)+1+1))) Y Y Y Y
  refine f6 (Lc (λf K=>K=s7 (aJ (aJ (aJ v 13 (.i ((k)+1))) 7 (.s sE)) 15 (.i ((k)+1+1))) w t) (m₀:=0) Y λf K e=>?_);subst e;refine eH (x:=.i ((k+1+1:Nat))) (aG Y) (ra (aG L.aI) aa.aC Y aa.aI) yX (n+3) _ ?_;cases hx:sy y.1 (k+1)with
  |none=>have ge:=λh=>iP.mpr (jj.mp hx) (Zv (jB.mp h));rw[aA ge,au (λh=>b9 h)];refine An Y Y Y (aG I2.aK) (I2.cC) (jG (aW (aG L.aF) (aW (aG Y) bD)) (by decide:2<=16777216)) (by rw[bc];exact bM zi (ao Y)) (aM (aM (rest _ _ (ins++[j]) (gy dY) ⟨I2.aI,I2.aF,I2.aO,I2.aK,(aQ (jg Y)).trans I2.d9,bo.trans (aq (λl=>M (af.l l)) (dF (l₂:=[j])).symm),I2.bb,λa ha=>(cZ.mp ha).elim (I2.bz a) λe=>ak (bK.mp e) jt,λl h h4 h5=>(aQ h5).trans (I2.aC l h h4 h5)⟩ L.aI Y L.aF Y)))
  |some b=>
   have xO:=jB.mpr (vE (cG.mp hx).1);rw[az xO,aw Y];have bt:=(z4 b (tj hx)).mpr ((wD hs hx).mp Y)
   exact gN (aj (az bt) (B4 (zH (ra (aG L.aI) aa.aC Y aa.aK) (aG Y) (fU ((Ox iy.2 (jZ L.aO)).trans hx))) (ra (ra (aG Y) (qA B) Y Y) B.aC.aC Y Y) B.aC.aK)) (xS (aM (rest _ _ ins (l7 _) I2 L.aI Y L.aF Y)))
 .have no:(bI uW (V.cq [.i j,.s s])).isSome=Z:=pI.trans (aA λh=>by rw[uW,fC]at h;refine bT (bX.mp h) λb qU e=>?_;exact c (str_inj (d6 (d6 (Fx e)).2).1).symm)
  exact eC (aj no (e6 I L.aF Y)) (aM (rest _ w ins (l7 _) I L.aI Y L.aF Y))
def aj'(B:dD bx)(d3:w0 (31,[3])=M (.d uW))(h0:Cs i x0)(hy:y∈stI x0)(I:jf i w0 xs ins v w)(fA:v 12=M (.e (5,[y.1,y.2])))(zx:xs.length<=90000)(zi:ins.length<=900)(q:∀v' w' t' mX rW,jf i w0 mX rW v' w'->mX.length<=xs.length+10->rW.length<=ins.length+10->(∀a∈xs,a∈mX)->(y.1≠0->y.2=0->∀j,Cs j (fin y)->(j,fin y)∈mX)->Q .n (s7 v' w' t')/\Q .c (s7 v' w' t')):WB (n+3) U8 Q (s7 v w t):=by
 have iy:=rO h0.mn hy;have aa:=ix B.aC iy
 refine mq (eH (ra (aG fA) aa.aC Y aa.aO) (aG I.aF) (qN Y Y)) (λh=>zC ?_) λh=>aM (rU (ra (aG fA) aa.aC Y aa.aF) Y (rU (aG I.aI) Y ?_))
 .have e0:=AH λne=>xU h (aq V.s (au ne));exact(q v w t xs ins I (mI ..) (mI ..) (λf h=>h) λne=>ax e0 ne).2
 .have zl:=hO (oV iy.1).2;have em0:=Gf iy.2
  refine wq (XC i w0 y xs (ins.length+5)) (.mk em0 ⟨I.vv Y Y Y Y,fA,Y,Y,h0,hy,b8 _⟩ (gu (aV (AX ..) zl) _)) λm K J=>?_;cases J with|@mk k j x v w t II em L OB=>?_
  have r:RT (s7 v w t) (.m .Lt (.v 13) (.b .Sub (.a (.v 12) 8) (.cI 1))) (decide ((k)<(((ss y.1).length+1:Nat):Int)-1)):=eH (aG L.bb) (jv (ra (aG L.aI) aa.aC Y aa.aI) bG xG) yX;rw[succ_sub]at r;refine⟨_,r,λh=>?_,λh=>?_⟩
  .have lt:=jB.mp (aB h);refine aj8 B d3 iy lt L (aV (aV (mI _ m) OB) (aV (pW zi 5) (ao Y))) λv' w' t' j' x' rW Co L'=>?_;cases m with
   |zero=>exact ax (em▸lt) (by rw[ro];exact dq _)
   |succ m=>exact⟨m,i7 m,.mk (by rw[<-em,w9];rfl) L' (aV (aV (pW Co m) (gy (w9 II.length 1 m))) OB)⟩
  .have ge:=iP.mp λh'=>of_decide_eq_false h (jB.mpr h');have ek:=pY (em▸Gj ..) ge
   subst ek;have yc:=L.aK
   have ex:fin y=x:=XB yc aj5;refine iW (bu (stI x)) (Oz i w0 y xs II j x) (OA B L.aC L.aF) (λp K J=>by cases J;exact L.aC.sl.2) (.mk L.bz L.aI L.aF (b8 _) (λf h=>h) λf h=>bA h) (λp z K hz J=>?_) λK J=>?_
   .cases J with|@mk mX v w t I fA mE Co mx en=>?_
    obtain⟨z,OC,rfl⟩:=d7 hz;have zm:=cO OC
    have li:=aV (dK (cG.mp OC).1) (rP);refine hN Y (aj6 B iy L.aC zm (I.vv Y Y Y Y) fA mE Y (aV Co (aV (ri zx li) (ao Y))) λv' w' ap' hv I' akb XD OD=>?_);have J':Oz i w0 y xs II j x (p+1) (s7 v' w' t):=.mk I' ((hv 12 (ao Y)).trans fA) ((hv 14 (ao Y)).trans mE) (aV akb (j3 Co)) (λa h=>XD a (mx a h)) λy0 h=>?_
    .exact⟨J',J'⟩
    .rw[take_snoc OC]at h;rcases cZ.mp h with h|h
     .exact XD _ (en y0 h)
     .have e:=bK.mp h;exact ak e (OD y0 e.symm)
   .rw[bu,bc]at J;cases J with|@mk mX v w t I fA mE Co mx en=>?_
    rw[iu]at en;exact aM (q v w t mX II I (aV Co (gu rP _)) (aV (aV (mI _ m) OB) (gu (ao Y) _)) mx λf y0 j' lV=>(L.aC.N6 B (aj ex lV))▸en y0 yc).1
end
def XE{r:Sx}{l:Loc}(f g:α->V)(as:List α)(I:Nat->QA)(he:RE K e (.e l))(hl:∀j K,I j K->K.h l=M (.l (as.map λa=>V.cq [f a,g a])))(i0:I 0 K)(step:∀j a K,as[j]?=M a->I j K->WB n b (Fw.lp (I (j+1)) (Nx n r Q)) ((K.dw i (f a)).dw i' (g a)))(fin:∀K,I as.length K->WB n r Q K):WB n (.c (.f (.a [i,i']) (.l e) b .n) r) Q K:=
 f6 (nU (qQ (re he (qP (hl 0 K i0) (oU (as.map λa=>V.cq [f a,g a]) I (λj K J=>⟨_,hl j K J,Y⟩) i0 (λj v K hv J=>by obtain⟨a,ha,rfl⟩:=d7 hv;exact⟨_,Y,Y,step j a K ha J⟩) λK J=>aM (fin K (by rwa [bc]at J)))))))
noncomputable def D4(l:Nl):Es:=l.map λj=>(tV j,.e (31,[4,j]))
noncomputable def D9(l:Nl):Es:=l.map λj=>(tV j,.e (31,[9,j]))
def yd(xs:List (Nat×It)):Prop:=xs.length<=100/\(∀p∈xs,Ow p)/\∀k,k<nG->∀j,Cs j (k+1,(ss (k+1)).length)->(j,(k+1,(ss (k+1)).length))∈xs
variable(hh:yd xs)
def yd.aI:=hh.1
def yd.aC:=hh.2.1
def yd.aF:=hh.2.2
def lD(ks:Nl)(yI:Nat->Nl)(b:Nat)(w:Hp):Prop:=w (31,[2])=M (.d (D9 ks))/\ks.Nodup/\(∀j∈ks,j∈cA)/\(∀j∈ks,w (31,[9,j])=M (.l ((yI j).map tV)))/\(∀j,∀i∈yI j,i∈cA)/\(∀j,j∉ks->yI j=[])/\(∀j,(yI j).length<=b)/\∀j,j∉ks->w (31,[9,j])=U
section
variable{ks:Nl} {yI:Nat->Nl} {b:Nat} (hh:lD ks yI b w)
def lD.aC:=hh.1
def lD.bb:=hh.2.1
def lD.bz:=hh.2.2.1
def lD.aO:=hh.2.2.2.1
def lD.aI:=hh.2.2.2.2.1
def lD.aK:=hh.2.2.2.2.2.1
def lD.aF:=hh.2.2.2.2.2.2.1
def lD.cC:=hh.2.2.2.2.2.2.2
end
def P7(x:Rn):Prop:=dD bx/\x.u (32,[])=M (.l (cA.map tV))/\(∀a y,x.u (31,a::y)=U)/\∀w t ks yI,w (31,[1])=M (.d (D4 cA))->(∀j∈cA,∃xs,w (31,[4,j])=M (.l (xs.map yb))/\yd xs)->lD ks yI (100*cA.length) w->(∀l:Loc,l.1≠31->l.1≠99->w l=x.u l)->x.Q (V.cq [.e (31,[1]),.e (31,[2])]) (hb w) t
section
variable{x:Rn} (hh:P7 x)
def P7.aK:=hh.1
def P7.aF:=hh.2.1
def P7.aC:=hh.2.2.1
def P7.aI:=hh.2.2.2
end
def OE(x:Rn):Prop:=bO (x.n+4) (bS 39) [.e (20,[]),.e (24,[]),.e (32,[]),.e (53,[])] x.Q (hb x.u) x.t
def r7:Rn:=wJ P7 OE
def uX(l:Nl)(w:Hp):Prop:=w (31,[3])=M (.d uW)/\w (31,[1])=M (.d (D4 l))/\(∀j∈l,∃xs,w (31,[4,j])=M (.l (xs.map yb))/\yd xs)/\(∃ks yI,lD ks yI (100*l.length) w)/\(∀j,j∉l->w (31,[4,j])=U/\w (31,[5,j])=U)/\∀l:Loc,l.1≠31->l.1≠99->w l=r7.u l
section
variable{l:Nl} (hh:uX l w)
def uX.bb:=hh.1
def uX.aI:=hh.2.1
def uX.aF:=hh.2.2.1
def uX.aK:=hh.2.2.2.1
def uX.aO:=hh.2.2.2.2.1
def uX.aC:=hh.2.2.2.2.2
end
inductive XF(i:Nat):QA
 |mk {v:Mp} {w:Hp} {t:Nat}:uX (cA.take i) w->XF i (s7 v w t)
inductive OF(i:Nat)(w0:Hp)(x:It)(p:Nat):QA
 |mk {xs:List (Nat×It)} {ins:Nl} {v:Mp} {w:Hp} {t:Nat}:jf i w0 xs ins v w->xs.length<=10*p->ins.length<=10*p->(∀z∈(stI x).take p,z.1≠0->z.2=0->∀j,Cs j (fin z)->(j,fin z)∈xs)->OF i w0 x p (s7 v w t)
inductive XG(i:Nat)(w1:Hp)(b t p:Nat):QA
 |mk {v:Mp} {w:Hp} {ks:Nl} {yI:Nat->Nl}:v 8=M (.i i)->v 9=M (.s sE)->v 10=M (.e (31,[4,i]))->lD ks yI (b+p) w->(∀l:Loc,l.1≠31\/((∀j,l≠(31,[9,j]))/\l≠(31,[2]))->w l=w1 l)->XG i w1 b t p (s7 v w t)
variable{a b:Nat} {ks:Nl} {yI:Nat->Nl} {r:Sx}
def akc(B:dD bx)(I:lD ks yI b w):(D9 ks).length<16777216:=by rw[D9,bc];exact bM (aV (ly I.bb I.bz) (x9 B)) (ao Y)
def lD.cg(I:lD ks yI b w)(e2:w' (31,[2])=w (31,[2]))(e9:∀j,w' (31,[9,j])=w (31,[9,j])):lD ks yI b w':=⟨e2.trans I.aC,I.bb,I.bz,λj h=>(e9 j).trans (I.aO j h),I.aI,I.aK,I.aF,λj h=>(e9 j).trans (I.cC j h)⟩
def akd(B:dD bx)(it:i∈cA)(at_:a∈cA)(zb:b<=100000)(v8:v 8=M (.i i))(v9:v 9=M (.s sE))(rX:v 18=M (tV a))(I:lD ks yI b w)(q:∀w' XH XI,lD XH XI (b+1) w'->(∀l:Loc,l.1≠31\/((∀j,l≠(31,[9,j]))/\l≠(31,[2]))->w' l=w l)->Q .n (s7 v w' t)):WB n U9 Q (s7 v w t):=by
 have app:∀{w:Hp}{ks:Nl}{yI:Nat->Nl},lD ks yI b w->a∈ks->(∀w',lD ks (mS yI a (yI a++[i])) (b+1) w'->(∀l:Loc,l.1≠31\/((∀j,l≠(31,[9,j]))/\l≠(31,[2]))->w' l=w l)->Q .n (s7 v w' t))->WB n (.c (.e (.cD .a (.s (.v 5) (.v 18)) (.c (.t (.c (.v 8) (.c (.v 9) .n))) .n))) .n) Q (s7 v w t):=λ{w} {ks} {yI} I am q=>by
  refine An Y Y Y (dH (aG Y) (aG rX) (ig I.aC lU (uT am))) (I.aO a am) (jG (aW (aG v8) (aW (aG v9) bD)) (by decide:2<=16777216)) (by rw[bc];exact bM (aV (I.aF a) zb) (ao Y)) (aM (q _ ⟨(aQ (jg Y)).trans I.aC,I.bb,I.bz,λj hj=>?_,λj k hk=>?_,λj hj=>?_,λj=>?_,λj hj=>?_⟩ λl h=>aQ λe=>h.elim (λh=>h (by rw[e])) λh=>h.1 a e))
  .by_cases e:j=a
   .rw[e,kL,dF];exact bo
   .rw[kN e];exact(aQ (Aq e)).trans (I.aO j hj)
  .by_cases e:j=a
   .rw[e,kL]at hk;exact(cZ.mp hk).elim (I.aI a k) λe=>ak (bK.mp e) it
   .rw[kN e]at hk;exact I.aI j k hk
  .rw[kN λe:j=a=>hj (ak e am)];exact I.aK j hj
  .by_cases e:j=a
   .rw[e,kL,dY];exact j3 (I.aF a)
   .rw[kN e];exact jZ (I.aF j)
  .exact(aQ (Aq λe:j=a=>hj (ak e am))).trans (I.cC j hj)
 by_cases am:a∈ks
 .have tn:RT (s7 v w t) (.m .NotIn (.v 18) (.v 5)) (!(bI (D9 ks) (tV a)).isSome):=wu (aG rX) (aG Y) I.aC lU;rw[show bI (D9 ks) (tV a)=M (.e (31,[9,a])) from uT am]at tn
  exact eC tn (aM (app I am λw' I' f=>q w' ks _ I' f))
 .have no:bI (D9 ks) (tV a)=U:=Je.mp λh=>by
   rw[pI]at h;have h:=aB h
   rw[D9,fC]at h;exact(bX.mp h).elim λB k=>am (aj (tI k.2) k.1)
  have tn:RT (s7 v w t) (.m .NotIn (.v 18) (.v 5)) (!(bI (D9 ks) (tV a)).isSome):=wu (aG rX) (aG Y) I.aC lU;rw[no]at tn;refine gN tn (hM (uv (fy (eV ⟨b7 _,dQ (31,[9,a]) Y (I.cC a am) (re (aG Y) (re (aG rX) (vV (show((hb w).aH (31,[9,a]) (.l [])) (31,[2])=_ from(aQ (jg Y)).trans I.aC) lU (akc B I) ?_)))⟩))))
  show WB _ _ _ ⟨_,((hb w).aH (31,[9,a]) _).aH (31,[2]) _,t⟩;rw[je Y Y,je Y Y];have nk:cX (D9 ks) (tV a) (.e (31,[9,a]))=D9 (ks++[a]):=(mw (by rw[D9,fC];exactλh=>(bX.mp h).elim λB k=>am (aj (tI k.2) k.1))).trans (dF (l₂:=[a])).symm
  rw[nk];have I2:lD (ks++[a]) yI b ((w.aH (31,[9,a]) (.l [])).aH (31,[2]) (.d (D9 (ks++[a])))):=⟨bo,mK I.bb am,λj hj=>(cZ.mp hj).elim (I.bz j) λe=>ak (bK.mp e) at_,λj hj=>(aQ (jg Y)).trans (by
   by_cases e:j=a
   .rw[e,I.aK a am];exact bo
   .exact(aQ (Aq e)).trans (I.aO j ((cZ.mp hj).resolve_right λq=>e (bK.mp q)))),I.aI,λj hj=>I.aK j λh=>hj (dU _ h),I.aF,λj hj=>(aQ (jg Y)).trans ((aQ (Aq λe:j=a=>hj (aj e (dI _ (.head _))))).trans (I.cC j λh=>hj (dU _ h)))⟩
  exact aM (app I2 (dI _ (.head _)) λw' I' f=>q w' _ _ I' λl h=>(f l h).trans ((aQ λe=>h.elim (λh=>h (by rw[e])) λh=>h.2 e).trans (aQ λe=>h.elim (λh=>h (by rw[e])) λh=>h.1 a e)))
def ake(B:dD bx)(hi:cA[i]?=M a)(S:uX (cA.take i) w)(v8:v 8=M (.i a))(v9:v 9=M (.s sE))(q:∀v' w' t',uX (cA.take (i+1)) w'->Q .n (s7 v' w' t')):WB (n+3) U' Q (s7 v w t):=by
 have am:=cO hi;have nA:=pK IA hi
 refine oA (S.aO a nA) λf4 f5=>?_;refine oA (FL B am) λhc hx=>?_;have XJ:(cA.take i).length<=35:=aV (q7 ..) (x9 B)
 refine cF (fy (eV ⟨b7 _,dQ (31,[4,a]) Y f4 (hN Y ?_)⟩));rw[je Y Y];refine cF (fy (eV ⟨b7 _,dQ (31,[5,a]) Y (show(w.aH (31,[4,a]) (.l [])) (31,[5,a])=U from(aQ (jg Y)).trans f5) (hN Y ?_)⟩))
 rw[je Y Y];have I0:∀v:Mp,v 8=M (.i a)->v 9=M (.s sE)->v 10=M (.e (31,[4,a]))->v 11=M (.e (31,[5,a]))->jf a w [] [] v ((w.aH (31,[4,a]) (.l [])).aH (31,[5,a]) (.l [])):=λv v8 v9 v10 v11=>⟨v8,v9,v10,v11,(aQ (jg Y)).trans bo,bo,(λp h=>bA h),(λp h=>bA h),λl g h4 h5=>(aQ h5).trans (aQ h4)⟩
 refine iW (bu (stI (mi a))) (OF a w (mi a)) (OA B hc v8) (λk K J=>by cases J;exact hc.sl.2) (.mk (I0 _ v8 v9 Y Y) (b7 _) (b7 _) λz h=>bA h) (λk y K hy J=>?_) λK J=>?_
 .cases J with|@mk xs ins v w1 t I zx zi en=>?_
  obtain⟨y,hz,rfl⟩:=d7 hy;have ym:=cO hz
  have lk:=aV (dK (cG.mp hz).1) rP;refine hN Y (aj' B S.bb hc ym (I.vv Y Y Y Y) Y (aV zx (aV (o9 10 lk) (ao Y))) (aV zi (aV (o9 10 lk) (ao Y))) λv' w' t' mX rW I' zx' zi' mx OD=>?_);have J':OF a w (mi a) (k+1) (s7 v' w' t'):=.mk I' (aV zx' (by rw[rq];exact pW zx _)) (aV zi' (by rw[rq];exact pW zi _)) λz h=>?_
  .exact⟨J',J'⟩
  .rw[take_snoc hz]at h;rcases cZ.mp h with h|h
   .exactλn1 n2 j hj=>mx _ (en z h n1 n2 j hj)
   .exact ak (bK.mp h) OD
 .rw[bu,bc]at J;cases J with|@mk xs ins v w1 t I zx zi en=>?_
  rw[iu]at en;have f1:∀{b x},dM b 4=Z->dM b 5=Z->w1 (31,b::x)=w (31,b::x):=λh4 h5=>I.aC _ (show 31≠99 by decide) (jg h4) (jg h5)
  have A:yd xs:=⟨aV zx (o9 10 rP),I.bb,λk hk j hj=>en (k+1,0) (by rw[uO hx];exact .tail _ (wI.mpr ⟨k,hk,Y⟩)) (qD k) Y j hj⟩
  refine xl S.aK λks yI i9=>?_;have i9:=i9.cg (f1 Y Y) λj=>f1 Y Y
  have zi:=aV zi (o9 10 rP);refine iW (ins.map tV) (XG a w1 (100*(cA.take i).length) t) (aG I.aK) (λk K J=>by cases J with|mk _ _ _ _ f=>exact(f _ (.inr ⟨λB=>jg Y,jg Y⟩)).trans I.cC) (.mk I.aI I.aF I.aO i9 λg g=>Y) (λk x K hx J=>?_) λK J=>?_
  .cases J with|@mk v w2 ks yI v8 v9 v10 J f=>?_
   obtain⟨b,qU,rfl⟩:=d7 hx;have lk:=aV (dK (cG.mp qU).1) zi
   exact hN Y (akd B am (I.bz b (cO qU)) (aV (ri (o9 100 XJ) lk) (ao Y)) v8 v9 Y J λw' XH XI J' f'=>.mk v8 v9 v10 J' λl h=>(f' l h).trans (f l h))
  .rw[bc]at J;cases J with|@mk v w2 ks yI v8 v9 v10 J f=>?_
   have f2:∀{b x},dM b 9=Z->dM b 2=Z->w2 (31,b::x)=w1 (31,b::x):=λh9 h2=>f _ (.inr ⟨λB=>jg h9,jg h2⟩);have l1:=(f2 Y Y).trans ((f1 Y Y).trans S.aI)
   have zD:(D4 (cA.take i)).length<16777216:=by rw[D4,bc];exact bM XJ (ao Y)
   have et:=take_snoc hi;refine lC Y Y (aG Y) l1 (jG (aW (aG v8) (aW (aG v9) bD)) (by decide:2<=16777216)) (aG v10) Y zD (aM (q v _ t ⟨?_,?_,λc hC=>?_,⟨ks,yI,?_⟩,λc hC=>?_,λl h h9=>?_⟩))
   .exact(aQ (jg Y)).trans ((f2 Y Y).trans ((f1 Y Y).trans S.bb))
   .rw[et];refine bo.trans (aq (λx=>M (af.d x)) ((mw ?_).trans (dF (l₂:=[a])).symm));rw[D4,fC];exactλh=>(bX.mp h).elim λB k=>nA (aj (tI k.2) k.1)
   .by_cases e:c=a
    .subst e;exact⟨xs,(aQ (jg Y)).trans ((f2 Y Y).trans I.d9),A⟩
    .rw[et]at hC;refine bT (S.aF c ((cZ.mp hC).resolve_right λh=>e (bK.mp h))) λvs hv k=>?_;exact⟨vs,(aQ (jg Y)).trans ((f2 Y Y).trans ((I.aC _ (show 31≠99 by decide) (Aq e) (jg Y)).trans hv)),k⟩
   .refine⟨(aQ (jg Y)).trans J.aC,J.bb,J.bz,λj h=>(aQ (jg Y)).trans (J.aO j h),J.aI,J.aK,λj=>aV (J.aF j) ?_,λj h=>(aQ (jg Y)).trans (J.cC j h)⟩;rw[et,dY,Nat.mul_add];exact gu zi _
   .rw[et]at hC;have e:c≠a:=λe=>hC (dI _ (aj e (.head _)))
    have o:=S.aO c λh=>hC (dU _ h);exact⟨(aQ (jg Y)).trans ((f2 Y Y).trans ((I.aC _ (show 31≠99 by decide) (Aq e) (jg Y)).trans o.1)),(aQ (jg Y)).trans ((f2 Y Y).trans ((I.aC _ (show 31≠99 by decide) (jg Y) (Aq e)).trans o.2))⟩
   .exact(aQ λe=>h (by rw[e])).trans ((f l (.inl h)).trans ((I.aC l h9 (λe=>h (by rw[e])) λe=>h (by rw[e])).trans (S.aC l h h9)))
inductive XK(i:Nat):QA
 |mk {v:Mp} {w:Hp}:w (31,[3])=M (.d ((cA.take i).map λB=>(tV B,.i 1)))->w (31,[1])=M (.d [])->w (31,[2])=M (.d [])->(∀l:Loc,l.1≠31\/(∃a x,3<a/\l=(31,a::x))->w l=r7.u l)->XK i (s7 v w r7.t)
def akh(H:P7 r7):OE r7:=by
 have B:=H.aK;refine f9 agy Y (cF (mO (dQ (31,[1]) Y (H.aC _ _) (cF (mO (dQ (31,[2]) Y (H.aC 2 []) (cF (mO (dQ (31,[3]) Y (H.aC 3 []) ?_)))))))));show WB _ _ _ ⟨m7,(((hb r7.u).aH (31,[1]) (.d [])).aH (31,[2]) (.d [])).aH (31,[3]) (.d []),r7.t⟩;rw[je Y Y,je Y Y,je Y Y,show m7=ba kM m7 m7 from jx]
 have zl:∀{i},((cA.take i).map λB=>(tV B,V.i 1)).length<16777216:=by intro j;rw[bc];exact bM (aV (q7 ..) (x9 B)) (ao Y)
 have n3:∀{l:Loc}{b:Nat},b<=3->l.1≠31\/(∃a x,3<a/\l=(31,a::x))->l≠(31,[b]):=λhb h e=>by
  subst e;rcases h with h|⟨a,x,h,e⟩
  .exact h Y
  .exact iP.mpr hb (ak (d6 (cP e).2).1 h)
 refine iW (cA.map tV) XK (aG Y) (λi K J=>by cases J with|mk _ _ _ f=>exact(f (32,[]) (.inl (ao Y))).trans H.aF) (.mk bo Y Y λl h=>(aQ (n3 (ao Y) h)).trans ((aQ (n3 (ao Y) h)).trans (aQ (n3 (ao Y) h)))) (λi x K hx J=>?_) λK J=>?_
 .cases J with|@mk v w d3 l1 l2 f=>?_
  obtain⟨A,hA,rfl⟩:=d7 hx;refine hN Y (lC Y Y (aG Y) d3 (aG Y) bG lU zl (aM (.mk ?_ l1 l2 λl h=>(aQ (n3 (ao Y) h)).trans (f l h))));rw[take_snoc hA,dF];exact bo.trans (aq (λx=>M (af.d x)) (mw (by rw[fC];exactλh=>(bX.mp h).elim λB k=>pK IA hA (aj (tI k.2) k.1))))
 .rw[bc]at J;cases J with|@mk v w d3 l1 l2 f=>?_
  rw[iu]at d3;refine XE (λj:Nat=>.i j) (λc=>.s sE) cA XF (aG Y) (λi K J=>by cases J with|mk S=>exact(S.aC (32,[]) (ao Y) (ao Y)).trans H.aF) (.mk ⟨d3,l1,(λA h=>bA h),⟨[],λc=>[],l2,gY,(λj h=>bA h),(λA h=>bA h),(λj i h=>bA h),(λc c=>Y),(λc=>b7 _),λA c=>(f _ (.inr ⟨9,_,ao Y,Y⟩)).trans (H.aC _ _)⟩,λA c=>⟨(f _ (.inr ⟨4,_,ao Y,Y⟩)).trans (H.aC _ _),(f _ (.inr ⟨5,_,ao Y,Y⟩)).trans (H.aC _ _)⟩,λl h c=>f l (.inl h)⟩) (λi A K hA J=>?_) λK J=>?_
  .cases J with|@mk v w t S=>?_
   exact FI Y Y (ake B hA ⟨S.bb,S.aI,S.aF,S.aK,S.aO,S.aC⟩ Y Y λv' w' t' S'=>.mk S')
  .cases J with|@mk v w t S=>?_
   rw[iu]at S;refine xl S.aK λks yI i9=>?_;exact kc (jG (aW (aG Y) (aW (aG Y) bD)) (ao Y)) (H.aI w t ks yI S.aI S.aF i9 S.aC)
def aki{x:Rn}(p:P7 x):OE x:=x5 akh p
structure FN extends Rn where
 s:Dg
 b:Nat->Ss
noncomputable def tJ(l:Nl)(r:It):Es:=l.map λj=>(.i (j:Nat),.e (52,[r.1,r.2,j]))
def LaX(b:Nat->Ss)(j:Nat)(r:It)(w:Hp):Prop:=∃(es:Es)(l:Loc)(L:Ss),w (6,[r.1,r.2])=M (.d es)/\bI es (.i (j:Nat))=M (.e l)/\w l=M (.l (L.map .s))/\l.1=52/\L.Nodup/\(∀a∈L,jM a)/\∀i∈cA,∀a∈b i,a∈L
def P8(x:FN):Prop:=dD bx/\x.u (31,[1])=M (.d (D4 cA))/\(∀j∈cA,∃xs,x.u (31,[4,j])=M (.l (xs.map yb))/\yd xs)/\DO 1 x.b x.s x.u/\(∀y,x.u (6,y)=hL (6,y))/\(∀y,x.u (52,y)=U)/\∀w t,(∀k,k<nG->∀j,Cs j (k+1,(ss (k+1)).length)->LaX x.b j (k+1,(ss (k+1)).length) w)->x.Q .n (hb w) t
section
variable{x:FN} (hh:P8 x)
def P8.aF:=hh.1
def P8.aI:=hh.2.1
def P8.aO:=hh.2.2.1
def P8.aC:=hh.2.2.2.1
def P8.bz:=hh.2.2.2.2.1
def P8.bb:=hh.2.2.2.2.2.1
def P8.aK:=hh.2.2.2.2.2.2
end
def OG(x:FN):Prop:=bO (x.n+1) (bS 42) [.e (20,[]),.e (31,[1]),.e (38,[1])] x.Q (hb x.u) x.t
def r8:FN:=uP ⟨Cb,⟨[],[],λa=>0,λa=>0,λa=>[]⟩,λa=>[]⟩ P8 OG
noncomputable def m8:Mp:=λi=>([V.e (20,[]),.e (31,[1]),.e (38,[1])]++[])[i]?
abbrev s8(v:Mp)(w:Hp)(t:Nat):AS:=⟨ba [3,4,5,6,7,8] v m8,hb w,t⟩
noncomputable def F8(i:Nat):Ss:=r8.s.L (r8.s.f i)
def LH(Lk:It->Nl)(La:Nat->It->Ss)(w:Hp):Prop:=(∀r,Io r->w (6,[r.1,r.2])=M (.d (tJ (Lk r) r)))/\(∀r,(Lk r).Nodup)/\(∀r,∀j∈Lk r,j<bx.c.length)/\(∀r,∀j∈Lk r,w (52,[r.1,r.2,j])=M (.l ((La j r).map .s)))/\(∀j r,(La j r).Nodup/\∀a∈La j r,jM a)/\(∀r j,j∉Lk r->w (52,[r.1,r.2,j])=U)/\∀l:Loc,l.1≠6->l.1≠52->l.1≠99->w l=r8.u l
section
variable{Lk:It->Nl} {La:Nat->It->Ss} (hh:LH Lk La w)
def LH.aF:=hh.1
def LH.aK:=hh.2.1
def LH.bz:=hh.2.2.1
def LH.aO:=hh.2.2.2.1
def LH.aI:=hh.2.2.2.2.1
def LH.bb:=hh.2.2.2.2.2.1
def LH.aC:=hh.2.2.2.2.2.2
end
def Dn(Lk:It->Nl)(La:Nat->It->Ss)(j:Nat)(r:It)(i:Nat):Prop:=j∈Lk r/\∀a∈F8 i,a∈La j r
def Le(Lk:It->Nl)(La:Nat->It->Ss)(Cp:It->Nl)(Cq:Nat->It->Ss):Prop:=∀r,∀j∈Lk r,j∈Cp r/\∀a∈La j r,a∈Cq j r
noncomputable def tK(La:Nat->It->Ss)(j:Nat)(r:It)(c:Ss):Nat->It->Ss:=λj' r'=>if j'=j/\r'=r then c else La j' r'
inductive XM(p:Nat):QA
 |mk {v:Mp} {w:Hp} {t:Nat} {Lk:It->Nl} {La:Nat->It->Ss}:LH Lk La w->(∀i∈cA.take p,∀k,k<nG->∀j,Cs j (k+1,(ss (k+1)).length)->Dn Lk La j (k+1,(ss (k+1)).length) i)->XM p (s8 v w t)
inductive XN(i:Nat)(xs:List (Nat×It))(XO:It->Nl)(XP:Nat->It->Ss)(k:Nat):QA
 |mk {v:Mp} {w:Hp} {t:Nat} {Lk:It->Nl} {La:Nat->It->Ss}:LH Lk La w->v 3=M (tV i)->Le XO XP Lk La->(∀p∈xs.take k,Dn Lk La p.1 p.2 i)->XN i xs XO XP k (s8 v w t)
inductive IJ(i j:Nat)(r:It)(Lk:It->Nl)(La:Nat->It->Ss)(v:Mp)(t:Nat)(k:Nat):QA
 |mk {v':Mp} {w:Hp} {c:Ss}:(∀a,a≠8->v' a=v a)->LH Lk (tK La j r c) w->(∀a∈La j r,a∈c)->(∀a∈(F8 i).take k,a∈c)->IJ i j r Lk La v t k (s8 v' w t)
variable{r:It} {Lk:It->Nl} {La:Nat->It->Ss} {c:Ss}
def uY:tK La j r c j r=c:=aw ⟨Y,Y⟩
def uZ{j':Nat}{r':It}(h:¬(j'=j/\r'=r)):tK La j r c j' r'=La j' r':=au h
def OH{l:Nl}(h:j∈l):bI (tJ l r) (.i (j:Nat))=M (.e (52,[r.1,r.2,j])):=by
 unfold tJ
 induction l with
 |nil=>exact bA h
 |cons a l ih=>
  rw[l6,ui];by_cases e:a=j
  .rw[aw (aq (λn:Nat=>V.i n) e),e]
  .exact(au λw=>e (jT (lT w))).trans (ih ((cU.mp h).resolve_left λq=>e q.symm))
def akk{l:Nl}(h:j∉l):bI (tJ l r) (.i (j:Nat))=U:=Je.mp λq=>by
 rw[pI]at q;have q:=aB q
 rw[tJ,fC]at q;exact(bX.mp q).elim λb k=>h (aj (jT (lT k.2)) k.1)
def IK{r':It}{j':Nat}(h:¬(j'=j/\r'=r)):((52,[r'.1,r'.2,j']):Loc)≠(52,[r.1,r.2,j]):=λe=>by
 have e:=(cP e).2;have e1:=(d6 e).1
 have e2:=(d6 (d6 e).2).1;exact h ⟨(d6 (d6 (d6 e).2).2).1,ru e1 e2⟩
def OI(H:P8 r8)(hi:i∈cA):bI (FD r8.s.D r8.s.f) (tV i)=M (.e (39,[r8.s.f i]))/\r8.u (39,[r8.s.f i])=M (.l ((F8 i).map .s))/\(F8 i).Nodup/\(∀a∈F8 i,jM a)/\∀a∈r8.b i,a∈F8 i:=
 have iD:=H.aC.aC i hi;have k:=H.aC.aK i iD
 ⟨uT iD,H.aC.aI _ k.1,(H.aC.aF _ k.1).1,(H.aC.aF _ k.1).2,k.2⟩
def LH.up(L:LH Lk La w)(hj:j∈Lk r)(nd:c.Nodup)(ok:∀a∈c,jM a):LH Lk (tK La j r c) (w.aH (52,[r.1,r.2,j]) (.l (c.map .s))):=
 ⟨L.aF,
 L.aK,
 L.bz,
 λr' j' h=>by
  by_cases e:j'=j/\r'=r
  .obtain⟨rfl,rfl⟩:=e;rw[uY];exact bo
  .rw[uZ e];exact(aQ (IK e)).trans (L.aO r' j' h),
 λj' r'=>by
  by_cases e:j'=j/\r'=r
  .rw[e.1,e.2,uY];exact⟨nd,ok⟩
  .rw[uZ e];exact L.aI j' r',
 λr' j' h=>(aQ (IK λe:j'=j/\r'=r=>h (ak e.1 (e.2▸hj)))).trans (L.bb r' j' h),
 λl h6 Ar Cr=>(aQ λe=>Ar (by rw[e])).trans (L.aC l h6 Ar Cr)⟩
def akl{c':Ss}:tK (tK La j r c) j r c'=tK La j r c':=funext λj'=>funext λr'=>by
 by_cases e:j'=j/\r'=r
 .rw[e.1,e.2,uY,uY]
 .rw[uZ e,uZ e,uZ e]
def akm(H:P8 r8)(hi:i∈cA)(ir:Io r)(hj:j∈Lk r)(v5:v 5=M (.i (j:Nat)))(v6:v 6=M (.e (5,[r.1,r.2])))(hs:(F8 i)[k]?=M s)(J:IJ i j r Lk La v t k K)(q:∀bk,IJ i j r Lk La v t (k+1) bk->Q .n bk):WB n Va Q (K.dw 8 (.s s)):=by
 cases J with|@mk v' w c hv L g1 g2=>?_
 have X:=ix H.aF.aC ir;refine hN Y ?_;have ec:tK La j r c j r=c:=uY
 have OJ:=L.aO r j hj;have FO:=L.aI j r
 rw[ec]at OJ FO;have rr:RE (s8 (aJ v' 8 (.s s)) w t) (.s (.a (.v 6) 14) (.v 5)) (.e (52,[r.1,r.2,j])):=dH (ra (aG ((hv 6 (ao Y)).trans v6)) X.aC Y X.bz) (aG ((hv 5 (ao Y)).trans v5)) (ig (L.aF r ir) Y (OH hj))
 have od:∀a,a≠8->aJ v' 8 (.s s) a=v a:=λa h=>(au h).trans (hv a h);have sm:=cO hs
 have zc:=ly FO.1 λa ha=>oX (FO.2 a ha);have g3:∀{c':Ss},(∀b∈c,b∈c')->s∈c'->∀b∈(F8 i).take (k+1),b∈c':=λ{c'} h1 h2 b hb=>by rw[take_snoc hs]at hb;exact(cZ.mp hb).elim (λhb=>h1 b (g2 b hb)) λe=>ak (bK.mp e) h2
 refine wB (zQ (aG Y) rr OJ) (λni=>?_) λni=>aM (aM (q _ (.mk od L g1 (g3 (λd h=>h) ni))));refine An Y Y Y rr OJ (aG Y) (by rw[bc];exact bM zc (ao Y)) (aM (aM (q _ (.mk (c:=c++[s]) od ?_ (λa h=>dU _ (g1 a h)) (g3 (λa h=>dU _ h) (dI _ (.head _)))))))
 rw[<-akl,show c.map V.s++[V.s s]=(c++[s]).map .s from(dF (l₂:=[s])).symm]
 exact L.up hj (mK FO.1 ni) λa ha=>(cZ.mp ha).elim (FO.2 a) λe=>ak (bK.mp e) ((OI H hi).2.2.2.1 s sm)
def akn(H:P8 r8)(hi:i∈cA)(L:LH Lk La w)(hp:Ow (j,r))(v3:v 3=M (tV i))(v5:v 5=M (.i (j:Nat)))(v6:v 6=M (.e (5,[r.1,r.2])))(q:∀v' w' t' Cp Cq,LH Cp Cq w'->v' 3=M (tV i)->Le Lk La Cp Cq->Dn Cp Cq j r i->Q .n (s8 v' w' t')):WB n MJ Q (s8 v w t):=by
 have B:=H.aF;refine bT hp λx hc hr=>?_;have ir:=rO hc.mn hr
 have X:=ix B.aC ir;have jl:=(cG.mp hc.sl.1).1
 refine sC (OI H hi) λk1 k2 k3 k4 d=>?_;have XQ:∀{w},RE (s8 v w t) (.a (.v 6) 14) (.e (6,[r.1,r.2])):=ra (aG v6) X.aC Y X.bz
 have rest:∀(w1) mY tL,LH mY tL w1->j∈mY r->Le Lk La mY tL->WB n (Sx.gG 1 MJ) Q (s8 v w1 t):=λw1 mY tL L1 hj le=>by
  have XR:=(L1.aC (38,[1]) (by decide) (by decide) (by decide)).trans H.aC.aO
  refine cF (iT (re (aG Y) ⟨_,kX XR,fM (re (aG v3) (fM (fy (eV ⟨b7 _,jJ (eV (ur XR lU ?_))⟩))))⟩));rw[k1];refine hN Y ?_;rw[je Y Y];have Lt:LH mY (tK tL j r (tL j r)) (w1.aH (99,[t]) (.l [])):=by
   have e:tK tL j r (tL j r)=tL:=funext λj'=>funext λr'=>by
    by_cases e:j'=j/\r'=r
    .rw[e.1,e.2,uY]
    .rw[uZ e]
   rw[e];exact⟨L1.aF,L1.aK,L1.bz,L1.aO,L1.aI,L1.bb,λl h6 Ar Cr=>(aQ λe=>Cr (by rw[e])).trans (L1.aC l h6 Ar Cr)⟩
  refine iW ((F8 i).map .s) (IJ i j r mY tL (aJ v 7 (.e (39,[r8.s.f i]))) (t+1)) (aG Y) (λk K J=>by cases J with|mk _ L _ _=>exact(L.aC (39,[r8.s.f i]) (show 39≠6 by decide) (show 39≠52 by decide) (show 39≠99 by decide)).trans k2) (.mk (λd d=>Y) Lt (λd h=>h) λd h=>bA h) (λk s K hs J=>?_) λK J=>?_
  .obtain⟨s,By,rfl⟩:=d7 hs;exact akm (v:=aJ v 7 (.e (39,[r8.s.f i]))) H hi ir hj v5 v6 By J λbk J'=>J'
  .rw[bc]at J;cases J with|@mk v' w2 c hv L2 g1 g2=>?_
   rw[iu]at g2;refine aM (q v' w2 _ mY _ L2 ((hv 3 (by decide)).trans v3) (λr' j' h=>⟨(le r' j' h).1,λa ha=>?_⟩) ⟨hj,λa ha=>?_⟩)
   .have k:=(le r' j' h).2 a ha;by_cases e:j'=j/\r'=r
    .rw[e.1,e.2]at k⊢;rw[uY];exact g1 a k
    .rw[uZ e];exact k
   .rw[uY];exact g2 a ha
 have tn:RT (s8 v w t) (.m .NotIn (.v 5) (.a (.v 6) 14)) (!(bI (tJ (Lk r) r) (.i j)).isSome):=wu (aG v5) XQ (L.aF r ir) Y;by_cases c:j∈Lk r
 .rw[OH c]at tn;exact eC tn (aM (rest w Lk La L c λr j h=>⟨h,λa ha=>ha⟩))
 .rw[akk c]at tn;have zk:(tJ (Lk r) r).length<16777216:=by rw[tJ,bc];refine bM (ly (L.aK r) λj hj=>j4.mpr (L.bz r j hj)) ?_;rw[fP];exact bM B.aF.lB (by decide)
  refine gN tn (hM (uv (fy (eV ⟨b7 _,dQ (52,[r.1,r.2,j]) Y (L.bb r j c) ?_⟩))));show WE n _ _ ⟨_,(hb w).aH (52,[r.1,r.2,j]) (.l []),t⟩;rw[je Y Y];refine re XQ (re (aG v5) (vV ((aQ (aU Y)).trans (L.aF r ir):(w.aH (52,[r.1,r.2,j]) (.l [])) (6,[r.1,r.2])=_) Y zk ?_));show WB n _ _ ⟨_,(hb (w.aH (52,[r.1,r.2,j]) (.l []))).aH (6,[r.1,r.2]) _,t⟩;have ek:cX (tJ (Lk r) r) (.i j) (.e (52,[r.1,r.2,j]))=tJ (Lk r++[j]) r:=(mw (by rw[tJ,fC];exactλh=>(bX.mp h).elim λb k=>c (jT (lT k.2)▸k.1))).trans (dF (l₂:=[j])).symm
  rw[je Y Y,ek];obtain⟨mY,hk⟩:∃mY:It->Nl,mY=λr'=>if r'=r then Lk r++[j]else Lk r':=⟨_,Y⟩;have kr:mY r=Lk r++[j]:=hk▸aw Y
  have kn:∀{r'},r'≠r->mY r'=Lk r':=λh=>hk▸au h;have km:∀{r' j'},j'∈mY r'->j'∈Lk r'\/(j'=j/\r'=r):=λ{r' j'} h=>by
   by_cases e:r'=r
   .rw[e,kr]at h;exact(cZ.mp h).imp (λh=>e▸h) λh=>⟨bK.mp h,e⟩
   .rw[kn e]at h;exact .inl h
  have ks:∀{r' j'},j'∈Lk r'->j'∈mY r':=λ{r' j'} h=>by
   by_cases e:r'=r
   .rw[e,kr];exact dU _ (e▸h)
   .rw[kn e];exact h
  have jm:j∈mY r:=kr▸dI _ (.head _);refine aM (rest _ mY (tK La j r []) ⟨λr' ir'=>?_,λr'=>?_,λr' j' h=>?_,λr' j' h=>?_,λj' r'=>?_,λr' j' h=>?_,λl h6 Ar Cr=>(aQ λe=>h6 (by rw[e])).trans ((aQ λe=>Ar (by rw[e])).trans (L.aC l h6 Ar Cr))⟩ jm λr' j' h=>⟨ks h,λa ha=>?_⟩)
  .by_cases e:r'=r
   .rw[e,kr];exact bo
   .exact(kn e)▸(aQ λq=>e (ru (qx (cP q).2).1 (qx (cP q).2).2)).trans ((aQ (aU Y)).trans (L.aF r' ir'))
  .by_cases e:r'=r
   .rw[e,kr];exact mK (L.aK r) c
   .rw[kn e];exact L.aK r'
  .exact(km h).elim (L.bz r' j') λe=>e.1▸jl
  .refine(aQ (aU Y)).trans ?_;by_cases e:j'=j/\r'=r
   .rw[e.1,e.2,uY];exact bo
   .rw[uZ e];exact(aQ (IK e)).trans (L.aO r' j' ((km h).resolve_right e))
  .by_cases e:j'=j/\r'=r
   .rw[e.1,e.2,uY];exact⟨gY,λd h=>bA h⟩
   .rw[uZ e];exact L.aI j' r'
  .have e:¬(j'=j/\r'=r):=λe=>h (e.1▸e.2▸jm);exact(aQ (aU Y)).trans ((aQ (IK e)).trans (L.bb r' j' λq=>h (ks q)))
  .have e:¬(j'=j/\r'=r):=λe=>c (e.1▸e.2▸h);rw[uZ e];exact ha
def akp(H:P8 r8):OG r8:=by
 have B:=H.aF;refine f9 agD Y ?_;show WB r8.n Vb _ ⟨m8,hb r8.u,r8.t⟩;rw[show m8=ba [3,4,5,6,7,8] m8 m8 from jx]
 have e1:∀{Lk:It->Nl}{La:Nat->It->Ss}{w:Hp},LH Lk La w->w (31,[1])=M (.d (D4 cA)):=λL=>(L.aC (31,[1]) (ao Y) (ao Y) (ao Y)).trans H.aI;have dk:(D4 cA).map (λp=>V.cq [p.1,p.2])=cA.map λj=>V.cq [tV j,.e (31,[4,j])]:=fC
 refine f6 (nU (adb (re (aG Y) ⟨(31,[1]),D4 cA,Y,H.aI,oU (cA.map λj=>V.cq [tV j,.e (31,[4,j])]) XM (λi K J=>by cases J with|@mk v w t _ _ L _=>exact⟨_,e1 (w:=w) L,Y,by rw[<-dk,gX]⟩) (.mk (Lk:=λb=>[]) ⟨λr ir=>(H.bz _).trans (ix B.aC ir).cC,λb=>gY,λb b h=>bA h,λb b h=>bA h,λb b=>⟨gY,λb h=>bA h⟩,λb b b=>H.bb _,λb b b b=>Y⟩ λb h=>bA h) (λp x K hx J=>?_) λK J=>?_⟩)))
 .cases J with|@mk v w t Lk La L dn=>?_
  obtain⟨i,hA,rfl⟩:=d7 hx;have im:=cO hA
  refine bT (H.aO i im) λxs hv A=>?_;have e4:∀{Lk:It->Nl}{La:Nat->It->Ss}{w:Hp},LH Lk La w->w (31,[4,i])=M (.l (xs.map yb)):=λL=>(L.aC (31,[4,i]) (show 31≠6 by decide) (show 31≠52 by decide) (show 31≠99 by decide)).trans hv
  refine⟨_,Y,Y,FI Y Y ?_⟩;refine f6 (nU (qQ (re (aG Y) (qP (e4 (w:=w) L) (oU (xs.map yb) (XN i xs Lk La) (λk K J=>by cases J with|@mk v w t _ _ L _ _ _=>exact⟨_,e4 (w:=w) L,Y⟩) (.mk L Y (λr j h=>⟨h,λa ha=>ha⟩) λb h=>bA h) (λk x K hk J=>?_) λK J=>?_)))))
  .cases J with|@mk v w t mY tL L1 v3 le d1=>?_
   obtain⟨p,hp,rfl⟩:=d7 hk;have pm:=cO hp
   refine⟨_,Y,Y,FI Y Y (akn H im L1 (A.aC p pm) v3 Y Y λv' w' t' Cp Cq L' Cc Ap d'=>.mk L' Cc (λr j h=>⟨(Ap r j (le r j h).1).1,λa ha=>(Ap r j (le r j h).1).2 a ((le r j h).2 a ha)⟩) λp' h=>?_)⟩;rw[take_snoc hp]at h;rcases cZ.mp h with h|h
   .have o:=d1 p' h;have k:=Ap p'.2 p'.1 o.1
    exact⟨k.1,λa ha=>k.2 a (o.2 a ha)⟩
   .exact ak (bK.mp h) d'
  .rw[bc]at J;cases J with|@mk v w t mY tL L1 v3 le d1=>?_
   rw[iu]at d1;refine aM (aM (.mk L1 λi' h k hk j hj=>?_));rw[take_snoc hA]at h;rcases cZ.mp h with h|h
   .have o:=dn i' h k hk j hj;have q:=le _ j o.1
    exact⟨q.1,λa ha=>q.2 a (o.2 a ha)⟩
   .exact ak (bK.mp h) (d1 _ (A.aF k hk j hj))
 .rw[bc]at J;cases J with|@mk v w t Lk La L dn=>?_
  rw[iu]at dn;refine aM (aM (H.aK w t λk hk j hj=>?_));have t0:=(FG B).mpr ⟨(0,0),wO B,Y⟩
  have o:=dn 0 t0 k hk j hj;exact⟨_,_,La j (k+1,(ss (k+1)).length),L.aF (k+1,(ss (k+1)).length) ⟨hk,b8 _⟩,OH o.1,L.aO _ j o.1,Y,(L.aI _ _).1,(L.aI _ _).2,λi hi a ha=>(dn i hi k hk j hj).2 a ((OI H hi).2.2.2.2 a ha)⟩
def akq{x:FN}(p:P8 x):OG x:=x4 akp p
def XS(j:Nat)(r:It)(w:Hp):Prop:=∃(es:Es)(l:Loc)(L:Ss),w (6,[r.1,r.2])=M (.d es)/\bI es (.i (j:Nat))=M (.e l)/\w l=M (.l (L.map .s))/\l.1=52/\uM L
def akr(B:dD bx){a:aP}(h:jM a):∃i∈cA,a∈Cn i:=by
 have go:∀{x y:It},Mn x->sym x=M sE->y∈stI (mC x)->sym y=M a->∃i∈cA,a∈Cn i:=λ{x} {y} ab e hy hs=>by obtain⟨i,c⟩:=ajl B ab;refine⟨i,(FG B).mpr ⟨x,c,e⟩,?_⟩;rw[Cn,c.mi];exact(Ot e).mpr (.inl ⟨y,hy,hs⟩)
 rcases h with rfl|⟨k,d,h1,h2⟩
 .refine⟨0,(FG B).mpr ⟨(0,0),wO B,Y⟩,?_⟩;rw[Cn,(wO B).mi];exact(Ot Y).mpr (.inr ⟨Y,Y⟩)
 .cases k with
  |zero=>exact cW h2
  |succ k=>
   cases d with
   |zero=>refine go (y:=(k+1,1)) Ca Y ?_ h2;rw[rN (FH Y)];exact .tail _ (tE.mpr ⟨k,h1,Y⟩)
   |succ d=>exact go (x:=(k+1,d+1)) ⟨xX h1,dK (cG.mp h1).1,.inr ⟨fY d,λw=>by obtain rfl:d=0:=pb w.1;exact(wD w.2 h1).mp Y Y⟩⟩ h1 Ah h2
def aks{Q:RQ}(B:dD bx)(q:∀w t,(∀k,k<nG->∀j,Cs j (k+1,(ss (k+1)).length)->XS j (k+1,(ss (k+1)).length) w)->Q .n (hb w) t):bO (n+43) (bS 43) [.e (20,[]),.e (24,[])] Q (hb bx.u) t:=by
 have gm:∀{a f:Nat}{m:Mp}{w:Hp}{t:Nat},DB 6 a=M f->(aJ F0 37 (.i B.aF.aO.aC.choose)) a=U->GM ⟨m,hb w,t⟩ (.e (20,[])) (gv a) (.ref (bS f)):=λh h'=>kW (qA B) h h';refine f9 agE Y (cF (jw (re (aG Y) ⟨_,gm Y Y,rl bD (bO.o (ajq (x:=⟨n+41,bx.u,t,_⟩) ⟨B,B.aI 53 _ Y,λw1 t1 e1=>?_⟩))⟩)));refine cF (jw (re (aG Y) ⟨_,gm Y Y,rl (aW (aG Y) bD) (bO.o (ajs (x:=⟨n+41,mix [53,99] w1 bx.u,t1,_⟩) ⟨B,B.aI 32 _ Y,λw2 e2=>?_⟩))⟩));generalize hu:mix [32] w2 (mix [53,99] w1 bx.u)=u;have o2:∀l:Loc,[32,53,99].contains l.1=Z->u l=bx.u l:=λl h=>by have h:=nz.mp h;rw[<-hu,gU (nz.mpr λq=>h (gj.mpr (ak (bK.mp (gj.mp q)) (.head _)))),gU (nz.mpr λq=>h (gj.mpr (.tail _ (gj.mp q))))]
 have e53:u (53,[])=M (.s []):=aj hu e1;have rT:u (32,[])=M (.l (cA.map tV)):=aj hu e2
 have fr:=λk y h h'=>(o2 _ h').trans (B.aI k y h);refine cF (jw (re (aG Y) ⟨_,gm Y Y,rl (aW (aG Y) (aW (aG Y) (aW (aG Y) bD))) (bO.o (aj0 B e53 ((o2 _ Y).trans B.d9) (B.aO.imp λg h=>(o2 _ Y).trans h) rT ⟨fr 37 _ Y Y,fr 37 _ Y Y,fr 38 _ Y Y⟩ (λj=>fr 39 _ Y Y) (λj=>fr 33 _ Y Y) λs0 w3 t3 R BG O3=>?_))⟩));have o3:=O3.1
 refine hM (xN (jw (re (aG Y) ⟨_,gm Y Y,rl (aW (aG Y) (aW (aG Y) (aW (aG Y) bD))) (bO.o (aki (x:=⟨n+38,w3,t3,_⟩) ⟨B,(o3 (32,[]) Y Y (aU Y)).trans rT,λk y=>(o3 (31,k::y) Y Y (aU Y)).trans (fr 31 _ Y Y),λw4 t4 ks yI l1 lb i9 o4=>⟨_,Y,Y,?_⟩⟩))⟩)));have tN:∀l:Loc,dM l.1 31=Z->dM l.1 99=Z->w4 l=w3 l:=λl h h'=>o4 l (λe=>by rw[e]at h;exact b9 h) λe=>by rw[e]at h';exact b9 h'
 have hi:∀j∈cA,(bI (D9 ks) (tV j)=M (.e (31,[9,j]))/\w4 (31,[9,j])=M (.l ((yI j).map tV)))\/(bI (D9 ks) (tV j)=U/\yI j=[]):=λj b=>by
  by_cases c:j∈ks
  .exact .inl ⟨uT c,i9.aO j c⟩
  .refine .inr ⟨Je.mp λh=>?_,i9.aK j c⟩;rw[pI]at h;have h:=aB h
   rw[D9,fC]at h;exact(bX.mp h).elim λC k=>c (aj (tI k.2) k.1)
 have R4:DO 0 Cn s0 w4:=⟨(tN _ Y Y).trans R.aO,R.aC,R.bb,R.aK,λi h=>(tN _ Y Y).trans (R.aI i h),R.aF⟩;refine cF (jw (re (aG Y) ⟨_,gm Y Y,rl (aW (aG Y) (aW (aG Y) (aW (aG Y) bD))) (bO.o (aj2 B ((tN _ Y Y).trans ((o3 (51,[]) Y Y (aU Y)).trans ((o2 _ Y).trans B.cC))) (O3.2.imp λg h=>(tN _ Y Y).trans h) ((tN _ Y Y).trans ((o3 (32,[]) Y Y (aU Y)).trans rT)) ⟨(tN _ Y Y).trans ((o3 (37,[1]) Y Y (aU Y)).trans (fr 37 _ Y Y)),(tN _ Y Y).trans ((o3 (37,[1,0]) Y Y (aU Y)).trans (fr 37 _ Y Y)),(tN _ Y Y).trans ((o3 (38,[1]) Y Y (aU Y)).trans (fr 38 _ Y Y))⟩ (λj=>(tN _ Y Y).trans ((o3 (33,[1,j]) Y Y (aU Y)).trans (fr 33 _ Y Y))) R4 BG i9.aC hi (λj b i h=>i9.aI j i h) λs w5 t5 d5 O5=>?_))⟩));have o5:=O5.1
 refine oR (jw (re (aG Y) ⟨_,gm Y Y,rl (aW (aG Y) (aW (aG Y) bD)) (bO.o (akq (x:=⟨⟨n+41,w5,t5,_⟩,s,s0.L⟩) ⟨B,(o5 (31,[1]) Y Y (aU Y)).trans l1,λj hj=>(lb j hj).imp λvs h=>⟨(o5 (31,[4,j]) Y Y (aU Y)).trans h.1,h.2⟩,d5,λy=>(o5 (6,y) Y Y (aU Y)).trans ((tN _ Y Y).trans ((o3 (6,y) Y Y (aU Y)).trans ((o2 _ Y).trans (B.bz y)))),λy=>(o5 (52,y) Y Y (aU Y)).trans ((tN _ Y Y).trans ((o3 (52,y) Y Y (aU Y)).trans (fr 52 _ Y Y))),λw6 t6 k=>aM (q w6 t6 λp lp j hj=>?_)⟩))⟩));refine qH (k p lp j hj) λes l L hW=>J7 hW λa1 a2 a3 a4 a5 a6 a7=>?_;refine⟨es,l,L,a1,a2,a3,a4,a5,λa=>⟨a6 a,λh=>?_⟩⟩;refine bT (akr B h) λi hi ha=>?_;have k:=(R.aK i (R.aC i hi)).2 a ha
 rw[BG i (R.aC i hi)]at k;exact a7 i hi a k
noncomputable def cx(y:It):Nat:=@JM Nat ⟨0⟩ λj=>Cs j y
def Av(x:It)(p:Nat)(a:aP):Prop:=∃z∈(stI x).take p,sym z=M a
noncomputable def As(x:It)(a:aP):V:=.i (cx ((mv x a).getD (0,0)):Nat)
noncomputable def rY(x:It):V:=.i (-(x.1:Int))
noncomputable def rZ(x:It)(a:aP):V:=if Rd x a then(if gh x.1 a=0 then As x a else if gh x.1 a=2 then .n else rY x)else As x a
noncomputable def u6(x:It)(p:Nat)(a:aP):Option V:=if 0<p/\Rd x a then M (rY x)else if 0<p/\x.1=0/\sym x=U/\a=dP then M (.i 0)else U
noncomputable def mZ(x:It)(p:Nat)(a:aP):Option V:=if a≠sE/\Av x p a then M (rZ x a)else u6 x p a
def u7(x:It)(p:Nat)(a:aP):Prop:=Rd x a/\Av x p a/\gh x.1 a=0/\(pk x.1).2=0
def jz(x:It)(p:Nat)(es ep:Es):Prop:=(es.map (·.1)).Nodup/\(∀k∈es.map (·.1),∃a,k=.s a)/\(∀a,bI es (.s a)=mZ x p a)/\∀a,Rd x a->¬Av x p a->0<p->bI ep (.s a)=M (.e (5,[x.1,x.2]))
section
variable{es ep:Es} (hh:jz x p es ep)
def jz.aF:=hh.1
def jz.aI:=hh.2.1
def jz.aC:=hh.2.2.1
def jz.aK:=hh.2.2.2
end
variable{a:aP} {ep:Es} {k v:V}
def aku{k:Nat}:gh k a=0\/gh k a=2\/gh k a=1:=by
 unfold gh
 split
 .exact .inl Y
 .split
  .exact .inr (.inl Y)
  .exact .inr (.inr Y)
def IL(B:dD bx)(h:Cs j y):cx y=j:=(JK (p:=λj=>Cs j y) ⟨j,h⟩).N6 B h
def akv:eF.Nodup:=by
 unfold eF;refine List.pairwise_filterMap.mpr (AO.imp λ{a b} ne x hx y hy e=>ne ?_);have h1:=(Af hx).2
 have h2:=(Af hy).2;rw[e,h2]at h1;exact(pb (cP h1).1).symm
def akw:aL.Nodup:=Iz (λa b e=>pb (cP e).1) AO
def XT(m:Mn x):(stI x).Nodup:=by
 by_cases a:sym x=M sE
 .rw[uO a];refine iY.mpr ⟨λh=>?_,akw⟩;obtain⟨i,_,rfl⟩:=wI.mp h;exact ax (m.aI.resolve_left (qD i)).1 (dq 0)
 .by_cases b:bE x
  .rw[rN b];refine iY.mpr ⟨λh=>?_,akv⟩;obtain⟨i,h0,rfl⟩:=tE.mp h;exact(m.aI.resolve_left (qD i)).2 ⟨Y,h0⟩
  .exact ak (Ft b a) (iY.mpr ⟨λh=>bA h,gY⟩)
def FQ:(stI x)[(0:Nat)]?=M x:=Y
def qB(hz:(stI x)[p]?=M z):Av x (p+1) a↔Av x p a\/sym z=M a:=by unfold Av;exact ak (take_snoc hz) ⟨λwz=>bT wz λy hy e=>(cZ.mp hy).imp (λh=>⟨y,h,e⟩) λh=>aj (bK.mp h:y=z) e,λh=>h.elim (λwz=>bT wz λy hy e=>⟨y,dU _ hy,e⟩) λe=>⟨z,dI _ (.head _),e⟩⟩
def XU(m:Mn x)(hz:(stI x)[p]?=M z)(hs:sym z=M s)(n:s≠sE):¬Av x p s:=λwz=>bT wz λy hy e=>by
 have q:=bF ((tF m (cO hz) hs n).symm.trans (tF m (Gd hy) e n));have e2:=ru (cP q).1 (pb (cP q).2)
 exact pK (XT m) hz (ak e2 hy)
def Au(m:Mn x)(n:a≠sE):Av x (stI x).length a↔∃y,mv x a=M y:=by unfold Av;exact ak iu ⟨λw=>bT w λz hz e=>⟨_,tF m hz e n⟩,λw=>oE w λy h=>(B9 h).imp λz k=>⟨k.1,k.2.1⟩⟩
theorem XV(hz:(stI x)[p]?=M z)(hs:sym z≠U):u6 x (p+1) a=u6 x p a:=by
 unfold u6;have go:∀{P:Prop},(P->sym x=U)->(0<p+1/\P↔0<p/\P):=λ{P} h=>⟨λw=>⟨?_,w.2⟩,λw=>⟨fY p,w.2⟩⟩
 .rw[x8 (go λr=>r.2.1),x8 (go λr=>r.2.1)]
 .refine yo λp0=>?_;subst p0;exact hs (aj (bF (FQ.symm.trans hz)) (h w.2))
def akx(hz:(stI x)[p]?=M z)(hs:sym z=M sE):mZ x (p+1) a=mZ x p a:=by unfold mZ;exact aj (XV hz (λe=>cW (e.symm.trans hs))) (x8 ⟨λw=>⟨w.1,((qB hz).mp w.2).resolve_right λe=>w.1 (bF (e.symm.trans hs))⟩,λw=>⟨w.1,(qB hz).mpr (.inl w.2)⟩⟩)
def XW(m:Mn x)(hz:(stI x)[p]?=M z)(hs:sym z=M s)(n:s≠sE):mZ x (p+1) a=if a=s then M (rZ x s)else mZ x p a:=by
 unfold mZ;rw[XV hz (λe=>cW (e.symm.trans hs))];by_cases e:a=s
 .subst e;rw[aw Y,aw ⟨n,(qB hz).mpr (.inr hs)⟩]
 .rw[au e];exact x8 ⟨λw=>⟨w.1,((qB hz).mp w.2).resolve_right λq=>e (bF (q.symm.trans hs))⟩,λw=>⟨w.1,(qB hz).mpr (.inl w.2)⟩⟩
def aky:mZ x 0 a=U:=by unfold mZ u6;rw[au λw=>w.2.elim λz k=>bA k.1,au λw=>dq 0 w.1,au λw=>dq 0 w.1]
def XX(h:sym x=U):¬Av x 1 a:=λwz=>bT wz λz hz e=>cW (h.symm.trans (aj (bK.mp hz) e))
def XY(h:sym x=U):mZ x 1 a=if Rd x a then M (rY x)else if x.1=0/\a=dP then M (.i 0)else U:=by unfold mZ u6;rw[au λw=>XX h w.2];exact(x8 ⟨λw=>w.2,λw=>⟨pd,w⟩⟩).trans (aq (λo=>if Rd x a then M (rY x)else o) (x8 ⟨λw=>⟨w.2.1,w.2.2.2⟩,λw=>⟨pd,w.1,h,w.2⟩⟩))
def XZ(h:∀k∈es.map (·.1),∃a,k=V.s a):∀k∈(cX es (.s s) v).map (·.1),∃a,k=V.s a:=λk hk=>by
 by_cases c:V.s s∈es.map (·.1)
 .have e:(cX es (.s s) v).map (·.1)=es.map (·.1):=by have:=GO (es:=es) (x:=.s s) (y:=v);rw[aw c]at this;exact this
  exact h k (aj e hk)
 .rw[mw c,dF]at hk;exact(cZ.mp hk).elim (h k) λe=>⟨s,bK.mp e⟩
def X0(h:(es.map (·.1)).Nodup):((cX es k v).map (·.1)).Nodup:=by
 by_cases c:k∈es.map (·.1)
 .have:=GO (es:=es) (x:=k) (y:=v);rw[aw c]at this;exact ak this h
 .exact ak (mw c) (dF▸mK h c)
theorem jz.aH{o:V}(R:jz x p es ep)(m:Mn x)(hz:(stI x)[p]?=M z)(hs:sym z=M s)(n:s≠sE):jz x (p+1) (cX es (.s s) (rZ x s)) (cX ep (.s s) o):=
 ⟨X0 R.aF,
 XZ R.aI,
 λa=>by
  rw[XW m hz hs n];by_cases e:a=s
  .rw[e,wy,aw Y]
  .rw[rJ λq=>e (str_inj q).symm,au e];exact R.aC a,
 λa r av b=>by have ne:a≠s:=λe=>av ((qB hz).mpr (.inr (ak e hs)));rw[rJ λq=>ne (str_inj q).symm];refine R.aK a r (λh=>av ((qB hz).mpr (.inl h))) (yo λp0=>?_);subst p0;obtain rfl:=bF (FQ.symm.trans hz);exact cW (r.2.1.symm.trans hs)⟩
theorem jz.kZ(R:jz x p es ep)(hz:(stI x)[p]?=M z)(hs:sym z≠U)(e:∀a,mZ x (p+1) a=mZ x p a):jz x (p+1) es ep:=⟨R.aF,R.aI,λa=>(R.aC a).trans (e a).symm,λa r av b=>R.aK a r (λh=>av ((qB hz).mpr (.inl h))) (yo λp0=>by subst p0;obtain rfl:=bF (FQ.symm.trans hz);exact hs r.2.1)⟩
def X2(B:dD bx)(h:Cs j x):mZ x (stI x).length a=M v↔Cell (bx.c.map (·.2)) x a v:=by
 have m:=h.mn;have pos:0<(stI x).length:=fY _
 have sv:∀{y},mv x a=M y->∃i,Cs i y/\As x a=.i i:=λ{y} e=>by refine oE (h.go B e) λi hi=>?_;refine⟨i,hi,?_⟩;unfold As;exact e▸aq (λn:Nat=>V.i n) (IL B hi)
 have one:∀{i:Nat} {y},mv x a=M y->(bx.c.map (·.2))[i]?=M y->As x a=.i i:=λ{i} {y} e hi=>by refine bT (sv e) λi' X3 k=>?_;exact k▸aq (λn:Nat=>V.i n) ((ua (cG.mp X3.rR).1 B.aF.aI).mp (X3.rR.trans hi.symm))
 have Ct:∀{a},Rd x a->a≠sE:=λr e=>ax (oX (e▸r.2.2)) (by decide)
 unfold mZ
 constructor
 .intro e;by_cases c:a≠sE/\Av x (stI x).length a
  .rw[aw c]at e;refine oE ((Au m c.1).mp c.2) λy hy=>?_;refine bT (sv hy) λi hi ei=>?_;obtain rfl:=bF e;unfold rZ;by_cases r:Rd x a
   .rw[aw r];by_cases d0:gh x.1 a=0
    .rw[aw d0,ei];exact .sh hy c.1 hi.rR λb=>d0
    .rw[au d0];by_cases d2:gh x.1 a=2
     .rw[aw d2];exact .n r hy d2
     .rw[au d2];refine .r r (.inr ?_);exact(aku.resolve_left d0).resolve_left d2
   .rw[au r,ei];exact .sh hy c.1 hi.rR λw=>ax w r
  .rw[au c]at e;unfold u6 at e;by_cases r:0<(stI x).length/\Rd x a
   .rw[aw r]at e;obtain rfl:=bF e;refine .r r.2 (.inl ?_);cases q:mv x a with
    |none=>rfl
    |some y=>exact ax ⟨Ct r.2,(Au m (Ct r.2)).mpr ⟨y,q⟩⟩ c
   .rw[au r]at e;by_cases d:0<(stI x).length/\x.1=0/\sym x=U/\a=dP
    .rw[aw d]at e;obtain rfl:=bF e;exact .a d.2.1 d.2.2.1 d.2.2.2
    .rw[au d]at e;exact cW e
 .intro e;cases e with
  |a e0 e1 e2=>
   have na:¬Av x (stI x).length a:=λwz=>bT wz λz hz e=>ax (e2▸tj e) (by decide)
   rw[au λw=>na w.2];unfold u6;rw[au λw=>w.2.1 e0,aw ⟨pos,e0,e1,e2⟩]
  |@sh y i hy n hi d=>
   rw[aw ⟨n,(Au m n).mpr ⟨y,hy⟩⟩];unfold rZ;rw[one hy hi];by_cases r:Rd x a
   .rw[aw r,aw (d r)]
   .rw[au r]
  |r r d=>
   by_cases c:Av x (stI x).length a
   .refine oE ((Au m (Ct r)).mp c) λy hy=>?_;have d:=d.resolve_left λw=>cW (w.symm.trans hy)
    rw[aw ⟨Ct r,c⟩];unfold rZ;rw[aw r,au (by rw[d];decide),au (by rw[d];decide)]
    rfl
   .rw[au λw=>c w.2];unfold u6;rw[aw ⟨pos,r⟩]
    rfl
  |@n y r hy d=>rw[aw ⟨Ct r,(Au m (Ct r)).mpr ⟨y,hy⟩⟩];unfold rZ;rw[aw r,au (by rw[d];decide),aw d]
def akz(B:dD bx)(h:Cs j x)(R:jz x (stI x).length es ep):∀k v,(k,v)∈es↔∃a,k=.s a/\Cell (bx.c.map (·.2)) x a v:=λk v=>by
 constructor
 .intro m;obtain⟨a,rfl⟩:=R.aI k (gW m);exact⟨a,Y,(X2 B h).mp ((R.aC a).symm.trans (Am R.aF m))⟩
 .rintro⟨a,rfl,c⟩;have e:=(R.aC a).trans ((X2 B h).mpr c)
  have:∀{es:Es},bI es (.s a)=M v->(V.s a,v)∈es:=λ{es}=>by
   induction es with
   |nil=>exactλh=>cW h
   |cons q es ih=>
    intro h;rw[ui]at h;by_cases c:q.1=.s a
    .rw[aw c]at h;exact aj (ru c (bF h):q=(V.s a,v)) (.head _)
    .rw[au c]at h;exact .tail _ (ih h)
  exact this e
def P9(x:Rn):Prop:=dD bx/\(pQ=aiy->∀k,k<nG->∀j,Cs j (k+1,(ss (k+1)).length)->XS j (k+1,(ss (k+1)).length) x.u)
section
variable{x:Rn} (hh:P9 x)
def P9.aC:=hh.1
def P9.aF:=hh.2
end
def X4(x:Rn):Prop:=WB (lx.n+43) (Sx.gG 7 MK) (Rt lx.Q) ⟨pM,hb x.u,x.t⟩
def r9:Rn:=wJ P9 X4
noncomputable abbrev pR:Nl:=[2,20,21,23,25,27,29,30,34,35,36,40,99]
noncomputable abbrev pV:Nl:=[7,8,9,10,11,12,13,14,15,16,17,18,19,20,21,22,23,24,25,26,27,28,29,30]
abbrev u9:Hp:=mix zR r9.u bx.u
abbrev s9(v:Mp)(w:Hp)(t:Nat):AS:=⟨ba pV v pM,hp (mix pR w u9),t⟩
noncomputable abbrev og:=List (Nat×aP)
def RS(j:Nat)(w0:Hp)(es ep:Es)(cl:og)(N:Nat)(w:Hp):Prop:=w (29,[j])=M (.d es)/\es.length<=N/\w (29,[j,1])=M (.d ep)/\ep.length<=N/\w (27,[])=M (.l (cl.map gS))/\(∃c:Int,w (20,[])=M (.i 6 (aJ F0 37 (.i c)))/\Pw c w)/\∀l:Loc,l.1≠2->l.1≠99->l≠(27,[])->l≠(29,[j])->l≠(29,[j,1])->w l=w0 l
section
variable{w0:Hp} {cl:og} {N:Nat} (hh:RS j w0 es ep cl N w)
def RS.aC:=hh.1
def RS.aI:=hh.2.1
def RS.aO:=hh.2.2.1
def RS.bb:=hh.2.2.2.1
def RS.bz:=hh.2.2.2.2.1
def RS.aF:=hh.2.2.2.2.2.1
def RS.aK:=hh.2.2.2.2.2.2
end
def jA(j:Nat)(v:Mp):Prop:=v 7=M (.i j)/\v 8=M (.e (34,sl j))/\v 9=M (.e (29,[j]))/\v 10=M (.e (29,[j,1]))/\v 11=M (.e (30,[j]))
section
variable{v:Mp} (hh:jA j v)
def jA.aI:=hh.1
def jA.aK:=hh.2.1
def jA.aC:=hh.2.2.1
def jA.aF:=hh.2.2.2.1
def jA.aO:=hh.2.2.2.2
end
variable{k:Nat} {v:Mp} {b d:V} {r:Sx}
section
variable{N:Nat} {w0:Hp} {cl:og} {o:V} {L:Ss}
def jA.vv(Vr:jA j v)(h:∀i,i<=11->v' i=v i):jA j v':=⟨(h 7 (ao Y)).trans Vr.aI,(h 8 (ao Y)).trans Vr.aK,(h 9 (ao Y)).trans Vr.aC,(h 10 (ao Y)).trans Vr.aF,(h 11 (ao Y)).trans Vr.aO⟩
def ye:((29,[j,1]):Loc)≠(29,[j]):=λe=>pA (aq (λl:Loc=>l.2.length) e) Y
def RS.aH(R:RS j w0 es ep cl N w):RS j w0 (cX es b d) (cX ep b o) cl (N+1) ((w.aH (29,[j]) (.d (cX es b d))).aH (29,[j,1]) (.d (cX ep b o))):=
 ⟨(aQ ye.symm).trans bo,wL R.aI,bo,wL R.bb,R.bz,R.aF,λl h2 h9 h7 ha hb=>(aQ hb).trans ((aQ ha).trans (R.aK l h2 h9 h7 ha hb))⟩
def RS.OK(R:RS j w0 es ep cl N w):RS j w0 (cX es b d) ep cl (N+1) (w.aH (29,[j]) (.d (cX es b d))):=
 ⟨bo,wL R.aI,(aQ ye).trans R.aO,jZ R.bb,R.bz,R.aF,λl h2 h9 h7 ha hb=>(aQ ha).trans (R.aK l h2 h9 h7 ha hb)⟩
def RS.up{ab:Nat}(R:RS j w0 es ep cl N w)(h:N<=ab):RS j w0 es ep cl ab w:=⟨R.aC,aV R.aI h,R.aO,aV R.bb h,R.bz,R.aF,R.aK⟩
def RS.cf(R:RS j w0 es ep cl N w){c:Nat×aP}:RS j w0 es ep (cl++[c]) N (w.aH (27,[]) (.l (cl.map gS++[gS c]))):=
 ⟨R.aC,R.aI,R.aO,R.bb,bo.trans (aq (λl=>M (af.l l)) (dF (l₂:=[c])).symm),R.aF,λl h2 h9 h7 ha hb=>(aQ h7).trans (R.aK l h2 h9 h7 ha hb)⟩
def X5(B:dD bx)(kp:k<=nG)(he:RE (s9 v w t) e (.i (k:Nat))):RE (s9 v w t) (.s (.v 1) e) (.e (2,[k])):=dH (aG Y) he (mj B.aC.aI (B7 (pX kp)))
def X6{op:AY}{f:Int->Int}(B:dD bx)(R:RS j w0 es ep cl N w)(kp:k<=nG)(he:RE (s9 v w t) e (.i (k:Nat)))(hio:∀m:Int,IO op (.i m) (.i 1) (.i (f m)))(q:∀w',RS j w0 es ep cl N w'->WB n r Q (s9 v w' t)):WB n (.c (.Bf (.s (.v 1) e) 57 op (.cI 1)) r) Q (s9 v w t):=by
 refine fH R.aF λc ht P0 pw=>?_;refine fH (pw k kp) λg hg gq old=>?_;have go:=λm hm=>hM (SJ (re (X5 B kp he) ⟨_,hm,re bG ⟨_,hio m,vW hg Y (by
  show WB n _ _ ⟨_,(hp (mix pR w u9)).aH (2,[k]) _,t⟩;rw[je Y Y];refine q _ ⟨R.aC,R.aI,R.aO,R.bb,R.bz,⟨c,ht,P0,λp jb=>?_⟩,λl h2 h9 h7 ha hb=>(aQ λe=>h2 (by rw[e])).trans (R.aK l h2 h9 h7 ha hb)⟩
  by_cases e:p=k
  .rw[e];exact⟨_,bo,⟨λa h1 h2=>(au h2).trans (gq.1 a h1 h2),.inr ⟨_,Y⟩⟩,old⟩
  .refine bT (pw p jb) λg' h' k'=>?_;exact⟨g',(aQ (mz e)).trans h',k'⟩)⟩⟩))
 rcases gq.2 with h|⟨m,h⟩
 .exact go 0 (Sa hg Y h Y)
 .exact go m (KR hg Y h)
def akB(B:dD bx)(io:Io y)(R:RS j w0 es ep cl N w)(zN:N<=1000000)(Vr:jA j v)(fA:v 12=M (.e (5,[y.1,y.2])))(mE:v 14=M (.s a))(no:bI es (.s a)=U)(q:∀v' w',(∀i,i≠15->v' i=v i)->RS j w0 (cX es (.s a) (rY y)) (cX ep (.s a) (.e (5,[y.1,y.2]))) cl (N+1) w'->Q .n (s9 v' w' t)):WB n HO Q (s9 v w t):=by
 have X:=ix B.aC io;have z7:∀{m:Nat},m<=N->m<16777216:=λh=>bM (aV h zN) (ao Y)
 have r2:∀{v:Mp}{w:Hp},v 12=M (.e (5,[y.1,y.2]))->RE (s9 v w t) (.a (.v 12) 2) (.i y.1):=λe=>ra (aG e) X.aC Y X.bb;refine cF (iT (re (aG Vr.aC) ⟨_,kX R.aC,rl (aW (aG mE) bD) (sS R.aC Y ?_)⟩));rw[no];refine hN Y (eC (aj (aA (λh:V.n≠.n=>h Y)) (K3 (aG Y))) (lC Y Y (aG Vr.aC) R.aC (aG mE) (rD (r2 fA)) Y (z7 R.aI) ?_));refine lC Y Y (aG Vr.aF) ((aQ ye).trans R.aO) (aG mE) (aG fA) Y (z7 R.bb) ?_;have R2:=R.aH (b:=.s a) (d:=rY y) (o:=.e (5,[y.1,y.2]))
 refine X6 B R2 io.1 (r2 fA) (λm=>Bx) λw' R'=>aM (aM (q _ w' (λi h=>au h) R'))
end
noncomputable def pS(L:Ss)(v:V):Es:=L.map λa=>(.s a,v)
inductive X7(j:Nat)(w0:Hp)(y:It)(L:Ss)(cl:og)(v:Mp)(t i:Nat):QA
 |mk {v':Mp} {w:Hp}:(∀i,i<=13->v' i=v i)->RS j w0 (pS (L.take i) (rY y)) (pS (L.take i) (.e (5,[y.1,y.2]))) cl i w->X7 j w0 y L cl v t i (s9 v' w t)
section
variable{N:Nat} {w0:Hp} {cl:og} {o:V} {L:Ss} {lo:Loc}
def X8(h:a∉L):bI (pS L o) (.s a)=U:=Je.mp λe=>by rw[pI,decide_eq_true_iff,pS,fC]at e;exact(bX.mp e).elim λb k=>h (aj (str_inj k.2) k.1)
def X9(h:a∈L):bI (pS L o) (.s a)=M o:=by
 induction L with
 |nil=>exact bA h
 |cons b L ih=>
  rw[pS,l6,ui];by_cases e:b=a
  .exact aw (aq V.s e)
  .exact(au λw=>e (str_inj w)).trans (ih ((cU.mp h).resolve_left λq=>e q.symm))
def X'(h:a∉L):cX (pS L o) (.s a) o=pS (L++[a]) o:=(mw (by rw[pS,fC];exactλe=>(bX.mp e).elim λb k=>h (aj (str_inj k.2) k.1))).trans (dF (l₂:=[a])).symm
def akC(B:dD bx)(io:Io y)(R:RS j w0 [] [] cl 0 w)(Vr:jA j v)(fA:v 12=M (.e (5,[y.1,y.2])))(oe:v 13=M (.e lo))(hl:∀w,(hp (mix pR w u9)) lo=M (.l (L.map .s)))(A:uM L)(q:∀v' w',(∀i,i<=13->v' i=v i)->RS j w0 (pS L (rY y)) (pS L (.e (5,[y.1,y.2]))) cl 9 w'->WB n r Q (s9 v' w' t)):WB n (.c (.f (.v 14) (.l (.v 13)) HO .n) r) Q (s9 v w t):=by
 have z:=ly A.1 λa ha=>oX ((A.2 a).mp ha);refine iW (L.map .s) (X7 j w0 y L cl v t) (aG oe) (λi K J=>by cases J;exact hl _) (.mk (λb b=>Y) R) (λi a K ha J=>?_) λK J=>?_
 .cases J with|@mk v' w hv R=>?_
  obtain⟨a,OM,rfl⟩:=d7 ha;have li:=aV (dK (cG.mp OM).1) z
  have h:∀{i},i<=13->aJ v' 14 (.s a) i=v i:=λ{i} le=>(au λe=>by rw[e]at le;exact ax le (ao Y)).trans (hv i le)
  have nA:=pK A.1 OM;refine hN Y (akB B io R (aV li (ao Y)) (Vr.vv λi hi=>h (aV hi (ao Y))) ((h (ao Y)).trans fA) Y (X8 nA) λWi w' od R'=>.mk (λi le=>(od i λe=>by rw[e]at le;exact ax le (ao Y)).trans (h le)) ?_)
  exact ak (take_snoc OM) ((X' nA)▸(X' nA)▸R')
 .rw[bc]at J;cases J with|@mk v' w hv R=>?_
  rw[iu]at R;exact q v' w hv (R.up z)
def akD(y0:y.1≠0)(hs:sym y=U)(A:uM L):jz y 1 (pS L (rY y)) (pS L (.e (5,[y.1,y.2]))):=
 ⟨by rw[pS,fC];exact Iz (λa b e=>str_inj e) A.1,
 λk hk=>by rw[pS,fC]at hk;exact(bX.mp hk).imp λa h=>h.2.symm,
 λa=>by
  rw[XY hs];by_cases c:a∈L
  .rw[X9 c,aw ⟨y0,hs,(A.2 a).mp c⟩]
  .rw[X8 c,au λr:Rd y a=>c ((A.2 a).mpr r.2.2),au λe=>y0 e.1],
 λa r d d=>X9 ((A.2 a).mpr r.2.2)⟩
end
def CK(es:Es)(N:Nat)(w:Hp):Prop:=(∃A,GC es A nB N w)/\(∀k,bI bx.es k≠U->bI es k≠U)/\fN bx.u w
section
variable{N:Nat} (hh:CK es N w)
def CK.aF:=hh.1
def CK.aI:=hh.2.1
def CK.aC:=hh.2.2
end
def lE(x:It)(p:Nat)(cr:Ss):Prop:=cr.Nodup/\cr.length<=p/\∀a,a∈cr↔u7 x p a
section
variable{cr:Ss} (hh:lE x p cr)
def lE.aI:=hh.1
def lE.aF:=hh.2.1
def lE.aC:=hh.2.2
end
noncomputable def lW(oZ:og)(j:Nat)(cr:Ss):og:=oZ++cr.map λa=>(j,a)
variable{ec:Es} {cr:Ss} {oZ:og}
section
variable{N:Nat} {w0:Hp} {cl:og} {o:V}
def lF{a b:Nat}(h:dM a b=Z):a≠b:=λe=>by rw[e,AU]at h;exact b9 h
def CK.eq(C:CK ec N w0)(R:RS j w0 es ep cl N' w):CK ec N w:=by
 refine oE C.aF λA G=>?_;have e:∀{a y},dM a 2=Z->dM a 99=Z->dM a 29=Z->dM a 27=Z->w (a,y)=w0 (a,y):=λh1 h2 h3 h4=>R.aK _ (lF h1) (lF h2) (aU h4) (aU h3) (aU h3)
 have p:fN w0 w:=λk l o f h=>by rcases f with⟨rfl,_⟩|⟨rfl,_⟩<;>exact(e rfl rfl rfl rfl).trans h
 exact⟨⟨A,G.cg p (λl ds h z k=>⟨ds,(e Y Y Y Y).trans h,z,k.fR p (λb h=>h) λb b h=>h⟩) (e Y Y Y Y) R.aF (b8 _) (G.aF.imp λj0 k j h=>⟨(e Y Y Y Y).trans (k j h).1,(e Y Y Y Y).trans (k j h).2⟩)⟩,C.aI,λk l o f h=>p k l o f (C.aC k l o f h)⟩
def RS.tm(R:RS j w0 es ep cl N w)(w':Hp):RS j w0 es ep cl N (mix [99] w' w):=⟨R.aC,R.aI,R.aO,R.bb,R.bz,R.aF,λl h2 h9 h7 ha hb=>(Cm h9).trans (R.aK l h2 h9 h7 ha hb)⟩
def lE.kZ(T:lE x p cr)(e:∀a,u7 x (p+1) a↔u7 x p a):lE x (p+1) cr:=⟨T.aI,jZ T.aF,λa=>(T.aC a).trans (e a).symm⟩
def FT(hz:(stI x)[p]?=M z)(hs:sym z=M s)(no:¬(Rd x s/\gh x.1 s=0/\(pk x.1).2=0)):u7 x (p+1) a↔u7 x p a:=by unfold u7;refine⟨λh=>⟨h.1,((qB hz).mp h.2.1).resolve_right λe=>no ?_,h.2.2⟩,λh=>⟨h.1,(qB hz).mpr (.inl h.2.1),h.2.2⟩⟩;obtain rfl:=bF (e.symm.trans hs);exact⟨h.1,h.2.2⟩
def lE.add(T:lE x p cr)(m:Mn x)(hz:(stI x)[p]?=M z)(hs:sym z=M s)(n:s≠sE)(h:Rd x s/\gh x.1 s=0/\(pk x.1).2=0):lE x (p+1) (cr++[s]):=
 ⟨mK T.aI λw=>XU m hz hs n ((T.aC s).mp w).2.1,
 by rw[dY];exact j3 T.aF,
 λa=>by rw[cZ,T.aC,bK];unfold u7;refine⟨λw=>w.elim (λw=>⟨w.1,(qB hz).mpr (.inl w.2.1),w.2.2⟩) λe=>ak e ⟨h.1,(qB hz).mpr (.inr hs),h.2⟩,λw=>((qB hz).mp w.2.1).imp (λq=>⟨w.1,q,w.2.2⟩) λq=>bF (q.symm.trans hs)⟩⟩
def akE:lW oZ j cr++[(j,s)]=lW oZ j (cr++[s]):=by
 unfold lW;rw[dF,q9]
 rfl
def jz.OK(R:jz x p es ep)(m:Mn x)(hz:(stI x)[p]?=M z)(hs:sym z=M s)(n:s≠sE):jz x (p+1) (cX es (.s s) (rZ x s)) ep:=
 have q:=R.aH (o:=.n) m hz hs n
 ⟨q.aF,q.aI,q.aC,λa r av p0=>by
  have k:=q.aK a r av p0
  rwa [rJ λe=>av ((qB hz).mpr (.inr (aj (str_inj e:s=a) hs)))]at k⟩
theorem akF(m:Mn x)(hz:(stI x)[p]?=M z)(hs:sym z=M s)(n:s≠sE)(R:jz x p es ep):(Rd x s/\bI es (.s s)=M (rY x)/\bI ep (.s s)=M (.e (5,[x.1,x.2])))\/(¬Rd x s/\bI es (.s s)=U):=by
 have na:=XU m hz hs n;have e:=R.aC s
 unfold mZ at e;rw[au λw=>na w.2]at e;unfold u6 at e;by_cases r:Rd x s
 .have p0:0<p:=yo λp0=>by subst p0;obtain rfl:=bF (FQ.symm.trans hz);exact cW (r.2.1.symm.trans hs)
  rw[aw ⟨p0,r⟩]at e;exact .inl ⟨r,e,R.aK s r na p0⟩
 .rw[au λw:0<p/\Rd x s=>r w.2,au λw:0<p/\x.1=0/\sym x=U/\s=dP=>ax (w.2.2.2▸tj hs) (by decide)]at e
  exact .inr ⟨r,e⟩
def akG(h:(decide (((pk k).2:Int)<((pq s).2:Nat))||(decide (V.i ((pq s).2:Nat)=.i ((pk k).2:Nat))&&decide ((pk k).1="right")))=O):gh k s=0:=by
 unfold gh;refine aw ?_;rcases yn.mp h with h|h
 .exact .inl (jB.mp (aB h))
 .have h:=dS.mp h;exact .inr ⟨jT (lT (aB h.1)),aB h.2⟩
def akH(h:(decide (((pk k).2:Int)<((pq s).2:Nat))||(decide (V.i ((pq s).2:Nat)=.i ((pk k).2:Nat))&&decide ((pk k).1="right")))=Z):¬((pk k).2<(pq s).2\/(pq s).2=(pk k).2/\(pk k).1="right"):=λw=>by
 have e:(decide (((pk k).2:Int)<((pq s).2))||(decide (V.i ((pq s).2)=.i ((pk k).2))&&decide ((pk k).1="right")))=O:=yn.mpr (w.imp (λw=>az (jB.mpr w)) λw=>dS.mpr ⟨az (by rw[w.1]),az w.2⟩)
 exact b9 (e.symm.trans h)
def akI(h:(pk k).2=0):(pk k).1="right":=by
 cases k with
 |zero=>rfl
 |succ k=>exact VU.2 h
end
section
variable{w0:Hp}
def akJ(h:sym x=U):u7 x 1 a↔u7 x 0 a:=⟨λw=>ax w.2.1 (XX h),λw=>w.2.1.elim λz k=>bA k.1⟩
def akK(B:P9 r9)(h:Cs j x)(hs:sym x=U)(R:RS j w0 [] [] (lW oZ j cr) 0 w)(T:lE x 0 cr)(Vr:jA j v)(fA:v 12=M (.e (5,[x.1,x.2])))(q:∀v' w' dA rG,jA j v'->RS j w0 dA rG (lW oZ j cr) 20 w'->jz x 1 dA rG->lE x 1 cr->Q .n (s9 v' w' t)):WB (lx.n+43) HQ Q (s9 v w t):=by
 have BB:=B.aC;have io:Io x:=⟨h.mn.aC,h.mn.aF⟩
 have X:=ix BB.aC io;have el:x.2=(ss x.1).length:=pY io.2 (jj.mp hs)
 have T1:lE x 1 cr:=T.kZ λa=>akJ hs;have rr:∀{v:Mp} {w t a y},v 12=M (.e (5,[x.1,x.2]))->ku 2 a=O->fI x a=M y->RE (s9 v w t) (.a (.v 12) a) y:=λe d h=>ra (aG e) X.aC d h
 have tt:RT (s9 v w t) (.m .Eq (.a (.v 12) 8) (.b .Add (.a (.v 12) 13) (.cI 1))) (decide (V.i ((ss x.1).length+1:Nat)=.i ((x.2:Int)+1))):=eH (rr fA Y X.aI) (jv (rr fA Y X.aF) bG qm) (qn Y Y);refine gN (aj (az (aj el Y:V.i ((ss x.1).length+1:Nat)=.i ((x.2:Int)+1))) tt) ?_;refine jd (my (rr fA Y X.aO) bW) (λe=>?_) λe=>?_
 .have x0:x.1=0:=AH λne=>ax ((au ne:qW x.1=sE).symm.trans e) (ao Y);refine lC Y Y (aG Vr.aC) R.aC bW bG Y (ao Y) (lC Y Y (aG Vr.aF) ((aQ ye).trans R.aO:(w.aH (29,[j]) _) (29,[j,1])=_) bW (aG fA) Y (ao Y) (aM (aM (aM ?_))));refine q v _ _ _ Vr ((R.aH).up (ao Y)) ⟨iY.mpr ⟨λh=>bA h,gY⟩,λk hk=>⟨dP,bK.mp hk⟩,λa=>?_,λa r=>ax x0 r.1⟩ T1;rw[XY hs,au λr:Rd x a=>r.1 x0];by_cases c:a=dP
  .rw[c,aw ⟨x0,Y⟩];exact aw Y
  .rw[au λw=>c w.2];exact au λw=>c (str_inj w).symm
 .have x0:x.1≠0:=λe0=>e (aw e0);have fin:∀{lo:Loc}{L:Ss},(∀w,(hp (mix pR w u9)) lo=M (.l (L.map .s)))->uM L->WB (lx.n+43) (.c (.f (.v 14) (.l (.v 13)) HO .n) .n) (Nx (lx.n+43) .n (Nx (lx.n+43) .n Q)) (s9 (aJ v 13 (.e lo)) w t):=λ{lo} {L} hl A=>akC BB io R (Vr.vv λi hi=>au λe=>by rw[e]at hi;exact ax hi (ao Y)) fA Y hl A λv' w' hv R'=>aM (aM (aM (q v' w' _ _ (Vr.vv λi hi=>(hv i (aV hi (ao Y))).trans (au λe=>by rw[e]at hi;exact ax hi (ao Y))) (R'.up (ao Y)) (akD x0 hs A) T1)))
  refine bT R.aF λc ht g=>?_;have ON:RE (s9 v w t) (.a (.v 0) 31) (.s pQ):=ra (aG Y) ht Y Y
  refine jd (my ON bW) (λeL=>?_) λg=>?_
  .obtain⟨k,hk⟩:∃k,x.1=k+1:=Nat.exists_eq_succ_of_ne_zero x0;have ex:x=(k+1,(ss (k+1)).length):=ru hk (by rw[el,hk])
   have lk:k<nG:=by have:=h.mn.aC;rw[hk]at this;exact this
   refine qH (B.aF eL k lk j (aj ex h)) λes6 l L hW=>sC hW λa1 a2 a3 a4 A=>?_;obtain⟨l1,l2⟩:=l;have a4:l1=52:=a4
   subst a4;refine rU (dH (rr fA Y X.bz) (aG Vr.aI) (ig (show r9.u (6,[x.1,x.2])=_ by rw[ex];exact a1) Y a2)) Y (aM (fin (λg=>a3) A))
  .refine fH BB.aC.aiz λL f47 f16 A=>?_;have nE:fI x 0=M (.s sE):=X.aO.trans (aq (λs=>M (V.s s)) (au x0))
   exact rU (dH (ra (ra (aG Y) ht Y Y) BB.aC.aC Y Y) (rr fA Y nE) (ig f47 Y (rK))) Y (aM (fin (λg=>f16) A))
end
section
variable{N:Nat} {w0:Hp}
def akN:rY x≠.n:=λh=>by cases(h)
def OO(h:RE K e (.i (m:Nat))):RT K (.o (.l e)) (decide (m=0)):=by
 have k:=kF (fq h Vu);have e:(!((m:Int)!=0))=decide (m=0):=by
  by_cases c:m=0
  .subst c;rfl
  .exact ak (aA c) (aq (!·) (bne_iff_ne.mpr λw=>c (jT w)))
 rw[e]at k;exact k
def akO(B:P9 r9)(h:Cs j x)(hz:(stI x)[p]?=M y)(hs:sym y=M s)(C0:CK ec N' w0)(R:RS j w0 es ep (lW oZ j cr) (20*p) w)(P:jz x p es ep)(T:lE x p cr)(zc:oZ.length<=10000)(Vr:jA j v)(fA:v 12=M (.e (5,[y.1,y.2])))(q:∀v' w' t' dA rG Cu,jA j v'->RS j w0 dA rG (lW oZ j Cu) (20*(p+1)) w'->jz x (p+1) dA rG->lE x (p+1) Cu->Q .n (s9 v' w' t')):WB (lx.n+43) HQ Q (s9 v w t):=by
 have BB:=B.aC;have m:=h.mn
 have ym:=cO hz;have io:=rO m ym
 have X:=ix BB.aC io;have zp:=aV (dK (cG.mp hz).1) rP
 have zN:=o9 20 zp;have z7:∀{k:Nat},k<=20*p->k<16777216:=λh=>bM (aV h zN) (ao Y)
 have up:∀{es ep cl w}{N:Nat},N<=20->RS j w0 es ep cl (20*p+N) w->RS j w0 es ep cl (20*(p+1)) w:=λh R=>R.up (by rw[rq];exact gu h _)
 have rr:∀{v:Mp} {w t a z},v 12=M (.e (5,[y.1,y.2]))->ku 2 a=O->fI y a=M z->RE (s9 v w t) (.a (.v 12) a) z:=λe d h=>ra (aG e) X.aC d h;have tt:RT (s9 v w t) (.m .Eq (.a (.v 12) 8) (.b .Add (.a (.v 12) 13) (.cI 1))) (decide (V.i ((ss y.1).length+1)=.i ((y.2)+1))):=eH (rr fA Y X.aI) (jv (rr fA Y X.aF) bG qm) (qn Y Y)
 have ne:=λe=>gZ (cG.mp hs).1 (pb (jT (lT e))).symm;have lt:∀{i m:Nat},i<=11->11<m->i≠m:=λh h' e=>dq _ (dJ h' (aj e h))
 refine bT R.aF λc ht hP=>?_;refine eC (aj (aA ne) tt) (rU (rr fA Y X.aF) Y (rU (zH (rr fA Y X.aK) (jv (aG Y) bG qm) (fU (Nr io.2 hs))) Y ?_));have V1:jA j (aJ (aJ v 24 (.i y.2)) 14 (.s s)):=Vr.vv λi hi=>(au (lt hi (ao Y))).trans (au (lt hi (ao Y)))
 refine jd (B4 (aG Y) (ra (ra (aG Y) ht Y Y) BB.aC.aC Y Y) BB.aC.aK) (λsT=>?_) λsT=>?_
 rotate_left
 .have eE:=AH λn=>sT ((z4 s (tj hs)).mpr n);subst eE;have no:sym y≠U:=λe=>cW (e.symm.trans hs)
  exact aM (aM (aM (q _ w t es ep cr V1 (up (b7 _) R) (P.kZ hz no λa=>akx hz hs) (T.kZ λa=>FT hz hs λw=>ax (oX w.1.2.2) (ao Y)))))
 have n:=(z4 s (tj hs)).mp sT;refine bT (XA m ym hs) λy' e0 f=>?_;refine oE (h.go BB e0) λj' lV=>?_;have Ya:As x s=.i j':=by unfold As;exact ak e0 (aq (λn:Nat=>V.i n) (IL BB lV))
 refine oE ((C0.eq R).aF) λA G=>?_;have OP:w (34,sl j)=M (.l (bu (stI x))):=(C0.eq R).aC 34 _ _ (.inl ⟨Y,_,Y⟩) h.sl.2
 have mp:∀{w' w:Hp},hp (mix [99] w' (mix pR w u9))=hp (mix pR (mix [99] w' w) u9):=aq hp (kb Y);have kk:=(C0.eq R).aI _ (h.pk BB ym (Iy hs))
 refine cF (jw (re (aG Y) ⟨_,kW ht Y Y,rl (aW (aG V1.aK) (aW (aG Y) bD)) (bO.o (W9 BB.aC (G.qY (w2:=mix pR w u9) (λf=>Y) (λf=>Y) Y Y λf=>Y).1 kk m e0 OP λl w1 hl=>?_))⟩));rw[mp];refine hN Y ?_;refine cF (iT (re (ra (aG Y) ht Y Y) ⟨_,kX BB.aF.aC,fM (kU (rl (aW (aG Y) bD) (bO.o (x7 BB.aC lV.mn hl λw2=>rl (aW (rD bG) bD) (ur BB.aF.aC (Ak).1 ?_)))))⟩));rw[N7 BB lV,mp];have R2:=(R.tm w1).tm w2
 generalize mix [99] w2 (mix [99] w1 w)=w3 at R2⊢;refine hN Y (gN (aj (az (jR j')) (eH (aG Y) bG Hd)) ?_);have V2:∀{o:V},jA j (aJ (aJ (aJ (aJ (aJ v 24 (.i y.2)) 14 (.s s)) 25 (.e (34,l))) 26 (.i j')) 15 o):=Vr.vv λi hi=>(au (lt hi (ao Y))).trans ((au (lt hi (ao Y))).trans ((au (lt hi (ao Y))).trans ((au (lt hi (ao Y))).trans (au (lt hi (ao Y))))))
 have v10:=V2 (o:=.n)|>.aF;have row:=akF m hz hs n P
 refine cF (iT (re (aG (V2 (o:=.n)).aC) ⟨_,kX R2.aC,rl (aW (aG Y) bD) (sS R2.aC Y ?_)⟩));rcases row with⟨rd,ee,eep⟩|⟨nr,ee⟩
 rotate_left
 .rw[ee];have env:rZ x s=.i j':=(au nr).trans Ya
  have R3:=R2.aH (b:=.s s) (d:=.i j') (o:=.e (5,[y.1,y.2]));have P3:=P.aH (o:=.e (5,[y.1,y.2])) m hz hs n
  rw[env]at P3;exact hN Y (eC (aj (aA (λh:V.n≠.n=>h Y)) (K3 (aG Y))) (lC Y Y (aG (V2 (o:=.n)).aC) R2.aC (aG Y) (aG Y) Y (z7 R2.aI) (lC Y Y (aG (V2 (o:=.n)).aF) ((aQ ye).trans R2.aO:(w3.aH (29,[j]) _) (29,[j,1])=_) (aG Y) (aG fA) Y (z7 R2.bb) (aM (aM (aM (aM (aM (q _ _ _ _ _ cr (V2) (up (ao Y) R3) P3 (T.kZ λa=>FT hz hs λw=>nr w.1))))))))))
 rw[ee];refine hN Y ?_;have k0:0<x.1:=yo rd.1
 have Yb:(-(x.1:Int))<0:=aoE (jB.mpr k0);refine gN (aj (az (akN)) (K3 (aG Y))) ?_;refine eC (aj (aA (λh:(0:Int)< -(x.1:Int)=>ax (aan h Yb) (Int.lt_irrefl _))) (eH (aG Y) bG Bn)) (gN (aj (az Yb) (eH (aG Y) bG yX)) ?_);have iox:Io x:=⟨m.aC,m.aF⟩
 have Xx:=ix BB.aC iox;refine hM (xN (iT (re (aG Y) ⟨_,kX BB.aC.bz,rl (aW (aG Y) (aW (jG (aW bW (aW bG bD)) (ao Y)) bD)) (ur BB.aC.bz Y ?_)⟩)));have e1:(bI gF (.s s)).getD (V.cq [.s "right",.i 0])=V.cq [.s (pq s).1,.i (pq s).2]:=V4
 rw[e1];refine⟨[.s (pq s).1,.i (pq s).2],Y,Y,FI Y Y ?_⟩;refine fH R2.aF λc2 ht2 P0 pw=>?_;refine fH (pw x.1 m.aC) λg hg gq f=>?_;have g7:g 7=M (V.cq [.s (pk x.1).1,.i (pk x.1).2]):=(gq.1 7 (ao Y) (ao Y)).trans (px BB.aC m.aC).aC.aC.2.2.2.2.1
 have rk:∀{v:Mp},v 10=M (.e (29,[j,1]))->v 14=M (.s s)->RE (s9 v w3 (t+1+1)) (.a (.s (.v 10) (.v 14)) 2) (.i x.1):=λh1 h2=>ra (dH (aG h1) (aG h2) (ig R2.aO Y eep)) Xx.aC Y Xx.bb;refine hM (xN (re (ra (X5 BB m.aC (rk (V2 (o:=.n)).aF Y)) hg Y g7) ⟨[.s (pk x.1).1,.i (pk x.1).2],Y,Y,FI Y Y ?_⟩));generalize hv:aJ (aJ (aJ (aJ (aJ (aJ (aJ (aJ (aJ v 24 _) 14 _) 25 _) 26 _) 15 _) 16 _) 17 _) 18 _) 19 _=v3;have V3:jA j v3:=aj hv (V2.vv λi hi=>(au (lt hi (ao Y))).trans ((au (lt hi (ao Y))).trans ((au (lt hi (ao Y))).trans (au (lt hi (ao Y))))))
 have a12:v3 12=M (.e (5,[y.1,y.2])):=aj hv fA;have FU:v3 14=M (.s s):=aj hv Y
 have a26:v3 26=M (.i j'):=aj hv Y;have OQ:v3 17=M (.i (pq s).2):=aj hv Y
 have Yc:v3 18=M (.s (pk x.1).1):=aj hv Y;have IM:v3 19=M (.i (pk x.1).2):=aj hv Y
 clear hv;have Yd:RT (s9 v3 w3 (t+1+1)) (.m .Eq (.v 17) (.v 19)) (decide (V.i ((pq s).2:Nat)=.i ((pk x.1).2:Nat))):=eH (aG OQ) (aG IM) (qn Y Y)
 refine mq (Ii (eH (aG OQ) (aG IM) Bn) (uL Yd (my (aG Yc) bW))) (λhb=>?_) λhb=>?_
 .have d0:=akG hb;have env:rZ x s=.i j':=(aw rd).trans ((aw d0).trans Ya)
  refine X6 BB R2 m.aC (rk V3.aF FU) (λm=>SH) λw4 R4=>?_;have R5:=R4.aH (b:=.s s) (d:=.i j') (o:=.e (5,[y.1,y.2]))
  have P5:=P.aH (o:=.e (5,[y.1,y.2])) m hz hs n;rw[env]at P5;refine lC Y Y (aG V3.aC) R4.aC (aG FU) (aG a26) Y (z7 R4.aI) (lC Y Y (aG V3.aF) ((aQ ye).trans R4.aO:(w4.aH (29,[j]) _) (29,[j,1])=_) (aG FU) (aG a12) Y (z7 R4.bb) ?_);generalize(w4.aH (29,[j]) _).aH (29,[j,1]) _=w5 at R5⊢;refine bT R5.aF λc5 ht5 f=>?_;refine jd (OO (aG IM)) (λr0=>?_) λr0=>aM (aM (aM (aM (aM (aM (aM (aM (aM (q v3 w5 _ _ _ cr V3 (up (ao Y) R5) P5 (T.kZ λa=>FT hz hs λw=>r0 w.2.2))))))))));have zl:((lW oZ j cr).map gS).length<16777216:=by rw[bc,lW,dY,bc];exact bM (ri zc (aV T.aF zp)) (ao Y)
  refine An Y Y Y (ra (aG Y) ht5 Y Y) R5.bz (jG (aW (aG V3.aI) (aW (aG FU) (aW bW bD))) (by decide:3<=16777216)) zl (aM (aM (aM (aM (aM (aM (aM (aM (aM (?_))))))))))
  have R6:=R5.cf (c:=(j,s));rw[akE]at R6;exact q v3 _ _ _ _ (cr++[s]) V3 (up (ao Y) R6) P5 (T.add m hz hs n ⟨rd,d0,r0⟩)
 have hn:=akH hb;refine mq (uL Yd (my (aG Yc) bW)) (λCv=>?_) λCv=>?_
 .have Cv:=dS.mp Cv;have d2:gh x.1 s=2:=by unfold gh;rw[au hn,aw ⟨jT (lT (aB Cv.1)),aB Cv.2⟩]
  have env:rZ x s=.n:=(aw rd).trans ((au (by rw[d2];decide)).trans (aw d2))
  have R5:=R2.OK (b:=.s s) (d:=.n);have P5:=P.OK m hz hs n
  rw[env]at P5;exact lC Y Y (aG V3.aC) R2.aC (aG FU) uo Y (z7 R2.aI) (aM (aM (aM (aM (aM (aM (aM (aM (aM (q v3 _ _ _ _ cr V3 (up (ao Y) R5) P5 (T.kZ λa=>FT hz hs λw=>ax (w.2.1.symm.trans d2) (ao Y))))))))))))
 .have d1:gh x.1 s=1:=by
   unfold gh;rw[au hn,au λw=>?_];have e:(decide (V.i ((pq s).2:Nat)=.i ((pk x.1).2:Nat))&&decide ((pk x.1).1="nonassoc"))=O:=dS.mpr ⟨az (by rw[w.1]),az w.2⟩
   exact b9 (e.symm.trans Cv)
  have env:rZ x s=rY x:=(aw rd).trans ((au (by rw[d1];decide)).trans (au (by rw[d1];decide)))
  refine mq (uL (OO (aG OQ)) (OO (aG IM))) (λIP=>?_) λf=>?_
  .have IP:=dS.mp IP;have z1:=aB IP.1
   have z2:=aB IP.2;exact ax (.inr ⟨z1.trans z2.symm,akI z2⟩) hn
  .have no:sym y≠U:=λe=>cW (e.symm.trans hs);have keep:∀a,mZ x (p+1) a=mZ x p a:=λa=>by
    rw[XW m hz hs n];by_cases e:a=s
    .rw[e,aw Y,env,<-P.aC s,ee]
    .rw[au e]
   exact aM (aM (aM (aM (aM (aM (aM (aM (aM (aM (q v3 w3 _ es ep cr V3 (up (b7 _) R2) (P.kZ hz no keep) (T.kZ λa=>FT hz hs λw=>ax (w.2.1.symm.trans d1) (ao Y))))))))))))
end
noncomputable def FV(x:It):Es:=if sym x=M sE then [(.s sE,.i (cx (mC x):Nat))]else []
noncomputable def vf(xs:Ss)(s:aP):Ss:=if decide (s=sE)=O then ki xs s else xs
noncomputable def wQ(x:It):Ss:=(US (stI x)).foldl vf []
def G9(j:Nat)(x:It)(w1:Hp)(i:Nat)(ec:Es)(N:Nat)(v:Mp)(w:Hp):Prop:=CK ec N w/\jA j v/\v 27=M (.e (36,[bx.c.length+j]))/\w (30,[j])=M (.d (if i=0 then []else FV x))/\N<=8000000+4*j+4*i/\∀l:Loc,fe.contains l.1=Z->l≠(30,[j])->w l=w1 l
section
variable{w1:Hp} {N:Nat} (hh:G9 j x w1 i ec N v w)
def G9.aF:=hh.1
def G9.aC:=hh.2.1
def G9.bb:=hh.2.2.1
def G9.aO:=hh.2.2.2.1
def G9.aK:=hh.2.2.2.2.1
def G9.aI:=hh.2.2.2.2.2
end
inductive Ye(j:Nat)(x:It)(w1:Hp)(i:Nat):QA
 |mk {ec:Es} {N:Nat} {v:Mp} {w:Hp} {t:Nat}:G9 j x w1 i ec N v w->Ye j x w1 i (s9 v w t)
variable{w1:Hp} {xs ys:Ss}
section
variable{N:Nat}
def Yf:vf xs sE=ki xs sE:=aw (az Y)
def OS(e:s≠sE):vf xs s=xs:=au λw=>e (aB w)
def Yg:∀{ys xs:Ss},(xs=[]\/xs=[sE])->(ys.foldl vf xs=[]\/ys.foldl vf xs=[sE])/\(sE∈ys\/xs=[sE]->ys.foldl vf xs=[sE]):=by
 intro ys
 induction ys with
 |nil=>exactλh=>⟨h,λe=>e.resolve_left λw=>bA w⟩
 |cons y ys ih=>
  intro xs h;rw[aoY];by_cases e:y=sE
  .rw[e,Yf];have q:ki xs sE=[sE]:=by
    rcases h with rfl|rfl
    .exact zL λw=>bA w
    .exact zM (.head _)
   rw[q];exact⟨(ih (.inr Y)).1,λa=>(ih (.inr Y)).2 (.inr Y)⟩
  .rw[OS e];exact⟨(ih h).1,λw=>(ih h).2 (w.imp (λw=>(cU.mp w).resolve_left λq=>e q.symm) id)⟩
def Yh:wQ x=[]\/wQ x=[sE]:=(Yg (.inl Y)).1
def akU(h:wQ x=[]):sym x≠M sE:=λe=>by have q:=(Yg (.inl Y)).2 (.inl (NZ.mpr ⟨x,Ah,Iy e⟩));exact yE (h.symm.trans q) Y
def akV:(vf xs s).length<=xs.length+1:=by
 unfold vf
 split
 .exact M0
 .exact l7 _
def CK.p30{l:Nl}{o:af}(C:CK ec N w):CK ec N (w.aH (30,l) o):=⟨C.aF.elim λA G=>⟨A,(G.qY (w2:=w.aH (30,l) o) (λa=>Y) (λa=>Y) Y Y λa=>Y).1⟩,C.aI,λk l o f h=>by
 rcases f with⟨rfl,q⟩|⟨rfl,q⟩
 .exact C.aC 34 l o (.inl ⟨Y,q⟩) h
 .exact C.aC 35 l o (.inr ⟨Y,q⟩) h⟩
def akX(B:P9 r9)(h:Cs j x)(zj:j<=35)(S:G9 j x w1 0 ec N v w)(hm:sE∈wQ x)(v30:v 30=M (.s sE))(q:∀v' w' t' vg N',G9 j x w1 1 vg N' v' w'->Q .n (s9 v' w' t')):WB (lx.n+43) Vc Q (s9 v w t):=by
 have BB:=B.aC;have m:=h.mn
 refine oE S.aF.aF λA G=>?_;have mp:∀{R:Nl}{w' w:Hp},R.all pR.contains=O->hp (mix R w' (mix pR w u9))=hp (mix pR (mix R w' w) u9):=λh=>aq hp (kb h)
 have zN:N<=16000000:=aV S.aK (aV (pW (gu (o9 4 zj) _) _) (ao Y));have ask:bI ec (gk x sE)≠U:=by
  have mU:sE∈US (stI x):=by
   refine AH λno=>?_;have:∀{ys xs:Ss},sE∉ys->sE∈ys.foldl vf xs->sE∈xs:=λ{ys}=>by
    induction ys with
    |nil=>exactλb h=>h
    |cons y ys ih=>
     intro xs n h;have k:=ih (λw=>n (.tail _ w)) h
     rwa [OS λe:y=sE=>n (aj e (.head _))]at k
   exact bA (this no hm)
  refine bT (NZ.mp mU) λy hy hs=>?_;exact S.aF.aI _ (h.pk BB hy hs)
 have OP:=S.aF.aC 34 _ _ (.inl ⟨Y,_,Y⟩) h.sl.2;refine bT G.aC λc ht b=>?_;refine cF (jw (re (aG Y) ⟨_,kW ht Y Y,rl (aW (aG S.aC.aK) (aW (aG v30) bD)) (bO.o (WH BB.aC (G.qY (w2:=mix pR w u9) (λb=>Y) (λb=>Y) Y Y λb=>Y).1 m OP zN (λe=>ax e ask) λg dA A' N' w2 t2 R a b=>?_))⟩));rw[mp Y];refine hN Y ?_;have Ce:=aV R.aO (pW S.aK 4)
 have K2:∀{w3:Hp},(∀k l,k≠99->w3 (k,l)=(mix fe w2 w) (k,l))->CK dA N' w3:=λ{w3} e=>
  have G2:=R.aC.qY (λl=>e 34 l (ao Y)) (λl=>e 35 l (ao Y)) (e 20 _ (ao Y)) (e 21 _ (ao Y)) λl=>e 2 l (ao Y)
  ⟨⟨A',G2.1⟩,λk h=>R.aI k (S.aF.aI k h),λk l o f h=>G2.2 k l o f (R.aF k l o f (by have k':=S.aF.aC k l o f h;rcases f with⟨rfl,_⟩|⟨rfl,_⟩<;>exact k'))⟩
 have V2:∀{o:V},jA j (aJ (aJ v 25 g) 26 o):=S.aC.vv λi hi=>(au λe=>by rw[e]at hi;exact ax hi (ao Y)).trans (au λe=>by rw[e]at hi;exact ax hi (ao Y))
 refine bT R.aC.aC λc3 ht3 b=>?_;have gt:RE (s9 (aJ v 25 g) (mix fe w2 w) t2) (.a (.v 0) 36) (.e (22,[])):=ra (aG Y) ht3 Y Y
 have NF:∀{w3:Hp} (l),fe.contains l.1=Z->l≠(30,[j])->(mix [99] w3 (mix fe w2 w)) l=w1 l:=λ{w3} l hl hj=>(Cm λe=>by rw[e]at hl;exact b9 hl).trans ((gU hl).trans (S.aI l hl hj))
 rcases a with⟨y,e0,l,rfl,hl⟩|⟨e0,a⟩
 .obtain⟨ex,rfl⟩:=Fv m e0;refine oE (h.go BB e0) λj' lV=>?_;refine cF (iT (re gt ⟨_,kX BB.aF.aC,fM (kU (rl (aW (aG Y) bD) (bO.o (x7 BB.aC lV.mn hl λw3=>rl (aW (rD bG) bD) (ur BB.aF.aC (Ak).1 ?_)))))⟩));rw[N7 BB lV,mp Y];refine hN Y (gN (aj (az (jR j')) (eH (aG Y) bG Hd)) (lC (ds:=[]) Y Y (aG S.aC.aO) S.aO (aG v30) (aG Y) Y (ao Y) (aM (aM ?_))));refine q _ _ _ dA N' ⟨(K2 λk l h=>Cm h).p30,V2,S.bb,?_,Ce,λl hl hj=>(aQ hj).trans (NF l hl hj)⟩;refine bo.trans (aq (λes=>M (af.d es)) ?_);show [(V.s sE,V.i j')]=FV x;unfold FV;rw[aw ex,show cx (mC x)=j' from IL BB lV]
 .have nE:sym x≠M sE:=λe=>cW (e0.symm.trans (x2 e));have k0:bI (rQ bx.c) (V.cq [])=U:=Je.mp λe=>by rw[pI,decide_eq_true_iff,NW]at e;refine bT (bX.mp e) λy b e=>?_;exact Ai (Ir e)
  refine cF (iT (re gt ⟨_,kX BB.aF.aC,fM (kU (rl (aW (aG Y) bD) (bO.o (aic (a.elim (λq=>q.elim λl q=>.inr ⟨(34,l),q.1,q.2⟩) λq=>.inl q) (rl (aW (rD bG) bD) (ur BB.aF.aC Y ?_))))))⟩));rw[k0];refine hN Y (eC (aj (aA (by decide:¬(0)<=-1)) (eH (aG Y) bG Hd)) (aM (aM (q _ _ _ dA N' ⟨K2 λb b b=>Y,V2,S.bb,?_,Ce,λl hl hj=>(gU hl).trans (S.aI l hl hj)⟩))))
  exact(S.aO).trans (aq (λes=>M (af.d es)) ((au nE).symm))
end
noncomputable def wU(k i:Nat):Es:=(bQ i).map λj=>(.i (j:Nat),.e (k,[j]))
def yf(i:Nat)(cl:og):Prop:=cl.length<=10*i/\cl.Nodup/\∀j a,(j,a)∈cl↔j<i/\∃x,Cs j x/\u7 x (stI x).length a
section
variable{cl:og} (hh:yf i cl)
def yf.aF:=hh.1
def yf.aI:=hh.2.1
def yf.aC:=hh.2.2
end
def mF(i:Nat)(ec:Es)(N:Nat)(cl:og)(v:Mp)(w:Hp):Prop:=CK ec N w/\N<=8000000+4*i/\v 7=M (.i i)/\w (23,[])=M (.d (wU 29 i))/\w (25,[])=M (.d (wU 30 i))/\(∃ds,w (40,[])=M (.d ds)/\ds.length<=i)/\(∀j x,j<i->Cs j x->∃es ep,w (29,[j])=M (.d es)/\jz x (stI x).length es ep)/\(∀j x,j<i->Cs j x->w (30,[j])=M (.d (FV x)))/\(∀j y,i<=j->w (29,j::y)=U/\w (30,j::y)=U)/\(∀j,bx.c.length+i<=j->w (36,[j])=U)/\w (27,[])=M (.l (cl.map gS))/\yf i cl
section
variable{N:Nat} {cl:og} (hh:mF i ec N cl v w)
def mF.aI:=hh.1
def mF.iL:=hh.2.1
def mF.jI:=hh.2.2.1
def mF.d9:=hh.2.2.2.1
def mF.bb:=hh.2.2.2.2.1
def mF.j9:=hh.2.2.2.2.2.1
def mF.cC:=hh.2.2.2.2.2.2.1
def mF.aO:=hh.2.2.2.2.2.2.2.1
def mF.aC:=hh.2.2.2.2.2.2.2.2.1
def mF.bz:=hh.2.2.2.2.2.2.2.2.2.1
def mF.aK:=hh.2.2.2.2.2.2.2.2.2.2.1
def mF.aF:=hh.2.2.2.2.2.2.2.2.2.2.2
end
variable{ab:Nat} {v0:Mp}
section
variable{N:Nat} {w0:Hp} {cl:og}
def Yi:cX (wU k i) (.i (i:Nat)) (.e (k,[i]))=wU k (i+1):=(mw λh=>by rw[wU,fC]at h;refine bT (bX.mp h) λa ha e=>?_;exact gZ (j4.mp ha) (jT (lT e))).trans (by rw[wU,wU,C4,dF];rfl)
def Yj:(wU k i).length=i:=by rw[wU,bc,fP]
def yf.next(I:yf j cl)(h:Cs j x)(T:lE x (stI x).length cr):yf (j+1) (lW cl j cr):=
 ⟨by rw[lW,dY,bc,rq];exact ri I.aF (aV T.aF rP),
 t8.mpr ⟨I.aI,Iz (λa b e=>(cP e).2) T.aI,λa ha b hb e=>by obtain⟨s,_,rfl⟩:=bX.mp hb;subst e;exact dq j ((I.aC j s).mp ha).1⟩,
 λi a=>by
  rw[lW,cZ,I.aC,bX]
  constructor
  .rintro(⟨lt,k⟩|⟨b,hb,e⟩)
   .exact⟨sr lt,k⟩
   .obtain⟨rfl,rfl⟩:=cP e;exact⟨i7 _,x,h,(T.aC _).mp hb⟩
  .rintro⟨lt,y,hy,k⟩;rcases yk.mp lt with lt|rfl
   .exact .inl ⟨lt,y,hy,k⟩
   .obtain rfl:=h.fn hy;exact .inr ⟨a,(T.aC a).mpr k,Y⟩⟩
def akZ(B:P9 r9)(h:Cs j x)(I:mF j ec N cl v0 w0)(af:∀l:Loc,l≠(29,[j])->l≠(29,[j,1])->l≠(30,[j])->w1 l=w0 l)(Aw:w1 (30,[j])=M (.d []))(R:RS j w1 es ep (lW cl j cr) ab w)(P:jz x (stI x).length es ep)(T:lE x (stI x).length cr)(C:CK ec N w)(Vr:jA j v)(q:∀v' w' t' vg N' yg,mF (j+1) vg N' yg v' w'->Q .n (s9 v' w' t')):WB (lx.n+43) (Sx.gG 4 EW) Q (s9 v w t):=by
 have BB:=B.aC;have zj:=aV (dK (cG.mp h.sl.1).1) BB.aF.lB
 have uR:=(R.aK (36,_) (lF Y) (lF Y) (aU Y) (aU Y) (aU Y)).trans ((af (36,_) (aU Y) (aU Y) (aU Y)).trans (I.bz _ (b8 _)));have io:∀y∈stI x,Io y:=λy hy=>rO h.mn hy
 refine cF (mO (dQ (36,[bx.c.length+j]) Y uR ?_));show WB _ (Sx.gG 5 EW) _ ⟨aJ (ba pV v pM) 27 (.e (36,[bx.c.length+j])),(hp (mix pR w u9)).aH (36,[bx.c.length+j]) (.d (jP [])),t⟩;rw[bZ Y,je Y Y];generalize hv:aJ v 27 (.e (36,[bx.c.length+j]))=v1;have V1:jA j v1:=hv▸Vr.vv λi hi=>au λe=>by rw[e]at hi;exact ax hi (ao Y)
 have OT:v1 27=M (.e (36,[bx.c.length+j])):=aj hv Y;have Iw:=aV (WV io) (o9 5 rP)
 refine oE C.aF λA G=>?_;refine bT G.aC λc ht g=>?_;refine WW (f:=vf) BB.aC io Y Y Y (aG V1.aK) (λg=>C.aC 34 _ _ (.inl ⟨Y,_,Y⟩) h.sl.2) (λv' xs s Q od le q=>?_) (λxs s=>akV) λv' od=>?_
 .have z8:RE (s9 (aJ v' 29 (.s s)) (w.aH (36,[bx.c.length+j]) (.d (jP xs))) t) (.a (.a (.v 0) 30) 19) (.e (45,[])):=ra (ra (aG Y) ht Y Y) BB.aC.aC Y Y;refine jd (aj W4 (sY (aG Y) z8 BB.aC.bb Y)) (λsN=>?_) λsN=>?_
  .subst sN;rw[Yf]at q;refine lC Y Y (aG ((od 27 (ao Y) (ao Y)).trans OT)) bo (aG Y) uo Y (by rw[jP,bc];exact bM le (bM Iw (ao Y))) (aM (aM ?_))
   rw[WR,nW];exact q
  .rw[OS sN]at q;exact aM (aM q)
 show WB _ _ _ ⟨ba pV v' pM,hp (mix pR (w.aH (36,[bx.c.length+j]) (.d (jP (wQ x)))) u9),t⟩;generalize h2:w.aH (36,[bx.c.length+j]) (.d (jP (wQ x)))=w2;have e2:∀l:Loc,l≠(36,[bx.c.length+j])->w2 l=w l:=λl hl=>aj h2 (aQ hl)
 have g36:=h2▸bo;have C2:CK ec N w2:=by have Q:=G.qY (λg=>e2 _ (aU Y)) (λg=>e2 _ (aU Y)) (e2 _ (aU Y)) (e2 _ (aU Y)) λg=>e2 _ (aU Y);exact⟨⟨A,Q.1⟩,C.aI,λk l o f h=>Q.2 k l o f (C.aC k l o f h)⟩
 have V2:=V1.vv λi hi=>od i (λe=>by rw[e]at hi;exact ax hi (ao Y)) λe=>by rw[e]at hi;exact ax hi (ao Y)
 have zE:(wQ x).length<=1:=by rcases Yh with e|e<;>rw[e]<;>decide
 refine Ac (ks:=wQ x) (Ye j x w2) (aG ((od 27 (ao Y) (ao Y)).trans OT)) (λi K J=>?_) (.mk ⟨C2,V2,(od 27 (ao Y) (ao Y)).trans OT,(e2 _ (aU Y)).trans ((R.aK (30,[j]) (lF Y) (lF Y) (aU Y) (aU Y) (aU Y)).trans Aw),I.iL,λg g g=>Y⟩) (λi s K hx J=>?_) λK J=>?_
 .cases J with|mk S=>exact⟨_,(S.aI (36,[bx.c.length+j]) Y (aU Y)).trans g36,fC⟩
 .cases J with|@mk ec N v w t S=>?_
  have i0:=Qi.mp (dJ (cG.mp hx).1 zE);subst i0;have sm:=cO hx
  have es:s=sE:=by
   rcases Yh with e|e
   .rw[e]at sm;exact bA sm
   .rw[e]at sm;exact bK.mp sm
  subst es;have vv:∀{i},i<=27->aJ v 30 (.s sE) i=v i:=λ{i} hi=>au λe=>by rw[e]at hi;exact ax hi (ao Y)
  exact hN Y (akX B h zj ⟨S.aF,S.aC.vv λi hi=>vv (aV hi (ao Y)),(vv (ao Y)).trans S.bb,S.aO,S.aK,S.aI⟩ sm Y λv' w' t' vg N' S'=>.mk S')
 .cases J with|@mk vg N' v3 w3 t S=>?_
  have ak1:w3 (30,[j])=M (.d (FV x)):=by
   refine S.aO.trans (aq (λes=>M (iB.Lean.af.d es)) ?_);by_cases c:(wQ x).length=0
   .rw[aw c];exact(au (akU (PL.mp c))).symm
   .exact au c
  have e3:=λl hl h7 h1 h2 h3 h4=>(S.aI l hl h3).trans ((e2 l h4).trans ((R.aK l (λe=>by rw[e]at hl;exact b9 hl) (λe=>by rw[e]at hl;exact b9 hl) h7 h1 h2).trans (af l h1 h2 h3)))
  refine bT I.j9 λdp p40 zp=>?_;have z7:∀{m:Nat},m<=j->m<16777216:=λh=>bM (aV h zj) (ao Y)
  refine lC Y Y (aG Y) ((e3 (23,[]) Y (aU Y) (aU Y) (aU Y) (aU Y) (aU Y)).trans I.d9) (aG S.aC.aI) (aG S.aC.aC) Y (z7 (gy Yj)) (lC Y Y (aG Y) ((e3 (40,[]) Y (aU Y) (aU Y) (aU Y) (aU Y) (aU Y)).trans p40) (aG S.aC.aI) (aG S.aC.aF) Y (z7 zp) (lC Y Y (aG Y) ((e3 (25,[]) Y (aU Y) (aU Y) (aU Y) (aU Y) (aU Y)).trans I.bb) (aG S.aC.aI) (aG S.aC.aO) Y (z7 (gy Yj)) (hM (Ec S.aC.aI (re bG ⟨_,Bx,hN Y (aM ?_)⟩)))));have hd:∀{k j' y y'},j'≠j->((k,j'::y):Loc)≠(k,j::y'):=λh e=>h (d6 (cP e).2).1
  have e9:∀{j' y},j'≠j->w3 (29,j'::y)=w0 (29,j'::y)/\w3 (30,j'::y)=w0 (30,j'::y):=λh=>⟨e3 _ Y (aU Y) (hd h) (hd h) (aU Y) (aU Y),e3 _ Y (aU Y) (aU Y) (aU Y) (hd h) (aU Y)⟩;have up:∀{P:Nat->It->Prop},(∀j' c,j'<j->Cs j' c->P j' c)->P j x->∀j' c,j'<j+1->Cs j' c->P j' c:=λh1 h2 j' c' lt h'=>by
   rcases yk.mp lt with lt|rfl
   .exact h1 j' c' lt h'
   .exact aj (h.fn h') h2
  refine oE S.aF.aF λA3 G3=>?_;have K4:∀{w4:Hp},(∀l:Loc,l.1≠23->l.1≠40->l.1≠25->w4 l=w3 l)->CK vg N' w4:=λ{w4} e=>by have Q:=G3.qY (λg=>e _ (lF Y) (lF Y) (lF Y)) (λg=>e _ (lF Y) (lF Y) (lF Y)) (e _ (lF Y) (lF Y) (lF Y)) (e _ (lF Y) (lF Y) (lF Y)) λg=>e _ (lF Y) (lF Y) (lF Y);exact⟨⟨A3,Q.1⟩,S.aF.aI,λk l o f h=>Q.2 k l o f (S.aF.aC k l o f h)⟩
  have zN4:N'<=8000000+4*(j+1):=aV S.aK (by rw[rq,<-rj];exact gu (o9 4 zE) _)
  have OU:w3 (27,[])=M (.l ((lW cl j cr).map gS)):=(S.aI (27,[]) Y (aU Y)).trans ((e2 _ (aU Y)).trans R.bz);refine q _ _ t vg N' (lW cl j cr) ⟨K4 λl a b c=>(aQ λe=>c (by rw[e])).trans ((aQ λe=>b (by rw[e])).trans (aQ λe=>a (by rw[e]))),zN4,Y,?_,?_,⟨_,aQ (aU Y)|>.trans bo,wL zp⟩,?_,?_,λj' y le=>?_,λj' le=>?_,OU,I.aF.next h T⟩
  .exact aq (λx=>M (iB.Lean.af.d x)) Yi
  .exact aq (λx=>M (iB.Lean.af.d x)) Yi
  .exact up (λj' c' lt h'=>(I.cC j' c' lt h').imp λes k=>k.imp λep k=>⟨(e9 (gZ lt)).1.trans k.1,k.2⟩) ⟨es,ep,(S.aI (29,[j]) Y (aU Y)).trans ((e2 _ (aU Y)).trans R.aC),P⟩
  .exact up (λj' c' lt h'=>(e9 (gZ lt)).2.trans (I.aO j' c' lt h')) ak1
  .have ne:=fQ (ZQ le);have f:=I.aC j' y (rh le)
   exact⟨(e9 ne).1.trans f.1,(e9 ne).2.trans f.2⟩
  .exact(e3 (36,[j']) Y (aU Y) (aU Y) (aU Y) (aU Y) (mz (fQ (ZQ le)))).trans (I.bz j' (rh le))
end
inductive Yk(j:Nat)(x:It)(oZ:og)(w0:Hp)(k:Nat):QA
 |mk {es ep:Es} {cr:Ss} {v:Mp} {w:Hp} {t:Nat}:jA j v->RS j w0 es ep (lW oZ j cr) (20*k) w->jz x k es ep->lE x k cr->(k=0->es=[]/\ep=[])->Yk j x oZ w0 k (s9 v w t)
inductive Yl(i:Nat):QA
 |mk {ec:Es} {N:Nat} {cl:og} {v:Mp} {w:Hp} {t:Nat}:mF i ec N cl v w->Yl i (s9 v w t)
section
variable{N:Nat} {w0:Hp} {cl:og}
theorem ak4(B:P9 r9)(h:Cs j x)(hz:(stI x)[p]?=M y)(C0:CK ec N w0)(e0:p=0->es=[]/\ep=[])(R:RS j w0 es ep (lW oZ j cr) (20*p) w)(P:jz x p es ep)(T:lE x p cr)(zc:oZ.length<=10000)(Vr:jA j v)(fA:v 12=M (.e (5,[y.1,y.2])))(q:∀v' w' t' dA rG Cu,jA j v'->RS j w0 dA rG (lW oZ j Cu) (20*(p+1)) w'->jz x (p+1) dA rG->lE x (p+1) Cu->Q .n (s9 v' w' t')):WB (lx.n+43) HQ Q (s9 v w t):=by
 cases hs:sym y with
 |some s=>exact akO B h hz hs C0 R P T zc Vr fA q
 |none=>
  have ex:=XB (cO hz) hs;subst ex;have p0:=(ua (cG.mp hz).1 (XT h.mn)).mp (hz.trans FQ.symm)
  subst p0;obtain⟨rfl,rfl⟩:=e0 Y;exact akK B h hs R T Vr fA λv' w' dA rG V' R' P' T'=>q v' w' t dA rG cr V' R' P' T'
def ak5(B:P9 r9)(h:Cs j x)(I:mF j ec N cl v w)(v8:v 8=M (.e (34,sl j)))(q:∀v' w' t' vg N' yg,mF (j+1) vg N' yg v' w'->Q .n (s9 v' w' t')):WB (lx.n+43) EW Q (s9 v w t):=by
 have BB:=B.aC;have zj:=aV (dK (cG.mp h.sl.1).1) BB.aF.lB
 refine cF (mO (dQ (29,[j]) Y (I.aC j [] (b8 _)).1 ?_));refine cF (mO (dQ (29,[j,1]) Y (aQ ye|>.trans (I.aC j [1] (b8 _)).1) ?_));refine cF (mO (dQ (30,[j]) Y (I.aC j [] (b8 _)).2 ?_));show WB _ (Sx.gG 3 EW) _ ⟨aJ (aJ (aJ (ba pV v pM) 9 (.e (29,[j]))) 10 (.e (29,[j,1]))) 11 (.e (30,[j])),(((hp (mix pR w u9)).aH (29,[j]) (.d [])).aH (29,[j,1]) (.d [])).aH (30,[j]) (.d []),t⟩;rw[bZ Y,bZ Y,bZ Y,je Y Y,je Y Y,je Y Y];generalize hv:aJ (aJ (aJ v 9 (.e (29,[j]))) 10 (.e (29,[j,1]))) 11 (.e (30,[j]))=v1;generalize hw:((w.aH (29,[j]) (.d [])).aH (29,[j,1]) (.d [])).aH (30,[j]) (.d [])=w1;have V1:jA j v1:=aj hv ⟨I.jI,v8,Y,Y,Y⟩
 have af:∀l:Loc,l≠(29,[j])->l≠(29,[j,1])->l≠(30,[j])->w1 l=w l:=λl a b c=>aj hw ((aQ c).trans ((aQ b).trans (aQ a)));have C1:CK ec N w1:=by
  refine oE I.aI.aF λA G=>?_;have Q:=G.qY (λg=>af _ (aU Y) (aU Y) (aU Y)) (λg=>af _ (aU Y) (aU Y) (aU Y)) (af _ (aU Y) (aU Y) (aU Y)) (af _ (aU Y) (aU Y) (aU Y)) λg=>af _ (aU Y) (aU Y) (aU Y)
  exact⟨⟨A,Q.1⟩,I.aI.aI,λk l o f h=>Q.2 k l o f (I.aI.aC k l o f h)⟩
 have Aw:=hw▸bo;have e0:cl=lW cl j []:=(i8 cl).symm
 have R1:RS j w1 [] [] (lW cl j []) (20*0) w1:=⟨aj hw ((aQ (aU Y)).trans ((aQ ye.symm).trans bo)),b8 _,aj hw ((aQ (aU Y)).trans bo),b8 _,aj e0 ((af (27,[]) (aU Y) (aU Y) (aU Y)).trans I.aK),C1.aF.elim λA G=>G.aC,λg g g g g g=>Y⟩;have P1:jz x 0 [] []:=⟨gY,λk h=>bA h,λa=>aky.symm,λa g g h=>ax h (dq 0)⟩
 have T1:lE x 0 []:=⟨gY,b8 _,λa=>⟨λh=>bA h,λh=>h.2.1.elim λz k=>bA k.1⟩⟩;have zc:cl.length<=10000:=aV I.aF.aF (aV (o9 10 zj) (ao Y))
 refine iW (bu (stI x)) (Yk j x cl w1) (aG V1.aK) (λk K J=>?_) (.mk V1 R1 P1 T1 λg=>⟨Y,Y⟩) (λk a K ha J=>?_) λK J=>?_
 .cases J with|mk _ R _ _ _=>exact(C1.eq R).aC 34 _ _ (.inl ⟨Y,_,Y⟩) h.sl.2
 .cases J with|@mk es ep cr v w t Vr R P T e0=>?_
  obtain⟨y,hy,rfl⟩:=d7 ha;exact hN Y (ak4 B h hy C1 e0 R P T zc (Vr.vv λi hi=>au λe=>by rw[e]at hi;exact ax hi (ao Y)) Y λv' w' t' dA rG Cu V' R' P' T'=>.mk V' R' P' T' λe=>pA e Y)
 .rw[bu,bc]at J;cases J with|@mk es ep cr v w t Vr R P T _=>exact akZ B h I af Aw R P T (C1.eq R) Vr q
def ak6:(⟨aJ pM 7 (.i 0),hp u9,t⟩:AS)=s9 (aJ pM 7 (.i 0)) u9 t:=
 ((aq (λm:Mp=>(⟨aJ m 7 (.i 0),hp u9,t⟩)) (jx)).trans (aq (λm:Mp=>(⟨m,hp u9,t⟩:AS)) (bZ Y))).trans (aq (λu:Hp=>(⟨ba pV (aJ pM 7 (.i 0)) pM,hp u,t⟩:AS)) (uE))
def ak7(B:P9 r9)(I:mF bx.c.length ec N cl v w):jN (bx.c.map (·.2)) (mix pR w u9):=by
 have BB:=B.aC;have S:=BB.aF
 have at':∀{j:Nat}{x:It},(bx.c.map (·.2))[j]?=M x->Cs j x/\j<bx.c.length:=λh=>by obtain⟨c,hc,rfl⟩:=d7 h;exact⟨.of BB hc,(cG.mp hc).1⟩
 have zc:(bx.c.map (·.2)).length=bx.c.length:=bc ..;have n9:∀{x:It}{a:aP},Rd x a->a≠sE:=λr e=>ax (oX (e▸r.2.2)) (by decide)
 refine⟨zc▸aV S.lB (by decide),S.aI,(wO BB).rR,λx hx=>(N5 BB hx).elim λj h=>h.mn,λx hx s y e=>(N5 BB hx).elim λj h=>(h.go BB e).elim λi h=>h.A4,λj y h0 hj=>?_,?_,zc▸I.d9,zc▸I.bb,λj x hj=>?_,λj x hj=>?_,⟨cl,I.aK,I.aF.aI,λj a=>?_⟩,BB.jI⟩
 .obtain⟨c,hc,rfl⟩:=d7 hj;refine bT (S.cC j c h0 hc) λi li hW=>xm hW λc' s h1 h2=>?_;exact⟨i,li,c'.2,s,fU h1,h2⟩
 .refine oE I.aI.aF λA G=>?_;exact G.aC.imp' V.i λc h=>h.1
 .refine oA (at' hj) λh lt=>?_;refine xm (I.cC j x lt h) λes ep e R=>?_;exact⟨es,e,R.aF,akz BB h R⟩
 .refine oA (at' hj) λh lt=>?_;refine⟨_,I.aO j x lt h,?_⟩;by_cases c:sym x=M sE
  .rw[aw c];refine oE (h.go BB (x2 c)) λi hi=>?_;exact⟨i,hi.rR,(aw c).trans (by rw[show cx (mC x)=i from IL BB hi])⟩
  .rw[au c];exact au c
 .rw[I.aF.aC]
  constructor
  .rintro⟨_,x,h,r,av,d,z⟩;exact⟨x,h.rR,r,(Au h.mn (n9 r)).mp av,d,z⟩
  .rintro⟨x,hj,r,av,d,z⟩;refine oA (at' hj) λh lt=>?_;exact⟨lt,x,h,r,(Au h.mn (n9 r)).mpr av,d,z⟩
def c9(B:P9 r9):X4 r9:=by
 have BB:=B.aC;refine eZ bG ?_;show WB _ _ _ ⟨aJ pM 7 (.i 0),hp u9,r9.t⟩;rw[ak6];have S:=BB.aF
 have K0:CK bx.es bx.N u9:=by have Q:=S.aO.qY (w2:=u9) (λb=>Y) (λb=>Y) Y Y λb=>Y;exact⟨⟨_,Q.1⟩,λb h=>h,Q.2⟩
 refine iW (bx.c.map λc=>.e (34,c.1)) Yl (aG Y) (λi K J=>by cases J;exact S.aF) (.mk (cl:=[]) ⟨K0,BB.aK,Y,BB.wH,BB.pP,⟨[],BB.iL,b7 _⟩,λb b h=>ax h (nC _),λb b h=>ax h (nC _),λj y b=>⟨BB.aI 29 _ Y,BB.aI 30 _ Y⟩,BB.bb,BB.j9,b7 _,gY,λj a=>⟨λh=>bA h,λh=>ax h.1 (nC _)⟩⟩) (λi x K hx J=>?_) λK J=>?_
 .obtain⟨c,hc,rfl⟩:=d7 hx;have h:=Cs.of BB hc
  have e:=aq qf (bF (hc.symm.trans h.sl.1));cases J with|@mk ec N cl v w t I=>?_
  exact ak e (hN Y (ak5 B h ⟨I.aI,I.iL,I.jI,I.d9,I.bb,I.j9,I.cC,I.aO,I.aC,I.bz,I.aK,I.aF⟩ Y λv' w' t' vg N' yg I'=>.mk I'))
 .rw[bc]at J;cases J with|@mk ec N cl v w t I=>exact aM (BB.aC.j9 (bx.c.map (·.2)) (mix pR w u9) t (ak7 B I))
end
def ak8(B:dD bx):WY bx:=by
 have ON:RE ⟨pM,hp bx.u,bx.t⟩ (.a (.v 0) 31) (.s pQ):=ra (aG Y) (qA B) Y Y;have eb:hp bx.u=hb bx.u:=aq hp uE
 refine jd (my ON bW) (λe=>oR (jw (re (aG Y) ⟨_,kW (qA B) Y Y,rl (aW (aG Y) bD) (bO.o ?_)⟩))) λe=>aM ?_
 .exact ak eb (aks B λw t la=>aM (x5 (x:=⟨0,w,t,λb b b=>True⟩) c9 ⟨B,λb=>la⟩))
 .exact ak eb (x5 (x:=⟨0,bx.u,bx.t,λb b b=>True⟩) c9 ⟨B,λq=>ax q e⟩)
def ak9(H:HL):NM lx:=by
 refine f9 agF Y ?_;have g:∀{m:Mp}{a:Nat}{x:V},m 0=M (.e (20,[]))->ku 4 a=O->f1 a=M x->RE ⟨m,hL,lx.t⟩ (.a (.a (.v 0) 30) a) x:=λe d k=>ra (ra (aG e) H.aF Y Y) H.aC d k
 refine eZ (g Y Y Y) (eZ (g Y Y Y) (eZ (ra (aG Y) H.aF Y Y) (eZ (ra (aG Y) H.aF Y Y) (cF (mO (dQ (40,[]) Y (H.aO 40 _ Y) ?_))))));refine cF (jw (re (aG Y) ⟨_,kW H.aF Y Y,rl bD (bO.o ?_)⟩));generalize hu:hL.aH (40,[]) (.d [])=u;show bO (lx.n+38+5) _ _ _ (hL.aH (40,[]) (.d [])) lx.t;have eu:hL.aH (40,[]) (.d [])=hp u:=aj hu (mR Y)
 have e40:=hu▸bo;have o:∀l:Loc,l≠(40,[])->u l=hL l:=λl h=>aj hu (aQ h)
 rw[eu];refine ajk (x:=⟨lx.n+38,u,lx.t,_⟩) ⟨H,λy=>o _ (aU Y),(o _ (aU Y)).trans H.aF,(o _ (aU Y)).trans H.aiA,(o _ (aU Y)).trans H.aiB,λk y h=>?_,λcs es A N w t' S zN uR=>?_⟩
 .have h':=(by decide:∀k∈[24,34,35,36],[24,29,30,31,32,33,34,35,36,37,38,39,40,52,53,54,55].contains k=O/\k≠40) k (gj.mp h)
  exact(o _ λe=>h'.2 (aq qf e)).trans (H.aO k y h'.1)
 .have C:=(S.aO.qY (w2:=mix iR w u) (λb=>Y) (λb=>Y) Y Y λb=>Y).1;refine x4 ak8 (x:=⟨mix iR w u,t',cs,es,A,N⟩) ⟨H,⟨C,S.aF,S.aK,S.aC,S.aI,S.d9,S.bz,S.cC,S.bb⟩,zN,uR,λy=>o _ (aU Y),(o (23,[]) (aU Y)).trans H.aiC,(o (25,[]) (aU Y)).trans H.aiD,(o (27,[]) (aU Y)).trans H.aiE,(o (28,[]) (aU Y)).trans H.wH,e40,(o (50,[]) (aU Y)).trans H.d9,(o (51,[]) (aU Y)).trans H.cC,H.aiF.imp λg h=>(o hD (aU Y)).trans h,λk y h=>?_⟩;have h':=(by decide:∀k∈[29,30,31,32,33,37,38,39,52,53],[24,29,30,31,32,33,34,35,36,37,38,39,40,52,53,54,55].contains k=O/\k≠40/\iR.contains k=Z) k (gj.mp h)
  exact(gU h'.2.2).trans ((o _ λe=>h'.2.1 (aq qf e)).trans (H.aO k y h'.1))
def ala{x:Rn}:jO x->NM x:=x5 ak9
noncomputable abbrev tR:Nl:=[0,2,3,5,6,9,10,14,15,16,17,20,21,22,23,24,25,26,27,28,29,30,31,32,33,34,35,36,37,38,39,40,46,47,50,51,52,53,54,55,99]
def vm(x:Rn):Prop:=(∃F,GS F x.u)/\(∀k y,[5,6,9,10,14,15,16,17,20,21,22,23,24,25,26,27,28,29,30,31,32,33,34,35,36,37,38,39,40,52,53,54,55].contains k=O->x.u (k,y)=U)/\(∃g,x.u hD=M (.fz g))/\x.u (50,[])=M (.t 391 #[])/\x.u (51,[])=M (.t 398 #[])/\∀cs u t',jN cs u->x.Q (.e (20,[])) (mix tR u x.u) t'
section
variable{x:Rn} (hh:vm x)
def vm.bb:=hh.1
def vm.aC:=hh.2.1
def vm.aO:=hh.2.2.1
def vm.aI:=hh.2.2.2.1
def vm.aF:=hh.2.2.2.2.1
def vm.aK:=hh.2.2.2.2.2
end
def OV(x:Rn):Prop:=bO (x.n+46) (hB 6) [.e (1,[]),.s pQ] x.Q x.u x.t
def tx:Rn:=wJ vm OV
abbrev hT(u:Hp):Hp:=mix tR u tx.u
def alb:pQ="LALR"\/pQ="SLR":=by
 unfold pQ
 split
 .exact .inr Y
 .split
  .exact .inl Y
  .exact .inr Y
def alc(T:vm tx):OV tx:=by
 refine oE T.bb λF G=>?_;refine EA ahb (Fe Y (T.aC 20 [] Y)) (f9 agP Y ?_);have el:(O^^decide (V.s pQ∈[V.s "SLR",V.s "LALR"]))=Z:=by rw[az (alb.elim (λe=>aj e (.tail _ (.head _))) λe=>aj e (.head _))];rfl
 refine f6 (xK (xH (re (aG Y) (fy (rl (aW bW (aW bW bD)) ⟨(ao Y),jJ ⟨_,in_list (n:=O) bo ?_ Y,aj el.symm (uH (λe=>b9 e) (aM ?_))⟩⟩)))))
 .exactλy h=>(cU.mp h).elim (λe=>ak e Y) λh=>ak (bK.mp h) Y
 show WB _ (Sx.gG 1 ME) _ ⟨_,(tx.u.aH (20,[]) (.i 6 λb=>U)).aH (bN tx.t) (.l [.s "SLR",.s "LALR"]),tx.t+1⟩;rw[E9 (aU Y)];refine kg Y (aG Y) Y (kg Y (aG Y) Y (xV (23,[]) Y Y Y (aU Y) (T.aC 23 [] Y) (xV (25,[]) Y Y Y (aU Y) (T.aC 25 [] Y) (kg Y (ra (aG Y) G.aC Y Y) Y (xV (21,[]) Y Y Y (aU Y) (T.aC 21 [] Y) (xV (22,[]) Y Y Y (aU Y) (T.aC 22 [] Y) (kg Y bG Y (kg Y bG Y (kg Y bG Y (Fb (26,[]) Y Y Y (aU Y) (T.aC 26 [] Y) (Fb (27,[]) Y Y Y (aU Y) (T.aC 27 [] Y) (Fb (28,[]) Y Y Y (aU Y) (T.aC 28 [] Y) ?_))))))))))));show WB _ (Sx.gG 14 ME) _ ⟨λi=>([V.e (20,[]),V.e (1,[]),V.s pQ]++[V.n])[i]?,Hp.aH _ (20,[]) (.i 6 F0),tx.t+1⟩;rw[mR (R:=tR) (h:=tx.u) Y,bJ Y,bJ Y,bJ Y,bJ Y,bJ Y,bJ Y,bJ Y,bJ Y];generalize hu:Hp.aH _ (20,[]) _=u;have lG:=hu▸bo
 have eo:∀l:Loc,[20,21,22,23,25,26,27,28,99].contains l.1=Z->u l=tx.u l:=λl h=>by
  have ne:∀{k y},[20,21,22,23,25,26,27,28,99].contains k=O->l≠(k,y):=λh' e=>by rw[e,h']at h;exact b9 h
  rw[<-hu,aQ (ne Y),aQ (ne Y),aQ (ne Y),aQ (ne Y),aQ (ne Y),aQ (ne Y),aQ (ne Y),aQ (ne Y),aQ (ne Y)]
 have Cw:u (21,[])=M (.d [])/\u (22,[])=M (.d [])/\u (23,[])=M (.d [])/\u (25,[])=M (.d [])/\u (27,[])=M (.l [])/\u (28,[])=M (.l []):=aj hu ⟨Y,Y,Y,Y,Y,Y⟩;clear hu;have Aw:∀{w:Hp}{t:Nat},w (20,[])=M (.i 6 F0)->RE ⟨λi=>([V.e (20,[]),V.e (1,[]),V.s pQ]++[V.n])[i]?,hT w,t⟩ (.a (.v 0) 30) (.e (1,[])):=λe=>ra (aG Y) e Y Y
 refine oR (jw (re (Aw lG) ⟨_,kW G.aC Y Y,rl bD (bO.o (aib ⟨G.aC,G.aF,G.bb,G.aO,G.aK,(eo (46,[]) Y).trans G.iL,(eo (47,[]) Y).trans G.d9,G.cC,λp h=>⟨(G.aI p h).aC,(eo (2,[p]) Y).trans (G.aI p h).aF,(eo (3,[p]) Y).trans (G.aI p h).aI⟩,G.bz⟩ (λy=>⟨(eo (5,y) Y).trans (T.aC 5 y Y),(eo (6,y) Y).trans (T.aC 6 y Y),(eo (9,y) Y).trans (T.aC 9 y Y),(eo (10,y) Y).trans (T.aC 10 y Y)⟩) λu1 t1 J=>?_))⟩));rw[kb Y];have P1:∀q≤nG,∃g,nZ u1 g q (qW q)/\g 11=M (.e (5,[q,0])):=λq h=>(J.aF q h).imp λg k=>⟨k.1,k.2 (.inl (pX h))⟩
 have I1:=J.bu;clear J;refine oR (jw (re (Aw lG) ⟨_,kW G.aC Y Y,rl bD (bO.o (aik G.aC G.bb G.aO G.aK ((eo (46,[]) Y).trans G.iL) (λx=>(eo (14,x) Y).trans (T.aC 14 x Y)) G.bz (λp h=>(P1 p h).imp λg k=>⟨k.1.aC,k.1.aF,k.1.aI⟩) λL u2 t2 D=>?_))⟩));rw[kb Y];refine oR (jw (re (Aw lG) ⟨_,kW G.aC Y Y,rl bD (bO.o (aiu G.aC G.aF G.aK ⟨D.1,D.2⟩ ((eo (47,[]) Y).trans G.d9) (λk x h=>?_) (λp h=>(P1 p h).imp λg k=>⟨k.1.aC,k.1.aF,k.1.aI⟩) λLL u3 t3 Nm e16 fo=>?_))⟩))
 .rcases cU.mp (gj.mp h)with rfl|h
  .exact(eo (15,x) Y).trans (T.aC 15 x Y)
  rcases cU.mp h with rfl|h
  .exact(eo (16,x) Y).trans (T.aC 16 x Y)
  .obtain rfl:=bK.mp h;exact(eo (17,x) Y).trans (T.aC 17 x Y)
 rw[kb Y];refine oR (jw (re (aG Y) ⟨_,kW lG Y Y,rl bD (bO.o (ala (x:=⟨tx.n,hT (mix wR u3 (mix [14,46,99] u2 (mix bR u1 u))),t3,_⟩) ⟨G.aC,G.aF,G.bz,G.aO,G.aK,G.cC,⟨LL,Nm,e16,fo⟩,λq j hq hj=>(I1 q j hq hj).imp λf k=>⟨k.1.eq Y Y Y,k.2⟩,λp h=>(P1 p h).imp λg k=>⟨⟨k.1.aC,k.1.aF,k.1.aI⟩,k.2⟩,lG,Cw.1,Cw.2.1,Cw.2.2.1,Cw.2.2.2.1,Cw.2.2.2.2.1,Cw.2.2.2.2.2,λk y h=>?_,T.aO.imp λg h=>(eo hD Y).trans h,(eo (50,[]) Y).trans T.aI,(eo (51,[]) Y).trans T.aF,λcs w t' ai=>aM ⟨Y,?_⟩⟩))⟩))
 .have h':=(by decide:∀k∈[24,29,30,31,32,33,34,35,36,37,38,39,40,52,53,54,55],tR.contains k=O/\wR.contains k=Z/\[14,46,99].contains k=Z/\bR.contains k=Z/\[20,21,22,23,25,26,27,28,99].contains k=Z/\[5,6,9,10,14,15,16,17,20,21,22,23,24,25,26,27,28,29,30,31,32,33,34,35,36,37,38,39,40,52,53,54,55].contains k=O) k (gj.mp h)
  exact(oY h'.1).trans ((gU h'.2.1).trans ((gU h'.2.2.1).trans ((gU h'.2.2.2.1).trans ((eo _ h'.2.2.2.2.1).trans (T.aC k y h'.2.2.2.2.2)))))
 .rw[kb Y];exact T.aK cs _ t' ⟨ai.aK,ai.aF,ai.aC,ai.aI,ai.aO,ai.jI,ai.bz,ai.cC,ai.bb,ai.pP,ai.j9,ai.d9,ai.iL⟩
def ale{x:Rn}:vm x->OV x:=x5 alc
noncomputable def Ym(i:Nat):Nat:=(([912,915,917,919,920,923,928,932]:Nl)[i]?).getD 0
noncomputable def OW(c:Nat):aP:=((["E","t","x"]:Ss)[c]?).getD dC
noncomputable def FW(i:Nat):Ss:=((zU[i]?).getD []).map OW
def Yn(P:jq)(ah:jr):(nsIn (K0 P++ah) lJ "_law_SHAPES",(K0 P++ah).lookup 440)=(M (M (.ref 440)),M (listOf #[vR 432,vR 433,vR 434,vR 435,vR 436,vR 437,vR 438,vR 439] 0)):=by kernel_rfl
def alf(P:jq)(ah:jr):((bQ 8).map λi=>(K0 P++ah).lookup (432+i))=(bQ 8).map λi=>M (listOf (yA (Ym i) (FW i)).toArray 0):=by kernel_rfl
variable{F:Fm} {A:sA} {D:Loc->Prop} {s:bL} {a b:aY} {c:Nat} {us:Vs} {Q:Src->QA} {e:Bool}
section
variable{bu:Array aS}
def alg:RE K (.w 2) (.iF 440):=λn Q h F A W s q T c=>c.elim λy c=>c.elim λp c=>gH c.1 (Bl T c.2.1 (aj (bF (bq c.2.2):bH "_law_SHAPES"=y) (cP (Yn w0.params Z0)).1) (T.mf (x:=.iF 440) s.toks Y h))
def St.OX(T:St F A n W K s)(hk:ai.lookup a=M (listOf bu c)):s.heap.IsList a bu:=⟨_,T.aC.aC.aO _ _ hk,Y,c,Y⟩
def alh(hk:ai.lookup a=M (listOf bu c))(hj:bu[j]?=M (.ref b))(z:j<1000):I2 K (.iF a) (.i j) (.iF b):=λF A n W s v u T vx vy=>(vx:v=.ref a)▸cQ vy λt e=>e▸
 ⟨⟨"list",_,⟨_,T.aC.aC.aO _ _ hk,Y⟩,Qa.lookup⟩,ao8 (T.OX hk) (jR j) (aan (jB.mpr z) (ao Y)) (by rw[PY];exact hj) ⟨⟨s.toks,Y⟩,Y⟩⟩
def ali(hk:ai.lookup a=M (listOf bu c))(al:∀W D,bP (VR W D) bu.toList us):jH e it [it] (λi W D=>True/\∃o,(it,o)∈W.n/\y4 "list_iterator" (λi=>#[.ref a,.int (i:Nat) 0]) i o) (y3 us):=
 .oM (ao Y) (λi o p=>⟨p.1,_,p.2⟩) (λb b b b h t=>h) (λF A n W K s i o R T g p r=>aoJ ⟨o,g,p⟩ r) λF A n W K s i o x T g p e sv R h1 h2=>by
  have il:=T.OX hk;rcases(al W (aZ K.h)).yG i with q|⟨u,v,q⟩
  .exact aoI T.aF.aC ⟨o,g,p⟩ il (aj (si) q.1) λh'=>h2 (sv.symm.trans q.2) h'
  .exact aoz ⟨o,g,p⟩ il (aj (si) q.1) λh' fD sb=>fD.elim λo' g'=>h1 u v h' s.toks o' (sv.symm.trans q.2.1) sb g'.1 g'.2 q.2.2
def alj(hk:ai.lookup a=M (listOf bu c))(al:∀W D,bP (VR W D) bu.toList us)(q:Q (y3 us) K):IB e K (.iF a) Q:=λF A n W s v T vx=>ak (vx:v=.ref a) (Z6 (T.OX hk) (oK.oM T.aC Y ⟨Y,Y⟩ trivial (λb b b b h t=>h) (ali hk al) q))
def alk:∀{l:Ss}{t:Nat},(∀x∈l,pZ x=O)->bP (VR W D) (yA t l) (l.map .s):=by
 intro l
 induction l with
 |nil=>exactλa=>.iH
 |cons x l ih=>exactλh=>.hY ⟨_,Y,h x (.head _)⟩ (ih λy m=>h y (.tail _ m))
def alm:∀i<8,∀x∈FW i,pZ x=O:=by decide+kernel
def aln(h:i<8):ai.lookup (432+i)=M (listOf (yA (Ym i) (FW i)).toArray 0):=by have e:=aq (·[i]?) (alf w0.params Z0);rw[gX,gX,ny h]at e;exact bF e
def alo{x:Sx}(hx:RE K x (.i i))(h:i<8):RE K (.s (.w 2) x) (.iF (432+i)):=dH alg hx (alh (cP (Yn w0.params Z0)).2 ((by decide:∀i<8,(#[vR 432,vR 433,vR 434,vR 435,vR 436,vR 437,vR 438,vR 439]:Array aS)[i]?=M (.ref (432+i))) i h) (jV h (ao Y)))
def alp(h:i<8)(q:Q (y3 ((FW i).map .s)) K):IB e K (.iF (432+i)) Q:=alj (aln h) (λW D=>alk (alm i h)) q
end
def o2{x y z:V}{f:aS->aS->hU aS}{Q:QV}(g:R2 K f x y z)(q:Q z K):O2 K f x y Q:=λF A n W s v u T vx vy=>DW T (g F A n W s v u T vx vy) q
def alq{a b:Nat}:Int.fmod (a:Int) (b:Int)=((a%b:Nat):Int):=anU _ (jR b)
def alr{a b:Nat}:Int.fdiv (a:Int) (b:Int)=((a/b:Nat):Int):=Int.fdiv_eq_ediv_of_nonneg _ (jR b)
def OY{a b:Nat}(h:b≠0):R2 K (xi .Mod) (.i (a:Nat)) (.i (b:Nat)) (.i (a%b:Nat)):=aj alq (Se λe=>h (jT e))
def OZ{a b:Nat}(h:b≠0)(z:b<1073741824):R2 K (xi .FloorDiv) (.i (a:Nat)) (.i (b:Nat)) (.i (a/b:Nat)):=aj alr (abT (λe=>h (jT e)) z)
variable{a:Nat} {Q:RQ} {e e':Sx}
def vn(b:Nat)(h:RE K e (.i (a:Nat)))(b0:b≠0):RE K (.b .Mod e (.cI b)) (.i (a%b:Nat)):=jv h bG (OY b0)
def wV(b:Nat)(h:RE K e (.i (a:Nat)))(b0:b≠0)(z:b<1073741824):RE K (.b .FloorDiv e (.cI b)) (.i (a/b:Nat)):=jv h bG (OZ b0 z)
def O0{b:Nat}:decide ((a:Int)<(b:Int))=decide (a<b):=decide_eq_decide.mpr jB
def Ax{b:Nat}(h:RE K e (.i (a:Nat)))(h':RE K e' (.i (b:Nat))):RT K (.m .Lt e e') (decide (a<b)):=aj O0 (eH h h' yX)
def O1{b:Nat}(h:RE K e (.i (a:Nat)))(h':RE K e' (.i (b:Nat))):RT K (.m .Gt e e') (decide (b<a)):=aj O0 (eH h h' Bn)
def Cx{b:Nat}(h:RE K e (.i (a:Nat)))(h':RE K e' (.i (b:Nat))):RT K (.m .Eq e e') (decide (a=b)):=aj (decide_eq_decide.mpr ⟨λe=>jT (lT e),λe=>aj e Y⟩:decide (V.i a=V.i b)=decide (a=b)) (eH h h' (qn Y Y))
def O4(h:RE K e (.i (a:Nat))):RT K (.l e) (decide (a≠0)):=by
 have w:=fq h Vu
 rwa [show((a:Int)!=0)=decide (a≠0) from by cases a<;>rfl]at w
def FX{c:Bool}{x y:V}{b d:Sx}(hc:RT K e c)(h1:c=O->RE K b x)(h2:c=Z->RE K d y):RE K (.sM e b d) (if c=O then x else y):=λn Q q=>DY (hc n _ (by
 cases c
 .exact h2 Y n Q q
 .exact h1 Y n Q q))
def Ay(h:Hp):Prop:=h (0,[0])=M (.l (qi.map .i))/\qi.length<=63
def als(h:¬k<qi.length):tc k=0:=by
 unfold tc;rw[jj.mpr (iP.mp h)]
 rfl
def alu(h:k<qi.length):qi[k].fmod 720720=((tc k:Nat):Int):=by unfold tc;rw[iO h];exact(anU _ (ao Y)).trans (Int.toNat_of_nonneg (Int.emod_nonneg _ (ao Y))).symm
def O6(S:Ay h)(q:Q (.i (tc k)) h t):bO (n+1) (bS 7) [.e (0,[0]),.i k] Q h t:=by
 have ln:(qi.map V.i).length=qi.length:=bc ..;refine f9 agG Y (EZ (DY (Ax (aG Y) (qu (aG Y) S.1) _ _ ?_)));rw[ln];by_cases c:k<qi.length
 .refine sZ (az c) (jv (dH (aG Y) (aG Y) (mj S.1 (fU (iO c)))) bG (Se (ao Y)) _ _ ?_);rw[alu c];exact q
 .refine uH (λe=>c (aB e)) (re bG ?_);rw[als c]at q;exact q
noncomputable abbrev qC:Nl:=[63,64,99]
def Cy(j:Nat)(w:Hp):Prop:=w (64,[])=M (.d ((lu j).map xY))/\w (63,[])=M (.l (pN.map .s))
variable(hh:Cy j w)
def Cy.aF:=hh.1
def Cy.aC:=hh.2
variable{m:Mp} {G:QF}
def alv(lt:j<8):V.s ((pN[j]?).getD dC)∉((lu j).map xY).map (·.1):=λe=>by
 rw[fC]at e;refine bT (bX.mp e) λp hp e=>?_;have e:=str_inj e
 have nd:((bQ 8).map λk=>(pN[k]?).getD dC).Nodup:=by decide+kernel
 have a:((bQ 8).map λk=>(pN[k]?).getD dC)[j]?=M ((pN[j]?).getD dC):=fU (ny lt);have k:=pK nd a
 rw[<-AR,List.take_range,xc (dK lt)]at k;exact k (aj e ((Ib j).subset (gW hp)))
def alw(S:Ay h)(v0:v 0=M (.e (0,[0])))(v1:v 1=M (.e (64,[])))(ai:Cy j w)(lt:j<8)(q:∀v' w' t',v' 0=M (.e (0,[0]))->v' 1=M (.e (64,[]))->Cy (j+1) w'->G .n ⟨v',mix qC w' h,t'⟩):WB (n+1) Ve G ⟨aJ (aJ v 3 (.i (j:Nat))) 4 (.s ((pN[j]?).getD dC)),mix qC w h,t⟩:=by
 have S':=S;have r3:RE ⟨aJ (aJ v 3 (.i j)) 4 (.s ((pN[j]?).getD dC)),mix qC w h,t⟩ (.v 3) (.i j):=aG Y
 have a1:((1)+((j/2)))=((1+j/2):Int):=Y;refine cF (yW (yW (kU (rl (aW (aG v0) (aW (aj a1 (jv bG (wV 2 r3 (ao Y) (ao Y)) qm)) bD)) (bO.o (O6 S' (re (FX (O4 (vn 2 r3 (ao Y))) (λa=>bG) λa=>bG) (o2 (z:=.i ((tc (1+j/2)/(if j%2=0 then 1 else 36):Nat))) ?_ (re bG (o2 (OY (ao Y)) ?_))))))))))
 .by_cases c:j%2=0
  .rw[au (λe=>(aB e) c),aw c];exact OZ (ao Y) (ao Y)
  .rw[aw (az c),au c];exact OZ (ao Y) (ao Y)
 have e5:∀{w t},RE ⟨aJ (aJ (aJ v 3 (.i j)) 4 (.s ((pN[j]?).getD dC))) 5 (.i (wF j)),w,t⟩ (.v 5) (.i (wF j)):=aG Y;refine jd (O4 (vn 4 e5 (ao Y))) (λc=>?_) λc=>?_
 .have wl:tB[wF j/4%3]?=M (uI j).1:=by have l:wF j/4%3<tB.length:=qd _ (ao Y);unfold uI;rw[iO l];rfl
  refine hM (uv (KZ (fM (DX (fy (rl (aW bW (aW bW (aW bW bD))) ⟨(ao Y),jJ (re (vn 3 (wV 4 e5 (ao Y) (ao Y)) (ao Y)) ⟨_,mj bo (fU wl),fM (re (jv bG (wV 12 e5 (ao Y) (ao Y)) qm) (eV ⟨(by decide:2<=16777216),re (aG v1) (re (aG Y) (vV (show(mix qC w h).aH (bN t) (.l (tB.map .s)) (64,[])=_ from(aQ (aU Y)).trans ai.aF) Y ?_ (aM (aM ?_))))⟩))⟩)⟩))))))
  .rw[bc];have k:=(Ib j).length_le
   rw[bc,bc,fP]at k;exact bM k (jV lt (ao Y))
  .show G .n ⟨_,((mix qC w h).aH (bN t) (.l (tB.map .s))).aH (64,[]) (.d (cX ((lu j).map xY) (.s ((pN[j]?).getD dC)) (tp (uI j)))),t+1⟩;rw[bJ Y,bJ Y,mw (alv lt)];refine q _ _ _ v0 v1 ⟨bo.trans ?_,(aQ (aU Y)).trans ((aQ (aU Y)).trans ai.aC)⟩;rw[Na,au c,dF];rfl
 .refine aM (aM (q _ _ _ v0 v1 ⟨ai.aF.trans ?_,ai.aC⟩));rw[Na,aw (Ge.mp c)];exact aq (λl:List (aP×Wl)=>M (af.d (l.map xY))) (i8 _).symm
def alx(S:Ay h)(f3:h (63,[])=U)(f4:h (64,[])=U)(q:∀u t',u (64,[])=M (.d gF)->Q (.e (64,[])) (mix qC u h) t'):bO (n+2) (bS 9) [.e (0,[0])] Q h t:=by
 refine f9 agI Y (cF (mO (dQ (64,[]) Y f4 (cF (fy (rl (aW bW (aW bW (aW bW (aW bW (aW bW (aW bW (aW bW (aW bW bD)))))))) ⟨(ao Y),dQ (63,[]) Y (show h.aH (64,[]) (.d []) (63,[])=U from(aQ (aU Y)).trans f3) ?_⟩))))))
 show WB _ _ _ ⟨_,(h.aH (64,[]) (.d [])).aH (63,[]) (.l (pN.map .s)),t⟩;rw[mR (R:=qC) (h:=h) Y,bJ Y];refine BW (pN.map .s) (λj K=>∃v w t,K=⟨v,mix qC w h,t⟩/\v 0=M (.e (0,[0]))/\v 1=M (.e (64,[]))/\Cy j w) (aG Y) (λj K J=>?_) ⟨_,_,_,Y,Y,Y,uF (aU Y),bo⟩ (λj x K hx J=>?_) λK J=>?_
 .obtain⟨v,w,t,rfl,_,_,ai⟩:=J;exact ai.aC
 .obtain⟨v,w,t,rfl,v0,v1,ai⟩:=J;obtain⟨s,hs,rfl⟩:=d7 hx;have e:s=(pN[j]?).getD dC:=by rw[hs];rfl
  subst e;exact alw S v0 v1 ai (cG.mp hs).1 λv' w' t' a b c=>⟨v',w',t',Y,a,b,c⟩
 .obtain⟨v,w,t,rfl,_,v1,ai⟩:=J;exact kc (aG v1) (q w t ai.aF)
def aly{g:α->Option V}{v:α}:[v].filterMap g=(g v).toList:=by rw[Jo];cases g v<;>rfl
def IQ{l:Loc}{Q:QV}{cs:Sx}{tg:Tg}(as:List α)(f:α->V)(g:α->Option V)(rm:qK K l t')(hS:∀ys i,S i (K.h.aH l (.l ys)) (as.map f)[i]?)
 (body:∀a∈as,∀ys ai,ys.length<=as.length->ai (K.h.aH l (.l (ys++(g a).toList))) t'->xM tg (f a) (LB elt cs l ai) ⟨mN K.m du,K.h.aH l (.l ys),t'⟩)(q:Q (.e l) (K.aH l (.l (as.filterMap g)) t')):CQ (.l []) tg du (LB elt cs) Q S K:=
 ⟨l,t',rm,l,Y,as.length,λi h τ=>h=K.h.aH l (.l ((as.take i).filterMap g))/\τ=t',⟨Y,Y⟩,λi h τ I=>by
  obtain⟨rfl,rfl⟩:=I;have s:=hS ((as.take i).filterMap g) i
  rw[gX]at s;cases hv:as[i]? with
  |none=>rw[hv]at s;exact .inl ⟨s,aj (AJ (jj.mp hv)).symm q⟩
  |some v=>rw[hv]at s;exact .inr ⟨f v,s,(cG.mp hv).1,body v (cO hv) _ _ (aV (CT ..) (q7 ..)) ⟨by rw[take_snoc hv,Jh,aly],Y⟩⟩⟩
noncomputable abbrev iq:Nl:=[65,66,67,68,99]
noncomputable abbrev pqV:aP:="pqr"
noncomputable abbrev xyV:aP:="xyz"
def alB:∀k<3,pqV.cps[k]?=M (112+k)/\xyV.cps[k]?=M (120+k)/\sN (2+k)=⟨#[112+k]⟩/\sN (5+k)=⟨#[120+k]⟩:=by decide+kernel
noncomputable def Az(k:Nat):Es:=[(.s "E",.s "E"),(.s "t",.s (sN (2+k))),(.s "x",.s (sN (5+k)))]
def spl:bI (Az k) (.s "E")=M (.s (sN 0))/\bI (Az k) (.s "t")=M (.s (sN (2+k)))/\bI (Az k) (.s "x")=M (.s (sN (5+k))):=⟨aw Y,(au λe=>ax (str_inj e) (ao Y)).trans (aw Y),(au λe=>ax (str_inj e) (ao Y)).trans ((au λe=>ax (str_inj e) (ao Y)).trans (aw Y))⟩
def alD:cX (cX (cX [] (.s "E") (.s "E")) (.s "t") (.s (sN (2+k)))) (.s "x") (.s (sN (5+k)))=Az k:=by
 have e1:cX [(V.s "E",V.s "E")] (.s "t") (.s (sN (2+k)))=[(V.s "E",V.s "E"),(.s "t",.s (sN (2+k)))]:=mw λh=>ax (str_inj (bK.mp h)) (ao Y);rw[show cX [] (.s "E") (.s "E")=[(.s "E",.s "E")] from Y,e1]
 exact mw λh=>(cU.mp h).elim (λe=>ax (str_inj e) (ao Y)) λh=>ax (str_inj (bK.mp h)) (ao Y)
def alE:∀i<8,∀c∈(zU[i]?).getD [],c<3:=ao Y
def Dw(L:List Nl)(w:Hp):Prop:=(w (66,[])=M (.l ((bQ L.length).map λi=>.e (67,[i]))))/\(∀i r,L[i]?=M r->w (67,[i])=M (.l ((r.map sN).map .s)))/\∀i,L.length<=i->w (67,[i])=U
section
variable{L:List Nl} (hh:Dw L w)
def Dw.aC:=hh.1
def Dw.aI:=hh.2.1
def Dw.aF:=hh.2.2
end
variable{s:Nat} {r:Nl}
section
variable{L:List Nl}
def Dw.kR(D:Dw L w)(e6:w' (66,[])=M (.l ((bQ L.length).map (λi=>V.e (67,[i]))++[.e (67,[L.length])])))(e7:w' (67,[L.length])=M (.l ((r.map sN).map .s)))(o:∀i,i≠L.length->w' (67,[i])=w (67,[i])):Dw (L++[r]) w':=by
 have ln:(L++[r]).length=L.length+1:=dY;refine⟨e6.trans ?_,λi x hx=>?_,λi hi=>?_⟩
 .rw[ln,C4,dF];rfl
 .by_cases c:i=L.length
  .subst c;rw[CN (b8 _),JF]at hx;obtain rfl:=bF hx;exact e7
  .have lt:=(cG.mp hx).1;rw[ln]at lt;rw[AI (t7 (hO lt) c)]at hx;exact(o i c).trans (D.aI i x hx)
 .rw[ln]at hi;exact(o i (fQ hi)).trans (D.aF i (rh hi))
def O7(h:i≠j):((67,[i]):Loc)≠(67,[j]):=λe=>h (d6 (cP e).2).1
def alF(k3:k<3)(s8:s<8)(D:Dw L w)(z:L.length<=4)(v5:v 5=M (.e (66,[])))(v6:v 6=M (.i (k:Nat)))(v7:v 7=M (.i (s:Nat)))(q:∀w' t',Dw (L++[wC k s]) w'->w' (65,[])=w (65,[])->w' (68,[])=w (68,[])->G .n ⟨aJ v 8 (.e (bN t)),mix iq w' h,t'⟩):WB n Vd G ⟨v,mix iq w h,t⟩:=by
 refine uf (alB k k3) λc1 c2 n1 n2=>?_;refine cF (TY (HA (HA (HA TU))) (jJ (Hz (re bW (re bW (Hz (re bW (re (dH bW (aG v6) (MP (dK (jV k3 (ao Y))) c1)) (Hz (re bW (re (dH bW (aG v6) (MP (dK (jV k3 (ao Y))) c2)) (TT ⟨bN t,Y,bo,?_,(by decide:3<=16777216),?_⟩))))))))))))
 .intro e he;rcases cU.mp he with rfl|he
  .rfl
  rcases cU.mp he with rfl|he
  .rfl
  .rw[bK.mp he];rfl
 show WB _ _ _ ⟨aJ v 8 (.e (bN t)),((((mix iq w h).aH (bN t) (.d [])).aH (bN t) (.d _)).aH (bN t) (.d _)).aH (bN t) (.d (cX (cX (cX [] (.s "E") (.s "E")) (.s "t") (.s ⟨#[112+k]⟩)) (.s "x") (.s ⟨#[120+k]⟩))),t+1⟩;rw[nW,nW,nW,<-n1,<-n2,alD,bJ Y];generalize hu:w.aH (bN t) (.d (Az k))=u;have et:u (bN t)=M (.d (Az k)):=aj hu bo
 have o:∀l:Loc,dM l.1 99=Z->u l=w l:=λl h=>aj hu (aQ (aU h));have D':Dw L u:=⟨(o _ Y).trans D.aC,λi r h=>(o _ Y).trans (D.aI i r h),λi h=>(o _ Y).trans (D.aF i h)⟩
 have ez:((bQ L.length).map λi=>V.e (67,[i])).length=L.length:=by rw[bc,fP]
 refine oR (iT (re (aG v5) ⟨_,Hi D'.aC,fM (BF (re (alo (aG v7) s8) (alp s8 (IQ (l:=(67,[L.length])) ((zU[s]?).getD []) (λc=>.s (OW c)) (λc=>M (.s (sN (Fj k c)))) (.inr ⟨(by decide:67≠0),(by decide:67≠99),D'.aF _ (b8 _),Y⟩) (λys i=>?_) (λc hc ys ai le kk=>?_) ?_))))⟩))
 .rw[FW,fC];rfl
 .have lk:bI (Az k) (.s (OW c))=M (.s (sN (Fj k c))):=by
   have lt:=alE s s8 c hc;obtain⟨a0,a1,a2⟩:=spl;cases c with
   |zero=>exact a0
   |succ c=>cases c with
   |zero=>exact a1.trans (aq (λx=>M (V.s (sN x))) (show 2+k=3*1+k-1 from(aq (·-1) (aal 2 k)).symm))
   |succ c=>cases c with
   |succ c=>exact ax lt (aoT (Gj 3 c))
   |zero=>exact a2.trans (aq (λx=>M (V.s (sN x))) (show 5+k=3*2+k-1 from(aq (·-1) (aal 5 k)).symm))
  refine E3 (by decide:67≠0) (bM le ?_) (dH (aG Y) (aG Y) (ig (show(mix iq u h).aH (67,[L.length]) (.l ys) (bN t)=_ from(aQ (aU Y)).trans et) Y lk)) kk
  exact bM ((by decide:∀s<8,((zU[s]?).getD []).length<=5) s s8) (ao Y)
 .refine eV (D7 (show 66≠0 by decide) (show(mix iq u h).aH (67,[L.length]) (.l (((zU[s]?).getD []).filterMap λc=>M (V.s (sN (Fj k c))))) (66,[])=_ from(aQ (aU Y)).trans D'.aC) ?_ (aM ?_))
  .rw[ez];exact bM z (ao Y)
  .show G .n ⟨_,((mix iq u h).aH (67,[L.length]) (.l (((zU[s]?).getD []).filterMap λc=>M (V.s (sN (Fj k c)))))).aH (66,[]) (.l (_++[.e (67,[L.length])])),t+1⟩;rw[bJ Y,bJ Y];refine q _ _ (D'.kR bo ?_ λi hi=>?_) ?_ ?_
   .refine(uF (aU Y)).trans ?_;unfold wC;rw[fC,fC];exact aq (λl=>M (af.l l)) (congrFun (Jg) _)
   .exact(aQ (aU Y)).trans (aQ (O7 hi))
   .exact(aQ (aU Y)).trans ((aQ (aU Y)).trans (o _ Y))
   .exact(aQ (aU Y)).trans ((aQ (aU Y)).trans (o _ Y))
end
variable{x y z:Sx}
def Yo{a b c:Prop} [Decidable a] [Decidable b] [Decidable c](ha:RT K x (decide a))(hb:RT K y (decide b))(hc:RT K z (decide c)):RT K (.fJ O (.c x (.c y (.c z .n)))) (decide (a/\b/\c)):=Bt λn P q=>by
 by_cases k1:a
 .rw[az k1]at ha;refine Bs ha ?_;by_cases k2:b
  .rw[az k2]at hb;refine Bs hb (Br hc ?_);by_cases k3:c
   .rw[az k3];rwa [az ⟨k1,k2,k3⟩]at q
   .rw[aA k3];rwa [aA λe=>k3 e.2.2]at q
  .rw[aA k2]at hb;refine xJ hb ?_
   rwa [aA λe=>k2 e.2.1]at q
 .rw[aA k1]at ha;refine xJ ha ?_
  rwa [aA λe=>k1 e.1]at q
def alG(h:i<=n):qF n (i:Nat)=i:=by
 unfold qF;rw[au (vG.mpr (jR i)),Z9 (qb.mpr h),Int.max_eq_right (jR i)]
 rfl
noncomputable abbrev lX:Nl:=B5 (fV%8) qv (fV/64%6)
noncomputable abbrev se:List Nl:=[1]::lX.mapIdx wC
def Yp:qv<8:=by
 unfold qv
 split
 .exact dJ (qd _ (ao Y)) (ao Y)
 .exact qd _ (ao Y)
def Yq:(∀s∈lX,s<8)/\lX.length<=3/\lX[0]?=M (fV%8):=by
 have e:lX=[fV%8,qv,fV/64%6]\/lX=[fV%8,qv]:=by
  unfold lX B5
  split
  .exact .inl Y
  .exact .inr Y
 have a:fV%8<8:=qd _ (ao Y);have c:fV/64%6<8:=dJ (qd _ (ao Y)) (ao Y)
 rcases e with e|e<;>rw[e]
 .refine⟨λs hs=>?_,ao Y,Y⟩;rcases cU.mp hs with rfl|hs
  .exact a
  rcases cU.mp hs with rfl|hs
  .exact Yp
  .rw[bK.mp hs];exact c
 .refine⟨λs hs=>?_,(ao Y),Y⟩;rcases cU.mp hs with rfl|hs
  .exact a
  .rw[bK.mp hs];exact Yp
def Yr(h:lX[j]?=M s):se[j+1]?=M (wC j s):=by rw[Zq,Jk,h];rfl
def O8:se.length=lX.length+1:=by rw[vD,ZG]
def Ys:iX=se++H9 (fV%8) (fV/384%2) lX:=Y
noncomputable def qZ:Nl:=(bQ iX.length).drop te++(bQ iX.length).take te
def Yt:qS=qZ.map λi=>(iX[i]?).getD []:=by
 have e:iX=(bQ iX.length).map λi=>(iX[i]?).getD []:=Js λi=>by
  rw[gX];by_cases c:i<iX.length
  .rw[ny c,iO c];exact(aq (λo:Option Nl=>M (o.getD [])) (iO c)).symm
  .rw[jj.mpr (iP.mp c),jj.mpr (by rw[fP];exact iP.mp c)];rfl
 unfold qZ;rw[dF,Gl,AR,<-e];rfl
def alH(h:qS[k]?=M r):∃i,qZ[k]?=M i/\iX[i]?=M r:=by
 rw[Yt]at h;refine bT (d7 h) λi hi e=>?_;refine⟨i,hi,?_⟩;have lt:=j4.mp ((cZ.mp (cO hi)).elim (λk=>Zz k) λk=>Gd k)
 rw[iO lt]at e⊢;exact aq M e
def Cz(w:Hp):Prop:=(w (68,[])=M (.l (qZ.map λi=>.e (67,[i]))))/\∀i r,iX[i]?=M r->w (67,[i])=M (.l ((r.map sN).map .s))
variable(hh:Cz w)
def Cz.aC:=hh.1
def Cz.aF:=hh.2
def alI(D:Dw se w)(f8:w (68,[])=U)(e5:w (65,[])=M (.l (lX.map λs=>.i (s:Nat))))(v0:v 0=M (.i (fV:Nat)))(v4:v 4=M (.e (65,[])))(v5:v 5=M (.e (66,[])))(q:∀w' t',Cz w'->Q (.e (68,[])) (mix iq w' h) t'):WB n (Sx.gG 8 EX) (Rt Q) ⟨v,mix iq w h,t⟩:=by
 have nx:∀{w:Hp}{t:Nat},Dw iX w->w (68,[])=U->WB n (Sx.gG 9 EX) (Rt Q) ⟨v,mix iq w h,t⟩:=λ{w t} D f8=>by
  have ln:((bQ iX.length).map λi=>V.e (67,[i])).length=iX.length:=by rw[bc,fP]
  have b5:=jo (qT (jL zW));have b2:=jo (qT zW)
  have b0:iX.length≠0:=fQ (jV (ao Y) b2);have tl:te<=iX.length:=dK (qd _ (yo b0))
  have z5:iX.length<=16777216:=aV (dK b5) (ao Y);have r5:RE ⟨v,mix iq w h,t⟩ (.p .l (.c (.v 5) .n)) (.i (iX.length)):=aj ln (qu (aG v5) D.aC)
  refine eZ (jv (wV 768 (aG v0) (ao Y) (ao Y)) r5 (OY b0)) ?_;refine EZ (yW (Eo (re (aG v5) (re (aG Y) (.inl ⟨(66,[]),(bQ iX.length).map λi=>V.e (67,[i]),te,Y,Y,D.aC,aj ln.symm z5,jJ (ad1 (re (aG v5) (re (aG Y) ⟨(66,[]),(bQ iX.length).map λi=>V.e (67,[i]),te,Y,Y,?_,aj ln.symm z5,jJ ?_⟩)))⟩)))))
  .show(mix iq w h).aH (bN t) (.l (((bQ iX.length).map λi=>V.e (67,[i])).drop (qF ((bQ iX.length).map λi=>V.e (67,[i])).length te))) (66,[])=_;exact(aQ (aU Y)).trans D.aC
  rw[ln,alG tl];have fz:∀o o',((mix iq w h).aH (bN t) o).aH (bN (t+1)) o' (68,[])=U:=λo o'=>(aQ (aU Y)).trans ((aQ (aU Y)).trans f8)
  refine Hw (uF λe=>ax (d6 (cP e).2).1 (gZ (i7 t))) bo ?_ (dQ (68,[]) Y (fz (.l (((bQ iX.length).map λi=>V.e (67,[i])).drop te)) (.l (((bQ iX.length).map λi=>V.e (67,[i])).take te))) ?_)
  .rw[xb,Gi,ln,xc tl,Gf tl];exact z5
  .show Q (.e (68,[])) ((((mix iq w h).aH (bN t) _).aH (bN (t+1)) _).aH (68,[]) _) _;rw[bJ Y,bJ Y,bJ Y,<-Gl,<-AR,<-dF];exact q _ _ ⟨bo,λi r hr=>(aQ (aU Y)).trans ((aQ (aU Y)).trans ((aQ (aU Y)).trans (D.aI i r hr)))⟩
 refine qG Yq λa c3 Yu=>?_;have l4:(lX.map λs=>V.i (s:Nat)).length=lX.length:=bc ..
 have r4:RE ⟨v,mix iq w h,t⟩ (.p .l (.c (.v 4) .n)) (.i (lX.length)):=aj l4 (qu (aG v4) e5);have Yv:=Yr Yu
 have b1:=(cG.mp Yv).1;refine bT ((by decide:∀f<8,∃c,(wC 0 f)[0]?=M c/\c<8) (fV%8) (qd _ (ao Y))) λc hc clt=>?_
 have rs:RE ⟨v,mix iq w h,t⟩ (.s (.s (.v 5) (.cI 1)) (.cI 0)) (.s (sN c)):=dH (dH (aG v5) bG (mj D.aC (fU (ny b1)))) bG (mj (D.aI 1 _ Yv) (fU (fU hc)));have r1:RT ⟨v,mix iq w h,t⟩ (.m .Eq (.p .l (.c (.v 4) .n)) (.cI 2)) (decide (lX.length=2)):=Cx r4 bG
 have r2:=(decide_eq_decide.mpr ⟨λe=>(hc.trans (aq M (c0 clt e))),λe=>ak (bF (hc.symm.trans e)) Y⟩:decide (sN c="E")=decide ((wC 0 (fV%8))[0]?=M 0))▸my rs bW;have r3:RT ⟨v,mix iq w h,t⟩ (.l (.b .Mod (.b .FloorDiv (.v 0) (.cI 384)) (.cI 2))) (decide (fV/384%2≠0)):=O4 (vn 2 (wV 384 (aG v0) (ao Y) (ao Y)) (ao Y))
 refine jd (Yo r1 r2 r3) (λk=>?_) λk=>aM (nx (by rw[Ys,H9,au k,i8];exact D) f8)
 have ez:((bQ se.length).map λi=>V.e (67,[i])).length=se.length:=by rw[bc,fP]
 refine oR (iT (re (aG v5) ⟨_,Hi D.aC,fM (fy (rl (aW bW (aW bW bD)) ⟨(ao Y),dQ (67,[se.length]) Y (D.aF _ (b8 _)) (eV (D7 (show 66≠0 by decide) (show(mix iq w h).aH (67,[se.length]) (.l [.s "p",.s "E"]) (66,[])=_ from(aQ (aU Y)).trans D.aC) ?_ (aM ?_)))⟩))⟩))
 .rw[ez,O8];exact bM (j3 c3) (ao Y)
 .show WB n _ _ ⟨v,((mix iq w h).aH (67,[se.length]) _).aH (66,[]) (.l (_++[.e (67,[se.length])])),t⟩;rw[bJ Y,bJ Y];refine nx ?_ ((aQ (aU Y)).trans ((aQ (aU Y)).trans f8));rw[Ys,H9,aw k];exact D.kR bo (uF (aU Y)) λi hi=>(aQ (aU Y)).trans (aQ (O7 hi))
def Ds(j:Nat)(v:Mp)(w:Hp):Prop:=v 0=M (.i (fV:Nat))/\v 4=M (.e (65,[]))/\v 5=M (.e (66,[]))/\(w (65,[])=M (.l (lX.map λs=>.i (s:Nat))))/\w (68,[])=U/\Dw (se.take (j+1)) w
variable(hh:Ds j v w)
def Ds.aK:=hh.1
def Ds.aI:=hh.2.1
def Ds.aC:=hh.2.2.1
def Ds.aF:=hh.2.2.2.1
def Ds.aO:=hh.2.2.2.2.1
def Ds.bb:=hh.2.2.2.2.2
def alK(f:∀k y,[65,66,67,68].contains k=O->h (k,y)=U)(q:∀w t',Cz w->Q (.e (68,[])) (mix iq w h) t'):bO (n+1) (bS 8) [.i (fV:Nat)] Q h t:=by
 obtain⟨c8,c3,Yu⟩:=Yq;refine f9 agH Y (eZ (vn 8 (aG Y) (ao Y)) (eZ (vn 8 (wV 8 (aG Y) (ao Y) (ao Y)) (ao Y)) (eZ (vn 6 (wV 64 (aG Y) (ao Y) (ao Y)) (ao Y)) ?_)));have nx:∀{m:Mp},m 0=M (.i fV)->m 1=M (.i (fV%8:Nat))->m 2=M (.i qv)->m 3=M (.i (fV/64%6:Nat))->WB n (Sx.gG 4 EX) (Rt Q) ⟨m,h,t⟩:=λ{m} m0 m1 m2 m3=>by
  refine cF (fy (rl (aW (aG m1) (aW (aG m2) bD)) ⟨(ao Y),dQ (65,[]) Y (f 65 [] Y) ?_⟩));show WB _ _ _ ⟨aJ m 4 (.e (65,[])),h.aH (65,[]) (.l [.i (fV%8),.i qv]),t⟩;rw[mR (R:=iq) Y];have Yw:∀{w:Hp},w (65,[])=M (.l (lX.map λs=>.i (s:Nat)))->(∀k y,[66,67,68].contains k=O->w (k,y)=U)->WB n (Sx.gG 6 EX) (Rt Q) ⟨aJ m 4 (.e (65,[])),mix iq w h,t⟩:=λ{w} e5 fw=>by
   refine cF (fy (fM (fy (rl (aW bW bD) ⟨(ao Y),dQ (67,[0]) Y (fw 67 [0] Y) (eV ⟨(ao Y),dQ (66,[]) Y (show(mix iq w h).aH (67,[0]) (.l [.s "a"]) (66,[])=U from(aQ (aU Y)).trans (fw 66 [] Y)) ?_⟩)⟩))))
   show WB _ _ _ ⟨aJ (aJ m 4 (.e (65,[]))) 5 (.e (66,[])),((mix iq w h).aH (67,[0]) (.l [.s "a"])).aH (66,[]) (.l [.e (67,[0])]),t⟩;rw[bJ Y,bJ Y];refine BW (lX.map λs=>.i (s:Nat)) (λj K=>∃v w t,K=⟨v,mix iq w h,t⟩/\Ds j v w) (aG Y) (λj K J=>?_) ⟨_,_,_,Y,m0,Y,Y,(aQ (aU Y)).trans ((aQ (aU Y)).trans e5),(aQ (aU Y)).trans ((aQ (aU Y)).trans (fw 68 [] Y)),⟨bo,λi r hr=>?_,λi hi=>?_⟩⟩ (λj x K hx J=>?_) λK J=>?_
   .obtain⟨v,w,t,rfl,J⟩:=J;exact J.aF
   .cases i with
    |zero=>obtain rfl:=bF hr;exact uF (aU Y)
    |succ i=>exact cW hr
   .have i0:=fQ hi;exact(aQ (aU Y)).trans ((aQ (O7 i0)).trans (fw 67 [i] Y))
   .obtain⟨v,w,t,rfl,J⟩:=J;obtain⟨s,hs,rfl⟩:=d7 hx;have lt:=(cG.mp hs).1
    have bl:(se.take (j+1)).length=j+1:=by rw[xb,O8,xc (jZ lt)]
    refine alF (dJ lt c3) (c8 s (cO hs)) J.bb (by rw[bl];exact j3 (dK (dJ lt c3))) J.aC Y Y λw' t' D e5 e8=>?_
    exact⟨_,_,_,Y,J.aK,J.aI,J.aC,e5.trans J.aF,e8.trans J.aO,by rw[take_snoc (Yr hs)];exact D⟩
   .obtain⟨v,w,t,rfl,J⟩:=J;have D:=J.bb
    rw[bc,<-O8,iu]at D;exact alI D J.aO J.aF J.aK J.aI J.aC q
  have rb:RT ⟨aJ m 4 (.e (65,[])),mix iq (h.aH (65,[]) (.l [.i (fV%8),.i qv])) h,t⟩ (.fJ O (.c (.m .Lt (.v 1) (.cI 5)) (.c (.m .Lt (.v 2) (.cI 5)) (.c (.m .Lt (.v 3) (.cI 5)) .n)))) _:=Yo (Ax (aG m1) bG) (Ax (aG m2) bG) (Ax (aG m3) bG);have e65:(mix iq (h.aH (65,[]) (.l [.i (fV%8),.i qv])) h) (65,[])=M (.l [.i (fV%8),.i qv]):=(oY Y).trans bo
  refine jd rb (λc=>pJ Y Y (aG Y) e65 (aG m3) (ao Y) (aM (Yw (bo.trans ?_) λk y hk=>?_))) λc=>aM (Yw (bo.trans ?_) λk y hk=>?_)
  .rw[lX,B5,aw c];rfl
  .have ne:((k,y))≠(65,[]):=λe=>by rw[(cP e).1]at hk;exact b9 hk
   exact(aQ ne).trans ((aQ ne).trans (f k y (gj.mpr (.tail _ (gj.mp hk)))))
  .rw[lX,B5,au c];rfl
  .have ne:((k,y))≠(65,[]):=λe=>by rw[(cP e).1]at hk;exact b9 hk
   exact(aQ ne).trans (f k y (gj.mpr (.tail _ (gj.mp hk))))
 refine jd (O1 (aG Y) bG) (λc=>eZ (vn 5 (aG Y) (ao Y)) (aM (nx Y Y ?_ Y))) λc=>aM (nx Y Y ?_ Y)
 .show M (V.i _)=_;rw[qv,aw c]
 .show M (V.i _)=_;rw[qv,au c]
noncomputable def d8(k:Nat):Loc:=match k with
 |0=>(70,[])
 |k+1=>(67,[(qZ[k]?).getD 0])
def Ru(h:Hp):Prop:=(h (69,[])=M (.l ((bQ (nG+1)).map λk=>.e (d8 k))))/\∀k≤nG,h (d8 k)=M (.l ((ss k).map .s))
variable(hh:Ru h)
def Ru.aC:=hh.1
def Ru.aF:=hh.2
def Fo(i d:Nat)(L:Ss)(w:Hp):Prop:=w (71,[])=M (.l (L.map .s))/\L.Nodup/\(∀a∈L,jM a)/\dP∈L/\∀k e a,k<i\/k=i/\e+1<d->sy k e=M sE->sy k (e+1)=M a->a∈L
section
variable{i d:Nat} {L:Ss} (hh:Fo i d L w)
def Fo.aI:=hh.1
def Fo.aF:=hh.2.1
def Fo.aC:=hh.2.2.1
def Fo.aO:=hh.2.2.2.1
def Fo.aK:=hh.2.2.2.2
end
variable{b r es:Sx}
section
variable{L:Ss}
def alM{N:Nat}(I:Nat->QA)(he:RL K es [.i ((1:Nat):Int),.i N])(z1:1<=N)(z:N<=1000000)(i0:I 1 K)(step:∀j K,1<=j->j<N->I j K->WB n b (Fw.lp (I (j+1)) (Nx n r G)) (K.dw i (.i j)))(fin:∀K,I N K->WB n r G K):WB n (.c (.f (.v i) (.KA es) b .n) r) G K:=
 f6 (nU (agW (rl he ⟨1,N,Y,z1,z,oU ((bQ (N-1)).map λi:Nat=>.i (1+i:Nat)) (λj=>I (1+j)) (λi K J=>by
  unfold MQ;rw[gX];by_cases c:1+i<N
  .rw[aw c,ny (aob.mpr c)];rfl
  .rw[au c,jj.mpr (by rw[fP];exact Nat.sub_le_iff_le_add'.mpr (iP.mp c))];rfl) i0 (λj v K hv J=>by
   obtain⟨a,ha,rfl⟩:=d7 hv;have lt:=(cG.mp ha).1
   rw[fP]at lt;rw[ny lt]at ha;obtain rfl:=bF ha;exact step (1+j) K (mI 1 j) (aob.mp lt) J) λK J=>aM (fin K (by rwa [bc,fP,CV z1]at J))⟩)))
theorem alN(R:Ru h)(hi:i<=nG)(j1:1<=j)(lt:j<(ss i).length)(F:Fo i j L w)(v1:v 1=M (.e (71,[])))(v2:v 2=M (.e (d8 i)))(v3:v 3=M (.i (j:Nat)))(q:∀L' w',Fo i (j+1) L' w'->G .n ⟨v,mix [71] w' h,t⟩):WB n Vf G ⟨v,mix [71] w h,t⟩:=by
 obtain⟨j,rfl⟩:∃k,j=k+1:=⟨j-1,(Gf j1).symm⟩;obtain⟨s,hs⟩:=jy (PW lt);obtain⟨a,ha⟩:=jy lt;have ne:∀{o},(w.aH (71,[]) o) (d8 i)=w (d8 i):=λ{o}=>aQ (by cases i<;>exact aU Y)
 have el:(mix [71] w h) (d8 i)=M (.l ((ss i).map .s)):=(show(mix [71] w h) (d8 i)=h (d8 i) by cases i<;>exact gU Y).trans (R.aF i hi)
 have r1:RE ⟨v,mix [71] w h,t⟩ (.s (.v 2) (.b .Sub (.v 3) (.cI 1))) (.s s):=dH (aG v2) (succ_sub j▸jv (aG v3) bG xG) (mj el (fU hs));have r2:RE ⟨v,mix [71] w h,t⟩ (.s (.v 2) (.v 3)) (.s a):=dH (aG v2) (aG v3) (mj el (fU ha))
 have mem:decide (V.s a∈L.map V.s)=decide (a∈L):=decide_eq_decide.mpr ⟨λh=>(bX.mp h).elim λx k=>aj (str_inj k.2) k.1,λh=>gW h⟩;have nx:∀{L':Ss} {w'},w' (71,[])=M (.l (L'.map .s))->L'.Nodup->(∀a∈L',jM a)->(∀x∈L,x∈L')->(s=sE->a∈L')->Fo i (j+1+1) L' w':=λ{L' w'} e1 e2 e3 e4 e5=>⟨e1,e2,e3,e4 _ F.aO,λk e x hk h1 h2=>by
  rcases hk with hk|⟨rfl,hk⟩
  .exact e4 _ (F.aK k e x (.inl hk) h1 h2)
  .by_cases c:e=j
   .subst c;exact aj (bF (ha.symm.trans h2)) (e5 (bF (hs.symm.trans h1)))
   .exact e4 _ (F.aK k e x (.inr ⟨Y,t7 (hO hk) λq=>c (pb q)⟩) h1 h2)⟩
 have rb:RT ⟨v,mix [71] w h,t⟩ (.fJ O (.c (.m .Eq (.s (.v 2) (.b .Sub (.v 3) (.cI 1))) (.cS "E")) (.c (.m .NotIn (.s (.v 2) (.v 3)) (.v 1)) .n))) (decide (s=sE/\a∉L)):=by
  have k:=uL (my r1 (bW (x:=sE))) (HY r2 (aG v1) F.aI (λy h=>(bX.mp h).elim λx k=>aj k.2 Y) Y);rw[mem]at k
  rwa [Qc,decide_not]
 refine jd rb (λc=>pJ Y Y (aG v1) F.aI r2 ?_ (aM (aM (q (L++[a]) _ (nx (bo.trans (aq (λx=>M (af.l x)) (dF (l₂:=[a])).symm)) (mK F.aF c.2) (λx hx=>(cZ.mp hx).elim (F.aC x) λh=>ak (bK.mp h) (.inr ⟨i,j,aj c.1 hs,ha⟩)) (λx=>dU _) λd=>dI _ (.head _)))))) λc=>aM (aM (q L w (nx F.aI F.aF F.aC (λx h=>h) λe=>AH λn=>c ⟨e,n⟩)));rw[bc];exact bM (ly F.aF λa ha=>oX (F.aC a ha)) (ao Y)
def alO(R:Ru h)(f:h (71,[])=U)(q:∀L w t',uM L->w (71,[])=M (.l (L.map .s))->Q (.e (71,[])) (mix [71] w h) t'):bO (n+1) (bS 10) [.e (69,[])] Q h t:=by
 refine f9 agJ Y (cF (fy (rl (aW bW bD) ⟨(ao Y),dQ (71,[]) Y f ?_⟩)));show WB _ _ _ ⟨aJ (λi=>([V.e (69,[])]++[])[i]?) 1 (.e (71,[])),h.aH (71,[]) (.l [.s "$end"]),t⟩;rw[mR (R:=[71]) Y];refine iW ((bQ (nG+1)).map λk=>.e (d8 k)) (λi K=>∃v w L,K=⟨v,mix [71] w h,t⟩/\v 0=M (.e (69,[]))/\v 1=M (.e (71,[]))/\Fo i 0 L w) (aG Y) (λi K J=>?_) ⟨_,_,[dP],Y,Y,Y,bo,iY.mpr ⟨λh=>bA h,gY⟩,λa ha=>.inl (bK.mp ha),.head _,λk e a h=>by rcases h with h|h;exact ax h (nC _);exact ax h.2 (nC _)⟩ (λi x K hx J=>?_) λK J=>?_
 .obtain⟨v,w,L,rfl,_⟩:=J;exact R.aC
 .obtain⟨v,w,L,rfl,v0,v1,F⟩:=J;obtain⟨k,hk,rfl⟩:=d7 hx;have lt:=(cG.mp hk).1
  rw[fP]at lt;rw[ny lt]at hk;obtain rfl:=bF hk;have hi:=hO lt
  have sl:=oV hi;have el:∀{w},(mix [71] w h) (d8 i)=M (.l ((ss i).map .s)):=λ{w}=>(show(mix [71] w h) (d8 i)=h (d8 i) by cases i<;>exact gU Y).trans (R.aF i hi)
  have ln:((ss i).map V.s).length=(ss i).length:=bc ..;refine alM (λj K=>∃v w L,K=⟨v,mix [71] w h,t⟩/\v 0=M (.e (69,[]))/\v 1=M (.e (71,[]))/\v 2=M (.e (d8 i))/\Fo i j L w) (aW bG (aW (ln▸qu (aG Y) el) bD)) sl.1 (dK (jV sl.2 (ao Y))) ⟨_,w,L,Y,v0,v1,Y,F.aI,F.aF,F.aC,F.aO,λk e a h=>F.aK k e a (h.imp id λh=>ax h.2 (aoT (Gj 1 e)))⟩ (λj K j1 lt J=>?_) λK J=>?_
  .obtain⟨v,w,L,rfl,v0,v1,v2,F⟩:=J;exact alN R hi j1 lt F v1 v2 Y λL' w' F'=>⟨_,w',L',Y,v0,v1,v2,F'⟩
  .obtain⟨v,w,L,rfl,v0,v1,v2,F⟩:=J;exact aM ⟨v,w,L,Y,v0,v1,F.aI,F.aF,F.aC,F.aO,λk e a h h1 h2=>F.aK k e a (h.elim (λh=>(yk.mp h).imp id λh=>⟨h,aj h (cG.mp h2).1⟩) λh=>ax h.2 (nC _)) h1 h2⟩
 .obtain⟨v,w,L,rfl,_,v1,F⟩:=J;rw[bc,fP]at F;refine kc (aG v1) (q L w t ⟨F.aF,λa=>⟨F.aC a,λb=>?_⟩⟩ F.aI);rcases b with rfl|⟨k,d,h1,h2⟩
  .exact F.aO
  .exact F.aK k d a (.inl (pX (xX h1))) h1 h2
end
def oh(N:Nat)(es:Es)(f:aP->Option V):Prop:=(es.map (·.1)).Nodup/\(∀k∈es.map (·.1),∃a,k=V.s a)/\(∀a,bI es (.s a)=f a)/\es.length<=N
section
variable{N:Nat} {es:Es} {f:aP->Option V} (hh:oh N es f)
def oh.aK:=hh.1
def oh.aI:=hh.2.1
def oh.aC:=hh.2.2.1
def oh.aF:=hh.2.2.2
end
noncomputable def wW(x:It)(a:aP):Option V:=if a=sE then U else(mv x a).map fW
noncomputable def fZ(x:It)(ah:It->Prop)(a:aP):Option V:=if(∃z,ah z/\sym z=M a)/\a≠sE then wW x a else U
noncomputable def yh(x:It):V:=.i (-(x.1:Int))
noncomputable def vp(x:It)(a:aP):Option V:=match mv x a with
 |none=>M (yh x)
 |some y=>if gh x.1 a=0 then M (fW y)else if gh x.1 a=2 then M .n else M (yh x)
noncomputable def lw(x:It)(a:aP):Option V:=if Rd x a then vp x a else if x.1=0/\sym x=U/\a=dP then M (.i 0)else wW x a
variable{x y z:It} {a s:aP} {es:Es} {f g:aP->Option V} {v:V} {ah Z':It->Prop}
section
variable{N:Nat}
def IT{c d:Prop} [Decidable c] [Decidable d]{a b:α}(h:c↔d):(if c then a else b)=if d then a else b:=by
 by_cases k:c
 .rw[aw k,aw (h.mp k)]
 .rw[au k,au λe=>k (h.mpr e)]
def oh.put(R:oh N es f)(hg:∀a,g a=if a=s then M v else f a):oh (N+1) (cX es (.s s) v) g:=⟨X0 R.aK,XZ R.aI,λa=>by
 rw[hg];by_cases c:a=s
 .rw[aw c,c];exact wy
 .rw[au c,rJ λe=>c (str_inj e).symm];exact R.aC a,wL R.aF⟩
def oh.eq(R:oh N es f)(h:∀a,f a=g a)(z:N<=ab):oh ab es g:=⟨R.aK,R.aI,λa=>(R.aC a).trans (h a),aV R.aF z⟩
def O9(m:Mn x)(hz:z∈stI x)(e:sym z=M s)(n:s≠sE)(h:∀y,Z' y↔ah y\/y=z)(a:aP):fZ x Z' a=if a=s then M (fW (z.1,z.2+1))else fZ x ah a:=by
 unfold fZ;by_cases c:a=s
 .subst c;rw[aw ⟨⟨z,(h z).mpr (.inr Y),e⟩,n⟩,aw Y,wW,au n,tF m hz e n];rfl
 .rw[au c];refine IT (and_congr ⟨λwz=>bT wz λy hy k=>?_,λwz=>bT wz λy hy k=>⟨y,(h y).mpr (.inl hy),k⟩⟩ Iff.rfl);rcases(h y).mp hy with hy|rfl
  .exact⟨y,hy,k⟩
  .exact ax (bF (k.symm.trans e)) c
def AA(h:∀y s,sym y=M s->s≠sE->(Z' y↔ah y))(a:aP):fZ x Z' a=fZ x ah a:=IT ⟨λw=>bT w.1 λy hy k=>⟨⟨y,(h y a k w.2).mp hy,k⟩,w.2⟩,λw=>bT w.1 λy hy k=>⟨⟨y,(h y a k w.2).mpr hy,k⟩,w.2⟩⟩
def Yx(h:∀z∈stI x,∀s,sym z=M s->s≠sE->ah z)(a:aP):fZ x ah a=wW x a:=by
 unfold fZ;by_cases c:(∃z,ah z/\sym z=M a)/\a≠sE
 .rw[aw c]
 .rw[au c,wW];by_cases e:a=sE
  .rw[aw e]
  .rw[au e];cases k:mv x a with
   |none=>rfl
   |some y=>refine fH (B9 k) λz hz hs b=>?_;exact ax ⟨⟨z,h z hz a hs e,hs⟩,e⟩ c
def Pa(b:jM a):a≠sE:=λe=>(by decide:∀a∈U1,a≠sE) a (oX b) e
def alP:mv x dP=U:=by
 cases k:mv x dP with
 |none=>rfl
 |some y=>refine fH (B9 k) λz a hs a=>?_;exact ax (tj hs) (ao Y)
end
def o7(x:It)(i:Nat)(L:Ss)(h:Hp):Prop:=Ru h/\(h (72,[])=M (.l ((bQ (nG+1)).map λk=>tp (pk k))))/\h (64,[])=M (.d gF)/\h (71,[])=M (.l (L.map .s))/\uM L/\Mn x/\∀k,i<=k->h (73,[k])=U/\h (74,[k])=U
section
variable{L:Ss} (hh:o7 x i L h)
def o7.aI:=hh.1
def o7.aO:=hh.2.1
def o7.bz:=hh.2.2.1
def o7.bb:=hh.2.2.2.1
def o7.aF:=hh.2.2.2.2.1
def o7.aC:=hh.2.2.2.2.2.1
def o7.aK:=hh.2.2.2.2.2.2
end
def Dv(x:It)(i:Nat)(v:Mp):Prop:=v 0=M (.e (69,[]))/\v 1=M (.e (72,[]))/\v 2=M (.e (64,[]))/\v 3=M (.e (71,[]))/\v 4=M (.i (x.1:Nat))/\v 5=M (.i (x.2:Nat))/\v 6=M (.e (d8 x.1))/\v 7=M (.e (73,[i]))/\v 8=M (.e (74,[i]))
section
variable{v:Mp} (hh:Dv x i v)
def Dv.bb:=hh.1
def Dv.d9:=hh.2.1
def Dv.cC:=hh.2.2.1
def Dv.bz:=hh.2.2.2.1
def Dv.aF:=hh.2.2.2.2.1
def Dv.aC:=hh.2.2.2.2.2.1
def Dv.aI:=hh.2.2.2.2.2.2.1
def Dv.aK:=hh.2.2.2.2.2.2.2.1
def Dv.aO:=hh.2.2.2.2.2.2.2.2
end
noncomputable abbrev dR:Nl:=[73,74]
def tO(i:Nat)(w:Hp):Prop:=∀k,i<k->w (73,[k])=U/\w (74,[k])=U
def oi(i:Nat)(N:Nat)(f:aP->Option V)(T:Ss)(w:Hp):Prop:=∃es,w (73,[i])=M (.d es)/\oh N es f/\w (74,[i])=M (.l (T.map .s))/\tO i w
def Z1(j:Nat)(z:It):Prop:=∃k,z=(k+1,0)/\k+1<j
def Zx(x z:It):Prop:=if sym x=M sE then z∈aL else z=x
def Z2(x:It)(j:Nat)(z:It):Prop:=Zx x z\/∃k,z=(k+1,1)/\k+1<j/\sy (k+1) 0=M sE
def g3(x:It)(L:Ss)(a:aP):Option V:=if a∈L then vp x a else wW x a
variable{v:Mp} {T:Ss} {y:V}
section
variable{N:Nat} {L:Ss}
def tO.p3{o:af}(F:tO i w):tO i (w.aH (73,[i]) o):=λk hk=>⟨(aQ λe=>fQ hk (d6 (cP e).2).1).trans (F k hk).1,(aQ (aU Y)).trans (F k hk).2⟩
def tO.p4{o:af}(F:tO i w):tO i (w.aH (74,[i]) o):=λk hk=>⟨(aQ (aU Y)).trans (F k hk).1,(aQ λe=>fQ hk (d6 (cP e).2).1).trans (F k hk).2⟩
theorem FY(R:Ru h)(hj:j<=nG):(mix dR w h) (d8 j)=M (.l ((ss j).map .s)):=(show(mix dR w h) (d8 j)=h (d8 j) by cases j<;>exact gU Y).trans (R.aF j hj)
def Dv.dw(V:Dv x i v)(h:Di 9 k=O):Dv x i (aJ v k y):=by have ne:∀j,Di j 8=O->aJ v k y j=v j:=λj hj=>au λe:j=k=>Jl 8 (aV (jo h) (aj e (jo hj)));exact⟨(ne 0 Y).trans V.bb,(ne 1 Y).trans V.d9,(ne 2 Y).trans V.cC,(ne 3 Y).trans V.bz,(ne 4 Y).trans V.aF,(ne 5 Y).trans V.aC,(ne 6 Y).trans V.aI,(ne 7 Y).trans V.aK,(ne 8 Y).trans V.aO⟩
def AB(V:Dv x i v)(D:oi i N f T w)(z:N<16777216)(hb:RE ⟨v,mix dR w h,t⟩ b (.s s))(he:RE ⟨v,mix dR w h,t⟩ e y)(hg:∀a,g a=if a=s then M y else f a)(q:∀w',oi i (N+1) g T w'->WB n r G ⟨v,mix dR w' h,t⟩):WB n (.c (.aaE (.v 7) b e) r) G ⟨v,mix dR w h,t⟩:=by refine pB D λes h1 R h2 h3=>?_;exact VK Y (aG V.aK) h1 hb he Y (bM R.aF z) (q _ ⟨_,bo,R.put hg,(aQ (aU Y)).trans h2,h3.p3⟩)
def Yy(hj:j<=nG):∃s,sy j 0=M s:=jy (oV hj).1
theorem alQ(P:o7 x i L h)(VV:Dv x i v)(hj:j<=nG)(e:sym x=M sE)(D:oi i j (fZ x (Z1 j)) [] w)(v9:v 9=M (.i (j:Nat)))(v10:v 10=M (.e (d8 j)))(q:∀w',oi i (j+1) (fZ x (Z1 (j+1))) [] w'->G .n ⟨v,mix dR w' h,t⟩):WB n Vg G ⟨v,mix dR w h,t⟩:=by
 refine oE (Yy hj) λs hs=>?_;have r:RE ⟨v,mix dR w h,t⟩ (.s (.v 10) (.cI 0)) (.s s):=dH (aG v10) bG (mj (FY P.aI hj) (fU hs))
 refine wB (Nc r (bW)) (λc=>?_) λc=>aM (aM (q w ?_))
 .cases j with
  |zero=>exact ax (M9 hs).2 c
  |succ k=>
   refine AB VV D (bM hj (jV kK.2 (ao Y))) r (jG (aW (aG v9) (aW bG bD)) (by decide:2<=16777216)) (O9 (z:=(k+1,0)) P.aC (ak (uO e) (.tail _ (wI.mpr ⟨k,hj,Y⟩))) hs c λy=>⟨λwz=>bT wz λl e1 lt=>?_,λd=>d.elim (λwz=>bT wz λl e1 lt=>⟨l,e1,sr lt⟩) λe1=>⟨k,e1,i7 _⟩⟩) λw' D'=>aM (aM (q w' D'))
   rcases yk.mp lt with lt|e2
   .exact .inl ⟨l,e1,lt⟩
   .exact .inr (e1.trans (by rw[e2]))
 .refine pB D λes h1 R h2 h3=>?_;refine⟨es,h1,R.eq (λa=>(AA (λy t hy n=>⟨λwz=>bT wz λl e1 lt=>?_,λwz=>bT wz λl e1 lt=>⟨l,e1,sr lt⟩⟩) a).symm) (l7 _),h2,h3⟩;rcases yk.mp lt with lt|e2
  .exact⟨l,e1,lt⟩
  .subst e1;rw[show sym (l+1,0)=sy (l+1) 0 from Y,e2,hs]at hy
   exact ax (bF hy).symm (ak c n)
theorem alR(P:o7 x i L h)(VV:Dv x i v)(hj:j<=nG)(b:bE x)(D:oi i (5+j) (fZ x (Z2 x j)) [] w)(v9:v 9=M (.i (j:Nat)))(v10:v 10=M (.e (d8 j)))(q:∀w',oi i (5+(j+1)) (fZ x (Z2 x (j+1))) [] w'->G .n ⟨v,mix dR w' h,t⟩):WB n Vh G ⟨v,mix dR w h,t⟩:=by
 refine oE (Yy hj) λs hs=>?_;have ln:((ss j).map V.s).length=(ss j).length:=bc ..
 have el:=FY (w:=w) P.aI hj;have r:RE ⟨v,mix dR w h,t⟩ (.s (.v 10) (.cI 0)) (.s s):=dH (aG v10) bG (mj el (fU hs))
 have rb:RT ⟨v,mix dR w h,t⟩ (.fJ O (.c (.m .Gt (.p .l (.c (.v 10) .n)) (.cI 1)) (.c (.m .Eq (.s (.v 10) (.cI 0)) (.cS "E")) .n))) (decide (1<(ss j).length/\s=sE)):=by
  have k:=uL (O1 (b:=1) (qu (aG v10) el) bG) (my r (bW (x:=sE)));rw[ln]at k
  rwa [Qc]
 refine jd rb (λc=>?_) λc=>aM (aM (q w ?_))
 .cases j with
  |zero=>exact ax c.1 (ao Y)
  |succ k=>
   refine oE (jy c.1) λa ha=>?_;have h0:sy (k+1) 0=M sE:=aj c.2 hs
   refine AB VV D (bM (gu (dK (bM hj kK.2)) 5) (ao Y)) (dH (aG v10) bG (mj el (fU ha))) (jG (aW (aG v9) (aW bG bD)) (by decide:2<=16777216)) (O9 (z:=(k+1,1)) P.aC (ak (rN b) (.tail _ (tE.mpr ⟨k,h0,Y⟩))) ha ((wD h0 ha).mp Y) λy=>⟨λd=>d.elim (λd=>.inl (.inl d)) λwz=>fH wz λl e1 lt e3=>?_,λd=>d.elim (λd=>d.imp id λwz=>fH wz λl e1 lt e3=>⟨l,e1,sr lt,e3⟩) λe1=>.inr ⟨k,e1,i7 _,h0⟩⟩) λw' D'=>aM (aM (q w' D'))
   rcases yk.mp lt with lt|e2
   .exact .inl (.inr ⟨l,e1,lt,e3⟩)
   .exact .inr (e1.trans (by rw[e2]))
 .refine pB D λes h1 R h2 h3=>?_;refine⟨es,h1,R.eq (λa=>(AA (λy t hy n=>⟨λd=>d.imp id λwz=>fH wz λl e1 lt e3=>?_,λd=>d.imp id λwz=>fH wz λl e1 lt e3=>⟨l,e1,sr lt,e3⟩⟩) a).symm) (l7 _),h2,h3⟩;rcases yk.mp lt with lt|e2
  .exact⟨l,e1,lt,e3⟩
  .subst e1;refine oE (VS e3) λx' Yz=>?_;rw[e2]at Yz e3;exact ax ⟨(cG.mp Yz).1,bF (hs.symm.trans e3)⟩ c
def alS:(pk k).1∈tB:=by
 cases k with
 |zero=>exact .tail _ (.head _)
 |succ k=>exact VU.1
def IU:gh k a=if(pq a).2<(pk k).2\/(pq a).2=(pk k).2/\(pk k).1="left" then 1 else if(pq a).2=(pk k).2/\(pk k).1="nonassoc" then 2 else 0:=by
 unfold gh;generalize(pq a).2=p;generalize hq:(pk k).2=r;have w:=alS (k:=k)
 generalize(pk k).1=u at w⊢;rcases PV p r with lt|rfl|lt
 .rw[au λe=>e.elim (λe=>aam lt e) λe=>gZ lt e.1,au λe=>gZ lt e.1,aw (.inl lt)]
 .rcases cU.mp w with rfl|w
  .rw[au λe=>e.elim (dq _) λe=>ax e.2 (ao Y),au λe=>ax e.2 (ao Y),aw (.inr ⟨Y,Y⟩)]
  rcases cU.mp w with rfl|w
  .rw[aw (.inr ⟨Y,Y⟩),au λe=>e.elim (dq _) λe=>ax e.2 (ao Y),au λe=>ax e.2 (ao Y)]
  .obtain rfl:=bK.mp w;rw[au λe=>e.elim (dq _) λe=>ax e.2 (ao Y),aw ⟨Y,Y⟩,au λe=>e.elim (dq _) λe=>ax e.2 (ao Y),aw ⟨Y,Y⟩]
 .rw[aw (.inl lt),au λe=>e.elim (λe=>aam lt e) λe=>fQ lt e.1,au λe=>fQ lt e.1]
end
def sf(x:It)(L T:Ss):Prop:=T.Nodup/\∀a,a∈T↔a∈L/\Told x a
section
variable{L T:Ss} (hh:sf x L T)
def sf.aF:=hh.1
def sf.aC:=hh.2
end
variable{y:It} {z:V}
section
variable{N:Nat} {L:Ss}
def IV(hs:L[j]?=M s)(hv:vp x s=M z)(a:aP):g3 x (L.take (j+1)) a=if a=s then M z else g3 x (L.take j) a:=by
 unfold g3;rw[take_snoc hs];by_cases c:a=s
 .subst c;rw[aw (dI _ (.head _)),aw Y,hv]
 .rw[au c];exact IT ⟨λh=>(cZ.mp h).resolve_right λh=>c (bK.mp h),λh=>dU _ h⟩
def sf.no(D:sf x (L.take j) T)(hs:L[j]?=M s)(n:¬Told x s):sf x (L.take (j+1)) T:=⟨D.aF,λa=>(D.aC a).trans (by rw[take_snoc hs];exact⟨λk=>⟨dU _ k.1,k.2⟩,λk=>⟨(cZ.mp k.1).resolve_right λh=>n (aj (bK.mp h) k.2),k.2⟩⟩)⟩
def sf.yes(D:sf x (L.take j) T)(nd:L.Nodup)(hs:L[j]?=M s)(y:Told x s):sf x (L.take (j+1)) (T++[s]):=⟨mK D.aF λk=>pK nd hs ((D.aC s).mp k).1,λa=>cZ.trans (by
 rw[take_snoc hs];exact⟨λk=>k.elim (λk=>⟨dU _ ((D.aC a).mp k).1,((D.aC a).mp k).2⟩) λk=>by obtain rfl:=bK.mp k;exact⟨dI _ (.head _),y⟩,λk=>(cZ.mp k.1).imp (λh=>(D.aC a).mpr ⟨h,k.2⟩) id⟩)⟩
def alT(hk:(K.h) (64,[])=M (.d gF))(v2:K.m 2=M (.e (64,[])))(hb:RE K b (.s s)):RE K (.sM (.m .In b (.v 2)) (.s (.s (.v 2) b) (.cI 1)) (.cI 0)) (.i ((pq s).2:Nat)):=by
 have t:=sY hb (aG v2) hk Y;cases k:kn s with
 |none=>
  have e:=zY.trans (aq (Go tp) k);rw[e]at t;have w:=FX (x:=.i ((pq s).2)) (b:=.s (.s (.v 2) b) (.cI 1)) t (λe=>b9 e) λa=>bG (i:=0)
  rw[show(pq s).2=0 by unfold pq;rw[k];rfl]at w⊢
  exact w
 |some p=>
  have e:=zY.trans (aq (Go tp) k);rw[e]at t;have w:=FX (x:=.i ((pq s).2)) t (λa=>dH (dH (aG v2) hb (ig hk Y e)) bG (yV (j:=1) (by unfold pq;rw[k];rfl))) λa=>bG (i:=0)
  exact w
def alU(P:o7 x i L h)(VV:Dv x i v)(x0:x.1≠0)(hx:sym x=U)(hs:L[j]?=M s)(D:oi i (10+j) (g3 x (L.take j)) T w)(DT:sf x (L.take j) T)(v11:v 11=M (.s (pk x.1).1))(fA:v 12=M (.i ((pk x.1).2:Nat)))(oe:v 13=M (.s s))(gc:∀K,G .n K->G .c K)
 (q:∀v' w' T',Dv x i v'->v' 11=M (.s (pk x.1).1)->v' 12=M (.i ((pk x.1).2:Nat))->oi i (10+(j+1)) (g3 x (L.take (j+1))) T' w'->sf x (L.take (j+1)) T'->G .n ⟨v',mix dR w' h,t⟩):WB n Vi G ⟨v,mix dR w h,t⟩:=by
 have b:=(P.aF.2 s).mp (cO hs);have n9:=Pa b
 have rd:Rd x s:=⟨x0,hx,b⟩;have L8:L.length<=9:=aV (ly P.aF.1 λa ha=>oX ((P.aF.2 a).mp ha)) (ao Y)
 have z:10+j<16777216:=dJ (Nat.add_lt_add_left (dJ (cG.mp hs).1 L8) 10) (ao Y);have g0:g3 x (L.take j) s=(mv x s).map fW:=(au (pK P.aF.1 hs)).trans (au n9)
 have kl:∀{es},(∀a,bI es (.s a)=g3 x (L.take j) a)->bI es (.s s)=(mv x s).map fW:=λk=>(k s).trans g0;have ng:∀{v:Mp} {w},v 4=M (.i (x.1))->RE ⟨v,mix dR w h,t⟩ (.q (.v 4)) (yh x):=λe=>rD (aG e)
 have Pb:gh x.1 s≠0\/mv x s=U->¬Told x s:=λe k=>e.elim (λe=>e k.2.2.1) λe=>k.2.1.elim λy h=>cW (e.symm.trans h);refine pB D λes h1 R h2 h3=>?_;have tn:=wu (aG (K:=⟨v,mix dR w h,t⟩) oe) (aG VV.aK) h1 Y
 rw[kl R.aC]at tn;cases hm:mv x s with
 |none=>
  rw[hm]at tn;have e:vp x s=M (yh x):=by unfold vp;rw[hm]
  exact gN tn (AB VV ⟨es,h1,R,h2,h3⟩ z (aG oe) (ng VV.aF) (IV hs e) λw' D'=>zC (gc _ (q v w' T VV v11 fA D' (DT.no hs (Pb (.inr hm))))))
 |some y=>
  rw[hm]at tn;have er:vp x s=if gh x.1 s=0 then M (fW y)else if gh x.1 s=2 then M .n else M (yh x):=by unfold vp;rw[hm]
  refine eC tn (aM (eZ (alT P.bz VV.cC (aG oe)) ?_));show WB n _ _ ⟨aJ v 14 (.i ((pq s).2)),mix dR w h,t⟩;have tQ:Dv x i (aJ v 14 (.i ((pq s).2))):=VV.dw Y
  have pO:(aJ v 14 (.i ((pq s).2))) 13=M (.s s):=oe;have IW:(aJ v 14 (.i ((pq s).2))) 14=M (.i ((pq s).2)):=Y
  have qX:(aJ v 14 (.i ((pq s).2))) 11=M (.s (pk x.1).1):=v11;have wX:(aJ v 14 (.i ((pq s).2))) 12=M (.i ((pk x.1).2)):=fA
  generalize aJ v 14 (.i ((pq s).2))=v' at tQ qX wX pO IW⊢;have t1:RT ⟨v',mix dR w h,t⟩ (.fJ Z (.c (.m .Lt (.v 14) (.v 12)) (.c (.fJ O (.c (.m .Eq (.v 14) (.v 12)) (.c (.m .Eq (.v 11) (.cS "left")) .n))) .n))) (decide ((pq s).2<(pk x.1).2\/(pq s).2=(pk x.1).2/\(pk x.1).1="left")):=by rw[Bool.decide_or,Qc];exact Ii (Ax (aG IW) (aG wX)) (uL (Cx (aG IW) (aG wX)) (my (aG qX) bW))
  have t2:RT ⟨v',mix dR w h,t⟩ (.fJ O (.c (.m .Eq (.v 14) (.v 12)) (.c (.m .Eq (.v 11) (.cS "nonassoc")) .n))) (decide ((pq s).2=(pk x.1).2/\(pk x.1).1="nonassoc")):=by rw[Qc];exact uL (Cx (aG IW) (aG wX)) (my (aG qX) bW)
  refine jd t1 (λc=>?_) λc=>?_
  .have d1:=IU.trans (aw c);rw[d1,au (ao Y),au (ao Y)]at er;exact AB tQ ⟨es,h1,R,h2,h3⟩ z (aG pO) (ng tQ.aF) (IV hs er) λw' D'=>aM (aM (q v' w' T tQ qX wX D' (DT.no hs (Pb (.inl (by rw[d1];decide))))))
  refine jd t2 (λc2=>?_) λc2=>?_
  .have d1:=IU.trans ((au c).trans (aw c2));rw[d1,au (ao Y),aw Y]at er;exact AB tQ ⟨es,h1,R,h2,h3⟩ z (aG pO) uo (IV hs er) λw' D'=>aM (aM (aM (q v' w' T tQ qX wX D' (DT.no hs (Pb (.inl (by rw[d1];decide)))))))
  .have d1:=IU.trans ((au c).trans (au c2));rw[d1,aw Y]at er;have R':oh (10+(j+1)) es (g3 x (L.take (j+1))):=R.eq (λa=>by
    rw[IV hs er];by_cases c:a=s
    .rw[aw c,c,g0,hm];rfl
    .rw[au c]) (l7 _)
   have T8:T.length<=9:=aV (ly DT.aF λa ha=>oX ((DT.aC a).mp ha).2.1.2.2) (ao Y);refine jd (Cx (aG wX) bG) (λc3=>pJ Y Y (aG tQ.aO) h2 (aG pO) (by rw[bc];exact bM T8 (ao Y)) (aM (aM (aM (aM (q v' _ (T++[s]) tQ qX wX ⟨es,(aQ (aU Y)).trans h1,R',bo.trans (aq (λx=>M (af.l x)) (dF (l₂:=[s])).symm),h3.p4⟩ (DT.yes P.aF.1 hs ⟨rd,⟨y,hm⟩,d1,c3⟩))))))) λc3=>aM (aM (aM (aM (q v' w T tQ qX wX ⟨es,h1,R',h2,h3⟩ (DT.no hs λk=>c3 k.2.2.2)))))
end
def wY(x:It)(i:Nat)(T:Ss)(w:Hp):Prop:=(∃es,w (73,[i])=M (.d es)/\oh 30 es (lw x))/\w (74,[i])=M (.l (T.map .s))/\T.Nodup/\(∀a,a∈T↔Told x a)/\tO i w
variable(hh:wY x i T w)
def wY.aO:=hh.1
def wY.aK:=hh.2.1
def wY.aF:=hh.2.2.1
def wY.aC:=hh.2.2.2.1
def wY.aI:=hh.2.2.2.2
section
variable{N:Nat} {L:Ss}
def oi.eq(D:oi i N f T w)(h:∀a,f a=g a)(z:N<=ab):oi i ab g T w:=by refine pB D λes h1 R h2 h3=>?_;exact⟨es,h1,R.eq h z,h2,h3⟩
def YA(P:o7 x i L h)(VV:Dv x i v)(D:oi i 10 (wW x) [] w)(q:∀w T t',wY x i T w->Q (V.cq [.e (73,[i]),.e (74,[i])]) (mix dR w h) t'):WB n (Sx.gG 5 ML) (Rt Q) ⟨v,mix dR w h,t⟩:=by
 have ln:((ss x.1).map V.s).length=(ss x.1).length:=bc ..;have el:=FY (w:=w) P.aI P.aC.aC
 have rr:∀{v w},Dv x i v->RE ⟨v,mix dR w h,t⟩ (.t (.c (.v 7) (.c (.v 8) .n))) (V.cq [.e (73,[i]),.e (74,[i])]):=λVV=>jG (aW (aG VV.aK) (aW (aG VV.aO) bD)) (by decide:2<=16777216)
 refine jd (Cx (aG VV.aC) (ln▸qu (aG VV.aI) el)) (λc=>?_) λc=>aM (kc (rr VV) ?_)
 .have hx:=jj.mpr (gy c.symm);refine jd (Cx (aG VV.aF) bG) (λx0=>?_) λx0=>aM ?_
  .refine AB (g:=lw x) VV D (by decide) bW bG (λa=>?_) λw' D'=>kc (rr VV) ?_
   .unfold lw;rw[au λk:Rd x a=>k.1 x0];exact IT ⟨λk=>k.2.2,λk=>⟨x0,hx,k⟩⟩
   .refine pB D' λes h1 R h2 h3=>?_;exact q w' [] t ⟨⟨es,h1,R.eq (λd=>Y) (by decide)⟩,h2,gY,λa=>⟨λk=>bA k,λk=>ax x0 k.1.1⟩,h3⟩
  .refine hM (xN (re (dH (aG VV.d9) (aG VV.aF) (mj (P.aO) (fU (ny (pX P.aC.aC))))) ⟨[.s (pk x.1).1,.i ((pk x.1).2)],Y,Y,?_⟩));have L8:L.length<=9:=aV (ly P.aF.1 λa ha=>oX ((P.aF.2 a).mp ha)) (by decide)
   refine iW (L.map .s) (λj K=>∃v w T,K=⟨v,mix dR w h,t⟩/\Dv x i v/\v 11=M (.s (pk x.1).1)/\v 12=M (.i ((pk x.1).2))/\oi i (10+j) (g3 x (L.take j)) T w/\sf x (L.take j) T) (aG VV.bz) (λj K J=>?_) ⟨_,w,[],Y,(VV.dw Y).dw Y,Y,Y,D.eq (λa=>(au λk=>bA k).symm) (b8 _),gY,λa=>⟨λk=>bA k,λk=>ax k.1 λk=>bA k⟩⟩ (λj y K hy J=>?_) λK J=>?_
   .obtain⟨v,w,T,rfl,_⟩:=J;exact P.bb
   .obtain⟨v,w,T,rfl,VV,v11,fA,D,DT⟩:=J;obtain⟨s,hs,rfl⟩:=d7 hy;exact alU P (VV.dw Y) x0 hx hs D DT v11 fA Y (λK h=>h) λv' w' T' tQ a b D' DT'=>⟨v',w',T',Y,tQ,a,b,D',DT'⟩
   .obtain⟨v,w,T,rfl,VV,v11,fA,D,DT⟩:=J;rw[bc]at D DT;rw[iu]at D DT;refine pB D λes h1 R h2 h3=>?_;refine aM (kc (rr VV) (q w T t ⟨⟨es,h1,R.eq (λa=>?_) (aV (gu L8 10) (by decide))⟩,h2,DT.aF,λa=>(DT.aC a).trans ⟨λk=>k.2,λk=>⟨(P.aF.2 a).mpr k.1.2.2,k⟩⟩,h3⟩))
    unfold g3 lw;by_cases c:a∈L
    .rw[aw c,aw (⟨x0,hx,(P.aF.2 a).mp c⟩)]
    .rw[au c,au λk:Rd x a=>c ((P.aF.2 a).mpr k.2.2),au λk:x.1=0/\_=>x0 k.1]
 .refine pB D λes h1 R h2 h3=>?_;have hx:=λe=>c (pY P.aC.aF (jj.mp e))
  refine q w [] t ⟨⟨es,h1,R.eq (λa=>?_) (by decide)⟩,h2,gY,λa=>⟨λk=>bA k,λk=>ax k.1.2.1 hx⟩,h3⟩
  unfold lw;rw[au λk:Rd x a=>hx k.2.1,au λk:x.1=0/\sym x=U/\a=dP=>hx k.2.1]
def alW(P:o7 x i L h)(VV:Dv x i v):RT ⟨v,mix dR w h,t⟩ (.fJ O (.c (.m .Gt (.v 5) (.cI 0)) (.c (.m .Eq (.s (.v 6) (.b .Sub (.v 5) (.cI 1))) (.cS "E")) .n))) (decide (bE x)):=Bt λn PP q=>by
 have g:=O1 (b:=0) (K:=⟨v,mix dR w h,t⟩) (aG VV.aC) bG;by_cases c:0<x.2
 .rw[az c]at g;obtain⟨d,hd⟩:∃d,x.2=d+1:=⟨x.2-1,(Gf c).symm⟩;refine oE (jy (j:=d) (dJ (hd▸i7 d) P.aC.aF)) λs hs=>?_;have v5:=hd▸VV.aC
  refine Bs g (Br (my (dH (aG VV.aI) (succ_sub d▸jv (aG v5) bG xG) (mj (FY P.aI P.aC.aC) (fU hs))) (bW (x:=sE))) ?_);have e:decide (s=sE)=decide (bE x):=decide_eq_decide.mpr ⟨λk=>⟨c,ak hd (hs.trans (aq M k))⟩,λk=>by have k:=k.2;rw[hd]at k;exact bF (hs.symm.trans k)⟩
  exact ak e q
 .rw[aA c]at g;refine xJ g ?_
  rwa [aA λk:bE x=>c k.1]at q
def YB{y:V}(hy:((bQ (nG+1)).map λk=>V.e (d8 k))[j]?=M y):j<=nG/\y=.e (d8 j):=by
 obtain⟨k,hk,rfl⟩:=d7 hy;have lt:=(cG.mp hk).1
 rw[fP]at lt;rw[ny lt]at hk;obtain rfl:=bF hk;exact⟨hO lt,Y⟩
theorem Pc(P:o7 x i L h)(VV:Dv x i v)(D:oi i 5 (fZ x (Zx x)) [] w)(q:∀w T t',wY x i T w->Q (V.cq [.e (73,[i]),.e (74,[i])]) (mix dR w h) t'):WB n (Sx.gG 4 ML) (Rt Q) ⟨v,mix dR w h,t⟩:=by
 have ln:((bQ (nG+1)).map λk=>V.e (d8 k)).length=nG+1:=by rw[bc,fP]
 refine jd (alW P VV) (λb=>?_) λb=>aM (YA P VV (D.eq (λa=>Yx (λz hz s hs n=>?_) a) (ao Y)) q)
 .refine BW ((bQ (nG+1)).map λk=>.e (d8 k)) (λj K=>∃v w,K=⟨v,mix dR w h,t⟩/\Dv x i v/\oi i (5+j) (fZ x (Z2 x j)) [] w) (aG VV.bb) (λj K J=>?_) ⟨_,w,Y,VV,D.eq (λa=>(AA (λy s c c=>⟨λk=>k.elim id λwz=>fH wz λk c h c=>ax h (nC _),.inl⟩) a).symm) (b8 _)⟩ (λj y K hy J=>?_) λK J=>?_
  .obtain⟨v,w,rfl,_⟩:=J;exact P.aI.aC
  .obtain⟨v,w,rfl,VV,D⟩:=J;obtain⟨hj,rfl⟩:=YB hy;exact alR P ((VV.dw Y).dw Y) hj b D Y Y λw' D'=>⟨_,w',Y,(VV.dw Y).dw Y,D'⟩
  .obtain⟨v,w,rfl,VV,D⟩:=J;rw[ln]at D;refine aM (YA P VV (D.eq (λa=>Yx (λz hz s hs n=>?_) a) (gu (ZP kK.2) 5)) q);rw[rN b]at hz;rcases cU.mp hz with rfl|hz
   .refine .inl ?_;unfold Zx;rw[au λe=>n (bF (hs.symm.trans e))]
   .obtain⟨k,h0,rfl⟩:=tE.mp hz;exact .inr ⟨k,Y,pX (xX h0),h0⟩
 .unfold Zx;by_cases e:sym x=M sE
  .rw[aw e];rw[uO e]at hz;rcases cU.mp hz with rfl|hz
   .exact ax (bF (hs.symm.trans e)) n
   .exact hz
  .rw[au e];rw[Ft b e]at hz;exact bK.mp hz
def alX(P:o7 x i L h)(q:∀w T t',wY x i T w->Q (V.cq [.e (73,[i]),.e (74,[i])]) (mix dR w h) t'):bO (n+1) (bS 11) [.e (69,[]),.e (72,[]),.e (64,[]),.e (71,[]),.i (x.1:Nat),.i (x.2:Nat)] Q h t:=by
 have ln:((ss x.1).map V.s).length=(ss x.1).length:=bc ..;have lr:((bQ (nG+1)).map λk=>V.e (d8 k)).length=nG+1:=by rw[bc,fP]
 have f:=P.aK i (b8 i);refine f9 agK Y (eZ (dH (aG Y) (aG Y) (mj P.aI.aC (fU (ny (pX P.aC.aC))))) (cF (mO (dQ (73,[i]) Y f.1 (cF (fy (eV ⟨b7 _,dQ (74,[i]) Y (show h.aH (73,[i]) (.d []) (74,[i])=U from(aQ (aU Y)).trans f.2) ?_⟩)))))))
 show WB n _ _ ⟨aJ (aJ (aJ (λk=>([V.e (69,[]),.e (72,[]),.e (64,[]),.e (71,[]),.i (x.1),.i (x.2)]++[])[k]?) 6 (.e (d8 x.1))) 7 (.e (73,[i]))) 8 (.e (74,[i])),(h.aH (73,[i]) (.d [])).aH (74,[i]) (.l []),t⟩;have VV:Dv x i (aJ (aJ (aJ (λk=>([V.e (69,[]),.e (72,[]),.e (64,[]),.e (71,[]),.i (x.1),.i (x.2)]++[])[k]?) 6 (.e (d8 x.1))) 7 (.e (73,[i]))) 8 (.e (74,[i]))):=⟨Y,Y,Y,Y,Y,Y,Y,Y,Y⟩
 generalize aJ (aJ (aJ _ 6 _) 7 _) 8 _=v at VV⊢;rw[mR (R:=dR) (h:=h) Y,bJ Y];have D0:oi i 0 (fZ x λb=>False) [] ((h.aH (73,[i]) (.d [])).aH (74,[i]) (.l [])):=⟨[],(aQ (aU Y)).trans bo,⟨gY,λk h=>bA h,λa=>(au λk=>k.1.elim λz h=>h.1).symm,b8 _⟩,bo,tO.p4 (tO.p3 λk hk=>P.aK k (dK hk))⟩
 generalize(h.aH (73,[i]) (.d [])).aH (74,[i]) (.l [])=w at D0⊢;have el:=FY (w:=w) P.aI P.aC.aC
 refine jd (Ax (aG VV.aC) (ln▸qu (aG VV.aI) el)) (λc=>?_) λc=>aM (Pc P VV (D0.eq (λa=>(AA (λy s hy n=>⟨λk=>?_,Qq⟩) a).symm) (by decide)) q)
 .refine oE (jy c) λs hs=>?_;have hx:=hs
  have rs:RE ⟨v,mix dR w h,t⟩ (.s (.v 6) (.v 5)) (.s s):=dH (aG VV.aI) (aG VV.aC) (mj el (fU hs));refine jd (my rs (bW)) (λe=>?_) λe=>?_
  .have hE:sym x=M sE:=hx.trans (aq M e);refine BW ((bQ (nG+1)).map λk=>.e (d8 k)) (λj K=>∃v w,K=⟨v,mix dR w h,t⟩/\Dv x i v/\oi i j (fZ x (Z1 j)) [] w) (aG VV.bb) (λj K J=>?_) ⟨_,w,Y,VV,D0.eq (λa=>(AA (λy s b b=>⟨λwz=>bT wz λk b h=>ax h (nC _),Qq⟩) a).symm) (b8 _)⟩ (λj y K hy J=>?_) λK J=>?_
   .obtain⟨v,w,rfl,_⟩:=J;exact P.aI.aC
   .obtain⟨v,w,rfl,VV,D⟩:=J;obtain⟨hj,rfl⟩:=YB hy;exact alQ P ((VV.dw Y).dw Y) hj hE D Y Y λw' D'=>⟨_,w',Y,(VV.dw Y).dw Y,D'⟩
   .obtain⟨v,w,rfl,VV,D⟩:=J;rw[lr]at D;refine aM (aM (Pc P VV (D.eq (λa=>(AA (λy s b b=>?_) a).symm) kK.2) q));unfold Zx Z1;rw[aw hE];exact wI.trans ⟨λwz=>bT wz λk lt e=>⟨k,e,vE lt⟩,λwz=>bT wz λk e lt=>⟨k,Zv lt,e⟩⟩
  .have nE:sym x≠M sE:=λk=>e (bF (hx.symm.trans k));refine AB VV D0 (by decide) rs (jG (aW (aG VV.aF) (aW (jv (aG VV.aC) bG qm) bD)) (by decide:2<=16777216)) (O9 P.aC Ah hx e λy=>⟨.inr,λk=>k.elim Qq id⟩) λw' D'=>aM (aM (Pc P VV (D'.eq (λa=>(AA (λy s b b=>?_) a).symm) (by decide)) q))
   unfold Zx;rw[au nE]
 .unfold Zx at k;have n1:sym x=U:=jj.mpr (iP.mp c)
  rw[au λe=>cW (n1.symm.trans e)]at k;exact cW (n1.symm.trans (k▸hy))
end
variable{m l r f:Nat} {R:Nat->Nat->Prop} {I:bL->Prop} {cmp:Nat->Nat->(Bool->bL->Prop)->bL->Prop} {p:Array Nat} {s:bL}
section
variable{lt:Nat->Nat->Prop}
noncomputable def gp(p:Array Nat)(i:Nat):Nat:=p.getD i 0
def lY(n:Nat)(p:Array Nat):Prop:=p.Perm (aai (bQ n))
def Ch(R:Nat->Nat->Prop)(p:Array Nat)(m:Nat):Prop:=∀i j,i<j->j<m->R (gp p i) (gp p j)
structure AD(n:Nat)(lt:Nat->Nat->Prop)(I:bL->Prop)(cmp:Nat->Nat->(Bool->bL->Prop)->bL->Prop):Prop where
 aC:∀{i j k},lt i j->lt j k->lt i k
 aK:∀{i j},lt i j->¬lt j i
 aI:∀{i j},i<n->j<n->i≠j->lt i j\/lt j i
 aF:∀{i j C s},i<n->j<n->i≠j->I s->(lt i j->∀s',I s'->C O s')->(¬lt i j->∀s',I s'->C Z s')->cmp i j C s
def IY(h:i<p.size):p[i]?=M (gp p i):=by unfold gp;rw[Zl,Zn h];rfl
def IZ{q:Array Nat}(h:q[i]?=p[j]?):gp q i=gp p j:=by unfold gp;rw[Zl,Zl,h]
def yi(af:lY n p):p.size=n:=(Array.Perm.size_eq af).trans (by rw[q8,fP])
def o8(af:lY n p)(h:i<n):gp p i<n:=by have e:=cO (aj si.symm (IY (aj (yi af).symm h)));exact j4.mp ((PI.mp af).mem_iff.mp e)
def yj(af:lY n p)(hi:i<n)(hj:j<n)(ne:i≠j):gp p i≠gp p j:=λe=>by
 have nd:=(PI.mp af).nodup_iff.mpr AO;have li:=(AL).symm▸(yi af).symm▸hi
 exact ne ((ua li nd).mp (by rw[si,si,IY (aj (yi af).symm hi),IY (aj (yi af).symm hj),e]))
def Ch.Pe(tr:∀{i j k},R i j->R j k->R i k)(h:Ch R p m)(m1:1<=m)(q:R (gp p (m-1)) (gp p m)):Ch R p (m+1):=λi j mG hj=>by
 rcases yk.mp hj with hj|rfl
 .exact h i j mG hj
 .rcases ZL (ZB mG)with c|rfl
  .exact tr (h i (j-1) c (xg m1 pd)) q
  .exact q
def Ch.oM:Ch R p 1:=λi j mG hj=>ax (dJ mG (hO hj)) (nC i)
def YC(T:AD n lt I cmp)(af:lY n p){Q:Nat->bL->Prop}:∀f m s,1<=m->m+f=n->Ch lt p m->I s->(∀m' s',I s'->m<=m'->m'<=n->Ch lt p m'->(m'<n->lt (gp p m') (gp p (m'-1)))->Q m' s')->(kas_asc p f m).kasWp cmp Q s:=by
 intro f
 induction f with
 |zero=>exactλm s m1 z C i q=>q m s i (b8 _) (gy z) C λh=>ax h (aoT (gy z.symm))
 |succ f ih=>
  intro m s m1 z C i q;have mn:=dJ (pX (mI m f)) (gy z)
  have pn:=bM (AX m 1) mn;have d:=fQ (xg m1 pd)
  refine T.aF (o8 af mn) (o8 af pn) (yj af mn pn d) i (λh s' i'=>?_) λh s' i'=>?_
  .show(if O=O then KasT.ret m else kas_asc p f (m+1)).kasWp cmp Q s';rw[aw Y];exact q m s' i' (b8 _) (dK mn) C λg=>h
  .show(if Z=O then KasT.ret m else kas_asc p f (m+1)).kasWp cmp Q s';rw[au dZ];exact ih (m+1) s' (jZ m1) ((PK m f).trans z) (C.Pe T.aC m1 ((T.aI (o8 af pn) (o8 af mn) (yj af pn mn d.symm)).resolve_right h)) i' λm' s' i' a b c e=>q m' s' i' (rh a) b c e
def alY(T:AD n lt I cmp)(af:lY n p){Q:Array Nat×Nat×Nat->bL->Prop}:∀f m s,1<=m->m+f=n->Ch (λi j=>lt j i) p m->I s->(∀m' s',I s'->m<=m'->m'<=n->Ch (λi j=>lt j i) p m'->Q (p,m',0) s')->(kas_desc f p m 0).kasWp cmp Q s:=by
 intro f
 induction f with
 |zero=>exactλm s m1 z C i q=>q m s i (b8 _) (gy z) C
 |succ f ih=>
  intro m s m1 z C i q;have mn:=dJ (pX (mI m f)) (gy z)
  have pn:=bM (AX m 1) mn;have d:=fQ (xg m1 pd)
  refine T.aF (o8 af mn) (o8 af pn) (yj af mn pn d) i (λh s' i'=>?_) λh s' i'=>?_
  .exact ih (m+1) s' (jZ m1) ((PK m f).trans z) (C.Pe (λa b=>T.aC b a) m1 h) i' λm' s' i' a b c=>q m' s' i' (rh a) b c
  .exact T.aF (o8 af pn) (o8 af mn) (yj af pn mn d.symm) i' (λe s' i'=>q m s' i' (b8 _) (dK mn) C) λh'=>ax (T.aI (o8 af pn) (o8 af mn) (yj af pn mn d.symm)) λc=>c.elim h' h
def YD(hm:m<=p.size)(h:i<m):gp (kas_rev p 0 m) i=gp p (m-1-i):=by
 refine IZ ((getElem?_mirror hm ((m-0)/2) (Nat.mul_div_le _ 2) i).trans ?_);by_cases c:(0<=i/\i<0+(m-0)/2)\/(m-(m-0)/2<=i/\i<m)
 .rw[aw c,ro]
 .rw[au c];have h1:m/2<=i:=iP.mp λk=>c (.inl ⟨b7 _,aj (ro (m/2)).symm k⟩)
  have h2:i+m/2<m:=Nat.add_lt_of_lt_sub (Gp.mp λk=>c (.inr ⟨k,h⟩));have h3:m<2*(m/2+1):=Nat.lt_mul_div_succ m AV
  generalize m/2=q at h1 h2 h3;rw[Nat.two_mul]at h3;have h4:i=q:=pY (hO (Nat.lt_of_add_lt_add_right (dJ h2 (hO h3)))) h1
  subst h4;have h5:m=i+i+1:=pY (hO (dJ h3 (gy (aal i (i+1))))) h2
  rw[h5,PU,PU]
def alZ(af:lY n p):lY n (kas_rev p 0 m):=(mirror_perm ..).trans af
def al0(hm:m<=p.size)(C:Ch (λi j=>lt j i) p m):Ch lt (kas_rev p 0 m) m:=λi j mG hj=>by rw[YD hm (jV mG hj),YD hm hj];exact C _ _ (ZF (dJ mG (ZB hj)) mG) (bM (AX ..) (xg (aoN hj) pd))
def al1(T:AD n lt I cmp)(af:lY n p)(n2:2<=n){Q:Nat×Array Nat->bL->Prop}(i:I s)(q:∀m p' s',I s'->1<=m->m<=n->lY n p'->Ch lt p' m->Q (m,p') s'):(kas_count n p).kasWp cmp Q s:=by
 unfold kas_count;rw[Jx];refine YC T af (n-1) 1 s (b8 _) (CV (rh n2)) Ch.oM i λm s i a b c e=>?_;by_cases c1:(m==n)=O
 .rw[aw c1];exact q m p s i a b af c
 .rw[au c1];have mn:=t7 b λh=>c1 (beq_iff_eq.mpr h)
  have pn:=bM (AX m 1) mn;by_cases c2:m>1
  .rw[aw c2];have p1:=Nat.sub_pos_of_lt c2
   have l0:=c 0 (m-1) p1 (xg a pd);exact T.aF (o8 af (dJ AV n2)) (o8 af pn) (yj af (dJ AV n2) pn (gZ p1)) i (λd s i=>q m p s i a b af c) λh=>ax l0 h
  .rw[au c2];obtain rfl:m=1:=pY (iP.mp c2) a;unfold kas_descPart;rw[Jx];refine alY T af (n-(1+1)) (1+1) s (ao Y) (CV n2) (Ch.Pe (λa b=>T.aC b a) Ch.oM (b8 _) (e mn)) i λm' s i a b c=>?_;rw[au (dq 0)];unfold kas_tail3;rw[Jx];have O':=alZ (m:=m') af
   exact YC T O' (n-m') m' s (rh a) (CV b) (al0 (aj (yi af).symm b) c) i λm s i a' b' c' d=>q m _ s i (aV (rh a) a') b' O' c'
def al2(T:AD n lt I cmp)(af:lY n p)(C:Ch lt p k)(kn:k<n){Q:Nat->bL->Prop}:∀f l r s,l<=r->r<=k->r<=l+f->(∀i<l,lt (gp p i) (gp p k))->(∀i,r<=i->i<k->lt (gp p k) (gp p i))->I s->(∀l s,I s->l<=k->(∀i<l,lt (gp p i) (gp p k))->(∀i,l<=i->i<k->lt (gp p k) (gp p i))->Q l s)->(Gu p k f l r).kasWp cmp Q s:=by
 intro f
 induction f with
 |zero=>exactλl r s a b c d e i q=>q l s i (aV a b) d λi h=>e i (aV c h)
 |succ f ih=>
  intro l r s a b c d e i q;unfold Gu;by_cases c1:l≥r
  .rw[aw c1];exact q l s i (aV a b) d λi h=>e i (aV c1 h)
  .rw[au c1];have lr:=Gp.mp c1
   have hm:l<=(l+r)/2/\(l+r)/2<r:=⟨(Nat.le_div_iff_mul_le AV).mpr (ak (apI l) (gu (dK lr) l)),(Nat.div_lt_iff_lt_mul AV).mpr (ak (apI r) (Nat.add_lt_add_right lr r))⟩;generalize(l+r)/2=m at hm⊢;have mk:=dJ hm.2 b
   have mn:=jV mk kn;refine T.aF (o8 af kn) (o8 af mn) (yj af kn mn (fQ mk)) i (λh s i=>?_) λh s i=>?_
   .show(if O=O then Gu p k f l m else Gu p k f (m+1) r).kasWp cmp Q s;rw[aw Y];exact ih l m s hm.1 (dK mk) (hO (dJ hm.2 c)) d (λi h1 h2=>(ZL h1).elim (λh1=>T.aC h (C m i h1 h2)) λh1=>aj h1 h) i q
   .show(if Z=O then Gu p k f l m else Gu p k f (m+1) r).kasWp cmp Q s;rw[au dZ];have h':=(T.aI (o8 af kn) (o8 af mn) (yj af kn mn (fQ mk))).resolve_left h
    exact ih (m+1) r s hm.2 b (aV c (aV (pW hm.1 _) (gy (PK m f).symm))) (λi h1=>(yk.mp h1).elim (λh1=>T.aC (C i m h1 mk) h') λh1=>ak h1 h') e i q
def al3(T:AD n lt I cmp){Q:Array Nat->bL->Prop}(q:∀p s,I s->lY n p->Ch lt p n->Q p s):∀f p k s,lY n p->1<=k->k+f=n->Ch lt p k->I s->(kas_bin f p k).kasWp cmp Q s:=by
 intro f
 induction f with
 |zero=>exactλp k s af a z C i=>q p s i af (aj z C)
 |succ f ih=>
  intro p k s af k1 z C i;have kn:=dJ (pX (mI k f)) (gy z)
  unfold kas_bin;rw[Jx];refine al2 T af C kn k 0 k s (b7 _) (b8 _) (Gj ..) (λi h=>ax h (nC i)) (λi h h'=>ax h (Nat.not_le_of_lt h')) i λl s i lk d e=>?_;have b:=getElem?_bubble (xs:=p) (src:=k) (aj (yi af).symm kn) (k-l) (AX ..)
  rw[Nat.sub_sub_self lk]at b;have a1:gp (bubble p k (k-l)) l=gp p k:=IZ ((b l).trans (aw Y))
  have a2:∀i,l<i->i<=k->gp (bubble p k (k-l)) i=gp p (i-1):=λi h h'=>IZ ((b i).trans ((au (fQ h)).trans (aw ⟨h,h'⟩)));have a3:∀i,i<l->gp (bubble p k (k-l)) i=gp p i:=λi h=>IZ ((b i).trans ((au (gZ h)).trans (au λk=>aam h k.1)))
  refine ih _ (k+1) s ((bubble_perm ..).trans af) (jZ k1) ((PK k f).trans z) (λi j mG hj=>?_) i;rcases PV j l with h|rfl|h
  .rw[a3 i (jV mG h),a3 j h];exact C i j mG (dJ h lk)
  .rw[a3 i mG,a1];exact d i mG
  .rw[a2 j h (hO hj)];have jk:=dJ (xg (aoN h) pd) (hO hj)
   have lj:=ZB h;rcases PV i l with g|rfl|g
   .rw[a3 i g];exact C _ _ (dJ g lj) jk
   .rw[a1];exact e _ lj jk
   .rw[a2 i g (aV (dK mG) (hO hj))];exact C _ _ (Nat.sub_lt_sub_right (Nat.one_le_of_lt g) mG) jk
def al4(T:AD n lt I cmp)(n2:2<=n){Q:Array Nat->bL->Prop}(i:I s)(q:∀p s,I s->lY n p->Ch lt p n->Q p s):(kas_sort n).kasWp cmp Q s:=by
 unfold kas_sort;rw[Jx];refine al1 T (aoh _) n2 i λm p s i a b af C=>?_;by_cases c:m<n
 .rw[aw c,Nat.max_eq_left a];exact al3 T q (n-m) p m s af a (CV b) C i
 .rw[au c];exact q p s i af (aj (pY b (iP.mp c)) C)
end
noncomputable abbrev Cf:=Nat×aP
noncomputable def pT:Cf:=(0,dC)
def tT(x y:Cf):Prop:=x.1<y.1\/x.1=y.1/\x.2.cps.toList<y.2.cps.toList
def vq(h:fL)(vs:List aS)(cs:List Cf):Prop:=vs.length=cs.length/\∀(i:Nat)(x:Cf),cs[i]?=M x->∃b t1 t2 t3,vs[i]?=M (mJ b)/\h.get? b=M (iJ [.int (x.1:Nat) t1,.str x.2 t2,.str "shift" t3])
noncomputable def CA(p:Array Nat)(vs:List aS):Array aS:=aai (p.toList.map λi=>vs.getD i .none)
noncomputable def I3(p:Array Nat)(cs:List Cf):List Cf:=p.toList.map λi=>cs.getD i pT
variable{x y z:Cf} {cs:List Cf} {vs:List aS} {h h':fL} {E:QE} {a:aY}
def YE(h:tT x y)(k:tT y z):tT x z:=by
 rcases h with h|⟨e,h⟩<;>rcases k with k|⟨e',k⟩
 .exact .inl (jV h k)
 .exact .inl (aj e' h)
 .exact .inl (ak e k)
 .exact .inr ⟨e.trans e',List.lt_trans h k⟩
def YF(h:tT x y):¬tT y x:=λk=>(YE h k).elim (dq _) λe=>List.lt_irrefl _ e.2
def al5(ne:x≠y):tT x y\/tT y x:=by
 rcases PV x.1 y.1 with h|h|h
 .exact .inl (.inl h)
 .by_cases c:x.2.cps.toList<y.2.cps.toList
  .exact .inl (.inr ⟨h,c⟩)
  .by_cases d:y.2.cps.toList<x.2.cps.toList
   .exact .inr (.inr ⟨h.symm,d⟩)
   .refine ax (ru h ?_) ne;have e:=List.le_antisymm (apw.mp d) (apw.mp c)
    exact aq Str.mk (aoG.mp e)
 .exact .inr (.inl h)
def vq.kZ(t:vq h vs cs)(k:∀b vs,h.get? b=M (iJ vs)->h'.get? b=M (iJ vs)):vq h' vs cs:=⟨t.1,λi x hx=>(t.2 i x hx).elim λb q=>q.elim λt1 q=>q.elim λt2 q=>q.elim λt3 q=>⟨b,t1,t2,t3,q.1,k _ _ q.2⟩⟩
def al6:∀(cs:List Cf)(vs:List aS),vq h vs cs->∃fs,KatTups h vs fs/\fs.length=vs.length/\∀v∈fs,∃i t,v=.int i t:=by
 intro cs
 induction cs with
 |nil=>intro vs t;obtain rfl:=PL.mp t.1;exact⟨[],.nil,Y,λv h=>bA h⟩
 |cons x cs ih=>
  intro vs t;refine Dt (t.2 0 x Y) λb t1 t2 t3 e g=>?_;cases vs with
  |nil=>exact cW e
  |cons v vs=>
   obtain rfl:=bF e;refine fH (ih vs ⟨pb t.1,λi y hy=>t.2 (i+1) y hy⟩) λfs k l i=>?_;refine⟨_::fs,.cons g Y Y Y k,aq Gv l,λv hv=>?_⟩;rcases cU.mp hv with rfl|hv
   .exact⟨_,_,Y⟩
   .exact i v hv
def YG(t:vq s.heap vs cs)(hi:i<vs.length):∃b t1 t2 t3,vs.getD i .none=.ref b/\s.heap.get? b=M (iJ [.int ((cs.getD i pT).1:Nat) t1,.str (cs.getD i pT).2 t2,.str "shift" t3]):=by
 have e:=iO (aj t.1 hi);refine Dt (t.2 i _ e) λb t1 t2 t3 hb g=>?_;refine⟨b,t1,t2,t3,by rw[CO,hb];rfl,?_⟩
 rw[CO,e];exact g
def al7(t:vq s.heap vs cs)(nd:cs.Nodup):AD vs.length (λi j=>tT (cs.getD i pT) (cs.getD j pT)) (λs'=>s'=s) (kas_ask pr w0 A (tuples' O) vs):=by
 have ne:∀{i j},i<vs.length->j<vs.length->i≠j->cs.getD i pT≠cs.getD j pT:=λ{i j} hi hj n e=>by rw[t.1]at hi hj;rw[CO,CO,iO hi,iO hj]at e;exact n ((ua hi nd).mp (by rw[iO hi,iO hj];exact aq M e))
 refine⟨YE,YF,λhi hj n=>al5 (ne hi hj n),λ{i j C s'} hi hj n e h1 h2=>?_⟩;subst e;refine Dt (YG t hi) λb t1 t2 t3 e1 g1=>?_;refine Dt (YG t hj) λc u1 u2 u3 e2 g2=>?_;have dn:=ne hi hj n
 unfold kas_ask;rw[e1,e2];generalize cs.getD i pT=x at*;generalize cs.getD j pT=y at*;refine kat_lt g1 Y g2 Y (kat_cons (wpAny_eqBool_int (kat_go (λe=>kat_yes (kat_cons (wpAny_eqBool_str (kat_go (λe2=>?_) λe2=>kat_no (kat_one _ _ (aqK ?_)))))) λe=>kat_no (oneLt_int ?_))))
 .exact ax (ru (jT (eq_of_beq e)) (aB e2)) dn
 .have e:=jT (eq_of_beq e);by_cases c:x.2.cps.toList<y.2.cps.toList
  .rw[az c];exact h1 (.inr ⟨e,c⟩) _ Y
  .rw[aA c];exact h2 (λk=>k.elim (λk=>ax e (gZ k)) λk=>c k.2) _ Y
 .have n1:x.1≠y.1:=λk=>by rw[k,beq_self_eq_true]at e;exact b9 e
  by_cases c:x.1<y.1
  .rw[az (jB.mpr c)];exact h1 (.inl c) _ Y
  .rw[aA λk=>c (jB.mp k)];exact h2 (λk=>k.elim c λk=>n1 k.1) _ Y
variable{l:Loc} {Q:QV}
abbrev iC(cs:List Cf)(i j:Nat):Prop:=tT (cs.getD i pT) (cs.getD j pT)
def al8{P:PySem.Fin->bL->Prop}(ho:s.heap.get? a=M (kO "list" vs.toArray n))(t:vq s.heap vs cs)(nd:cs.Nodup)(I5:vs.length<64)(h:∀p,lY vs.length p->Ch (iC cs) p vs.length->P (.done (.ret .none)) {s with heap:=sortedHeap s.heap a vs (CA p vs)}):
 wpAny Md A (Builtin.«list.sort» ⟨[.ref a],[]⟩) P E s:=by
 have ha:a<s.heap.objs.size:=eJ ho;have old:∀b o,b≠a->s.heap.get? b=M o->(((s.heap.update a (qc λc=>(#[]:Array aS))).push (kO "tuple" vs.toArray 0)).push (kO "list" #[] 0)).get? b=M o:=λb o ne e=>eG _ (eG _ ((ZC _ _ _ _ ne).trans e))
 obtain⟨e1,YH⟩:∃e1,(s.heap.update a (qc λc=>(#[]:Array aS))).get? a=M (kO "list" #[] e1):=⟨_,apH ho λc=>#[]⟩;have YI:(((s.heap.update a (qc λc=>(#[]:Array aS))).push (kO "tuple" vs.toArray 0)).push (kO "list" #[] 0)).get? a=M (kO "list" #[] e1):=eG _ (eG _ YH)
 have t6:vq (((s.heap.update a (qc λc=>(#[]:Array aS))).push (kO "tuple" vs.toArray 0)).push (kO "list" #[] 0)) vs cs:=t.kZ λb us e=>old b _ (λk=>by have q:xf "tuple"=.type "list":=aq Qz (bF ((k▸e).symm.trans ho));exact ax q (ao Y)) e
 have z6:∀p,lY vs.length p->(CA p vs).size<=yx+1:=λp af=>by unfold CA;rw[q8,bc,AL,yi af,kq];exact aV (dK I5) (ao Y)
 rw[list_sort_plain];refine aN (listItems_at ho Y (aN (aar ho Y (aN (seqEpoch_at YH Y (aN (apL (aN (wpAny_newList (jU ?_) (b7 _))) (by show vs.length<=_;rw[kq];exact aV (dK I5) (ao Y)))))) (by rw[q8,kq];exact aV (dK I5) (ao Y)) (b7 _))))
 have fin:∀(tU:SortSt)(p:Array Nat),lY vs.length p->Ch (iC cs) p vs.length->(arrOf tU).map (·.2)=CA p vs->aaD tU=U->wpAny Md A (do
  let touched:=(<-seqEpoch a)!=e1
  aqA (.ref a) λc=>(arrOf tU).map (·.2)
  if let M e:=aaD tU then rule "list.sort.comparison-raised";throw e
  if touched then rule "list.sort.modified";raiseError"ValueError" "list modified during sort"
  ret .none) P E {s with heap:=((s.heap.update a (qc λc=>(#[]:Array aS))).push (kO "tuple" vs.toArray 0)).push (kO "list" #[] 0)}:=λtU p af C e f=>by
  rw[e,f];refine aN (seqEpoch_at YI Y (aN (aar YI Y ?_ (b7 _) (z6 p af))));rw[bne_self_eq_false];exact bw (h p af C)
 dsimp only;rw[q8];by_cases h2:vs.length<2
 .rw[aw h2,aw h2];refine aN (bw ?_);rw[StateT.run_pure];refine aN (bw (fin _ (aai (bQ vs.length)) (aoh _) (λi j mG hj=>ax (dJ mG (hO (dJ hj (hO h2)))) (nC i)) (kat_snds Y ?_) Y));have e:=kas_range (vs.toArray.zip vs.toArray)
  rw[Array.size_zip,q8,Nat.min_self]at e;exact e.symm
 .rw[au h2,au h2];have n2:=iP.mp h2
  refine fH (al6 cs vs t6) λfs k fl fi=>?_;refine aN (kat_kind (T:=.type "int") k (aj fl.symm (dJ AV n2)) (λv hv=>?_) (ao Y) (aN (jC (kat_run (Q:=λtU s'=>s'={s with heap:=((s.heap.update a (qc λc=>(#[]:Array aS))).push (kO "tuple" vs.toArray 0)).push (kO "list" #[] 0)}/\∃p,lY vs.length p/\Ch (iC cs) p vs.length/\(arrOf tU).map (·.2)=CA p vs/\aaD tU=U) (G:=λp s'=>s'={s with heap:=((s.heap.update a (qc λc=>(#[]:Array aS))).push (kO "tuple" vs.toArray 0)).push (kO "list" #[] 0)}/\lY vs.length p/\Ch (iC cs) p vs.length) Y n2 I5 (λp tU s' c a1 a2 a3=>⟨a3.1,p,a3.2.1,a3.2.2,kat_snds Y a1,a2⟩) (al4 (al7 t6 nd) n2 Y λp s' e af C=>⟨e,af,C⟩)) (λr s' q=>?_) λc c e=>e)))
  .obtain⟨i,t,rfl⟩:=fi v hv;exact Looks.now
  .obtain⟨u,tU⟩:=r;obtain⟨rfl,p,af,C,e,f⟩:=q;exact fin tU p af C e f
def al9{R:α->β->Prop}{f:Nat->α}{g:Nat->β}(l:List Nat)(h:∀i∈l,R (f i) (g i)):bP R (l.map f) (l.map g):=⟨l.map λi=>(f i,g i),by rw[fC];rfl,by rw[fC];rfl,λz m=>(bX.mp m).elim λi q=>aj q.2 (h i q.1)⟩
def al'(af:lY n p)(e:n=cs.length):(I3 p cs).Perm cs:=by
 have q:=((PI.mp af).map λi=>cs.getD i pT).trans (List.Perm.of_eq (show(bQ n).map (λi=>cs.getD i pT)=cs from Js λi=>by
  rw[gX];by_cases c:i<n
  .rw[ny c,iO (aj e c)];refine aq M ?_;show cs.getD i pT=_;rw[CO,iO (aj e c)];rfl
  .rw[jj.mpr (by rw[fP];exact iP.mp c),jj.mpr (aj e (iP.mp c))];rfl))
 exact q
def ama(af:lY n p)(C:Ch (iC cs) p n):(I3 p cs).Pairwise tT:=xa.mpr (List.pairwise_iff_getElem.mpr λi j hi hj mG=>by
 rw[AL]at hi hj;have q:=C i j mG (aj (yi af) hj)
 rw[aog,aog];have ge:∀{i}(h:i<p.size),gp p i=p[i]:=λh=>bF ((IY h).symm.trans (Zn h))
 rw[ge hi,ge hj]at q;exact q)
def YJ(hl:K.h l=M (.l (cs.map gS)))(nd:cs.Nodup)(z:cs.length<64)(q:∀Pf:List Cf,Pf.Perm cs->Pf.Pairwise tT->alloc (.l (Pf.map gS)) Q K):OL n (.builtin "sorted") [.e l] Q K:=rE (lO _) λF A W s v T vx=>vx.1▸by
 have al:=T.aC.jF hl;have lv:(T.aC.bu hl).toList.length=cs.length:=by rw[AL,T.aC.pE hl,bc]
 have tp:vq s.heap (T.aC.bu hl).toList cs:=⟨lv,λi x hx=>by refine bT (al.nK (fU hx)) λv hv r=>?_;obtain⟨b,us,rfl,tu,k0⟩:=VR.lK.mp r;obtain⟨u1,r1,rfl,⟨t1,rfl⟩,k1⟩:=k0.kC;obtain⟨u2,r2,rfl,⟨t2,e2⟩,k2⟩:=k1.kC;obtain⟨u3,r3,rfl,⟨t3,e3⟩,k3⟩:=k2.kC;obtain rfl:=k3.oy;exact⟨b,t1,t2,t3,hv,aj e2.1 (aj e3.1 (T.aC.th b _ tu))⟩⟩
 have YK:=T.aC.pF hl;generalize hvs:(T.aC.bu hl).toList=vs at al lv tp;have eA:T.aC.bu hl=vs.toArray:=by rw[<-hvs,Array.toArray_toList]
 rw[eA]at YK;have YL:vs.length<64:=ak lv z
 have lS:vs.length<=yx:=by rw[kq];exact aV (dK YL) (ao Y)
 refine anO kind_sorted plain_sorted entry_sorted (args_sorted1 _) ?_;unfold Builtin.«sorted»;refine aN (bw (aN (collect_list YK (aN (wpAny_newList ?_ lS)) lS)));have k1:∀b o,s.heap.get? b=M o->((s.heap.push (kO "list" #[] 0)).update s.heap.objs.size (qc (·++vs.toArray))).get? b=M o:=λb o e=>(ZC _ _ _ _ (gZ (eJ e))).trans (eG _ e)
 generalize(s.heap.push (kO "list" #[] 0)).update s.heap.objs.size (qc (·++vs.toArray))=H at k1⊢;have Pg:(H.push (kO "list" vs.toArray 0)).get? H.objs.size=M (kO "list" vs.toArray 0):=jY _ Y
 have t1:vq (H.push (kO "list" vs.toArray 0)) vs cs:=tp.kZ λb us e=>eG _ (k1 b _ e);refine aN (jU (oo slot_list_sort ⟨_,Pg,Y⟩ entry_list_sort (al8 Pg t1 nd YL λp af C=>⟨_,Y,bw ⟨_,Y,?_⟩⟩) (args_list_sort _)));obtain⟨e',he⟩:=sortedHeap_at Pg;have pm:=al' af lv
 refine T.aC.Bd (λb o eb=>?_) (λb o eb=>eJ (k1 b o eb)) he (?_:bP _ (CA p vs).toList ((I3 p cs).map gS)) (by rw[bc,pm.length_eq];exact aV (dK z) (ao Y)) (q _ pm (ama af C))
 .have lt:=eJ (k1 b o eb);exact(sortedHeap_old (gZ lt) (by rw[size_push'];exact sr lt)).trans (eG _ (k1 b o eb))
 .rw[I3,fC];refine al9 p.toList λi hi=>?_;have lt:i<vs.length:=j4.mp ((PI.mp af).mem_iff.mp hi)
  have ec:=iO (aj lv lt:i<cs.length);refine bT (al.nK (fU ec)) λv hv r=>?_;rw[CO,hv];show VR _ _ v (gS (cs.getD i pT));rw[CO,ec];exact r
variable{x:V} {a:Sx} {u:aS} {v:aY}
def amc:∀{es:Es}{ds:List eQ},bP (DE W D) ds es->(∀e∈es,∃i:Int,e.1=.i i)->∃gC:List (Int×aS),(∀e∈ds,∃z,(Dj pr w0).is z e.key=O/\e.hash=(Dj pr w0).hash z)/\Pairs (Dj pr w0) ds gC/\gC.map (·.2)=ds.map (·.val)/\es.map (·.1)=gC.map λp=>V.i p.1:=by
 intro es
 induction es with
 |nil=>
  exactλ{ds} al c=>by obtain rfl:=al.oy;exact⟨[],λc h=>bA h,.nil,Y,Y⟩
 |cons b es ih=>
  exactλ{ds} al ik=>by
   obtain⟨a,rA,rfl,h,t⟩:=al.kC;refine oE (ik b (.head _)) λi e1=>?_;refine pB (ih t λe he=>ik e (.tail _ he)) λgC k1 k2 k3 k4=>?_;have k:=h.aC
   rw[e1]at k;refine oE k λtk kt=>?_;have kz:(Dj pr w0).is i a.key=O:=ak kt (PySem.intKind_is _ _ _ _)
   exact⟨(i,a.val)::gC,lH.mpr ⟨⟨i,kz,ak h.aF (e1▸hashW_int _ _)⟩,k1⟩,.cons kz Y k2,aq (a.val::·) k3,by rw[l6,e1,k4];rfl⟩
def YM:typeLookup (.type "dict_values") "__contains__"=pure U:=by rw[typeLookup_type,builtinLookup_eq_fast];kernel_rfl
def YN:entryFor table "proto.contains_iter"=M Builtin.«proto.contains_iter»:=entryFor_of_fast (by kernel_rfl)
def Ph:plainId "proto.contains_iter"=O:=by decide+kernel
def amd{R:Dq->bL->Prop}{d:aY}{gC:List (Int×aS)}{ep:Nat}{h0:fL}(T:St F A n W K s)(vx:VR W (aZ K.h) u x)(kx:x.cV 7=O)(hv:∀(i:Nat) p,gC[i]?=M p->∃y,VR W (aZ K.h) p.2 y/\y.cV 7=O/\y≠x)(e0:s.heap=h0)(YO:h0.get? it=U)
 (q:∀h' tk,(∀b o,h0.get? b=M o->h'.get? b=M o)->R (.ok (.ret (.bool Z))) {s with heap:=h',toks:=tk}):∀(i:Nat)(h:fL),gC.length-i=k->i<=gC.length->(∀b o,h0.get? b=M o->h.get? b=M o)->h.IsValIter it d i gC.length ep->h.DictAt (Dj pr w0) d gC ep->d≠it->
 ry Md A (.builtin "proto.contains_iter" ⟨[.ref it,u],[]⟩) R {s with heap:=h}:=by
 have hh:A.in1.handled=U:=T.aF.aC
 induction k with
 |zero=>intro i h hk le keep I DA ne;obtain rfl:i=gC.length:=pY le (Nat.le_of_sub_eq_zero hk);refine aaf YN ?_;rw[Zw Ph _];refine aN (wpAny_pyNext_values_end hh I DA (jj.mpr (b8 _)) λh' x=>?_);refine aN (qe (bw ?_));exact q h' s.toks λb o e=>x b o (λk=>cW (YO.symm.trans (aj k e))) (keep b o e)
 |succ k ih=>
  intro i h hk le keep I DA ne;have lt:i<gC.length:=Nat.lt_of_sub_pos (ak hk (fY k))
  obtain⟨p,hp⟩:∃p,gC[i]?=M p:=⟨_,iO lt⟩;refine fH (hv i p hp) λy vy ky nxy=>?_;refine aaf YN ?_;rw[Zw Ph _];refine aN (wpAny_pyNext_values_item I DA (hp.trans (aq M (Prod.eta p).symm)) λh' I' sb=>?_);have YQ:∀b o,h0.get? b=M o->h'.get? b=M o:=λb o e=>(sb.2 b λk=>cW (YO.symm.trans (aj k e))).trans (keep b o e)
  have th:TH W h':=λa vs t=>YQ a _ (aj e0 (T.aC.th a vs t));refine aN (Kl th vy vx ky kx (T.cl (k:=9) (ao Y)) pr w0 _ _ ?_);exact ak (aA nxy) (bw ⟨plainId_quiet Ph _,ih (i+1) h' ((Nat.sub_succ ..).trans (aq Nat.pred hk)) lt YQ I' (DA.at' λo e=>(sb.2 d ne).trans e) ne⟩)
def YR(T:St F A n W K s)(hl:K.h l=M (.d es))(ik:∀e∈es,∃i:Int,e.1=.i i):∃gC,s.heap.DictAt (Dj pr w0) (W.ρ l) gC es.length/\gC.map (·.2)=(T.aC.ds hl).map (·.val):=by
 refine pB (amc (T.aC.md hl) ik) λgC k1 k2 k3 k4=>?_;refine⟨gC,⟨_,(T.aC.ds hl).toArray,T.aC.dg hl,⟨Y,Y,Y⟩,Y,λx hx=>k1 x (Zy.mpr hx),k2,?_⟩,k3⟩;have nd:=T.aC.sL hl
 rw[k4]at nd;rw[List.nodup_iff_pairwise_ne]at nd;exact xa.mpr ((xa.mp nd).imp λh e=>h (aq V.i e))
def amf{R:QE}(T:St F A n W K s)(hl:K.h l=M (.d es))(ik:∀e∈es,∃i:Int,e.1=.i i)(kv:∀e∈es,e.2.cV 7=O)(kx:x.cV 7=O)(nx:∀e∈es,e.2≠x)(vx:VR W (aZ K.h) u x)(hv:s.heap.IsValuesView v (W.ρ l))
 (q:∀h' tk,(∀b o,s.heap.get? b=M o->h'.get? b=M o)->R (.bool Z) {s with heap:=h',toks:=tk}):wpAny Md A (ox .In u (.ref v)) R br s:=by
 have al:=T.aC.md hl;refine bT (YR T hl ik) λgC DA k3=>?_;have g:=T.aC.dg hl
 have w:wpAny Md A (QC (.ref v) u) (λr s'=>R (.bool r) s') br s:=by
  unfold QC;refine jU (aN (yt hv.typeIs YM ?_));rw[au (ao Y)];refine aN (wpAny_callSpecialUnlessNone?_none hv.typeIs YM ?_);refine aN (qe ?_);refine aN (wpAny_tryCatch (wpAny_pyIter_values hv DA ?_));have kp:∀b o,s.heap.get? b=M o->(s.heap.push {cls:=.type "dict_valueiterator",data:=.fields #[.ref (W.ρ l),.int 0 0,.int gC.length 0,.int es.length 0]}).get? b=M o:=λb o e=>eG _ e
  refine aN (apK (amd T vx kx (λi p hp=>?_) Y (PO (b8 _)) (λh' tk k=>?_) 0 _ Y (b7 _) kp ⟨_,jY _ Y,Y,Y⟩ (DA.at' λo e=>kp _ _ e) (gZ (eJ g))))
  .refine bT (d7 (aj k3 (fU hp))) λd hd e=>?_;refine bT (al.yH hd) λe' he de=>?_;exact⟨e'.2,aj e de.aK,kv e' (cO he),nx e' (cO he)⟩
  .exact bw (q h' tk k)
 exact aN (wm w λr s' h=>bw h)
def amg(ha:RE K a x)(hb:RE K b (.e l))(hl:K.h l=M (.d es))(ik:∀e∈es,∃i:Int,e.1=.i i)(kv:∀e∈es,e.2.cV 7=O)(kx:x.cV 7=O)(nx:∀e∈es,e.2≠x):RT K (.RB a b) Z:=λn P q F A W s w T c=>by
 refine Du c λlx HE qq p p2 hW=>sC hW λe c1 c2 nb hp=>?_;rcases e with e|e
 .exact cJ.no e Y
 refine Bj e (ZE ?_ Y);refine wm (ha n (λy bk=>y=x/\bk=K) ⟨Y,Y⟩ F A W s lx T c1) λu bp k=>?_;obtain⟨bg,aT,y,iU,gw,vx,rfl,rfl⟩:=k;have gD:St F A n bg aT bp:=⟨T.aF,iU⟩
 refine aN (aj (nb "values" F.bV (eval HE F.bV)).symm ?_);refine wm (hb n (λy bk=>y=.e l/\bk=aT) ⟨Y,Y⟩ F A bg bp HE gD c2) λv b6 k=>?_;obtain⟨dt,cK,z,eN,fc,vl,rfl,rfl⟩:=k;have lN:St F A n dt cK b6:=⟨T.aF,eN⟩
 have vx2:VR dt (aZ cK.h) u y:=vx.bU (fc.tu gD.aC.aC.aC gD.aC.nx);obtain⟨rfl,_⟩:=vl;have hT:b6.TypeIs (.ref (dt.ρ l)) "dict":=⟨_,lN.aC.dg hl,Y⟩
 refine bT (YR lN hl ik) λgC DA f=>?_;refine aN (xd (K6 (λf f=>Y) hp Y λpl=>AN hT Zp anL PySem.F.type_dict_values (λa e=>by cases e;exact⟨_,lN.aC.dg hl,Y⟩) ?_))
 refine yZ (λf f=>Y) (bw ⟨lO _ _,call_meetsIn anL hT PySem.F.entry_dict_values (PySem.F.args_dict_values_1 _) (meets_dict_values (Dj pr w0) _ (lN.aC.qj T.aF (lN.aC.dm hl))) ⟨⟨gC,DA.dictOf⟩,?_⟩⟩);refine amf ⟨T.aF,eN.qo λb o e=>eG _ e⟩ hl ik kv kx nx vx2 ⟨_,jY _ Y,Y,Y⟩ λh' tk k=>CZ ?_;exact G7 _ _ _ _ _ _ gw (G7 _ _ _ _ _ _ fc ⟨dt,cK,Z,eN.qo λb o e=>k b o (eG _ e),Ext.jE,Y,q⟩)
variable{l':Loc}
section
variable{ss:Ss}
def ami(hl:K.h l=M (.d es))(e:es.map (·.1)=ss.map .s)(z:ss.length<64)(q:alloc (.l (ss.map .s)) Q K):OL n (.type "list") [.e l] Q K:=rE (Bu _) λF A W s v T vx=>vx.1▸by
 have g:=T.aC.dg hl;have lt:=eJ g
 refine callType_codes (Q₁:=λobj bp=>obj=.ref s.heap.objs.size/\bp={s with heap:=s.heap.push {cls:=.type "list",data:=.seq #[]}}) PySem.F.called_list (PySem.F.typeCall_list_1 _) PySem.F.entry_list_init (code_list_new _ ⟨Y,Y⟩) λobj bp h₁=>?_
 obtain⟨rfl,rfl⟩:=h₁;have hS:(s.heap.push (kO "list" #[] 0)).get? s.heap.objs.size=M (kO "list" #[] 0):=jY _ Y
 refine⟨⟨_,hS,Y⟩,PySem.F.args_list_init_2 _ _,?_⟩;have h2:=apH hS λa=>#[]
 have k2:∀b o,s.heap.get? b=M o->((s.heap.push (kO "list" #[] 0)).update s.heap.objs.size (qc λa=>#[])).get? b=M o:=λb o e=>(ZC _ _ _ _ (gZ (eJ e))).trans (eG _ e);refine aN (listItems_at hS Y (aN (aar hS Y (aN (Qs ?_)) (b7 _) (b7 _))));have ok:∀w∈ss,pZ w=O:=(TR (T.aC.md hl) e).2.2
 exact agY T.aF.aC (T.aC.qj T.aF (T.aC.dm hl)) (k2 _ _ g) h2 (fQ lt) (T.aC.md hl) e (T.aC.sL hl) z λh' tk BV c' keep hS' sa=>⟨Y,T.aC.Bd (λb o e=>keep b o (gZ (eJ e)) (k2 b o e)) (λb o e=>eJ e) hS' (adM sa ok) (by rw[bc];exact aV (dK z) (ao Y)) q⟩
def amk(h1:K.h l=M (.d []))(h2:K.h l'=M (.d [])):R2 K (ox .NotEq) (.e l) (.e l') (.o Z):=λF A n W s v u T vx vy=>vx.1▸vy.1▸by
 have ga:=T.aC.dg h1;have gb:=T.aC.dg h2
 have ta:s.TypeIs (.ref (W.ρ l)) "dict":=⟨_,ga,Y⟩;have tb:s.TypeIs (.ref (W.ρ l')) "dict":=⟨_,gb,Y⟩
 have na:=T.aC.qj T.aF (T.aC.dm h1);have nb:=T.aC.qj T.aF (T.aC.dm h2)
 have z1:(T.aC.ds h1).toArray.size=0:=(T.aC.md h1).iI;have z2:(T.aC.ds h2).toArray.size=0:=(T.aC.md h2).iI
 refine wpAny_richCompare_same_room (op:=.NotEq) ta tb an0 (oo an0 ta PySem.F.entry_dict_ne ?_ (PySem.F.args_dict_ne_2 _ _)) (T.cl (k:=0) (ao Y));refine aN ?_;unfold aqF;refine aN (PQ ta ?_);refine bw (aN (Qf tb anV ?_));simp only[C7,CX,if_false];refine aN (bw (aN (bw (aN ?_))));unfold aqC PJ;simp only[na,nb,CX,if_false];refine aN (bw (aN (bw (aN (yq ga Y (aN (yq gb Y ?_)))))));rw[au (by rw[z1,z2];decide)]
 refine aN (vF ga Y (aN ?_));rw[aqk,aqj,z1];exact bw (bw (bw ⟨_,Y,(λx=>A1 x Y),RV.oH⟩))
end
noncomputable def Pj:RQ:=λx a a=>x=.o O
def Ou(R:Nl)(u h:Hp):Prop:=∀l:Loc,R.contains l.1=Z->u l=h l
def wZ(u:Hp):Prop:=(∃g,u hD=M (.fz g))/\u (50,[])=M (.t 391 #[])/\u (51,[])=M (.t 398 #[])/\u (64,[])=M (.d gF)/\Ru u
section
variable{u:Hp} (hh:wZ u)
def wZ.aO:=hh.1
def wZ.aK:=hh.2.1
def wZ.aI:=hh.2.2.1
def wZ.aC:=hh.2.2.2.1
def wZ.aF:=hh.2.2.2.2
end
def m9(v:Mp):Prop:=v 0=M (.e (0,[0]))/\v 1=M (.i (fV:Nat))/\v 2=M (.e (64,[]))/\v 3=M (.e (69,[]))/\v 4=M (.e (1,[]))
section
variable{v:Mp} (hh:m9 v)
def m9.aO:=hh.1
def m9.aK:=hh.2.1
def m9.aC:=hh.2.2.1
def m9.aF:=hh.2.2.2.1
def m9.aI:=hh.2.2.2.2
end
noncomputable abbrev CB:Nl:=[1,12,41,42,43,44,45,46,47,48,49,63,64,65,66,67,68,69,70,75,99]
variable{h u:Hp} {Q:QF} {v:Mp} {y:V}
def m9.dw(V:m9 v)(h:Di 5 k=O):m9 (aJ v k y):=by have ne:∀j,Di j 4=O->aJ v k y j=v j:=λj hj=>au λe:j=k=>Jl 4 (aV (jo h) (aj e (jo hj)));exact⟨(ne 0 Y).trans V.aO,(ne 1 Y).trans V.aK,(ne 2 Y).trans V.aC,(ne 3 Y).trans V.aF,(ne 4 Y).trans V.aI⟩
def Ru.ou{R:Nl}(r:Ru h)(o:Ou R u h)(a:R.contains 67=Z)(b:R.contains 69=Z)(c:R.contains 70=Z):Ru u:=⟨(o _ b).trans r.aC,λk hk=>(o _ (by cases k;exact c;exact a)).trans (r.aF k hk)⟩
def I6:qZ.length=nG:=by have e:=aq JI Yt;rw[bc]at e;exact aj e (bc ..).symm
def aml(R:Cz w)(e70:u (70,[])=M (.l [.s "E"]))(e69:u (69,[])=M (.l ([.e (70,[])]++qZ.map λi=>.e (67,[i]))))(e:∀i,u (67,[i])=w (67,[i])):Ru u:=by
 refine⟨e69.trans (aq (λl=>M (af.l l)) ?_),λk hk=>?_⟩
 .rw[Zu,l6,fC];refine aq (V.e (70,[])::·) (Js (l₁:=qZ.map λi=>V.e (67,[i])) λk=>?_);rw[gX,gX];by_cases c:k<nG
  .rw[ny c,iO (I6.symm▸c)];show _=M (V.e (67,[(qZ[k]?).getD 0]));rw[iO (I6.symm▸c)];rfl
  .rw[jj.mpr (I6.symm▸iP.mp c),jj.mpr (fP▸iP.mp c)];rfl
 .cases k with
  |zero=>exact e70
  |succ k=>
   refine oE (jy (by rw[<-bc];exact hk)) λr hr=>?_
   refine bT (alH hr) λi hi hb=>?_;have es:ss (k+1)=r.map sN:=by show((gs[k]?).getD [])=_;rw[gs,gX,hr];rfl
   show u (67,[(qZ[k]?).getD 0])=_;exact hi▸es▸(e i).trans (R.aF i r hb)
def amo{CC:RQ}(S:Ay h)(fz:∃g,h hD=M (.fz g))(t50:h (50,[])=M (.t 391 #[]))(t51:h (51,[])=M (.t 398 #[])) (fr:∀k y,CB.contains k=O->k≠99->h (k,y)=U)
 (q:∀v u t,m9 v->wZ u->Ay u->B0 f0 u->Ou CB u h->WB (n+2) (Sx.gG 4 sX) (Rt CC) ⟨v,u,t⟩):WB (n+2) sX (Rt CC) ⟨λi=>([V.e (0,[0])]++[])[i]?,h,t⟩:=by
 refine cF (kU (rl (aW (aG Y) (aW bG bD)) (bO.o (O6 S ?_))));refine cF (kU (rl (aW (aG Y) bD) (bO.o (alx S (fr 63 [] Y (ao Y)) (fr 64 [] Y (ao Y)) λu t CD=>?_))));refine cF (yW (fy (fM (fy (rl (aW bW bD) ⟨(ao Y),dQ (70,[]) Y (fr 70 [] Y (ao Y)) (eV ⟨(ao Y),dQ (75,[]) Y (show(mix qC u h).aH (70,[]) (.l [.s "E"]) (75,[])=U from(aQ (aU Y)).trans (fr 75 [] Y (ao Y))) ?_⟩)⟩)))))
 refine kU (rl (aW (aG Y) bD) (bO.o (alK (λk y hk=>?_) λw t R=>?_)))
 .have ne:∀{k' y'},[65,66,67,68].contains k'=Z->((k,y):Loc)≠(k',y'):=λh' e=>by rw[(cP e).1,h']at hk;exact b9 hk
  refine(aQ (ne Y)).trans ((aQ (ne Y)).trans ((gU (nz.mpr λe=>ax ((by decide:∀k∈[65,66,67,68],qC.contains k=Z) k (gj.mp hk)) (by rw[e];decide))).trans (fr k y ((by decide:∀k∈[65,66,67,68],CB.contains k=O) k (gj.mp hk)) λe=>?_)))
  rw[e]at hk;exact b9 hk
 have zl:([V.e (70,[])]).length+(qZ.map λi=>V.e (67,[i])).length<=16777216:=by rw[bc,I6];exact aV (gu (dK kK.2) 1) (ao Y)
 refine Hw Y R.aC zl (dQ (69,[]) Y (fr 69 [] Y (ao Y)) ?_);refine cF (D5 (fM (fy (rl (aW bW (aW bW (aW bW (aW bW (aW bW (aW bW (aW bW bD))))))) ⟨(ao Y),jJ (eV ?_)⟩))));show OL (n+2) _ _ _ ⟨aJ (aJ (aJ (λi=>([V.e (0,[0])]++[])[i]?) 1 (.i fV)) 2 (.e (64,[]))) 3 (.e (69,[])),((mix iq w (((mix qC u h).aH (70,[]) (.l [.s "E"])).aH (75,[]) (.l [.e (70,[])]))).aH (69,[]) (.l ([.e (70,[])]++qZ.map λi=>.e (67,[i])))).aH (bN t) (.l (lets.map .s)),t+1⟩;generalize hw:((mix iq w (((mix qC u h).aH (70,[]) (.l [.s "E"])).aH (75,[]) (.l [.e (70,[])]))).aH (69,[]) (.l ([.e (70,[])]++qZ.map λi=>.e (67,[i])))).aH (bN t) (.l (lets.map .s))=u3;have O3:Ou [63,64,65,66,67,68,69,70,75,99] u3 h:=λl hl=>by
  have ne:∀{k y},[63,64,65,66,67,68,69,70,75,99].contains k=O->l≠(k,y):=λh' e=>by rw[e,h']at hl;exact b9 hl
  have c1:iq.contains l.1=Z:=nz.mpr λe=>by
   have k:=(by decide:∀k∈iq,[63,64,65,66,67,68,69,70,75,99].contains k=O) l.1 (gj.mp e)
   rw[k]at hl;exact b9 hl
  have c2:qC.contains l.1=Z:=nz.mpr λe=>by
   have k:=(by decide:∀k∈qC,[63,64,65,66,67,68,69,70,75,99].contains k=O) l.1 (gj.mp e)
   rw[k]at hl;exact b9 hl
  exact aj hw ((aQ (ne Y)).trans ((aQ (ne Y)).trans ((gU c1).trans ((aQ (ne Y)).trans ((aQ (ne Y)).trans (gU c2))))))
 have r3:Ru u3:=aml R (aj hw Y) (aj hw ((aQ (aU Y)).trans bo)) λi=>aj hw Y;have k3:u3 (64,[])=M (.d gF):=aj hw CD
 have s3:Ay u3:=⟨(O3 _ Y).trans S.1,S.2⟩;refine bO.o (ahl (aj hw bo) (λk y hk=>?_) λu4 G=>?_)
 .have nk:[63,64,65,66,67,68,69,70,75,99].contains k=Z:=(by decide:∀k∈gR,[63,64,65,66,67,68,69,70,75,99].contains k=Z) k (gj.mp hk)
  exact(O3 _ nk).trans (fr k y ((by decide:∀k∈gR,CB.contains k=O) k (gj.mp hk)) λe=>by rw[e]at nk;exact b9 nk)
 .refine q _ _ _ ⟨Y,Y,Y,Y,Y⟩ ⟨(fz.imp λg e=>(O3 _ Y).trans e:∃g,u3 hD=M (.fz g)),(O3 _ Y).trans t50,(O3 _ Y).trans t51,k3,⟨r3.aC,λk hk=>(show(mix gR u4 u3) (d8 k)=u3 (d8 k) by cases k<;>rfl).trans (r3.aF k hk)⟩⟩ s3 G λl hl=>?_
  have c:gR.contains l.1=Z/\[63,64,65,66,67,68,69,70,75,99].contains l.1=Z:=⟨nz.mpr λe=>by
   have k:=(by decide:∀k∈gR,CB.contains k=O) l.1 (gj.mp e)
   rw[k]at hl;exact b9 hl,nz.mpr λe=>by
   have k:=(by decide:∀k∈[63,64,65,66,67,68,69,70,75,99],CB.contains k=O) l.1 (gj.mp e)
   rw[k]at hl;exact b9 hl⟩
  exact(gU c.1).trans (O3 _ c.2)
variable{r:Sx} {p:aP×Wl}
def Ou.tr{R R':Nl}(o:Ou R u h)(o':Ou R' w u)(s:R'.all R.contains=O):Ou R w h:=λl hl=>(o' l (nz.mpr λe=>dZ (hl.symm.trans (lI.mp s _ (gj.mp e))))).trans (o l hl)
def YS:(gF.map (·.1))=((lu 8).map (·.1)).map .s:=by rw[gF,fC,fC];rfl
def YT:((lu 8).map (·.1)).Nodup:=(Ib 8).nodup (by decide+kernel)
def ams:(gF.map (·.1)).Nodup:=ak YS (xa.mpr (YT.imp λne e=>ne (str_inj e)))
def amt(h:(lu 8)[j]?=M p):bI gF (.s p.1)=M (tp p.2):=Am ams (gW (cO h))
def YU:(lu 8).length<=8:=by have k:=(Ib 8).length_le;rw[bc,bc,fP]at k;exact k
def B1(j:Nat)(h:Hp)(v:Mp)(u:Hp):Prop:=m9 v/\Ou [48,99] u h/\u (48,[])=M (.d (((lu 8).take j).map xY))
variable(hh:B1 j h v u)
def B1.aI:=hh.1
def B1.aC:=hh.2.1
def B1.aF:=hh.2.2
def amu(G:B0 f0 h)(kn:h (64,[])=M (.d gF))(J:B1 j h v u)(hp:(lu 8)[j]?=M p)(q:∀u t,B1 (j+1) h (aJ v 5 (.s p.1)) u->Q .n ⟨aJ v 5 (.s p.1),u,t⟩):WB (n+1) MM Q ⟨aJ v 5 (.s p.1),u,t⟩:=by
 have VV:=J.aI.dw (k:=5) (y:=.s p.1) Y;have CD:u (64,[])=M (.d gF):=(J.aC _ Y).trans kn
 have e1:u (1,[])=M (.i 4 f0):=(J.aC _ Y).trans G.1;have rp:RE ⟨aJ v 5 (.s p.1),u,t⟩ (.s (.v 2) (.v 5)) (tp p.2):=dH (aG VV.aC) (aG Y) (ig CD Y (amt hp))
 have nw:V.s p.1∉(((lu 8).take j).map xY).map (·.1):=λm=>by rw[fC]at m;refine bT (bX.mp m) λp' jb e=>?_;refine pK YT (fU hp) ?_;exact aj AR (aj (str_inj e) (gW jb))
 refine oR (jw (re (aG VV.aI) ⟨_,kW e1 Y Y,rl (aW (aG Y) (aW (dH rp bG (yV Y)) (aW (dH rp bG (yV Y)) bD))) (bO.o (ahy e1 gQ ((J.aC _ Y).trans G.2.2.1) J.aF ?_ nw ?_ λu' t'=>?_))⟩))
 .rw[bc,xb];exact bM (aV (aoU ..) YU) (ao Y)
 .refine oE (VT (cO hp)) λk e=>?_;exact ak e Nb.1
 .refine aM (q _ _ ⟨VV,λl hl=>?_,bo.trans ?_⟩)
  .have c:l.1≠48/\[99].contains l.1=Z:=⟨λe=>by rw[e]at hl;exact b9 hl,nz.mpr λe=>by rw[bK.mp (gj.mp e)]at hl;exact b9 hl⟩
   exact(aQ λe=>c.1 (aq qf e)).trans ((gU c.2).trans (J.aC l hl))
  .rw[take_snoc hp,dF];rfl
def amv(VV:m9 v)(G:B0 f0 h)(kn:h (64,[])=M (.d gF))(q:∀v u t,B1 8 h v u->u (48,[])=M (.d gF)->WB (n+1) r Q ⟨v,u,t⟩):WB (n+1) (.c (.f (.v 5) (.l (.v 2)) MM .n) r) Q ⟨v,h,t⟩:=by
 refine Ac (ks:=(lu 8).map (·.1)) (λj K=>∃v u t,K=⟨v,u,t⟩/\B1 j h v u) (aG VV.aC) (λj K J=>?_) ⟨v,h,t,Y,VV,λa a=>Y,G.2.2.2.2.2.2.2.2.2.1⟩ (λj s K hs J=>?_) λK J=>?_
 .obtain⟨v,u,t,rfl,J⟩:=J;exact⟨_,(J.aC _ Y).trans kn,YS⟩
 .obtain⟨v,u,t,rfl,J⟩:=J;obtain⟨p,hp,rfl⟩:=d7 hs;exact amu G kn J hp λu t J=>⟨_,u,t,Y,J⟩
 .obtain⟨v,u,t,rfl,J⟩:=J;rw[bc]at J;have e:(lu 8).take (lu 8).length=(lu 8).take 8:=by rw[iu,AJ YU]
  refine q v u t ⟨J.aI,J.aC,?_⟩ ?_
  .rw[<-e];exact J.aF
  .exact J.aF.trans (by rw[iu];rfl)
def amw(G:B0 f0 h)(o:Ou [48,99] u h)(g8:u (48,[])=M (.d gF))(fr:∀k y,[2,3,7,8,13].contains k=O->h (k,y)=U):∃F,GA 0 F u:=by
 refine aaU G λa1 a2 a3 a4 a5 a6 a7 a8 a9 a10 a11=>?_;exact⟨λa a=>U,⟨(o _ Y).trans a1,(o _ Y).trans a3,(o _ Y).trans a4,sZ Y ((o _ Y).trans (fr 8 [] Y)),⟨[],(o _ Y).trans a5,Y⟩,⟨(o _ Y).trans a6.1,λs=>by
  have w:=a6.2 s;by_cases c:s∈ts
  .rw[aw c]at w;exact sZ c (w.imp λvs q=>⟨(o _ Y).trans q.1,q.2⟩)
  .rw[au c]at w;exact uH c ((o _ Y).trans w)⟩,(o _ Y).trans a7,sZ Y ((o _ Y).trans (fr 13 [] Y)),(o _ Y).trans a8,(o _ Y).trans a9,g8,⟨[],(o _ Y).trans a11,b8 _⟩,λp h=>ax h (nC p),λp a=>⟨(o _ Y).trans (fr 2 [p] Y),(o _ Y).trans (fr 3 [p] Y),(o _ Y).trans (fr 7 [p] Y)⟩⟩⟩
noncomputable abbrev FZ:Nl:=[2,3,7,8,12,13,41,42,43,44,45,49,62,72,99]
noncomputable abbrev CE:Ss:=["","u","q"]
def B2(k:Nat)(h:Hp)(F:Nat->Mp)(v:Mp)(u:Hp):Prop:=m9 v/\v 6=M (.e (72,[]))/\v 7=M (.i (xZ k:Nat))/\Ou FZ u h/\GA k F u/\(u (72,[])=M (.l ((bQ (k+1)).map λj=>tp (pk j))))/\∀j,k<=j->u (62,[j])=U
section
variable{F:Nat->Mp} (hh:B2 k h F v u)
def B2.aF:=hh.1
def B2.aI:=hh.2.1
def B2.aK:=hh.2.2.1
def B2.aC:=hh.2.2.2.1
def B2.bb:=hh.2.2.2.2.1
def B2.aO:=hh.2.2.2.2.2.1
def B2.bz:=hh.2.2.2.2.2.2
end
variable{F:Nat->Mp} {a s:aP} {m:Mp}
def jQ{R:Nl}{o:af}(af:Ou R u h)(c:R.contains l.1=O):Ou R (u.aH l o) h:=λk hk=>(aQ λe=>by rw[e,c]at hk;exact b9 hk).trans (af k hk)
def F1{R R':Nl}(af:Ou R u h)(s:R'.all R.contains=O):Ou R (mix R' w u) h:=λl hl=>(gU (nz.mpr λe=>dZ (hl.symm.trans (lI.mp s _ (gj.mp e))))).trans (af l hl)
def fX{R:Nl}:Ou R h h:=λa a=>Y
def jK.ou{R:Nl}{r z:Nat}{ks:Ss}(d:jK l r z ks h)(o:Ou R u h)(a:R.contains l.1=Z)(b:R.contains r=Z):jK l r z ks u:=⟨(o _ a).trans d.1,λs=>by
 have w:=d.2 s;by_cases c:s∈ks
 .rw[aw c]at w;exact sZ c (w.imp λvs q=>⟨(o _ b).trans q.1,q.2⟩)
 .rw[au c]at w;exact uH c ((o _ b).trans w)⟩
def YV(G:GA k F h)(o:Ou [62,72,76,99] u h):GA k F u:=⟨(o _ Y).trans G.aC,(o _ Y).trans G.aK,(o _ Y).trans G.aO,by
 have w:=G.bb;by_cases c:k=0
 .rw[aw c]at w⊢;exact(o _ Y).trans w
 .rw[au c]at w⊢;exact(o _ Y).trans w,G.pP.imp λes q=>⟨(o _ Y).trans q.1,q.2⟩,G.aF.ou o Y Y,(o _ Y).trans G.bz,by
 have w:=G.j9;by_cases c:k=0
 .rw[aw c]at w⊢;exact(o _ Y).trans w
 .rw[au c]at w⊢;exact w.imp λvs q=>⟨(o _ Y).trans q.1,q.2⟩,(o _ Y).trans G.d9,(o _ Y).trans G.cC,(o _ Y).trans G.aI,G.wH.imp λxs q=>⟨(o _ Y).trans q.1,q.2⟩,λp hp=>have q:=G.jI p hp;⟨q.aC,(o _ Y).trans q.aF,(o _ Y).trans q.aI⟩,λp hp=>have q:=G.iL p hp;⟨(o _ Y).trans q.1,(o _ Y).trans q.2.1,(o _ Y).trans q.2.2⟩⟩
def I7(G:GA k F h)(o:Ou [62,72,99] u h):GA k F u:=YV G ((fX).tr o Y)
def amy{p:aP->Bool}{f:aP->α}{l:Ss}:l.filterMap (λs=>bif p s then M (f s)else U)=(l.filter p).map f:=by
 induction l with
 |nil=>rfl
 |cons s l ih=>
  rw[Jo,ZT];cases p s
  .exact ih
  .exact aq (f s::·) ih
noncomputable abbrev F2(s:aP):Bool:=!decide (s=sE)
def YW(hk:k<nG):(ss (k+1)).filter F2≠[]:=by refine oE (Fn hk) λr R=>?_;rw[R.aF];exact(by decide+kernel:∀c∈zV,(c.map sN).filter F2≠[]) r (B6 (cO R.aC))
def amz(hk:k<nG):∃a,((ss (k+1)).filter F2)[((ss (k+1)).filter F2).length-1]?=M a/\x1 (ss (k+1))=a:=by refine oE (jy (xg (ZD.mpr (YW hk)) pd)) λa ha=>?_;refine⟨a,ha,?_⟩;unfold x1;rw[List.getLast?_eq_getElem?,ha];rfl
def amA(ha:CE[xZ k%3]?=M a):gO k=if(kn a).isSome then a else dC:=by unfold gO;rw[show(["","u","q"]:Ss)[xZ k%3]?=M a from ha]
def I8:(gO k).length<=16777216/\((gO k).length !=0)=!decide (gO k=dC):=by
 have l:∀a∈CE,a.length<=16777216/\(a.length !=0)=!decide (a=dC):=by decide+kernel
 exact l _ (aaV.elim (λe=>e▸.head _) λh=>h.elim λa h=>h.2.1.symm▸h.1)
def B3(k:Nat)(h:Hp)(F:Nat->Mp)(v:Mp)(u:Hp):Prop:=m9 v/\v 6=M (.e (72,[]))/\v 7=M (.i (xZ (k+1):Nat))/\v 8=M (.e (d8 (k+1)))/\v 9=M (.s (gO k))
variable(hh:B3 k h F v u)
def B3.aF:=hh.1
def B3.aK:=hh.2.1
def B3.aO:=hh.2.2.1
def B3.aI:=hh.2.2.2.1
def B3.aC:=hh.2.2.2.2
theorem YX{R:Nl}(hR:Ru h)(hk:k<=nG)(o:Ou R u h)(a:R.contains 67=Z)(c:R.contains 70=Z):u (d8 k)=M (.l ((ss k).map .s)):=(o _ (by cases k;exact c;exact a)).trans (hR.aF k hk)
def s_z(hk:k<=nG):((ss k).map V.s).length<=6:=by rw[bc];exact dK (oV hk).2
def amC(hR:Ru h)(CG:h (64,[])=M (.d gF))(hk:k<nG)(J:B3 k h F v u)(v10:v 10=M (.s (lst k)))(o:Ou FZ u h)(G:GA k F u)(AE:u (72,[])=M (.l ((bQ (k+1)).map λj=>tp (pk j))))(Pm:∀j,k<=j->u (62,[j])=U)(q:∀F' u t,B2 (k+1) h F' v u->Q .n ⟨v,u,t⟩):WB (n+3) (Sx.gG 4 BQ) Q ⟨v,u,t⟩:=by
 have CD:∀{u},Ou FZ u h->u (64,[])=M (.d gF):=λo=>(o _ Y).trans CG;have zk:k<5:=jV hk kK.2
 have hE:RE ⟨v,u,t⟩ (.sM (.m .In (.v 10) (.v 2)) (.s (.v 2) (.v 10)) (.t (.c (.cS "right") (.c (.cI 0) .n)))) (tp (pk (k+1))):=by
  have t1:=sY (aG (K:=⟨v,u,t⟩) v10) (aG J.aF.aC) (CD o) Y;show RE _ _ (tp (pq (lst k)));cases c:kn (lst k)with
  |none=>
   have e:bI gF (.s (lst k))=U:=zY.trans (aq (Go tp) c);rw[e]at t1;have z:pq (lst k)=Fp:=by unfold pq;rw[c];rfl
   exact ak z (FX (x:=tp Fp) t1 (λe=>b9 e) λa=>jG (aW bW (aW bG bD)) (ao Y))
  |some p=>
   have e:bI gF (.s (lst k))=M (tp p):=zY.trans (aq (Go tp) c);rw[e]at t1;have z:pq (lst k)=p:=by unfold pq;rw[c];rfl
   exact ak z (FX (y:=tp p) t1 (λa=>dH (aG J.aF.aC) (aG v10) (ig (CD o) Y e)) λe=>b9 e)
 refine zJ (aG J.aK) hE Y AE (by rw[bc,fP];exact bM (ZP zk) (ao Y)) ?_
 have s1:(bQ (k+1)).map (λj=>tp (pk j))++[tp (pk (k+1))]=(bQ (k+1+1)).map λj=>tp (pk j):=by rw[C4 (n:=k+1),dF];rfl
 show WB _ _ _ ⟨v,u.aH (72,[]) (.l ((bQ (k+1)).map (λj=>tp (pk j))++[tp (pk (k+1))])),t⟩;rw[s1];have o1:Ou [62,72,99] (u.aH (72,[]) (.l ((bQ (k+1+1)).map λj=>tp (pk j)))) u:=jQ fX Y
 have F3:(u.aH (72,[]) (.l ((bQ (k+1+1)).map λj=>tp (pk j)))) (72,[])=M (.l ((bQ (k+1+1)).map λj=>tp (pk j))):=bo;have f1:∀j,k<=j->(u.aH (72,[]) (.l ((bQ (k+1+1)).map λj=>tp (pk j)))) (62,[j])=U:=λj hj=>(aQ (aU Y)).trans (Pm j hj)
 generalize u.aH (72,[]) (.l ((bQ (k+1+1)).map λj=>tp (pk j)))=u1 at o1 F3 f1⊢;have ob:Ou FZ u1 h:=o.tr o1 Y
 have G1:=I7 G o1;have hs:u1 (d8 (k+1))=M (.l ((ss (k+1)).map .s)):=YX hR hk ob Y Y
 have pz:((pre k).map V.s).length<=2:=by
  rw[bc];unfold pre;by_cases c:gO k=dC
  .rw[aw c];decide
  .rw[au c];exact b8 _
 have fin:OL (n+3) (.ref (bS 25)) [.e (1,[]),.s sE,.e (62,[k])] (λa K=>WB (n+3) .n Q K) ⟨v,(u1.aH (bN t) (.l ((pre k).map .s))).aH (62,[k]) (.l ((ss (k+1)).map V.s++(pre k).map .s)),t+1⟩:=by
  have o2:Ou [62,72,99] ((u1.aH (bN t) (.l ((pre k).map .s))).aH (62,[k]) (.l ((ss (k+1)).map V.s++(pre k).map .s))) u1:=jQ (jQ fX Y) Y;refine bO.o (ahT (I7 G1 o2) hk (bo.trans (aq (λx=>M (af.l x)) (dF ..).symm)) λF' u5 t' G5 f5=>aM (q F' _ _ ⟨J.aF,J.aK,J.aO,F1 (ob.tr o2 Y) Y,G5,(gU Y).trans ((aQ (aU Y)).trans ((aQ (aU Y)).trans F3)),λj hj=>?_⟩));have nj:((62,[j]):Loc)≠(62,[k]):=mz (fQ hj)
  exact(oY Y).trans ((f5 _ λe=>nj (aq (Prod.mk 62) e)).trans ((aQ nj).trans ((aQ (aU Y)).trans (f1 j (rh hj)))))
 have cat:∀{P:QV},P (.e (62,[k])) ⟨v,(u1.aH (bN t) (.l ((pre k).map .s))).aH (62,[k]) (.l ((ss (k+1)).map V.s++(pre k).map .s)),t+1⟩->O2 ⟨v,u1.aH (bN t) (.l ((pre k).map .s)),t+1⟩ (xi .Add) (.e (d8 (k+1))) (.e (bN t)) P:=λp=>by refine Hw (show(u1.aH (bN t) (.l ((pre k).map .s))) (d8 (k+1))=M (.l ((ss (k+1)).map .s)) from(aQ (aU Y)).trans hs) bo (aV (ri (s_z hk) pz) (ao Y)) (dQ (62,[k]) Y (show(u1.aH (bN t) (.l ((pre k).map .s))) (62,[k])=U from(aQ (aU Y)).trans (f1 k (b8 _))) p)
 refine oR (jw (re (aG J.aF.aI) ⟨_,kW G1.aC Y Y,fM (re bW (fM (yW (re (aG J.aI) (DY (fq (aG J.aC) (Lg I8.1) _ _ ?_))))))⟩));rw[I8.2];by_cases c:gO k=dC
 .have e:pre k=[]:=aw c;rw[az c];refine uH dZ (fy (rl (e▸bD) ⟨aV pz (ao Y),jJ (cat (eV fin))⟩))
 .have e:pre k=[qw,gO k]:=au c;rw[aA c];refine sZ Y (fy (rl (e▸aW bW (aW (aG J.aC) bD)) ⟨aV pz (ao Y),jJ (cat (eV fin))⟩))
def amD(hR:Ru h)(CG:h (64,[])=M (.d gF))(hk:k<nG)(J:B3 k h F v u)(o:Ou FZ u h)(G:GA k F u)(AE:u (72,[])=M (.l ((bQ (k+1)).map λj=>tp (pk j))))(Pm:∀j,k<=j->u (62,[j])=U)(q:∀F' v' u t,B2 (k+1) h F' v' u->Q .n ⟨v',u,t⟩):WB (n+3) (Sx.gG 3 BQ) Q ⟨v,u,t⟩:=by
 have fin:∀u2 t2,Ou [99] u2 u->WB (n+3) (Sx.gG 4 BQ) Q ⟨aJ v 10 (.s (lst k)),u2,t2⟩:=λu2 t2 o2=>amC hR CG hk ⟨J.aF.dw Y,J.aK,J.aO,J.aI,J.aC⟩ Y (o.tr o2 Y) (I7 G ((fX).tr o2 Y)) ((o2 _ Y).trans AE) (λj hj=>(o2 _ Y).trans (Pm j hj)) λF' u' t'=>q F' _ u' t';have hr:u (d8 (k+1))=M (.l ((ss (k+1)).map .s)):=YX hR hk o Y Y
 refine cF (DY (fq (aG J.aC) (Lg I8.1) _ _ ?_));rw[I8.2];by_cases c:gO k=dC
 .rw[az c];refine bT (amz hk) λa ha la=>?_;have e:lst k=a:=(aw c).trans la
  refine uH dZ (DX (BF (re (aG J.aI) (qP hr (IQ (ss (k+1)) .s (λs=>bif F2 s then M (.s s)else U) (.inl ⟨Y,Y⟩) (λys i=>⟨_,(aQ (aU Y)).trans hr,Y⟩) (λs hs ys ai le kk=>?_) (re (rD bG) ⟨.s a,Hb (bo.trans (aq (λx=>M (af.l x)) amy)) ?_ ?_,?_⟩))))))
  .exact ag9 xT (bM (aV le (dK (oV hk).2)) (ao Y)) (Nc (aG Y) bW) (aG Y) kk
  .rw[bc];exact ZD.mpr (YW hk)
  .rw[bc];exact fU ha
  .rw[<-e];exact fin _ _ (jQ fX Y)
 .rw[aA c];have e:gO k=lst k:=(au c).symm
  refine sZ Y (re (aG J.aC) ?_);rw[e];exact fin _ _ fX
def amE(hR:Ru h)(CG:h (64,[])=M (.d gF))(hk:k<nG)(J:B2 k h F v u)(q:∀F' v' u t,B2 (k+1) h F' v' u->Q .n ⟨v',u,t⟩):WB (n+3) BQ Q ⟨aJ v 8 (.e (d8 (k+1))),u,t⟩:=by
 obtain⟨a,ha⟩:=jy (l:=CE) (qd _ (ao Y));refine cF (DX (fy (rl (aW bW (aW bW (aW bW bD))) ⟨(ao Y),jJ (re (vn 3 (aG J.aK) (ao Y)) ⟨_,mj bo (fU ha),?_⟩)⟩)));show WB _ _ _ ⟨aJ (aJ v 8 (.e (d8 (k+1)))) 9 (.s a),u.aH (bN t) (.l (CE.map .s)),t+1⟩;have o1:Ou [99] (u.aH (bN t) (.l (CE.map .s))) u:=jQ fX Y
 generalize u.aH (bN t) (.l (CE.map .s))=u1 at o1⊢;refine eZ (wV 3 (aG J.aK) (ao Y) (ao Y)) ?_;have nx:∀vv,B3 k h F vv u1->WB (n+3) (Sx.gG 3 BQ) Q ⟨vv,u1,t+1⟩:=λvv J3=>amD hR CG hk J3 (J.aC.tr o1 Y) (I7 J.bb ((fX).tr o1 Y)) ((o1 _ Y).trans J.aO) (λj hj=>(o1 _ Y).trans (J.bz j hj)) q
 have ne:=amA ha;have e:(bI gF (.s a)).isSome=(kn a).isSome:=by rw[zY];cases kn a<;>rfl
 refine mq (wu (aG Y) (aG J.aF.aC) ((J.aC.tr o1 Y) _ Y|>.trans CG) Y) (λc=>eZ bW (aM (nx _ ⟨((((J.aF.dw Y).dw Y).dw Y).dw Y),J.aI,Y,Y,?_⟩))) λc=>aM (nx _ ⟨(((J.aF.dw Y).dw Y).dw Y),J.aI,Y,Y,?_⟩)
 .rw[e]at c;have z:(kn a).isSome=Z:=by cases h:(kn a).isSome;rfl;rw[h]at c;exact b9 c
  rw[z,au dZ]at ne;exact aq (λx=>M (V.s x)) ne.symm
 .rw[e]at c;have z:(kn a).isSome=O:=by cases h:(kn a).isSome;rw[h]at c;exact b9 c;rfl
  rw[z,aw Y]at ne;exact aq (λx=>M (V.s x)) ne.symm
noncomputable abbrev YY:Nl:=[2,3,7,8,12,13,41,42,43,44,45,48,49,62,72,76,99]
def amF(VV:m9 v)(B:wZ h)(S:Ay h)(G:B0 f0 h)(fr:∀k y,[2,3,7,8,13,62,72,76].contains k=O->h (k,y)=U)
 (q:∀v u t F,m9 v->v 6=M (.e (72,[]))->GA nG F u->u (72,[])=M (.l ((bQ (nG+1)).map λj=>tp (pk j)))->Ou YY u h->WB (n+3) (Sx.gG 8 sX) Q ⟨v,u,t⟩):WB (n+3) (Sx.gG 4 sX) Q ⟨v,h,t⟩:=by
 have fi:∀{k y},[2,3,7,8,13].contains k=O->h (k,y)=U:=λhk=>fr _ _ (gj.mpr ((by decide:∀k∈[2,3,7,8,13],k∈[2,3,7,8,13,62,72,76]) _ (gj.mp hk)))
 refine amv VV G B.aC λv u1 t YZ Nn=>?_;have V1:=YZ.aI
 have o1:=YZ.aC;refine oE (amw G o1 Nn λk y hk=>fi hk) λF G0=>?_;refine cF (fy (rl (aW (jG (aW bW (aW bG bD)) (ao Y)) bD) ⟨(ao Y),dQ (72,[]) Y ((o1 _ Y).trans (fr 72 [] Y)) ?_⟩));show WB _ _ _ ⟨aJ v 6 (.e (72,[])),u1.aH (72,[]) (.l [tp (pk 0)]),t⟩;have o2:Ou [62,72,76,99] (u1.aH (72,[]) (.l [tp (pk 0)])) u1:=jQ fX Y
 have Y0:Ou [72] (u1.aH (72,[]) (.l [tp (pk 0)])) u1:=jQ fX Y;have F3:(u1.aH (72,[]) (.l [tp (pk 0)])) (72,[])=M (.l ((bQ (0+1)).map λj=>tp (pk j))):=bo
 generalize u1.aH (72,[]) (.l [tp (pk 0)])=u2 at o2 Y0 F3⊢;have f2:∀{k y},[48,99].contains k=Z->[72].contains k=Z->h (k,y)=U->u2 (k,y)=U:=λa b e=>(Y0 _ b).trans ((o1 _ a).trans e)
 have O2:Ou YY u2 h:=((fX).tr o1 Y).tr o2 Y;have hR:=B.aF.ou O2 Y Y Y
 have kn2:u2 (64,[])=M (.d gF):=(O2 _ Y).trans B.aC;have V2:=V1.dw (k:=6) (y:=.e (72,[])) Y
 refine cF (kU (rl (aW (aG V2.aO) (aW bG bD)) (bO.o (O6 (⟨(O2 _ Y).trans S.1,S.2⟩) ?_))));have V3:=V2.dw (k:=7) (y:=.i (tc 5:Nat)) Y
 have ln:((bQ (nG+1)).map λk=>V.e (d8 k)).length=nG+1:=by rw[bc,fP]
 refine f6 (nU (qQ (Eo (re (aG V3.aF) (re bG (.inl ⟨(69,[]),_,1,Y,Y,hR.aC,by rw[ln];exact aV (dK (vE kK.2)) (ao Y),dQ (76,[]) Y (f2 Y Y (fr 76 [] Y)) (qP (bo (h:=u2) (l:=(76,[]))) ?_)⟩))))))
 rw[NG (by rw[ln];exact j3 (b7 _))]
 have ed:((bQ (nG+1)).map λk=>V.e (d8 k)).drop 1=(bQ nG).map λk=>V.e (d8 (k+1)):=by rw[Zu,l6,fC];rfl
 rw[ed];have o3:Ou [76] (u2.aH (76,[]) (.l ((bQ nG).map λk=>V.e (d8 (k+1))))) u2:=jQ fX Y
 have I9:(u2.aH (76,[]) (.l ((bQ nG).map λk=>V.e (d8 (k+1))))) (76,[])=M (.l ((bQ nG).map λk=>V.e (d8 (k+1)))):=bo;have key:∀u3,Ou [76] u3 u2->u3 (76,[])=M (.l ((bQ nG).map λk=>V.e (d8 (k+1))))->B2 0 u3 F (aJ (aJ v 6 (.e (72,[]))) 7 (.i (tc 5:Nat))) u3/\Ru u3/\u3 (64,[])=M (.d gF):=λu3 o3 e3=>⟨⟨V3,Y,Y,fX,?_,(o3 _ Y).trans F3,λj c=>(o3 _ Y).trans (f2 Y Y (fr 62 [j] Y))⟩,hR.ou o3 Y Y Y,(o3 _ Y).trans kn2⟩
 .refine oU ((bQ nG).map λk=>.e (d8 (k+1))) (λj K=>∃F v u t,K=⟨v,u,t⟩/\B2 j (u2.aH (76,[]) (.l ((bQ nG).map λk=>V.e (d8 (k+1))))) F v u) (λi K J=>?_) ⟨F,_,_,_,Y,(key _ o3 I9).1⟩ (λj x K hx J=>?_) λK J=>?_
  .obtain⟨F,v,u,t,rfl,J⟩:=J;exact⟨_,(J.aC _ Y).trans I9,Y⟩
  .obtain⟨F,v,u,t,rfl,J⟩:=J;obtain⟨k,hk,rfl⟩:=d7 hx;have lt:=(cG.mp hk).1
   rw[fP]at lt;rw[ny lt]at hk;obtain rfl:=bF hk;exact amE (key _ o3 I9).2.1 (key _ o3 I9).2.2 lt J λF' v' u t J=>⟨F',v',u,t,Y,J⟩
  .obtain⟨F,v,u,t,rfl,J⟩:=J;rw[bc,fP]at J;exact aM (q v u t F J.aF J.aI J.bb J.aO ((O2.tr o3 Y).tr J.aC Y))
 .have o4:Ou [62,72,76,99] u3 u1:=((fX).tr o2 Y).tr o3 Y;exact YV G0 o4
noncomputable abbrev wtR:Nl:=[5,6,9,10,14,15,16,17,20,21,22,23,24,25,26,27,28,29,30,31,32,33,34,35,36,37,38,39,40,52,53,54,55]
noncomputable abbrev Ja:Nl:=[5,6,9,10,14,15,16,17,20,21,22,23,24,25,26,27,28,29,30,31,32,33,34,35,36,37,38,39,40,52,53,54,55,71,73,74,77,78,79,80]
noncomputable abbrev sR:Nl:=[1,2,3,7,13,41,99]
def pU(cs:List It)(L:Ss)(u:Hp):Prop:=jN cs u/\Ru u/\u (64,[])=M (.d gF)/\(u (72,[])=M (.l ((bQ (nG+1)).map λj=>tp (pk j))))/\u (71,[])=M (.l (L.map .s))/\uM L/\∀k y,[73,74,77,78,79,80].contains k=O->u (k,y)=U
section
variable{cs:List It} {L:Ss} (hh:pU cs L u)
def pU.aC:=hh.1
def pU.aF:=hh.2.1
def pU.aO:=hh.2.2.1
def pU.aI:=hh.2.2.2.1
def pU.aK:=hh.2.2.2.2.1
def pU.bz:=hh.2.2.2.2.2.1
def pU.bb:=hh.2.2.2.2.2.2
end
def tW(v:Mp):Prop:=m9 v/\v 6=M (.e (72,[]))/\v 11=M (.e (20,[]))/\v 12=M (.e (71,[]))
variable(hh:tW v)
def tW.aC:=hh.1
def tW.aI:=hh.2.1
def tW.aF:=hh.2.2.1
def tW.aK:=hh.2.2.2
def amI(G:GS F h)(o:Ou [99] u h):GS F u:=⟨(o _ Y).trans G.aC,(o _ Y).trans G.aF,(o _ Y).trans G.bb,(o _ Y).trans G.aO,(o _ Y).trans G.aK,(o _ Y).trans G.iL,(o _ Y).trans G.d9,(o _ Y).trans G.cC,λp hp=>have q:=G.aI p hp;⟨q.aC,(o _ Y).trans q.aF,(o _ Y).trans q.aI⟩,(o _ Y).trans G.bz⟩
def amJ(G:GA nG F h){F':Nat->Mp}(S:GS F' w):GS F' (mix sR w h):=by have n0:nG≠0:=fQ (jV (ao Y) kK.1);exact⟨(oY Y).trans S.aC,(oY Y).trans S.aF,(gU Y).trans (aj (aq (λe=>M (af.d e)) (au n0)) G.aO),(gU Y).trans G.aF.1,(gU Y).trans (aj (aq (λe=>M (af.d e)) (au n0)) G.bz),(gU Y).trans G.d9,(gU Y).trans G.cC,(gU Y).trans G.aI,λp hp=>have q:=S.aI p hp;⟨q.aC,(oY Y).trans q.aF,(oY Y).trans q.aI⟩,(gU Y).trans (uG G.bb n0)⟩
def amK:∀(l:List Ss)(a:Nat),((a:Nat):Int)+(l.map λs=>((s.length:Nat):Int)).sum=((l.foldl (λn l=>n+l.length) a:Nat):Int):=by
 intro l
 induction l with
 |nil=>exactλa=>apz _
 |cons s l ih=>intro a;rw[l6,List.sum_cons,aoY,<-ih,<-Int.add_assoc];rfl
def amL:(bQ (nG+1)).map ss=[sE]::gs:=Js λk=>by
 rw[gX];by_cases c:k<nG+1
 .refine oE (jy (l:=[sE]::gs) c) λa ha=>?_;rw[ny c];show M ((([sE]::gs)[k]?).getD [])=_;rw[ha];rfl
 .rw[jj.mpr (by rw[fP];exact iP.mp c)]
  exact(jj.mpr (iP.mp c)).symm
def amM:((bQ (nG+1)).map λk=>(((ss k).length:Nat):Int)).sum=((([sE]::gs).foldl (λn l=>n+l.length) 0:Nat):Int):=by rw[<-amK,<-amL,fC];exact(apx _).symm
def amN{CC:RQ}(VV:m9 v)(v6:v 6=M (.e (72,[])))(G:GA nG F h)(AE:h (72,[])=M (.l ((bQ (nG+1)).map λj=>tp (pk j))))(B:wZ h)
 (fr:∀k y,Ja.contains k=O->h (k,y)=U)
 (q:∀v cs L u t,tW v->pU cs L u->WB (n+46) (Sx.gG 11 sX) (Rt CC) ⟨v,u,t⟩):WB (n+46) (Sx.gG 8 sX) (Rt CC) ⟨v,h,t⟩:=by
 refine oR (jw (re (aG VV.aI) ⟨_,kW G.aC Y Y,rl (aW bW bD) (bO.o (ahX G λF' w t S=>?_))⟩));have S1:=amJ G S
 have o1:Ou sR (mix sR w h) h:=F1 fX Y;generalize mix sR w h=u1 at S1 o1⊢;have hR:=B.aF.ou o1 Y Y Y
 have V1:RE ⟨v,u1,t⟩ (.v 3) (.e (69,[])):=aG VV.aF;have fin:∀u2 t2,Ou [99] u2 u1->OL (n+46) (.ref (hB 6)) [.e (1,[]),.s pQ] (λx aT=>WB (n+46) (Sx.gG 10 sX) (Rt CC) (aT.dw 11 x)) ⟨v,u2,t2⟩:=λu2 t2 o2=>by
  have CH:=o1.tr o2 Y;have hk:=λ{k} hk=>(by decide:∀k∈Ja,sR.contains k=Z) k (gj.mp hk)
  have f2:=λk y h=>(CH _ (hk h)).trans (fr k y h);refine bO.o (ale (x:=⟨n,u2,t2,_⟩) ⟨⟨F',amI S1 o2⟩,λk y h=>f2 k y ((by decide:∀k∈wtR,Ja.contains k=O) k (gj.mp h)),B.aO.imp λg e=>(CH _ Y).trans e,(CH _ Y).trans B.aK,(CH _ Y).trans B.aI,λcs u3 t3 T=>?_⟩)
  have oT:Ou tR (mix tR u3 u2) u2:=F1 fX Y;have Y1:=(hR.ou o2 Y Y Y).ou oT Y Y Y
  refine cF (kU (rl (aW (aG VV.aF) bD) (bO.o (alO Y1 (show(mix tR u3 u2) (71,[])=U from(gU Y).trans (f2 71 [] Y)) λL w4 t4 fo e71=>?_))))
  show WB (n+46) _ _ ⟨aJ (aJ v 11 (.e (20,[]))) 12 (.e (71,[])),mix [71] w4 (mix tR u3 u2),t4⟩;refine q _ cs L _ _ ⟨(VV.dw Y).dw Y,v6,Y,Y⟩ ⟨?_,Y1.ou (F1 fX Y:Ou [71] _ _) Y Y Y,(gU Y).trans ((gU Y).trans ((CH _ Y).trans B.aC)),(gU Y).trans ((gU Y).trans ((CH _ Y).trans AE)),(oY Y).trans e71,fo,λk y h=>?_⟩
  .exact⟨T.aK,T.aF,T.aC,T.aI,T.aO,T.jI,T.bz,T.cC,T.bb,T.pP,T.j9,T.d9,T.iL⟩
  .have c:=(by decide:∀k∈[73,74,77,78,79,80],[71].contains k=Z/\tR.contains k=Z/\Ja.contains k=O) k (gj.mp h)
   exact(gU c.1).trans ((gU c.2.1).trans (f2 k y c.2.2))
 refine cF (D5 (fM (re (aG VV.aI) (fM (DY (xH (qO Y (fM (BF (re V1 (qP hR.aC (IQ (bQ (nG+1)) (λk=>.e (d8 k)) (λk=>M (.i ((ss k).length))) (.inl ⟨Y,Y⟩) (λys i=>⟨_,(aQ (aU Y)).trans hR.aC,Y⟩) (λk hk ys ai le kk=>?_) (eV (agR (js:=(bQ (nG+1)).map λk=>(((ss k).length))) ?_ (re bG ⟨_,Bn,?_⟩)))))))))))))))
 .have lk:=hO (j4.mp hk);have ln:((ss k).map V.s).length=(ss k).length:=bc ..
  rw[fP]at le;refine E3 xT (bM (aV le (dK (vE kK.2))) (by decide)) (ln▸qu (aG Y) ?_) kk
  exact(show(u1.aH (bN t) (.l ys)) (d8 k)=u1 (d8 k) by cases k<;>exact aQ (aU Y)).trans (hR.aF k lk)
 .refine bo.trans (aq (λx=>M (af.l x)) ?_);rw[fC];exact congrFun Jg _
 .rw[amM,show((10))=((10:Nat):Int) from Y,O0]
  have o2:∀ys,Ou [99] (u1.aH (bN t) (.l ys)) u1:=λys=>jQ fX Y;by_cases c:10<([sE]::gs).foldl (λn l=>n+l.length) 0
  .have e:pQ="SLR":=aw c;rw[az c];have f:=fin _ (t+1) (o2 ((bQ (nG+1)).filterMap λk=>M (.i ((ss k).length))))
   rw[e]at f;exact sZ Y (re bW (eV f))
  .have e:pQ=if fV/3840%2=0 then("LALR":aP)else("SLR"):=au c;rw[aA c];have ha:(["LALR","SLR"]:Ss)[fV/3840%2]?=M pQ:=by
    rw[e];cases Nat.mod_two_eq_zero_or_one (fV/3840)with
    |inl e=>rw[e];rfl
    |inr e=>rw[e];rfl
   refine uH dZ (DX (fy (rl (aW bW (aW bW bD)) ⟨(by decide),jJ (re (vn 2 (wV 3840 (aG VV.aK) (by decide) (by decide)) (by decide)) ⟨_,mj bo (fU ha),?_⟩)⟩)))
   exact eV (fin _ _ (jQ (o2 _) Y))
def Mt(cs:List It)(y v:V):Prop:=(∃z k,y=fW z/\v=.i (k:Nat)/\cs[k]?=M z)\/(v=y/\IsT y Z/\y.cV 7=O)
def F4(x:It)(a:aP)(y:It):Prop:=mv x a=M y/\(Rd x a->gh x.1 a=0)
variable{cs:List It} {x z:It} {v:V} {l:Nl}
def Y2:gh k a=0\/gh k a=1\/gh k a=2:=by
 rw[IU];by_cases c:(pq a).2<(pk k).2\/(pq a).2=(pk k).2/\(pk k).1="left"
 .exact .inr (.inl (aw c))
 .rw[au c];by_cases d:(pq a).2=(pk k).2/\(pk k).1="nonassoc"
  .exact .inr (.inr (aw d))
  .exact .inl (au d)
def Y3:IsT (yh x) Z/\(yh x).cV 7=O:=⟨.inr (.inl ⟨⟨_,Y⟩,Y⟩),Y⟩
def Y4(T:jN cs u)(hx:x∈cs)(h:mv x a=M z)(n:a≠sE)(r:Rd x a->gh x.1 a=0):∃v,Cell cs x a v/\Mt cs (fW z) v:=by obtain⟨k,hk⟩:=sj (T.aO x hx a z h);exact⟨_,.sh h n hk r,.inl ⟨z,k,Y,Y,hk⟩⟩
def Y5(T:jN cs u)(hx:x∈cs)(h:lw x a=M y):∃v,Cell cs x a v/\Mt cs y v:=by
 unfold lw at h;by_cases r:Rd x a
 .rw[aw r]at h;unfold vp at h;cases hm:mv x a with
  |none=>rw[hm]at h;obtain rfl:=bF h;exact⟨_,.r r (.inl hm),.inr ⟨Y,Y3⟩⟩
  |some z=>
   rw[hm]at h;have h:(if gh x.1 a=0 then M (fW z)else if gh x.1 a=2 then M .n else M (yh x))=M y:=h
   rcases Y2 with e|e|e<;>rw[e]at h
   .obtain rfl:=bF h;exact Y4 T hx hm (Pa r.2.2) λb=>e
   .obtain rfl:=bF h;exact⟨_,.r r (.inr e),.inr ⟨Y,Y3⟩⟩
   .obtain rfl:=bF h;exact⟨_,.n r hm e,.inr ⟨Y,.inr (.inr ⟨Y,Y⟩),Y⟩⟩
 .rw[au r]at h;by_cases c:x.1=0/\sym x=U/\a=dP
  .rw[aw c]at h;obtain rfl:=bF h;exact⟨_,.a c.1 c.2.1 c.2.2,.inr ⟨Y,.inr (.inl ⟨⟨_,Y⟩,Y⟩),Y⟩⟩
  .rw[au c]at h;unfold wW at h;by_cases e:a=sE
   .rw[aw e]at h;exact cW h
   .rw[au e]at h;obtain⟨z,hm,rfl⟩:=Ga.mp h;exact Y4 T hx hm e λr'=>ax r' r
def Y6(h:mv x a=M z)(n:a≠sE)(r:Rd x a->gh x.1 a=0):lw x a=M (fW z):=by
 unfold lw;by_cases c:Rd x a
 .rw[aw c];unfold vp;exact ak h (aw (r c))
 .rw[au c,au λd:x.1=0/\sym x=U/\a=dP=>cW (alP.symm.trans (aj d.2.2 h:mv x dP=M z)),wW,au n,h];rfl
def amP(c:Cell cs x a v):∃y,lw x a=M y:=by
 have red:Rd x a->∃y,lw x a=M y:=λr=>by
  unfold lw;rw[aw r];unfold vp;cases mv x a with
  |none=>exact⟨_,Y⟩
  |some z=>rcases Y2 with e|e|e<;>rw[e]<;>exact⟨_,rfl⟩
 cases c with
 |a h1 h2 h3=>exact⟨_,(au λr:Rd x a=>r.1 h1).trans (aw ⟨h1,h2,h3⟩)⟩
 |sh h n hk r=>exact⟨_,Y6 h n r⟩
 |r r _=>exact red r
 |n r _ _=>exact red r
def amQ(T:jN cs u)(hx:x∈cs)(nd:(es.map (·.1)).Nodup)(me:∀k v,(k,v)∈es↔∃a,k=.s a/\Cell cs x a v){N:Nat}(R:oh N dA (lw x)):es.length=dA.length:=by
 have p:(es.map (·.1)).Perm (dA.map (·.1)):=(anP nd R.aK).mpr λk=>by
  constructor
  .intro h;obtain⟨⟨k,v⟩,hm,rfl⟩:=bX.mp h;obtain⟨a,rfl,c⟩:=(me k v).mp hm;refine oE (amP c) λy hy=>?_;have e:=pI (x:=V.s a) (es:=dA)
   rw[R.aC,hy]at e;exact aB e.symm
  .intro h;obtain⟨a,rfl⟩:=R.aI k h;have e:=pI (x:=V.s a) (es:=dA)
   rw[R.aC,az h]at e;refine oE (CR.mp e) λy hy=>?_;refine bT (Y5 T hx hy) λv c b=>?_;exact bX.mpr ⟨_,(me (.s a) v).mpr ⟨a,Y,c⟩,Y⟩
 have q:=p.length_eq
 rwa [bc,bc]at q
def amR(T:jN cs u)(hx:x∈cs)(nd:(es.map (·.1)).Nodup)(me:∀k v,(k,v)∈es↔∃a,k=.s a/\Cell cs x a v)(h:lw x a=M y):∃v,bI es (.s a)=M v/\Mt cs y v:=by refine bT (Y5 T hx h) λv c m=>?_;exact⟨v,Am nd ((me _ _).mpr ⟨a,Y,c⟩),m⟩
def amS:Mn (0,1)/\bE (0,1)/\mv (0,0) sE=M (0,1):=by have s0:sy 0 0=M sE:=Y;exact⟨⟨b7 _,b8 _,.inl Y⟩,⟨pd,s0⟩,x2 s0⟩
def amT(T:jN cs u)(h0:0∈l)(cl:∀j∈l,∀x,cs[j]?=M x->∀a y k,F4 x a y->cs[k]?=M y->k∈l):∀j x,cs[j]?=M x->j∈l:=by
 refine qG amS λm1 b1 e1=>?_;refine oE (sj (T.aO _ (cO T.aC) _ _ e1)) λi hi=>?_;have li:i∈l:=cl 0 h0 _ T.aC sE _ i ⟨e1,λr=>ax Y r.1⟩ hi
 intro j
 induction j using Nat.strongRecOn with
 |ind j ih=>
  intro y hy;by_cases j0:j=0
  .exact ak j0 h0
  .refine bT (T.jI j y (yo j0) hy) λi' lt hW=>xm hW λx s hx hm=>?_;have lx:=ih i' lt x hx
   by_cases r:Rd x s
   .refine fH (B9 hm) λz hz hs e=>?_;have ns:sym x≠M sE:=λe=>cW (r.2.1.symm.trans e)
    have ne:s≠sE:=Pa r.2.2;have zF:z∈eF:=by
     by_cases b:bE x
     .rw[rN b]at hz;rcases cU.mp hz with rfl|hz
      .exact cW (r.2.1.symm.trans hs)
      .exact hz
     .rw[Ft b ns]at hz;rw[bK.mp hz]at hs;exact cW (r.2.1.symm.trans hs)
    have q:mv (0,1) s=M y:=(tF m1 (ak (rN b1) (.tail _ zF)) hs ne).trans (aq M e.symm);exact cl i li _ hi s y j ⟨q,λr=>ax Y r.1⟩ hy
   .exact cl i' lx x hx s y j ⟨hm,λr'=>ax r' r⟩ hy
noncomputable def Pp(p:Nat×It):V:=V.cq [.i (p.1:Nat),fW p.2]
def nh(cs:List It)(i N:Nat)(ab:List (Nat×It))(w:Hp):Prop:=w (80,[i])=M (.l (ab.map Pp))/\(∀p∈ab,cs[p.1]?=M p.2)/\(∀k,i<k->w (80,[k])=U)/\ab.length<=N
section
variable{i N:Nat} {ab:List (Nat×It)} (hh:nh cs i N ab w)
def nh.aI:=hh.1
def nh.aF:=hh.2.1
def nh.aK:=hh.2.2.1
def nh.aC:=hh.2.2.2
end
variable{v:Mp} {v':V} {ab:List (Nat×It)} {ks:Ss}
section
variable{N:Nat}
def nh.aH{p:Nat×It}(D:nh cs i N ab w)(hp:cs[p.1]?=M p.2):nh cs i (N+1) (ab++[p]) (w.aH (80,[i]) (.l (ab.map Pp++[Pp p]))):=⟨bo.trans (aq (λx=>M (af.l x)) (dF (l₂:=[p])).symm),λq hq=>(cZ.mp hq).elim (D.aF q) λhq=>ak (bK.mp hq) hp,λk hk=>(aQ (mz (fQ hk))).trans (D.aK k hk),by rw[dY];exact j3 D.aC⟩
def amU:¬IsT (fW z) Z:=λh=>by
 rcases h with⟨xs,_,e⟩|⟨⟨k,e⟩,_⟩|⟨e,_⟩
 .exact b9 e
 .exact V.noConfusion e
 .exact V.noConfusion e
def l4(lk:bI es (.s a)=M v')(lk':bI dA (.s a)=M y)(mt:Mt cs y v')(w7:w (29,[j])=M (.d es))(sg:w (73,[i])=M (.d dA))(v5:m 5=M (.s a))(AF:m 19=M (.e (73,[i])))(Jb:m 21=M (.e (29,[j])))(AG:m 22=M (.e (80,[i])))(D:nh cs i N ab w)(zN:N<16777216)
 (q:∀w' M',nh cs i (N+1) M' w'->Ou [80] w' w->(∀p∈ab,p∈M')->(∀z,y=fW z->∃k,(k,z)∈M')->Q .n ⟨m,w',t⟩):WB n HS Q ⟨m,w,t⟩:=by
 have tn:=wu (aG (K:=⟨m,w,t⟩) v5) (aG Jb) w7 Y;rw[lk]at tn;have Y7:RE ⟨m,w,t⟩ (.s (.v 21) (.v 5)) v':=dH (aG Jb) (aG v5) (ig w7 Y lk)
 have Pq:RE ⟨m,w,t⟩ (.s (.v 19) (.v 5)) y:=dH (aG AF) (aG v5) (ig sg Y lk');have it:∀b,IsT y b->RT ⟨m,w,t⟩ (.l (.KB (.s (.v 19) (.v 5)))) b:=λb h=>fq (λn Q q=>agT (Pq n _ ⟨b,h,q⟩)) oI
 refine eC tn (aM ?_);rcases mt with⟨z,k,rfl,rfl,hk⟩|⟨rfl,ty,ky⟩
 .refine gN (it O (.inl ⟨_,Y,Y⟩)) (zJ (aG AG) (jG (aW Y7 (aW Pq bD)) (by decide:2<=16777216)) Y D.aI (by rw[bc];exact bM D.aC zN) (aM (aM (q _ (ab++[(k,z)]) (D.aH hk) (jQ fX Y) (λp hp=>dU _ hp) λz' e=>⟨k,dI _ ?_⟩))))
  obtain rfl:=Iq e;exact .head _
 .have cn:=eH Y7 Pq (qN ky ky);rw[az Y]at cn;exact eC (it Z ty) (eC cn (aM (aM (aM (q w ab ⟨D.aI,D.aF,D.aK,jZ D.aC⟩ fX (λp hp=>hp) λz e=>ax ty (ak e amU))))))
end
section
variable{N:Nat}
def amW(h:∀k∈es.map (·.1),∃a,k=V.s a):∃ks:Ss,es.map (·.1)=ks.map .s:=by
 generalize es.map (·.1)=l at h
 induction l with
 |nil=>exact⟨[],Y⟩
 |cons k l ih=>obtain⟨a,rfl⟩:=h k (.head _);obtain⟨ks,e⟩:=ih λk hk=>h k (.tail _ hk);exact⟨a::ks,by rw[e];rfl⟩
def Pr{g:Nat->V}(hj:j<N):bI ((bQ N).map λj=>(V.i (j:Nat),g j)) (.i (j:Nat))=M (g j):=Am (by rw[fC];exact xa.mpr (AO.imp λn e=>n (jT (lT e)))) (gW (j4.mpr hj))
def l4s(T:jN cs h)(hx:x∈cs)(nd:(es.map (·.1)).Nodup)(me:∀k v,(k,v)∈es↔∃a,k=.s a/\Cell cs x a v)(R:oh 30 dA (lw x))(w7:u (29,[j])=M (.d es))(sg:u (73,[i])=M (.d dA))(AF:m 19=M (.e (73,[i])))(Jb:m 21=M (.e (29,[j])))(AG:m 22=M (.e (80,[i])))(D:nh cs i 0 [] u)
 (q:∀v w ab,nh cs i 30 ab w->Ou [80] w u->(∀a z,lw x a=M (fW z)->∃k,(k,z)∈ab)->WB n r Q ⟨ba [5] v m,w,t⟩):WB n (.c (.f (.v 5) (.l (.v 19)) HS .n) r) Q ⟨m,u,t⟩:=by
 refine oE (amW R.aI) λks Jc=>?_;have zk:ks.length<=30:=by have e:=aq JI Jc;rw[bc,bc]at e;exact aj e R.aF
 refine Ac (ks:=ks) (λq K=>q<=ks.length/\∃v w ab,K=⟨ba [5] v m,w,t⟩/\nh cs i q ab w/\Ou [80] w u/\∀a∈ks.take q,∀z,lw x a=M (fW z)->∃k,(k,z)∈ab) (aG AF) (λj K J=>?_) ⟨b7 _,m,u,[],aq (λm=>(⟨m,u,t⟩:AS)) jx,D,fX,λa h=>bA h⟩ (λp s K hs J=>?_) λK J=>?_
 .obtain⟨_,v,w,ab,rfl,D,o,c⟩:=J;exact⟨dA,(o _ Y).trans sg,Jc⟩
 .obtain⟨lp,v,w,ab,rfl,D,o,c⟩:=J;have lt:=(cG.mp hs).1
  have ms:V.s s∈dA.map (·.1):=ak Jc (gW (cO hs));obtain⟨y,hy⟩:∃y,lw x s=M y:=by have e:=pI (x:=V.s s) (es:=dA);rw[R.aC,az ms]at e;exact CR.mp e
  refine bT (amR T hx nd me hy) λv' lk mt=>?_;show WB n HS _ ⟨aJ (ba [5] v m) 5 (.s s),w,t⟩;rw[bZ Y];refine l4 lk ((R.aC s).trans hy) mt ((o _ Y).trans w7) ((o _ Y).trans sg) Y AF Jb AG D (dJ lt (aV zk (ao Y))) λw' M' D' o' s1 s2=>⟨lt,_,w',M',Y,D',o.tr o' Y,λa ha z hz=>?_⟩;rw[take_snoc hs]at ha;rcases cZ.mp ha with ha|ha
  .exact(c a ha z hz).imp λk hk=>s1 _ hk
  .obtain rfl:=bK.mp ha;exact s2 z (bF (hy.symm.trans hz))
 .obtain⟨_,v,w,ab,rfl,D,o,c⟩:=J;refine q v w ab ⟨D.aI,D.aF,D.aK,aV D.aC zk⟩ o λa z hz=>c a ?_ z hz;rw[iu];have e:=pI (x:=V.s a) (es:=dA)
  rw[R.aC,hz]at e;have ma:V.s a∈ks.map V.s:=aj Jc (aB e.symm)
  refine bT (bX.mp ma) λa' ha e=>?_;exact aj (str_inj e) ha
end
variable{c:V}
section
variable{N:Nat}
def amY(hR:Ru w)(mn:Mn x)(v3:m 3=M (.e (69,[])))(rV:m 17=M (.i (x.1:Nat)))(rX:m 18=M (.i (x.2:Nat))):RT ⟨m,w,t⟩ (.fJ O (.c (.m .Lt (.v 18) (.p .l (.c (.s (.v 3) (.v 17)) .n))) (.c (.m .Eq (.s (.s (.v 3) (.v 17)) (.v 18)) (.cS "E")) .n))) (decide (sym x=M sE)):=Bt λn PP q=>by
 have ln:((ss x.1).map V.s).length=(ss x.1).length:=bc ..;have el:=hR.aF x.1 mn.aC
 have r1:RE ⟨m,w,t⟩ (.s (.v 3) (.v 17)) (.e (d8 x.1)):=dH (aG v3) (aG rV) (mj hR.aC (fU (ny (pX mn.aC))));have g:=Ax (aG rX) (ln▸qu r1 el)
 by_cases c:x.2<(ss x.1).length
 .rw[az c]at g;refine oE (jy c) λs hs=>?_;refine Bs g (Br (my (dH r1 (aG rX) (mj el (fU hs))) (bW (x:=sE))) ?_);have e:decide (s=sE)=decide (sym x=M sE):=decide_eq_decide.mpr ⟨λk=>hs.trans (aq M k),λk=>bF (hs.symm.trans k)⟩
  rw[e];exact q
 .rw[aA c]at g;refine xJ g ?_
  rwa [aA λk:sym x=M sE=>c (cG.mp k).1]at q
def l8(mn:Mn x)(hR:Ru w)(lG:w (20,[])=M (.i 6 (aJ F0 37 c)))(e25:w (25,[])=M (.d ((bQ cs.length).map λj=>(.i (j:Nat),.e (30,[j])))))(hj:j<cs.length)(F5:w (30,[j])=M (.d es))(ge:if sym x=M sE then∃i:Nat,cs[i]?=M (x.1,x.2+1)/\es=[(.s sE,.i i)]else es=[])
 (v3:m 3=M (.e (69,[])))(v11:m 11=M (.e (20,[])))(Jd:m 16=M (.i (j:Nat)))(rV:m 17=M (.i (x.1:Nat)))(rX:m 18=M (.i (x.2:Nat)))(AG:m 22=M (.e (80,[i])))(D:nh cs i 30 ab w)(Ps:∀a z,lw x a=M (fW z)->∃k,(k,z)∈ab)
 (q:∀w' M' t',nh cs i 31 M' w'->Ou [80,99] w' w->(∀a z,F4 x a z->∃k,(k,z)∈M')->WB n (Sx.gG 9 BS) Q ⟨aJ m 23 (.e (30,[j])),w',t'⟩):WB n (Sx.gG 7 BS) Q ⟨m,w,t⟩:=by
 refine eZ (dH (ra (aG v11) lG Y Y) (aG Jd) (ig e25 Y (Pr hj))) ?_;have Fz:∀a z,F4 x a z->a≠sE->∃k,(k,z)∈ab:=λa z f ne=>Ps a z (Y6 f.1 ne f.2)
 refine jd (amY hR mn v3 rV rX) (λe=>?_) λe=>?_
 .obtain⟨k,hk,rfl⟩:=H7 ge e;refine Fi (xH (qO Y (fM (re (aG Y) (eV (ami (ss:=[sE]) F5 Y (ao Y) (jJ (fy (rl (aW bW bD) ⟨(ao Y),jJ ⟨Z,ag7 (uF λe=>Z3 _ (d6 (cP e).2).1.symm) bo (λy hy=>ak (bK.mp hy) Y),Y,?_⟩⟩)))))))));show WB n _ _ ⟨aJ m 23 (.e (30,[j])),(w.aH (bN t) (.l [.s "E"])).aH (bN (t+1)) (.l [.s "E"]),t+1+1⟩;have o1:Ou [99] ((w.aH (bN t) (.l [.s "E"])).aH (bN (t+1)) (.l [.s "E"])) w:=jQ (jQ fX Y) Y
  generalize(w.aH (bN t) (.l [.s "E"])).aH (bN (t+1)) (.l [.s "E"])=w1 at o1⊢;have D1:nh cs i 30 ab w1:=⟨(o1 _ Y).trans D.aI,D.aF,λk hk=>(o1 _ Y).trans (D.aK k hk),D.aC⟩
  refine zJ (aG AG) (jG (aW (dH (aG Y) bW (ig ((o1 _ Y).trans F5) Y (aw Y))) (aW (jG (aW (aG rV) (aW (jv (aG rX) bG qm) bD)) (by decide:2<=16777216)) bD)) (by decide:2<=16777216)) Y D1.aI (by rw[bc];exact bM D.aC (ao Y)) (aM (q _ (ab++[(k,(x.1,x.2+1))]) _ (D1.aH hk) (jQ ((fX).tr o1 Y) Y) λa z f=>?_))
  by_cases ne:a=sE
  .have z2:=(Fv mn (aj ne f.1)).2;exact⟨k,aj z2 (dI _ (.head _))⟩
  .exact(Fz a z f ne).imp λk hk=>dU _ hk
 .obtain rfl:=uG ge e;refine Fi (xH (re (aG Y) (mO (jJ ⟨Z,amk (show(w.aH (bN t) (.d [])) (30,[j])=_ from(aQ (aU Y)).trans F5) bo,Y,?_⟩))))
  have o1:Ou [99] (w.aH (bN t) (.d [])) w:=jQ fX Y;refine aM (q _ ab _ ⟨(o1 _ Y).trans D.aI,D.aF,λk hk=>(o1 _ Y).trans (D.aK k hk),jZ D.aC⟩ ((fX).tr o1 Y) λa z f=>Fz a z f λne=>e (Fv mn (aj ne f.1)).1)
end
noncomputable def iN(cs:List It)(j:Nat):It:=(cs[j]?).getD (0,0)
noncomputable def mH(cs:List It)(l:Nl):Es:=l.map λj=>(.i (j:Nat),fW (iN cs j))
def oj(cs:List It)(l:Nl)(w:Hp):Prop:=w (77,[])=M (.d (mH cs l))/\(w (78,[])=M (.l (l.map λj=>.i (j:Nat))))/\l.Nodup/\∀j∈l,j<cs.length
variable(hh:oj cs l w)
def oj.aC:=hh.1
def oj.aK:=hh.2.1
def oj.aI:=hh.2.2.1
def oj.aF:=hh.2.2.2
section
variable{N:Nat}
def vt(h:cs[k]?=M z):iN cs k=z:=by unfold iN;rw[h];rfl
def Pt:((mH cs l).map (·.1))=l.map λj=>V.i (j:Nat):=fC ..
def Y8:V.i (k:Nat)∈(mH cs l).map (·.1)↔k∈l:=by exact ak Pt ⟨λh=>(bX.mp h).elim λj e=>jT (lT e.2)▸e.1,λh=>gW h⟩
def oj.lB(T:oj cs l w):l.length<=cs.length:=by
 have e:=ly T.aI λj hj=>j4.mpr (T.aF j hj)
 rwa [fP]at e
def l5(nd:cs.Nodup)(zc:cs.length<=100)(T:oj cs l w)(hk:cs[k]?=M z)(lG:w (20,[])=M (.i 6 (aJ F0 37 c)))(CJ:w (23,[])=M (.d ((bQ cs.length).map λj=>(.i (j:Nat),.e (29,[j])))))(F6:m 24=M (.i (k:Nat)))(v5:m 5=M (fW z))(v11:m 11=M (.e (20,[])))(oe:m 13=M (.e (77,[])))(mE:m 14=M (.e (78,[])))
 (q:∀w' e,oj cs (l++e) w'->Ou [77,78] w' w->k∈l++e->Q .n ⟨m,w',t⟩):WB n MN Q ⟨m,w,t⟩:=by
 have lk:=(cG.mp hk).1;have tn:=wu (aG (K:=⟨m,w,t⟩) F6) (ra (a:=32) (aG v11) lG Y Y) CJ Y
 rw[Pr lk]at tn;refine eC tn (aM ?_);have ti:=sY (aG (K:=⟨m,w,t⟩) F6) (aG oe) T.aC Y
 rw[pI]at ti;refine jd ti (λhc=>?_) λhc=>?_
 .have kl:k∈l:=Y8.mp hc;have look:bI (mH cs l) (.i k)=M (fW z):=aj (vt hk) (Am (ak Pt (xa.mpr (T.aI.imp λn e=>n (jT (lT e))))) (gW kl))
  have cn:=eH (dH (aG (K:=⟨m,w,t⟩) oe) (aG F6) (ig T.aC Y look)) (aG v5) (qN Y Y);rw[az Y]at cn;exact eC cn (aM (aM (aM (q w [] (by rw[i8];exact T) fX (by rw[i8];exact kl)))))
 .have kl:k∉l:=λh=>hc (Y8.mpr h);refine eC (amg (aG v5) (aG oe) T.aC (λe he=>?_) (λe he=>?_) Y λe he=>?_) ?_
  .obtain⟨j,_,rfl⟩:=bX.mp he;exact⟨_,Y⟩
  .obtain⟨j,_,rfl⟩:=bX.mp he;rfl
  .obtain⟨j,hj,rfl⟩:=bX.mp he;intro e;refine oE (jy (T.aF j hj)) λx hx=>?_;have e:=Iq e
   rw[vt hx]at e;subst e;exact kl (ak ((ua lk nd).mp (hk.trans hx.symm)) hj)
  .have zl:l.length<=100:=aV T.lB zc;refine wo (aG v5) (aG oe) (aG F6) T.aC Y (by rw[mH,bc];exact bM zl (ao Y)) ?_
   rw[mw hc];have e1:mH cs l++[(.i k,fW z)]=mH cs (l++[k]):=by rw[mH,mH,dF,aou,vt hk]
   rw[e1];refine zJ (aG mE) (aG F6) Y (show(w.aH (77,[]) (.d (mH cs (l++[k])))) (78,[])=_ from(aQ (aU Y)).trans T.aK) (by rw[bc];exact bM zl (ao Y)) (aM (aM (aM (q ((w.aH (77,[]) (.d (mH cs (l++[k])))).aH (78,[]) (.l ((l.map λj:Nat=>V.i j)++[V.i k]))) [k] ⟨(aQ (aU Y)).trans bo,bo.trans (aq (λx=>M (af.l x)) (dF (l₂:=[k])).symm),mK T.aI kl,λj hj=>(cZ.mp hj).elim (T.aF j) λhj=>ak (bK.mp hj) lk⟩ (jQ (jQ fX Y) Y) (dI _ (.head _))))))
def l5s(nd:cs.Nodup)(zc:cs.length<=100)(T:oj cs l u)(D:nh cs i 31 ab u)(lG:u (20,[])=M (.i 6 (aJ F0 37 c)))(CJ:u (23,[])=M (.d ((bQ cs.length).map λj=>(.i (j:Nat),.e (29,[j])))))(v11:m 11=M (.e (20,[])))(oe:m 13=M (.e (77,[])))(mE:m 14=M (.e (78,[])))(AG:m 22=M (.e (80,[i])))
 (q:∀v w e,oj cs (l++e) w->Ou [77,78] w u->(∀p∈ab,p.1∈l++e)->Q .n ⟨ba [24,5] v m,w,t⟩):WB n (Sx.gG 9 BS) Q ⟨m,u,t⟩:=by
 refine XE (λp:Nat×It=>.i (p.1:Nat)) (λp=>fW p.2) ab (λq K=>∃v w e,K=⟨ba [24,5] v m,w,t⟩/\oj cs (l++e) w/\Ou [77,78] w u/\∀p∈ab.take q,p.1∈l++e) (aG AG) (λj K J=>?_) ⟨m,u,[],aq (λm=>(⟨m,u,t⟩:AS)) jx,by rw[i8];exact T,fX,λp h=>bA h⟩ (λj p K hp J=>?_) λK J=>?_
 .obtain⟨v,w,e,rfl,T,o,s⟩:=J;exact(o _ Y).trans D.aI
 .obtain⟨v,w,e,rfl,T,o,s⟩:=J;show WB n MN _ ⟨aJ (aJ (ba [24,5] v m) 24 (.i (p.1:Nat))) 5 (fW p.2),w,t⟩;rw[bZ Y,bZ Y];refine l5 nd zc T (D.aF p (cO hp)) ((o _ Y).trans lG) ((o _ Y).trans CJ) Y Y v11 oe mE λw' e' T' o' ke=>⟨_,w',e++e',Y,by rw[<-q9];exact T',o.tr o' Y,λp' jb=>?_⟩
  rw[take_snoc hp]at jb;rw[<-q9];rcases cZ.mp jb with jb|jb
  .exact dU _ (s p' jb)
  .exact ak (bK.mp jb) ke
 .obtain⟨v,w,e,rfl,T,o,s⟩:=J;rw[iu]at s;exact aM (q v w e T o s)
end
noncomputable abbrev F7:Nl:=[73,74,77,78,79,80,99]
def Kv(m v:Mp):Prop:=v 0=m 0/\v 1=m 1/\v 2=m 2/\v 3=m 3/\v 4=m 4/\v 6=m 6/\v 11=m 11/\v 12=m 12/\v 13=m 13/\v 14=m 14/\v 15=m 15
variable(hh:Kv m v)
def Kv.jI:=hh.1
def Kv.iL:=hh.2.1
def Kv.aK:=hh.2.2.1
def Kv.aI:=hh.2.2.2.1
def Kv.aF:=hh.2.2.2.2.1
def Kv.aC:=hh.2.2.2.2.2.1
def Kv.d9:=hh.2.2.2.2.2.2.1
def Kv.cC:=hh.2.2.2.2.2.2.2.1
def Kv.bz:=hh.2.2.2.2.2.2.2.2.1
def Kv.bb:=hh.2.2.2.2.2.2.2.2.2.1
def Kv.aO:=hh.2.2.2.2.2.2.2.2.2.2
section
variable{N:Nat} {L:Ss}
def Kv.ww(ai:Kv m v)(W:tW m):tW v:=⟨⟨ai.jI.trans W.aC.aO,ai.iL.trans W.aC.aK,ai.aK.trans W.aC.aC,ai.aI.trans W.aC.aF,ai.aF.trans W.aC.aI⟩,ai.aC.trans W.aI,ai.d9.trans W.aF,ai.cC.trans W.aK⟩
def l3b(LD:pU cs L u0)(o:Ou F7 u u0)(W:tW m)(oe:m 13=M (.e (77,[])))(mE:m 14=M (.e (78,[])))(Jd:m 16=M (.i (j:Nat)))(rV:m 17=M (.i (x.1:Nat)))(rX:m 18=M (.i (x.2:Nat)))(AF:m 19=M (.e (73,[i])))(hj:cs[j]?=M x)
 (sg:u (73,[i])=M (.d dA))(R:oh 30 dA (lw x))(T:oj cs l u)(Y9:∀k,i<=k->u (80,[k])=U)
 (q:∀v w e t,Kv m v->oj cs (l++e) w->Ou [77,78,80,99] w u->(∀k,i<k->w (80,[k])=U)->(∀a y k,F4 x a y->cs[k]?=M y->k∈l++e)->Q .n ⟨v,w,t⟩):WB n (Sx.gG 3 BS) Q ⟨m,u,t⟩:=by
 have T0:=LD.aC;have hx:=cO hj
 have lj:=(cG.mp hj).1;refine oE T0.bz λc lG=>?_;have lG:=(o _ Y).trans lG
 have CJ:=(o _ Y).trans T0.cC;refine fH (T0.pP j x hj) λes w7 nd me=>?_;have w7:=(o _ Y).trans w7
 refine bT (T0.j9 j x hj) λeg F5 ge=>?_;refine eZ (dH (ra (aG W.aF) lG Y Y) (aG Jd) (ig CJ Y (Pr lj))) ?_;have cn:=eH (wt (aG (K:=⟨aJ m 21 (.e (29,[j])),u,t⟩) (i:=21) Y) λn Q q=>Ee w7 q) (wt (aG (i:=19) AF) λn Q q=>Ee sg q) (qN Y Y)
 rw[amQ T0 hx nd me R,az Y]at cn;refine eC cn (aM (cF (fy (eV ⟨b7 _,dQ (80,[i]) Y (Y9 i (b8 i)) ?_⟩))));show WB n _ _ ⟨aJ (aJ m 21 (.e (29,[j]))) 22 (.e (80,[i])),u.aH (80,[i]) (.l []),t⟩;have o1:Ou [80] (u.aH (80,[i]) (.l [])) u:=jQ fX Y
 have D0:nh cs i 0 [] (u.aH (80,[i]) (.l [])):=⟨bo,λp h=>bA h,λk hk=>(aQ (mz (fQ hk))).trans (Y9 k (dK hk)),b8 _⟩;generalize u.aH (80,[i]) (.l [])=u1 at o1 D0⊢;refine l4s T0 hx nd me R ((o1 _ Y).trans w7) ((o1 _ Y).trans sg) AF Y Y D0 λv1 w1 ab D1 o2 Ps=>?_;have o3:Ou [80] w1 u:=o1.tr o2 Y
 have R3:Ru w1:=(LD.aF.ou o Y Y Y).ou o3 Y Y Y;refine l8 (T0.aI x hx) R3 ((o3 _ Y).trans lG) ((o3 _ Y).trans ((o _ Y).trans T0.bb)) lj ((o3 _ Y).trans ((o _ Y).trans F5)) ge W.aC.aF W.aF Jd rV rX Y D1 Ps λw2 M2 t2 D2 o4 am2=>?_;have o5:Ou [80,99] w2 u:=((fX).tr o3 Y).tr o4 Y
 have T2:oj cs l w2:=⟨(o5 _ Y).trans T.aC,(o5 _ Y).trans T.aK,T.aI,T.aF⟩;refine l5s T0.aF T0.aK T2 D2 ((o5 _ Y).trans lG) ((o5 _ Y).trans CJ) W.aF oe mE Y λv3 w3 e T3 o6 s=>?_;refine q _ w3 e t2 ⟨Y,Y,Y,Y,Y,Y,Y,Y,Y,Y,Y⟩ T3 (((fX).tr o5 Y).tr o6 Y) (λk hk=>(o6 _ Y).trans (D2.aK k hk)) λa y k f hk=>?_;refine oE (am2 a y f) λk' Za=>?_;have e:=D2.aF _ Za
 have e1:k'=k:=(ua (cG.mp e).1 T0.aF).mp (e.trans hk.symm);exact aj e1 (s _ Za)
end
def Wk(cs:List It)(L:Ss)(u0:Hp)(i:Nat)(l:Nl)(cl:List Cf)(v:Mp)(w:Hp):Prop:=tW v/\v 13=M (.e (77,[]))/\v 14=M (.e (78,[]))/\v 15=M (.e (79,[i]))/\Ou F7 w u0/\oj cs l w/\w (79,[i])=M (.l (cl.map gS))/\cl.Nodup/\(∀p:Cf,p∈cl↔p.1∈l.take i/\Told (iN cs p.1) p.2)/\(∀j∈l.take i,∀a y k,F4 (iN cs j) a y->cs[k]?=M y->k∈l)/\(∀k,i<=k->w (73,[k])=U/\w (74,[k])=U)/\(∀k,i<=k->w (80,[k])=U)/\(∀k,i<k->w (79,[k])=U)/\l[(0:Nat)]?=M 0
section
variable{L:Ss} {cl:List Cf} (hh:Wk cs L u0 i l cl v w)
def Wk.j9:=hh.1
def Wk.aK:=hh.2.1
def Wk.bz:=hh.2.2.1
def Wk.bb:=hh.2.2.2.1
def Wk.aF:=hh.2.2.2.2.1
def Wk.aC:=hh.2.2.2.2.2.1
def Wk.jI:=hh.2.2.2.2.2.2.1
def Wk.aO:=hh.2.2.2.2.2.2.2.1
def Wk.aI:=hh.2.2.2.2.2.2.2.2.1
def Wk.iL:=hh.2.2.2.2.2.2.2.2.2.1
def Wk.wH:=hh.2.2.2.2.2.2.2.2.2.2.1
def Wk.pP:=hh.2.2.2.2.2.2.2.2.2.2.2.1
def Wk.d9:=hh.2.2.2.2.2.2.2.2.2.2.2.2.1
def Wk.cC:=hh.2.2.2.2.2.2.2.2.2.2.2.2.2
end
noncomputable def c45:List Cf:=(bQ 5).flatMap λk=>U1.map λa=>(k,a)
section
variable{L:Ss} {cl:List Cf}
def Zb(T:jN cs u)(nd:cl.Nodup)(h:∀p∈cl,p.1<cs.length/\Told (iN cs p.1) p.2):cl.length<=45:=by
 have Pu:∀p∈cl,∃x,cs[p.1]?=M x/\iN cs p.1=x/\Mn x/\x.2=(ss x.1).length:=λp hp=>by
  refine oE (jy (h p hp).1) λx hx=>?_;have e:=vt hx
  have m:=T.aI x (cO hx);exact⟨x,hx,e,m,pY m.aF (jj.mp (aj e (h p hp).2.1.2.1))⟩
 have n2:(cl.map λp=>(((iN cs p.1).1,p.2):Cf)).Nodup:=xa.mpr (nd.imp_of_mem λ{p q} hp hq ne e=>ne (by
  refine pB (Pu p hp) λx hx ex a zx=>?_;refine pB (Pu q hq) λy hy ey a zy=>?_;rw[ex,ey]at e;have e1:x.1=y.1:=(cP e).1
  have e2:x=y:=ru e1 (by rw[zx,zy,e1])
  subst e2;exact ru ((ua (h p hp).1 T.aF).mp (hx.trans hy.symm)) (cP e).2))
 have s:∀q∈cl.map λp=>(((iN cs p.1).1,p.2):Cf),q∈c45:=λq hq=>by obtain⟨p,hp,rfl⟩:=bX.mp hq;refine pB (Pu p hp) λx hx ex m a=>?_;exact ZS.mpr ⟨_,j4.mpr (ex▸bM m.aC kK.2),gW (oX (h p hp).2.1.2.2)⟩
 have e:=ly n2 s;rw[bc]at e;exact aV e (ao Y)
def Wk.lB(LD:pU cs L u0)(ai:Wk cs L u0 i l cl v w):cl.length<=45:=Zb LD.aC ai.aO λp hp=>have q:=(ai.aI p).mp hp;⟨ai.aC.aF _ (Gd q.1),q.2⟩
def turn(LD:pU cs L u0)(ai:Wk cs L u0 i l cl v w)(hj:l[i]?=M j)(q:∀v w t e cl,Wk cs L u0 (i+1) (l++e) cl v w->Q .n ⟨v,w,t⟩):WB (n+1) BS Q ⟨aJ v 16 (.i (j:Nat)),w,t⟩:=by
 have T0:=LD.aC;have W:=ai.j9
 have lj:=ai.aC.aF j (cO hj);refine oE (jy lj) λx hx=>?_;have ex:=vt hx
 have look:bI (mH cs l) (.i j)=M (fW x):=aj ex (Am (ak Pt (xa.mpr (ai.aC.aI.imp λn e=>n (jT (lT e))))) (gW (cO hj)));refine hM (xN (re (dH (aG ai.aK) (aG Y) (ig ai.aC.aC Y look)) ⟨[.i (x.1:Nat),.i (x.2:Nat)],Y,Y,?_⟩));have P:o7 x i L w:=⟨LD.aF.ou ai.aF Y Y Y,(ai.aF _ Y).trans LD.aI,(ai.aF _ Y).trans LD.aO,(ai.aF _ Y).trans LD.aK,LD.bz,T0.aI x (cO hx),ai.wH⟩
 refine hM (xN (kU (rl (aW (aG W.aC.aF) (aW (aG W.aI) (aW (aG W.aC.aC) (aW (aG W.aK) (aW (aG Y) (aW (aG Y) bD)))))) (bO.o (alX P λw1 T t1 D=>⟨[.e (73,[i]),.e (74,[i])],Y,Y,?_⟩)))));show WB (n+1) _ _ ⟨aJ (aJ (aJ (aJ (aJ v 16 (.i j)) 17 (.i (x.1:Nat))) 18 (.i (x.2:Nat))) 19 (.e (73,[i]))) 20 (.e (74,[i])),mix dR w1 w,t1⟩;have o1:Ou dR (mix dR w1 w) w:=F1 fX Y
 refine bT D.aO λdA sg R=>?_;have sg:(mix dR w1 w) (73,[i])=M (.d dA):=(oY Y).trans sg
 have Px:(mix dR w1 w) (74,[i])=M (.l (T.map .s)):=(oY Y).trans D.aK;have f2:tO i (mix dR w1 w):=λk hk=>⟨(oY Y).trans (D.aI k hk).1,(oY Y).trans (D.aI k hk).2⟩
 generalize mix dR w1 w=u1 at o1 sg Px f2⊢;have zT:T.length<=9:=aV (ly D.aF λa ha=>oX ((D.aC a).mp ha).1.2.2) (ao Y)
 have zc:=ai.lB LD;refine cF (yW (re (aG ai.bb) (BF (re (aG Y) (qP Px (IQ T .s (λa=>M (gS (j,a))) (.inl ⟨Y,Y⟩) (λys q=>⟨_,(aQ (aU Y)).trans Px,Y⟩) (λa ha ys Kk le kk=>?_) (Hw (ws:=(T.map λa=>(j,a)).map gS) (show(u1.aH (bN t1) (.l (T.filterMap λa=>M (gS (j,a))))) (79,[i])=_ from(aQ (aU Y)).trans ((o1 _ Y).trans ai.jI)) (bo.trans (aq (λx=>M (af.l x)) ?_)) ?_ (dQ (79,[i+1]) Y (show(u1.aH (bN t1) (.l (T.filterMap λa=>M (gS (j,a))))) (79,[i+1])=U from(aQ (aU Y)).trans ((o1 _ Y).trans (ai.d9 _ (i7 i)))) ?_))))))))
 .exact E3 xT (bM (aV le zT) (ao Y)) (jG (aW (aG Y) (aW (aG Y) (aW bW bD))) (by decide:3<=16777216)) kk
 .rw[fC];exact congrFun Jg _
 .rw[bc,bc,bc];exact aV (ri zc zT) (ao Y)
 show WB (n+1) _ _ ⟨aJ (aJ (aJ (aJ (aJ (aJ v 16 (.i j)) 17 (.i (x.1:Nat))) 18 (.i (x.2:Nat))) 19 (.e (73,[i]))) 20 (.e (74,[i]))) 15 (.e (79,[i+1])),(u1.aH (bN t1) (.l (T.filterMap λa=>M (gS (j,a))))).aH (79,[i+1]) (.l (cl.map gS++(T.map λa=>(j,a)).map gS)),t1+1⟩;have o2:Ou [79,99] ((u1.aH (bN t1) (.l (T.filterMap λa=>M (gS (j,a))))).aH (79,[i+1]) (.l (cl.map gS++(T.map λa=>(j,a)).map gS))) u1:=jQ (jQ fX Y) Y
 have c2:((u1.aH (bN t1) (.l (T.filterMap λa=>M (gS (j,a))))).aH (79,[i+1]) (.l (cl.map gS++(T.map λa=>(j,a)).map gS))) (79,[i+1])=M (.l ((cl++T.map λa=>(j,a)).map gS)):=bo.trans (aq (λx=>M (af.l x)) (dF ..).symm);have f3:∀k,i+1<k->((u1.aH (bN t1) (.l (T.filterMap λa=>M (gS (j,a))))).aH (79,[i+1]) (.l (cl.map gS++(T.map λa=>(j,a)).map gS))) (79,[k])=U:=λk hk=>(aQ (mz (fQ hk))).trans ((aQ (aU Y)).trans ((o1 _ Y).trans (ai.d9 k (PW hk))))
 generalize(u1.aH (bN t1) (.l (T.filterMap λa=>M (gS (j,a))))).aH (79,[i+1]) (.l (cl.map gS++(T.map λa=>(j,a)).map gS))=u2 at o2 c2 f3⊢;have o3:Ou [73,74,79,99] u2 w:=((fX).tr o1 Y).tr o2 Y
 have N2:oj cs l u2:=⟨(o3 _ Y).trans ai.aC.aC,(o3 _ Y).trans ai.aC.aK,ai.aC.aI,ai.aC.aF⟩;refine l3b LD (ai.aF.tr o3 Y) ⟨⟨W.aC.aO,W.aC.aK,W.aC.aC,W.aC.aF,W.aC.aI⟩,W.aI,W.aF,W.aK⟩ ai.aK ai.bz Y Y Y Y hx ((o2 _ Y).trans sg) R N2 (λk hk=>(o3 _ Y).trans (ai.pP k hk)) λv' w' e t' Kk N' o4 f8 yg=>?_;have lt:=(cG.mp hj).1
 have tk:(l++e).take (i+1)=l.take i++[j]:=by rw[anH lt,take_snoc hj]
 have jn:j∉l.take i:=pK ai.aC.aI hj;refine q v' w' t' e (cl++T.map λa=>(j,a)) ⟨Kk.ww ⟨⟨W.aC.aO,W.aC.aK,W.aC.aC,W.aC.aF,W.aC.aI⟩,W.aI,W.aF,W.aK⟩,Kk.bz.trans ai.aK,Kk.bb.trans ai.bz,Kk.aO,(ai.aF.tr o3 Y).tr o4 Y,N',(o4 _ Y).trans c2,?_,λp=>?_,λj' lV a y k f hk=>?_,λk hk=>⟨(o4 _ Y).trans ((o2 _ Y).trans (f2 k hk).1),(o4 _ Y).trans ((o2 _ Y).trans (f2 k hk).2)⟩,λk hk=>f8 k hk,λk hk=>(o4 _ Y).trans (f3 k hk),?_⟩
 .refine t8.mpr ⟨ai.aO,xa.mpr (D.aF.imp λn e=>n (cP e).2),λp hp p' jb e=>?_⟩;obtain⟨a,_,rfl⟩:=bX.mp jb;exact jn (aj e ((ai.aI p).mp hp).1:(j,a).1∈l.take i)
 .rw[tk,cZ,cZ,ai.aI]
  constructor
  .rintro(⟨h1,h2⟩|h)
   .exact⟨.inl h1,h2⟩
   .obtain⟨a,ha,rfl⟩:=bX.mp h;exact⟨.inr (.head _),aj ex.symm ((D.aC a).mp ha)⟩
  .rintro⟨h1|h1,h2⟩
   .exact .inl ⟨h1,h2⟩
   .have e:=bK.mp h1;exact .inr (bX.mpr ⟨p.2,(D.aC _).mpr (by rw[e,ex]at h2;exact h2),ru e.symm Y⟩)
 .rw[tk]at lV;rcases cZ.mp lV with lV|lV
  .exact dU _ (ai.iL j' lV a y k f hk)
  .rw[bK.mp lV,ex]at f;exact yg a y k f hk
 .exact ak (AI (bM (b7 i) lt)) ai.cC
end
section
variable{L:Ss} {cl:List Cf}
def am4(LD:pU cs L u0)(ai:Wk cs L u0 l.length l cl v w):(∀j x,cs[j]?=M x->j∈l)/\l.length=cs.length:=by
 have a:=amT LD.aC (cO ai.cC) λj hj x hx a y k f hk=>ai.iL j (by rw[iu];exact hj) a y k (aj (vt hx).symm f) hk
 refine⟨a,pY ai.aC.lB ?_⟩;have e:=ly AO λj hj=>(jy (j4.mp hj)).elim λx hx=>a j x hx
 rwa [fP]at e
def am5(LD:pU cs L u0)(ai:Wk cs L u0 l.length l cl v w):WB n (Sx.gG 15 sX) (Rt Pj) ⟨v,w,t⟩:=by
 refine oA (am4 LD ai) λall le=>?_;have T:=LD.aC
 have W:=ai.j9;refine oE T.bz λc lG=>?_;have lG:∀{w},Ou F7 w u0->w (20,[])=M (.i 6 (aJ F0 37 c)):=λo=>(o _ Y).trans lG
 have tb:∀{w t}{a:Nat}{y:V},Ou F7 w u0->ku 6 a=O->(aJ F0 37 c) a=M y->RE ⟨v,w,t⟩ (.a (.v 11) a) y:=λo d e=>ra (aG W.aF) (lG o) d e;have Zd:RE ⟨v,w,t⟩ (.p .l (.c (.v 13) .n)) (.i (cs.length)):=by
  have e:=wt (aG (K:=⟨v,w,t⟩) ai.aK) λn Q q=>Ee ai.aC.aC q;rw[show(mH cs l).length=cs.length from(bc ..).trans le]at e
  exact e
 have rl:∀r,((bQ cs.length).map λj=>((V.i (j:Nat),V.e (r,[j])))).length=cs.length:=λr=>(bc ..).trans fP;have l32:RE ⟨v,w,t⟩ (.p .l (.c (.a (.v 11) 32) .n)) (.i (cs.length)):=aj (rl 29) (wt (tb ai.aF Y Y) λn Q q=>Ee ((ai.aF _ Y).trans T.cC) q)
 have l33:RE ⟨v,w,t⟩ (.p .l (.c (.a (.v 11) 33) .n)) (.i (cs.length)):=aj (rl 30) (wt (tb ai.aF Y Y) λn Q q=>Ee ((ai.aF _ Y).trans T.bb) q);have c1:=Ii (eH l32 Zd (qN Y Y)) (eH l33 Zd (qN Y Y))
 rw[az Y]at c1;refine eC c1 (aM ?_);refine fH T.d9 λsl OU snd sm=>?_;have s45:=Zb T snd λp hp=>by refine bT ((sm p.1 p.2).mp hp) λx hx td=>?_;exact⟨(cG.mp hx).1,aj (vt hx).symm td⟩
 have perm:=(anP snd ai.aO).mpr λp=>(sm p.1 p.2).trans ⟨λwz=>bT wz λx hx td=>(ai.aI p).mpr ⟨by rw[iu];exact all _ x hx,aj (vt hx).symm td⟩,λhp=>by refine oA ((ai.aI p).mp hp) λh1 h2=>?_;refine oE (jy (ai.aC.aF _ (Gd h1))) λx hx=>?_;exact⟨x,hx,aj (vt hx) h2⟩⟩
 have o1:∀{o},Ou F7 (w.aH (bN t) o) u0:=λ{o}=>jQ ai.aF Y;refine EZ (TZ (T5 (KU (re (tb ai.aF Y Y) (fy (eV ⟨b7 _,jJ ⟨O,MT (show(w.aH (bN t) (.l [])) (28,[])=_ from(o1 _ Y).trans T.iL) bo (λy h=>ax h Gh),_,oI,sZ Y (T4 (KU (qO Y (fM (re (tb o1 Y Y) (eV (YJ (show(w.aH (bN t) (.l [])) (27,[])=_ from(o1 _ Y).trans OU) snd (bM s45 (ao Y)) λc1 p1 q1=>jJ (qO Y (fM (re (aG ai.bb) (eV (YJ (show((w.aH (bN t) (.l [])).aH (bN (t+1)) (.l (c1.map gS))) (79,[l.length])=_ from(aQ (aU Y)).trans ((aQ (aU Y)).trans ai.jI)) ai.aO (bM (ai.lB LD) (ao Y)) λc2 p2 q2=>jJ ?_))))))))))))⟩⟩))))))
 have e:=(p1.trans (perm.trans p2.symm)).eq_of_pairwise (λa b f f h1 h2=>ax h2 (YF h1)) q1 q2;subst e;refine⟨O,MT (uF λe=>Z3 _ (d6 (cP e).2).1.symm) bo (λy hy=>(bX.mp hy).elim λp e=>aj e.2 Y),Y⟩
def am9(LD:pU cs L h)(W:tW v):WB (n+1) (Sx.gG 11 sX) (Rt Pj) ⟨v,h,t⟩:=by
 have f:=LD.bb;refine cF (TY (HA TU) (dQ (77,[]) Y (f 77 [] Y) (Hz (re bG (re (jG (aW bG (aW bG bD)) (ao Y)) (TT ⟨(77,[]),Y,bo (h:=h) (l:=(77,[])),λe he=>ak (bK.mp he) Y,(ao Y),?_⟩))))));have e0:[(V.i ((0:Nat)),fW (0,0))]=mH cs [0]:=by rw[mH,aou,vt LD.aC.aC]
 show WB (n+1) _ _ ⟨aJ v 13 (.e (77,[])),(h.aH (77,[]) (.d [])).aH (77,[]) (.d [(V.i ((0:Nat)),fW (0,0))]),t⟩;rw[e0];have o1:Ou [77] ((h.aH (77,[]) (.d [])).aH (77,[]) (.d (mH cs [0]))) h:=jQ (jQ fX Y) Y
 have Ze:((h.aH (77,[]) (.d [])).aH (77,[]) (.d (mH cs [0]))) (77,[])=M (.d (mH cs [0])):=bo;generalize(h.aH (77,[]) (.d [])).aH (77,[]) (.d (mH cs [0]))=h1 at o1 Ze⊢;refine cF (fy (rl (aW bG bD) ⟨(ao Y),dQ (78,[]) Y ((o1 _ Y).trans (f 78 [] Y)) (cF (fy (eV ⟨b7 _,dQ (79,[0]) Y (show(h1.aH (78,[]) (.l [.i (0)])) (79,[0])=U from(aQ (aU Y)).trans ((o1 _ Y).trans (f 79 [0] Y))) ?_⟩)))⟩))
 have o2:Ou [77,78,79] ((h1.aH (78,[]) (.l [.i (0)])).aH (79,[0]) (.l [])) h:=jQ (jQ ((fX).tr o1 Y) Y) Y;have K0:Wk cs L h 0 [0] [] (aJ (aJ (aJ v 13 (.e (77,[]))) 14 (.e (78,[]))) 15 (.e (79,[0]))) ((h1.aH (78,[]) (.l [.i (0)])).aH (79,[0]) (.l [])):=⟨⟨⟨W.aC.aO,W.aC.aK,W.aC.aC,W.aC.aF,W.aC.aI⟩,W.aI,W.aF,W.aK⟩,Y,Y,Y,(fX).tr o2 Y,⟨(aQ (aU Y)).trans ((aQ (aU Y)).trans Ze),(aQ (aU Y)).trans bo,iY.mpr ⟨Gh,gY⟩,λj hj=>ak (bK.mp hj) (cG.mp LD.aC.aC).1⟩,bo,gY,λp=>⟨λh=>bA h,λh=>bA h.1⟩,λj hj=>bA hj,λk a=>⟨(o2 _ Y).trans (f 73 [k] Y),(o2 _ Y).trans (f 74 [k] Y)⟩,λk a=>(o2 _ Y).trans (f 80 [k] Y),λk hk=>(aQ (mz (fQ hk))).trans ((aQ (aU Y)).trans ((o1 _ Y).trans (f 79 [k] Y))),Y⟩
 refine Wr 100 (λi K=>∃v w t l cl,K=⟨v,w,t⟩/\Wk cs L h i l cl v w/\i<=l.length) (aG Y) ⟨_,_,t,[0],[],Y,K0,b7 _⟩ λi K J=>?_;obtain⟨v,w,t,l,cl,rfl,ai,le⟩:=J;have ln:(l.map λj=>V.i (j:Nat)).length=l.length:=bc ..
 refine⟨_,ai.aC.aK,aj ln.symm le,aj ln.symm (aV ai.aC.lB LD.aC.aK),λy hy=>?_,λe=>?_⟩
 .obtain⟨j,hj,rfl⟩:=d7 hy;exact turn LD ai hj λv' w' t' e yg K'=>⟨v',w',t',l++e,yg,Y,K',by rw[dY];exact aV (cG.mp hj).1 (mI _ _)⟩
 .rw[ln]at e;subst e;exact am5 LD ai
end
noncomputable def g0:Gx:=⟨[],[]⟩
def vw:Hp:=λl=>if l=(0,[0])then M (.l (qi.map .i))else if l=hD then M (.fz g0)else if l=(50,[])then M (.t 391 #[])else if l=(51,[])then M (.t 398 #[])else U
def Py{y:Nl}(h:[0,50,51].contains k=Z):vw (k,y)=U:=by
 have ne:∀{k' y'},[0,50,51].contains k'=O->((k,y):Loc)≠(k',y'):=λh' e=>by rw[(cP e).1,h']at h;exact b9 h
 exact(au (ne Y)).trans ((au (ne Y)).trans ((au (ne Y)).trans (au (ne Y))))
def am'(z:qi.length<=63):WB 48 sX (Rt Pj) ⟨λi=>([V.e (0,[0])]++[])[i]?,vw,0⟩:=by have nc:∀{L R:Nl}{k:Nat},(∀k∈L,R.contains k=Z)->L.contains k=O->R.contains k=Z:=λd h=>d _ (gj.mp h);refine amo ⟨aw Y,z⟩ ⟨g0,Y⟩ Y Y (λk y hk a=>Py (nc (ao Y) hk)) λv u t V B S G o=>?_;refine amF V B S G (λk y hk=>(o _ (nc (ao Y) hk)).trans (Py (nc (ao Y) hk))) λv u2 t F V v6 GA AE o2=>?_;refine amN V v6 GA AE ⟨B.aO.imp λg e=>(o2 _ Y).trans e,(o2 _ Y).trans B.aK,(o2 _ Y).trans B.aI,(o2 _ Y).trans B.aC,B.aF.ou o2 Y Y Y⟩ (λk y hk=>(o2 _ (nc (ao Y) hk)).trans ((o _ (nc (ao Y) hk)).trans (Py (nc (ao Y) hk)))) λv cs L u t W D=>?_;exact am9 D W
def wA:Loc×Bool->aY:=λp=>if p.1=(50,[])then 391 else if p.1=(51,[])then 398 else a0
noncomputable abbrev nA:List (aY×bC):=[(391,oz #[]),(398,oz #[])]
def ana(P:jq):(K0 P).lookup 391=U/\(K0 P).lookup 398=U:=⟨by kernel_rfl,by kernel_rfl⟩
variable{s:bL} {b:aY} {l:Loc} {news:List (aY×bC)}
section
variable{o:bC}
def Zf(e:vw l=M ob):l=(0,[0])/\ob=.l (qi.map .i)\/l=hD/\ob=.fz g0\/l=(50,[])/\ob=.t 391 #[]\/l=(51,[])/\ob=.t 398 #[]:=by
 unfold vw at e;by_cases c:l=(0,[0])
 .rw[aw c]at e;exact .inl ⟨c,(bF e).symm⟩
 rw[au c]at e;by_cases c:l=hD
 .rw[aw c]at e;exact .inr (.inl ⟨c,(bF e).symm⟩)
 rw[au c]at e;by_cases c:l=(50,[])
 .rw[aw c]at e;exact .inr (.inr (.inl ⟨c,(bF e).symm⟩))
 rw[au c]at e;by_cases c:l=(51,[])
 .rw[aw c]at e;exact .inr (.inr (.inr ⟨c,(bF e).symm⟩))
 rw[au c]at e;exact cW e
def anb(aa:yB w0 s.heap)(ha:s.heap.get? a0=M (listOf qh.toArray 0)):a0≠391/\a0≠398:=
 have k:∀{x},s.heap.get? x=M (oF .none #[])->a0≠x:=λh e=>by have q:=aq Qz (bF ((e▸ha).symm.trans h));exact A1 (q) Y
 ⟨k aa.2.1,k aa.2.2.1⟩
def Pz(aa:yB w0 s.heap)(ha:s.heap.get? a0=M (listOf qh.toArray 0)):ai.In s.heap:=λb o e=>by
 have e:(K0 w0.params++[(a0,listOf qh.toArray 0)]).lookup b=M o:=e;rw[Jp]at e;cases q:(K0 w0.params).lookup b with
 |none=>
  rw[q,Qd,su]at e;by_cases c:b=a0
  .rw[c,beq_self_eq_true]at e;exact ak c (ha.trans e)
  .rw[beq_eq_false_iff_ne.mpr c]at e;exact cW e
 |some o'=>rw[q,aoM]at e;exact aa.1 _ _ (q.trans e)
def anc(n:a0≠391/\a0≠398)(e:ai.lookup b=M o):b∉[391,398]:=λm=>by
 have e:(K0 w0.params++[(a0,listOf qh.toArray 0)]).lookup b=M o:=e;rw[Jp]at e;have k:=ana w0.params
 rcases cU.mp m with rfl|m
 .rw[k.1,Qd,su,beq_eq_false_iff_ne.mpr n.1.symm]at e;exact cW e
 .rw[bK.mp m,k.2,Qd,su,beq_eq_false_iff_ne.mpr n.2.symm]at e;exact cW e
def K_a(n:a0≠391/\a0≠398)(aa:yB w0 s.heap)(ha:s.heap.get? a0=M (listOf qh.toArray 0)):ai.lookup a0=M (listOf qh.toArray 0):=by
 show(K0 w0.params++[(a0,listOf qh.toArray 0)]).lookup a0=_;rw[Jp];cases q:(K0 w0.params).lookup a0 with
 |none=>rw[Qd,su,beq_self_eq_true]
 |some o=>rw[aoM,<-aa.1 _ _ q,ha]
def anf{xs:List Int}(h:Gz vs xs):bP (VR W D) vs (xs.map .i):=adN h
def ang(n:a0≠391/\a0≠398)(aa:yB w0 s.heap)(ha:s.heap.get? a0=M (listOf qh.toArray 0))(hI:Gz qh qi)(zx:qi.length<=63)(nd:(news.map (·.1)).Nodup)(m:∀p∈nA,p∈news):HR g0 ⟨wA,news⟩ vw where
 aC l o e:=by
  rcases Zf e with⟨rfl,rfl⟩|⟨rfl,rfl⟩|⟨rfl,rfl⟩|⟨rfl,rfl⟩
  .exact⟨qh.toArray,0,(aw Y).mpr (K_a n aa ha),anf hI,by rw[bc];exact aV zx (ao Y)⟩
  .exact Y
  .exact⟨(ao Y),Y,m _ (.head _)⟩
  .exact⟨(ao Y),Y,m _ (.tail _ (.head _))⟩
 aI:=nd
 aO l h:=(au λe=>by rw[show l=(50,[]) from e]at h;exact pA h Y).trans (au λe=>by rw[show l=(51,[]) from e]at h;exact pA h Y)
 aF:=⟨λp h=>(bA h),λg' h=>by have e:=h;cases e;rfl⟩
 aK p q:=by
  have at_:∀{p:Loc×Bool},Own vw p->(p=((50,[]),Z)\/p=((51,[]),Z)):=λ{p} o=>by
   refine oE (anJ.mp o.2.1) λob e=>?_;have b:∀{c},vw p.1=M (.t c #[])->p.2=Z:=λ{c} e=>by
    cases h:p.2 with
    |false=>rfl
    |true=>exact(o.2.2 h).elim λc h=>h.elim λf h=>yF (h.symm.trans e) Y
   rcases Zf e with⟨c,_⟩|⟨c,_⟩|⟨c,rfl⟩|⟨c,rfl⟩
   .exact ax (aq qf c) o.1
   .exact ax (aq qf c) o.1
   .exact .inl (ru c (b e))
   .exact .inr (ru c (b e))
  intro hp hq e;rcases at_ hp with rfl|rfl<;>rcases at_ hq with rfl|rfl
  .rfl
  .exact pA (e) Y
  .exact pA (e) Y
  .rfl
end
variable{s':bL} {F:Fm}
def anh(aa:yB w0 s.heap)(ha:s.heap.get? a0=M (listOf qh.toArray 0))(hF:F.h₀=qE s.heap [391,398])(R:aX F W' bk s')(E:Ext F.cH ⟨wA,news⟩ vw W' bk.h):OldK s.heap s'.heap:=by
 have tab:∀{l P},l.1≠0->pC (vw l)->wA (l,Z)=P->∃ws,s'.heap.get? P=M (oz ws):=λ{l P} l0 it e=>by
  refine xl (E.aO l it) λa ws h=>?_;have o:OR W' (aZ bk.h) l (.t a ws):=R.aC.aC.aC l _ h
  have ad:W'.ρ l=P:=((E.aC l (it.elim λa h=>h.elim λws h=>nH h)).2.2 Z).trans e;exact⟨ws,aj ad (R.aC.aF _ o.2.2).1⟩
 refine oE (tab (l:=(50,[])) (P:=391) (ao Y) ⟨_,_,Y⟩ Y) λw1 t1=>?_;refine oE (tab (l:=(51,[])) (P:=398) (ao Y) ⟨_,_,Y⟩ Y) λw2 t2=>?_;have c1:isCodeTable s.heap 391:=(apm (Vq.aC s.heap (Pz aa ha)) aa.2.1).isCodeTable
 have c2:isCodeTable s.heap 398:=(apm (Vt.aC s.heap (Pz aa ha)) aa.2.2.1).isCodeTable;have kp:∀{b o},b≠391->b≠398->s.heap.get? b=M o->s'.heap.get? b=M o:=λn1 n2 e=>R.fr.keep _ _ (ak hF (C9 _ e λm=>(cU.mp m).elim n1 λm=>n2 (bK.mp m)))
 refine⟨λb o e=>?_,λb o e=>?_⟩<;>by_cases e1:b=391
 .subst e1;obtain rfl:=bF (aa.2.1.symm.trans e);exact .inr (.inl ⟨c1,Y,#[],w1,Y,by rw[t1,aor]⟩)
 .by_cases e2:b=398
  .subst e2;obtain rfl:=bF (aa.2.2.1.symm.trans e);exact .inr (.inl ⟨c2,Y,#[],w2,Y,by rw[t2,aor]⟩)
  .exact .inl (kp e1 e2 e)
 .exact⟨_,ak e1 t1⟩
 .by_cases e2:b=398
  .exact⟨_,ak e2 t2⟩
  .exact⟨_,kp e1 e2 e⟩
def PB{h:fL}{L:aY}{m:aP->Option aS}{as:List aY}(H:h.Ns L m)(n:L∉as):(qE h as).Ns L m:=H.elim λo H=>H.elim λes H=>H.elim λep H=>⟨o,es,ep,C9 _ H.1 n,H.2⟩
def ani:Dy p0:=λs pp loose mg mb R T aa ha hI zx hg zB fin=>by
 have n:=anb aa ha;have F9:=Pz aa ha
 refine Du agL λfd fo body pn dv hW=>qG hW λok ze ck=>?_;have nd:=ok.Bb
 have bn:(pn.zip ([.ref a0]++dv)).map (·.1)=pn:=by rw[PZ];rw[ok.aF];exact gy (sx ..)
 have C0:=Up ok.aC;refine bT T.nolimit λmc l1 l2=>?_;have T':TopRead pp loose mg mb (qE s.heap [391,398]):=⟨PB T.g (by decide),PB T.b (by decide),⟨mc,PB l1 (by decide),l2⟩,T.builtins,T.free⟩
 refine Ul T.nolimit (F9 _ _ ok.bz) (ok.d9.trans (aq apR ok.aK)) (codeRec_of F9 ok.iL) (by decide) (ok.aK▸ok.j9 s [.ref a0] F9 Y)
  (λn x hx=>(nd.2 _ (bn▸gW hx)).imp id λz=>⟨z.1,(Eu ((C0 n).2.2.2 _ (.inl z.2))).elim λa e=>e▸Y⟩) (C0 0).2.2.1 (λh₁ tk cells uz sU NC Y'=>?_) ok.jI ok.cC ok.aI
 obtain⟨L',uB⟩:∃L',L'=s.heap.objs.size:=⟨_,Y⟩;rw[<-uB]at uz NC Y'⊢;have C:=C0 (L'+1)
 have cm:=T7 Y';have y8:∀p∈cells,L'+1<=p.1:=λp hp=>(bX.mp (cm.1▸gW hp:p.1∈_)).elim λq hq=>hq.2▸C.2.1 q hq.1
 have PD:∀p∈nA,s.heap.get? p.1=M p.2/\p.1∈[391,398]:=λp hp=>by
  rcases cU.mp hp with rfl|hp
  .exact⟨aa.2.1,.head _⟩
  .exact(bK.mp hp)▸⟨aa.2.2.1,.tail _ (.head _)⟩
 have Zg:∀p∈nA,p.1<L':=λp hp=>uB▸eJ (PD p hp).1;have LZ:((cells++nA).map (·.1)).Nodup:=by
  rw[dF,t8];refine⟨cm.1▸C.1,by decide,λx hx y hy e=>?_⟩
  obtain⟨p,hp,rfl⟩:=bX.mp hx;obtain⟨q,hq,rfl⟩:=bX.mp hy;exact dq _ (bM (y8 p hp) (sr (e▸Zg q hq)))
 have sm:∀b,b∉[391,398]->∀o,s.heap.get? b=M o->(qE s.heap [391,398]).get? b=M o:=λb n o e=>C9 _ e n;have Kg:ai.In (qE s.heap [391,398]):=λb o e=>sm b (anc n e) o (F9 b o e)
 have keep:∀b o,(qE s.heap [391,398]).get? b=M o->h₁.get? b=M o:=λb o e=>sU b o (Qv _ e);have N:vJ (qE s.heap [391,398]) L' h₁ (cells++nA):=λp hp=>(cZ.mp hp).elim (λhp=>have z:=NC p hp;⟨z.1,z.2.1,by
  cases q:(qE s.heap [391,398]).get? p.1 with
  |none=>rfl
  |some o=>exact cW (z.2.2.symm.trans (Qv _ q))⟩) λhp=>⟨sU _ _ (PD p hp).1,gZ (Zg p hp),Qp _ (PD p hp).2⟩
 have H:=ang n aa ha hI zx LZ λp hp=>dI _ hp;have St0:St (Ew.fm ⟨fd.qualname,fd.scope,bS 12,fd.code,pj (L'+1) fd.scope.names []⟩ (qE s.heap [391,398]) L' [] g0) (callerA.deeper (Dr fd.qualname fd.scope L' (bS 12) fd.code)) 48 ⟨wA,cells++nA⟩ ⟨λi=>([V.e (0,[0])]++[])[i]?,vw,0⟩ {s with heap:=h₁,toks:=tk}:=by
  refine⟨⟨λd=>⟨[],Y,an6 Y,λe he=>bA he⟩,ok.aI,(by decide:callerA.depth+1+2*48<=600),by rw[aoa];decide,Y,⟨pp,loose,mg,mb,T'⟩,?_,Y⟩,⟨N,H,λk d=>Y,Kg,F9.keeps sU,hg,zB,λb o e=>cW e⟩,⟨_,⟨uz,keep,?_⟩,ok.Um C.2.2.2 Y Y cm.2 (λp hp=>dU _ hp) Y (bP.xq (bP.hY ⟨Y,λe=>hV e⟩ .iH) (ze _ _))⟩,λy hy=>?_,λy y' a e e'=>?_,λp hp=>bA hp⟩
  .exact(CR.mp aa.2.2.2).elim λo e=>⟨o,sm _ (by decide) o e⟩
  .exact gy ((Qo ..).trans uB.symm)
  .exact(Eu (C.2.2.2 y (.inl (lookup_mem hy)))).elim λa ea=>(cm.2 _ _ (lookup_mem ea)).elim λo q=>⟨a,o,_,ea,dU _ q.1,q.2⟩
  .exact Uq C.1 e e'
 refine wm (am' zx _ _ _ _ body St0 ⟨Lz ok.aC,λe=>hV e⟩ ck) λfl s' p=>p.dc λW' bk g' R' e' fr q=>?_;cases g' with
 |n=>exact Kc (q:V.n=.o O) rfl
 |b=>exact q.elim
 |c=>exact q.elim
 |r x=>obtain⟨v,rfl,vx⟩:∃v,fl=.ret v/\VR W' (aZ bk.h) v x:=fr;obtain rfl:x=.o O:=q;obtain rfl:v=.bool O:=vx;exact fin s' (anh aa ha Y R' e') (R'.aC.bz.trans zB.symm) R'.aC.cC
def ank(p:qg×Dm×aY×List aS×List Int):Dy p:=Zt λh=>(JK (p:=λp=>¬Dy p) ⟨p,h⟩:¬Dy p0) ani
def anl{R:WRecords}{cl:aP->Option aY}{P:jq}{ord:List eQ->List eQ}:∀(xs:List Int)(s:bL),∃vs tk,QI R cl P ord (xs.map .int) s=M (vs,{s with toks:=tk})/\Gz vs xs:=λxs=>by
 induction xs with
 |nil=>exactλs=>⟨[],s.toks,Y,.nil⟩
 |cons x xs ih=>
  intro s;obtain⟨vs,tk,e,h⟩:=ih {s with toks:=s.toks+1}
  exact⟨_::vs,tk,by rw[l6,QI,layW];dsimp only;rw[e],.cons _ _ h⟩
def ofPys_ints(xs:List Int):ofPys (xs.map apn)=xs.map apD:=by
 induction xs with
 |nil=>rfl
 |cons x r ih=>exact aq (apD x::·) ih
end iB.Lean
set_option tactic.hygienic true
theorem PySem.Challenge.cw_qq0001_02_holds : PySem.Challenge.rw_qq0001_02.Holds := by
 refine holds_law iB.Lean.kq1 λanm=>?_;have hw:w8.row.toRowW.promised:=by w_witness2
 refine⟨anm,hw,open_anyG (r:=w8.row.toRowW) (q:=iB.Lean.qV) (loose:=iB.Lean.GF) (YP:=iB.Lean.yB) (run:=λf vs=>aps f vs) (tree:=λvs=>do match<-nsGet mainNs w8.row.name with
  |some f=>do ret (<-aps f vs)
  |none=>unsupported "claim.caller:no-such-global") iB.Lean.aaO (λw s e=>⟨Frag.in_of (iB.Lean.aaL _) (cP e).1,(cP (cP e).2).1,(cP (cP (cP e).2).2).1,(cP (cP (cP e).2).2).2⟩) (λw h h' x k=>⟨Frag.In.keeps x.1 k,k _ _ x.2.1,k _ _ x.2.2.1,(CR.mp x.2.2.2).elim λo e=>by rw[k _ _ e];rfl⟩)
  (λs e=>xl_of s (dS.mp e).1) XL.keeps (λs e=>recFacts_of (dS.mp e).2) (by rfl) (by kernel_rfl) ⟨rfl,rfl,rfl,rfl,rfl,by decide+kernel⟩ hw ?_ ?_ ?_⟩
 .exactλvs w s mg f Q E hg hf h=>aN (wpAny_nsGet hg (by rw[hf];exact aN (iB.Lean.wm h λa a x=>bw x)))
 .intro w s hg G n hn;obtain rfl:=bK.mp (show n∈[w8.row.name] from hn)
  exact pinned_of_view (d:=iB.Lean.dL) (kwd:=[]) hg G (by kernel_rfl) (by kernel_rfl) (by kernel_rfl)
 .intro w PF bp mg mb G aa args vals as ano anp L low;have T:=topRead_of G.T
  have hf:mg w8.row.name=M (.ref 478):=mg_of aa.1 T.g (by kernel_rfl)
  refine⟨_,hf,?_⟩;have hrd:=L.reads
  have hwl:=L.well;have hlo:=L.low low
  wrow_args ano anp hrd hwl hlo
  rename_i xs _ _ _ _ _ _ _ _ _ _ _ _ _ _ _ _ zx _;obtain⟨ord,_,hl⟩:=L.laid;rw[show ofPy (xe (Qw apn xs))=.list (xs.map .int) from congrArg WData.list (iB.Lean.ofPys_ints xs)]at hl
  obtain⟨vs,tk,e,hI⟩:=iB.Lean.anl (R:=w8.row.toRowW.records) (cl:=classAt PF.heap) (P:=w.params) (ord:=ord) xs PF;rw[QI,layW,e]at hl;dsimp only at hl;rw[QI]at hl;injection hl with hl
  injection hl with Aj hl2
  injection Aj with Aj
  injection Aj with Aj
  have ha:bp.heap.get? PF.heap.objs.size=M (PySem.W.listOf vs.toArray 0):=by rw[<-hl2];exact jY _ rfl
  rw[Aj]at ha;exact enter_call (iB.Lean.ank ⟨w,_,_,vs,xs⟩ _ _ _ _ _ _ T aa ha hI (qb.mp (vG.mp zx)) L.gens rfl λs' ai o g=>⟨.inl ⟨.bool O,.bool O,[],rfl,λa=>rfl,.bool O,by kernel_rfl,λa=>⟨gY,λa h=>iB.Lean.bA h⟩⟩,ai,o,.of_eq g⟩)
