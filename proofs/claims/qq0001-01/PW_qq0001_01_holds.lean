import PyProof.Rows.All
import Wide.All
import Open.Line
import Open.Boot
import Open.Tree
import OpenK.KList
import OpenK.KMeth
import OpenK.KCell
import OpenK.KDict
import KE.KxPercent
import KE.KLam
import KE.KPar
import Lean
import PySem.Challenge.RW_qq0001_01
open Option renaming some->M,none->U
open Bool renaming true->O,false->Z
open PySem renaming wpAny_bind->aK,Value->aN,Str->aP,Addr->aY,wpAny_pure->bg,Obj->bh,Shared->bK,Expr->bU,DictEntry->dJ,Scope->dY,Heap->fC,rawInt->gj,Pos->gr,wpAny_mono->gC,Sem->gD,wpAny_holding->ij,Stmt->iI,Env->jf,Params->jw,sizeLine_eq->kg,mainGlobals->mj,compareOp->mn,wpAny_call_entry->mT,clipAt->mW,cellsFrom->nV,Tok->nX,Around->oG,World->oH,binaryOp->pB,sysModules->qe,wpAny_rule->qN,starEach->qP,codeAny->qQ,wpAny_newObj_type->rX,wpAny_execs_cons->rY,wpAny_dictEpoch->rZ,wpAny_standAt->se,wpAny_dictEntries->tX,pyIter->t7,backTo->t8,Flow->ua,NameKind->vn,wpAny_callSpecial?_slot->wQ,wpAny_field->xc,getItem->xf,getMethod_builtin->yM,wpAny_execs_nil->yO,seqIndex?->yT,getAttr->yU,pyNext->yV,assign->yW,evalPart_none_step->AX,wpAny_truthy_bool->A0,wpAny_specialOf->A2,wpAny_items_nil->A3,sizeLine->Bd,Operator->Be,dictGet->Bf,OsState->Bh,Result->Bi,slot_dict_getitem->D7,wpAny_items_cons->D8,wpAny_setField->Ec,bootBuiltins->Eh,treeTable->Ek,compPost->El,standAt->En,setItem->Eo,dictSet->Ep,truthy->Eu,PyData->Ew,wpAny_notOrdered_dict->G1,wpAny_setField_rec->G8,wpAny_sequenceKey->He,wpAny_isInstance->Hf,wpAny_forIn_list->Hg,wpAny_Try_except->Hh,letOwnedTupleGo->Hl,placesWithHash->Hn,assignEach->Hs,swapsWith->Ht,noteFrame->Hu,eqIsQuiet->Hv,Arguments->Hw,evalEach->Hx,newList->Hy,stored->HB,isTrue->HC,Reads->HE,wpAny_ite_split->Nr,wpAny_typeOf->Nv,codeAny_mono->Nw,richCompare->NG,call_meets->NM,storeName->NP,codeAmong->NQ,setField->NS,newTuple->NT,callWith->NU,FuncData->NW,spliced->NX,Program->N1,plainObj_wpAny_Assign_Attribute->V0,wpAny_typeNameOfWhole_itemiter->V3,wpAny_typeNameOfWhole_keyiter->V4,wpAny_isOneOf_itemiter->Wj,wpAny_letTemporaryGo->Wn,plainExc_IndexError->Wr,wpAny_missed_other->Wx,slot_dict_contains->Wy,wpAny_assign_Name->WJ,wpAny_Assign_Name->WM,slot_list_getitem->WQ,foldedSetIterable->WR,theTreesLotGoes->W4,codeAny_builtin->W9,wpAny_seqItems->Xc,wpAny_Expr_any->Xd,IsItemIterOut->Xh,ExceptHandler->Xi,wpAny_noted->Xl,wpAny_Slice->Xm,subscripted->Xo,keywordEach->Xp,wpAny_call->Xq,wpAny_Name->Xr,methodCall->Xs,IsItemIter->Xu,bindArgs->Xx,backToKw->Xy,ReadsAll->Xz,wpAny_richCompare_same_room->aiW,wpAny_comprehension_free->ajc,wpAny_Assign_Subscript->ajp,wpAny_isTrue_Compare1->ajw,wpAny_isOneOf_keyiter->ajx,getitemInPython_of_ne->ajy,wpAny_setFlight_none->ajE,wpAny_newFunctionEnv->ajF,wpAny_Constant_none->ajN,wpAny_pyIter_tuple->ajU,wpAny_Constant_str->ajV,evalPart_some_step->ajW,entry_dict_getitem->ajX,wpAny_pyIter_slot->aj3,wpAny_pyIter_list->aj4,wpAny_Return_some->aj5,slot_list_setitem->aj6,slot_dict_setitem->aj7,args_dict_getitem->aj8,call->akd,wpAny_updateSeq->akf,wpAny_operating->akg,importedModules->akh,wpAny_runValue->akn,wpAny_fieldsOf->ako,methodCallForm->akp,letTemporaryGo->akq,carriedByValue->akr
open Nat renaming le_trans->aL,lt_of_le_of_lt->bF,zero_le->b7,beq->cQ,le_refl->dj,lt_irrefl->dI,add_le_add_left->eQ,succ_le_succ->fJ,le_of_eq->fR,succ_pos->fY,lt_of_lt_of_le->gc,le_of_lt->gB,ne_of_lt->gZ,lt_succ_self->jd,le_succ->jI,add_le_add->jY,not_lt->km,mul_le_mul_left->mQ,le_add_right->mR,ne_of_gt->mU,le_of_ble_eq_true->nK,add_assoc->nO,add_comm->nU,add_le_add_right->pz,le_succ_of_le->p9,mul_succ->qb,lt_succ_of_lt->qI,zero_add->sf,lt_of_le_of_ne->u4,add_right_comm->wU,le_of_succ_le->wW,succ_lt_succ->wZ,not_lt_zero->w8,le_antisymm->w9,beq_refl->xa,one_pos->xb,blt->xe,succ_ne_zero->yN,lt_succ_of_le->AY,le_of_lt_succ->AZ,succ->Bb,max_le->Ej,lt_of_succ_lt_succ->GY,pos_of_ne_zero->G7,min_le_left->Hi,min_eq_left->Hj,lt_one_iff->Hm,succ_pred_eq_of_pos->M3,succ_ne_self->Nj,le_add_left->Nn,rec->NR,lt_succ_iff_lt_or_eq->V7,le_of_succ_le_succ->We,eq_of_beq_eq_true->Wg,sub_lt_sub_left->Wl,lt_of_succ_le->Wt,sub_zero->Xe,lt_trans->Xf,sub_lt->Xj,sub_le->Xk,ble->Xw,sub_eq_zero_iff_le->ai3,eq_zero_of_not_pos->ai4,not_succ_le_zero->ajf,not_succ_le_self->ajg,lt_of_lt_of_eq->ajs,lt_of_succ_lt->ajA,zero_lt_succ->ajH,not_le->akv,mod_lt->akw
open List renaming length_map->bc,mem_map->bk,mem_singleton->bp,mem_of_getElem?->bE,mem_cons->b0,mem_append->cD,mem_append_left->cH,getElem?_eq_some_iff->cV,mem_append_right->cZ,map_append->dc,mem_map_of_mem->dw,length_append->dW,take_length->e7,map_map->fA,nodup_cons->fQ,nodup_nil->gh,mem_range->gY,append_nil->hY,length_take_le'->iG,mem_filter->iH,contains_iff_mem->iT,length_range->iU,range->iW,length_filterMap_le->jF,nodup_append->jX,forall_mem_cons->kb,getElem?_of_mem->kE,getElem?_map->kG,pairwise_map->md,getElem?_eq_none_iff->mN,getElem?_eq_getElem->mO,map_cons->nN,length_cons->oE,mem_filterMap->pA,ne_nil_of_mem->p8,all_eq_true->qa,exists_mem_of_ne_nil->qH,not_mem_nil->qJ,rec->qO,append_assoc->tW,lookup_cons->tY,getElem?_toArray->uY,mem_of_mem_take->uZ,foldl_append->u7,size_toArray->wV,mem_flatMap->wY,take_of_length_le->yI,filter_sublist->yJ,flatMap_cons->yL,getElem?_append_left->AQ,cons_ne_nil->A1,filterMap_append->D1,flatMap_append->D3,take_sublist->D6,take_zero->Ea,map_take->Ee,map_drop->Ef,length_filter_le->GZ,map_congr_left->G2,filterMap_cons->G3,lookup_append->G4,getElem?_take->G5,findIdx?_cons->G6,length_take->Hb,length_drop->Hc,flatMap_nil->Hd,length->Hq,mem_zipIdx_iff_getElem?->MX,perm_ext_iff_of_nodup->MZ,length_pos_of_mem->M4,take_append_drop->M6,filterMap_eq_map->M7,getElem?_mapIdx->M8,length_take_le->M',getElem?_range->Na,getElem?_inj->Nc,map_fst_zip->Nf,getElem_mem->Ng,getElem_map->Nh,filter_cons->Ni,replicate->Np,cons->NH,map->NO,findIdx?_eq_some_iff_getElem->VW,take_append_of_le_length->VY,eq_nil_of_length_eq_zero->VZ,pairwise_iff_getElem->V5,getElem?_take_of_lt->V6,pairwise_singleton->V9,mem_of_mem_drop->Wi,getElem?_drop->Wm,ext_getElem?->Wq,nodup_range->Ww,range_succ->WD,length_nil->WG,foldl_cons->WH,append_ne_nil_of_right_ne_nil->ais,eraseIdx_eq_take_drop_succ->aix,getElem?_append_right->aiI,mem_of_find?_eq_some->aiM,getElem?_zip_eq_some->aiN,length_erase_of_mem->aiP,pairwise_filterMap->aiS,lookup_eq_some_iff->aiT,lookup_eq_none_iff->aiU,length_eraseIdx_le->aiV,length_eq_one_iff->ai0,find?_cons_of_pos->ai1,getElem?_eq_none->ai5,mem_erase_of_ne->ai9,mem_cons_of_mem->ai',getElem?_append->aja,map_eq_nil_iff->ajh,mem_cons_self->ajj,length_mapIdx->ajk,filterMap_map->ajl,any_eq_false->ajt,append_cons->ajB,any_eq_true->ajC,length_set->ajI,forIn_cons->ajJ,find?_some->ajK,find?_cons->ajL,drop_zero->ajR,map_set->akb,take->akx
open PySem.Str renaming ofString->bo,empty->fU
open Option.some renaming inj->bu
open Prod.mk renaming inj->bS
open List.cons renaming inj->bY
open Exists renaming elim->b5
open Bool renaming noConfusion->cw,and_eq_true_iff->dH,false_ne_true->d8,eq_false_iff->vf,false_eq_true->yK,false_xor->yP,true_xor->A4,or_eq_true_iff->D5,not_true->Eg,eq_iff_iff->Nk,false_and->WW,and_eq_true->ajD,true_and->aj1,or_false->aj2
open Prod renaming fst->dQ,ext->je,snd->sg
open PySem.Heap renaming lt_size->d9,get?_push_of_some->eW,get?_push_size->jG,SameBut->mf,get?_update_self->rV,get?_update_other->D0,ExtBut->Ei,get?_none_of_le->Wh,size_push->WU,NewExc->Xg
open PySem.W renaming dictOf->fV,Frag->jx,hideAll->nW,findIn->t9,keepIn->xg,hideAll_get->A6,boot_heap->A9,instObj->Bg,makesIn->Hz,hideAll_size->Ny,hideAll_none->Nz,of_hideAll->NN,topFrame->NV,layAllW->NY,kla_obj->NZ,keeps_K->N0,behindTheImports->WX
open PySem.Value renaming ref->ik,none->ki,type->qL,isStrOf->WY,ctorIdx->WZ,builtin->ajO,str->akj
open Int.ofNat renaming inj->jv
open Int renaming natCast_nonneg->jH,ofNat_lt->mV,ofNat_le->qc,not_lt->vm,lt_of_le_of_lt->AW,le_trans->Ho,lt_of_lt_of_le->Nb,add_comm->Nt,not_le->NF,toNat_natCast->Wu,fmod_nonneg_of_pos->ai6,toNat_of_nonneg->ajm,natCast_succ->ajM,min_eq_left->ajS,le_antisymm->ajT,neg_le_neg->aj0,ofNat_sub->akc,lt_trans->ake,negSucc->akm
open PySem.PyData renaming strOk->kH,eqv->qd,list->vg,eqvAll->yQ,depthAll->Wv,keyHash->Wz,depth->W0,canLayAll0->ajd,int->aka
open Iff renaming rfl->qf
open Nat.succ renaming inj->qK
open PySem.Heap.SameBut renaming update->rW,refl->ald
open Array renaming getElem?_toList->tU,length_toList->M9,all_eq_true_iff_forall_mem->aiu,toList_eraseIdxIfInBounds->aiw,getElem?_eq_some_iff->aiC,getElem?_eq_getElem->aiJ,toList_extract->ai7,mem_toList_iff->ai8,toList_append->ajb,empty_append->aji,toList_push->ajn,all_eq_true->ajo,toList_inj->aju,any_toList->ajv
open PyProof.Rows renaming News->ub,isSubtype_of_subB->wX,envOfC->xh,subscriptTail->yS,Subscript_->A8,IntsAre->Er,sortedS->HA,StrsAre->N2,getItem_tuple->air,joinParts_cons->aku,sub_int->aln,notIn_str->alo,neg_int->alp,mod_int->alq,lt_int->alr,list_addW->als,len_tuple->alu,len_str->alv,isub_int->alw,in_str->alx,iadd_int->aly,gt_int->alz,ge_int->alA,floordiv_int->alB,add_str->alC,add_int->alD
open PySem.Challenge renaming rw_qq0001_01->uX
open Option renaming rec->xd,bind_eq_some_iff->AU,not_isSome_iff_eq_none->DX,map_eq_some_iff->DY,isSome_iff_exists->GV,none_or->Nm,isSome->Nq,map->Nu,toList->WV,ne_none_iff_exists'->aiz,isNone_iff_eq_none->aiB,not_isSome->aje,some_or->ajz,getD->ajZ
open PySem.Obj renaming mapFields->yR,data_mapFields->AV,mapSeq->A7,data->Ba,isFreed_of_fields->G0,cls_mapFields->Ws,cls->Xv,mapDictKeys->ajP,mapDict->akl
open PySem.Builtin.Dict_items renaming ownsTuple->AP,ownedTupleFields->aim,pairFromOwner->ain,ownedTupleIsFree->akU,newIterator->akV,isOneOf->akW,dictOf->akX
open Classical renaming byContradiction->AR,epsilon_spec->A5,epsilon->Bc
open PySem.NameKind renaming cell->Eb,free->ajr
open Ne renaming symm->Em
open PySem.F renaming slot_tuple_getitem->GU,plainAttrs_list->M0,sub_dict_dict->Wa,slot_list_pop->Wb,slot_dict_get->Wc,slot_list_insert->aiA,slot_list_index->aiD,slot_dict_items->aiE,plain_list_iadd->aiF,plainAttrs_dict->aiG,entry_list_pop->aiK,entry_dict_get->aiL,slot_dict_len->aiO,slot_dict_ne->aiQ,slot_dict_eq->aiR
open PySem.Builtin.Dict renaming showsAll->GW,dictSlotArgs->MY,missed->V8,samePairs->aiy,pendingKey?->alh,pendingCount->ali,notOrdered->alj,noArgs->alk,dictSlotNone->alm
open ForInStep renaming yield->Ha
open PySem.Value.ref renaming inj->Hk
open PySem.Flow renaming next->Hr,ctorIdx->Xa
open PySem.Builtin.SmallTypes renaming nextOf->MW,calledThroughType->VV,newClass->aio,ownedTupleFields->akS,newRecord->akT
open PySem.Heap.IsSliceOf renaming new->M5
open PySem.SeqAt renaming EqAt->NA,compareNe_reads->aiX,compareEq_reads->aiY,eqAt_reads->ajq
open PySem.Builtin.List renaming listFitsIndex->VX,listLengthHint->aip,listExtendWith->aiq,listSameRef->aiv,listSubscript?->alg
open PySem.Around renaming under_plainId->Wf,frames_deeper->aiZ,deeper_units->ai2,under->ajQ
open Decidable renaming not_not->Wk
open PySem.Calls renaming Name_function_global->Wo,call_function_entry->aiH,loadGlobal_builtin->ajY
open PySem.Data renaming ctorIdx->Xb,func->akt
open PySem.Txt renaming join->Xt
open PySem.Stmt.FunctionDef renaming elim->ait
open PySem.Shared renaming TypeIs->ajG
open PySem.W.RowW renaming records->aj9
open PySem.W.CodeHd renaming tab->aj'
open PySem.W.WData renaming int->aki
open PySem.SB renaming field_str->akk
open PySem.Env renaming kindOf->aks
open PySem.Expr.FormattedValue renaming elim->akR
open Std.Legacy.Range renaming forIn_eq_forIn_range'->akY
open PySem.AutoListH renaming list_insert_list_int_val_1->akZ
open PySem.Stmt.AugAssign renaming elim->ak0
open PySem.MeetsSeq renaming list_pop_last->ak1,list_pop_at->ak2
open PySem.Expr.Subscript renaming elim->ak3
open PySem.Expr.JoinedStr renaming elim->ak4
open PySem.Expr.Attribute renaming elim->ak5
open PySem.Stmt.Continue renaming elim->ak6
open PySem.Stmt.ClassDef renaming elim->ak7
open PySem.Expr.ListComp renaming elim->ak8
open PySem.Expr.DictComp renaming elim->ak9
open PySem.Expr.Constant renaming elim->ak'
open PySem.Builtin.Tuple renaming tupleItemsOf->ala
open PySem.Builtin.Range renaming rangeSize->alb
open List.Pairwise renaming imp->alc
open PySem.Expr.UnaryOp renaming elim->ale
open PySem.Expr.Compare renaming elim->alf
open PySem.Stmt.Return renaming elim->alE
open PySem.Stmt.Assign renaming elim->alF
open PySem.Expr.Lambda renaming elim->alG
open PySem.Expr.BoolOp renaming elim->alH
open PySem.Draws renaming list->alI
open PySem.Builtin.Str renaming occurrences->alJ
open PySem PySem.W PyProof.Rows PySem.Calls Classical
set_option Elab.async false
set_option maxRecDepth 100000
set_option linter.all false
set_option genInjectivity false
set_option genSizeOf false
set_option genCtorIdx false
set_option tactic.hygienic false
set_option bootstrap.genMatcherCode false
noncomputable section
namespace jy.Lean
theorem Y{a}{b:a}:b=b:=rfl
theorem aq{a}{b}{x y:a}(f:a->b)(h:x=y):f x=f y:=congrArg f h
theorem av{c:Prop}{h:Decidable c}(k:¬c){a}{t e:a}:(ite c t e)=e:=if_neg k
theorem aw{c:Prop}{h:Decidable c}(k:c){a}{t e:a}:(ite c t e)=t:=if_pos k
theorem ax{a b:Prop}(h:a)(k:¬a):b:=absurd h k
theorem az{p:Prop}[Decidable p](h:p):decide p=true:=decide_eq_true h
theorem aA{p:Prop}[Decidable p](h:¬p):decide p=false:=decide_eq_false h
theorem aB{p:Prop}[Decidable p](h:decide p=true):p:=of_decide_eq_true h
theorem ao{p:Prop}[Decidable p](h:true=decide p):p:=of_decide_eq_true h.symm
@[elab_as_elim]theorem aj{a}{x y:a}{p:a->Prop}(e:x=y)(h:p x):p y:=e▸h
@[elab_as_elim]theorem ak{a}{x y:a}{p:a->Prop}(e:x=y)(h:p y):p x:=e▸h
theorem XA:uX.wellSaid=O:=by kernel_rfl
noncomputable abbrev pr:N1:=PySem.Challenge.rw_qq0001_01.row.toRowW.1
noncomputable abbrev vS(x:String)(t:nX):aN:=.str (bo x) t
noncomputable abbrev vI(i:Int)(t:nX):aN:=.int i t
noncomputable abbrev vR(a:aY):aN:=.ref a
noncomputable abbrev vY(x:String):aN:=.type x
noncomputable abbrev vB(x:String):aN:=.builtin x
noncomputable abbrev vN:aN:=.none
noncomputable abbrev vT(b:Bool):aN:=.bool b
noncomputable abbrev tP(a:Array aN):bh:={cls:=.type "tuple",data:=.seq a}
noncomputable abbrev oF(c:aN)(a:Array aN):bh:={cls:=c,data:=.fields a}
noncomputable abbrev oS(c:aN)(a:Array (Option aN)):bh:={cls:=c,slots:=a}
noncomputable abbrev dE(P:jw)(x:String)(t:nX)(v:aN):dJ:={hash:=Wz P (bo x),key:=.str (bo x) t,val:=v}
noncomputable abbrev oD(c:aN)(a:Array dJ)(n:Nat):bh:={cls:=c,data:=.dict a n}
noncomputable abbrev oC(c:aN)(n:String)(b m:List aN)(ns:aY)(q:String)(s:List aN)(d:Option aY)(sl:Array (Option aN)):bh:={cls:=c,dict:=d,data:=.cls {name:=bo n,bases:=b,mro:=m,ns:=ns,qualname:=bo q,subclasses:=s},slots:=sl}
noncomputable def tS(i:Nat):iI:=match pr.main.body[i]? with|some x=>x|none=>.Pass {line:=0,col:=0,endLine:=0,endCol:=0}
noncomputable def tM(i j:Nat):iI:=if h:(tS i).ctorIdx=2 then ak7 (motive_2:=λa=>iI) (tS i) h (λa a a b a a a a a a a=>(b[j]?).getD (tS i))else tS i
noncomputable abbrev fS(t:nX):aN:=vS "/claim/cut.py" t
noncomputable abbrev uc:aN:=vS "ply.yacc" 194
noncomputable def Ex(t:Nat):List aP->List aN
 |[]=>[]
 |x::r=>.str x t::Ex (t+1) r
noncomputable def HG(n q:aP)(t u l k g:Nat)(a:Nat)(b:Bool)(v1 v2 v3:aN):bh:=oF (vY "code") #[.str n t,.str q (t+1),fS (t+2),vI l 0,vI k 0,vI 0 0,vI 0 0,vI g 0,vR a,vT b,vI 181 0,vR (a+1),vN,v1,v2,v3,vI u 0,vI l 0,fS (u+1)]
noncomputable def fB(P:jw)(m:Bool)(pre:aP)(pm:aN)(d:aN)(a t:Nat)(s:iI):List bh×Nat×dJ×List aN:=if h:s.ctorIdx=0 then ait (motive_2:=λf=>List bh×Nat×dJ×List aN) s h (λn p b f f f sc f f po=>
 let v:=(sc.names.filter λx=>x.2==.local||x.2==.cell).map (·.1)
 let c:=(sc.names.filter λx=>x.2==.cell).map (·.1)
 let u:=t+3+bif m then v.length+c.length else 0
 let e:=a+bif m then 4 else 2
 let o:=λc g d pm cd=>({cls:=c,data:=.func {name:=n,qualname:=pre++n,params:=p,body:=.stmts b,scope:=sc,globals:=g,closure:=[],defaults:=d,kwdefaults:=.none,pyModule:=pm,code:=cd}}:bh)
 ([tP #[],oF vN #[]]++(bif m then [tP (Ex (t+3) v).toArray,tP (Ex (t+3+v.length) c).toArray]else [])++[o vN 0 vN vN vN,HG n (pre++n) t u po.line p.args.length 3 a O (bif m then vR (a+2)else vN) (bif m then vR (a+3)else vN) (vR e),o (vY "function") 3 d pm (vR (e+1))],u+2,{hash:=Wz P n,key:=.str n (u+2),val:=vR (e+2)},[vI po.line 0,vI 4 0,vR (e+1)]))
 else([],0,{hash:=0,key:=vN,val:=vN},[])
noncomputable def mB(P:jw)(pre:aP):List (iI×List bh×Nat)->Nat->Nat->List bh×List dJ×List aN×Nat×Nat
 |[],a,t=>([],[],[],a,t)
 |(s,o,k)::r,a,t=>
  let b:=fB P O pre uc (if o.length=0 then vN else vR (a+o.length-1)) (a+o.length) (t+k) s
  let q:=mB P pre r (a+o.length+7) (b.2.1+1)
  (o++b.1++q.1,b.2.2.1::q.2.1,b.2.2.2++q.2.2.1,q.2.2.2)
noncomputable def dX(P:jw)(n:Nat)(t a:Nat):List dJ:=match n with
 |0=>[dE P "__doc__" t vN]
 |1=>[dE P "__weakref__" (t+1) (vR a),dE P "__doc__" (t+2) vN]
 |_=>[dE P "__dict__" (t+1) (vR a),dE P "__weakref__" (t+3) (vR (a+1)),dE P "__doc__" (t+4) vN]
noncomputable def cB(P:jw)(x nw:String)(l k a t:Nat)(bs mr sub:List aN)(ex:List dJ)(xt:Nat)(ms:List (iI×List bh×Nat))(sa:List String):List bh:=
 let ab:=mB P (bo x++bo ".") ms (a+7) (t+12+xt)
 let b:=ab.2.2.2.1
 let u:=ab.2.2.2.2
 let w:=u+sa.length
 let d1:=dE P "__module__" (t+7) uc
 let d3:=dE P "__firstlineno__" (t+11) (vI l (t+10))
 let en:=ex++ab.2.1++[dE P "__static_attributes__" w (vR b)]
 let c:=vR (b+2)
 let g:=λn t v w=>oF (vY "getset_descriptor") #[vS n t,c,vB v,w]
 [tP bs.toArray,oF (vY "builtin_function_or_method") #[vB "type.__prepare__",vY "type"],oD (vY "dict") (d1::dE P "__qualname__" (t+9) (vS x (t+8))::d3::en).toArray (en.length+3),tP #[],oF vN ab.2.2.1.toArray,HG (bo x) (bo x) (t+2) (t+5) l 0 0 (a+3) Z vN vN vN,oS (vY "frame") #[M (vR (a+5)),M (vR 3),M (vR (a+2)),U,M uc,U,M (vR 0)]]++ab.1++[tP (Ex u (sa.map bo)).toArray,oD (vY "dict") (d1::d3::en++dX P k (w+1) (b+3)).toArray (k+2),oC (vY "type") x bs (c::mr) (b+1) x sub U #[M (vR a),U,M (vS x t),M (vS x (t+8)),M (vB nw),M (vT O)]]++(match k with
  |0=>[]
  |1=>[g "__weakref__" (w+1) "ExceptionGroup.__weakref__" vN]
  |_=>[g "__dict__" (w+1) "function.__dict__" (vB "function.__dict__#set"),g "__weakref__" (w+3) "ExceptionGroup.__weakref__" vN])++[oF (vY "super") #[c,c,c],oF (vY "builtin_function_or_method") #[vB "object.__init_subclass__",c]]
noncomputable def Ey(i n:Nat):List (iI×List bh×Nat):=(iW n).map λj=>(tM i j,[],0)
noncomputable def fO(P:jw)(m:Bool)(pm:aN)(a t i:Nat):List bh:=(fB P m fU pm vN a t (tS i)).1
noncomputable def eY:List aN:=[vY "Exception",vY "BaseException",vY "object"]
noncomputable def Bj:aN:=vS "law_qq0001_01" 910
def N3(P:jw):List bh:=[boot_o_4 P,boot_o_5 P,boot_o_6 P,boot_o_7 P,boot_o_8 P,boot_o_9 P,boot_o_10 P,tP #[]]
noncomputable def N4:List bh:=[HG "<module>" "<module>" 182 185 1 0 0 11 Z vN vN vN,oS (vY "frame") #[M (vR 13),M (vR 3),M (vR 3),U,M (vS "__main__" 164),U,M (vR 0)]]
def obs(P:jw):List bh:=[boot_o_0 P,boot_o_1 P,oD vN #[dE P "type.__subclasses__.Exception.0" 214 (vI 31 0),dE P "type.__subclasses__.Exception.n" 215 (vI 1 0)] 2,oD (vY "dict") #[dE P "__name__" 165 (vS "law_qq0001_01" 910),dE P "__doc__" 166 vN,dE P "__package__" 167 vN,dE P "__loader__" 168 (vB "__main__.__loader__#opaque"),dE P "__spec__" 169 vN,dE P "__annotations__" 170 (vR 6),dE P "__builtins__" 171 (vR 4),dE P "__file__" 173 (vS "/claim/cut.py" 172),dE P "__cached__" 174 vN,dE P "_wall" 193 (vR 21),dE P "MAXINT" 197 (vI 9223372036854775807 196),dE P "YaccError" 217 (vR 31),dE P "_is_identifier" 223 (vR 39),dE P "_IDENTIFIER" 225 (vS "abcdefghijklmnopqrstuvwxyzABCDEFGHIJKLMNOPQRSTUVWXYZ0123456789_-" 224),dE P "_literal" 232 (vR 46),dE P "Production" 325 (vR 100),dE P "LRItem" 376 (vR 135),dE P "rightmost_terminal" 385 (vR 146),dE P "GrammarError" 401 (vR 156),dE P "Grammar" 591 (vR 283),dE P "digraph" 604 (vR 294),dE P "traverse" 622 (vR 301),dE P "LALRError" 638 (vR 311),dE P "_place" 644 (vR 318),dE P "LRGeneratedTable" 909 (vR 427),dE P "_law_pick" 918 (vR 438),dE P "_law_automaton" 924 (vR 443),dE P "_law_living" 937 (vR 450),dE P "_law_rules" 943 (vR 455),dE P "law" 949 (vR 460)] 30]++N3 P++[oF vN #[vI 1 0,vI 0 0,vR 20,vI 6 0,vI 0 0,vR 27,vI 8 0,vI 0 0,vR 38,vI 11 0,vI 0 0,vR 45,vI 15 0,vI 0 0,vR 52,vI 54 0,vI 0 0,vR 110,vI 76 0,vI 0 0,vR 145,vI 83 0,vI 0 0,vR 152,vI 85 0,vI 0 0,vR 164,vI 290 0,vI 0 0,vR 293,vI 300 0,vI 0 0,vR 300,vI 321 0,vI 0 0,vR 307,vI 323 0,vI 0 0,vR 317,vI 327 0,vI 0 0,vR 324,vI 651 0,vI 0 0,vR 437,vI 653 0,vI 0 0,vR 442,vI 673 0,vI 0 0,vR 449,vI 680 0,vI 0 0,vR 454,vI 690 0,vI 0 0,vR 459]]++N4++fO P O (vS "__main__" 164) 15 187 0++cB P "YaccError" "Exception.__new__" 6 1 22 198 [vY "Exception"] eY [vR 156,vR 311] [] 0 [] []++fO P Z uc 35 218 4++fO P O uc 40 226 6++cB P "Production" "object.__new__" 15 2 47 233 [vY "object"] [vY "object"] [] [dE P "reduced" 246 (vI 0 245),dE P "lr0_added" 248 (vI 0 247)] 4 ((tM 7 2,[tP #[vS "right" 249,vI 0 250],tP #[vR 54,vN,vS "" 251,vI 0 252]],4)::(Ey 7 8).drop 3) ["callable","file","func","len","line","lr_items","lr_next","name","number","prec","prod","str","usyms"]++cB P "LRItem" "object.__new__" 54 2 105 326 [vY "object"] [vY "object"] [] [] 0 (Ey 8 3) ["len","lookaheads","lr_index","name","number","prod","usyms"]++
 fO P O uc 140 377 9++cB P "GrammarError" "Exception.__new__" 83 0 147 386 [vR 31] (vR 31::eY) [] [] 0 [] []++cB P "Grammar" "object.__new__" 85 2 159 402 [vY "object"] [vY "object"] [] [] 0 ((((Ey 11 16).set 4 (tM 11 4,[tP #[vN,vS "" 448,vI 0 449]],2)).set 5 (tM 11 5,[tP #[vN]],0)).set 14 (tM 11 14,[tP #[vN]],0)) ["First","Follow","Nonterminals","Precedence","Prodmap","Prodnames","Productions","Start","Terminals","UsedPrecedence"]++fO P O uc 288 592 12++fO P O uc 295 605 13++cB P "LALRError" "Exception.__new__" 321 0 302 623 [vR 31] (vR 31::eY) [] [] 0 [] []++fO P Z uc 314 639 15++
 cB P "LRGeneratedTable" "object.__new__" 327 2 319 645 [vY "object"] [vY "object"] [] [] 0 ((Ey 16 14).set 0 (tM 16 0,[tP #[vS "LALR" 657,vN]],1)) ["_add_count","conflicts","grammar","lr0_cidhash","lr_action","lr_goto","lr_goto_cache","lr_method","lr_productions","rr_conflict","rr_conflicts","sr_conflict","sr_conflicts"]++fO P O Bj 432 912 18++fO P Z Bj 439 919 19++fO P O Bj 444 925 20++fO P Z Bj 451 938 21++fO P Z Bj 456 944 22
def N5(P:jw):List bh:=[boot_o_0 P,boot_o_1 P,boot_o_2 P,boot_o_3 P]++N3 P++[oF vN #[]]++N4
noncomputable def bt:Nat->List bh->Nat->Nat->BT
 |0,_,_,_=>.nil
 |f+1,l,a,b=>match l[b]? with
  |some o=>.node o (bt f l (2*a) (a+b)) (bt f l (2*a) (2*a+b))
  |none=>.nil
noncomputable abbrev eM:jf:={scope:=pr.main.scope,locals:=mainNs,globals:=mainNs,cells:=[],code:=.ref 13,frame:=M 14}
noncomputable abbrev cM:Code:=.body (WX pr) eM
noncomputable abbrev q0:gr:={line:=0,col:=0,endLine:=0,endCol:=0}
noncomputable abbrev q1:gr:={line:=690,col:=0,endLine:=729,endCol:=104}
abbrev hA(P:jw):fC:=⟨⟨N5 P⟩,{}⟩
abbrev hZ(P:jw):fC:=⟨⟨obs P⟩,{}⟩
abbrev tA(w:oH)(os:Bh):SharedT:=⟨bt 12 (N5 w.params) 1 0,15,{},⟨[]⟩,{},187,os⟩
abbrev tZ(w:oH)(os:Bh):SharedT:=⟨bt 12 (obs w.params) 1 0,461,{},⟨[]⟩,{},950,os⟩
theorem XB:∀w:oH,(λos=>topGo Ek pr w 11 (M (.ref 6)) 12 ⟨A9 w.params,⟨[]⟩,boot_drawn,boot_toks,os⟩ (topStub pr))=λos=>M (⟨hA w.params,⟨[]⟩,{},187,os⟩,⟨denote Ek cM,cM,q0,[NV q0]⟩):=λw=>by kernel_rfl
theorem XC:∀w:oH,(λos=>segRun Ek pr w 11 (M (.ref 6)) 1 1 ⟨hA w.params,⟨[]⟩,{},187,os⟩ (blockOf (WX pr) eM cM q0 [NV q0]))=λos=>M (.next,(tA w os).abs,cM,q0):=λw=>by kernel_rfl
theorem XD:∀w:oH,(λos=>segRunT Ek pr w 11 (M (.ref 6)) 1 3287 (tA w os) (piecesOf (WX pr) eM cM q0 [NV q0]))=λos=>M (.next,tZ w os,cM,q1):=λw=>by kernel_rfl
theorem XE:∀w:oH,(λos=>topRun Ek pr w 11 (M (.ref 6)) 2 (tZ w os).abs ⟨doneF .next,cM,q1,[NV q0]⟩)=λos=>M ⟨hZ w.params,⟨[]⟩,{},950,os⟩:=λw=>by kernel_rfl
theorem XF(w:oH)(os:Bh):topRun Ek pr w 11 (M (.ref 6)) (12+(1+(3287+2))) ⟨A9 w.params,⟨[]⟩,boot_drawn,boot_toks,os⟩ (topStub pr)=M ⟨hZ w.params,⟨[]⟩,{},950,os⟩:=by
 refine go_top (congrFun (XB w) os) (piece_block (congrFun (XC w) os) ?_);have:=piece_app (q:=q0) (rest:=[]) (segRun_of (congrFun (XD w) os)) (piece_nil (congrFun (XE w) os))
 rw[hY]at this;exact this
noncomputable def HH:List Nat:=[2,3,4,13,20,21,24,27,30,31,38,39,45,46,49,52,54,55,61,62,68,69,75,76,82,83,89,90,96,97,99,100,107,110,117,118,124,125,131,132,134,135,145,146,149,152,155,156,161,164,171,172,178,179,185,186,192,193,194,200,201,202,208,209,215,216,222,223,229,230,236,237,243,244,250,251,257,258,264,265,266,272,273,279,280,282,283,293,294,300,301,304,307,310,311,317,318,321,324,326,332,333,339,340,346,347,353,354,360,361,367,368,374,375,381,382,388,389,395,396,402,403,409,410,416,417,423,424,426,427,437,438,442,443,449,450,454,455,459,460]
noncomputable def HI:List Nat->Nat->List bh->jx
 |[],_,_=>[]
 |_,_,[]=>[]
 |a::as,n,o::os=>match cQ a n with
  |true=>(a,o)::HI as (n+1) os
  |false=>HI (a::as) (n+1) os
def K0(P:jw):jx:=HI HH 0 (obs P)
theorem XG(P:jw):HH=(K0 P).map (·.1):=by kernel_rfl
noncomputable def qV:N1:={pr with main:={pr.main with body:=pr.main.body.drop 22}}
noncomputable abbrev Ez:List aP:=[bo "_wall",bo "MAXINT",bo "YaccError",bo "_is_identifier",bo "_IDENTIFIER",bo "_literal",bo "Production",bo "LRItem",bo "rightmost_terminal",bo "GrammarError",bo "Grammar",bo "digraph",bo "traverse",bo "LALRError",bo "_place",bo "LRGeneratedTable",bo "_law_pick",bo "_law_automaton",bo "_law_living",bo "_law_rules"]
theorem XH:∀w:oH,((A9 w.params).isNs mj&&(⟨[]⟩:Array GenState).size==0,(A9 w.params).objs.size,(A9 w.params).nsMap mj "__annotations__")=(O,11,M (.ref 6)):=λw=>by kernel_rfl
noncomputable def N6(s:bK):List (Option bh)×Option bh×Option bh×Bool:=(HH.map s.heap.get?,s.heap.get? 391,s.heap.get? 398,(s.heap.get? qe).isSome)
def N7(w:oH):List (Option bh)×Option bh×Option bh×Bool:=((K0 w.params).map λp=>M p.2,M (oF .none #[]),M (oF .none #[]),O)
abbrev xi(w:oH)(h:fC):Prop:=(K0 w.params).In h/\h.get? 391=M (oF .none #[])/\h.get? 398=M (oF .none #[])/\(h.get? qe).isSome=O
theorem XI:∀w:oH,(λos=>((staticsOk (akh pr.main.body) (A9 w.params) (hZ w.params)&&namesBound pr (hZ w.params)&&gensDone ⟨hZ w.params,⟨[]⟩,{},950,os⟩&&laidKept (A9 w.params) (hZ w.params)),
 openSeen qV Ez (akh pr.main.body) (λs=>xlAt qV [] s&&recOk (aj9 uX.row.toRowW) s) O ⟨hZ w.params,⟨[]⟩,{},950,os⟩,N6 ⟨hZ w.params,⟨[]⟩,{},950,os⟩))=λa=>(O,openGood qV Ez,N7 w):=λw=>by kernel_rfl
theorem XJ:LeftO pr qV Ez (λs=>xlAt qV [] s&&recOk (aj9 uX.row.toRowW) s) N6 N7 3387:=
 LeftO.of_pieces (boot_open (by kernel_rfl) (ao Y) (λs=>by rfl)) XH XF (ao Y) XI
noncomputable def dL:DefRec:=if h:(tS 22).ctorIdx=0 then ait (motive_2:=λa=>DefRec) (tS 22) h (λn p b a a a sc a a po=>{name:=n,params:=p,body:=b,scope:=sc,pos:=po})
 else⟨bo "",{posonlyargs:=[],args:=[],vararg:=U,kwonlyargs:=[],kw_defaults:=[],kwarg:=U,defaults:=[]},[],pr.main.scope,q0⟩
abbrev Nl:=List Nat
abbrev Ss:=List aP
abbrev QE:=aN->bK->Prop
theorem bw{α:Type}{a:α}{p:Prop}(h:a∈([]:List α)):p:=ax h qJ
theorem fK{α:Type}{a:α}{p:Prop}(h:M a=U):p:=nomatch h
theorem cK{α:Type}{a:α}{p:Prop}(h:U=M a):p:=nomatch h
theorem qR{α:Type}{p:Prop}(f:α->Nat){x y:α}(h:x=y)(n:cQ (f x) (f y)=Z):p:=ax (aq f h) (Nat.ne_of_beq_eq_false n)
theorem dS{p:Prop}{x y:Nat}(h:x=y)(n:cQ x y=Z):p:=qR (λx=>x) h n
theorem jz{p:Prop}{x y:Data}(h:x=y)(n:cQ (Xb x) (Xb y)=Z):p:=qR Xb h n
theorem xj{p:Prop}{x y:aN}(h:x=y)(n:cQ (WZ x) (WZ y)=Z):p:=qR WZ h n
theorem xk{p:Prop}{x y:ua}(h:x=y)(n:cQ (Xa x) (Xa y)=Z):p:=qR Xa h n
theorem jZ{α:Type}{p:Prop}{x y:List α}(h:x=y)(n:cQ x.length y.length=Z):p:=qR Hq h n
def HJ(o:Option vn):Nat:=xd 0 (λk=>Bb k.ctorIdx) o
theorem yX{p:Prop}{x y:Option vn}(h:x=y)(n:cQ (HJ x) (HJ y)=Z):p:=qR HJ h n
theorem wm{α:Type}{ab:Model}{A:oG}{t:gD α}{Q Q':α->bK->Prop}{E:QE}{s:bK}(h:wpAny ab A t Q E s)(k:∀a s,Q a s->Q' a s):wpAny ab A t Q' E s:=gC h k λb b e=>e
def Bk(p:oH×Bh×aY×List aN×List Int):Prop:=∀(s:bK)(pp:N1)(loose:Ss)(mg mb:aP->Option aN)(R:Bi->bK->Prop),TopRead pp loose mg mb s.heap->xi p.1 s.heap->s.heap.get? p.2.2.1=M (listOf p.2.2.2.1.toArray 0)->Er p.2.2.2.1 p.2.2.2.2->p.2.2.2.2.length<=63->s.gens=#[]->s.os=p.2.1->(∀s',OldK s.heap s'.heap->s'.os=s.os->s'.gens=#[]->R (.ok (.ret (.bool O))) s')->qQ (model pr p.1) callerA (.call (.ref 460) ⟨[.ref p.2.2.1],[]⟩) R s
def p0:oH×Bh×aY×List aN×List Int:=@Bc _ ⟨(⟨λa a=>0,{strHash:=λa=>0,shareClass:=λa=>0,mergeTok:=id,idOf:=λa=>0,idOfShared:=λa a=>0,followText:=λa=>Z,idOfImm:=λa=>0}⟩,{},0,[],[])⟩ λp=>¬Bk p
def w0:oH:=p0.1
def XK:Bh:=p0.2.1
def a0:aY:=p0.2.2.1
def oI:List aN:=p0.2.2.2.1
def lH:List Int:=p0.2.2.2.2
def Z0:jx:=[(a0,listOf oI.toArray 0)]
def ai:jx:=K0 w0.params++Z0
def Md:Model:=model pr w0
noncomputable def ud:Ss:=[bo "name",bo "prod",bo "number",bo "func",bo "callable",bo "file",bo "line",bo "prec",bo "len",bo "usyms",bo "lr_items",bo "lr_next",bo "str",bo "lr_index",bo "lookaheads",bo "Productions",bo "Prodnames",bo "Prodmap",bo "Terminals",bo "Nonterminals",bo "First",bo "Follow",bo "Precedence",bo "UsedPrecedence",bo "Start",bo "_first",bo "compute_first",bo "__len__",bo "lr_after",bo "lr_before",bo "grammar",bo "lr_method",bo "lr_action",bo "lr_goto",bo "lr_productions",bo "lr_goto_cache",bo "lr0_cidhash",bo "_add_count",bo "sr_conflict",bo "rr_conflict",bo "conflicts",bo "sr_conflicts",bo "rr_conflicts",bo "build_lritems",bo "compute_follow",bo "lr_parse_table",bo "lr0_added",bo "lr0_closure",bo "lr0_goto",bo "compute_nullable_nonterminals",bo "find_nonterminal_transitions",bo "compute_read_sets",bo "compute_lookback_includes",bo "compute_follow_sets",bo "add_lookaheads",bo "lr0_items",bo "add_lalr_lookaheads",bo "reduced",bo "add_production",bo "set_start",bo "__init__",bo "dr_relation",bo "reads_relation",bo "set_precedence"]
noncomputable def XM:Ss:=["MAXINT","_IDENTIFIER"]
noncomputable def Bl:Ss:=["_wall","_is_identifier","_literal","rightmost_terminal","digraph","traverse","_place","_law_pick","_law_automaton","_law_living","_law_rules","law"]
noncomputable def HK:Ss:=["YaccError","Production","LRItem","GrammarError","Grammar","LALRError","LRGeneratedTable"]
noncomputable def N8:List (Nat×Nat):=[(1,0),(1,1),(1,2),(1,3),(1,4),(1,5),(1,6),(1,7),(1,8),(1,9),(1,10),(1,11),(1,12),(1,57),(1,46),(2,0),(2,1),(2,2),(2,13),(2,14),(2,8),(2,9),(2,28),(2,29),(2,11),(4,15),(4,16),(4,17),(4,18),(4,19),(4,20),(4,21),(4,22),(4,23),(4,24),(6,30),(6,31),(6,32),(6,33),(6,34),(6,35),(6,36),(6,37),(6,38),(6,39),(6,40),(6,41),(6,42)]
noncomputable def N9:List (Nat×Nat×Nat):=[(1,27,21),(4,63,24),(4,58,25),(4,59,26),(4,25,27),(4,26,28),(4,44,29),(4,43,30),(6,47,32),(6,48,33),(6,55,34),(6,49,35),(6,50,36),(6,61,37),(6,62,38),(6,52,39),(6,51,40),(6,53,41),(6,54,42),(6,56,43),(6,45,44)]
noncomputable def XN:List (Nat×Nat×Int):=[(1,57,0),(1,46,0)]
noncomputable def XO:Nl:=[21,39,46,146,294,301,318,438,443,450,455,460,0,0,0,0,0,0,0,0,62,83,118,172,193,201,209,258,265,273,280,333,340,347,354,361,368,375,382,389,396,403,410,417,424]
noncomputable def XP:Nl:=[31,100,135,156,283,311,427]
noncomputable def fD(i:Nat):aP:=(ud[i]?).getD fU
noncomputable def bJ(i:Nat):aY:=(XO[i]?).getD 0
noncomputable def dZ(i:Nat):aY:=(XP[i]?).getD 0
noncomputable def kq(c a:Nat):Bool:=N8.contains (c,a)
noncomputable def HM(c a:Nat):Option Int:=(XN.find? λp=>p.1==c&&p.2.1==a).map (·.2.2)
noncomputable def Bm(c a:Nat):Option Nat:=(N9.find? λp=>p.1==c&&p.2.1==a).map (·.2.2)
abbrev DP(p:Prop):=Option (PLift p)
noncomputable def db:(b:Bool)->DP (b=O)
 |true=>M ⟨Y⟩
 |false=>U
noncomputable def dN:(b:Bool)->DP (b=Z)
 |false=>M ⟨Y⟩
 |true=>U
noncomputable def dm{p q:Prop}(f:p->q):DP p->DP q
 |some x=>M ⟨f x.1⟩
 |none=>U
noncomputable def dn{p q:Prop}:DP p->DP q->DP (p/\q)
 |some x,M y=>M ⟨x.1,y.1⟩
 |_,_=>U
theorem dg{p:Prop}:(x:DP p)->x.isSome=O->p
 |some x,_=>x.1
theorem EA{α:Type}{p:α->Prop}{f:(a:α)->DP (p a)}{l:List α}(h:(l.all λa=>(f a).isSome)=O){a:α}(m:a∈l):p a:=dg _ (qa.mp h a m)
theorem bq{α:Type} [BEq α] [LawfulBEq α]{a b:α}(h:(a==b)=O):a=b:=beq_iff_eq.mp h
def ClsAt(ai:jx)(c a:Nat):Prop:=∃v,t9 ai (.ref (dZ c)) (fD a)=M v/\noGet ai v=O/\∀i,HM c a=M i->∃t,v=M (.int i t)/\specialIn ai (.int i t) "__get__"=M U
noncomputable def clsAt(ai:jx)(c a:Nat):DP (ClsAt ai c a):=match h:t9 ai (.ref (dZ c)) (fD a),h2:HM c a with
 |some v,U=>dm (λq=>⟨v,h,q,λi e=>by rw[h2]at e;cases e⟩) (db (noGet ai v))
 |some (M (.int i t)),M j=>dm (λq=>⟨_,h,q.1,λk e=>⟨t,by rw[h2]at e;rw[<-bu e,bq q.2.1],by rw[h2]at e;rw[<-bu e,<-bq q.2.1];exact bq q.2.2⟩⟩) (dn (db (noGet ai (M (.int i t)))) (dn (db (i==j)) (db (specialIn ai (.int i t) "__get__"==M U))))
 |_,_=>U
def HN(ai:jx)(c a:Nat):Prop:=plainGet ai (dZ c) (fD a)=O/\hasDictIn ai (dZ c)=O/\copiedNames.contains (fD a)=Z/\ClsAt ai c a/\(t9 ai (.ref (dZ c)) "__setattr__"==M (M (.builtin "object.__setattr__")))=O/\plainOver ai (dZ c)=O/\(takerIn ai (dZ c) (fD a)==M U)=O/\xe a 64=O
noncomputable def XQ(ai:jx)(c a:Nat):DP (HN ai c a):=dn (db _) (dn (db _) (dn (dN _) (dn (clsAt ai c a) (dn (db _) (dn (db _) (dn (db _) (db _)))))))
def EB(ai:jx)(c a f:Nat):Prop:=plainGet ai (dZ c) (fD a)=O/\(t9 ai (.ref (dZ c)) (fD a)==M (M (.ref (bJ f))))=O/\isFn ai (.ref (bJ f))=O/\xg ai (.ref (bJ f))=O
noncomputable def XR(ai:jx)(c a f:Nat):DP (EB ai c a f):=dn (db _) (dn (db _) (dn (db _) (db _)))
theorem XS(P:jw)(ah:jx):(N8.all λp=>(XQ (K0 P++ah) p.1 p.2).isSome)=O:=by kernel_rfl
theorem XT(P:jw)(ah:jx):(N9.all λp=>(XR (K0 P++ah) p.1 p.2.1 p.2.2).isSome)=O:=by kernel_rfl
theorem EC{c a:Nat}(h:kq c a=O):HN ai c a:=EA (p:=λp:Nat×Nat=>HN (K0 w0.params++Z0) p.1 p.2) (XS w0.params Z0) (a:=(c,a)) (iT.mp h)
theorem Oa{c a f:Nat}(h:Bm c a=M f):EB ai c a f:=by
 obtain⟨p,hp,rfl⟩:=DY.mp h;have e:=dH.mp (ajK (p:=λp:Nat×Nat×Nat=>p.1==c&&p.2.1==a) hp)
 have:EB ai p.1 p.2.1 p.2.2:=EA (p:=λp:Nat×Nat×Nat=>EB (K0 w0.params++Z0) p.1 p.2.1 p.2.2) (XT w0.params Z0) (aiM hp)
 rwa [bq e.1,bq e.2]at this
noncomputable def mq(l:Ss)(i:Nat)(x:aP):Bool:=l[i]?==M x
theorem Ob{l:Ss}{i:Nat}{x:aP}(h:mq l i x=O):l[i]?=M x:=bq h
theorem vp{a:Nat}{x:aP}(h:mq ud a x=O):fD a=x:=aq (ajZ · fU) (Ob h)
def FnAt(ai:jx)(a:aY)(x:aP):Prop:=(nsIn ai mj x==M (M (.ref a)))=O/\xg ai (.ref a)=O
noncomputable def fnAt(ai:jx)(a:aY)(x:aP):DP (FnAt ai a x):=dn (db _) (db _)
theorem XU(P:jw)(ah:jx):((Bl.zipIdx).all λp=>(fnAt (K0 P++ah) (bJ p.2) p.1).isSome)=O:=by kernel_rfl
theorem XV(P:jw)(ah:jx):((HK.zipIdx).all λp=>(fnAt (K0 P++ah) (dZ p.2) p.1).isSome)=O:=by kernel_rfl
theorem Oc{l:Ss}{i:Nat}{x:aP}(h:mq l i x=O):(x,i)∈l.zipIdx:=MX.mpr (Ob h)
theorem Od{f:Nat}{x:aP}(h:mq Bl f x=O):FnAt ai (bJ f) x:=EA (p:=λp:aP×Nat=>FnAt (K0 w0.params++Z0) (bJ p.2) p.1) (XU w0.params Z0) (Oc h)
theorem XW{f:Nat}{x:aP}(h:mq HK f x=O):FnAt ai (dZ f) x:=EA (p:=λp:aP×Nat=>FnAt (K0 w0.params++Z0) (dZ p.2) p.1) (XV w0.params Z0) (Oc h)
theorem Oe(P:jw)(ah:jx):t9 (K0 P++ah) (.ref (dZ 2)) "__bool__"=M U/\t9 (K0 P++ah) (.ref (dZ 2)) "__len__"=M U:=⟨by kernel_rfl,by kernel_rfl⟩
theorem XX:(iW 64).all (λi=>(iW 64).all λj=>cQ i j||!(fD i==fD j))=O:=by kernel_rfl
theorem XY:(iW 64).all (λi=>!(fD i==fU))=O:=by kernel_rfl
theorem XZ{i j:Nat}(hi:xe i 64=O)(e:fD i=fD j):i=j:=by
 have hi:=nK hi;by_cases hj:j<64
 .have:=qa.mp (qa.mp XX i (gY.mpr hi)) j (gY.mpr hj);rw[e,beq_self_eq_true,Eg,aj2]at this;exact Wg this
 .have h2:fD j=fU:=aq (ajZ · fU) (ai5 (km.mp hj));have:=qa.mp XY i (gY.mpr hi)
  rw[e,h2]at this;exact nomatch this
abbrev Loc:=Nat×Nl
inductive V where
 |n
 |o (b:Bool)
 |i (i:Int)
 |s (s:aP)
 |e (l:Loc)
 |iX (a:aY)
 |jJ
 |fk (a b:V)
def V.ctorIdx(x:V):Nat:=V.rec 0 (λa=>1) (λa=>2) (λa=>3) (λa=>4) (λa=>5) 6 (λa a a a=>7) x
abbrev Es:=List (V×V)
abbrev Vs:=List V
abbrev Mp:=Nat->Option V
noncomputable def V.bP:Vs->V
 |[]=>.jJ
 |a::r=>.fk a (V.bP r)
structure Gx where
 X:jx
 p:List (Loc×aY)
inductive af where
 |l (vs:Vs)
 |d (es:Es)
 |i (c:Nat) (f:Mp)
 |s (vs:Vs)
 |t (a:aY) (vs:Array aN)
 |fz (g:Gx)
def af.ctorIdx(x:af):Nat:=af.rec (λa=>0) (λa=>1) (λa a=>2) (λa=>3) (λa a=>4) (λa=>5) x
abbrev Hp:=Loc->Option af
theorem HO{p:Prop}{x y:V}(h:x=y)(n:cQ (V.ctorIdx x) (V.ctorIdx y)=Z):p:=qR V.ctorIdx h n
def HP(o:Option af):Nat:=xd 0 af.ctorIdx o
theorem vq{p:Prop}{x y:Option af}(h:x=y)(n:cQ (HP x) (HP y)=Z):p:=qR HP h n
theorem X0{p:Prop}{x y:Loc}(h:x=y)(n:cQ x.1 y.1=Z):p:=qR (λl:Loc=>l.1) h n
abbrev RQ:=V->Hp->Nat->Prop
noncomputable def Hp.aF(h:Hp)(l:Loc)(o:af):Hp:=λk=>if k=l then M o else h k
theorem aQ{h:Hp}{l:Loc}{o:af}{k:Loc}(e:k≠l):h.aF l o k=h k:=av e
theorem a4{h:Hp}{l:Loc}{o:af}:h.aF l o l=M o:=aw Y
def aX(h:Hp)(l:Loc):Prop:=h l≠U
theorem mu{h:Hp}{l:Loc}{o:af}(e:h l=M o):aX h l:=λz=>fK (e.symm.trans z)
theorem qS{h:Hp}{l:Loc}{o:af}(k:Loc):aX (h.aF l o) k↔k=l\/aX h k:=by
 by_cases e:k=l
 .exact⟨λa=>.inl e,λa z=>fK ((aw e).symm.trans z)⟩
 .exact⟨λd=>.inr λz=>d ((av e).trans z),λd z=>(d.resolve_left e) ((av e).symm.trans z)⟩
def bL{α β:Type}(R:α->β->Prop)(as:List α)(bs:List β):Prop:=∃zs:List (α×β),as=zs.map (·.1)/\bs=zs.map (·.2)/\∀z∈zs,R z.1 z.2
variable{α β:Type} {R S:α->β->Prop} {as cs:List α} {bs:List β}
section
variable{ds:List β}
theorem bL.gO:bL R [] []:=⟨[],Y,Y,λa h=>bw h⟩
theorem bL.gE{a:α}{b:β}(h:R a b)(k:bL R as bs):bL R (a::as) (b::bs):=k.elim λzs k=>⟨(a,b)::zs,aq _ k.1,aq _ k.2.1,kb.mpr ⟨h,k.2.2⟩⟩
theorem bL.bN(h:bL R as bs)(f:∀a b,R a b->S a b):bL S as bs:=h.elim λzs k=>⟨zs,k.1,k.2.1,λz m=>f _ _ (k.2.2 z m)⟩
theorem bL.gU(h:bL R as bs):as.length=bs.length:=h.elim λzs k=>by rw[k.1,k.2.1,bc,bc]
theorem bL.vt(h:bL R as bs)(h':bL R cs ds):bL R (as++cs) (bs++ds):=h.elim λzs k=>h'.elim λys j=>⟨zs++ys,by rw[k.1,j.1,dc],by rw[k.2.1,j.2.1,dc],λz m=>(cD.mp m).elim (k.2.2 z) (j.2.2 z)⟩
theorem bL.yY(h:bL R as bs)(i:Nat):(as[i]?=U/\bs[i]?=U)\/∃a b,as[i]?=M a/\bs[i]?=M b/\R a b:=h.elim λzs k=>by
 rw[k.1,k.2.1,kG,kG];cases h:zs[i]? with
 |none=>exact .inl ⟨Y,Y⟩
 |some z=>exact .inr ⟨_,_,Y,Y,k.2.2 z (bE h)⟩
theorem bL.lI{i:Nat}{b:β}(h:bL R as bs)(e:bs[i]?=M b):∃a,as[i]?=M a/\R a b:=
 (h.yY i).elim (λq=>fK (e.symm.trans q.2)) λq=>q.elim λa q=>q.elim λc q=>⟨a,q.1,aj (bu (q.2.1.symm.trans e)) q.2.2⟩
theorem bL.xl{i:Nat}{a:α}(h:bL R as bs)(e:as[i]?=M a):∃b,bs[i]?=M b/\R a b:=
 (h.yY i).elim (λq=>fK (e.symm.trans q.1)) λq=>q.elim λc q=>q.elim λb q=>⟨b,q.2.1,aj (bu (q.1.symm.trans e)) q.2.2⟩
theorem bL.Of{a:α}(h:bL R as bs)(m:a∈as):∃b,b∈bs/\R a b:=
 (kE m).elim λc e=>(h.xl e).elim λb q=>⟨b,bE q.1,q.2⟩
theorem bL.xn(h:bL R as bs)(n:Nat):bL R (as.drop n) (bs.drop n):=h.elim λzs k=>⟨zs.drop n,by rw[k.1,Ef],by rw[k.2.1,Ef],λz m=>k.2.2 z (Wi m)⟩
theorem bL.HS(h:bL R as bs)(n:Nat):bL R (as.take n) (bs.take n):=h.elim λzs k=>⟨zs.take n,by rw[k.1,Ee],by rw[k.2.1,Ee],λz m=>k.2.2 z (uZ m)⟩
theorem bL.eR{a:α}{b:β}(h:bL R as bs)(i:Nat)(q:R a b):bL R (as.set i a) (bs.set i b):=h.elim λzs k=>⟨zs.set i (a,b),by rw[k.1,akb],by rw[k.2.1,akb],λz m=>(List.mem_or_eq_of_mem_set m).elim (k.2.2 z) λe=>ak e q⟩
theorem bL.Og(h:bL R as bs)(i:Nat):bL R (as.eraseIdx i) (bs.eraseIdx i):=by rw[aix,aix];exact(h.HS i).vt (h.xn (i+1))
theorem bL.tail{a:α}{b:β}(h:bL R (a::as) (b::bs)):R a b/\bL R as bs:=by
 obtain⟨_|⟨z,zs⟩,e1,e2,k⟩:=h
 .cases e1
 .cases e1;cases e2;exact⟨k z (.head _),zs,Y,Y,λz m=>k z (.tail _ m)⟩
theorem bL.lK{b:β}(h:bL R as (b::bs)):∃a r,as=a::r/\R a b/\bL R r bs:=by
 cases as with
 |nil=>exact dS h.gU rfl
 |cons a r=>exact⟨a,r,Y,h.tail⟩
theorem bL.oJ(h:bL R as []):as=[]:=VZ h.gU
end
structure Wd where
 bG:Loc×Bool->aY
 n:List (aY×bh)
noncomputable def Wd.ρ(W:Wd)(l:Loc):aY:=W.bG (l,Z)
noncomputable def Wd.δ(W:Wd)(l:Loc):aY:=W.bG (l,O)
noncomputable abbrev lL(vs:Array aN):bh:={cls:=.none,data:=.fields vs}
noncomputable abbrev ia(vs:List aN):bh:={cls:=.type "tuple",data:=.seq vs.toArray}
def TupAt(W:Wd)(a:aY)(vs:List aN):Prop:=((a,ia vs)∈W.n\/ai.lookup a=M (ia vs))/\vs.length<=33554432
def oK(W:Wd)(S:List aN->Prop)(v:aN):Prop:=∃a vs,v=.ref a/\TupAt W a vs/\S vs
def xo(A:aN->Prop)(S:List aN->Prop)(vs:List aN):Prop:=∃u r,vs=u::r/\A u/\S r
def Oh(W:Wd)(D:Loc->Prop)(x:V):(aN->Prop)×(List aN->Prop):=V.rec (motive:=λc=>(aN->Prop)×(List aN->Prop))
 (λv=>v=.none,λc=>False) (λb=>(λv=>v=.bool b,λc=>False)) (λi=>(λv=>∃t,v=.int i t,λc=>False)) (λs=>(λv=>∃t,v=.str s t/\kH s=O,λc=>False))
 (λl=>(λv=>v=.ref (W.ρ l)/\D l,λc=>False)) (λa=>(λv=>v=.ref a,λc=>False))
 (oK W (·=[]),(·=[])) (λc c A B=>(oK W (xo A.1 B.2),xo A.1 B.2)) x
def VR(W:Wd)(D:Loc->Prop)(v:aN)(x:V):Prop:=(Oh W D x).1 v
def iJ(W:Wd)(D:Loc->Prop)(vs:List aN)(x:V):Prop:=(Oh W D x).2 vs
def Tu(W W':Wd)(D D':Loc->Prop):Prop:=(∀l,D l->D' l/\W'.ρ l=W.ρ l)/\∀a vs,(a,ia vs)∈W.n->(a,ia vs)∈W'.n
section
variable{W W':Wd} {D D':Loc->Prop} (hh:Tu W W' D D')
def Tu.aC:=hh.1
def Tu.aD:=hh.2
end
theorem Tu.at{W W':Wd}{D D':Loc->Prop}(t:Tu W W' D D'){a:aY}{vs:List aN}(h:TupAt W a vs):TupAt W' a vs:=⟨h.1.imp (t.aD _ _) id,h.2⟩
theorem oK.bN{W W':Wd}{D D':Loc->Prop}(t:Tu W W' D D'){S S':List aN->Prop}(k:∀vs,S vs->S' vs){v:aN}(h:oK W S v):oK W' S' v:=h.elim λa h=>h.elim λvs h=>⟨a,vs,h.1,t.at h.2.1,k vs h.2.2⟩
theorem xo.bN{A A':aN->Prop}{S S':List aN->Prop}(j:∀v,A v->A' v)(k:∀vs,S vs->S' vs){vs:List aN}(h:xo A S vs):xo A' S' vs:=h.elim λu h=>h.elim λr h=>⟨u,r,h.1,j u h.2.1,k r h.2.2⟩
theorem VR.X1{W W':Wd}{D D':Loc->Prop}(t:Tu W W' D D')(x:V):(∀v,VR W D v x->VR W' D' v x)/\∀vs,iJ W D vs x->iJ W' D' vs x:=by
 induction x with
 |e l=>exact⟨λv h=>⟨h.1.trans (aq ik (t.aC l h.2).2.symm),(t.aC l h.2).1⟩,λc h=>h⟩
 |jJ=>exact⟨λv h=>oK.bN t (λc h=>h) h,λc h=>h⟩
 |fk a b ha hb=>exact⟨λv h=>oK.bN t (λc h=>xo.bN ha.1 hb.2 h) h,λc h=>xo.bN ha.1 hb.2 h⟩
 |_=>exact⟨λc h=>h,λc h=>h⟩
theorem VR.bN{W W':Wd}{D D':Loc->Prop}(t:Tu W W' D D'){v:aN}{x:V}:VR W D v x->VR W' D' v x:=(VR.X1 t x).1 v
variable{W:Wd} {D:Loc->Prop}
noncomputable def V.ip:V->Bool
 |.jJ|.fk _ _=>O
 |_=>Z
theorem iJ.Oi{xs:Vs}:∀{vs:List aN},iJ W D vs (V.bP xs)↔bL (VR W D) vs xs:=by
 induction xs with
 |nil=>exact⟨λe=>ak (show _=[] from e) .gO,λh=>h.oJ⟩
 |cons x xs ih=>exact⟨λh=>h.elim λu h=>h.elim λr h=>ak h.1 (.gE h.2.1 (ih.mp h.2.2)),λh=>h.lK.elim λu h=>h.elim λr h=>⟨u,r,h.1,h.2.1,ih.mpr h.2.2⟩⟩
theorem VR.kJ{v:aN}{xs:Vs}:VR W D v (V.bP xs)↔∃a vs,v=.ref a/\TupAt W a vs/\bL (VR W D) vs xs:=by
 have e:VR W D v (V.bP xs)=oK W (λvs=>iJ W D vs (V.bP xs)) v:=by cases xs<;>rfl
 rw[e];exact⟨λh=>h.elim λa h=>h.elim λvs h=>⟨a,vs,h.1,h.2.1,iJ.Oi.mp h.2.2⟩,λh=>h.elim λa h=>h.elim λvs h=>⟨a,vs,h.1,h.2.1,iJ.Oi.mpr h.2.2⟩⟩
theorem Bn:∀{l k:List α},l.Nodup->(∀x∈l,x∈k)->l.length<=k.length:=by
 intro l
 induction l with
 |nil=>exactλb b=>b7 _
 |cons a r ih=>
  intro k n s;have n:=fQ.mp n
  have h1:=ih (k:=k.erase a) n.2 λx hx=>(ai9 λe=>n.1 (by rw[<-e];exact hx)).mpr (s x (.tail _ hx))
  rw[aiP (s a (.head _))]at h1;exact aL (fJ h1) (fR (M3 (M4 (s a (.head _)))))
noncomputable def V.cn:V->Nat->Bool
 |.i _,_|.s _,_|.n,_=>O
 |.jJ,d=>xe 0 d
 |.fk a b,d=>xe 0 d&&(a.cn (d-1)&&(b.cn d&&b.ip))
 |_,_=>Z
def qT(x:V):WData×List WData:=V.rec (motive:=λa=>WData×List WData) (.none,[]) (λb=>(.bool b,[])) (λi=>(.int i,[])) (λs=>(.str s,[])) (λa=>(.none,[])) (λa=>(.none,[])) (.tuple [],[]) (λa a A B=>(.tuple (A.1::B.2),A.1::B.2)) x
def qU(x:V):Int:=hashW w0.params (qT x).1
def At(W:Wd)(l:Loc)(o:bh):Prop:=if l.1=0 then ai.lookup (W.ρ l)=M o else(W.ρ l,o)∈W.n
def DE(W:Wd)(D:Loc->Prop)(d:dJ)(e:V×V):Prop:=VR W D d.key e.1/\VR W D d.val e.2/\d.hash=qU e.1/\e.1.cn 7=O
section
variable{d:dJ} {e:V×V} (hh:DE W D d e)
def DE.aC:=hh.1
def DE.aI:=hh.2.1
def DE.aG:=hh.2.2.1
def DE.aD:=hh.2.2.2
end
def oM(W:Wd)(D:Loc->Prop)(ds:List dJ)(i:Nat)(x:Option V):Prop:=xd (getL (fD i) ds=M U) (λx=>∃v,getL (fD i) ds=M (M v)/\VR W D v x) x
def xp(o:bh)(vs:Vs):Prop:=∃es ep t,o.ExactSet/\o.data=.set es ep t/\ElemsOf (strKind pr w0) es.toList/\(∀k:aP,V.s k∈vs↔∃e∈es.toList,(strKind pr w0).is k e.2=O)/\es.size<scanBound/\t.fits es.size=O/\es.size=vs.length
def OR(W:Wd)(D:Loc->Prop)(l:Loc)(o:af):Prop:=af.rec (motive:=λb=>Prop)
 (λvs=>∃a7 n,At W l (listOf a7 n)/\bL (VR W D) a7.toList vs/\vs.length<=33554432)
 (λes=>l.1≠0/\∃ds,(W.ρ l,fV ds es.length)∈W.n/\bL (DE W D) ds es/\(es.map (·.1)).Nodup/\es.length<=33554432)
 (λc f=>l.1≠0/\(W.ρ l,Bg (dZ c) (W.δ l))∈W.n/\∃ds n,(W.δ l,fV ds n)∈W.n/\(∃L:Nl,L.Nodup/\(∀i∈L,f i≠U/\i∈iW 64)/\ds.length<=L.length)/\∀i,oM W D ds i (f i))
 (λvs=>l.1≠0/\∃o,(W.ρ l,o)∈W.n/\xp o vs)
 (λa vs=>l.1≠0/\W.ρ l=a/\(W.ρ l,lL vs)∈W.n)
 (λb=>l.1=0) o
def gF(o:Option af):Prop:=∃c f,o=M (.i c f)
def nY(o:Option af):Prop:=∃a vs,o=M (.t a vs)
def Own(h:Hp)(p:Loc×Bool):Prop:=p.1.1≠0/\aX h p.1/\(p.2=O->gF (h p.1))
def jg(W:Wd)(h:Hp)(a:aY):Prop:=∃p,Own h p/\W.bG p=a
noncomputable def gu:Loc:=(0,[1])
def nZ(h:Hp)(g:Gx):Prop:=∀g',h gu=M (.fz g')->g'=g
structure HR(g:Gx)(W:Wd)(h:Hp):Prop where
 aC:∀l o,h l=M o->OR W (aX h) l o
 aG:(W.n.map (·.1)).Nodup
 aJ:∀l,l.1=0->W.ρ l=a0
 aD:(∀p∈g.p,aX h p.1/\W.ρ p.1=p.2)/\nZ h g
 aI:∀p q,Own h p->Own h q->W.bG p=W.bG q->p=q
structure Ext(X:aY->Prop)(W:Wd)(h:Hp)(W':Wd)(h':Hp):Prop where
 aC:∀l,aX h l->aX h' l/\(gF (h' l)->gF (h l))/\∀b,W'.bG (l,b)=W.bG (l,b)
 aD:∀p∈W.n,¬jg W h p.1->¬X p.1->p∈W'.n
 aG:∀p∈W.n,∃o,(p.1,o)∈W'.n
 aI:∀l,¬aX h l->aX h' l->l.1≠0/\∀b,Own h' (l,b)->∀p∈W.n,W'.bG (l,b)≠p.1
 aJ:∀l,nY (h l)->nY (h' l)
variable{g:Gx} {X aa:aY->Prop} {W' a5 cU:Wd} {D':Loc->Prop} {h h' h₁ jA:Hp} {l:Loc} {a:aY}
section
variable{o:af}
theorem nZ.aF(k:nZ h g)(l0:l.1≠0):nZ (h.aF l o) g:=λg' e=>k g' ((aQ λe=>l0 (aq dQ e).symm).symm.trans e)
theorem Ext.lM:Ext X W h W h:=⟨λa d=>⟨d,id,λa=>Y⟩,λa m a a=>m,λp m=>⟨p.2,m⟩,λa n d=>ax d n,λa=>id⟩
theorem Ext.weaken(e:Ext X W h W' h')(k:∀a,X a->aa a):Ext aa W h W' h':=⟨e.aC,λp m f n=>e.aD p m f λq=>n (k _ q),e.aG,e.aI,e.aJ⟩
theorem Ext.mw(e:Ext X W h W' h'){p:aY×bh}(m:p∈W.n)(n:¬jg W h p.1):¬jg W' h' p.1:=λq=>q.elim λ⟨l,b⟩ q=>by
 by_cases d:aX h l
 .have z:=e.aC l d;exact n ⟨(l,b),⟨q.1.1,d,λw=>z.2.1 (q.1.2.2 w)⟩,(z.2.2 b).symm.trans q.2⟩
 .exact(e.aI l d q.1.2.1).2 b q.1 p m q.2
theorem Ext.cO(a:Ext X W h a5 h₁)(b:Ext X a5 h₁ cU jA):Ext X W h cU jA:=by
 refine⟨λl d=>?_,λp m f nx=>b.aD p (a.aD p m f nx) (a.mw m f) nx,λp m=>(a.aG p m).elim λo m=>b.aG (p.1,o) m,λl n d=>?_,λl t=>b.aJ l (a.aJ l t)⟩
 .have z:=a.aC l d;have y:=b.aC l z.1
  exact⟨y.1,λq=>z.2.1 (y.2.1 q),λb=>(y.2.2 b).trans (z.2.2 b)⟩
 .by_cases d1:aX h₁ l
  .have z:=a.aI l n d1;have y:=b.aC l d1
   exact⟨z.1,λc q p m=>ak (y.2.2 c) (z.2 c ⟨q.1,d1,λw=>y.2.1 (q.2.2 w)⟩ p m)⟩
  .have z:=b.aI l d1 d;exact⟨z.1,λc q p m=>(a.aG p m).elim λo m=>z.2 c q (p.1,o) m⟩
theorem HT{l:List (aY×bh)}(n:(l.map (·.1)).Nodup){o o':bh}(h:(a,o)∈l)(h':(a,o')∈l):o=o':=by
 induction l with
 |nil=>cases h
 |cons p r ih=>
  have n:=fQ.mp n;rcases b0.mp h with e|e<;>rcases b0.mp h' with e'|e'
  .exact(bS (e.trans e'.symm)).2
  .cases e;exact ax (dw (f:=dQ) e') n.1
  .cases e';exact ax (dw (f:=dQ) e) n.1
  .exact ih n.2 e e'
def jK(c:bh)(vs:Array aN):Prop:=c.data=.fields vs/\c.cls≠.none
def xq(c:bh):Prop:=(∀vs,c≠ia vs)/\(∀v,c.data≠.cell v)/\∀vs,¬jK c vs
theorem X2{a7:Array aN}{n:Nat}:xq (listOf a7 n):=⟨λvs e=>ax (aq (λo:bh=>o.cls==.type "tuple") e) (show Z≠O from d8),(λv e=>by cases e),λvs f=>by cases f.1⟩
theorem ED{c:bh}(h1:∀vs n,c.data≠.seq vs n)(h2:∀v,c.data≠.cell v)(h3:∀vs,¬jK c vs):xq c:=⟨λvs e=>h1 _ _ (aq Ba e),h2,h3⟩
theorem Oj{ds:List dJ}{n:Nat}:xq (fV ds n):=ED (λa a e=>by cases e) (λa e=>by cases e) λa f=>by cases f.1
theorem OR.own{b:Bool}(x:OR W D l o)(l0:l.1≠0)(i:b=O->gF (M o)):∃c,(W.bG (l,b),c)∈W.n/\xq c:=by
 cases b with
 |true=>obtain⟨c,f,e⟩:=i Y;cases e;exact x.2.2.elim λds q=>q.elim λn q=>⟨_,q.1,Oj⟩
 |false=>cases o with
  |l vs=>exact x.elim λa7 q=>q.elim λn q=>⟨_,(av l0).mp q.1,X2⟩
  |d es=>exact x.2.elim λds q=>⟨_,q.1,Oj⟩
  |i c f=>exact⟨_,x.2.1,ED (λh h e=>by cases e) (λh e=>by cases e) λh f=>by cases f.1⟩
  |s vs=>exact x.2.elim λo q=>q.2.elim λes r=>r.elim λep r=>r.elim λt r=>⟨_,q.1,ED (λh h e=>by cases r.2.1.symm.trans e) (λv e=>by cases r.2.1.symm.trans e) λh f=>by cases r.2.1.symm.trans f.1⟩
  |fz g=>exact ax x l0
  |t a vs=>exact⟨_,x.2.2,ED (λh h e=>by cases e) (λh e=>by cases e) λh f=>f.2 Y⟩
theorem HR.bT(H:HR g W h){p:Loc×Bool}(q:Own h p):∃c,(W.bG p,c)∈W.n/\xq c:=by
 obtain⟨l,b⟩:=p;cases e:h l with
 |none=>exact ax e q.2.1
 |some o=>exact(H.aC l o e).own q.1 λw=>aj e (q.2.2 w)
theorem HR.mw(H:HR g W h){p:aY×bh}(m:p∈W.n)(n:¬xq p.2):¬jg W h p.1:=λq=>q.elim λp' q=>(H.bT q.1).elim λc r=>n (ak (HT H.aG (show(p.1,p.2)∈W.n from m) (aj q.2 r.1)) r.2)
theorem Ol{vs:List aN}:¬xq (ia vs):=λf=>f.1 vs Y
theorem Ext.tu(H:HR g W h)(nx:∀a vs,(a,ia vs)∈W.n->¬X a)(e:Ext X W h W' h'):Tu W W' (aX h) (aX h'):=
 ⟨λl d=>⟨(e.aC l d).1,(e.aC l d).2.2 Z⟩,λb b m=>e.aD _ m (H.mw m Ol) (nx _ _ m)⟩
theorem DE.mono(t:Tu W W' D D'){d:dJ}{e:V×V}(x:DE W D d e):DE W' D' d e:=⟨x.aC.bN t,x.aI.bN t,x.aG,x.aD⟩
theorem oM.mono(t:Tu W W' D D'){ds:List dJ}{i:Nat}{x:Option V}(k:oM W D ds i x):oM W' D' ds i x:=by
 cases x with
 |none=>exact k
 |some x=>exact k.elim λv k=>⟨v,k.1,k.2.bN t⟩
theorem OR.bN(t:Tu W W' D D')(hr:∀b,W'.bG (l,b)=W.bG (l,b))(k:∀b c,l.1≠0->(b=O->gF (M o))->(W.bG (l,b),c)∈W.n->(W.bG (l,b),c)∈W'.n)(x:OR W D l o):OR W' D' l o:=by
 have at_:∀{b c},l.1≠0->(b=O->gF (M o))->(W.bG (l,b),c)∈W.n->(W'.bG (l,b),c)∈W'.n:=λ{b c} l0 i m=>aj (hr b).symm (k b c l0 i m);have nf:Z=O->gF (M o):=λe=>cw e
 cases o with
 |l vs=>exact x.elim λa7 q=>q.elim λn q=>⟨a7,n,by
  by_cases e:l.1=0
  .exact(aw e).mpr (ak (show W'.ρ l=W.ρ l from hr Z) ((aw e).mp q.1))
  .exact(av e).mpr (at_ e nf ((av e).mp q.1)),q.2.1.bN λh h=>VR.bN t,q.2.2⟩
 |d es=>exact⟨x.1,x.2.elim λds q=>⟨ds,at_ x.1 nf q.1,q.2.1.bN λh h=>DE.mono t,q.2.2⟩⟩
 |i c f=>exact⟨x.1,ak (show W'.δ l=W.δ l from hr O) (at_ x.1 nf x.2.1),x.2.2.elim λds q=>q.elim λn q=>⟨ds,n,at_ x.1 (λh=>⟨c,f,Y⟩) q.1,q.2.1,λi=>(q.2.2 i).mono t⟩⟩
 |s vs=>exact⟨x.1,x.2.elim λo q=>⟨o,at_ x.1 nf q.1,q.2⟩⟩
 |fz g=>exact x
 |t a vs=>exact⟨x.1,(hr Z).trans x.2.1,at_ x.1 nf x.2.2⟩
theorem HR.yZ{o:bh}(H:HR g W h)(lt:∀p∈W.n,p.1<a):HR g ⟨W.bG,(a,o)::W.n⟩ h/\Ext X W h ⟨W.bG,(a,o)::W.n⟩ h:=
 ⟨⟨λl q e=>OR.bN (W:=W) ⟨λl d=>⟨d,Y⟩,λb b m=>.tail _ m⟩ (λb=>Y) (λb b b b m=>.tail _ m) (H.aC l q e),fQ.mpr ⟨λm=>(bk.mp m).elim λp q=>dI _ (q.2▸lt p q.1),H.aG⟩,H.aJ,H.aD,H.aI⟩,
   λl d=>⟨d,id,λb=>Y⟩,λp m b b=>.tail _ m,λp m=>⟨p.2,.tail _ m⟩,λb n d=>ax d n,λb=>id⟩
noncomputable abbrev Wd.eH(W:Wd)(l:Loc)(a d:aY)(new:List (aY×bh)):Wd:=⟨λp=>if p.1=l then(if p.2 then d else a)else W.bG p,new++W.n⟩
theorem Wd.tu{d:aY}{new:List (aY×bh)}{o:af}(hl:h l=U):Tu W (W.eH l a d new) (aX h) (aX (h.aF l o)):=
 ⟨λk q=>⟨(qS k).mpr (.inr q),av (λe:k=l=>q (ak e hl))⟩,λb b m=>cZ _ m⟩
theorem HU{k:Loc}(e:k≠l)(q:gF (h.aF l o k)):gF (h k):=aj (aQ e (h:=h) (o:=o)) q
theorem HR.Om{d:aY}{new:List (aY×bh)}(H:HR g W h)(hl:h l=U)(l0:l.1≠0)(lt:∀p∈W.n,∀q∈new,p.1<q.1)(hn:(new.map (·.1)).Nodup)(ha:∀b,(b=O->gF (M o))->∃c,(if b then d else a,c)∈new)(hd:gF (M o)->d≠a)
 (x:OR (W.eH l a d new) (aX (h.aF l o)) l o):HR g (W.eH l a d new) (h.aF l o)/\Ext X W h (W.eH l a d new) (h.aF l o):=by
 have nl:∀{k},aX h k->k≠l:=λq e=>q (ak e hl);have at_:∀b,(W.eH l a d new).bG (l,b)=if b then d else a:=λb=>aw Y
 have ne:∀{k} (b),k≠l->(W.eH l a d new).bG (k,b)=W.bG (k,b):=λb e=>av e;have ow:∀{p},Own (h.aF l o) p->p.1≠l->Own h p:=λq e=>⟨q.1,((qS _).mp q.2.1).resolve_left e,λw=>HU e (q.2.2 w)⟩
 have iz:∀{b},Own (h.aF l o) (l,b)->b=O->gF (M o):=λq w=>aj (a4 (h:=h) (l:=l) (o:=o)) (q.2.2 w);have sep:∀{b q},Own (h.aF l o) (l,b)->Own h q->(W.eH l a d new).bG (l,b)≠W.bG q:=λq1 q2 e=>(ha _ (iz q1)).elim λc m=>(H.bT q2).elim λc' m'=>dI _ (((at_ _).symm.trans e)▸lt _ m'.1 _ m)
 refine⟨⟨λk q e=>?_,?_,λk k0=>(ne _ λe=>l0 (aj e k0)).trans (H.aJ k k0),⟨λp hp=>⟨(qS _).mpr (.inr (H.aD.1 p hp).1),(ne _ (nl (H.aD.1 p hp).1)).trans (H.aD.1 p hp).2⟩,H.aD.2.aF l0⟩,λp q op oq e=>?_⟩,λk q=>⟨(qS k).mpr (.inr q),HU (nl q),λb=>ne b (nl q)⟩,λp m f f=>cZ _ m,λp m=>⟨p.2,cZ _ m⟩,λk n q=>?_,λk q=>?_⟩
 .by_cases e':k=l
  .subst e';cases a4.symm.trans e;exact x
  .exact(H.aC k q ((aQ e').symm.trans e)).bN (Wd.tu hl) (λb=>ne b e') λf f f f m=>cZ _ m
 .rw[dc,jX];exact⟨hn,H.aG,λx hx y hy e=>(bk.mp hx).elim λp hp=>(bk.mp hy).elim λq hq=>dI q.1 (by have:=lt q hq.1 p hp.1;rwa [hp.2,e,<-hq.2]at this)⟩
 .obtain⟨k,b⟩:=p;obtain⟨k',b'⟩:=q;by_cases e1:k=l<;>by_cases e2:k'=l
  .subst e1;subst e2;rw[at_,at_]at e;cases b<;>cases b'
   .rfl
   .exact ax e.symm (hd (iz oq Y))
   .exact ax e (hd (iz op Y))
   .rfl
  .subst e1;exact ax (e.trans (ne _ e2)) (sep op (ow oq e2))
  .subst e2;exact ax (e.symm.trans (ne _ e1)) (sep oq (ow op e1))
  .exact H.aI _ _ (ow op e1) (ow oq e2) ((ne _ e1).symm.trans (e.trans (ne _ e2)))
 .obtain rfl:k=l:=((qS k).mp q).resolve_right n;exact⟨l0,λb q p m e=>(ha b (iz q)).elim λc mc=>dI _ (((at_ b).symm.trans e)▸lt p m _ mc)⟩
 .exact q.elim λa q=>q.elim λv q=>⟨a,v,(aQ (nl (mu q))).trans q⟩
noncomputable def ee(d:aY)(o:bh)(l:List (aY×bh)):List (aY×bh):=l.map λp=>if p.1=d then(d,o)else p
theorem vA{d:aY}{o:bh}{l:List (aY×bh)}:(ee d o l).map (·.1)=l.map (·.1):=by
 rw[ee,fA];refine G2 λp a=>?_;by_cases e:p.1=d
 .exact(aq dQ (aw e)).trans e.symm
 .exact aq dQ (av e)
theorem jB{d:aY}{o:bh}{l:List (aY×bh)}{p:aY×bh}(h:p.1≠d)(m:p∈l):p∈ee d o l:=bk.mpr ⟨p,m,av h⟩
theorem ue{d:aY}{o o':bh}{l:List (aY×bh)}(m:(d,o')∈l):(d,o)∈ee d o l:=bk.mpr ⟨_,m,aw Y⟩
theorem X3{d:aY}{o:bh}{l:List (aY×bh)}(h:∀p∈l,p.1≠d):ee d o l=l:=(G2 λp m=>av (h p m)).trans (List.map_id _)
theorem X4{d:aY}{o o':bh}{l:List (aY×bh)}(n:(l.map (·.1)).Nodup)(m:(d,o)∈l):Upd d o o' l (ee d o' l):=by
 induction l with
 |nil=>cases m
 |cons p r ih=>
  have n:=fQ.mp n;by_cases e:p.1=d
  .obtain rfl:p=(d,o):=(b0.mp m).elim Eq.symm λm=>ax (show p.1∈r.map dQ from aj e.symm (dw (f:=dQ) m)) n.1
   have no:∀p∈r,p.1≠d:=λp hp q=>n.1 (show d∈r.map dQ from bk.mpr ⟨p,hp,q⟩)
   rw[ee,nN,aw Y,<-ee,X3 no];exact .head no
  .rw[ee,nN,av e];exact .tail e (ih n.2 ((b0.mp m).resolve_left λq=>e (aj q Y)))
theorem HR.Oo{b:Bool}{c:bh}(H:HR g W h)(ob:Own h (l,b))(ni:gF (M o)->gF (h l))(nt:nY (h l)->nY (M o))(x:Tu W ⟨W.bG,ee (W.bG (l,b)) c W.n⟩ (aX h) (aX (h.aF l o))->OR ⟨W.bG,ee (W.bG (l,b)) c W.n⟩ (aX (h.aF l o)) l o):
 HR g ⟨W.bG,ee (W.bG (l,b)) c W.n⟩ (h.aF l o)/\Ext X W h ⟨W.bG,ee (W.bG (l,b)) c W.n⟩ (h.aF l o):=by
 have dd:∀{k},aX (h.aF l o) k->aX h k:=λq=>((qS _).mp q).elim (λe=>ak e ob.2.1) id;have ii:∀{k},gF (h.aF l o k)->gF (h k):=λ{k} q=>by
  by_cases e:k=l
  .subst e;exact ni (aj (a4 (h:=h) (o:=o)) q)
  .exact HU e q
 have keep:∀p∈W.n,¬jg W h p.1->p∈ee (W.bG (l,b)) c W.n:=λp m f=>jB (λe=>f ⟨_,ob,e.symm⟩) m;have t:Tu W ⟨W.bG,ee (W.bG (l,b)) c W.n⟩ (aX h) (aX (h.aF l o)):=⟨λk q=>⟨(qS k).mpr (.inr q),Y⟩,λa vs m=>keep _ m (H.mw m Ol)⟩
 refine⟨⟨λk q e=>?_,by rw[vA];exact H.aG,H.aJ,⟨λp hp=>⟨(qS _).mpr (.inr (H.aD.1 p hp).1),(H.aD.1 p hp).2⟩,H.aD.2.aF ob.1⟩,λp q op oq e=>H.aI p q ⟨op.1,dd op.2.1,λw=>ii (op.2.2 w)⟩ ⟨oq.1,dd oq.2.1,λw=>ii (oq.2.2 w)⟩ e⟩,λk q=>⟨(qS k).mpr (.inr q),ii,λj=>Y⟩,λp m f j=>keep p m f,λp m=>?_,λk n q=>ax (dd q) n,λk q=>?_⟩
 .by_cases e':k=l
  .subst e';cases a4.symm.trans e;exact x t
  .have e:=(aQ e').symm.trans e;exact(H.aC k q e).bN t (λj=>Y) λb' c' k0 i m=>jB (λe2=>e' (aq (·.1) (H.aI (k,b') (l,b) ⟨k0,mu e,λw=>ak e (i w)⟩ ob e2))) m
 .exact(bk.mp (ak (vA (d:=W.bG (l,b)) (o:=c)) (dw (f:=dQ) m))).elim λq hq=>⟨q.2,hq.2▸hq.1⟩
 .by_cases e:k=l
  .subst e;exact ak (a4 (h:=h) (o:=o)) (nt q)
  .exact ak (aQ (h:=h) (o:=o) e) q
end
def fZ(x:V):Ew×List Ew:=V.rec (motive:=λa=>Ew×List Ew) (.none,[]) (λb=>(.bool b,[])) (λi=>(.int i,[])) (λs=>(.str s,[])) (λa=>(.none,[])) (λa=>(.none,[])) (.tuple [],[]) (λa a A B=>(.tuple (A.1::B.2),A.1::B.2)) x
def TH(W:Wd)(h:fC):Prop:=∀a vs,TupAt W a vs->h.get? a=M (ia vs)
theorem y3{a b:V}{d:Nat}(k:(V.fk a b).cn d=O):0<d/\a.cn (d-1)=O/\b.cn d=O/\b.ip=O:=by
 have h:=dH.mp k;have h2:=dH.mp h.2
 have h3:=dH.mp h2.2;exact⟨nK h.1,h2.1,h3.1,h3.2⟩
def KV(W:Wd)(D:Loc->Prop)(h:fC)(x:V)(d:Nat):Prop:=(qT x).1.isDKey=O/\(qT x).1.depth<=d+1/\(fZ x).1.depth<=d+1/\∀v,VR W D v x->(∃as,HE h v (fZ x).1 as)/\Well w0.params h v (qT x).1/\(fZ x).1.canLay0=O
section
variable{h:fC} {x:V} {d:Nat} (hh:KV W D h x d)
def KV.aI:=hh.1
def KV.aG:=hh.2.1
def KV.aD:=hh.2.2.1
def KV.aC:=hh.2.2.2
end
def qW(W:Wd)(D:Loc->Prop)(h:fC)(x:V)(d:Nat):Prop:=WData.areDKeys (qT x).2=O/\WData.depthAll (qT x).2<=d/\Wv (fZ x).2<=d/\∀vs,iJ W D vs x->(∃as,Xz h vs (fZ x).2 as)/\WellAll w0.params h vs (qT x).2/\ajd (fZ x).2=O
section
variable{h:fC} {x:V} {d:Nat} (hh:qW W D h x d)
def qW.aI:=hh.1
def qW.aD:=hh.2.1
def qW.aG:=hh.2.2.1
def qW.aC:=hh.2.2.2
end
variable{h:fC}
theorem qW.bP(T:TH W h){x:V}{d:Nat}(c:x.ip=O)(k:qW W D h x d):KV W D h x d:=by
 have ew:(qT x).1=.tuple (qT x).2:=by cases x<;>first|rfl|(cases c;done)
 have ep:(fZ x).1=.tuple (fZ x).2:=by cases x<;>first|rfl|(cases c;done)
 have er:∀v,VR W D v x->oK W (λvs=>iJ W D vs x) v:=by cases x<;>first|exactλb h=>h|(cases c;done)
 refine⟨by rw[ew];exact k.aI,by rw[ew,WData.depth];exact fJ k.aD,by rw[ep,W0];exact fJ k.aG,λv hv=>(er v hv).elim λa q=>q.elim λvs q=>?_⟩
 obtain⟨⟨as,r1⟩,r2,r3⟩:=k.aC vs q.2.2;obtain rfl:=q.1;rw[ew,ep];exact⟨⟨_,.tuple (T a vs q.2.1) Y Y r1⟩,.tuple (T a vs q.2.1) r2,r3⟩
theorem uf(T:TH W h)(x:V):∀d,x.cn d=O->KV W D h x d/\qW W D h x d:=by
 have leaf:∀{x:V}{d:Nat},(qT x).2=[]->(fZ x).2=[]->(∀vs,¬iJ W D vs x)->qW W D h x d:=λe1 e2 n=>⟨by rw[e1];rfl,by rw[e1];exact b7 _,by rw[e2];exact b7 _,λvs q=>ax q (n vs)⟩
 induction x with
 |n=>exactλd c=>⟨⟨Y,b7 _,b7 _,λv e=>by subst e;exact⟨⟨_,.none⟩,.none,Y⟩⟩,leaf Y Y λc=>id⟩
 |i i=>exactλd c=>⟨⟨Y,b7 _,b7 _,λv e=>by obtain⟨t,rfl⟩:=e;exact⟨⟨_,.int i t⟩,.int i t,Y⟩⟩,leaf Y Y λc=>id⟩
 |s s=>exactλd c=>⟨⟨Y,b7 _,b7 _,λv e=>by obtain⟨t,rfl,k⟩:=e;exact⟨⟨_,.str s t⟩,.str s t,k⟩⟩,leaf Y Y λc=>id⟩
 |jJ=>
  intro d k;have:qW W D h .jJ d:=⟨Y,b7 _,b7 _,λvs e=>by subst e;exact⟨⟨_,.nil⟩,.nil,Y⟩⟩
  exact⟨this.bP T Y,this⟩
 |fk a b ha hb=>
  intro d k;obtain⟨k0,k1,k2,k3⟩:=y3 k;have A:=(ha _ k1).1
  have B:=(hb _ k2).2;have e:d-1+1=d:=M3 k0
  have:qW W D h (.fk a b) d:=⟨dH.mpr ⟨A.aI,B.aI⟩,Ej.mpr ⟨aj e A.aG,B.aD⟩,Ej.mpr ⟨aj e A.aD,B.aG⟩,λvs q=>by obtain⟨u,r,rfl,p,q⟩:=q;obtain⟨⟨as,a1⟩,a2,a3⟩:=A.aC u p;obtain⟨⟨bs,b1⟩,b2,b3⟩:=B.aC r q;exact⟨⟨_,.cons a1 b1⟩,.cons a2 b2,dH.mpr ⟨a3,b3⟩⟩⟩
  exact⟨this.bP T Y,this⟩
 |_=>exactλd k=>cw k
def tg(x:V):Nat:=V.rec (motive:=λa=>Nat) 0 (λa=>1) (λa=>2) (λa=>3) (λa=>4) (λa=>5) 6 (λa a a a=>7) x
theorem nT{x y:V}(h:cQ (tg x) (tg y)=Z):x≠y:=λe=>by rw[e,xa]at h;exact cw h
theorem nF{p:Prop}{b:Bool}(e:b=Z)(h:b=O):p:=ax (e.symm.trans h) d8
theorem nI{p q:Prop}(a:¬p)(b:¬q):p↔q:=⟨λz=>ax z a,λz=>ax z b⟩
theorem Oq(x:V):∀{y:V}{d e:Nat},x.cn d=O->y.cn e=O->(qd (fZ x).1 (fZ y).1=O↔x=y)/\(x.ip=O->y.ip=O->(yQ (fZ x).2 (fZ y).2=O↔x=y)):=by
 have lf:∀{x y:V},x.ip=Z->(qd (fZ x).1 (fZ y).1=O↔x=y)->(qd (fZ x).1 (fZ y).1=O↔x=y)/\(x.ip=O->y.ip=O->(yQ (fZ x).2 (fZ y).2=O↔x=y)):=λc h=>⟨h,nF c⟩;have lr:∀{x y:V},y.ip=Z->(qd (fZ x).1 (fZ y).1=O↔x=y)->(qd (fZ x).1 (fZ y).1=O↔x=y)/\(x.ip=O->y.ip=O->(yQ (fZ x).2 (fZ y).2=O↔x=y)):=λc h=>⟨h,λf=>nF c⟩
 induction x with
 |n=>
  intro y d e _ hy;cases y with
  |n=>exact lf Y ⟨λf=>Y,λf=>Y⟩
  |i _=>exact lf Y (nI d8 (nT Y))
  |s _=>exact lf Y (nI d8 (nT Y))
  |jJ=>exact lf Y (nI d8 (nT Y))
  |fk _ _=>exact lf Y (nI d8 (nT Y))
  |_=>exact nF Y hy
 |i i=>
  intro y d e _ hy;cases y with
  |i j=>exact lf Y ⟨λh=>aq V.i (bq h),λh=>by injection h with h;exact beq_iff_eq.mpr h⟩
  |n=>exact lf Y (nI d8 (nT Y))
  |s _=>exact lf Y (nI d8 (nT Y))
  |jJ=>exact lf Y (nI d8 (nT Y))
  |fk _ _=>exact lf Y (nI d8 (nT Y))
  |_=>exact nF Y hy
 |s i=>
  intro y d e _ hy;cases y with
  |s j=>exact lf Y ⟨λh=>aq V.s (bq h),λh=>by injection h with h;exact beq_iff_eq.mpr h⟩
  |n=>exact lf Y (nI d8 (nT Y))
  |i _=>exact lf Y (nI d8 (nT Y))
  |jJ=>exact lf Y (nI d8 (nT Y))
  |fk _ _=>exact lf Y (nI d8 (nT Y))
  |_=>exact nF Y hy
 |jJ=>
  intro y d e _ hy;cases y with
  |jJ=>exact⟨⟨λf=>Y,λf=>Y⟩,λf f=>⟨λf=>Y,λf=>Y⟩⟩
  |fk _ _=>exact⟨nI d8 (nT Y),λf f=>nI d8 (nT Y)⟩
  |n=>exact lr Y (nI d8 (nT Y))
  |i _=>exact lr Y (nI d8 (nT Y))
  |s _=>exact lr Y (nI d8 (nT Y))
  |_=>exact nF Y hy
 |fk a b ha hb=>
  intro y d e hx hy;have k:=y3 hx
  cases y with
  |fk a' b'=>
   have k':=y3 hy;have z:(yQ (fZ (.fk a b)).2 (fZ (.fk a' b')).2=O)↔V.fk a b=.fk a' b':=dH.trans ⟨λh=>congr (aq _ ((ha k.2.1 k'.2.1).1.mp h.1)) (((hb k.2.2.1 k'.2.2.1).2 k.2.2.2 k'.2.2.2).mp h.2),λh=>by injection h with h1 h2;exact⟨(ha k.2.1 k'.2.1).1.mpr h1,((hb k.2.2.1 k'.2.2.1).2 k.2.2.2 k'.2.2.2).mpr h2⟩⟩
   exact⟨z,λf f=>z⟩
  |jJ=>exact⟨nI d8 (nT Y),λf f=>nI d8 (nT Y)⟩
  |n=>exact lr Y (nI d8 (nT Y))
  |i _=>exact lr Y (nI d8 (nT Y))
  |s _=>exact lr Y (nI d8 (nT Y))
  |_=>exact nF Y hy
 |_=>exactλk=>nF Y k
noncomputable def sc(v:aN):Option V:=match v with
 |.none=>M .n
 |.int i _=>M (.i i)
 |.str s _=>M (.s s)
 |_=>U
theorem HV{x:V}{d:Nat}{v:aN}(k:x.cn d=O)(h:VR W D v x):sc v=if x.ip=O then U else M x:=by
 cases x with
 |n=>cases h;exact(av d8).symm
 |i i=>obtain⟨t,rfl⟩:=h;exact(av d8).symm
 |s i=>obtain⟨t,rfl,_⟩:=h;exact(av d8).symm
 |jJ=>obtain⟨a,vs,rfl,_⟩:=h;exact(aw Y).symm
 |fk a b=>obtain⟨a,vs,rfl,_⟩:=h;exact(aw Y).symm
 |_=>exact nF Y k
theorem HW{x:V}(c:x.ip=O){v:aN}(h:VR W D v x):oK W (λvs=>iJ W D vs x) v:=by
 cases x with
 |jJ=>exact h
 |fk a b=>exact h
 |_=>exact nF Y c
theorem VR.X5(T:TH W h)(x:V):∀{y:V}{d e:Nat},x.cn d=O->y.cn e=O->(∀v,VR W D v x->VR W D v y->x=y)/\(x.ip=O->y.ip=O->∀vs,iJ W D vs x->iJ W D vs y->x=y):=by
 have val:∀{x y:V}{d e:Nat},x.cn d=O->y.cn e=O->(x.ip=O->y.ip=O->∀vs,iJ W D vs x->iJ W D vs y->x=y)->∀v,VR W D v x->VR W D v y->x=y:=λ{x y d e} kx ky k v p q=>by
  have s:=(HV kx p).symm.trans (HV ky q);by_cases c:x.ip=O
  .by_cases c':y.ip=O
   .obtain⟨a,vs,rfl,t,r⟩:=HW c p;obtain⟨a',mz,e,t',r'⟩:=HW c' q;cases e;have:=aq Ba (bu ((T _ _ t).symm.trans (T _ _ t')))
    injection this with this
    exact k c c' vs r (ak (show vs=mz from aq Array.toList this) r')
   .rw[aw c,av c']at s;cases s
  .by_cases c':y.ip=O
   .rw[av c,aw c']at s;cases s
   .rw[av c,av c']at s;exact bu s
 induction x with
 |jJ=>
  intro y d e hx hy;have B:V.jJ.ip=O->y.ip=O->∀vs,iJ W D vs .jJ->iJ W D vs y->V.jJ=y:=λf c vs p q=>by
   cases y with
   |jJ=>rfl
   |fk a b=>obtain⟨u,r,e,_⟩:=q;cases p.symm.trans e
   |_=>exact nF Y c
  exact⟨val hx hy B,B⟩
 |fk a b ha hb=>
  intro y d e hx hy;have B:(V.fk a b).ip=O->y.ip=O->∀vs,iJ W D vs (.fk a b)->iJ W D vs y->V.fk a b=y:=λf c vs p q=>by
   obtain⟨u,r,rfl,p1,p2⟩:=p;cases y with
   |jJ=>cases(show _=_ from q)
   |fk a' b'=>
    have k:=y3 hx;have k':=y3 hy
    obtain⟨u',r',e,q1,q2⟩:=q;injection e with e1 e2
    subst e1;subst e2;rw[(ha k.2.1 k'.2.1).1 _ p1 q1,(hb k.2.2.1 k'.2.2.1).2 k.2.2.2 k'.2.2.2 _ p2 q2]
   |_=>exact nF Y c
  exact⟨val hx hy B,B⟩
 |_=>intro y d e hx hy;first|exact nF Y hx|exact⟨val hx hy (nF Y),nF Y⟩
theorem Ot{A B:Prop}{ah:Prop}(h:A/\B)(k:A->B->ah):ah:=by obtain⟨a0,a1⟩:=h;exact k a0 a1
theorem y4{A B C:Prop}{ah:Prop}(h:A/\B/\C)(k:A->B->C->ah):ah:=by obtain⟨a0,a1,a2⟩:=h;exact k a0 a1 a2
theorem y5{α:Sort _}{A:α->Prop}{ah:Prop}(h:∃x,A x)(k:∀x,A x->ah):ah:=by obtain⟨x,a0⟩:=h;exact k x a0
theorem mA{α:Sort _}{A B:α->Prop}{ah:Prop}(h:∃x,A x/\B x)(k:∀x,A x->B x->ah):ah:=by obtain⟨x,a0,a1⟩:=h;exact k x a0 a1
theorem Ou{α:Sort _}{β:Sort _}{A B C:α->β->Prop}{ah:Prop}(h:∃x y,A x y/\B x y/\C x y)(k:∀x y,A x y->B x y->C x y->ah):ah:=by obtain⟨x,y,a0,a1,a2⟩:=h;exact k x y a0 a1 a2
theorem X6{l:List α}{x:α}:x∈l++[x]:=cZ _ (.head _)
theorem findIdx_eq{p:α->Bool}{l:List α}{i:Nat}{x:α}(hx:l[i]?=M x)(hp:p x=O)(hn:∀j,j<i->∀y,l[j]?=M y->p y=Z):l.findIdx? p=M i:=by
 induction l generalizing i with
 |nil=>cases hx
 |cons a r ih=>
  rw[G6];cases i with
  |zero=>cases hx;rw[hp];rfl
  |succ i=>
   rw[hn 0 (fY _) a Y,ih (i:=i) hx λj hj y hy=>hn (j+1) (wZ hj) y hy]
   rfl
theorem y6{ab:Model}{A:oG}{E:QE}{s:bK}{c:Prop} [Decidable c]{a b:gD α}{Q:α->bK->Prop}(h1:c->wpAny ab A a Q E s)(h2:¬c->wpAny ab A b Q E s):wpAny ab A (if c then a else b) Q E s:=by
 by_cases h:c
 .rw[aw h];exact h1 h
 .rw[av h];exact h2 h
theorem y7{ab:Model}{A:oG}{E:QE}{s:bK}{c:Prop} [Decidable c]{a b:gD α}{Q:α->bK->Prop}(n:¬c)(h2:wpAny ab A b Q E s):wpAny ab A (if c then a else b) Q E s:=by rw[av n];exact h2
def lN(es:Es)(x:V):Option Nat:=es.findIdx? λe=>decide (e.1=x)
theorem X7{es:Es}{x:V}:lN es x=U↔∀(i:Nat)(e:V×V),es[i]?=M e->e.1≠x:=by
 unfold lN;rw[List.findIdx?_eq_none_iff]
 constructor
 .intro h i e he;simpa using h e (bE he)
 .intro h e he;refine y5 (kE he) λi hi=>?_
  simpa using h i e hi
theorem Ov{es:Es}(n:(es.map (·.1)).Nodup){i j:Nat}{a b:V×V}(hi:es[i]?=M a)(hj:es[j]?=M b)(e:a.1=b.1):i=j:=by
 have h1:(es.map (·.1))[i]?=M a.1:=by rw[kG,hi];rfl
 have h2:(es.map (·.1))[j]?=M a.1:=by rw[kG,hj,e];rfl
 exact(Nc (by have:=(cV.mp h1).1;exact this) n).mp (h1.trans h2.symm)
theorem HX{es:Es}(n:(es.map (·.1)).Nodup){i:Nat}{e:V×V}{x:V}(h:es[i]?=M e)(hx:e.1=x):lN es x=M i:=by
 refine findIdx_eq h (by simpa using hx) λj hj y hy=>?_
 simp only[decide_eq_false_iff_not];intro q;exact dI _ (Ov n hy h (q.trans hx.symm)▸hj)
variable{A:oG} {E:QE} {s:bK}
theorem X8{Q:Bool->bK->Prop}{k:Nat}(vs:List aN)(hq:∀v∈vs,∀Q':Bool->bK->Prop,Q' O s->wpAny Md A (Hv k v) Q' E s)(h:Q O s):
 wpAny Md A (do
  for y in vs.toArray do
   if !(<-Hv k y)then return Z
  return O) Q E s:=by
 refine aK ?_;rw[<-Array.forIn_toList];refine Hg _ (λrest r s'=>r.1=U/\s'=s/\∀v∈rest,v∈vs) _ ?_ ?_ _ _ ⟨Y,Y,λv hv=>hv⟩
 .intro v rest r s' q0;refine y4 q0 λhr q2 Ow=>?_;subst q2;refine aK (hq v (Ow v ajj) _ ?_);simp only[Eg,yK,if_false];exact bg ⟨Y,Y,λu HY=>Ow u (ai' _ HY)⟩
 .intro q0 s' q1;obtain⟨r1,r2⟩:=q0;refine y4 q1 λhr q2 a=>?_;subst q2;simp only at hr;subst hr;exact bg h
def Quiet(A:oG)(E:QE)(s:bK)(k:Nat)(v:aN):Prop:=∀Q:Bool->bK->Prop,Q O s->wpAny Md A (Hv k v) Q E s
theorem X9{k:Nat}{v:aN}(e:akr v=O):Quiet A E s k v:=λQ h=>by rw[eqIsQuiet_byValue k e];exact bg h
theorem X'(T:TH W s.heap)(x:V):∀d,x.cn d=O->(∀v,VR W D v x->∀k,d<=k->Quiet A E s k v)/\∀vs,iJ W D vs x->∀k,d<=k+1->∀v∈vs,Quiet A E s k v:=by
 have leaf:∀{x:V}{d:Nat},(∀v,VR W D v x->akr v=O)->(∀vs,¬iJ W D vs x)->(∀v,VR W D v x->∀k,d<=k->Quiet A E s k v)/\∀vs,iJ W D vs x->∀k,d<=k+1->∀v∈vs,Quiet A E s k v:=λh n=>⟨λv q f f=>X9 (h v q),λvs q=>ax q (n vs)⟩;have tup:∀{x:V}{d:Nat},x.ip=O->0<d->(∀vs,iJ W D vs x->∀k,d<=k+1->∀v∈vs,Quiet A E s k v)->(∀v,VR W D v x->∀k,d<=k->Quiet A E s k v)/\∀vs,iJ W D vs x->∀k,d<=k+1->∀v∈vs,Quiet A E s k v:=λc d0 B=>⟨λv q k hk Q h=>(HW c q).elim λa q=>q.elim λvs q=>by
  obtain rfl:=q.1;have g:=T a vs q.2.1
  have hT:s.TypeIs (.ref a) "tuple":=⟨_,g,Y⟩;cases k with
  |zero=>exact ax d0 (km.mpr hk)
  |succ k=>unfold Hv;exact aK (A2 hT F.slot_tuple_eq.lookup (aK (Hf hT isSubtype_tuple_tuple (aK (Xc g Y (X8 vs (B vs q.2.2 k hk) h)))))),B⟩
 induction x with
 |n=>exactλd f=>leaf (λv e=>by cases e;rfl) λf=>id
 |i i=>exactλd f=>leaf (λv e=>by obtain⟨t,rfl⟩:=e;rfl) λf=>id
 |s i=>exactλd f=>leaf (λv e=>by obtain⟨t,rfl,_⟩:=e;rfl) λf=>id
 |jJ=>exactλd k=>tup Y (nK k) λvs e k f v m=>by cases(show vs=[] from e);cases m
 |fk a b ha hb=>
  intro d k;have k:=y3 k
  refine tup Y k.1 λvs q n hn v m=>?_;obtain⟨u,r,rfl,p,q⟩:=q;rcases b0.mp m with e|e
  .subst e;exact(ha _ k.2.1).1 _ p n (Nat.sub_le_of_le_add hn)
  .exact(hb _ k.2.2.1).2 r q n hn v e
 |_=>exactλd k=>nF Y k
theorem Ox(T:TH W s.heap){x:V}{v:aN}{d:Nat}{Q:Bool->bK->Prop}(hv:VR W D v x)(kx:x.cn d=O)(k:Nat)(hk:d<=k)(h:Q O s):wpAny Md A (Hv k v) Q E s:=(X' T x d kx).1 v hv k hk Q h
theorem HZ(T:TH W s.heap){u v:aN}{x y:V}(hu:VR W D u x)(hv:VR W D v y)(kx:x.cn 7=O)(ky:y.cn 7=O)(hr:A.units+8<cLine):NA A s u v (decide (x=y)):=by
 have a:=(uf (D:=D) T x 7 kx).1;have b:=(uf (D:=D) T y 7 ky).1
 have e:qd (fZ x).1 (fZ y).1=decide (x=y):=Nk.mpr ((Oq x kx ky).1.trans decide_eq_true_iff.symm);obtain⟨⟨as,ra⟩,_,ca⟩:=a.aC u hu;obtain⟨⟨bs,rb⟩,_,cb⟩:=b.aC v hv;exact aj e (ajq _ _ A s u v as bs ra rb ca cb (bF (eQ (aL (Hi ..) a.aD) _) hr))
theorem Oy(T:TH W s.heap){v:aN}{x:V}{Q:Int->bK->Prop}(hv:VR W D v x)(kx:x.cn 7=O)(hr:A.units+8<cLine)(h:∀tk,Q (qU x) {s with toks:=tk}):wpAny Md A (pyHash v) Q E s:=by have a:=(uf (D:=D) T x 7 kx).1;exact pyHash_laid (qT x).1 v A s Q a.aI (a.aC v hv).2.1 (bF (eQ a.aG _) hr) h
theorem VR.kr(T:TH W s.heap){v:aN}{x y:V}(p:VR W D v x)(q:VR W D v y)(kx:x.cn 7=O)(ky:y.cn 7=O):x=y:=(VR.X5 T x kx ky).1 v p q
theorem Ya(T:TH W s.heap){x:V}{v:aN}{HB:List aN}{Q:Bool->bK->Prop}(hv:VR W D v x)(kx:x.cn 7=O)
 (EE:∀u∈HB,∃y,VR W D u y/\y.cn 7=O)(h:Q Z s):wpAny Md A (tableMayTell v HB) Q E s:=by
 unfold tableMayTell
 split
 .exact bg h
 .refine aK (Ox T hv kx 8 (by decide) ?_)
  simp only[Eg,yK,if_false];refine aK ?_;refine Hg _ (λrest r s'=>s'=s/\r=(U,())/\∀u∈rest,u∈HB) _ ?_ ?_ _ _ ⟨Y,Y,λa m=>m⟩
  .intro u rest r s' q0;refine y4 q0 λq2 q3 hr=>?_;subst q2;subst q3;refine mA (EE u (hr u ajj)) λy hy ky=>?_;refine aK (Ox T hy ky 8 (by decide) ?_)
   simp only[Eg,yK,if_false];exact bg ⟨Y,Y,λw hw=>hr w (ai' _ hw)⟩
  .intro r s' q0;refine y4 q0 λq2 q3 a=>?_;subst q2;subst q3;exact bg h
theorem Yb{e:dJ}{b:V×V}{y:aP}(r:DE W D e b):e.key.isStr y=decide (b.1=V.s y):=by
 have rk:=r.aC;have ok:=r.aD
 generalize e.key=u at rk;generalize b.1=z at rk ok;have no:∀{z:V}{b:Bool},b=Z->cQ (tg z) 3=Z->b=decide (z=V.s y):=λe h=>e.trans (aA (nT h)).symm
 cases z with
 |s z=>
  obtain⟨t,rfl,_⟩:=rk;by_cases q:z=y
  .subst q;rw[az Y];exact beq_self_eq_true z
  .rw[aA λw=>q (by injection w)];exact beq_eq_false_iff_ne.mpr q
 |n=>cases rk;exact no Y rfl
 |i i=>obtain⟨t,rfl⟩:=rk;exact no Y rfl
 |jJ=>obtain⟨a,vs,rfl,_⟩:=rk;exact no Y rfl
 |fk a b=>obtain⟨a,vs,rfl,_⟩:=rk;exact no Y rfl
 |_=>exact nF Y ok
theorem Yc{ds:List dJ}{es:Es}{y:aP}(R:bL (DE W D) ds es):ds.toArray.findIdx? (·.key.isStr y)=lN es (.s y):=by
 rw[List.findIdx?_toArray,lN];obtain⟨zs,rfl,rfl,k⟩:=R
 induction zs with
 |nil=>rfl
 |cons z r ih=>rw[nN,nN,G6,G6,Yb (k z (.head _)),ih λw m=>k w (.tail _ m)]
set_option tactic.hygienic true in
theorem H2(T:TH W s.heap){d:aY}{ds:List dJ}{n:Nat}{es:Es}{key:aN}{x:V}{Q:Option Nat->bK->Prop}
 (ho:s.heap.get? d=M (fV ds n))(R:bL (DE W D) ds es)(nd:(es.map (·.1)).Nodup)(hk:VR W D key x)(kx:x.cn 7=O)(hr:A.units+8<cLine)
 (h:Q (lN es x) s):wpAny Md A (dictFind d key (qU x)) Q E s:=by
 have ga:∀i:Nat,ds.toArray[i]?=ds[i]?:=λi=>uY ..;have hsz:ds.toArray.size=ds.length:=wV ..
 have H4:∀(i:Nat)(e:dJ)(y:V×V),ds[i]?=M e->es[i]?=M y->NA A s e.key key (decide (y.1=x)):=λi e y h1 h2=>by refine mA (R.lI h2) λe' g1 g2=>?_;rw[h1]at g1;cases g1;exact HZ T g2.aC hk g2.aD kx hr
 have hash:∀(i:Nat)(e:dJ)(y:V×V),ds[i]?=M e->es[i]?=M y->e.hash=qU y.1:=λi e y h1 h2=>by refine mA (R.lI h2) λe' g1 g2=>?_;rw[h1]at g1;cases g1;exact g2.aG
 have two:∀(i:Nat)(e:dJ),ds[i]?=M e->∃y,es[i]?=M y:=λi e h1=>by refine mA (R.xl h1) λy g a=>?_;exact⟨y,g⟩
 have EE:∀u∈(Hn ds.toArray.size (λi=>ds.toArray[i]?.map (·.hash)) (qU x)).filterMap (λi=>ds.toArray[i]?.map (·.key)),∃y,VR W D u y/\y.cn 7=O:=by
  intro u hu;refine mA (pA.mp hu) λi a hi=>?_;rw[ga]at hi;cases hd:ds[i]? with
  |none=>rw[hd]at hi;cases hi
  |some e=>
   rw[hd]at hi;obtain rfl:e.key=u:=by simpa using hi
   refine mA (R.xl hd) λy hy r=>?_;exact⟨y.1,r.aC,r.aD⟩
 have out:∀places,places=Hn ds.toArray.size (λi=>ds.toArray[i]?.map (·.hash)) (qU x)->(∀i∈places,∀y,es[i]?=M y->y.1≠x)->lN es x=U:=by
  intro places hp xu;refine X7.mpr λi y hy q=>?_;refine mA (R.lI hy) λe he r=>?_;refine xu i ?_ y hy q;rw[hp,Hn,iH,gY];refine⟨by rw[hsz];exact(cV.mp he).1,?_⟩
  rw[ga,he,Option.map_some,r.aG,q];simp
 unfold dictFind
 try with_reducible refine ij ?_
 refine aK (tX ho Y ?_);generalize Bo:Hn ds.toArray.size (λi=>ds.toArray[i]?.map (·.hash)) (qU x)=places at EE⊢;have plain:wpAny Md A (dictWalkPlain d key (qU x) ds.toArray places) Q E s:=by
  refine aK ?_;refine Hg _ (λrest b s'=>s'=s/\b=(U,())/\∃pre,places=pre++rest/\∀i∈pre,∀y,es[i]?=M y->y.1≠x) _ ?_ ?_ _ _ ⟨Y,Y,[],Y,λa h=>bw h⟩
  .intro i rest b s' q0;refine y4 q0 λq2 q3 q4=>?_;refine mA q4 λpre hp xu=>?_;subst q2;subst q3;have step:∀(q:∀y,es[i]?=M y->y.1≠x),∃pre,places=pre++rest/\∀i∈pre,∀y,es[i]?=M y->y.1≠x:=λq=>
    ⟨pre++[i],by rw[hp];simp,λj hj y hy=>by
     rcases cD.mp hj with hj|hj
     .exact xu j hj y hy
     .obtain rfl:j=i:=by simpa using hj
      exact q y hy⟩
   rw[ga];cases hd:ds[i]? with
   |none=>refine bg ⟨Y,Y,step λy hy=>?_⟩;refine mA (R.lI hy) λe he a=>?_;rw[hd]at he;cases he
   |some e=>
    refine y5 (two i e hd) λy hy=>?_;dsimp only;by_cases hh:(e.hash==qU x)=O
    .rw[aw hh];refine aK (rZ ho Y (aK (H4 i e y hd hy _ _ _ _ (aK (rZ ho Y ?_)))));show wpAny _ _ (if(n !=n)=O then _ else _) _ E _;rw[av (by simp)]
     by_cases q:y.1=x
     .rw[az q];rw[HX nd hy q]at h;exact aK (qN (bg (bg h)))
     .rw[aA q];exact aK (qN (bg ⟨Y,Y,step λy' ef=>by rw[hy]at ef;cases ef;exact q⟩))
    .rw[av hh];refine bg ⟨Y,Y,step λy' ef q=>hh ?_⟩;rw[hash i e y' hd ef,q];simp
  .intro b s' q0;refine y4 q0 λq2 q3 q4=>?_;refine mA q4 λpre hp xu=>?_;subst q2;subst q3;rw[hY]at hp;subst hp;rw[out _ Bo.symm xu]at h;exact bg h
 have y8:places.Nodup:=by rw[<-Bo,Hn];exact yJ.nodup Ww
 extract_lets _ HB eS j2 j1 j0
 have h2:wpAny Md A (j2 Z) Q E s:=by
  refine y7 d8 (aK ?_);refine Hg _ (λrest b s'=>s'=s/\∃pre eS,b=(U,eS)/\places=pre++rest/\((eS=U/\∀i∈pre,∀y,es[i]?=M y->y.1≠x)\/∃j y,eS=M j/\j∈pre/\es[j]?=M y/\y.1=x)) _ ?_ ?_ _ _ ⟨Y,[],U,Y,Y,.inl ⟨Y,λa h=>bw h⟩⟩
  .intro i rest b s' q0;refine Ot q0 λq2 q3=>?_;refine Ou q3 λpre eS q4 hp hH=>?_;subst q2;subst q4;have ni:i∉pre:=λm=>by rw[hp,jX]at y8;exact y8.2.2 i m i (.head _) Y
   have H5:(∀y,es[i]?=M y->y.1≠x)->∃H6 vC,(U,eS)=((U:Option (Option Nat)),vC)/\places=H6++rest/\((vC=U/\∀i∈H6,∀y,es[i]?=M y->y.1≠x)\/∃j y,vC=M j/\j∈H6/\es[j]?=M y/\y.1=x):=λq=>
                                                                                                                          ⟨pre++[i],eS,Y,hp.trans (ajB ..),hH.imp (λz=>⟨z.1,λj hj y hy=>by
                                                                                                                           rcases cD.mp hj with hj|hj
                                                                                                                           .exact z.2 j hj y hy
                                                                                                                           .exact q y (aj (bp.mp hj) hy)⟩) λq=>q.imp λj q=>q.imp λy q=>⟨q.1,cH _ q.2.1,q.2.2⟩⟩
   rw[ga];cases hd:ds[i]? with
   |none=>refine bg ⟨Y,H5 λy hy=>?_⟩;refine mA (R.lI hy) λe he a=>?_;rw[hd]at he;cases he
   |some e=>
                                                                                                                          refine y5 (two i e hd) λy hy=>y6 (λhh=>?_) λhh=>?_
                                                                                                                          .refine aK (rZ ho Y (aK (H4 i e y hd hy _ _ _ _ (aK (rZ ho Y ?_)))));refine y7 (by simp) (y6 (λq=>?_) λq=>?_)
                                                                                                                           .have q:=aB q;rcases hH with⟨rfl,_⟩|⟨j,z,_,hj,hz,H7⟩
                                                                                                                            .refine y7 d8 (aK (qN ?_));refine y6 (λa=>bg ?_) λa=>bg ?_
                                                                                                                             .rw[HX nd hy q]at h;exact bg h
                                                                                                                             .exact⟨Y,pre++[i],M i,Y,hp.trans (ajB ..),.inr ⟨i,y,Y,X6,hy,q⟩⟩
                                                                                                                            .exact ax (aj (Ov nd hz hy (H7.trans q.symm)) hj) ni
                                                                                                                           .refine aK (qN (y7 d8 ?_));exact bg ⟨Y,H5 λy' ef=>by rw[hy]at ef;cases ef;exactλz=>q (az z)⟩
                                                                                                                          .refine bg ⟨Y,H5 λy' ef q=>hh ?_⟩;rw[hash i e y' hd ef,q];exact beq_self_eq_true _
  .intro b s' q0;refine Ot q0 λq2 q3=>?_;refine Ou q3 λpre eS q4 hp hH=>?_;subst q2;subst q4;rw[hY]at hp;subst hp;rcases hH with⟨rfl,xu⟩|⟨j,z,rfl,_,hz,H7⟩
   .rw[out _ Bo.symm xu]at h;exact bg h
   .rw[HX nd hz H7]at h;exact bg h
 have h1:wpAny Md A (j1 ()) Q E s:=y6 (λa=>aK (bg h2)) λa=>aK (Ya T hk kx EE h2);have h0:wpAny Md A (j0 ()) Q E s:=by
  refine y6 (λa=>plain) λa=>?_
  split
  .refine y7 ?_ h1;rw[<-ajv,ajC];intro q0;refine mA q0 λe Yd hc=>?_;refine y5 (kE Yd) λi hi=>?_;refine mA (R.xl hi) λy hy r=>?_;simp only[ajD,beq_iff_eq,bne_iff_ne,ne_eq]at hc;have rk:=r.aC
   rw[hc.1]at rk;exact hc.2 (r.aG.trans (aq _ (VR.kr T rk hk r.aD kx)))
  .exact h1
 clear_value j0
 by_cases hs:∃y,x=.s y
 .obtain⟨y,rfl⟩:=hs;obtain⟨t,rfl,ok⟩:=hk;refine y6 (λa=>?_) λa=>h0;unfold foundByValue;rw[Yc R];cases hq:lN es (.s y)with
  |none=>rw[hq]at h;exact bg h
  |some j=>
   refine mA (VW.mp hq) λhj Ye a=>?_;have hy:es[j]?=M es[j]:=mO hj
   refine mA (R.lI hy) λe hd r=>?_;dsimp only;rw[ga,hd];refine aK (rZ ho Y (aK (H4 j e _ hd hy _ _ _ _ (aK (rZ ho Y ?_)))));refine y7 (by simp) ?_
   rw[Ye];rw[hq]at h;exact aK (qN (bg h))
 .split
  .next s tok=>
   have e:=HV kx hk;by_cases c:x.ip=O
   .exact fK (e.trans (aw c))
   .exact ax ⟨s,(bu (e.trans (av c))).symm⟩ hs
  .exact h0
noncomputable def bM(es:Es)(x:V):Option V:=qO U (λe a ih=>if e.1=x then M e.2 else ih) es
noncomputable def cC(es:Es)(x y:V):Es:=qO [(x,y)] (λe r ih=>if e.1=x then(e.1,y)::r else e::ih) es
theorem xw{e:V×V}{r:Es}{x:V}:bM (e::r) x=if e.1=x then M e.2 else bM r x:=Y
theorem qX{e:V×V}{r:Es}{x y:V}:cC (e::r) x y=if e.1=x then(e.1,y)::r else e::cC r x y:=Y
theorem Oz(e:V×V)(r:Es)(x:V):lN (e::r) x=if e.1=x then M 0 else(lN r x).map (·+1):=by
 rw[lN,G6];by_cases h:e.1=x
 .rw[az h,aw Y,aw h]
 .rw[aA h,av d8,av h];rfl
theorem OA{x:V}{es:Es}:bM es x=(lN es x).bind λi=>es[i]?.map (·.2):=by
 induction es with
 |nil=>rfl
 |cons e r ih=>
  rw[xw,Oz,ih];by_cases h:e.1=x
  .rw[aw h,aw h];rfl
  .rw[av h,av h];cases lN r x<;>rfl
theorem Yf{x y:V}{es:Es}:cC es x y=match lN es x with|some i=>es.modify i λe=>(e.1,y)|none=>es++[(x,y)]:=by
 induction es with
 |nil=>rfl
 |cons e r ih=>
  rw[qX,Oz,ih];by_cases h:e.1=x
  .rw[aw h,aw h];rfl
  .rw[av h,av h];cases lN r x<;>rfl
theorem H8{es:Es}{x y:V}:(cC es x y).map (·.1)=if x∈es.map (·.1)then es.map (·.1)else es.map (·.1)++[x]:=by
 induction es with
 |nil=>exact(av (qJ)).symm
 |cons e r ih=>
  rw[qX];by_cases h:e.1=x
  .rw[aw h,aw (aj h (.head _))];rfl
  .rw[av h,nN,ih,nN];by_cases m:x∈r.map (·.1)
   .rw[aw m,aw (.tail _ m)]
   .rw[av m,av λq=>(b0.mp q).elim (λe=>h e.symm) m];rfl
theorem qY{l:List α}{a:α}(n:l.Nodup)(h:a∉l):(l++[a]).Nodup:=by rw[jX];exact⟨n,V9 ..,λx hx y hy e=>h (aj (bp.mp hy) (aj e hx))⟩
theorem OB{es:Es}(n:(es.map (·.1)).Nodup){x y:V}:((cC es x y).map (·.1)).Nodup:=by
 rw[H8];by_cases h:x∈es.map (·.1)
 .rw[aw h];exact n
 .rw[av h];exact qY n h
theorem H9{es:Es}{x y:V}:(cC es x y).length<=es.length+1:=by
 have e:=aq Hq (H8 (es:=es) (x:=x) (y:=y));rw[bc]at e;rw[e];by_cases h:x∈es.map (·.1)
 .rw[aw h,bc];exact jI _
 .rw[av h,dW,bc];exact dj _
theorem OC{f:α->α}{l:List α}{j:Nat}{a:α}(h:l[j]?=M a):l.modify j f=l.set j (f a):=by obtain⟨lt,rfl⟩:=cV.mp h;rw[List.modify_eq_take_cons_drop lt,List.set_eq_take_append_cons_drop,aw lt]
variable{d:aY} {n:Nat} {es:Es} {key:aN} {x:V}
section
variable{ds:List dJ}
theorem Bp(T:TH W s.heap){Q:Option aN->bK->Prop}
 (ho:s.heap.get? d=M (fV ds n))(R:bL (DE W D) ds es)(nd:(es.map (·.1)).Nodup)(hk:VR W D key x)(kx:x.cn 7=O)(hr:A.units+8<cLine)
 (h0:bM es x=U->∀tk,Q U {s with toks:=tk})(h1:∀v y,bM es x=M y->VR W D v y->∀tk,Q (M v) {s with toks:=tk}):
 wpAny Md A (Bf d key) Q E s:=by
 unfold Bf
 try with_reducible refine ij ?_
 refine aK (Oy T hk kx hr λtk=>aK (H2 (s:={s with toks:=tk}) T ho R nd hk kx hr ?_))
 have e:=OA (x:=x) (es:=es);cases hq:lN es x with
 |none=>rw[hq]at e;exact bg (h0 e tk)
 |some j=>
  rw[hq]at e;refine y5 (VW.mp hq) λhj a=>?_;have hy:es[j]?=M es[j]:=mO hj
  refine mA (R.lI hy) λq hd r=>?_;rw[Option.bind_some,hy]at e;refine aK (tX (s:={s with toks:=tk}) ho Y ?_)
  have:ds.toArray[j]?=M q:=by simpa using hd
  rw[this];exact bg (h1 _ _ e r.aI tk)
theorem OD(T:TH W s.heap){v:aN}{y:V}{Q:Unit->bK->Prop}
 (ho:s.heap.get? d=M (fV ds es.length))(R:bL (DE W D) ds es)(nd:(es.map (·.1)).Nodup)(hk:VR W D key x)(kx:x.cn 7=O)(hv:VR W D v y)(hr:A.units+8<cLine)(hsz:es.length<=Bd)
 (h:∀h' kK tk,mf d s.heap h'->h'.get? d=M (fV kK (cC es x y).length)->bL (DE W D) kK (cC es x y)->Q () {s with heap:=h',toks:=tk}):
 wpAny Md A (Ep d key v) Q E s:=by
 unfold Ep
 try with_reducible refine ij ?_
 refine aK (Oy T hk kx hr λtk=>?_);unfold dictSetHashed
 try with_reducible refine ij ?_
 refine aK (H2 (s:={s with toks:=tk}) T ho R nd hk kx hr ?_)
 have e:=Yf (x:=x) (y:=y) (es:=es);cases hq:lN es x with
 |none=>
  rw[hq]at e;refine aK (qN (wpAny_updateDictKeys (hz:=by rw[wV,R.gU];exact hsz) (s:={s with toks:=tk}) ho Y ?_))
  refine h _ (ds++[⟨qU x,key,v⟩]) tk (rW ..) ((rV (h:=s.heap) (a:=d) (f:=ajP λes=>es.push ⟨qU x,key,v⟩) ho Y).trans ?_) ?_
  .rw[e,dW];exact aq (λa=>M (ajP (λb=>a) (fV ds es.length))) (List.push_toArray ..)
  .rw[e];exact R.vt (.gE ⟨hk,hv,Y,kx⟩ .gO)
 |some j=>
  rw[hq]at e;refine y5 (VW.mp hq) λhj b=>?_;have hy:=mO hj
  refine mA (R.lI hy) λq hd r=>?_;have e:cC es x y=es.set j (es[j].1,y):=e.trans (OC hy)
  refine aK (qN (aK (wpAny_updateDict (hz:=fR Array.size_modify) (s:={s with toks:=tk}) ho Y (wpAny_point ?_))))
  refine h _ (ds.modify j λe=>{e with val:=v}) tk (rW ..) ((rV (h:=s.heap) (a:=d) (f:=akl λes=>es.modify j λe=>{e with val:=v}) ho Y).trans ?_) ?_
  .rw[e,ajI];exact aq (λa=>M (akl (λb=>a) (fV ds es.length))) (List.modify_toArray ..)
  .rw[e,OC hd];exact R.eR j ⟨r.aC,hv,r.aG,r.aD⟩
end
structure AS where
 m:Mp
 h:Hp
 t:Nat
noncomputable def bz(k:Nat):Loc:=(99,[k])
abbrev QA:=AS->Prop
abbrev QV:=V->QA
noncomputable def AS.aF(K:AS)(l:Loc)(o:af)(t:Nat):AS:=⟨K.m,K.h.aF l o,t⟩
noncomputable def aH(m:Mp)(i:Nat)(x:V):Mp:=λj=>if j=i then M x else m j
noncomputable def AS.eR(K:AS)(i:Nat)(x:V):AS:=⟨aH K.m i x,K.h,K.t⟩
noncomputable def cx(sc:dY)(i:Nat):aP:=match sc.names[i]? with|some p=>p.1|none=>fU
structure Fm where
 h₀:fC
 L:aY
 q:aP
 b:dY
 fo:Option aY
 cd:aN
 l:List (aP×aY)
 f:Option aY
 o:List (aY×Data):=[]
 g:Gx
noncomputable abbrev Fm.bB(F:Fm):jf:={scope:=F.b,locals:=F.L,globals:=mj,cells:=F.l,qual:=F.q,func:=F.fo,code:=F.cd,frame:=F.f,builtins:=builtinsNs}
def Fm.bT(F:Fm)(a:aY):Prop:=(∃y,F.bB.kindOf y=M .cell/\F.l.lookup y=M a/\F.fo≠U)\/a∈F.o.map (·.1)
def EF(F:Fm)(W:Wd)(m:aP->Option aN)(i:Nat)(v:aN):Prop:=
 (F.bB.kindOf (cx F.b i)=M .local/\m (cx F.b i)=M v)\/
 ((F.bB.kindOf (cx F.b i)=M .cell\/F.bB.kindOf (cx F.b i)=M .free)/\∃a o,F.l.lookup (cx F.b i)=M a/\((a,o)∈W.n\/F.g.X.lookup a=M o)/\o.data=.cell (M v))
def OE(F:Fm)(W:Wd)(K:AS)(m:aP->Option aN):Prop:=∀i x,K.m i=M x->∃v,EF F W m i v/\VR W (aX K.h) v x
def BR(g:Gx)(h₀:fC)(L:aY)(W:Wd)(h:Hp)(t:Nat)(s:bK):Prop:=ub h₀ L s.heap W.n/\HR g W h/\(∀k,t<=k->h (bz k)=U)/\ai.In h₀/\ai.In s.heap/\s.gens=#[]/\s.os=XK/\g.X.In h₀
section
variable{h₀:fC} {L:aY} {h:Hp} {t:Nat} (hh:BR g h₀ L W h t s)
def BR.aD:=hh.1
def BR.aC:=hh.2.1
def BR.aI:=hh.2.2.1
def BR.aG:=hh.2.2.2.1
def BR.aJ:=hh.2.2.2.2.1
def BR.bj:=hh.2.2.2.2.2.1
def BR.bb:=hh.2.2.2.2.2.2.1
def BR.aT:=hh.2.2.2.2.2.2.2
end
structure aW(F:Fm)(W:Wd)(K:AS)(s:bK):Prop where
 aC:BR F.g F.h₀ F.L W K.h K.t s
 aJ:∃m,Fr F.h₀ F.L s.heap m/\OE F W K m
 aG:∀y,F.bB.kindOf y=M .cell->∃a o v,F.l.lookup y=M a/\(a,o)∈W.n/\o.data=.cell v
 aI:∀y y' a,F.l.lookup y=M a->F.l.lookup y'=M a->y=y'
 aD:∀p∈F.o,(∃es ep,p.2=.dict es ep)/\(∃o,(p.1,o)∈W.n/\o.data=p.2)/\¬jg W K.h p.1
variable{F:Fm} {K:AS} {s':bK} {h:Hp} {Q:QV}
section
variable{v:aN}
theorem aW.th(R:aW F W K s):TH W s.heap:=λa vs t=>t.1.elim (λm=>(R.aC.aD _ m).1) (R.aC.aJ _ _)
def aW.mm(R:aW F W K s):aP->Option aN:=R.aJ.choose
theorem aW.fr(R:aW F W K s):Fr F.h₀ F.L s.heap R.mm:=R.aJ.choose_spec.1
theorem aW.lo(R:aW F W K s):OE F W K R.mm:=R.aJ.choose_spec.2
theorem aW.kr(R:aW F W K s){o o':bh}:(a,o)∈W.n->(a,o')∈W.n->o=o':=HT R.aC.aC.aG
theorem aW.vD(R:aW F W K s){o:bh}(m:(a,o)∈W.n)(x:a∈F.o.map (·.1)):(∃es ep,o.data=.dict es ep)/\¬jg W K.h a:=by
 obtain⟨p,hp,rfl⟩:=bk.mp x;have z:=R.aD p hp
 exact⟨z.1.elim λes q=>q.elim λep q=>z.2.1.elim λo' r=>⟨es,ep,ak (R.kr m r.1) (r.2.trans q)⟩,z.2.2⟩
theorem aW.OF(R:aW F W K s){o:bh}(m:(a,o)∈W.n)(x:F.bT a):(∃v,o.data=.cell v)\/∃es ep,o.data=.dict es ep:=
 x.elim (λq=>q.elim λy q=>(R.aG y q.1).elim λb r=>r.elim λp r=>r.elim λv r=>.inl ⟨v,ak (R.kr m (ak (bu (q.2.1.symm.trans r.1)) r.2.1)) r.2.2⟩) λq=>.inr (R.vD m q).1
theorem aW.nx(R:aW F W K s):∀a vs,(a,ia vs)∈W.n->¬F.bT a:=λa vs m q=>(R.OF m q).elim (λq=>q.elim λb e=>jz e Y) λq=>q.elim λb q=>q.elim λb e=>jz e Y
theorem aW.qg(R:aW F W K s)(tk:Nat):aW F W K {s with toks:=tk}:=⟨⟨R.aC.aD,R.aC.aC,R.aC.aI,R.aC.aG,R.aC.aJ,R.aC.bj,R.aC.bb,R.aC.aT⟩,R.aJ,R.aG,R.aI,R.aD⟩
def PG{α β:Type}(rel:Wd->(Loc->Prop)->α->β->Prop)(F:Fm)(W:Wd)(h:Hp)(Q:β->QA)(v:α)(s':bK):Prop:=∃W' aZ x,aW F W' aZ s'/\Ext F.bT W h W' aZ.h/\rel W' (aX aZ.h) v x/\Q x aZ
abbrev fL(F:Fm)(W:Wd)(h:Hp)(Q:QV):QE:=PG VR F W h Q
abbrev Ia(F:Fm)(W:Wd)(h:Hp)(Q:Bool->QA):Bool->bK->Prop:=PG (λc c a b=>a=b) F W h Q
abbrev Yg(F:Fm)(W:Wd)(h:Hp)(Q:Vs->QA):List aN->bK->Prop:=PG (λW D=>bL (VR W D)) F W h Q
abbrev sh(F:Fm)(W:Wd)(h:Hp)(Q:QA):Unit->bK->Prop:=PG (λa a(_ _:Unit)=>True) F W h λa=>Q
theorem PG.cA{rel:Wd->(Loc->Prop)->α->β->Prop}{Q:β->QA}{v:α}{ah:Prop}(p:PG rel F W h Q v s')(k:∀W' aZ x,aW F W' aZ s'->Ext F.bT W h W' aZ.h->rel W' (aX aZ.h) v x->Q x aZ->ah):ah:=b5 p λW' p=>p.elim λaZ p=>p.elim λx p=>k W' aZ x p.1 p.2.1 p.2.2.1 p.2.2.2
theorem PG.cO{rel:Wd->(Loc->Prop)->α->β->Prop}{Q:β->QA}{v:α}(e:Ext F.bT W h a5 h₁)(p:PG rel F a5 h₁ Q v s'):PG rel F W h Q v s':=p.cA λW' aZ x r e' vr q=>⟨W',aZ,x,r,e.cO e',vr,q⟩
theorem jL{rel:Wd->(Loc->Prop)->α->β->Prop}{Q:β->QA}{ab:gD α}(e:Ext F.bT W h a5 h₁)(w:wpAny Md A ab (PG rel F a5 h₁ Q) E s):wpAny Md A ab (PG rel F W h Q) E s:=wm w λa a p=>p.cO e
def RV(W:Wd)(K:AS)(s:bK)(x:V)(v:aN)(s':bK):Prop:=(∃tk,s'={s with toks:=tk})/\VR W (aX K.h) v x
theorem aW.OG(R:aW F W K s)(r:RV W K s x v s')(q:Q x K):fL F W K.h Q v s':=r.1.elim λtk e=>⟨W,K,x,ak e (R.qg tk),Ext.lM,r.2,q⟩
structure lO(F:Fm)(A:oG)(n:Nat):Prop where
 bj:0<n->∃outer,F.f=M F.L/\A.frames=M (F.bB::outer)/\∀e∈outer,e.scope.kind≠.module/\∃a,e.frame=M a/\a∈F.o.map (·.1)
 aD:F.b.kind=.function
 aI:A.depth+2*n<=600
 bb:A.units+10*n<=9000
 aC:A.handled=U
 aG:∃p loose mg mb,TopRead p loose mg mb F.h₀
 aJ:∃o,F.h₀.get? qe=M o
 aT:A.guards=M []
theorem lO.un(c:lO F A n):A.units<=9000:=aL (mR ..) c.bb
def aW.a7(R:aW F W K s){vs:Vs}(hl:K.h l=M (.l vs)):Array aN:=(R.aC.aC.aC l _ hl).choose
def aW.xy(R:aW F W K s){vs:Vs}(hl:K.h l=M (.l vs)):Nat:=(R.aC.aC.aC l _ hl).choose_spec.choose
theorem aW.OH(R:aW F W K s){vs:Vs}(hl:K.h l=M (.l vs)):At W l (listOf (R.a7 hl) (R.xy hl)):=(R.aC.aC.aC l _ hl).choose_spec.choose_spec.1
theorem aW.hM(R:aW F W K s){vs:Vs}(hl:K.h l=M (.l vs)):bL (VR W (aX K.h)) (R.a7 hl).toList vs:=(R.aC.aC.aC l _ hl).choose_spec.choose_spec.2.1
theorem aW.ug(R:aW F W K s){vs:Vs}(hl:K.h l=M (.l vs)):vs.length<=33554432:=(R.aC.aC.aC l _ hl).choose_spec.choose_spec.2.2
theorem aW.lP(R:aW F W K s){vs:Vs}(hl:K.h l=M (.l vs)):(R.a7 hl).size=vs.length:=(R.hM hl).gU
theorem BR.at{h₀:fC}{L:aY}{t:Nat}(R:BR g h₀ L W h t s){o:bh}(x:At W l o):s.heap.get? (W.ρ l)=M o:=by
 by_cases e:l.1=0
 .exact R.aJ _ _ ((aw e).mp x)
 .exact(R.aD _ ((av e).mp x)).1
theorem aW.fE(R:aW F W K s){vs:Vs}(hl:K.h l=M (.l vs)):s.heap.get? (W.ρ l)=M (listOf (R.a7 hl) (R.xy hl)):=R.aC.at (R.OH hl)
theorem aW.n4(R:aW F W K s){vs:Vs}(hl:K.h l=M (.l vs)):s.heap.IsList (W.ρ l) (R.a7 hl):=⟨_,R.fE hl,Y,R.xy hl,Y⟩
def aW.ds(R:aW F W K s){es:Es}(hl:K.h l=M (.d es)):List dJ:=(R.aC.aC.aC l _ hl).2.choose
theorem aW.dm(R:aW F W K s)(hl:K.h l=M (.d es)):(W.ρ l,fV (R.ds hl) es.length)∈W.n:=(R.aC.aC.aC l _ hl).2.choose_spec.1
theorem aW.dg(R:aW F W K s)(hl:K.h l=M (.d es)):s.heap.get? (W.ρ l)=M (fV (R.ds hl) es.length):=(R.aC.aD _ (R.dm hl)).1
theorem aW.lQ(R:aW F W K s)(hl:K.h l=M (.d es)):bL (DE W (aX K.h)) (R.ds hl) es:=(R.aC.aC.aC l _ hl).2.choose_spec.2.1
theorem aW.qh(R:aW F W K s)(hl:K.h l=M (.d es)):(es.map (·.1)).Nodup:=(R.aC.aC.aC l _ hl).2.choose_spec.2.2.1
theorem aW.dz(R:aW F W K s)(hl:K.h l=M (.d es)):es.length<=33554432:=(R.aC.aC.aC l _ hl).2.choose_spec.2.2.2
theorem aW.n7(R:aW F W K s)(ib:lO F A n){c:bh}(m:(W.ρ l,c)∈W.n):(W.ρ l==qe)=Z:=beq_eq_false_iff_ne.mpr λe=>ib.aJ.elim λo ho=>cK (((R.aC.aD _ m).2.2).symm.trans ((aq F.h₀.get? e).trans ho))
end
def oN(K:AS)(l:Loc)(t':Nat):Prop:=(l=bz K.t/\t'=K.t+1)\/(l.1≠0/\l.1≠99/\K.h l=U/\t'=K.t)
def alloc(o:af)(Q:QV)(K:AS):Prop:=∃l t',oN K l t'/\Q (.e l) (K.aF l o t')
variable{t':Nat} {H':fC} {c:bh}
section
variable{tk:Nat} {o:af}
theorem aW.vE(R:aW F W K s)(f:Fr F.h₀ F.L s'.heap R.mm)(N:ub F.h₀ F.L s'.heap W'.n)(H:HR F.g W' h'/\Ext F.bT W K.h W' h')(k:∀a o,(a,o)∈W.n->((∃v,o.data=.cell v)\/a∈F.o.map (·.1))->(a,o)∈W'.n)(tm:∀k,t'<=k->h' (bz k)=U)(g:s'.gens=s.gens)(o:s'.os=s.os):aW F W' ⟨K.m,h',t'⟩ s':=
 have t:=H.2.tu R.aC.aC R.nx
 ⟨⟨N,H.1,tm,R.aC.aG,R.aC.aG.keeps f.keep,g.trans R.aC.bj,o.trans R.aC.bb,R.aC.aT⟩,⟨R.mm,f,λi x q=>(R.lo i x q).elim λv q=>⟨v,q.1.imp id (λq=>⟨q.1,q.2.elim λa q=>q.elim λo q=>⟨a,o,q.1,q.2.1.imp (λm=>k a o m (.inl ⟨_,q.2.2⟩)) id,q.2.2⟩⟩),q.2.bN t⟩⟩,
   λy hy=>(R.aG y hy).elim λa q=>q.elim λo q=>q.elim λv q=>⟨a,o,v,q.1,k a o q.2.1 (.inl ⟨v,q.2.2⟩),q.2.2⟩,R.aI,
   λp hp=>have z:=R.aD p hp;⟨z.1,z.2.1.elim λo q=>⟨o,k _ o q.1 (.inr (dw hp)),q.2⟩,z.2.1.elim λo q=>H.2.mw q.1 z.2.2⟩⟩
theorem Bq{h₀:fC}{L:aY}{h h':fC}{m:aP->Option aN}{news:List (aY×bh)}{o:bh}(F:Fr h₀ L h m)(N:ub h₀ L h news)(hk:∀b o,h.get? b=M o->h'.get? b=M o)(g:h'.get? a=M o)(fresh:∀b o,h.get? b=M o->b<a):ub h₀ L h' ((a,o)::news):=λp hp=>by
 rcases b0.mp hp with rfl|hp
 .refine⟨g,λe=>dI _ (bF (fR (show a=L from e)) (by obtain⟨oL,_,_,q,_⟩:=F.ns;exact fresh _ _ q)),?_⟩
  cases e:h₀.get? a with
  |none=>rfl
  |some o=>exact ax (fresh _ _ (F.keep _ _ e)) (dI _)
 .exact⟨hk _ _ (N p hp).1,(N p hp).2⟩
theorem oN.l0(r:oN K l t'):l.1≠0:=r.elim (λr=>aj (aq dQ r.1).symm (by decide:(99:Nat)≠0)) (·.1)
theorem oN.no(r:oN K l t')(R:aW F W K s):K.h l=U:=r.elim (λr=>ak r.1 (R.aC.aI _ (dj _))) (·.2.2.1)
theorem Yh{i k:Nat}(e:bz i=bz k):i=k:=aq (λl:Loc=>l.2.headD 0) e
theorem oN.tm(r:oN K l t')(R:aW F W K s)(k:Nat)(hk:t'<=k):K.h.aF l o (bz k)=U:=by
 rcases r with⟨rfl,rfl⟩|⟨_,r1,_,rfl⟩
 .exact(aQ λe=>ajg K.t (aL hk (fR (Yh e)))).trans (R.aC.aI k (wW hk))
 .exact(aQ λe=>r1 (aq dQ e).symm).trans (R.aC.aI k hk)
theorem OI{vs:Vs}:¬gF (M (.l vs)):=λi=>i.elim λa i=>i.elim λa i=>by cases i
theorem Ib{vs:Es}:¬gF (M (.d vs)):=λi=>i.elim λa i=>i.elim λa i=>by cases i
theorem OJ{vs:Vs}:¬gF (M (.s vs)):=λi=>i.elim λa i=>i.elim λa i=>by cases i
theorem aW.EG(R:aW F W K s)(r:oN K l t')(no:¬gF (M o))(hk:∀b o,s.heap.get? b=M o->H'.get? b=M o)(fresh:∀b o,s.heap.get? b=M o->b<a)(g:H'.get? a=M c)
 (x:∀W',Tu W W' (aX K.h) (aX (K.h.aF l o))->(W'.ρ l,c)∈W'.n->OR W' (aX (K.h.aF l o)) l o)(q:Q (.e l) (K.aF l o t')):fL F W K.h Q (.ref a) {s with heap:=H',toks:=tk}:=by
 have e:(W.eH l a 0 [(a,c)]).ρ l=a:=aw Y;have hl:=r.no R
 have ae:HR F.g (W.eH l a 0 [(a,c)]) (K.h.aF l o)/\Ext F.bT W K.h (W.eH l a 0 [(a,c)]) (K.h.aF l o):=HR.Om R.aC.aC hl r.l0 (λp hp q hq=>ak (bp.mp hq) (fresh _ _ (R.aC.aD p hp).1)) (V9 ..) (λb i=>by cases b;exact⟨c,.head _⟩;exact ax (i Y) no) (λi=>ax i no) (x _ (Wd.tu hl) (aj e.symm (.head _)))
 exact⟨_,_,.e l,R.vE (s':={s with heap:=H',toks:=tk}) (R.fr.keeps hk) (Bq R.fr R.aC.aD hk g fresh) ae (λa o m d=>cZ _ m) (r.tm R) Y Y,ae.2,⟨aq ik e.symm,(qS l).mpr (.inl Y)⟩,q⟩
theorem aW.uh(R:aW F W K s){a7:Array aN}{k:Nat}{xs:Vs}(hk:∀b o,s.heap.get? b=M o->H'.get? b=M o)(fresh:∀b o,s.heap.get? b=M o->b<a)(g:H'.get? a=M (listOf a7 k))(al:bL (VR W (aX K.h)) a7.toList xs)(z:xs.length<=16777216)(q:alloc (.l xs) Q K):
 fL F W K.h Q (.ref a) {s with heap:=H',toks:=tk}:=q.elim λl q=>q.elim λt' q=>R.EG (o:=.l xs) q.1 OI hk fresh g (λW' t m=>⟨a7,k,(av q.1.l0).mpr m,al.bN λc c=>VR.bN t,aL z (ao Y)⟩) q.2
theorem EH(R:aW F W K s){vs:List aN}{xs:Vs}(al:bL (VR W (aX K.h)) vs xs)(z:xs.length<=16777216)(q:alloc (.l xs) Q K):wpAny Md A (Hy vs) (fL F W K.h Q) E s:=
 rX (R.uh (a7:=vs.toArray) (tk:=s.toks) (λb o e=>eW _ e) (λb o e=>d9 e) (jG _ Y) al z q) (by show vs.toArray.size<=Bd;rw[wV,al.gU,kg];exact z)
theorem OK(R:aW F W K s)(q:alloc (.d []) Q K):wpAny Md A newDict (fL F W K.h Q) E s:=
 (rX (q.elim λl q=>q.elim λt' q=>R.EG (o:=.d []) (tk:=s.toks) q.1 Ib (λb o e=>eW _ e) (λb o e=>d9 e) (jG (o:=fV [] 0) _ Y) (λW' t m=>⟨q.1.l0,[],m,.gO,gh,b7 _⟩) q.2) (b7 _):wpAny Md A (newObj (.type "dict") (.dict #[])) (fL F W K.h Q) E s)
theorem aW.OM(R:aW F W K s){vs:List aN}{xs:Vs}(hk:∀b o,s.heap.get? b=M o->H'.get? b=M o)(fresh:∀b o,s.heap.get? b=M o->b<a)(g:H'.get? a=M (ia vs))(al:bL (VR W (aX K.h)) vs xs)(z:xs.length<=16777216)(q:Q (V.bP xs) K):fL F W K.h Q (.ref a) {s with heap:=H',toks:=tk}:=
 have ae:HR F.g ⟨W.bG,(a,ia vs)::W.n⟩ K.h/\Ext F.bT W K.h ⟨W.bG,(a,ia vs)::W.n⟩ K.h:=HR.yZ R.aC.aC λp hp=>fresh _ _ (R.aC.aD p hp).1
 ⟨_,_,V.bP xs,R.vE (s':={s with heap:=H',toks:=tk}) (t':=K.t) (R.fr.keeps hk) (Bq R.fr R.aC.aD hk g fresh) ae (λa o m c=>.tail _ m) R.aC.aI Y Y,ae.2,VR.kJ.mpr ⟨a,vs,Y,⟨.inl (.head _),aL (fR al.gU) (aL z (ao Y))⟩,al.bN λc c=>VR.bN (ae.2.tu R.aC.aC R.nx)⟩,q⟩
theorem Yi(R:aW F W K s){vs:List aN}{xs:Vs}(al:bL (VR W (aX K.h)) vs xs)(z:xs.length<=16777216)(q:Q (V.bP xs) K):wpAny Md A (NT vs) (fL F W K.h Q) E s:=
 rX (R.OM (tk:=s.toks) (λb o e=>eW _ e) (λb o e=>d9 e) (jG _ Y) al z q) (by show vs.toArray.size<=Bd;rw[wV,al.gU,kg];exact z)
theorem aW.ON{b:Bool}{Br:bh}(R:aW F W K s)(ob:Own K.h (l,b))(ni:gF (M o)->gF (K.h l))(nt:nY (K.h l)->nY (M o))(m:(W.bG (l,b),Br)∈W.n)(nc:∀v,Br.data≠.cell v)(f:Fr F.h₀ F.L H' R.mm)(N:ub F.h₀ F.L H' (ee (W.bG (l,b)) c W.n))
 (x:∀W',Tu W W' (aX K.h) (aX (K.h.aF l o))->W'.bG=W.bG->(∀p,p∈W.n->p.1≠W.bG (l,b)->p∈W'.n)->(W.bG (l,b),c)∈W'.n->OR W' (aX (K.h.aF l o)) l o):
 ∃W',aW F W' (K.aF l o K.t) {s with heap:=H',toks:=tk}/\Ext F.bT W K.h W' (K.h.aF l o):=by
 have ae:HR F.g ⟨W.bG,ee (W.bG (l,b)) c W.n⟩ (K.h.aF l o)/\Ext F.bT W K.h ⟨W.bG,ee (W.bG (l,b)) c W.n⟩ (K.h.aF l o):=R.aC.aC.Oo ob ni nt λt=>x _ t Y (λp mp ne=>jB ne mp) (ue m);refine⟨_,R.vE f N ae (λa' o' m' x=>jB (λ(e:a'=_)=>?_) m') (λk hk=>(aQ λ(e:bz k=l)=>ob.2.1 (aj e (R.aC.aI k hk))).trans (R.aC.aI k hk)) Y Y,ae.2⟩;subst e;rcases x with⟨v,x⟩|x
 .exact nc v (aj (R.kr m' m) x)
 .exact(R.vD m' x).2 ⟨(l,b),ob,Y⟩
theorem aW.Ic{b:Bool}{Br:bh}(R:aW F W K s)(ob:Own K.h (l,b))(ni:gF (M o)->gF (K.h l))(nt:nY (K.h l)->nY (M o))(m:(W.bG (l,b),Br)∈W.n)(nc:∀v,Br.data≠.cell v)(sb:mf (W.bG (l,b)) s.heap H')(g:H'.get? (W.bG (l,b))=M c)
 (x:∀W',Tu W W' (aX K.h) (aX (K.h.aF l o))->W'.bG=W.bG->(∀p,p∈W.n->p.1≠W.bG (l,b)->p∈W'.n)->(W.bG (l,b),c)∈W'.n->OR W' (aX (K.h.aF l o)) l o):
 ∃W',aW F W' (K.aF l o K.t) {s with heap:=H',toks:=tk}/\Ext F.bT W K.h W' (K.h.aF l o):=
 have z:=R.aC.aD _ m
 R.ON ob ni nt m nc (R.fr.change sb z.2.1 z.2.2) (λp hp=>by
  obtain⟨p',iY,rfl⟩:=bk.mp hp;by_cases e:p'.1=W.bG (l,b)
  .rw[aw e];exact⟨g,z.2⟩
  .rw[av e];exact⟨(sb.2 _ e).trans (R.aC.aD p' iY).1,(R.aC.aD p' iY).2⟩) x
end
inductive Prim where|l|m|s|i|t|c|r|b|a|o|e|g|n|j|d|zz (n:Nat)
noncomputable def Prim.si:Prim->aP
 |.l=>"len"|.m=>"min"|.s=>"sorted"|.i=>"list"|.t=>"tuple"|.c=>"all"|.r=>"str"|.b=>"set"
 |.a=>"append"|.o=>"pop"|.e=>"insert"|.g=>"get"|.n=>"index"|.j=>"join"|.d=>"add"|.zz _=>""
noncomputable def Prim.Ie:Prim->Bool
 |.l|.m|.s|.i|.t|.c|.r|.b=>O
 |_=>Z
inductive Tg where
 |v (i:Nat)
 |a (is:Nl)
inductive Sx where
 |n|c (e r:Sx)|kv (k v r:Sx)
 |cN|cB (b:Bool)|cI (i:Int)|cS (s:aP)
 |v (i:Nat)|D (g:Nat)
 |a (e:Sx) (a:Nat)
 |u (e i:Sx)|OO (e:Sx)|xA (e a:Sx)|Ig (e b:Sx)
 |b (o:Be) (a b:Sx)|q (a:Sx)|o (a:Sx)|m (o:CmpOp) (a b:Sx)|EI (a:Sx)
 |iZ (aky:Bool) (es:Sx)|Bs (t a b:Sx)
 |d (es:Sx)|t (es:Sx)|fq (qi:Sx)
 |sj (elt:Sx) (t:Tg) (it cs:Sx) (bZ:List (Option Nat))
 |EJ (ek ev:Sx) (t:Tg) (it:Sx) (bZ:List (Option Nat))
 |OP (e:Sx) (a:Nat)|EK (ps:Sx)|OQ (e:Sx)
 |Ih (i:Nat) (es:Sx)|g (f:Nat) (es:Sx)|C (c:Nat) (es:Sx)|gW (e:Sx) (a:Nat) (es:Sx)|p (p:Prim) (es:Sx)|bV (p:Prim) (e es:Sx)
 |l (e:Sx)
 |A (e:Sx)|E (e:Sx)|B (e:Sx)
 |j|e (e:Sx)|F|z|w|h (e:Sx)
 |s (t:Tg) (e:Sx)|EL (i:Nat) (e:Sx)|cW (o:Sx) (a:Nat) (e:Sx)|cR (o i e:Sx)|xB (i:Nat) (o:Be) (e:Sx)|vF (o:Sx) (a:Nat) (b:Be) (e:Sx)
 |i (t a b:Sx)|pC (t b o:Sx)|f (t:Tg) (it b o:Sx)
 |Bt (b:Sx)|EM (e x y u:Sx)|Bu (z:Sx) (a:Nat) (e:Sx)
def sq(l:List Sx):Sx:=qO .n (λa b r=>.c a r) l
inductive bX where
 |e (x:bU)|es (l:List bU)|t (x:bU)|ts (l:List bU)|i (x:bU)|s (x:iI)|c (l:List iI)|kv (a:List (Option bU)) (b:List bU)
def bX.ctorIdx(x:bX):Nat:=bX.rec (λa=>0) (λa=>1) (λa=>2) (λa=>3) (λa=>4) (λa=>5) (λa=>6) (λa a=>7) x
noncomputable def isVar(sc:dY)(i:Nat)(x:aP):Bool:=cx sc i==x&&((match sc.names.lookup x with|some .local|some .cell|some .free=>O|_=>Z)&&(x !=("__debug__":aP)&&x !=("__classdict__":aP)))
noncomputable def od(sc:dY)(i:Nat)(x:aP):Bool:=cx sc i==x&&((sc.names.lookup x==M .local||sc.names.lookup x==M .cell)&&x !=fU)
noncomputable def j4(sc:dY)(x:aP):Bool:=sc.names.lookup x==M .globalImplicit&&(x !=("__debug__":aP)&&x !=("super":aP))
def Bv(sc:dY)(is:Nl):List bU->Prop:=qO (λl=>l=[]) (λi a ih l=>∃x p r,l=.Name x p::r/\od sc i x=O/\ih r) is
def qZ(sc:dY)(t:Tg)(x:bU):Prop:=Tg.rec (λi=>∃y p,x=.Name y p/\od sc i y=O) (λis=>∃l k p,x=.Tuple l k p/\Bv sc is l) t
noncomputable def fF(sc scope:dY):dY:={scope with names:=scope.names.map λp=>if(p.2==.free&&sc.kind==.function&&sc.names.lookup p.1==M .cell)then(p.1,.cell)else p}
noncomputable def y9(sc scope:dY)(bZ:List (Option Nat)):Bool:=
 scope.kind==.function&&(decide ((scope.names.map (·.1)).Nodup)&&((fF sc scope).names.map (·.1)==scope.names.map (·.1))&&(scope.names.all (λp=>p.2 !=.cell&&(p.2 !=.local||scope.names.lookup p.1==M .local)&&(p.2 !=.free||sc.names.lookup p.1==M .cell))&&
 (bZ.zipIdx.all (λr=>match r.1 with
  |none=>O
  |some i=>cx (fF sc scope) r.2==cx sc i&&(((fF sc scope).names.lookup (cx sc i)==M .cell||(fF sc scope).names.lookup (cx sc i)==M .free)&&(scope.names.contains (cx sc i,.free)&&sc.names.lookup (cx sc i)==M .cell)))&&
 (fF sc scope).names.all λp=>p.2 !=.cell||(scope.names.contains (p.1,.free)&&sc.names.lookup p.1==M .cell))))
noncomputable def ownAt(sc:dY)(i:Nat):Bool:=sc.names.lookup (cx sc i)==M .local
def zf(sc:dY)(t:Tg):Bool:=Tg.rec (ownAt sc) (λis=>is.all (ownAt sc)) t
noncomputable def nk(ks:Nl)(e:bU):Bool:=ks.all λk=>!cQ e.ctorIdx k
def Et(x:bX)(q:bU):Prop:=x=.e q\/x=.t q
def NB(v:bU):Prop:=∀y env m,attributeBase v y env m=m
def Pl(e:bU):Prop:=(∀rest env,qP (e::rest) env=(Z,eval e env)::qP rest env)/\∀v i,Xo e Z v i=operate [v,i] (xf v i)
def oe(l:List bU):Prop:=∀pos env,(t8 pos (qP l env)).any (·.1)=Z
def SW(v:bU):Prop:=∀t k env,Ht v t k env=pure Z
def SA(v:bU):Prop:=(∀z y q k env,Ht v (M (.Attribute z y q)) k env=pure Z)/\∀z y q k env,Ht v (M (.Subscript z y q)) k env=pure Z
def ST(v:bU):Prop:=(∀a b c k env,Ht v (M (.Tuple a b c)) k env=pure Z)/\∀a b c env,swappedStores [.Tuple a b c] v env=pure U
def TV(e:bU):Prop:=∀env w,HC e env w=(do let v<-w;En e.pos;holding [v] (Eu v))
def Ck(a:Sx):dY->bX->Prop:=Sx.rec (motive:=λd=>dY->bX->Prop)
 (λsc x=>x=.es []\/x=.ts []\/x=.c []\/x=.kv [] [])
 (λd d ih jh sc x=>(∃e r,x=.es (e::r)/\ih sc (.e e)/\jh sc (.es r)/\Pl e)\/(∃e r,x=.ts (e::r)/\ih sc (.t e)/\jh sc (.ts r))\/∃e r,x=.c (e::r)/\ih sc (.s e)/\jh sc (.c r))
 (λd d d ih jh kh sc x=>∃k a v b,x=.kv (M k::a) (v::b)/\ih sc (.e k)/\jh sc (.e v)/\kh sc (.kv a b))
 (λd x=>∃k p,x=.e (.Constant .none k p))
 (λb d x=>∃k p,x=.e (.Constant (.bool b) k p))
 (λi d x=>∃k p,x=.e (.Constant (.int i) k p))
 (λs d x=>∃k p,x=.e (.Constant (.str s) k p)/\kH s=O)
 (λi sc x=>∃y p,x=.e (.Name y p)/\isVar sc i y=O)
 (λg sc x=>∃y p,x=.e (.Name y p)/\j4 sc y=O/\mq XM g y=O)
 (λd a ih sc x=>∃v y p,x=.e (.Attribute v y p)/\mq ud a y=O/\ih sc (.e v)/\NB v)
 (λd d ih jh sc x=>∃l r p,x=.e (.Subscript l r p)/\ih sc (.e l)/\jh sc (.e r)/\Pl r)
 (λd ih sc x=>∃v p q,x=.e (.Subscript v (.Slice U U U p) q)/\ih sc (.e v))
 (λd d ih jh sc x=>∃v l p q,x=.e (.Subscript v (.Slice (M l) U U p) q)/\ih sc (.e v)/\jh sc (.e l))
 (λd d ih jh sc x=>∃v l p q,x=.e (.Subscript v (.Slice U (M l) U p) q)/\ih sc (.e v)/\jh sc (.e l))
 (λo d d ih jh sc x=>∃l r p,x=.e (.BinOp l o r p)/\ih sc (.e l)/\jh sc (.e r))
 (λd ih sc x=>∃v p,x=.e (.UnaryOp .USub v p)/\ih sc (.e v))
 (λd ih sc x=>∃v p,(x=.e (.UnaryOp .Not v p)/\ih sc (.e v))\/(x=.t (.UnaryOp .Not v p)/\ih sc (.t v)))
 (λo d d ih jh sc x=>∃l r p,Et x (.Compare l [o] [r] p)/\ih sc (.e l)/\jh sc (.e r)/\behindInMarks o r=Z)
 (λd ih sc x=>∃l k p q,Et x (.Compare l [.IsNot] [.Constant .none k p] q)/\ih sc (.e l))
 (λk d ih sc x=>∃vs p,(x=.e (.BoolOp (if k then .And else .Or) vs p)/\ih sc (.es vs))\/(x=.t (.BoolOp (if k then .And else .Or) vs p)/\ih sc (.ts vs)))
 (λd d d ih jh kh sc x=>∃t a b p,x=.e (.IfExp t a b p)/\ih sc (.t t)/\jh sc (.e a)/\kh sc (.e b))
 (λd ih sc x=>∃vs k p,x=.e (.Tuple vs k p)/\ih sc (.es vs))
 (λd ih sc x=>∃vs p,x=.e (.List vs p)/\ih sc (.es vs))
 (λd ih sc x=>∃a b p,x=.e (.Dict a b p)/\Xw b.length 15=O/\ih sc (.kv a b))
 (λd t d d bZ ih jh kh sc x=>∃v g scope p,x=.e (.ListComp v [g] scope p)/\(g.is_async==0)=O/\y9 sc scope bZ=O/\zf (fF sc scope) t=O/\jh sc (.e g.iter)/\qZ (fF sc scope) t g.target/\kh (fF sc scope) (.ts g.ifs)/\ih (fF sc scope) (.e v)/\nk [7] g.iter=O)
 (λd d t d bZ ih jh kh sc x=>∃k v g scope p,x=.e (.DictComp k v [g] scope p)/\(g.is_async==0)=O/\g.ifs.isEmpty=O/\y9 sc scope bZ=O/\zf (fF sc scope) t=O/\kh sc (.e g.iter)/\qZ (fF sc scope) t g.target/\ih (fF sc scope) (.e k)/\jh (fF sc scope) (.e v)/\nk [7] g.iter=O)
 (λd a ih sc x=>∃q v p,x=.e (.Call (.Name "len" q) [v] [] p)/\j4 sc "len"=O/\mq ud a "__len__"=O/\ih sc (.e v)/\Pl v)
 (λd ih sc x=>∃a b vs p,x=.e (.JoinedStr (a::b::vs) p)/\ih sc (.es (a::b::vs)))
 (λd ih sc x=>∃q q' v p p',x=.e (.Call (.Name "list" q) [.Call (.Name "range" q') [v] [] p'] [] p)/\j4 sc "list"=O/\j4 sc "range"=O/\ih sc (.e v)/\Pl v)
 (λi d ih sc x=>∃y q vs p,x=.e (.Call (.Name y q) vs [] p)/\isVar sc i y=O/\ih sc (.es vs)/\oe vs)
 (λf d ih sc x=>∃y q vs p,x=.e (.Call (.Name y q) vs [] p)/\j4 sc y=O/\mq Bl f y=O/\ih sc (.es vs)/\oe vs)
 (λf d ih sc x=>∃y q vs p,x=.e (.Call (.Name y q) vs [] p)/\j4 sc y=O/\mq HK f y=O/\ih sc (.es vs)/\oe vs)
 (λd a d ih jh sc x=>∃v y q vs p,x=.e (.Call (.Attribute v y q) vs [] p)/\mq ud a y=O/\ih sc (.e v)/\jh sc (.es vs)/\(q.endLine==p.line)=O/\xe vs.length 20=O/\NB v/\oe vs)
 (λf d ih sc x=>∃q vs p,x=.e (.Call (.Name f.si q) vs [] p)/\j4 sc f.si=O/\ih sc (.es vs)/\oe vs)
 (λf d d ih jh sc x=>∃v q vs p,x=.e (.Call (.Attribute v f.si q) vs [] p)/\ih sc (.e v)/\jh sc (.es vs)/\(q.endLine==p.line)=O/\xe vs.length 20=O/\NB v/\oe vs)
 (λd ih sc x=>(∃v,x=.t v/\ih sc (.e v)/\TV v)\/(∃v,x=.i v/\ih sc (.e v)/\nk [7] v=O)\/∃v p,x=.e (.FormattedValue v 115 U p)/\ih sc (.e v))
 (λd ih sc x=>∃q v p,x=.i (.Call (.Name "enumerate" q) [v] [] p)/\j4 sc "enumerate"=O/\ih sc (.e v)/\Pl v)
 (λd ih sc x=>∃v q p,x=.i (.Call (.Attribute v "items" q) [] [] p)/\(q.endLine==p.line)=O/\ih sc (.e v)/\NB v)
 (λd ih sc x=>∃q v p,x=.i (.Call (.Name "range" q) [v] [] p)/\j4 sc "range"=O/\ih sc (.e v)/\Pl v)
 (λd x=>∃y,x=.s y)
 (λd ih sc x=>∃v p,x=.s (.Expr v p)/\ih sc (.e v)/\SW v)
 (λd x=>∃p,x=.s (.Pass p))
 (λd x=>∃p,x=.s (.Break p))
 (λd x=>∃p,x=.s (.Continue p))
 (λd ih sc x=>∃v p,x=.s (.Return (M v) p)/\ih sc (.e v))
 (λt d ih sc x=>∃tg v p,x=.s (.Assign [tg] v p)/\qZ sc t tg/\ih sc (.e v)/\(Tg.rec (λd=>SW v) (λd=>ST v) t:Prop))
 (λi d ih sc x=>∃y q b g scope lp p,x=.s (.Assign [.Name y q] (.ListComp b g scope lp) p)/\od sc i y=O/\(sc.names.lookup y==M .local)=O/\ih sc (.e (.ListComp b g scope lp)))
 (λd a d ih jh sc x=>∃z y q v p,x=.s (.Assign [.Attribute z y q] v p)/\mq ud a y=O/\ih sc (.e z)/\jh sc (.e v)/\SA v)
 (λd d d ih jh kh sc x=>∃z y q v p,x=.s (.Assign [.Subscript z y q] v p)/\ih sc (.e z)/\jh sc (.e y)/\kh sc (.e v)/\SA v)
 (λi o d ih sc x=>∃y q v p,x=.s (.AugAssign (.Name y q) o v p)/\isVar sc i y=O/\od sc i y=O/\ih sc (.e v))
 (λd a b d ih jh sc x=>∃z y q v p,x=.s (.AugAssign (.Attribute z y q) b v p)/\mq ud a y=O/\ih sc (.e z)/\jh sc (.e v))
 (λd d d ih jh kh sc x=>∃t a b p,x=.s (.If t a b p)/\ih sc (.t t)/\jh sc (.c a)/\kh sc (.c b))
 (λd d d ih jh kh sc x=>∃t b o p,x=.s (.While t b o p)/\ih sc (.t t)/\jh sc (.c b)/\kh sc (.c o))
 (λt d d d ih jh kh sc x=>∃tg it b o p,x=.s (.For tg it b o p)/\qZ sc t tg/\ih sc (.i it)/\jh sc (.c b)/\kh sc (.c o))
 (λd ih sc x=>∃b h hs p,x=.s (.Try b (h::hs) [] [] p)/\ih sc (.c b))
 (λd d d d ih jh kh lh sc x=>∃e p1 p2 z y p3 u p4 p5 p6 p7,x=.s (.Try [.Expr e p1] [.ExceptHandler (M (.Name "KeyError" p2)) U [.Assign [.Subscript z y p3] (.List [u] p4) p5] p6] [] [] p7)/\j4 sc "KeyError"=O/\ih sc (.e e)/\jh sc (.e z)/\kh sc (.e y)/\lh sc (.e u)/\Pl u)
 (λd a d ih jh sc x=>∃z y p1 e p2 q1 q2 kk q3 z' y' p3 p4 p5 p6 p7,x=.s (.Try [.Assign [.Attribute z y p1] e p2] [.ExceptHandler (M (.Tuple [.Name "IndexError" q1,.Name "KeyError" q2] kk q3)) U [.Assign [.Attribute z' y' p3] (.List [] p4) p5] p6] [] [] p7)/\
  j4 sc "IndexError"=O/\j4 sc "KeyError"=O/\mq ud a y=O/\mq ud a y'=O/\ih sc (.e z)/\jh sc (.e e)/\ih sc (.e z')) a
variable{PA:bX->Prop} {PE:bU->Prop} {PS:iI->Prop} {PC:Const->Prop}
noncomputable def cc{p:Prop}{n m:Nat}(f:n=m->DP p):DP p:=if h:n=m then f h else U
noncomputable def dx{α:Type}{P:α->Prop}{a:α}:DP (P a)->DP (Exists P):=dm λh=>⟨a,h⟩
noncomputable def d2{A B:Type}{P:A->B->Prop}{a:A}{b:B}:DP (P a b)->DP (∃a b,P a b):=dm λh=>⟨a,b,h⟩
noncomputable def d3{A B C:Type}{P:A->B->C->Prop}{a:A}{b:B}{c:C}:DP (P a b c)->DP (∃a b c,P a b c):=dm λh=>⟨a,b,c,h⟩
noncomputable def d4{A B C D:Type}{P:A->B->C->D->Prop}{a:A}{b:B}{c:C}{d:D}:DP (P a b c d)->DP (∃a b c d,P a b c d):=dm λh=>⟨a,b,c,d,h⟩
noncomputable def d5{A B C D E:Type}{P:A->B->C->D->E->Prop}{a:A}{b:B}{c:C}{d:D}{e:E}:DP (P a b c d e)->DP (∃a b c d e,P a b c d e):=dm λh=>⟨a,b,c,d,e,h⟩
noncomputable def dr{α:Type}{a:α}{q:Prop}:DP q->DP (a=a/\q):=dm λh=>⟨Y,h⟩
noncomputable def mX{α:Type}{a:α}:DP (a=a):=M ⟨Y⟩
noncomputable def dl{p q:Prop}:DP p->DP (p\/q):=dm .inl
noncomputable def di{p q:Prop}:DP q->DP (p\/q):=dm .inr
def al{α:Type}{P:α->Prop}(a b:∀x,DP (P x))(x:α):DP (P x):=xd (motive:=λc=>DP (P x)) (b x) M (a x)
noncomputable def cE(k:∀e,DP (PA (.e e)))(x:bX):DP (PA x):=by cases x<;>first|exact k _|exact U
noncomputable def OS(k:∀e,DP (PA (.es e)))(x:bX):DP (PA x):=by cases x<;>first|exact k _|exact U
noncomputable def cT(k:∀e,DP (PA (.t e)))(x:bX):DP (PA x):=by cases x<;>first|exact k _|exact U
noncomputable def OT(k:∀e,DP (PA (.ts e)))(x:bX):DP (PA x):=by cases x<;>first|exact k _|exact U
noncomputable def EO(k:∀e,DP (PA (.i e)))(x:bX):DP (PA x):=by cases x<;>first|exact k _|exact U
noncomputable def cS(k:∀e,DP (PA (.s e)))(x:bX):DP (PA x):=by cases x<;>first|exact k _|exact U
noncomputable def OU(k:∀e,DP (PA (.c e)))(x:bX):DP (PA x):=by cases x<;>first|exact k _|exact U
noncomputable def OV(k:∀a b,DP (PA (.kv a b)))(x:bX):DP (PA x):=by cases x<;>first|exact k _ _|exact U
def l0{α:Type}{P:List α->Prop}(k:DP (P []))(l:List α):DP (P l):=qO (motive:=λl=>DP (P l)) k (λa a a=>U) l
def lc{α:Type}{P:List α->Prop}(k:∀a r,DP (P (a::r)))(l:List α):DP (P l):=qO (motive:=λl=>DP (P l)) U (λa r b=>k a r) l
def l1{α:Type}{P:List α->Prop}(k:∀a,DP (P [a])):(l:List α)->DP (P l):=lc λa=>l0 (P:=λr=>P (a::r)) (k a)
def om{α:Type}{P:Option α->Prop}(k:∀a,DP (P (M a)))(o:Option α):DP (P o):=xd (motive:=λo=>DP (P o)) U k o
def xC{α:Type}{P:Option α->Prop}(k:DP (P U))(o:Option α):DP (P o):=xd (motive:=λo=>DP (P o)) k (λa=>U) o
noncomputable def iK{α:Type} [DecidableEq α]{P:α->Prop}(a:α)(k:DP (P a))(b:α):DP (P b):=if h:a=b then h▸k else U
noncomputable def Ii(k:∀b c a,DP (PE (.BoolOp a b c))) (x):DP (PE x):=cc λh=>alH x h λa b c=>k b c a
noncomputable def Bw(k:∀a c d b,DP (PE (.BinOp a b c d))) (x):DP (PE x):=cc λh=>Expr.BinOp.elim x h λa b c d=>k a c d b
noncomputable def Bx(k:∀b c a,DP (PE (.UnaryOp a b c))) (x):DP (PE x):=cc λh=>ale x h λa b c=>k b c a
noncomputable def EP(k:∀a b c d,DP (PE (.IfExp a b c d))) (x):DP (PE x):=cc λh=>Expr.IfExp.elim x h k
noncomputable def Ij(k:∀a b c,DP (PE (.Dict a b c))) (x):DP (PE x):=cc λh=>Expr.Dict.elim x h k
def ER(k:∀a c d b,DP (PE (.ListComp a [b] c d))) (x):DP (PE x):=cc λh=>ak8 x h λa b c d=>by revert b;exact l1 (k a c d)
def OW(k:∀a b d f c,DP (PE (.DictComp a b [c] d f))) (x):DP (PE x):=cc λh=>ak9 x h λa b c d f=>by revert c;exact l1 (k a b d f)
def By(k:∀a d c b,DP (PE (.Compare a [b] [c] d))) (x):DP (PE x):=cc λh=>alf x h λa b c d=>by revert b;refine l1 λb=>?_;revert c;exact l1 λc=>k a d c b
def oO(k:∀d b a,DP (PE (.Call a b [] d))) (x):DP (PE x):=cc λh=>Expr.Call.elim x h λa b c d=>by revert c;exact l0 (k d b a)
def Bz(k:∀d b a,DP (PE (.Call a [b] [] d))):∀x,DP (PE x):=oO λd b a=>by revert b;exact l1 λb=>k d b a
def OX(k:∀a d,DP (PE (.FormattedValue a 115 U d))) (x):DP (PE x):=cc λh=>akR x h λa b c d=>by revert b;refine iK 115 ?_;revert c;exact xC (k a d)
noncomputable def ES(k:∀b a,DP (PE (.JoinedStr a b))) (x):DP (PE x):=cc λh=>ak4 x h λa b=>k b a
noncomputable def q7(k:∀b c a,DP (PE (.Constant a b c))) (x):DP (PE x):=cc λh=>ak' x h λa b c=>k b c a
noncomputable def oP(k:∀a c b,DP (PE (.Attribute a b c))) (x):DP (PE x):=cc λh=>ak5 x h λa b c=>k a c b
noncomputable def q8(k:∀a c b,DP (PE (.Subscript a b c))) (x):DP (PE x):=cc λh=>ak3 x h λa b c=>k a c b
noncomputable def ir(k:∀b a,DP (PE (.Name a b))) (x):DP (PE x):=cc λh=>Expr.Name.elim x h λa b=>k b a
noncomputable def zh(k:∀b a,DP (PE (.List a b))) (x):DP (PE x):=cc λh=>Expr.List.elim x h λa b=>k b a
noncomputable def zq(k:∀b c a,DP (PE (.Tuple a b c))) (x):DP (PE x):=cc λh=>Expr.Tuple.elim x h λa b c=>k b c a
def Ik(k:∀d a b,DP (PE (.Slice a b U d))) (x):DP (PE x):=cc λh=>Expr.Slice.elim x h λa b c d=>by revert c;exact xC (k d a b)
def OY(k:∀b a,DP (PS (.Return (M a) b))) (x):DP (PS x):=cc λh=>alE x h λa b=>by revert a;exact om (k b)
def ui(k:∀c b a,DP (PS (.Assign [a] b c))) (x):DP (PS x):=cc λh=>alF x h λa b c=>by revert a;exact l1 (k c b)
noncomputable def OZ(o:Be)(k:∀c d a,DP (PS (.AugAssign a o c d))) (x):DP (PS x):=cc λh=>ak0 x h λa b c d=>by revert b;exact iK o (k c d a)
noncomputable def Yj(k:∀a b c d f,DP (PS (.For a b c d f))) (x):DP (PS x):=cc λh=>Stmt.For.elim x h k
noncomputable def Yk(k:∀a b c d,DP (PS (.While a b c d))) (x):DP (PS x):=cc λh=>Stmt.While.elim x h k
noncomputable def Yl(k:∀a b c d,DP (PS (.If a b c d))) (x):DP (PS x):=cc λh=>Stmt.If.elim x h k
def Il(k:∀f a b,DP (PS (.Try a b [] [] f))) (x):DP (PS x):=cc λh=>Stmt.Try.elim x h λa b c d f=>by revert c;refine l0 ?_;revert d;exact l0 (k f a b)
noncomputable def O0(k:∀a b,DP (PS (.Expr a b))) (x):DP (PS x):=cc λh=>Stmt.Expr.elim x h k
noncomputable def Ym(k:∀a,DP (PS (.Pass a))) (x):DP (PS x):=cc λh=>Stmt.Pass.elim x h k
noncomputable def Yn(k:∀a,DP (PS (.Break a))) (x):DP (PS x):=cc λh=>Stmt.Break.elim x h k
noncomputable def Yo(k:∀a,DP (PS (.Continue a))) (x):DP (PS x):=cc λh=>ak6 x h k
noncomputable def Im(k:DP (PC .none)) (x):DP (PC x):=cc λh=>Const.none.elim x h k
noncomputable def Yp(k:∀b,DP (PC (.bool b))) (x):DP (PC x):=cc λh=>Const.bool.elim x h k
noncomputable def Yq(k:∀b,DP (PC (.int b))) (x):DP (PC x):=cc λh=>Const.int.elim x h k
noncomputable def Yr(k:∀b,DP (PC (.str b))) (x):DP (PC x):=cc λh=>Const.str.elim x h k
def hX{P:Xi->Prop}(k:∀d c a,DP (P (.ExceptHandler (M a) U c d))):∀x,DP (P x):=λ|.ExceptHandler a b c d=>by revert b;refine xC ?_;revert a;exact om (k d c)
def pl:∀v,DP (Pl v):=al (OX λa a=>M ⟨⟨λa a=>Y,λa a=>Y⟩⟩) (al (ir λa a=>M ⟨⟨λa a=>Y,λa a=>Y⟩⟩) (al (oP λa a a=>M ⟨⟨λa a=>Y,λa a=>Y⟩⟩) (al (q7 λa a a=>M ⟨⟨λa a=>Y,λa a=>Y⟩⟩) (al (q8 λa a a=>M ⟨⟨λa a=>Y,λa a=>Y⟩⟩) (al (Bw λa a a a=>M ⟨⟨λa a=>Y,λa a=>Y⟩⟩) (al (Bx λa a a=>M ⟨⟨λa a=>Y,λa a=>Y⟩⟩) (al (oO λa a a=>M ⟨⟨λa a=>Y,λa a=>Y⟩⟩) (al (zq λa a a=>M ⟨⟨λa a=>Y,λa a=>Y⟩⟩) (al (zh λa a=>M ⟨⟨λa a=>Y,λa a=>Y⟩⟩) (al (By λa a a a=>M ⟨⟨λa a=>Y,λa a=>Y⟩⟩) (al (EP λa a a a=>M ⟨⟨λa a=>Y,λa a=>Y⟩⟩) (al (Ii λa a a=>M ⟨⟨λa a=>Y,λa a=>Y⟩⟩) (al (ER λa a a a=>M ⟨⟨λa a=>Y,λa a=>Y⟩⟩) (ES λa a=>M ⟨⟨λa a=>Y,λa a=>Y⟩⟩))))))))))))))
def xD(l:List bU):DP (oe l):=qO (motive:=λl=>DP (oe l)) (M ⟨λa a=>Y⟩) (λe r ih=>dm (λh pos env=>by rw[h.1.1 r env];exact h.2 pos env) (dn (pl e) ih)) l
def sw:∀v,DP (SW v):=al (ir λa a=>M ⟨λa a a=>Y⟩) (al (oP λa a a=>M ⟨λa a a=>Y⟩) (al (q7 λa a a=>M ⟨λa a a=>Y⟩) (al (q8 λa a a=>M ⟨λa a a=>Y⟩) (al (Bw λa a a a=>M ⟨λa a a=>Y⟩) (al (oO λa a a=>M ⟨λa a a=>Y⟩) (al (zq λa a a=>M ⟨λa a a=>Y⟩) (al (zh λa a=>M ⟨λa a a=>Y⟩) (al (Ij λa a a=>M ⟨λa a a=>Y⟩) (al (EP λa a a a=>M ⟨λa a a=>Y⟩) (ES λa a=>M ⟨λa a a=>Y⟩))))))))))
def sa:∀v,DP (SA v):=al (ir λa a=>M ⟨⟨λa a a a a=>Y,λa a a a a=>Y⟩⟩) (al (oP λa a a=>M ⟨⟨λa a a a a=>Y,λa a a a a=>Y⟩⟩) (al (q7 λa a a=>M ⟨⟨λa a a a a=>Y,λa a a a a=>Y⟩⟩) (al (q8 λa a a=>M ⟨⟨λa a a a a=>Y,λa a a a a=>Y⟩⟩) (al (Bw λa a a a=>M ⟨⟨λa a a a a=>Y,λa a a a a=>Y⟩⟩) (al (Bx λa a a=>M ⟨⟨λa a a a a=>Y,λa a a a a=>Y⟩⟩) (al (oO λa a a=>M ⟨⟨λa a a a a=>Y,λa a a a a=>Y⟩⟩) (al (zq λa a a=>M ⟨⟨λa a a a a=>Y,λa a a a a=>Y⟩⟩) (al (zh λa a=>M ⟨⟨λa a a a a=>Y,λa a a a a=>Y⟩⟩) (al (Ij λa a a=>M ⟨⟨λa a a a a=>Y,λa a a a a=>Y⟩⟩) (al (EP λa a a a=>M ⟨⟨λa a a a a=>Y,λa a a a a=>Y⟩⟩) (al (ES λa a=>M ⟨⟨λa a a a a=>Y,λa a a a a=>Y⟩⟩) (al (ER λa a a a=>M ⟨⟨λa a a a a=>Y,λa a a a a=>Y⟩⟩) (OW λa a a a a=>M ⟨⟨λa a a a a=>Y,λa a a a a=>Y⟩⟩)))))))))))))
def st:∀v,DP (ST v):=al (ir λa a=>M ⟨⟨λa a a a a=>Y,λa a a a=>Y⟩⟩) (al (oP λa a a=>M ⟨⟨λa a a a a=>Y,λa a a a=>Y⟩⟩) (al (q8 λa a a=>M ⟨⟨λa a a a a=>Y,λa a a a=>Y⟩⟩) (oO λa a a=>M ⟨⟨λa a a a a=>Y,λa a a a=>Y⟩⟩)))
def tv:∀v,DP (TV v):=al (ir λa a=>M ⟨λa a=>Y⟩) (al (oP λa a a=>M ⟨λa a=>Y⟩) (al (oO λa a a=>M ⟨λa a=>Y⟩) (al (q7 λa a a=>M ⟨λa a=>Y⟩) (Bw λa a a a=>M ⟨λa a=>Y⟩))))
def nb:∀v,DP (NB v):=al (ir λa a=>M ⟨λa a a=>Y⟩) (al (oP λa a a=>M ⟨λa a a=>Y⟩) (al (q8 λa a a=>M ⟨λa a a=>Y⟩) (q7 λa a a=>M ⟨λa a a=>Y⟩)))
def Ys(sc:dY)(is:Nl):∀l,DP (Bv sc is l):=qO (motive:=λis=>(l:List bU)->DP (Bv sc is l)) (l0 mX) (λi b ih=>lc λa r=>by revert a;exact ir λb b=>d3 (dr (dn (db _) (ih r)))) is
def ET(sc:dY)(t:Tg):∀x,DP (qZ sc t x):=Tg.rec (motive:=λt=>(x:bU)->DP (qZ sc t x)) (λi=>ir λa a=>d2 (dr (db _))) (λis=>zq λa a a=>d3 (dr (Ys sc is _))) t
def ck(a:Sx):∀sc x,DP (Ck a sc x):=Sx.rec (motive:=λa=>(sc:dY)->(x:bX)->DP (Ck a sc x))
 (λc=>al (OS (l0 (dl mX))) (al (OT (l0 (di (dl mX)))) (al (OU (l0 (di (di (dl mX))))) (OV λa b=>by revert a;refine l0 ?_;revert b;exact l0 (di (di (di mX)))))))
 (λc c ih jh sc=>al (OS (lc λc c=>dl (d2 (dr (dn (ih sc _) (dn (jh sc _) (pl _))))))) (al (OT (lc λc c=>di (dl (d2 (dr (dn (ih sc _) (jh sc _))))))) (OU (lc λc c=>di (di (d2 (dr (dn (ih sc _) (jh sc _)))))))))
 (λc c c ih jh kh sc=>OV λa b=>by revert a;refine lc λk a=>?_;revert k;refine om λk=>?_;revert b;exact lc λc c=>d4 (dr (dn (ih sc _) (dn (jh sc _) (kh sc _)))))
 (λc=>cE (q7 λc c=>Im (d2 mX)))
 (λb c=>cE (q7 λc c=>Yp (iK b (d2 mX))))
 (λi c=>cE (q7 λc c=>Yq (iK i (d2 mX))))
 (λs c=>cE (q7 λc c=>Yr (iK s (d2 (dr (db _))))))
 (λi sc=>cE (ir λc c=>d2 (dr (db _))))
 (λg sc=>cE (ir λc c=>d2 (dr (dn (db _) (db _)))))
 (λc a ih sc=>cE (oP λc c c=>d3 (dr (dn (db _) (dn (ih sc _) (nb _))))))
 (λc c ih jh sc=>cE (q8 λc c c=>d3 (dr (dn (ih sc _) (dn (jh sc _) (pl _))))))
 (λc ih sc=>cE (q8 λc c=>Ik λc a=>by refine xC ?_;revert a;exact xC (d3 (dr (ih sc _)))))
 (λc c ih jh sc=>cE (q8 λc c=>Ik λc a=>by refine xC ?_;revert a;exact om λc=>d4 (dr (dn (ih sc _) (jh sc _)))))
 (λc c ih jh sc=>cE (q8 λc c=>Ik λc a=>by refine om λb=>?_;revert a;exact xC (d4 (dr (dn (ih sc _) (jh sc _))))))
 (λo c c ih jh sc=>cE (Bw λc c c=>iK o (d3 (dr (dn (ih sc _) (jh sc _))))))
 (λc ih sc=>cE (Bx λc c=>iK .USub (d2 (dr (ih sc _)))))
 (λc ih sc=>al (cE (Bx λc c=>iK .Not (d2 (dl (dr (ih sc _)))))) (cT (Bx λc c=>iK .Not (d2 (di (dr (ih sc _)))))))
 (λo c c ih jh sc=>al (cE (By λc c c=>iK o (d3 (dn (dl mX) (dn (ih sc _) (dn (jh sc _) (dN _))))))) (cT (By λc c c=>iK o (d3 (dn (di mX) (dn (ih sc _) (dn (jh sc _) (dN _))))))))
 (λc ih sc=>al (cE (By λc c r=>iK .IsNot (by revert r;exact q7 λc c=>Im (d4 (dn (dl mX) (ih sc _)))))) (cT (By λc c r=>iK .IsNot (by revert r;exact q7 λc c=>Im (d4 (dn (di mX) (ih sc _)))))))
 (λk c ih sc=>al (cE (Ii λc c=>iK (if k then .And else .Or) (d2 (dl (dr (ih sc _)))))) (cT (Ii λc c=>iK (if k then .And else .Or) (d2 (di (dr (ih sc _)))))))
 (λc c c ih jh kh sc=>cE (EP λc c c c=>d4 (dr (dn (ih sc _) (dn (jh sc _) (kh sc _))))))
 (λc ih sc=>cE (zq λc c c=>d3 (dr (ih sc _))))
 (λc ih sc=>cE (zh λc c=>d2 (dr (ih sc _))))
 (λc ih sc=>cE (Ij λc c c=>d3 (dr (dn (db _) (ih sc _)))))
 (λc t c c bZ ih jh kh sc=>cE (ER λc c c c=>d4 (dr (dn (db _) (dn (db _) (dn (db _) (dn (jh sc _) (dn (ET _ t _) (dn (kh _ _) (dn (ih _ _) (db _)))))))))))
 (λc c t c bZ ih jh kh sc=>cE (OW λc c c c c=>d5 (dr (dn (db _) (dn (db _) (dn (db _) (dn (db _) (dn (kh sc _) (dn (ET _ t _) (dn (ih _ _) (dn (jh _ _) (db _))))))))))))
 (λc a ih sc=>cE (Bz λc c=>ir λc=>iK "len" (d3 (dr (dn (db _) (dn (db _) (dn (ih sc _) (pl _))))))))
 (λc ih sc=>cE (ES λc=>lc λc=>lc λc c=>d4 (dr (ih sc _))))
 (λc ih sc=>cE (Bz λc v=>ir λc=>iK "list" (by revert v;exact Bz λc c=>ir λc=>iK "range" (d5 (dr (dn (db _) (dn (db _) (dn (ih sc _) (pl _)))))))))
 (λi c ih sc=>cE (oO λc c=>ir λc c=>d4 (dr (dn (db _) (dn (ih sc _) (xD _))))))
 (λf c ih sc=>cE (oO λc c=>ir λc c=>d4 (dr (dn (db _) (dn (db _) (dn (ih sc _) (xD _)))))))
 (λf c ih sc=>cE (oO λc c=>ir λc c=>d4 (dr (dn (db _) (dn (db _) (dn (ih sc _) (xD _)))))))
 (λc a c ih jh sc=>cE (oO λc c=>oP λc c c=>d5 (dr (dn (db _) (dn (ih sc _) (dn (jh sc _) (dn (db _) (dn (db _) (dn (nb _) (xD _))))))))))
 (λf c ih sc=>cE (oO λc c=>ir λc=>iK f.si (d3 (dr (dn (db _) (dn (ih sc _) (xD _)))))))
 (λf c c ih jh sc=>cE (oO λc c=>oP λc c=>iK f.si (d4 (dr (dn (ih sc _) (dn (jh sc _) (dn (db _) (dn (db _) (dn (nb _) (xD _))))))))))
 (λc ih sc=>al (cT λc=>dl (dx (dr (dn (ih sc _) (tv _))))) (al (EO λc=>di (dl (dx (dr (dn (ih sc _) (db _)))))) (cE (OX λc c=>di (di (d2 (dr (ih sc _))))))))
 (λc ih sc=>EO (Bz λc c=>ir λc=>iK "enumerate" (d3 (dr (dn (db _) (dn (ih sc _) (pl _)))))))
 (λc ih sc=>EO (oO λc vs f=>by revert vs;refine l0 ?_;revert f;exact oP λc c=>iK "items" (d3 (dr (dn (db _) (dn (ih sc _) (nb _)))))))
 (λc ih sc=>EO (Bz λc c=>ir λc=>iK "range" (d3 (dr (dn (db _) (dn (ih sc _) (pl _)))))))
 (λc=>cS λc=>dx mX)
 (λc ih sc=>cS (O0 λc c=>d2 (dr (dn (ih sc _) (sw _)))))
 (λc=>cS (Ym λc=>dx mX))
 (λc=>cS (Yn λc=>dx mX))
 (λc=>cS (Yo λc=>dx mX))
 (λc ih sc=>cS (OY λc c=>d2 (dr (ih sc _))))
 (λt c ih sc=>cS (ui λc v c=>d3 (dr (dn (ET sc t _) (dn (ih sc _) (Tg.rec (motive:=λt=>DP (Tg.rec (λc=>SW v) (λc=>ST v) t:Prop)) (λc=>sw _) (λc=>st _) t))))))
 (λi c ih sc=>cS (ui λc v=>ir λc c=>by revert v;exact ER λc c c c=>d5 (d2 (dr (dn (db _) (dn (db _) (ih sc _)))))))
 (λc a c ih jh sc=>cS (ui λc c=>oP λc c c=>d5 (dr (dn (db _) (dn (ih sc _) (dn (jh sc _) (sa _)))))))
 (λc c c ih jh kh sc=>cS (ui λc c=>q8 λc c c=>d5 (dr (dn (ih sc _) (dn (jh sc _) (dn (kh sc _) (sa _)))))))
 (λi o c ih sc=>cS (OZ o λc c=>ir λc c=>d4 (dr (dn (db _) (dn (db _) (ih sc _))))))
 (λc a b c ih jh sc=>cS (OZ b λc c=>oP λc c c=>d5 (dr (dn (db _) (dn (ih sc _) (jh sc _))))))
 (λc c c ih jh kh sc=>cS (Yl λc c c c=>d4 (dr (dn (ih sc _) (dn (jh sc _) (kh sc _))))))
 (λc c c ih jh kh sc=>cS (Yk λc c c c=>d4 (dr (dn (ih sc _) (dn (jh sc _) (kh sc _))))))
 (λt c c c ih jh kh sc=>cS (Yj λc c c c c=>d5 (dr (dn (ET sc t _) (dn (ih sc _) (dn (jh sc _) (kh sc _)))))))
 (λc ih sc=>cS (Il λc c=>lc λc c=>d4 (dr (ih sc _))))
 (λc c c c ih jh kh lh sc=>cS (Il λc b=>l1 (hX λc bd=>ir λc=>iK "KeyError" (by revert bd;refine l1 (ui λc v=>q8 λc c c=>?_);revert v;refine zh λc=>l1 λc=>?_;revert b;exact l1 (O0 λc c=>d5 (d5 (dx (dr (dn (db _) (dn (ih sc _) (dn (jh sc _) (dn (kh sc _) (dn (lh sc _) (pl _))))))))))))))
 (λc a c ih jh sc=>cS (Il λc b=>l1 (hX λc bd=>zq λc c=>lc λn=>l1 (ir λc=>iK "KeyError" (by revert n;refine ir λc=>iK "IndexError" ?_;revert bd;refine l1 (ui λc v=>oP λc c c=>?_);revert v;refine zh λc=>l0 ?_;revert b;exact l1 (ui λc c=>oP λc c c=>d5 (d5 (d5 (dx (dr (dn (db _) (dn (db _) (dn (db _) (dn (db _) (dn (ih sc _) (dn (jh sc _) (ih sc _))))))))))))))))) a
abbrev ba:QE:=λa a=>False
structure St(F:Fm)(A:oG)(n:Nat)(W:Wd)(K:AS)(s:bK):Prop where
 aD:lO F A n
 aC:aW F W K s
def WE(n:Nat)(e:Sx)(Q:QV)(K:AS):Prop:=∀F A W s q,St F A n W K s->Ck e F.b (.e q)->wpAny Md A (eval q F.bB) (fL F W K.h Q) ba s
def WT(n:Nat)(e:Sx)(Q:Bool->QA)(K:AS):Prop:=∀F A W s q,St F A n W K s->Ck e F.b (.t q)->wpAny Md A (HC q F.bB (eval q F.bB)) (Ia F W K.h Q) ba s
def WL(n:Nat)(e:Sx)(Q:Vs->QA)(K:AS):Prop:=∀F A W s q pos,St F A n W K s->Ck e F.b (.es q)->wpAny Md A (NX (t8 pos (qP q F.bB))) (Yg F W K.h Q) ba s
def RE(K:AS)(e:Sx)(x:V):Prop:=∀n Q,Q x K->WE n e Q K
def RT(K:AS)(e:Sx)(b:Bool):Prop:=∀n Q,Q b K->WT n e Q K
def RL(K:AS)(e:Sx)(xs:Vs):Prop:=∀n Q,Q xs K->WL n e Q K
def R1(K:AS)(f:aN->gD aN)(x y:V):Prop:=∀F A n W s v,St F A n W K s->VR W (aX K.h) v x->wpAny Md A (f v) (RV W K s y) ba s
def R2(K:AS)(f:aN->aN->gD aN)(x y z:V):Prop:=∀F A n W s v u,St F A n W K s->VR W (aX K.h) v x->VR W (aX K.h) u y->wpAny Md A (f v u) (RV W K s z) ba s
def O2(K:AS)(f:aN->aN->gD aN)(x y:V)(Q:QV):Prop:=∀F A n W s v u,St F A n W K s->VR W (aX K.h) v x->VR W (aX K.h) u y->wpAny Md A (f v u) (fL F W K.h Q) ba s
variable{y z:V} {a b es:Sx}
theorem bX.no{p:Prop}{x y:bX}(e:x=y)(h:cQ x.ctorIdx y.ctorIdx=Z):p:=by rw[e,xa]at h;exact cw h
theorem f6{q q':bU}{env:jf}{R:QE}(e:bX.e q=.e q')(w:wpAny Md A (eval q' env) R ba s):wpAny Md A (eval q env) R ba s:=by cases e;exact w
theorem BA{q q':bU}{env:jf}{R:Bool->bK->Prop}(e:bX.t q=.t q')(w:wpAny Md A (HC q' env (eval q' env)) R ba s):wpAny Md A (HC q env (eval q env)) R ba s:=by cases e;exact w
def Cl{γ:Type}(F:Fm)(X:Wd->Hp->γ->bK->Prop):Prop:=∀W h a5 h₁ a s,Ext F.bT W h a5 h₁->X a5 h₁ a s->X W h a s
theorem O1{γ δ:Type}{rel:Wd->(Loc->Prop)->γ->δ->Prop}{P:δ->QA}:Cl F λW h=>PG rel F W h P:=λa a a a a a e p=>p.cO e
theorem zt{γ:Type}{rel:Wd->(Loc->Prop)->α->β->Prop}{X:Wd->Hp->γ->bK->Prop}{ab:gD α}{f:α->gD γ}{P:β->QA}(cl:Cl F X)(T:St F A n W K s)(w:wpAny Md A ab (PG rel F W K.h P) ba s)
 (k:∀v a8 a5 aS x,St F A n a5 aS a8->Tu W a5 (aX K.h) (aX aS.h)->rel a5 (aX aS.h) v x->P x aS->wpAny Md A (f v) (X a5 aS.h) ba a8):wpAny Md A ab (λv a8=>wpAny Md A (f v) (X W K.h) ba a8) ba s:=
 wm w λv a8 p=>p.cA λa5 aS x r e vr q=>wm (k v a8 a5 aS x ⟨T.aD,r⟩ (e.tu T.aC.aC.aC T.aC.nx) vr q) λa a p=>cl _ _ _ _ _ _ e p
theorem zu{γ δ:Type}{rel:Wd->(Loc->Prop)->α->β->Prop}{O4:Wd->(Loc->Prop)->γ->δ->Prop}{ab:gD α}{f:α->gD γ}{P:β->QA}{P':δ->QA}(T:St F A n W K s)(w:wpAny Md A ab (PG rel F W K.h P) ba s)
 (k:∀v a8 a5 aS x,St F A n a5 aS a8->Tu W a5 (aX K.h) (aX aS.h)->rel a5 (aX aS.h) v x->P x aS->wpAny Md A (f v) (PG O4 F a5 aS.h P') ba a8):wpAny Md A ab (λv a8=>wpAny Md A (f v) (PG O4 F W K.h P') ba a8) ba s:=zt O1 T w k
theorem BC{ab:gD aN}(T:St F A n W K s)(w:wpAny Md A ab (RV W K s x) ba s)(q:Q x K):wpAny Md A ab (fL F W K.h Q) ba s:=wm w λa a r=>T.aC.OG r q
theorem St.ku{v:aN}(T:St F A n W K s)(tk:Nat)(h:VR W (aX K.h) v x)(q:Q x K):fL F W K.h Q v {s with toks:=tk}:=T.aC.OG ⟨⟨tk,Y⟩,h⟩ q
theorem vG:RE K .cN .n:=λn Q h F A W s q T c=>c.elim λk c=>c.elim λp c=>f6 c (ajN (T.ku (x:=.n) s.toks Y h))
theorem mY{b:Bool}:RE K (.cB b) (.o b):=λn Q h F A W s q T c=>c.elim λk c=>c.elim λp c=>f6 c (wpAny_Constant_bool (T.ku (x:=.o b) s.toks Y h))
theorem bW{i:Int}:RE K (.cI i) (.i i):=λn Q h F A W s q T c=>c.elim λk c=>c.elim λp c=>f6 c (wpAny_Constant_int (T.ku (x:=.i i) _ ⟨_,Y⟩ h))
theorem du{x:aP}:RE K (.cS x) (.s x):=λn Q h F A W s q T c=>c.elim λk c=>c.elim λp c=>f6 c.1 (ajV (T.ku (x:=.s x) _ ⟨_,Y,c.2⟩ h))
theorem aW.O6(R:aW F W K s){a:aY}{o:bh}(c:(a,o)∈W.n\/F.g.X.lookup a=M o):s.heap.get? a=M o:=c.elim (λm=>(R.aC.aD _ m).1) λe=>R.fr.keep _ _ (R.aC.aT _ _ e)
theorem EU{sc:dY}{i:Nat}{y:aP}(h:isVar sc i y=O):cx sc i=y/\(y=="__debug__")=Z/\(y=="__classdict__")=Z:=
 have h:=dH.mp h;have k:=dH.mp (dH.mp h.2).2
 ⟨bq h.1,beq_eq_false_iff_ne.mpr (bne_iff_ne.mp k.1),beq_eq_false_iff_ne.mpr (bne_iff_ne.mp k.2)⟩
theorem O7{i:Nat}{y:aP}{R:QE}(kd:F.b.kind=.function)(r:aW F W K s)(iv:isVar F.b i y=O)(hm:K.m i=M x)(h:∀v,VR W (aX K.h) v x->R v s):wpAny Md A (loadName F.bB y) R ba s:=by
 obtain⟨rfl,iv⟩:=EU iv;have v:=r.lo i x hm
 have P:=h _ v.choose_spec.2;exact v.choose_spec.1.elim (λk=>wpAny_loadName_local kd k.1 r.fr.ns k.2 P) λk=>k.2.elim λa d=>d.elim λo d=>k.1.elim (λk=>wpAny_loadName_cell kd k d.1 ⟨o,r.O6 d.2.1,d.2.2⟩ P) λk=>wpAny_loadName_free kd k d.1 ⟨o,r.O6 d.2.1,d.2.2⟩ P iv.2
theorem Ip{i:Nat}{y:aP}{R:QE}(T:St F A n W K s)(iv:isVar F.b i y=O)(hm:K.m i=M x)(h:∀v,VR W (aX K.h) v x->R v s):wpAny Md A (loadName F.bB y) R ba s:=O7 T.aD.aD T.aC iv hm h
theorem aE{i:Nat}(hm:K.m i=M x):RE K (.v i) x:=λn Q h F A W s q T c=>c.elim λy c=>c.elim λp c=>f6 c.1<|Xr (Ip T c.2 hm λv vx=>⟨W,K,x,T.aC,Ext.lM,vx,h⟩) (EU c.2).2.1
theorem Iq{sc:dY}{x:aP}(g:j4 sc x=O):sc.names.lookup x=M .globalImplicit/\(x==("__debug__":aP))=Z:=
 have g:=dH.mp g
 ⟨bq g.1,beq_eq_false_iff_ne.mpr (bne_iff_ne.mp (dH.mp g.2).1)⟩
theorem BE(T:St F A n W K s){x:aP}{pos:gr}{v:aN}{R:QE}(g:j4 F.b x=O)(e:nsIn ai mj x=M (M v))(q:R v s):wpAny Md A (eval (.Name x pos) F.bB) R ba s:=
 have g:=Iq g
 T.aD.aG.elim λp t=>t.elim λloose t=>t.elim λmg t=>t.elim λmb t=>Wo T.aD.aD g.1 (loadGlobal_global (env:=F.bB) (t.g.keeps T.aC.fr.keep) (mg_of T.aC.aC.aG t.g e) q) g.2
theorem zy(T:St F A n W K s){x:aP}{pos:gr}{v:aN}{R:QE}(g:j4 F.b x=O)(e:nsIn ai mj x=M U)(hv:Eh x=M v)(hn:x≠"__name__")(q:R v s):wpAny Md A (eval (.Name x pos) F.bB) R ba s:=
 have g:=Iq g
 T.aD.aG.elim λp t=>t.elim λloose t=>t.elim λmg t=>t.elim λmb t=>Wo T.aD.aD g.1 (ajY (env:=F.bB) (t.g.keeps T.aC.fr.keep) (mg_none_of T.aC.aC.aG t.g e) (t.b.keeps T.aC.fr.keep) ((t.builtins x hn).trans hv) q) g.2
theorem Yt(P:jw)(ah:jx):nsIn (K0 P++ah) mj "MAXINT"=M (M (.int 9223372036854775807 196)):=by kernel_rfl
noncomputable def Ir:aP:="abcdefghijklmnopqrstuvwxyzABCDEFGHIJKLMNOPQRSTUVWXYZ0123456789_-"
theorem Yu(P:jw)(ah:jx):nsIn (K0 P++ah) mj "_IDENTIFIER"=M (M (.str Ir 224)):=by kernel_rfl
theorem Yv:RE K (.D 0) (.i 9223372036854775807):=λn Q h F A W s q T c=>c.elim λy c=>c.elim λp c=>f6 c.1 (BE T c.2.1 (aj (bu (bq c.2.2):bo "MAXINT"=y) (Yt w0.params Z0)) (T.ku (x:=.i _) s.toks ⟨_,Y⟩ h))
theorem Yw:RE K (.D 1) (.s Ir):=λn Q h F A W s q T c=>c.elim λy c=>c.elim λp c=>f6 c.1 (BE T c.2.1 (aj (bu (bq c.2.2):bo "_IDENTIFIER"=y) (Yu w0.params Z0)) (T.ku (x:=.s _) s.toks ⟨_,Y,by decide+kernel⟩ h))
theorem O8{v:bU}{y:aP}{p:gr}{env:jf}{R:QE}(hc:NB v)(h:wpAny Md A (eval v env) (λo a8=>wpAny Md A (yU o y O) R ba a8) ba s):wpAny Md A (eval (.Attribute v y p) env) R ba s:=
 aK (aj (hc y env (eval v env)).symm (wm h λo a8 h=>aK (se (aK (ij (wm h λr bQ h=>aK (Wn (bg h))))))))
theorem Yx{a:Nat}(h:WE n b (λx aS=>∃y,R1 aS (λo=>yU o (fD a) O) x y/\Q y aS) K):WE n (.a b a) Q K:=λF A W s q T c=>c.elim λv c=>c.elim λy c=>c.elim λp c=>f6 c.1<|O8 c.2.2.2<|
 zu (f:=λo=>yU o y O) T (h F A W s v T c.2.2.1) λo a8 a5 aS x gv d vx q=>q.elim λz q=>BC gv (aj (vp c.2.1) (q.1 F A n a5 a8 o gv vx)) q.2
theorem O9{γ:Type}{X:Wd->Hp->γ->bK->Prop}{l r:bU}{g:aN->aN->gD γ}{P:V->QV}(cl:Cl F X)(T:St F A n W K s)(h:WE n a (λx aS=>WE n b (P x) aS) K)(c1:Ck a F.b (.e l))(c2:Ck b F.b (.e r))
 (k:∀v u bQ cU cf x y,St F A n cU cf bQ->VR cU (aX cf.h) v x->VR cU (aX cf.h) u y->P x y cf->wpAny Md A (g v u) (X cU cf.h) ba bQ):
 wpAny Md A (eval l F.bB) (λv a8=>wpAny Md A (eval r F.bB) (λu bQ=>wpAny Md A (g v u) (X W K.h) ba bQ) ba a8) ba s:=
 wm (h F A W s l T c1) λv a8 p=>p.cA λa5 aS x R e vx q=>wm (zt cl ⟨T.aD,R⟩ (q F A a5 a8 r ⟨T.aD,R⟩ c2) λu bQ cU cf y oQ t vy Yy=>k v u bQ cU cf x y oQ (vx.bN t) vy Yy) λu bQ w=>wm w λc c p=>cl _ _ _ _ _ _ e p
theorem EV{γ δ:Type}{rel:Wd->(Loc->Prop)->γ->δ->Prop}{l r:bU}{g:aN->aN->gD γ}{P:V->QV}{P':δ->QA}(T:St F A n W K s)(h:WE n a (λx aS=>WE n b (P x) aS) K)(c1:Ck a F.b (.e l))(c2:Ck b F.b (.e r))
 (k:∀v u bQ cU cf x y,St F A n cU cf bQ->VR cU (aX cf.h) v x->VR cU (aX cf.h) u y->P x y cf->wpAny Md A (g v u) (PG rel F cU cf.h P') ba bQ):
 wpAny Md A (eval l F.bB) (λv a8=>wpAny Md A (eval r F.bB) (λu bQ=>wpAny Md A (g v u) (PG rel F W K.h P') ba bQ) ba a8) ba s:=O9 O1 T h c1 c2 k
theorem Yz{γ δ:Type}{rel:Wd->(Loc->Prop)->γ->δ->Prop}{l:bU}{g:aN->gD γ}{P':δ->QA}(T:St F A n W K s)(h:RE K a x)(c:Ck a F.b (.e l))(k:∀v a8 a5,St F A n a5 K a8->VR a5 (aX K.h) v x->wpAny Md A (g v) (PG rel F a5 K.h P') ba a8):
 wpAny Md A (eval l F.bB) (λv a8=>wpAny Md A (g v) (PG rel F W K.h P') ba a8) ba s:=
 zu T (h n (λy aZ=>y=x/\aZ=K) ⟨Y,Y⟩ F A W s l T c) λv a8 a5 aS y gv d vy q=>by obtain⟨rfl,rfl⟩:=q;exact k v a8 a5 gv vy
variable{c i:Nat} {e:Sx} {f:Mp} {vs:Vs} {es:Es} {u:aN} {R:QE} {k:Int} {j:Nat}
section
variable{v:aN}
theorem St.cl{k:Nat}(T:St F A n W K s)(h:k<=99):A.units+k<cLine:=bF (jY T.aD.un h) (ao Y)
theorem VR.O'(h:VR W D v x):handedIn v=O:=
 V.casesOn (motive:=λx=>VR W D v x->handedIn v=O) x (λh=>(h:v=.none)▸Y) (λb h=>(h:v=.bool b)▸Y) (λi h=>(h:∃t,v=.int i t).elim λt h=>h▸Y) (λs h=>(h:∃t,v=.str s t/\kH s=O).elim λt h=>h.1▸Y)
  (λl h=>(h:v=.ref (W.ρ l)/\D l).1▸Y) (λa h=>(h:v=.ref a)▸Y) (λh=>b5 (h:oK W (·=[]) v) λa h=>h.elim λc h=>h.1▸Y) (λx y h=>b5 (h:oK W (λvs=>iJ W D vs (.fk x y)) v) λa h=>h.elim λc h=>h.1▸Y) h
def aW.uj(R:aW F W K s)(hl:K.h l=M (.i c f)):List dJ:=(R.aC.aC.aC l _ hl).2.2.choose
def aW.Iu(R:aW F W K s)(hl:K.h l=M (.i c f)):Nat:=(R.aC.aC.aC l _ hl).2.2.choose_spec.choose
theorem aW.Iv(R:aW F W K s)(hl:K.h l=M (.i c f)):(W.δ l,fV (R.uj hl) (R.Iu hl))∈W.n:=(R.aC.aC.aC l _ hl).2.2.choose_spec.choose_spec.1
theorem aW.YA(R:aW F W K s)(hl:K.h l=M (.i c f)):∃L:Nl,L.Nodup/\(∀i∈L,f i≠U/\i∈iW 64)/\(R.uj hl).length<=L.length:=(R.aC.aC.aC l _ hl).2.2.choose_spec.choose_spec.2.1
theorem aW.xE(R:aW F W K s)(hl:K.h l=M (.i c f))(i:Nat):oM W (aX K.h) (R.uj hl) i (f i):=(R.aC.aC.aC l _ hl).2.2.choose_spec.choose_spec.2.2 i
theorem aW.xF(R:aW F W K s)(hl:K.h l=M (.i c f)):InstAt s.heap (W.ρ l) (Bg (dZ c) (W.δ l)) (dZ c) (M (fV (R.uj hl) (R.Iu hl))):=InstAt.of_news R.aC.aD (R.aC.aC.aC l _ hl).2.1 (R.Iv hl)
theorem EW{a:Nat}{ex:Bool}(hl:K.h l=M (.i c f))(d:kq c a=O)(hf:f a=M y):R1 K (λo=>yU o (fD a) ex) (.e l) y:=λF A n W s v T vx=>
 have k:=EC d;have g:oM W (aX K.h) (T.aC.uj hl) a (M y):=aj hf (T.aC.xE hl a)
 b5 g λu g=>b5 k.2.2.2.1 λw q=>ak vx.1 (get_own T.aC.fr T.aC.aC.aG (T.aC.xF hl) k.1 k.2.1 q.1 q.2.1 g.1 g.2.O' ⟨⟨_,Y⟩,g.2⟩)
theorem Pa{a:Nat}{ex:Bool}{i:Int}(hl:K.h l=M (.i c f))(d:kq c a=O)(hf:f a=U)(hd:HM c a=M i):R1 K (λo=>yU o (fD a) ex) (.e l) (.i i):=λF A n W s v T vx=>
 have k:=EC d;have g:oM W (aX K.h) (T.aC.uj hl) a U:=aj hf (T.aC.xE hl a)
 b5 k.2.2.2.1 λw q=>(q.2.2 i hd).elim λt q'=>ak vx.1 (get_cls T.aC.fr T.aC.aC.aG (T.aC.xF hl) k.1 k.2.1 (aj q'.1 q.1) q'.2 Y k.2.2.1 g ⟨⟨_,Y⟩,⟨t,Y⟩⟩)
theorem Pb{a:Nat}(hb:RE K b x)(g:R1 K (λo=>yU o (fD a) O) x y):RE K (.a b a) y:=λn Q q=>Yx (hb n _ ⟨y,g,q⟩)
theorem ra{a:Nat}(hb:RE K b (.e l))(hl:K.h l=M (.i c f))(d:kq c a=O)(hf:f a=M y):RE K (.a b a) y:=Pb hb (EW hl d hf)
def Slot(s:bK)(v:aN):Prop:=∃T id,s.TypeIs v T/\typeLookup (.type T) "__getitem__"=pure (M (.builtin id))
def I2(K:AS)(x y z:V):Prop:=∀F A n W s v u,St F A n W K s->VR W (aX K.h) v x->VR W (aX K.h) u y->Slot s v/\wpAny Md A (xf v u) (RV W K s z) ba s
theorem Iw{o p:bU}(hp:Pl p)(hs:Slot s v)(h:wpAny Md A (xf v u) R E s):wpAny Md A (yS o p v u) R E s:=hs.elim λT k=>k.elim λid k=>by
 have fin:wpAny Md A (Xo p Z v u) (λr dy=>wpAny Md A (akq o v r>>=λa=>pure r) R E dy) E s:=
  ak (hp.2 v u) (akg (wm h λr dy h=>aK (Wn (bg h))))
 unfold yS;rw[ajy k.1.not_modules];exact aK (aK (A2 k.1 k.2 (bg (aK fin))))
theorem YB(h:WE n a (λx aS=>WE n e (λy cf=>∃z,I2 cf x y z/\Q z cf) aS) K):WE n (.u a e) Q K:=λF A W s q T c=>c.elim λo c=>c.elim λp c=>c.elim λpos c=>f6 c.1<|A8<|
 EV (g:=λv u=>yS o p v u) T h c.2.1 c.2.2.1 λv u bQ cU cf x y oQ vx vy q=>q.elim λz q=>have w:=q.1 F A n cU bQ v u oQ vx vy;Iw c.2.2.2 w.1 (BC oQ w.2 q.2)
theorem dU(ha:RE K a x)(he:RE K e y)(g:I2 K x y z):RE K (.u a e) z:=λn Q q=>YB (ha n _ (he n _ ⟨z,g,q⟩))
theorem EX(h:j<n):yT (j:Int) n=M j:=by
 have e:¬(j:Int)<0:=vm.mpr (jH j);have q:(decide (0<=(j:Int))&&decide ((j:Int)<n))=O:=dH.mpr ⟨az (jH j),az (mV.mpr h)⟩
 unfold yT;rw[av e,aw q]
 rfl
theorem fits_of(T:St F A n W K s){m:Nat}(h:m<=33554432)(hj:j<m):(j:Int)<2^63:=Nb (mV.mpr (gc hj h)) (ao Y)
theorem Pc(hl:K.h l=M (.l vs))(hy:vs[j]?=M z):I2 K (.e l) (.i j) z:=λF A n W s v u T vx vy=>vx.1▸b5 vy λt e=>e▸
 ⟨⟨"list",_,⟨_,T.aC.fE hl,Y⟩,WQ.lookup⟩,((T.aC.hM hl).lI hy).elim λw g=>wpAny_getItem_list (T.aC.n4 hl) (jH j) (fits_of T (T.aC.ug hl) (cV.mp hy).1) (by rw[Wu,<-tU];exact g.1) ⟨⟨s.toks,Y⟩,g.2⟩⟩
theorem YC(h:i<n):(akm i+(n:Int)).toNat=n-(i+1):=aq Int.toNat (Int.subNatNat_of_le h)
theorem YD(hl:K.h l=M (.l vs))(hi:i<vs.length)(hy:vs[vs.length-(i+1)]?=M z):I2 K (.e l) (.i (akm i)) z:=λF A n W s v u T vx vy=>vx.1▸b5 vy λt e=>e▸
 have ln:=T.aC.lP hl;have lt:i+1<=9223372036854775808:=aL hi (aL (T.aC.ug hl) (ao Y))
 ⟨⟨"list",_,⟨_,T.aC.fE hl,Y⟩,WQ.lookup⟩,((T.aC.hM hl).lI hy).elim λw g=>wpAny_getItem_list_neg (T.aC.n4 hl) (Int.negSucc_lt_zero i) (aj0 (qc.mpr (ak ln hi)):-((T.aC.a7 hl).size:Int)<=-((i+1:Nat):Int)) (aj0 (qc.mpr lt):-((9223372036854775808:Nat):Int)<=-((i+1:Nat):Int)) (by rw[ln,YC hi,<-tU];exact g.1) ⟨⟨s.toks,Y⟩,g.2⟩⟩
theorem EY(hy:vs[j]?=M z):I2 K (V.bP vs) (.i j) z:=λF A n W s v u T vx vy=>b5 (VR.kJ.mp vx) λa q=>q.elim λa7 q=>q.1▸b5 vy λt e=>e▸
 have g:=T.aC.th a a7 q.2.1;have hj:=(cV.mp hy).1
 have ln:=q.2.2.gU
 ⟨⟨"tuple",_,⟨_,g,Y⟩,GU.lookup⟩,(q.2.2.lI hy).elim λw r=>air (items:=a7.toArray) ⟨_,g,Y,0,Y⟩ (Ho (ao Y) (jH j)) (fits_of T q.2.1.2 (ak ln hj)) (EX (by rw[wV,ln];exact hj)) (by rw[uY];exact r.1) ⟨⟨s.toks,Y⟩,r.2⟩⟩
theorem fG(hl:K.h l=M (.d es))(ky:y.cn 7=O)(hy:bM es y=M z):I2 K (.e l) y z:=λF A n W s v u T vx vy=>by
 obtain⟨rfl,_⟩:=vx;have hT:s.TypeIs (.ref (W.ρ l)) "dict":=⟨_,T.aC.dg hl,Y⟩
 refine⟨⟨"dict",_,hT,D7.lookup⟩,?_⟩;unfold xf;refine ij (aK (He hT (ao Y) ?_));refine aK (wQ (name:=bo "__getitem__") hT D7 (mT D7 hT ajX ?_ (aj8 _ _)));refine aK (m:=Bf (W.ρ l) u) (Bp T.aC.th (T.aC.dg hl) (T.aC.lQ hl) (T.aC.qh hl) vy ky (T.cl (k:=9) (ao Y)) (λe=>cK (e.symm.trans hy)) λv y' e hv tk=>?_);exact bg ⟨v,Y,bg ⟨⟨tk,Y⟩,aj (bu (e.symm.trans hy)) hv⟩⟩
end
variable{t es:Sx} {l':Loc} {ws:Vs} {m:Nat}
section
variable{v:aN} {o:Be}
theorem qj(h:WE n a (λx aS=>WE n b (λy cf=>O2 cf (pB o) x y Q) aS) K):WE n (.b o a b) Q K:=λF A W s q T c=>c.elim λl c=>c.elim λr c=>c.elim λp c=>f6 c.1<|wpAny_BinOp<|
 EV (g:=pB o) T h c.2.1 c.2.2 λv u bQ cU cf x y oQ vx vy q=>q F A n cU bQ v u oQ vx vy
theorem jC(ha:RE K a x)(hb:RE K b y)(g:R2 K (pB o) x y z):RE K (.b o a b) z:=λn Q q=>qj (ha n _ (hb n _ λF A n W s v u T vx vy=>BC T (g F A n W s v u T vx vy) q))
theorem RV.EZ{tk:Nat}{t:nX}:RV W K s (.i k) (.int k t) {s with toks:=tk}:=⟨⟨tk,Y⟩,⟨t,Y⟩⟩
theorem qk{i j:Int}:R2 K (pB .Add) (.i i) (.i j) (.i (i+j)):=λF A n W s v u T vx vy=>b5 vx λt e=>b5 vy λt' e'=>ak e (e'▸alD RV.EZ)
theorem vH{i j:Int}:R2 K (pB .Sub) (.i i) (.i j) (.i (i-j)):=λF A n W s v u T vx vy=>b5 vx λt e=>b5 vy λt' e'=>ak e (e'▸aln RV.EZ)
theorem Iy{i j:Int}(h:j≠0):R2 K (pB .Mod) (.i i) (.i j) (.i (i.fmod j)):=λF A n W s v u T vx vy=>b5 vx λt e=>b5 vy λt' e'=>ak e (e'▸alq h RV.EZ)
theorem YE{i j:Int}(h:j≠0)(hj:j.natAbs<1073741824):R2 K (pB .FloorDiv) (.i i) (.i j) (.i (i.fdiv j)):=λF A n W s v u T vx vy=>b5 vx λt e=>b5 vy λt' e'=>ak e (e'▸alB h RV.EZ (.inl (PyProof.noPylong_small hj)))
theorem Pe{a b:aP}(ha:kH a=O)(hb:kH b=O):kH (a++b)=O:=by have e:(a++b).cps=a.cps++b.cps:=Y;unfold kH at*;rw[e,Array.all_append,ha,hb];rfl
theorem YF{p q:aP}(h:p.length+q.length<=16777216):R2 K (pB .Add) (.s p) (.s q) (.s (p++q)):=λF A n W s v u T vx vy=>b5 vx λt e=>b5 vy λt' e'=>ak e.1 (e'.1▸alC (λt' tk=>⟨⟨tk,Y⟩,⟨t',Y,Pe e.2 e'.2⟩⟩) (aj kg.symm h))
noncomputable def Pf:aP:="%s -> <empty>"
noncomputable def E0:aP:=" -> <empty>"
theorem YG{q:aP}(h:q.length<=1000000):R2 K (pB .Mod) (.s Pf) (.s q) (.s (q++E0)):=λF A n W s v u T vx vy=>b5 vx λt e=>b5 vy λt' e'=>e.1▸e'.1▸by
 have r:∀t' k,RV W K s (.s (q++E0)) (.str (q++E0) t') {s with toks:=k}:=λt' k=>⟨⟨k,Y⟩,⟨t',Y,Pe e'.2 (by decide+kernel)⟩⟩
 unfold Pf E0 at*
 refine' KPc.mod_str (T:=λz=>z++bo " -> <empty>") ?kpcF h ?kpcm r
 case kpcF=>kpc_eq
 case kpcm=>k_dflt kpc_run_s
theorem q9(ha:RE K a (.i k)):RE K (.q a) (.i (-k)):=λn Q q F A W s r T c=>c.elim λv c=>c.elim λp c=>f6 c.1<|wpAny_UnaryOp<|
 Yz (g:=unaryOp .USub) T ha c.2 λo a8 a5 gv vx=>b5 vx λt e=>ak e (alp (gv.ku (x:=.i _) _ ⟨_,Y⟩ q))
end
variable{P:Bool->QA} {p q:Bool}
section
variable{ds:Es} {v:aN} {o:CmpOp}
theorem RV.mC{r:Bool}{tk:Nat}:RV W K s (.o r) (.bool r) {s with toks:=tk}:=⟨⟨tk,Y⟩,Y⟩
theorem E3(h:WE n a (λx aS=>WE n b (λy cf=>∃r,R2 cf (mn o) x y (.o r)/\Q (.o r) cf) aS) K):WE n (.m o a b) Q K:=λF A W s w T c=>c.elim λl c=>c.elim λr c=>c.elim λp c=>c.1.elim (λe=>f6 e<|wpAny_Compare1
 (EV (g:=mn o) T h c.2.1 c.2.2.1 λv u bQ cU cf x y oQ vx vy q=>q.elim λr q=>BC oQ (q.1 F A n cU bQ v u oQ vx vy) q.2) c.2.2.2) λe=>bX.no e Y
theorem uk(h:WE n a (λx aS=>WE n b (λy cf=>∃r,R2 cf (mn o) x y (.o r)/\P r cf) aS) K):WT n (.m o a b) P K:=λF A W s w T c=>c.elim λl c=>c.elim λr c=>c.elim λp c=>c.1.elim (λe=>bX.no e Y) λe=>BA e<|ajw
 (wm (EV (rel:=λd d v b=>v=.bool b) (P':=P) (g:=mn o) T h c.2.1 c.2.2.1 λv u bQ cU cf x y oQ vx vy q=>q.elim λr q=>wm (q.1 F A n cU bQ v u oQ vx vy) λv dy w=>w.1.elim λtk e=>⟨cU,cf,r,e▸oQ.aC.qg tk,Ext.lM,w.2,q.2⟩)
  λv a8 w=>wm w λu bQ w=>wm w λv dy w=>w.cA λW' aZ x r e q k=>q▸A0 ⟨W',aZ,x,r,e,Y,k⟩) c.2.2.2
theorem Pg(ha:RE K a x)(hb:RE K b y)(g:R2 K (mn o) x y (.o p)):RE K (.m o a b) (.o p):=λn Q q=>E3 (ha n _ (hb n _ ⟨p,g,q⟩))
theorem fu(ha:RE K a x)(hb:RE K b y)(g:R2 K (mn o) x y (.o p)):RT K (.m o a b) p:=λn Q q=>uk (ha n _ (hb n _ ⟨p,g,q⟩))
theorem BF{i j:Int}:R2 K (mn .Lt) (.i i) (.i j) (.o (decide (i<j))):=λF A n W s v u T vx vy=>b5 vx λt e=>b5 vy λt' e'=>ak e (e'▸alr RV.mC)
theorem Ph{i j:Int}:R2 K (mn .Gt) (.i i) (.i j) (.o (decide (j<i))):=λF A n W s v u T vx vy=>b5 vx λt e=>b5 vy λt' e'=>ak e (e'▸alz RV.mC)
theorem E4{i j:Int}:R2 K (mn .GtE) (.i i) (.i j) (.o (decide (j<=i))):=λF A n W s v u T vx vy=>b5 vx λt e=>b5 vy λt' e'=>ak e (e'▸alA RV.mC)
theorem BG(kx:x.cn 7=O)(ky:y.cn 7=O):qd (fZ x).1 (fZ y).1=decide (x=y):=Nk.mpr ((Oq x kx ky).1.trans decide_eq_true_iff.symm)
theorem Pj(T:St F A n W K s)(kx:x.cn 7=O):A.units+min (W0 (fZ x).1) m<cLine:=bF (eQ (aL (Hi ..) (uf (D:=aX K.h) T.aC.th x 7 kx).1.aD) _) (T.cl (k:=8) (ao Y))
theorem pD(kx:x.cn 7=O)(ky:y.cn 7=O):R2 K (mn .Eq) x y (.o (decide (x=y))):=λF A n W s v u T vx vy=>by obtain⟨⟨as,ra⟩,_,ca⟩:=(uf T.aC.th x 7 kx).1.aC v vx;obtain⟨⟨bs,rb⟩,_,cb⟩:=(uf T.aC.th y 7 ky).1.aC u vy;exact aj (BG kx ky) (aiY ra rb ca cb (Pj T kx) (RV.mC (tk:=s.toks)))
theorem um(kx:x.cn 7=O)(ky:y.cn 7=O):R2 K (mn .NotEq) x y (.o (!decide (x=y))):=λF A n W s v u T vx vy=>by obtain⟨⟨as,ra⟩,_,ca⟩:=(uf T.aC.th x 7 kx).1.aC v vx;obtain⟨⟨bs,rb⟩,_,cb⟩:=(uf T.aC.th y 7 ky).1.aC u vy;exact aj (BG kx ky) (aiX ra rb ca cb (Pj T kx) (RV.mC (tk:=s.toks)))
noncomputable def isin(n:Bool):CmpOp:=if n then .NotIn else .In
theorem in_dict{n:Bool}(hl:K.h l=M (.d ds))(kx:x.cn 7=O):R2 K (mn (isin n)) x (.e l) (.o (n^^(bM ds x).isSome)):=λF A m W s v u T vx vy=>by
 obtain⟨rfl,_⟩:=vy;have c:∀{Q:Bool->bK->Prop},(∀tk,Q (bM ds x).isSome {s with toks:=tk})->wpAny Md A (contains (.ref (W.ρ l)) v) Q ba s:=λh=>by
  have hT:s.TypeIs (.ref (W.ρ l)) "dict":=⟨_,T.aC.dg hl,Y⟩;unfold contains;refine ij (aK (A2 hT Wy.lookup ?_));show wpAny _ _ (if(M (ajO "dict.__contains__")==M ki)=O then _ else _) _ ba s;rw[av (by rw[beq_builtin_none];exact d8)]
  refine aK (wpAny_callSpecialUnlessNone?_slot (name:=bo "__contains__") hT Wy (mT Wy hT entry_dict_contains ?_ (args_dict_contains _ _)));refine aK (m:=Bf (W.ρ l) v) (Bp T.aC.th (T.aC.dg hl) (T.aC.lQ hl) (T.aC.qh hl) vx kx (T.cl (k:=9) (ao Y)) (λe tk=>?_) λv y e a tk=>?_)
  .have e:(bM ds x).isSome=Z:=aq Nq e;show wpAny _ _ (alh (W.ρ l) v>>=_) _ _ _;exact aK (wpAny_pendingKey_other (T.aC.n7 T.aD (T.aC.dm hl)) (bg ⟨_,Y,A0 (aj e (h tk))⟩))
  .have e:(bM ds x).isSome=O:=aq Nq e;exact bg ⟨_,Y,A0 (aj e (h tk))⟩
 cases n
 .exact aK (c λtk=>bg (aj (yP _).symm (RV.mC (tk:=tk))))
 .exact aK (c λtk=>bg (aj (A4 _).symm (RV.mC (tk:=tk))))
theorem in_list{n:Bool}(hl:K.h l=M (.l vs))(kv:∀y∈vs,y.cn 7=O)(kx:x.cn 7=O):R2 K (mn (isin n)) x (.e l) (.o (n^^decide (x∈vs))):=λF A m W s v u T vx vy=>by
 obtain⟨rfl,_⟩:=vy;have al:=T.aC.hM hl
 have he:∀w,w∈T.aC.a7 hl->NA A.in1 s w v (decide (VR W (aX K.h) w x)):=λw hw=>(al.Of (ai8.mpr hw)).elim λy h=>
  aj (decide_eq_decide.mpr ⟨λe=>aj e h.2,λr=>VR.kr T.aC.th h.2 r (kv y h.1) kx⟩:decide (y=x)=_) (HZ T.aC.th h.2 vx (kv y h.1) kx (T.cl (k:=9) (ao Y)))
 have ha:(T.aC.a7 hl).any (λw=>decide (VR W (aX K.h) w x))=decide (x∈vs):=by
  rw[<-ajv];refine Nk.mpr (ajC.trans ⟨λh=>az ?_,λh=>?_⟩)
  .exact h.elim λw h=>(al.Of h.1).elim λy q=>aj (VR.kr T.aC.th q.2 (aB h.2) (kv y q.1) kx) q.1
  .exact(kE (aB h)).elim λi q=>(al.lI q).elim λw r=>⟨w,bE r.1,az r.2⟩
 cases n
 .exact SeqAt.in_listAt _ (T.aC.n4 hl) he (aj ha (aj (yP _).symm (RV.mC (tk:=s.toks))))
 .exact SeqAt.notIn_listAt _ (T.aC.n4 hl) he (aj ha (aj (A4 _).symm (RV.mC (tk:=s.toks))))
noncomputable def zA(y x:aP):Bool:=!(alJ x y 0 x.length 1).isEmpty
theorem in_str{n:Bool}{p q:aP}:R2 K (mn (isin n)) (.s p) (.s q) (.o (n^^zA p q)):=λF A m W s v u T vx vy=>b5 vx λt e=>b5 vy λt' e'=>e.1▸e'.1▸by
 cases n
 .exact alx (aj (yP _).symm (RV.mC (tk:=s.toks)))
 .exact alo (aj (A4 _).symm (RV.mC (tk:=s.toks)))
theorem bL.Pm{R:α->β->Prop}{as:Array α}{bs:List β}(h:bL R as.toList bs):(as.size !=0)=!bs.isEmpty:=by rw[<-M9,h.gU];cases bs<;>rfl
def Tr(K:AS)(x:V)(b:Bool):Prop:=∀F A n W s v,St F A n W K s->VR W (aX K.h) v x->wpAny Md A (Eu v) (λr s'=>(∃tk,s'={s with toks:=tk})/\r=b) ba s
theorem rd:Tr K .n Z:=λF A n W s v T vx=>ak (vx:v=.none) λa a a=>⟨⟨s.toks,Y⟩,Y⟩
theorem mE:Tr K (.o p) p:=λF A n W s v T vx=>ak (vx:v=.bool p) (A0 ⟨⟨s.toks,Y⟩,Y⟩)
theorem rh(hl:K.h l=M (.l vs)):Tr K (.e l) (!vs.isEmpty):=λF A n W s v T vx=>ak vx.1 (wpAny_truthy_list (T.aC.n4 hl) (AW (qc.mpr (ak (T.aC.lP hl) (T.aC.ug hl))) (by decide)) ⟨⟨_,Y⟩,(T.aC.hM hl).Pm⟩)
theorem Po(hl:K.h l=M (.i 2 f)):Tr K (.e l) O:=λF A n W s v T vx=>ak vx.1 (truthy_K0 T.aC.fr T.aC.aC.aG (T.aC.xF hl) (Oe w0.params Z0).1 (Oe w0.params Z0).2 ⟨⟨s.toks,Y⟩,Y⟩)
theorem E9(h:WE n a (λx aS=>∃r,Tr aS x r/\P r aS) K):WT n (.l a) P K:=λF A W s w T c=>c.elim (λc=>c.elim λv c=>BA c.1<|isTrue_plain
 (zu (f:=Eu) T (h F A W s v T c.2.1) λo a8 a5 aS x gv d vx q=>q.elim λr q=>wm (q.1 F A n a5 a8 o gv vx) λb dy w=>w.1.elim λtk e=>⟨a5,aS,r,ak e (gv.aC.qg tk),Ext.lM,w.2,q.2⟩) (c.2.2 F.bB _)) λc=>c.elim (λc=>c.elim λv c=>bX.no c.1 Y) λc=>c.elim λv c=>c.elim λp c=>bX.no c.1 Y
theorem fc(ha:RE K a x)(g:Tr K x p):RT K (.l a) p:=λn Q q=>E9 (ha n _ ⟨p,g,q⟩)
end
variable{L:Vs->QA} {r:Sx} {xs:Vs} {k:Bool}
section
variable{ds:Es} {v:aN} {sc:dY}
def bX.vJ(x:bX):List bU×List iI:=bX.rec (motive:=λa=>List bU×List iI) (λa=>([],[])) (λl=>(l,[])) (λa=>([],[])) (λl=>(l,[])) (λa=>([],[])) (λa=>([],[])) (λl=>([],l)) (λa a=>([],[])) x
theorem zB{l:List bU}(c:Ck (.c a r) sc (.es l)):∃e q,l=e::q/\Ck a sc (.e e)/\Ck r sc (.es q)/\Pl e:=c.elim (λc=>c.elim λe c=>c.elim λq c=>⟨e,q,aq (λz=>(bX.vJ z).1) c.1,c.2⟩) λc=>c.elim (λc=>c.elim λe c=>c.elim λq c=>bX.no c.1 Y) λc=>c.elim λe c=>c.elim λq c=>bX.no c.1 Y
theorem Pq{l:List bU}(c:Ck (.c a r) sc (.ts l)):∃e q,l=e::q/\Ck a sc (.t e)/\Ck r sc (.ts q):=c.elim (λc=>c.elim λe c=>c.elim λq c=>bX.no c.1 Y) λc=>c.elim (λc=>c.elim λe c=>c.elim λq c=>⟨e,q,aq (λz=>(bX.vJ z).1) c.1,c.2⟩) λc=>c.elim λe c=>c.elim λq c=>bX.no c.1 Y
theorem Pr{l:List iI}(c:Ck (.c a r) sc (.c l)):∃e q,l=e::q/\Ck a sc (.s e)/\Ck r sc (.c q):=c.elim (λc=>c.elim λe c=>c.elim λq c=>bX.no c.1 Y) λc=>c.elim (λc=>c.elim λe c=>c.elim λq c=>bX.no c.1 Y) λc=>c.elim λe c=>c.elim λq c=>⟨e,q,aq (λz=>(bX.vJ z).2) c.1,c.2⟩
theorem Iz{l:List bU}(c:Ck .n sc (.es l)):l=[]:=c.elim (aq λz=>(bX.vJ z).1) λc=>c.elim (aq λz=>(bX.vJ z).1) λc=>c.elim (λc=>bX.no c Y) λc=>bX.no c Y
theorem IA{l:List bU}(c:Ck .n sc (.ts l)):l=[]:=c.elim (aq λz=>(bX.vJ z).1) λc=>c.elim (aq λz=>(bX.vJ z).1) λc=>c.elim (λc=>bX.no c Y) λc=>bX.no c Y
theorem YH{l:List iI}(c:Ck .n sc (.c l)):l=[]:=c.elim (λc=>bX.no c Y) λc=>c.elim (λc=>bX.no c Y) λc=>c.elim (aq λz=>(bX.vJ z).2) λc=>bX.no c Y
theorem St.pg{rel:Wd->(Loc->Prop)->α->β->Prop}{P:β->QA}{v:α}{x:β}(T:St F A n W K s)(h:rel W (aX K.h) v x)(q:P x K):PG rel F W K.h P v s:=⟨W,K,x,T.aC,Ext.lM,h,q⟩
theorem eB(q:L [] K):WL n .n L K:=λF A W s l pos T c=>ak (Iz c) (A3 (T.pg bL.gO q))
theorem eC(h:WE n a (λx aS=>WL n r (λxs cf=>L (x::xs) cf) aS) K):WL n (.c a r) L K:=λF A W s l pos T c=>(zB c).elim λe c=>c.elim λq c=>c.1▸D8
 (wm (h F A W s e T c.2.1) λv a8 p=>p.cA λa5 aS x R fM vx k=>wm (k F A a5 a8 q pos ⟨T.aD,R⟩ c.2.2.1) λvs bQ p=>p.cA λcU cf xs eK eX al k=>⟨cU,cf,x::xs,eK,fM.cO eX,.gE (vx.bN (eX.tu R.aC.aC R.nx)) al,k⟩) (c.2.2.2.1 _ _)
theorem br:RL K .n []:=λn Q q=>eB q
theorem a6(h:RE K a x)(k:RL K r xs):RL K (.c a r) (x::xs):=λn Q q=>eC (h n _ (k n _ q))
theorem xG(h:WL n es (λxs aS=>xs.length<=16777216/\Q (V.bP xs) aS) K):WE n (.d es) Q K:=λF A W s q T c=>c.elim λl c=>c.elim λk c=>c.elim λp c=>f6 c.1<|Tuple_<|
 zu (f:=NT) T (h F A W s l p T c.2) λvs a8 a5 aS xs gv a al q=>Yi gv.aC al q.1 q.2
theorem mF(h:RL K es xs)(z:xs.length<=16777216):RE K (.d es) (V.bP xs):=λn Q q=>xG (h n _ ⟨z,q⟩)
theorem fw(h:WL n es (λxs aS=>xs.length<=16777216/\alloc (.l xs) Q aS) K):WE n (.t es) Q K:=λF A W s q T c=>c.elim λl c=>c.elim λp c=>f6 c.1<|List_<|
 zu (f:=Hy) T (h F A W s l p T c.2) λvs a8 a5 aS xs gv a al q=>EH gv.aC al q.1 q.2
theorem Fa(h:WT n a (λb aS=>P (!b) aS) K):WT n (.o a) P K:=λF A W s q T c=>c.elim λl c=>c.elim λp c=>c.elim (λc=>bX.no c.1 Y) λc=>BA c.1<|wpAny_isTrue_Not<|
 wm (h F A W s l T c.2) λb a8 p=>p.cA λa5 aS x R e v k=>⟨a5,aS,!x,R,e,aq Bool.not v,k⟩
theorem lS(h:RT K a p):RT K (.o a) (!p):=λn Q q=>Fa (h n _ q)
theorem xH(h:x≠.n)(e:(v==ki)=Z):(!(v==ki))=decide (x≠.n):=by rw[e,az h];rfl
theorem YI(h:VR W D v x):(!(v==ki))=decide (x≠.n):=
 V.casesOn (motive:=λx=>VR W D v x->(!(v==ki))=decide (x≠.n)) x (λh=>by rw[show v=.none from h];exact(aA λe=>e Y).symm) (λb h=>xH (nT Y) ((h:v=.bool b)▸Y)) (λi h=>(h:∃t,v=.int i t).elim λt h=>xH (nT Y) (h▸Y)) (λs h=>(h:∃t,v=.str s t/\kH s=O).elim λt h=>xH (nT Y) (h.1▸Y))
  (λl h=>xH (nT Y) ((h:v=.ref (W.ρ l)/\D l).1▸Y)) (λa h=>xH (nT Y) ((h:v=.ref a)▸Y)) (λh=>b5 (h:oK W (·=[]) v) λa h=>h.elim λc h=>xH (nT Y) (h.1▸Y)) (λx y h=>b5 (h:oK W (λvs=>iJ W D vs (.fk x y)) v) λa h=>h.elim λc h=>xH (nT Y) (h.1▸Y)) h
theorem YJ(h:WE n a (λx aS=>P (decide (x≠.n)) aS) K):WT n (.EI a) P K:=λF A W s w T c=>c.elim λl c=>c.elim λk c=>c.elim λp c=>c.elim λp' c=>c.1.elim (λe=>bX.no e Y) λe=>BA e<|ajw
 (wm (h F A W s l T c.2) λv a8 p=>p.cA λa5 aS x R e vx q=>ajN (isNot_none (A0 ⟨a5,aS,_,R,e,YI vx,q⟩))) Y
theorem Ps(h:RE K a x):RT K (.EI a) (decide (x≠.n)):=λn Q q=>YJ (h n _ q)
theorem Fb(h:WT n t (λb aS=>if b then WE n a Q aS else WE n e Q aS) K):WE n (.Bs t a e) Q K:=λF A W s q T c=>c.elim λl c=>c.elim λx c=>c.elim λy c=>c.elim λp c=>f6 c.1<|wpAny_IfExp<|
 wm (h F A W s l T c.2.1) (λb a8 p=>p.cA λa5 aS d R e v k=>by
  subst v;cases b
  .exact jL e (k F A a5 a8 y ⟨T.aD,R⟩ c.2.2.2)
  .exact jL e (k F A a5 a8 x ⟨T.aD,R⟩ c.2.2.1))
noncomputable def BH(k:Bool):BoolOp:=if k then .And else .Or
def WA(n:Nat)(k:Bool)(ts:Sx)(P:Bool->QA)(K:AS):Prop:=∀F A W s q,St F A n W K s->Ck ts F.b (.ts q)->wpAny Md A (allTrue (BH k) q F.bB) (Ia F W K.h P) ba s
theorem ID(q:P k K):WA n k .n P K:=λF A W s l T c=>IA c▸by
 cases k
 .exact wpAny_allTrue_Or_nil (T.pg Y q)
 .exact wpAny_allTrue_And_nil (T.pg Y q)
theorem vK(h:WT n t (λb aS=>if b=k then WA n k r P aS else P (!k) aS) K):WA n k (.c t r) P K:=λF A W s l T c=>(Pq c).elim λe c=>c.elim λq c=>c.1▸by
 have w:=h F A W s e T c.2.1;cases k
 .refine wpAny_allTrue_Or_cons (wm w λb a8 p=>p.cA λa5 aS d R e v k=>?_);subst v;cases b
  .exact jL e (k F A a5 a8 q ⟨T.aD,R⟩ c.2.2)
  .exact⟨a5,aS,O,R,e,Y,k⟩
 .refine wpAny_allTrue_And_cons (wm w λb a8 p=>p.cA λa5 aS d R e v k=>?_);subst v;cases b
  .exact⟨a5,aS,Z,R,e,Y,k⟩
  .exact jL e (k F A a5 a8 q ⟨T.aD,R⟩ c.2.2)
theorem vL(h:WA n k es P K):WT n (.iZ k es) P K:=λF A W s q T c=>c.elim λl c=>c.elim λp c=>c.elim (λc=>bX.no c.1 Y) λc=>BA c.1 (wpAny_isTrue_BoolOp (h F A W s l T c.2))
theorem BJ(h:RT K e p)(q:P p K):WA n k (.c e .n) P K:=vK (h n _ (by
 by_cases w:p=k
 .rw[aw w];exact ID (aj w q)
 .rw[av w,show(!k)=p by revert w;cases p<;>cases k<;>decide];exact q))
theorem xI(h:RT K t (!k))(q:P (!k) K):WA n k (.c t r) P K:=vK (h n _ (by rw[av (by cases k<;>decide)];exact q))
theorem BK(h:RT K t k)(w:WA n k r P K):WA n k (.c t r) P K:=vK (h n _ (by rw[aw Y];exact w))
theorem IF(h:∀n P,P p K->WA n k es P K):RT K (.iZ k es) p:=λn Q q=>vL (h n Q q)
end
def Kp(f:aN)(h:fC):Prop:=∃k,(k=Keeper.frame\/k=Keeper.machine\/k=Keeper.boundFrame)/\Looks Md h (keeperOf f) k
def OL(n:Nat)(f:aN)(xs:Vs)(Q:QV)(K:AS):Prop:=∀F A W s vs,St F A n W K s->bL (VR W (aX K.h)) vs xs->Kp f s.heap/\wpAny Md A (call f vs) (fL F W K.h Q) ba s
def Prim.fn(p:Prim):aN:=Prim.rec (motive:=λa=>aN) (.builtin "len") (.builtin "min") (.builtin "sorted") (.type "list") (.type "tuple") (.builtin "all") (.type "str") (.type "set") .none .none .none .none .none .none .none (λa=>.none) p
variable{f:aN} {p:Prim}
section
variable{v:aN} {sc:dY}
theorem YK{a:List (Bool×gD aN)}{R:Args->bK->Prop}(hp:a.any (·.1)=Z)(h:wpAny Md A (NX a) (λvs s'=>R ⟨vs,[]⟩ s') ba s):wpAny Md A (evalArgs f O a []) R ba s:=by
 cases a with
 |nil=>unfold evalArgs;show wpAny Md A (NX []>>=_) R ba s;exact aK (wm h λvs s' h=>ij (aK (bg (aK (bg (bg h))))))
 |cons p r=>
  obtain⟨b,x⟩:=p;cases b with
  |false=>exact evalArgs_plain h
  |true=>exact cw hp
theorem BL{l:List bU}{pos:gr}{first:List aN}{env:jf}(hp:oe l)(h:wpAny Md A (NX (t8 pos (qP l env))) (λvs a8=>Kp f a8.heap/\wpAny Md A (call f (first++vs)) R ba a8) ba s):wpAny Md A (NU pos f first (t8 pos (qP l env)) []) R ba s:=
 callWith_of (P:=Kp f) (by rw[hp];rfl) (λa k=>k) (YK (hp pos env) h)
theorem BM{l:List bU}{pos:gr}{v:aN}{y:Vs}{first:List aN}(hp:oe l)(T:St F A n W K s)(c:Ck es F.b (.es l))(hf:bL (VR W (aX K.h)) first y)(h:WL n es (λxs aS=>OL n v (y++xs) Q aS) K):wpAny Md A (NU pos v first (t8 pos (qP l F.bB)) []) (fL F W K.h Q) ba s:=
 BL hp (wm (h F A W s l pos T c) λvs a8 p=>p.cA λa5 aS xs R e al q=>have w:=q F A a5 a8 _ ⟨T.aD,R⟩ ((hf.bN λa a=>VR.bN (e.tu T.aC.aC.aC T.aC.nx)).vt al);⟨w.1,jL e w.2⟩)
theorem kM{f:Nat}(h:WL n es (λxs aS=>OL n (.ref (bJ f)) xs Q aS) K):WE n (.g f es) Q K:=λF A W s q T c=>c.elim λx c=>c.elim λqp c=>c.elim λl c=>c.elim λp c=>f6 c.1<|aK<|
 BE T c.2.1 (bq (Od c.2.2.1).1) (BM (y:=[]) c.2.2.2.2 T c.2.2.2.1 .gO h)
theorem BN{f:Nat}(h:WL n es (λxs aS=>OL n (.ref (dZ f)) xs Q aS) K):WE n (.C f es) Q K:=λF A W s q T c=>c.elim λx c=>c.elim λqp c=>c.elim λl c=>c.elim λp c=>f6 c.1<|aK<|
 BE T c.2.1 (bq (XW c.2.2.1).1) (BM (y:=[]) c.2.2.2.2 T c.2.2.2.1 .gO h)
theorem IG(P:jw)(ah:jx)(p:Prim):p.Ie=O->nsIn (K0 P++ah) mj p.si=M U:=by cases p<;>first|exactλh=>cw h|exactλa=>by kernel_rfl
theorem IH(p:Prim):p.Ie=O->Eh p.si=M p.fn/\p.si≠"__name__":=by cases p<;>first|exactλh=>cw h|exactλa=>⟨by decide+kernel,ao Y⟩
theorem mG(hp:p.Ie=O)(h:WL n es (λxs aS=>OL n p.fn xs Q aS) K):WE n (.p p es) Q K:=λF A W s q T c=>c.elim λqp c=>c.elim λl c=>c.elim λpos c=>f6 c.1<|aK<|
 zy T c.2.1 (IG w0.params Z0 p hp) (IH p hp).1 (IH p hp).2 (BM (y:=[]) c.2.2.2 T c.2.2.1 .gO h)
theorem Pt{l:List bU}{o:bU}{name:aP}{ap pos:gr}{env:jf}{ov:aN}(hp:oe l)(h1:(ap.endLine==pos.line)=O)(h2:xe l.length 20=O)
 (h:∀pl,wpAny Md A (getMethod ov name pl) (λr a8=>wpAny Md A (NU pos r.1 r.2 (t8 pos (qP l env)) []) R ba a8) ba s):
 wpAny Md A (Xs o name ap pos env ov (l.length+0) (t8 pos (qP l env)) (Xy pos (Xp [] env))) R ba s:=by
 have hf:akp (l.length+0) (t8 pos (qP l env)) (Xy pos (Xp [] env))=O:=by
  have:(t8 pos (qP l env)).all (λx=>!x.1)=O:=qa.mpr λx hx=>ak (vf.mpr (ajt.mp (hp pos env) x hx)) Y;have q:decide (l.length+0+0<30)=O:=az (gc (nK h2:l.length+1<=20) (ao Y))
  unfold akp;rw[this];exact q
 have hq:methodCallPos O o env ap pos=pure pos:=by unfold methodCallPos;rw[h1];rfl
 unfold Xs;rw[hf];refine aK (ij (wm (h _) λr a8 h₁=>?_));dsimp only;rw[hq];exact aK (bg h₁)
def GM(K:AS)(x:V)(name:aP)(fv:aN):Prop:=∀F A n W s v pl,St F A n W K s->VR W (aX K.h) v x->∀R:aN×List aN->bK->Prop,R (fv,[v]) s->wpAny Md A (getMethod v name pl) R ba s
theorem Pu{o:bU}{y:aP}{q pos:gr}{l:List bU}(T:St F A n W K s)(c1:Ck b F.b (.e o))(c2:Ck es F.b (.es l))(h1:(q.endLine==pos.line)=O)(h2:xe l.length 20=O)(hb:NB o)(hp:oe l)
 (h:WE n b (λx aS=>∃fv,GM aS x y fv/\WL n es (λxs cf=>OL n fv (x::xs) Q cf) aS) K):wpAny Md A (eval (.Call (.Attribute o y q) l [] pos) F.bB) (fL F W K.h Q) ba s:=
 aK (aj (hb y F.bB (eval o F.bB)).symm (zu (f:=λov=>En q.atName>>=λa=>Xs o y q pos F.bB ov (l.length+0) (t8 pos (qP l F.bB)) (Xy pos (Xp [] F.bB))) T (h F A W s o T c1) λov a8 a5 aS x gv a vx k=>k.elim λfv k=>aK (se (Pt hp h1 h2 λpl=>k.1 F A n a5 a8 ov pl gv vx _ (BM (y:=[x]) (first:=[ov]) hp gv c2 (.gE vx .gO) k.2)))))
theorem kB{a f:Nat}{g:Mp}(hl:K.h l=M (.i c g))(hm:Bm c a=M f)(hg:g a=U):GM K (.e l) (fD a) (.ref (bJ f)):=λF A n W s v pl T vx R q=>
 have k:=Oa hm
 ak vx.1 (method_inst T.aC.fr T.aC.aC.aG (T.aC.xF hl) k.1 (bq k.2.1) k.2.2.1 (aj hg (T.aC.xE hl a):oM W (aX K.h) (T.aC.uj hl) a U) (vx.1▸q))
theorem i4{a:Nat}(h:WE n b (λx aS=>∃fv,GM aS x (fD a) fv/\WL n es (λxs cf=>OL n fv (x::xs) Q cf) aS) K):WE n (.gW b a es) Q K:=λF A W s q T c=>c.elim λv c=>c.elim λy c=>c.elim λqp c=>c.elim λl c=>c.elim λpos c=>f6 c.1<|
 Pu T c.2.2.1 c.2.2.2.1 c.2.2.2.2.1 c.2.2.2.2.2.1 c.2.2.2.2.2.2.1 c.2.2.2.2.2.2.2 (aj (vp c.2.1) h)
theorem iu(h:WE n b (λx aS=>∃fv,GM aS x p.si fv/\WL n es (λxs cf=>OL n fv (x::xs) Q cf) aS) K):WE n (.bV p b es) Q K:=λF A W s q T c=>c.elim λv c=>c.elim λqp c=>c.elim λl c=>c.elim λpos c=>f6 c.1<|
 Pu T c.2.1 c.2.2.1 c.2.2.2.1 c.2.2.2.2.1 c.2.2.2.2.2.1 c.2.2.2.2.2.2 h
theorem II(hl:K.h l=M (.l vs)):GM K (.e l) "append" (.builtin "list.append"):=λF A n W s v pl T vx R q=>ak vx.1 (yM ⟨_,T.aC.fE hl,Y⟩ M0 PySem.F.slot_list_append PySem.F.type_list_append (λa e=>by cases e;exact⟨_,T.aC.fE hl,Y⟩) (aj vx.1 q))
theorem Px(hl:K.h l=M (.l vs)):GM K (.e l) "pop" (.builtin "list.pop"):=λF A n W s v pl T vx R q=>ak vx.1 (yM ⟨_,T.aC.fE hl,Y⟩ M0 Wb PySem.F.type_list_pop (λa e=>by cases e;exact⟨_,T.aC.fE hl,Y⟩) (aj vx.1 q))
theorem YL(hl:K.h l=M (.l vs)):GM K (.e l) "insert" (.builtin "list.insert"):=λF A n W s v pl T vx R q=>ak vx.1 (yM ⟨_,T.aC.fE hl,Y⟩ M0 aiA PySem.F.type_list_insert (λa e=>by cases e;exact⟨_,T.aC.fE hl,Y⟩) (aj vx.1 q))
theorem YM(hl:K.h l=M (.l vs)):GM K (.e l) "index" (.builtin "list.index"):=λF A n W s v pl T vx R q=>ak vx.1 (yM ⟨_,T.aC.fE hl,Y⟩ M0 aiD PySem.F.type_list_index (λa e=>by cases e;exact⟨_,T.aC.fE hl,Y⟩) (aj vx.1 q))
theorem lT{ds:Es}(hl:K.h l=M (.d ds)):GM K (.e l) "get" (.builtin "dict.get"):=λF A n W s v pl T vx R q=>ak vx.1 (yM ⟨_,T.aC.dg hl,Y⟩ aiG Wc PySem.F.type_dict_get (λa e=>by cases e;exact⟨_,T.aC.dg hl,Y⟩) (aj vx.1 q))
theorem YN{z:aP}:GM K (.s z) "join" (.builtin "str.join"):=λF A n W s v pl T vx R q=>b5 vx λt e=>ak e.1 (yM (typeIs_str _ _ _) PySem.F.plainAttrs_str PySem.F.slot_str_join PySem.F.type_str_join (λa e=>by cases e) (aj e.1 q))
end
variable{k:Nat} {h':fC}
section
variable{ds:Es} {v:aN} {sc:dY} {tk:Nat} {a7:Array aN}
theorem oR(hk:∀h,Kp f h)(h:∀F A W s v,St F A n W K s->VR W (aX K.h) v x->wpAny Md A (call f [v]) (fL F W K.h Q) ba s):OL n f [x] Q K:=λF A W s vs T al=>⟨hk _,al.lK.elim λv q=>q.elim λr q=>ak q.1 (q.2.2.oJ▸h F A W s v T q.2.1)⟩
theorem xJ(hk:∀h,Kp f h)(h:∀F A W s v u,St F A n W K s->VR W (aX K.h) v x->VR W (aX K.h) u y->wpAny Md A (call f [v,u]) (fL F W K.h Q) ba s):OL n f [x,y] Q K:=λF A W s vs T al=>⟨hk _,al.lK.elim λv q=>q.elim λr q=>q.1▸q.2.2.lK.elim λu q'=>q'.elim λr q'=>q'.1▸q'.2.2.oJ▸h F A W s v u T q.2.1 q'.2.1⟩
theorem Py(hk:∀h,Kp f h)(h:∀F A W s v u w,St F A n W K s->VR W (aX K.h) v x->VR W (aX K.h) u y->VR W (aX K.h) w z->wpAny Md A (call f [v,u,w]) (fL F W K.h Q) ba s):OL n f [x,y,z] Q K:=λF A W s vs T al=>⟨hk _,al.lK.elim λv q=>q.elim λr q=>q.1▸q.2.2.lK.elim λu q'=>q'.elim λr q'=>q'.1▸q'.2.2.lK.elim λw p=>p.elim λr p=>p.1▸p.2.2.oJ▸h F A W s v u w T q.2.1 q'.2.1 p.2.1⟩
theorem j5(id:String)(h:fC):Kp (.builtin id) h:=⟨.machine,.inr (.inl Y),.now⟩
theorem uo(id:String)(h:fC):Kp (.type id) h:=⟨.machine,.inr (.inl Y),.now⟩
theorem aW.Pz{rel:Wd->(Loc->Prop)->α->β->Prop}{ai:β->QA}{v:α}{x:β}(R:aW F W K s)(l0:l.1≠0)(hl:K.h l=M (.l vs))(sb:mf (W.ρ l) s.heap h')(g:h'.get? (W.ρ l)=M (listOf a7 k))(al:bL (VR W (aX K.h)) a7.toList ws)(z:ws.length<=33554432)(vx:∀W' D',Tu W W' (aX K.h) D'->rel W' D' v x)(q:ai x (K.aF l (.l ws) K.t)):PG rel F W K.h ai v {s with heap:=h',toks:=tk}:=
 (R.Ic (b:=Z) (o:=.l ws) (tk:=tk) ⟨l0,mu hl,λw=>cw w⟩ (λw=>ax w OI) (λw=>w.elim λa w=>w.elim λb w=>vq (w.symm.trans hl) Y) ((av l0).mp (R.OH hl)) (λv w=>by cases w) sb g λW' t ea c m=>⟨a7,k,(av l0).mpr (show(W'.bG (l,Z),_)∈_ from ak ea m),al.bN λc c=>VR.bN t,z⟩).elim λW' w=>⟨W',_,x,w.1,w.2,vx W' _ (w.2.tu R.aC.aC R.nx),q⟩
theorem aW.Fc(R:aW F W K s)(l0:l.1≠0)(hl:K.h l=M (.l vs))(sb:mf (W.ρ l) s.heap h')(g:h'.get? (W.ρ l)=M (listOf a7 k))(al:bL (VR W (aX K.h)) a7.toList ws)(z:ws.length<=33554432)(vx:VR W (aX K.h) v x)(q:Q x (K.aF l (.l ws) K.t)):fL F W K.h Q v {s with heap:=h',toks:=tk}:=R.Pz l0 hl sb g al z (λa a t=>vx.bN t) q
theorem aW.PB{rel:Wd->(Loc->Prop)->α->β->Prop}{ai:β->QA}{v:α}{x:β}{bO:Es}{de:List dJ}(R:aW F W K s)(hl:K.h l=M (.d ds))(sb:mf (W.ρ l) s.heap h')(g:h'.get? (W.ρ l)=M (fV de bO.length))(al:bL (DE W (aX K.h)) de bO)(nd:(bO.map (·.1)).Nodup)(z:bO.length<=33554432)(vx:∀W' D',Tu W W' (aX K.h) D'->rel W' D' v x)(q:ai x (K.aF l (.d bO) K.t)):PG rel F W K.h ai v {s with heap:=h',toks:=tk}:=
 have l0:=(R.aC.aC.aC l _ hl).1
 (R.Ic (b:=Z) (o:=.d bO) (tk:=tk) ⟨l0,mu hl,λw=>cw w⟩ (λw=>ax w Ib) (λw=>w.elim λa w=>w.elim λb w=>vq (w.symm.trans hl) Y) (R.dm hl) (λv w=>by cases w) sb g λW' t ea c m=>⟨l0,de,(show(W'.bG (l,Z),_)∈_ from ak ea m),al.bN λc c e=>⟨e.aC.bN t,e.aI.bN t,e.aG,e.aD⟩,nd,z⟩).elim λW' w=>⟨W',_,x,w.1,w.2,vx W' _ (w.2.tu R.aC.aC R.nx),q⟩
theorem Fd(l0:l.1≠0)(hl:K.h l=M (.l vs))(z:vs.length<16777216)(q:Q .n (K.aF l (.l (vs++[y])) K.t)):OL n (.builtin "list.append") [.e l,y] Q K:=xJ (j5 _) λF A W s v u T vx vy=>vx.1▸
 append_at (hsz:=by rw[T.aC.lP hl,kg];exact gB z) (T.aC.fE hl) λh' sb g=>T.aC.Fc (x:=.n) (tk:=s.toks) l0 hl sb g (by rw[ajn];exact(T.aC.hM hl).vt (.gE vy .gO)) (by rw[dW];exact aL z (ao Y)) Y q
theorem YO(l0:l.1≠0)(hl:K.h l=M (.l vs))(hy:vs[vs.length-1]?=M y)(z:vs.length<=16777216)(q:Q y (K.aF l (.l (vs.eraseIdx (vs.length-1))) K.t)):OL n (.builtin "list.pop") [.e l] Q K:=oR (j5 _) λF A W s v T vx=>vx.1▸((T.aC.hM hl).lI hy).elim λu g=>
 have ln:=T.aC.lP hl;have hu:(T.aC.a7 hl)[(T.aC.a7 hl).size-1]?=M u:=by rw[<-tU,ln];exact g.1
 NM Wb ⟨_,T.aC.fE hl,Y⟩ aiK (PySem.F.args_list_pop_1 _) (ak1 (W.ρ l) (T.aC.a7 hl) (T.aC.xy hl) u hu (by rw[ln,kg];exact z)) ⟨T.aC.fE hl,
  T.aC.Fc (tk:=s.toks) l0 hl (rW ..) (rV _ (T.aC.fE hl) Y) (by rw[aiw,ln];exact(T.aC.hM hl).Og _) (aL (aiV ..) (T.aC.ug hl)) g.2 q⟩
theorem fits63(h:j<n)(z:n<=33554432):VX (j:Int)=O:=fitsIndex_of (Ho (ao Y) (jH j)) (Nb (mV.mpr (gc h z)) (ao Y))
theorem YQ{a:aY}{a7:Array aN}{j:Int}{t:nX}(f1:VX j=O)(f2:yT j a7.size=M i)(hu:a7[i]?=M u)(f3:a7.size<=Bd)(g:s.heap.get? a=M (listOf a7 k))(h:R u {s with heap:=s.heap.update a (A7 λxs=>xs.eraseIdxIfInBounds i)}):wpAny Md A (call (.builtin "list.pop") [.ref a,.int j t]) R ba s:=
 NM Wb ⟨_,g,Y⟩ aiK (PySem.F.args_list_pop_2 _ _) (ak2 a a7 k j t i u f1 f2 hu f3) ⟨g,h⟩
theorem YR(l0:l.1≠0)(hl:K.h l=M (.l vs))(hy:vs[j]?=M y)(z:vs.length<=16777216)(q:Q y (K.aF l (.l (vs.eraseIdx j)) K.t)):OL n (.builtin "list.pop") [.e l,.i j] Q K:=xJ (j5 _) λF A W s v w T vx vy=>vx.1▸b5 vy λt e=>e▸((T.aC.hM hl).lI hy).elim λu g=>
 have ln:=T.aC.lP hl;have hj:=(cV.mp hy).1
 YQ (fits63 hj (T.aC.ug hl)) (EX (ak ln hj)) (by rw[<-tU];exact g.1) (by rw[ln,kg];exact z) (T.aC.fE hl)
  (T.aC.Fc (tk:=s.toks) l0 hl (rW ..) (rV _ (T.aC.fE hl) Y) (by rw[aiw];exact(T.aC.hM hl).Og _) (aL (aiV ..) (T.aC.ug hl)) g.2 q)
theorem vM(hl:K.h l=M (.d ds))(kx:x.cn 7=O)(q:Q ((bM ds x).getD .n) K):OL n (.builtin "dict.get") [.e l,x] Q K:=xJ (j5 _) λF A W s v u T vx vy=>vx.1▸by
 refine mT Wc ⟨_,T.aC.dg hl,Y⟩ aiL ?_ (PySem.F.args_dict_get_2 _ _);refine aK (m:=Bf (W.ρ l) u) (Bp T.aC.th (T.aC.dg hl) (T.aC.lQ hl) (T.aC.qh hl) vy kx (T.cl (k:=9) (ao Y)) (λe tk=>?_) λv y e hv tk=>bg ⟨v,Y,T.ku tk hv (show Q y K from by rw[e]at q;exact q)⟩)
 exact aK (m:=V8 (W.ρ l) u) (Wx (T.aC.n7 T.aD (T.aC.dm hl)) (bg ⟨.none,Y,T.ku (x:=.n) tk Y (by rw[e]at q;exact q)⟩))
theorem sr(hl:K.h l=M (.d ds))(kx:x.cn 7=O)(q:Q ((bM ds x).getD z) K):OL n (.builtin "dict.get") [.e l,x,z] Q K:=Py (j5 _) λF A W s v u d T vx vy vd=>vx.1▸by
 refine mT Wc ⟨_,T.aC.dg hl,Y⟩ aiL ?_ (PySem.F.args_dict_get_3 _ _ _);refine aK (m:=Bf (W.ρ l) u) (Bp T.aC.th (T.aC.dg hl) (T.aC.lQ hl) (T.aC.qh hl) vy kx (T.cl (k:=9) (ao Y)) (λe tk=>?_) λv y e hv tk=>bg ⟨v,Y,T.ku tk hv (show Q y K from by rw[e]at q;exact q)⟩)
 exact aK (m:=V8 (W.ρ l) u) (Wx (T.aC.n7 T.aD (T.aC.dm hl)) (bg ⟨d,Y,T.ku tk vd (by rw[e]at q;exact q)⟩))
theorem YS(hl:K.h l=M (.l vs))(q:Q (.i vs.length) K):OL n (.builtin "len") [.e l] Q K:=oR (j5 _) λF A W s v T vx=>vx.1▸
 call_len_list (T.aC.n4 hl) (AW (qc.mpr (ak (T.aC.lP hl) (T.aC.ug hl))) (by decide)) (T.ku (x:=.i (T.aC.a7 hl).size) _ ⟨_,Y⟩ (aj (T.aC.lP hl).symm q))
theorem YT{i:Int}(h1:-1000000<i)(h2:i<1000000)(ok:kH (toString i:String)=O)(q:Q (.s (toString i:String)) K):OL n (.type "str") [.i i] Q K:=oR (uo _) λF A W s v T vx=>b5 vx λt e=>e▸
 P.str_of_int (shown (N:=2^1920) (by omega) (by omega) (Int.le_refl _)) (T.ku (x:=.s _) _ ⟨_,Y,ok⟩ q)
theorem IJ(hl:K.h l=M (.l vs))(z:vs.length<=16777216)(q:Q (V.bP vs) K):OL n (.type "tuple") [.e l] Q K:=oR (uo _) λF A W s v T vx=>vx.1▸
 call_tuple_list (T.aC.n4 hl) (λh' hk=>T.aC.OM (vs:=(T.aC.a7 hl).toList) (tk:=s.toks) (λb o e=>eW _ (hk b o e)) (λb o e=>d9 (hk b o e)) (jG _ Y) (T.aC.hM hl) z q) (by rw[kg,T.aC.lP hl];exact z)
def SI(x y z:V)(ai:QA)(K:AS):Prop:=∀F A n W s v u w,St F A n W K s->VR W (aX K.h) v x->VR W (aX K.h) u y->VR W (aX K.h) w z->wpAny Md A (Eo v u w) (sh F W K.h ai) ba s
theorem YU{a:aY}{k:Int}{t:nX}{v:aN}{R:Unit->bK->Prop}(ho:s.heap.get? a=M (listOf a7 m))(h0:0<=k)(YV:k<2^63)(hn:k.toNat<a7.size)(h:R () {s with heap:=s.heap.update a (A7 (·.setIfInBounds k.toNat v))}):wpAny Md A (Eo (.ref a) (.int k t) v) R ba s:=by
 have hT:s.TypeIs (.ref a) "list":=⟨_,ho,Y⟩;unfold Eo;refine ij (aK (He hT (ao Y) ?_));refine aK (wQ (name:=bo "__setitem__") hT aj6 (mT aj6 hT entry_list_setitem ?_ (args_list_setitem _ _ _)));refine aK (m:=alg (.int k t)) (wpAny_listSubscript_int (fitsIndex_of h0 YV) ?_);obtain⟨j,rfl⟩:=Int.eq_ofNat_of_zero_le h0;refine aK (m:=seqItemAt a j>>=λr=>pure (r.map (j,·))) (aK (wpAny_seqItemAt ho Y (bg ?_)));rw[aiJ (show j<a7.size from hn)]
 exact aK (m:=setSeqItemAt a j v) (wpAny_setSeqItemAt ho Y (bg ⟨.none,Y,bg h⟩))
theorem YW{ai:QA}(l0:l.1≠0)(hl:K.h l=M (.l vs))(hj:j<vs.length)(q:ai (K.aF l (.l (vs.set j z)) K.t)):SI (.e l) (.i j) z ai K:=λF A n W s v u w T vx vy vz=>vx.1▸b5 vy λt e=>e▸
 have ln:=T.aC.lP hl
 YU (k:=(j:Int)) (T.aC.fE hl) (jH j) (fits_of T (T.aC.ug hl) hj) (show j<_ from ak ln hj) (T.aC.Pz (ai:=λa=>ai) (x:=()) (tk:=s.toks) l0 hl (rW ..) (rV _ (T.aC.fE hl) Y) (by rw[Array.toList_setIfInBounds];exact(T.aC.hM hl).eR j vz) (by rw[ajI];exact T.aC.ug hl) (λa a a=>trivial) q)
end
theorem YX(x:aP)(t:nX):(akj x t).isStr x=O:=beq_self_eq_true x
theorem YY{x y:aP}(t:nX)(h:x≠y):(akj x t).isStr y=Z:=beq_eq_false_iff_ne.mpr h
theorem PD{k:aN}{x y:aP}(h:k.isStr x=O)(n:x≠y):k.isStr y=Z:=by cases k<;>first|rfl|exact beq_eq_false_iff_ne.mpr λe=>n ((bq h).symm.trans e)
theorem Fe{x:aP}{e:dJ}{r:List dJ}(q:e.key.isStr x=Z):(e::r).find? (·.key.isStr x)=r.find? (·.key.isStr x):=List.find?_cons_of_neg (p:=λe:dJ=>e.key.isStr x) (vf.mp q)
theorem YZ(name:aP)(h:Int)(t:nX)(v:aN):∀es:List dJ,∃e,(putL name h (.str name t) v es).find? (·.key.isStr name)=M e/\e.val=v:=by
 intro es
 induction es with
 |nil=>exact⟨⟨h,.str name t,v⟩,ai1 (YX name t),Y⟩
 |cons e r ih=>
  unfold putL;cases q:e.key.isStr name with
  |true=>exact⟨⟨e.hash,e.key,v⟩,ai1 q,Y⟩
  |false=>exact ih.elim λe' k=>⟨e',(Fe q).trans k.1,k.2⟩
theorem Y1{name xK:aP}(n:name≠xK)(h:Int)(t:nX)(v:aN):∀es:List dJ,(putL name h (.str name t) v es).find? (·.key.isStr xK)=es.find? (·.key.isStr xK):=by
 intro es
 induction es with
 |nil=>exact Fe (YY t n)
 |cons e r ih=>
  unfold putL;cases q:e.key.isStr name with
  |true=>exact(Fe (e:=⟨e.hash,e.key,v⟩) (PD q n)).trans (Fe (PD q n)).symm
  |false=>show List.find? _ (e::putL name h (.str name t) v r)=_;rw[ajL,ajL,ih]
theorem Y2(name:aP)(h:Int)(t:nX)(v:aN):∀es:List dJ,(putL name h (.str name t) v es).any (·.refKey)=es.any (·.refKey):=by
 intro es
 induction es with
 |nil=>exact rfl
 |cons e r ih=>
  unfold putL;cases q:e.key.isStr name with
  |true=>rfl
  |false=>exact aq (e.refKey||·) ih
theorem Y3(name:aP)(h:Int)(t:nX)(v:aN)(es:List dJ):getL name (putL name h (.str name t) v es)=M (M v):=(YZ name h t v es).elim λe k=>by unfold getL;rw[k.1,<-k.2]
theorem Y4{name xK:aP}(n:name≠xK)(h:Int)(t:nX)(v:aN)(es:List dJ):getL xK (putL name h (.str name t) v es)=getL xK es:=by unfold getL;rw[Y1 n,Y2]
theorem Y5(name:aP)(h:Int)(key v:aN):∀es:List dJ,(putL name h key v es).length=es.length\/((putL name h key v es).length=es.length+1/\es.any (·.key.isStr name)=Z):=by
 intro es
 induction es with
 |nil=>exact .inr ⟨Y,Y⟩
 |cons e r ih=>
  unfold putL;cases q:e.key.isStr name with
  |true=>exact .inl rfl
  |false=>exact ih.imp (aq Bb) λk=>⟨aq Bb k.1,by rw[List.any_cons,q,k.2];rfl⟩
variable{f:Mp}
section
variable{ai:QA} {ds:Es} {v:aN}
theorem PF{es:Es}(h:es.length<16777216):(cC es x y).length<=33554432:=aL H9 (aL h (ao Y))
theorem PH{w:aN}(R:aW F W K s)(nm:(W.ρ l==qe)=Z)(cu:A.units+9<cLine)(hl:K.h l=M (.d ds))(kx:y.cn 7=O)(hz:ds.length<16777216)(vy:VR W (aX K.h) u y)(vz:VR W (aX K.h) w z)(q:ai (K.aF l (.d (cC ds y z)) K.t)):wpAny Md A (Eo (.ref (W.ρ l)) u w) (sh F W K.h ai) ba s:=by
 have hT:s.TypeIs (.ref (W.ρ l)) "dict":=⟨_,R.dg hl,Y⟩;unfold Eo;refine ij (aK (He hT (ao Y) ?_));refine aK (wQ (name:=bo "__setitem__") hT aj7 (mT aj7 hT entry_dict_setitem ?_ (args_dict_setitem _ _ _)));exact aK (m:=alj "__setitem__" ⟨[.ref (W.ρ l),u,w],[]⟩) (G1 hT (aK (m:=Ep (W.ρ l) u w) (OD R.th (R.dg hl) (R.lQ hl) (R.qh hl) vy kx vz cu (by rw[kg];exact gB hz) λh' kK tk sb g al=>
  bg ⟨.none,Y,bg (R.PB (ai:=λa=>ai) (x:=()) hl sb g al (OB (R.qh hl)) (PF hz) (λa a a=>trivial) q)⟩)))
theorem rj(hl:K.h l=M (.d ds))(kx:y.cn 7=O)(hz:ds.length<16777216)(q:ai (K.aF l (.d (cC ds y z)) K.t)):SI (.e l) y z ai K:=λF A n W s v u w T vx vy vz=>ak vx.1 (PH T.aC (T.aC.n7 T.aD (T.aC.dm hl)) (T.cl (k:=9) (ao Y)) hl kx hz vy vz q)
set_option tactic.hygienic true in
theorem Y6{a:Nat}{de:List dJ}{h:Int}{k:aN}(g:oM W D de a (f a))(lt:xe a 64=O)(c:∃L:Nl,L.Nodup/\(∀i∈L,f i≠U/\i∈iW 64)/\de.length<=L.length):∃L:Nl,L.Nodup/\(∀i∈L,aH f a y i≠U/\i∈iW 64)/\(putL (fD a) h k u de).length<=L.length:=c.elim λL c=>by
 have up:∀i∈L,aH f a y i≠U/\i∈iW 64:=λi m=>⟨λw=>by
  unfold aH at w
  split at w
  .cases w
  .exact(c.2.1 i m).1 w,(c.2.1 i m).2⟩
 rcases Y5 (fD a) h k u de with e|⟨e,no⟩
 .exact⟨L,c.1,up,ak e c.2.2⟩
 .refine⟨a::L,fQ.mpr ⟨λm=>?_,c.1⟩,λi m=>?_,ak e (fJ c.2.2)⟩
  .cases hf:f a with
   |none=>exact(c.2.1 a m).1 hf
   |some w=>
    have g:oM W D de a (M w):=aj hf g;obtain⟨w,g,_⟩:=g;unfold getL at g
    split at g
    .rename_i d q;exact d8 ((ajt.mp no d (aiM q) (ajK (p:=λe:dJ=>e.key.isStr (fD a)) q)).elim)
    .split at g<;>cases g
  .rcases b0.mp m with rfl|m
   .exact⟨λw=>(fK ((aw Y:aH f i y i=M y).symm.trans w)),gY.mpr (nK lt)⟩
   .exact up i m
def BO(x:V)(a:Nat)(y:V)(ai:QA)(K:AS):Prop:=∀F A n W s v u,St F A n W K s->VR W (aX K.h) v x->VR W (aX K.h) u y->wpAny Md A (setAttr v (fD a) u) (sh F W K.h ai) ba s
theorem Y7{de Ff:List dJ}{o:Option V}(t:Tu W W' D D')(e:getL (fD i) Ff=getL (fD i) de)(h:oM W D de i o):oM W' D' Ff i o:=by
 cases o with
 |none=>exact e.trans h
 |some x=>exact b5 h λv h=>⟨v,e.trans h.1,h.2.bN t⟩
theorem Y8{de:List dJ}{o:Option V}(h:oM W D de i o):(getL (fD i) de).isSome=O:=by
 cases o with
 |none=>exact aq Nq h
 |some x=>exact b5 h λv h=>aq Nq h.1
theorem PI{a:Nat}(R:aW F W K s)(hl:K.h l=M (.i c f))(d:kq c a=O)(vy:VR W (aX K.h) u y)(q:ai (K.aF l (.i c (aH f a y)) K.t)):wpAny Md A (setAttr (.ref (W.ρ l)) (fD a) u) (sh F W K.h ai) ba s:=by
 have k:=EC d;have o:=R.aC.aC.aC l _ hl
 have ow:∀b,Own K.h (l,b):=λb=>⟨o.1,mu hl,λg=>⟨c,f,hl⟩⟩;have ml:=Y6 (y:=y) (h:=Wz w0.params (fD a)) (k:=.str (fD a) (s.toks+1)) (u:=u) (R.xE hl a) k.2.2.2.2.2.2.2 (R.YA hl)
 refine set_dict R.fr R.aC.aG R.aC.aD (R.xF hl) Y (bq k.2.2.2.2.1) k.2.2.2.2.2.1 (bq k.2.2.2.2.2.2.1) k.2.1 (Y8 (R.xE hl a)) Y (X4 R.aC.aC.aG (R.Iv hl)) (ml.elim λL c=>aL c.2.2 (aL (Bn c.1 λi m=>(c.2.1 i m).2) (by rw[iU];decide))) λh' F' N'=>?_
 refine(R.ON (b:=O) (o:=.i c (aH f a y)) (tk:=s.toks+2) (ow O) (λg=>⟨c,f,hl⟩) (λw=>w.elim λa w=>w.elim λb w=>vq (w.symm.trans hl) Y) (R.Iv hl) (λv w=>by cases w) F' N' λW' t ea keep m=>?_).elim λW' w=>⟨W',_,(),w.1,w.2,trivial,q⟩
 have e1:W'.ρ l=W.ρ l:=congrFun ea (l,Z);have e2:W'.δ l=W.δ l:=congrFun ea (l,O)
 refine⟨o.1,?_,_,putN (fD a) (R.uj hl) (R.Iu hl),?_,ml,λi=>?_⟩
 .rw[e1,e2];exact keep _ o.2.1 λe=>cw (aq sg (R.aC.aC.aI (l,Z) (l,O) (ow _) (ow _) e))
 .exact ak e2 m
 .by_cases e:i=a
  .subst e;rw[show aH f i y i=M y from aw Y]
   exact⟨u,Y3 ..,vy.bN t⟩
  .rw[show aH f a y i=f i from av e]
   exact Y7 t (Y4 (λw=>e (XZ k.2.2.2.2.2.2.2 w).symm) ..) (R.xE hl i)
theorem su{a:Nat}(hl:K.h l=M (.i c f))(d:kq c a=O)(q:ai (K.aF l (.i c (aH f a y)) K.t)):BO (.e l) a y ai K:=λF A n W s v u T vx vy=>ak vx.1 (PI T.aC hl d vy q)
end
inductive Fw where
 |n|b|c|r (v:V)
abbrev QF:=Fw->QA
def ro(W:Wd)(D:Loc->Prop)(f:ua)(g:Fw):Prop:=Fw.rec (motive:=λa=>Prop) (f=.next) (f=.brk) (f=.cont) (λx=>∃v,f=.ret v/\VR W D v x) g
def Sf(F:Fm):Prop:=(∀i j,cx F.b i=cx F.b j->cx F.b i≠fU->i=j)/\F.fo≠U
variable(hh:Sf F)
def Sf.aC:=hh.1
def Sf.aD:=hh.2
def WN(n:Nat)(a:Sx)(ai:QA)(K:AS):Prop:=∀F A W s x,St F A n W K s->Sf F->Ck a F.b (.s x)->wpAny Md A (exec x F.bB) (PG (λc c f(c:Unit)=>f=.next) F W K.h λc=>ai) ba s
def WS(n:Nat)(a:Sx)(Q:QF)(K:AS):Prop:=∀F A W s x,St F A n W K s->Sf F->Ck a F.b (.s x)->wpAny Md A (exec x F.bB) (PG ro F W K.h Q) ba s
def WB(n:Nat)(a:Sx)(Q:QF)(K:AS):Prop:=∀F A W s l,St F A n W K s->Sf F->Ck a F.b (.c l)->wpAny Md A (execs l F.bB) (PG ro F W K.h Q) ba s
variable{Q:QF} {i:Sx}
section
variable{ai:QA} {o:Sx} {v:aN}
theorem kN{q q':iI}{env:jf}{R:ua->bK->Prop}(e:bX.s q=.s q')(w:wpAny Md A (exec q' env) R ba s):wpAny Md A (exec q env) R ba s:=by cases e;exact w
theorem aO(q:Q .n K):WB n .n Q K:=λF A W s l T f c=>ak (YH c) (yO (T.pg (x:=Fw.n) Y q))
theorem fW(h:WN n a (λaS=>WB n r Q aS) K):WB n (.c a r) Q K:=λF A W s l T f c=>(Pr c).elim λx c=>c.elim λq c=>c.1▸rY
 (wm (h F A W s x T f c.2.1) λg a8 p=>p.cA λa5 aS b R e fl k=>ak (fl:g=.next) (jL e (k F A a5 a8 q ⟨T.aD,R⟩ f c.2.2)))
theorem d7(h:WS n a (λg aS=>Fw.rec (motive:=λd=>Prop) (WB n r Q aS) (Q .b aS) (Q .c aS) (λv=>Q (.r v) aS) g) K):WB n (.c a r) Q K:=λF A W s l T f c=>(Pr c).elim λx c=>c.elim λq c=>c.1▸rY
 (wm (h F A W s x T f c.2.1) (λg a8 p=>p.cA λa5 aS w R e fl k=>by
  cases w with
  |n=>exact ak (fl:g=.next) (jL e (k F A a5 a8 q ⟨T.aD,R⟩ f c.2.2))
  |b=>exact ak (fl:g=.brk) ⟨a5,aS,.b,R,e,Y,k⟩
  |c=>exact ak (fl:g=.cont) ⟨a5,aS,.c,R,e,Y,k⟩
  |r x=>exact b5 fl λv fl=>ak fl.1 ⟨a5,aS,.r x,R,e,⟨v,Y,fl.2⟩,k⟩))
theorem Y9(q:ai K):WN n .F ai K:=λF A W s x T f c=>c.elim λp c=>kN c (wpAny_Pass (T.pg (x:=()) Y q))
theorem Za(q:Q .b K):WS n .z Q K:=λF A W s x T f c=>c.elim λp c=>kN c (wpAny_Break (T.pg (x:=Fw.b) Y q))
theorem Zb(q:Q .c K):WS n .w Q K:=λF A W s x T f c=>c.elim λp c=>kN c (wpAny_Continue (T.pg (x:=Fw.c) Y q))
theorem PJ(h:WE n e (λx aS=>Q (.r x) aS) K):WS n (.h e) Q K:=λF A W s x T f c=>c.elim λv c=>c.elim λp c=>kN c.1<|aj5<|
 wm (h F A W s v T c.2) λv a8 p=>p.cA λa5 aS x R e vx q=>⟨a5,aS,.r x,R,e,⟨v,Y,vx⟩,q⟩
theorem Zd(h:WE n e (λa aS=>ai aS) K):WN n (.e e) ai K:=λF A W s x T f c=>c.elim λv c=>c.elim λp c=>kN c.1<|Xd
 (wm (h F A W s v T c.2.1) λv a8 p=>p.cA λa5 aS x R e vx q=>⟨a5,aS,(),R,e,Y,q⟩) (by show(F.b.kind==.module&&_)=Z;rw[T.aD.aD];rfl) (c.2.2 _ _ _)
theorem BP:Cl F λW h(a:Unit)=>PG (λa a f(a:Unit)=>f=.next) F W h (λa=>ai) Hr:=λa a a a a a e p=>p.cO e
theorem xM{j6:Wd}{h₀:Hp}{ab:gD Unit}(w:wpAny Md A ab (sh F j6 h₀ ai) ba s):wpAny Md A ab (λa=>PG (λa a f(a:Unit)=>f=.next) F j6 h₀ (λa=>ai) Hr) ba s:=wm w λa a8 p=>p.cA λa5 aS x R e a q=>⟨a5,aS,(),R,e,Y,q⟩
theorem IK(h:WE n e (λy aS=>WE n o (λx cf=>BO x c y ai cf) aS) K):WN n (.cW o c e) ai K:=λF A W s x T f c=>c.elim λz c=>c.elim λy c=>c.elim λq c=>c.elim λv c=>c.elim λp c=>kN c.1<|V0
 (O9 BP (g:=λv u=>setAttr u y v) T h c.2.2.2.1 c.2.2.1 λv u bQ cU cf x' y' oQ vx vy k=>xM (aj (vp c.2.1) (k F A n cU bQ u v oQ vy vx))) (c.2.2.2.2.1 _ _ _ _ _)
theorem oT(h:WT n t (λc aS=>if c then WB n a Q aS else WB n b Q aS) K):WS n (.i t a b) Q K:=λF A W s x T f c=>c.elim λt' c=>c.elim λa' c=>c.elim λb' c=>c.elim λp c=>kN c.1<|wpAny_If<|
 wm (h F A W s t' T c.2.1) (λd a8 p=>p.cA λa5 aS d' R e v k=>by
  subst v;cases d
  .exact jL e (k F A a5 a8 b' ⟨T.aD,R⟩ f c.2.2.2)
  .exact jL e (k F A a5 a8 a' ⟨T.aD,R⟩ f c.2.2.1))
theorem pE(h:WE n e (λz aS=>WE n o (λx cf=>WE n i (λy fy=>SI x y z ai fy) cf) aS) K):WN n (.cR o i e) ai K:=λF A W s x T f c=>c.elim λov c=>c.elim λiv c=>c.elim λq c=>c.elim λw c=>c.elim λp c=>kN c.1<|ajp
 (wm (h F A W s w T c.2.2.2.1) (λw a8 p=>p.cA λa5 aS z R e vz k=>wm (k F A a5 a8 ov ⟨T.aD,R⟩ c.2.1) (λu bQ p=>p.cA λcU cf x eK eX vx k=>
  wm (zt BP (f:=λy=>Eo u y w) ⟨T.aD,eK⟩ (k F A cU bQ iv ⟨T.aD,eK⟩ c.2.2.1) λy dy eZ fy y' Ze t vy k=>xM (k F A n eZ dy u y w Ze (vx.bN t) vy ((vz.bN (eX.tu R.aC.aC R.nx)).bN t))) λa a h=>wm h λa a p=>p.cO (e.cO eX)))) (c.2.2.2.2.2 _ _ _ _ _)
def Fw.lp(I:QA)(Q:QF)(g:Fw)(K:AS):Prop:=Fw.rec (motive:=λa=>Prop) (I K) (Q .n K) (I K) (λv=>Q (.r v) K) g
theorem Zf{j6:Wd}{h₀:Hp}{I:Nat->QA}{ah:ua->bK->Prop}(vO:Ext F.bT j6 h₀ W K.h)(hn:∀s m' W' aZ,m'<m->aW F W' aZ s->Ext F.bT j6 h₀ W' aZ.h->I m' aZ->ah .next s/\ah .cont s)
 (hb:∀s,PG ro F j6 h₀ Q .next s->ah .brk s)(hr:∀v s,PG ro F j6 h₀ Q (.ret v) s->ah (.ret v) s):∀g s,PG ro F W K.h (Fw.lp (λK=>∃m',m'<m/\I m' K) Q) g s->ah g s:=λg s p=>
 p.cA λW' aZ w r e fl k=>by
  cases w with
  |n=>exact ak (fl:g=.next) (k.elim λm' k=>(hn s m' W' aZ k.1 r (vO.cO e) k.2).1)
  |c=>exact ak (fl:g=.cont) (k.elim λm' k=>(hn s m' W' aZ k.1 r (vO.cO e) k.2).2)
  |b=>exact ak (fl:g=.brk) (hb s ⟨W',aZ,.n,r,vO.cO e,Y,k⟩)
  |r x=>exact b5 fl λv fl=>ak fl.1 (hr v s ⟨W',aZ,.r x,r,vO.cO e,⟨v,Y,fl.2⟩,k⟩)
theorem IL(I:Nat->QA){m₀:Nat}(i0:I m₀ K)(turn:∀m K,I m K->WT n t (λc K=>if c then WB n a (Fw.lp (λK=>∃m',m'<m/\I m' K) Q) K else WB n b Q K) K):WS n (.pC t a b) Q K:=λF A W s x T f c=>c.elim λt' c=>c.elim λa' c=>c.elim λb' c=>c.elim λp c=>kN c.1<|wpAny_While<|by
 refine codeAny_whileLoop (λm s'=>∃W' aZ,aW F W' aZ s'/\Ext F.bT W K.h W' aZ.h/\I m aZ) (λm s' hI=>?_) m₀ ⟨W,K,T.aC,Ext.lM,i0⟩;refine hI.elim λW' hI=>hI.elim λaZ hI=>gC (turn m aZ hI.2.2 F A W' s' t' ⟨T.aD,hI.1⟩ c.2.1) (λd bQ q=>q.cA λcU cf d' eK eX v k=>?_) λi i x=>x.elim;subst v;have E:=hI.2.1.cO eX
 cases d
 .exact gC (k F A cU bQ b' ⟨T.aD,eK⟩ f c.2.2.2) (λg dy p=>p.cO E) λi i x=>x.elim
 .exact gC (k F A cU bQ a' ⟨T.aD,eK⟩ f c.2.2.1) (Zf E (λs m' W' aZ lt r e k=>⟨⟨m',lt,W',aZ,r,e,k⟩,⟨m',lt,W',aZ,r,e,k⟩⟩) (λs p=>p) λv s p=>p) λi i x=>x.elim
end
theorem PK{o:bh}{l:List (aY×bh)}{p:aY×bh}(m:p∈l):∃o',(p.1,o')∈ee d o l:=by
 have h:p.1∈(ee d o l).map (·.1):=by rw[vA];exact dw m
 exact(bk.mp h).elim λq k=>⟨q.2,aj k.2 k.1⟩
variable{i:Nat} {nm:aP}
section
variable{ai:QA} {o:Sx} {v:aN}
theorem BQ{sc:dY}(h:od sc i nm=O):cx sc i=nm/\nm≠fU/\(sc.names.lookup nm=M .local\/sc.names.lookup nm=M .cell):=
 have h:=dH.mp h;have k:=dH.mp h.2
 ⟨bq h.1,bne_iff_ne.mp k.2,(D5.mp k.1).imp bq bq⟩
theorem aW.setCell{c:aY}{ob i5:bh}{w:Option aN}(R:aW F W K s)(nd:∀j,cx F.b j=cx F.b i->j=i)(kd:F.bB.kindOf (cx F.b i)=M .cell)(own:F.bT c)(c1:F.l.lookup (cx F.b i)=M c)(c2:(c,ob)∈W.n)(c3:ob.data=.cell w)
 (g:h'.get? c=M i5)(d:i5.data=.cell (M v))(sb:mf c s.heap h')(vy:VR W (aX K.h) v y):aW F ⟨W.bG,ee c i5 W.n⟩ (K.eR i y) {s with heap:=h'}/\Ext F.bT W K.h ⟨W.bG,ee c i5 W.n⟩ K.h:=by
 have z:=R.aC.aD _ c2;have H:=R.aC.aC
 have nf:¬jg W K.h c:=H.mw c2 λf=>f.2.1 _ c3;have ne:∀{p:aY×bh},p∈W.n->(∀v,p.2.data≠.cell v)->p.1≠c:=λ{p} m q e=>by cases p;subst e;exact q _ (ak (R.kr m c2) c3)
 have t:Tu W ⟨W.bG,ee c i5 W.n⟩ (aX K.h) (aX K.h):=⟨λl q=>⟨q,Y⟩,λb ws m=>jB (ne m λv e=>by cases e) m⟩
 have F':=R.fr.change sb z.2.1 z.2.2;refine⟨⟨⟨λp hp=>?_,⟨λl q e=>(H.aC l q e).bN t (λr=>Y) λb c' l0 i m=>jB (λw=>nf ⟨(l,b),⟨l0,mu e,λw=>ak e (i w)⟩,w⟩) m,(show((ee c i5 W.n).map (·.1)).Nodup by rw[vA];exact H.aG),H.aJ,H.aD,H.aI⟩,R.aC.aI,R.aC.aG,R.aC.aG.keeps F'.keep,R.aC.bj,R.aC.bb,R.aC.aT⟩,⟨_,F',λj x e=>?_⟩,λy' hy=>?_,R.aI,λp hp=>?_⟩,
  ⟨λl q=>⟨q,id,λr=>Y⟩,λp m r nx=>jB (λe=>nx (ak e own)) m,λp m=>PK m,λl n q=>ax q n,λr=>id⟩⟩
 .obtain⟨p',iY,rfl⟩:=bk.mp hp;by_cases e:p'.1=c
  .rw[aw e];exact⟨g,z.2⟩
  .rw[av e];exact⟨(sb.2 _ e).trans (R.aC.aD p' iY).1,(R.aC.aD p' iY).2⟩
 .by_cases ji:j=i
  .subst ji;exact⟨v,.inr ⟨.inl kd,c,i5,c1,.inl (ue c2),d⟩,bu ((aw Y:aH K.m j y j=M y).symm.trans e)▸vy.bN t⟩
  .exact(R.lo j x ((av ji:aH K.m i y j=K.m j).symm.trans e)).elim λu k=>⟨u,k.1.imp id λk=>⟨k.1,k.2.elim λa k=>k.elim λo k=>⟨a,o,k.1,k.2.1.imp (λm=>jB (λ(e:a=c)=>ji (nd j (R.aI _ _ _ k.1 (ak e c1)))) m) id,k.2.2⟩⟩,k.2.bN t⟩
 .exact(R.aG y' hy).elim λa q=>q.elim λo q=>q.elim λv' q=>by
   by_cases e:a=c
   .subst e;exact⟨a,i5,M v,q.1,ue c2,d⟩
   .exact⟨a,o,v',q.1,jB e q.2.1,q.2.2⟩
 .have k:=R.aD p hp;exact⟨k.1,k.2.1.elim λo q=>⟨o,jB (ne q.1 λv w=>k.1.elim λes k=>k.elim λep k=>jz ((w.symm.trans q.2).trans k) Y) q.1,q.2⟩,k.2.2⟩
theorem PL(T:St F A n W K s)(nd:∀i j,cx F.b i=cx F.b j->cx F.b i≠fU->i=j)(it:od F.b i nm=O)(kd:F.b.names.lookup nm=M .local)(vy:VR W (aX K.h) v y){P:Unit->bK->Prop}(q:∀h' tk,mf F.L s.heap h'->aW F W (K.eR i y) {s with heap:=h',toks:=tk}->P () {s with heap:=h',toks:=tk}):wpAny Md A (NP F.bB nm v) P ba s:=by
 obtain⟨rfl,ne,_⟩:=BQ it;have R:=T.aC
 refine wpAny_storeName_local kd R.fr.ns (λh' hn hs=>q h' _ hs ?_) (by show(F.b.kind==.class||(F.b.kind==.module&&F.L !=mj))=Z;rw[T.aD.aD];rfl)
 have F':=R.fr.set hn hs;refine⟨⟨R.aC.aD.set hs,R.aC.aC,R.aC.aI,R.aC.aG,R.aC.aG.keeps F'.keep,R.aC.bj,R.aC.bb,R.aC.aT⟩,⟨_,F',λj x e=>?_⟩,R.aG,R.aI,R.aD⟩;by_cases ji:j=i
 .subst ji;exact⟨v,.inl ⟨kd,aw Y⟩,aj (bu ((aw Y:aH K.m j y j=M y).symm.trans e)) vy⟩
 .exact(R.lo j x ((av ji:aH K.m i y j=K.m j).symm.trans e)).elim λu k=>⟨u,k.1.imp (λk=>⟨k.1,(av λw=>ji (nd j i w (ak w ne))).trans k.2⟩) id,k.2⟩
theorem zC(T:St F A n W K s)(nd:∀i j,cx F.b i=cx F.b j->cx F.b i≠fU->i=j)(it:od F.b i nm=O)(hf:F.fo≠U\/F.b.names.lookup nm=M .local)(vy:VR W (aX K.h) v y)(q:ai (K.eR i y)):wpAny Md A (NP F.bB nm v) (sh F W K.h ai) ba s:=by
 rcases(BQ it).2.2 with kd|kd
 .exact PL T nd it kd vy λh' a a R'=>⟨W,K.eR i y,(),R',Ext.lM,trivial,q⟩
 obtain⟨rfl,ne,_⟩:=BQ it;have uq:∀j,cx F.b j=cx F.b i->j=i:=λj e=>nd j i e (ak e ne)
 have R:=T.aC
 .exact(R.aG _ kd).elim λc k=>k.elim λob k=>k.elim λw k=>wpAny_storeName_cell T.aD.aD kd k.1 ⟨ob,(R.aC.aD _ k.2.1).1,k.2.2⟩ λh' hv hs=>b5 hv λi5 d=>
   have m:=R.setCell uq kd (.inl ⟨_,kd,k.1,hf.resolve_right λe=>yX (kd.symm.trans e) Y⟩) k.1 k.2.1 k.2.2 d.1 d.2 hs vy
   ⟨_,K.eR i y,(),m.1,m.2,trivial,q⟩
end
variable{w:Be}
section
variable{ai:QA} {o:Sx} {v:aN}
theorem PM(h:WE n e (λx aS=>ai (aS.eR i x)) K):WN n (.s (.v i) e) ai K:=λF A W s x T f c=>c.elim λtg c=>c.elim λv c=>c.elim λp c=>c.2.1.elim λy q=>q.elim λq k=>kN c.1<|k.1▸WM
 (zt BP (f:=λv=>NP F.bB y v) T (h F A W s v T c.2.2.1) λu a8 a5 aS x gv a vx k'=>xM (zC gv f.aC k.2 (.inl f.aD) vx k')) (c.2.2.2 _ _ _)
def IO(w:Be)(x y z:V):Prop:=∀A W D s v u,VR W D v x->VR W D u y->∀R:QE,(∀r tk,VR W D r z->R r {s with toks:=tk})->wpAny Md A (inplaceOp w v u) R ba s
theorem xN{i j:Int}:IO .Add (.i i) (.i j) (.i (i+j)):=λA W D s v u vx vy R h=>b5 vx λt e=>b5 vy λt' e'=>ak e (e'▸aly (h _ _ ⟨_,Y⟩))
theorem Zg{i j:Int}:IO .Sub (.i i) (.i j) (.i (i-j)):=λA W D s v u vx vy R h=>b5 vx λt e=>b5 vy λt' e'=>ak e (e'▸alw (h _ _ ⟨_,Y⟩))
theorem BS(hm:K.m i=M x)(h:WE n e (λy aS=>∃z,IO w x y z/\ai (aS.eR i z)) K):WN n (.xB i w e) ai K:=λF A W s q T f c=>c.elim λy c=>c.elim λq c=>c.elim λv c=>c.elim λp c=>kN c.1<|wpAny_AugAssign_Name<|
 Ip T c.2.1 hm λu vu=>wm (h F A W s v T c.2.2.2) (λv a8 p=>p.cA λa5 aS y R e vy k=>k.elim λz k=>k.1 A a5 _ a8 u v (vu.bN (e.tu T.aC.aC.aC T.aC.nx)) vy _ λr tk vz=>
  xM (jL e (zC ⟨T.aD,R.qg tk⟩ f.aC c.2.2.1 (.inl f.aD) vz k.2)))
theorem IM(h:WE n o (λx aS=>∃v,R1 aS (λo=>yU o (fD c) O) x v/\WE n e (λy cf=>∃z,IO w v y z/\BO x c z ai cf) aS) K):WN n (.vF o c w e) ai K:=λF A W s q T f c=>c.elim λov c=>c.elim λy c=>c.elim λq c=>c.elim λv c=>c.elim λp c=>kN c.1<|wpAny_AugAssign_AttributeAny<|
 wm (h F A W s ov T c.2.2.1) (λu a8 p=>p.cA λa5 aS x R e vx k=>k.elim λw k=>wm (aj (vp c.2.1) (k.1 F A n a5 a8 u ⟨T.aD,R⟩ vx)) (λold bQ g=>g.1.elim λtk eX=>eX▸wm (k.2 F A a5 _ v ⟨T.aD,R.qg tk⟩ c.2.2.2) (λv dy p=>p.cA λeZ fy y og vP vy q=>q.elim λz q=>
  have t:=vP.tu R.aC.aC R.nx
  q.1 A eZ _ dy old v (g.2.bN t) vy _ λr tk vz=>xM (jL (e.cO vP) (aj (vp c.2.1) (q.2 F A n eZ _ u r ⟨T.aD,og.qg tk⟩ (vx.bN t) vz))))))
end
def AS.IP(is:Nl):Vs->AS->AS:=qO (motive:=λa=>Vs->AS->AS) (λa K=>K) (λi a ih xs K=>qO (motive:=λa=>AS) K (λx r a=>ih r (K.eR i x)) xs) is
def Tg.is(t:Tg):Nl:=Tg.rec (motive:=λa=>Nl) (λi=>[i]) (λis=>is) t
def ur(t:Tg)(y:V)(ai:QA)(K:AS):Prop:=Tg.rec (motive:=λa=>Prop) (λi=>ai (K.eR i y)) (λis=>∃xs,y=V.bP xs/\xs.length=is.length/\ai (AS.IP is xs K)) t
def Nd(F:Fm):Prop:=∀i j,cx F.b i=cx F.b j->cx F.b i≠fU->i=j
def PN(F:Fm)(is:Nl):Prop:=F.fo≠U\/∀i∈is,∀x,od F.b i x=O->F.b.names.lookup x=M .local
section
variable{ai:QA} {v:aN} {tk:Nat}
theorem aW.sA(R:aW F W K s)(hk:∀b o,s.heap.get? b=M o->H'.get? b=M o):aW F W K {s with heap:=H',toks:=tk}:=
 R.vE (s':={s with heap:=H',toks:=tk}) (t':=K.t) (R.fr.keeps hk) (λp hp=>⟨hk _ _ (R.aC.aD p hp).1,(R.aC.aD p hp).2⟩) ⟨R.aC.aC,Ext.lM⟩ (λa a m a=>m) R.aC.aI Y Y
theorem Zh{sc:dY}{env:jf}(is:Nl):∀{l:List bU},Bv sc is l->(Hs l env).length=is.length/\(Hs l env).findIdx? (·.1)=U:=by
 induction is with
 |nil=>exactλ{l} h=>ak (h:l=[]) ⟨Y,Y⟩
 |cons i is ih=>
  exactλ{l} h=>b5 h λx h=>h.elim λp h=>h.elim λr h=>by have k:=ih (l:=r) h.2.2;rw[h.1];show(((Z,yW (.Name x p) env)::Hs r env).length=_)/\List.findIdx? _ ((Z,yW (.Name x p) env)::Hs r env)=U;rw[G6,k.2];exact⟨aq Bb k.1,Y⟩
theorem Zi(nd:Nd F)(is:Nl):∀{l:List bU}{vs:List aN}{xs:Vs}{K:AS}{W:Wd}{s:bK},St F A n W K s->Bv F.b is l->PN F is->bL (VR W (aX K.h)) vs xs->xs.length=is.length->ai (AS.IP is xs K)->wpAny Md A (assignInOrder ((Hs l F.bB).map (·.2)) vs) (sh F W K.h ai) ba s:=by
 induction is with
 |nil=>
  intro l vs xs K W s T h hf al z q;rw[show l=[] from h]
  exact bg (T.pg (x:=()) trivial q)
 |cons i is ih=>
  intro l vs xs K W s T h hf al z q;obtain⟨x,p,r,rfl,h1,h2⟩:=h;cases xs with
  |nil=>exact dS z rfl
  |cons y ys=>
   obtain⟨v,us,rfl,vy,al⟩:=al.lK;exact aK (ij (WJ (wm (zC (ai:=λaZ=>aZ=K.eR i y) T nd h1 (hf.imp id λk=>k i (.head _) x h1) vy Y) (λa a8 p=>p.cA λa5 aS a R e a k=>by subst k;exact jL e (ih ⟨T.aD,R⟩ h2 (hf.imp id λk j hj=>k j (.tail _ hj)) (al.bN λa a=>VR.bN (e.tu T.aC.aC.aC T.aC.nx)) (qK z) q)))))
theorem IQ{t:Tg}{tg:bU}(T:St F A n W K s)(nd:Nd F)(c:qZ F.b t tg)(hf:PN F t.is)(vy:VR W (aX K.h) v y)(q:ur t y ai K):wpAny Md A (yW tg F.bB v) (sh F W K.h ai) ba s:=by
 cases t with
 |v i=>obtain⟨x,p,rfl,it⟩:=c;exact WJ (zC T nd it (hf.imp id λk=>k i (.head _) x it) vy q)
 |a is=>
  obtain⟨l,k,p,rfl,c⟩:=c;obtain⟨xs,rfl,z,q⟩:=q;obtain⟨a,vs,rfl,ht,al⟩:=VR.kJ.mp vy;have l2:=Zh (env:=F.bB) is c
  exact wpAny_assign_Tuple T.aD.aC (items:=vs.toArray) ⟨_,T.aC.th a vs ht,Y,0,Y⟩ (by rw[l2.1,<-z,<-al.gU,wV]) l2.2 λh' he=>Zi nd is ⟨T.aD,T.aC.sA (tk:=s.toks) λb o g=>he b o (gZ (d9 g)) g⟩ c hf al z q
theorem Fg{is:Nl}(h:WE n e (λy aS=>∃xs,y=V.bP xs/\xs.length=is.length/\ai (AS.IP is xs aS)) K):WN n (.s (.a is) e) ai K:=λF A W s x T f c=>c.elim λtg c=>c.elim λv c=>c.elim λp c=>b5 c.2.1 λl q=>q.elim λkk q=>q.elim λtp k=>kN c.1<|k.1▸wpAny_Assign_stores
 (zt BP (f:=λv=>yW (.Tuple l kk tp) F.bB v) T (h F A W s v T c.2.2.1) λu a8 a5 aS x gv b vx k'=>xM (IQ (t:=.a is) gv f.aC ⟨l,kk,tp,Y,k.2⟩ (.inl f.aD) vx k')) (c.2.2.2.1 l kk tp p.line F.bB) (c.2.2.2.2 l kk tp F.bB)
end
variable{Q:QV} {de:List dJ} {a:aY}
section
variable{ai:QA} {v:aN} {tk:Nat} {ds:Es} {a7:Array aN}
theorem BU(h:m<=33554432):(m:Int)<2^63:=AW (qc.mpr h) (ao Y)
theorem PO(hd:(d==qe)=Z)(ho:s.heap.get? d=M (fV de k))(z:de.length<=33554432)(h:R (.int de.length (s.toks+1)) {s with toks:=s.toks+1+1}):wpAny Md A (Builtin.«len» ⟨[.ref d],[]⟩) (λfin s'=>∃r,fin=.done (.ret r)/\R r s') ba s:=by
 have hT:s.TypeIs (.ref d) "dict":=⟨_,ho,Y⟩;unfold Builtin.«len»;refine aK (m:=oneArg "len" _) (bg ?_);refine aK (m:=callSpecial? (.ref d) (bo "__len__")) (wQ (name:=bo "__len__") hT F.slot_dict_len (mT F.slot_dict_len hT F.entry_dict_len ?_ (F.args_dict_len_1 _)));refine aK (m:=dictSize d) ?_;unfold dictSize;refine aK (tX ho Y (bg (aK (m:=ali d) (wpAny_pendingCount_other hd (aK (wpAny_mkInt (bg ⟨_,Y,?_⟩)))))));have e:((de.toArray.size:Nat):Int)+((0:Nat):Int)=(de.length:Int):=Int.add_zero _
 rw[e];refine aK (ij (bg (aK (wpAny_letGo ?_))));show wpAny _ _ (if((de.length:Nat):Int)<0 then _ else _) _ _ _;rw[av (vm.mpr (jH _))];show wpAny _ _ (if((de.length:Nat):Int)≥2^63 then _ else _) _ _ _;rw[av (NF.mpr (BU z))];exact aK (wpAny_mkInt (bg ⟨_,Y,h⟩))
theorem Zj(hl:K.h l=M (.d ds))(q:Q (.i ds.length) K):OL n (.builtin "len") [.e l] Q K:=oR (j5 _) λF A W s v T vx=>vx.1▸
 have ln:=(T.aC.lQ hl).gU
 aiH kind_len plain_len entry_len (args_len1 _) (PO (T.aC.n7 T.aD (T.aC.dm hl)) (T.aC.dg hl) (ak ln (T.aC.dz hl)) (T.ku (x:=.i ds.length) _ ⟨s.toks+1,by rw[ln]⟩ q))
theorem Zk(q:Q (.i vs.length) K):OL n (.builtin "len") [V.bP vs] Q K:=oR (j5 _) λF A W s v T vx=>b5 (VR.kJ.mp vx) λa p=>p.elim λws p=>p.1▸
 alu (items:=ws.toArray) ⟨_,T.aC.th a ws p.2.1,Y,0,Y⟩ (BU (p.2.1.2:ws.toArray.size<=_)) (T.ku (x:=.i vs.length) _ ⟨_,by rw[<-p.2.2.gU];rfl⟩ q)
theorem Zl{j:Int}{t:nX}(f1:¬(!VX j)=O)(f2:(if j<0 then(j+((a7.size:Nat):Int)).toNat else min j.toNat a7.size)=i)(f3:a7.size<=Bd)(g:s.heap.get? a=M (listOf a7 k))
 (h:∀h' k',mf a s.heap h'->h'.get? a=M (listOf ((a7.extract 0 i).push u++a7.extract i) k')->R .none {s with heap:=h'}):wpAny Md A (call (.builtin "list.insert") [.ref a,.int j t,u]) R ba s:=by
 subst f2;exact NM aiA ⟨_,g,Y⟩ PySem.F.entry_list_insert (PySem.F.args_list_insert_3 _ _ _) (akZ a a7 k j t u f1 f3) ⟨g,h _ _ (rW ..) (rV (h:=s.heap) (a:=a) (f:=A7 λxs=>have k:=if j<0 then(j+((xs.size:Nat):Int)).toNat else min j.toNat xs.size;(xs.extract 0 k).push u++xs.extract k) g Y)⟩
theorem Zm(l0:l.1≠0)(hl:K.h l=M (.l vs))(hj:j<=vs.length)(z:vs.length<16777216)(q:Q .n (K.aF l (.l (vs.take j++y::vs.drop j)) K.t)):OL n (.builtin "list.insert") [.e l,.i j,y] Q K:=Py (j5 _) λF A W s v w u T vx vj vy=>vx.1▸b5 vj λt e=>e▸
 have ln:=T.aC.lP hl;have al:=T.aC.hM hl
 Zl (i:=j) (by rw[fits63 (AY hj) (aL z (ao Y))];exact d8) ((av (vm.mpr (jH j))).trans (Hj (ak ln hj))) (by rw[ln,kg];exact gB z) (T.aC.fE hl) λh' k' sb g=>
  T.aC.Fc (x:=.n) (tk:=s.toks) l0 hl sb g (by
   have e:(((T.aC.a7 hl).extract 0 j).push u++(T.aC.a7 hl).extract j).toList=(T.aC.a7 hl).toList.take j++u::(T.aC.a7 hl).toList.drop j:=by rw[ajb,ajn,ai7,ai7,tW];generalize T.aC.a7 hl=ws;simp[yI]
   rw[e];exact(al.HS j).vt (.gE vy (al.xn j))) (by rw[dW,oE,Nat.add_succ,<-dW,M6];exact aL z (ao Y)) Y q
theorem Zn:Tr K (V.bP vs) (!vs.isEmpty):=λF A n W s v T vx=>b5 (VR.kJ.mp vx) λa p=>p.elim λws p=>p.1▸
 truthy_tuple (items:=ws.toArray) ⟨_,T.aC.th a ws p.2.1,Y,0,Y⟩ (BU (p.2.1.2:ws.toArray.size<=_)) ⟨⟨_,Y⟩,bL.Pm (as:=ws.toArray) p.2.2⟩
theorem Zo{w:aP}(h:w.length<=16777216):Tr K (.s w) (w.length !=0):=λF A n W s v T vx=>b5 vx λt e=>e.1▸
 PySem.P.truthy_str (NF.mpr (BU (aL h (ao Y)))) ⟨⟨_,Y⟩,by cases w.length<;>rfl⟩
end
variable{o':bh} {vs:Array aN}
section
variable{tk:Nat} {o:bh}
theorem aW.PQ(R:aW F W K s)(m:(a,o)∈W.n)(d:jK o vs):¬jg W K.h a:=R.aC.aC.mw m λf=>f.2.2 _ d
theorem aW.Zp(R:aW F W K s)(m:(a,o)∈W.n)(d:jK o vs):¬F.bT a:=λq=>(R.OF m q).elim (λk=>k.elim λv k=>jz (d.1.symm.trans k) Y) λk=>k.elim λes k=>k.elim λep k=>jz (d.1.symm.trans k) Y
theorem aW.IT(R:aW F W K s)(hf:o.isFreed=Z):aW F ⟨W.bG,(s.heap.objs.size,o)::W.n⟩ K {s with heap:=s.heap.push o,toks:=tk}/\Ext F.bT W K.h ⟨W.bG,(s.heap.objs.size,o)::W.n⟩ K.h:=
 have ae:HR F.g ⟨W.bG,(s.heap.objs.size,o)::W.n⟩ K.h/\Ext F.bT W K.h ⟨W.bG,(s.heap.objs.size,o)::W.n⟩ K.h:=HR.yZ R.aC.aC λp hp=>d9 (R.aC.aD p hp).1
 ⟨R.vE (s':={s with heap:=s.heap.push o,toks:=tk}) (t':=K.t) (R.fr.push _) (Bq R.fr R.aC.aD (λb o e=>eW _ e) (jG _ hf) λb o e=>d9 e) ae (λa o m c=>.tail _ m) R.aC.aI Y Y,ae.2⟩
theorem aW.IU{mZ:List (aY×bh)}(R:aW F W K s)(k:∀p∈W.n,(∀vs,¬jK p.2 vs)->p∈mZ)(F':Fr F.h₀ F.L H' R.mm)(N':ub F.h₀ F.L H' mZ)(nd:(mZ.map (·.1)).Nodup):aW F ⟨W.bG,mZ⟩ K {s with heap:=H',toks:=tk}:=by
 have H:=R.aC.aC;have t:Tu W ⟨W.bG,mZ⟩ (aX K.h) (aX K.h):=⟨λl q=>⟨q,Y⟩,λb ws mb=>k _ mb λv f=>by cases f.1⟩
 refine⟨⟨N',⟨λl q e=>(H.aC l q e).bN t (λc=>Y) λb c' l0 i m=>k _ m λvs f=>R.PQ m f ⟨(l,b),⟨l0,mu e,λw=>ak e (i w)⟩,Y⟩,nd,H.aJ,H.aD,H.aI⟩,R.aC.aI,R.aC.aG,R.aC.aG.keeps F'.keep,R.aC.bj,R.aC.bb,R.aC.aT⟩,⟨_,F',λj x e=>?_⟩,λy' hy=>?_,R.aI,λp hp=>?_⟩
 .exact(R.lo j x e).elim λu q=>⟨u,q.1.imp id λq=>⟨q.1,q.2.elim λa q=>q.elim λo q=>⟨a,o,q.1,q.2.1.imp (λm=>k _ m λvs f=>jz (f.1.symm.trans q.2.2) Y) id,q.2.2⟩⟩,q.2.bN t⟩
 .exact(R.aG y' hy).elim λa q=>q.elim λo q=>q.elim λv' q=>⟨a,o,v',q.1,k _ q.2.1 (λvs f=>jz (f.1.symm.trans q.2.2) Y),q.2.2⟩
 .have z:=R.aD p hp;exact⟨z.1,z.2.1.elim λo q=>⟨o,k _ q.1 (λvs f=>z.1.elim λes k=>k.elim λep k=>jz ((f.1.symm.trans q.2).trans k) Y),q.2⟩,z.2.2⟩
theorem aW.Zq(R:aW F W K s)(m:(a,o)∈W.n)(d:jK o vs)(sb:mf a s.heap H')(g:H'.get? a=M o'):aW F ⟨W.bG,ee a o' W.n⟩ K {s with heap:=H',toks:=tk}/\Ext (λb=>F.bT b\/b=a) W K.h ⟨W.bG,ee a o' W.n⟩ K.h:=by
 have z:=R.aC.aD _ m;refine⟨R.IU (λp mp q=>jB (λe=>?_) mp) (R.fr.change sb z.2.1 z.2.2) (λp hp=>?_) (by rw[vA];exact R.aC.aC.aG),λl q=>⟨q,id,λc=>Y⟩,λp m c nx=>jB (λe=>nx (.inr e)) m,λp m=>PK m,λl n q=>ax q n,λc=>id⟩
 .cases p;subst e;exact q _ (aj (R.kr m mp) d)
 .obtain⟨p',iY,rfl⟩:=bk.mp hp;by_cases e:p'.1=a
  .rw[aw e];exact⟨g,z.2⟩
  .rw[av e];exact⟨(sb.2 _ e).trans (R.aC.aD p' iY).1,(R.aC.aD p' iY).2⟩
theorem aW.PR{J:List aY}(R:aW F W K s)(hJ:∀a∈J,∃o vs,(a,o)∈W.n/\jK o vs)(hk:∀b o,b∉J->s.heap.get? b=M o->H'.get? b=M o):aW F ⟨W.bG,W.n.filter λp=>decide (p.1∉J)⟩ K {s with heap:=H',toks:=tk}:=by
 have nJ:∀a∈J,a≠F.L/\F.h₀.get? a=U:=λa h=>(hJ a h).elim λo q=>q.elim λvs q=>(R.aC.aD _ q.1).2;refine R.IU (λp mp q=>iH.mpr ⟨mp,az λh=>(hJ _ h).elim λo w=>w.elim λvs w=>q vs (aj (R.kr w.1 mp:o=p.2) w.2)⟩) ⟨R.fr.ns.at λo e=>hk _ _ (λq=>(nJ _ q).1 Y) e,λb o e=>hk _ _ (λq=>cK ((nJ _ q).2.symm.trans e)) (R.fr.keep b o e),R.fr.above⟩ (λp m=>?_) (R.aC.aC.aG.sublist (yJ.map _));have m:=iH.mp m
 have z:=R.aC.aD p m.1;exact⟨hk _ _ (aB m.2) z.1,z.2⟩
theorem Ext.IV{j6:Wd}{h₀:Hp}{mZ:List (aY×bh)}{J:aY->Prop}(e:Ext X j6 h₀ W h₁)(n:∀p∈j6.n,¬J p.1)(k:∀p∈W.n,¬J p.1->p∈mZ):Ext X j6 h₀ ⟨W.bG,mZ⟩ h₁:=
 ⟨e.aC,λp m f x=>k p (e.aD p m f x) (n p m),λp m=>(e.aG p m).elim λo q=>⟨o,k _ q (n p m)⟩,e.aI,e.aJ⟩
end
open AutoSeq1 (wpAny_loadPart')
theorem Zr{it:aY}{o:bh}{nm:String}{tg:bU}{v:aN}{Q:Unit->bK->Prop}(g:s.heap.get? it=M o)(hc:o.cls=.type nm)
 (hn:["enumerate","zip","dict_itemiterator","dict_reverseitemiterator","odict_iterator","itertools.zip_longest","itertools.pairwise"].contains nm=Z)(q:Q () s):
 wpAny Md A (Hl tg (.ref it) v) Q E s:=by
 have go:wpAny Md A (do
  let(.ref r,.ref a):=(ik it,v)|return
  let o<-load r
  match o.cls,o.data with
  |.type n,.fields vs=>
   if ["enumerate","zip","dict_itemiterator","dict_reverseitemiterator","odict_iterator","itertools.zip_longest","itertools.pairwise"].contains n&&vs[0]?==M (gj a)then
    rule "for.unpacks-the-owned-tuple"
    updateField r 0 .none
  |_,_=>pure ()) Q E s:=by
  cases v<;>first|exact bg q|skip;refine aK (wpAny_load g ?_);rw[hc];cases o.data<;>first|exact bg q|skip;simp only[hn,WW,yK,if_false];exact bg q
 unfold Hl;cases tg<;>first|exact go|exact bg q
theorem Zt{ds:List dJ}{ep:Nat}{Q:QE}(hd:(d==qe)=Z)(ho:s.heap.get? d=M (fV ds ep))
 (hQ:Q (.ref s.heap.objs.size) {s with heap:=s.heap.push {cls:=.type "dict_keyiterator",data:=.fields #[.ref d,.int 0 0,.int ds.length 0,.int ep 0]}}):
 wpAny Md A (t7 (.ref d)) Q E s:=by
 have hT:s.TypeIs (.ref d) "dict":=⟨_,ho,Y⟩;refine aj3 hT F.slot_dict_iter (mT F.slot_dict_iter hT F.entry_dict_iter ?_ (F.args_dict_iter_1 _));unfold Builtin.«dict.__iter__»;refine aK ?_;unfold alm;refine aK (G1 hT ?_);show wpAny _ _ (pure (ik d)) _ _ s;refine bg ?_;show wpAny _ _ (GW d>>=_) _ _ s;unfold GW;rw[av (by rw[hd];exact d8)]
 refine aK (bg ?_);refine aK (tX ho Y ?_);refine aK (rZ ho Y ?_);refine aK (rX (bg ⟨_,Y,"dict_keyiterator",_,⟨_,jG _ Y,Y⟩,F.slot_dict_keyiterator_next.lookup,?_⟩))
 simpa [gj]using hQ
theorem IW{Q:α->bK->Prop}(hh:A.handled=U)(h:∀h' e,(∀b o,s.heap.get? b=M o->h'.get? b=M o)->(∃o,h'.get? e=M o/\o.cls=.type "StopIteration")->E (.ref e) {s with heap:=h'}):
 wpAny Md A (newExc (.type "StopIteration") []>>=λe=>raiseNew e) Q E s:=by
 refine aK ?_;unfold newExc NT;refine aK (rX ?_ (by size_fits))
 refine aK (m:=firstArgMember _ _) (wpAny_of_eq (a:=ki) (by rfl) ?_)
 refine rX ?_ (by size_fits)
 unfold raiseNew;refine aK (wpAny_handled ?_);rw[hh];show wpAny _ _ (pure ()>>=λc=>throw _) _ _ _;exact aK (bg (wpAny_throw (h _ _ (λb o e=>eW _ (eW _ e)) ⟨_,jG _ Y,Y⟩)))
theorem Fh{a b:Int}(h:a=b):¬(a !=b)=O:=by rw[h,bne_self_eq_false];exact d8
theorem PT{it:aY}{T id:String}{f:Builtin}{Q:Option aN->bK->Prop}(hT:s.TypeIs (.ref it) T)(sl:PySem.Slot T "__next__" id)(en:entryFor table id=M f)(ar:argsOk id ⟨[.ref it],[]⟩)
 (h:∀{Fi:QE}{Fj:QE},(∀v s',Q (M v) s'->Fi v s')->(∀h' e,(∃o,h'.get? e=M o/\o.cls=.type "StopIteration")->Q U {s with heap:=h'}->Fj (.ref e) {s with heap:=h'})->wpAny Md A.in1 (f ⟨[.ref it],[]⟩) (λfin s'=>∃v,fin=.done (.ret v)/\Fi v s') Fj s):
 wpAny Md A (yV (.ref it)) Q E s:=by
 unfold yV;exact aK (wpAny_attempt (wQ (name:=bo "__next__") hT sl (mT sl hT en (h (λv s' q=>bg q) λh' e x q=>x.elim λo x=>aK (Hf (T:="StopIteration") (b:=O) ⟨o,x⟩ isSubtype_stop (bg q))) ar)))
theorem Zu{it:aY}{ep:Nat}{ds:List dJ}{Q:QE}(hh:A.handled=U)(eS:s.heap.IsKeyIter it d i ds.length ep)(BV:s.heap.get? d=M (fV ds ep))
 (h1:∀e,ds[i]?=M e->∀h',h'.IsKeyIter it d (i+1) ds.length ep->mf it s.heap h'->Q e.key {s with heap:=h'})(h2:ds[i]?=U->∀h' e,(∃o,h'.get? e=M o/\o.cls=.type "StopIteration")->Ei it s.heap h'->E (.ref e) {s with heap:=h'}):
 wpAny Md A (Builtin.«dict_keyiterator.__next__» ⟨[.ref it],[]⟩) (λfin s'=>∃v,fin=.done (.ret v)/\Q v s') E s:=by
 obtain⟨o,ho,hc,hd⟩:=id eS;refine aK (bg (aK (aK (aK (V4 eS.typeIs (bg (aK (ako ho hd ?_))))))));rw[show(AP "dict_keyiterator")=Z by decide]
 show wpAny _ _ (if(ik d==ki)=O then _ else _) _ _ s;rw[av (show¬((ik d==ki)=O) from d8)]
 refine aK (bg (aK (tX BV Y ?_)));rw[av (Fh (show(ds.toArray.size:Int)=(ds.length:Int) from Y))]
 refine aK (bg (aK (rZ BV Y ?_)));rw[av (Fh (show((ep:Nat):Int)=(ep:Int) from Y))]
 refine bg ?_;have ei:(if(i:Int)<0 then U else ds.toArray[(i:Int).toNat]?)=ds[i]?:=(av (vm.mpr (jH i))).trans (uY ..)
 dsimp only;rw[ei];cases hx:ds[i]? with
 |some e=>
  refine aK (aK (V4 eS.typeIs (bg (aK (ajx eS.typeIs ?_)))));rw[show(AP "dict_keyiterator")=Z by decide]
  show wpAny _ _ (NS (.ref it) 1 (gj ((i:Int)+1))>>=_) _ _ s;refine aK (Ec ho hd (by exact Nat.one_lt_succ_succ _) ?_)
  have vC:(s.heap.update it (yR (·.setIfInBounds 1 (gj ((i:Int)+1))))).IsKeyIter it d (i+1) ds.length ep:=
   ⟨_,rV _ ho (G0 (AV hd _)),(Ws ..).trans hc,AV hd _⟩
  refine aK (ij (aK (ajx (s:={s with heap:=s.heap.update it (yR (·.setIfInBounds 1 (gj ((i:Int)+1))))}) vC.typeIs ?_)))
  show wpAny _ _ (pure e.key) _ _ _;exact bg (bg ⟨_,Y,h1 e hx _ vC (rW ..)⟩)
 |none=>
  refine aK (aK (V4 eS.typeIs (bg ?_)));rw[show(AP "dict_keyiterator")=Z by decide]
  show wpAny _ _ (NS (.ref it) 0 .none>>=_) _ _ s;refine aK (Ec ho hd (by exact ajH _) (IW hh λh' e k q=>h2 hx _ _ q λb o n g=>k b o ((rW ..).extBut b o n g)))
theorem Zv{it l:aY} {items}{x:aN}{Q:QE}(eS:s.heap.IsTupleIter it l i)
 (hl:s.heap.IsTuple l items)(hx:items[i]?=M x)
 (hQ:∀h',h'.IsTupleIter it l (i+1)->mf it s.heap h'->Q x {s with heap:=h'}):
 wpAny Md A (MW (.ref it)) Q E s:=by
 obtain⟨o,ho,hc,hd⟩:=id eS;obtain⟨ol,IY,_,nl,IZ⟩:=id hl;unfold MW;refine aK (wQ (name:=bo "__next__") eS.typeIs F.slot_tuple_iterator_next
  (mT F.slot_tuple_iterator_next eS.typeIs F.entry_tuple_iterator_next ?_ (F.args_tuple_iterator_next_1 _)))
 show wpAny _ _ (field (.ref it) 0>>=_) _ _ s;refine aK (xc ho hd (x:=.ref l) Y ?_);show wpAny _ _ (if(ik l==ki)=O then _ else _) _ _ s;rw[av (show¬((ik l==ki)=O) from d8)]
 show wpAny _ _ (field (.ref it) 1>>=_) _ _ s;refine aK (xc ho hd (x:=.int i 0) Y ?_);show wpAny _ _ (seqItems? (.ref l)>>=_) _ _ s;refine aK (Xc IY IZ ?_);simp only[Wu,hx];refine aK (Ec ho hd (by simp) (bg ⟨x,Y,bg (hQ _ ?_ (rW ..))⟩))
 exact⟨_,rV _ ho (G0 (AV hd _)),(Ws ..).trans hc,by rw[AV hd];simp[gj]⟩
theorem PU{it l:aY} {items}{Q:QE}(hh:A.handled=U)
 (eS:s.heap.IsTupleIter it l i)(hl:s.heap.IsTuple l items)(hx:items[i]?=U)
 (hE:∀h' e,Ei it s.heap h'->(∃o,h'.get? e=M o/\o.cls=.type "StopIteration")->E (.ref e) {s with heap:=h'}):
 wpAny Md A (MW (.ref it)) Q E s:=by
 obtain⟨o,ho,hc,hd⟩:=id eS;obtain⟨ol,IY,_,nl,IZ⟩:=id hl;unfold MW;refine aK (wQ (name:=bo "__next__") eS.typeIs F.slot_tuple_iterator_next
  (mT F.slot_tuple_iterator_next eS.typeIs F.entry_tuple_iterator_next ?_ (F.args_tuple_iterator_next_1 _)))
 show wpAny _ _ (field (.ref it) 0>>=_) _ _ s;refine aK (xc ho hd (x:=.ref l) Y ?_);show wpAny _ _ (if(ik l==ki)=O then _ else _) _ _ s;rw[av (show¬((ik l==ki)=O) from d8)]
 show wpAny _ _ (field (.ref it) 1>>=_) _ _ s;refine aK (xc ho hd (x:=.int i 0) Y ?_);show wpAny _ _ (seqItems? (.ref l)>>=_) _ _ s;refine aK (Xc IY IZ ?_);dsimp only;rw[Wu,hx];exact aK (qN (aK (Ec ho hd (by exact ajH _) (IW hh λh' e k q=>hE _ _ (λb o n g=>k b o ((rW ..).extBut b o n g)) q))))
theorem Draws.tuple(hh:A.handled=U)(it l:aY)(I3:l≠it)(items:Array aN):
 Draws pr w0 A it [it,l] items.size (λi v=>items[i]?=M v) (λi h=>h.IsTupleIter it l i/\h.IsTuple l items)where
 live:=λa a st=>let⟨o,ho,_⟩:=st.1;⟨o,ho⟩
 frame:=λa a a st hk=>⟨let⟨o,ho,r⟩:=st.1;⟨o,hk it (by simp) o ho,r⟩,let⟨o,ho,r⟩:=st.2;⟨o,hk l (by simp) o ho,r⟩⟩
 item:=λi s Q E hi st hQ=>by
  refine Zv st.1 st.2 (x:=items[i]) (by simp[hi]) λh' vC pG=>?_
  exact hQ _ h' s.toks (by simp[hi]) ⟨vC,st.2.extBut pG.extBut I3⟩ pG
 done:=λs Q E st hE=>PU hh st.1 st.2 (by simp) hE
theorem Draws.Zw(hh:A.handled=U)(it l:aY)(n:Nat)(items:Array aN)(hn:items.size<=n):
 Draws pr w0 A it [it,l] n (λa a=>False) (λi h=>i=n/\h.IsListIter it l n/\h.IsList l items)where
 live:=λa a st=>let⟨o,ho,_⟩:=st.2.1;⟨o,ho⟩
 frame:=λa a a st hk=>⟨st.1,let⟨o,ho,r⟩:=st.2.1;⟨o,hk it (by simp) o ho,r⟩,let⟨o,ho,r⟩:=st.2.2;⟨o,hk l (by simp) o ho,r⟩⟩
 item:=λi s Q E hi st hQ=>ax st.1 (gZ hi)
 done:=λs Q E st hE=>wpAny_nextOf_list_end hh st.2.1 st.2.2 (by simp;omega) hE
theorem Draws.Zx(hh:A.handled=U)(it l:aY)(n:Nat)(items:Array aN)(hn:items.size<=n):
 Draws pr w0 A it [it,l] n (λa a=>False) (λi h=>i=n/\h.IsTupleIter it l n/\h.IsTuple l items)where
 live:=λa a st=>let⟨o,ho,_⟩:=st.2.1;⟨o,ho⟩
 frame:=λa a a st hk=>⟨st.1,let⟨o,ho,r⟩:=st.2.1;⟨o,hk it (by simp) o ho,r⟩,let⟨o,ho,r⟩:=st.2.2;⟨o,hk l (by simp) o ho,r⟩⟩
 item:=λi s Q E hi st hQ=>ax st.1 (gZ hi)
 done:=λs Q E st hE=>PU hh st.2.1 st.2.2 (by simp;omega) hE
theorem Zy{c:aN}{Q:Bool->bK->Prop}(h:∀b,Q b s):wpAny Md A (VV c) Q E s:=by unfold VV;exact aK (wpAny_stack_any λst=>bg (h _))
theorem Zz{l:aY}{items:Array aN}{Q:QE}(hL:s.heap.IsTuple l items)
 (h:Q (.ref (s.heap.push {cls:=.type "tuple_iterator",data:=.fields #[.ref l,.int 0 0]}).objs.size) {s with heap:=(s.heap.push {cls:=.type "tuple_iterator",data:=.fields #[.ref l,.int 0 0]}).push {cls:=.type "enumerate",data:=.fields #[.none,.bool Z,.ref s.heap.objs.size,gj 0,.none,.none]}}):
 wpAny Md A (Builtin.«enumerate.__new__» ⟨[.type "enumerate",.ref l],[]⟩) (λfin s'=>∃r,fin=.done (.ret r)/\Q r s') E s:=by
 unfold Builtin.«enumerate.__new__»;have go:wpAny Md A (t7 (.ref l)>>=λx=>akT (.type "enumerate") (akS++[x,gj 0,.none,.none])>>=λr=>ret r) (λfin s'=>∃r,fin=Fin.done (.ret r)/\Q r s') E s:=
  aK (ajU hL (aK (m:=newObj (.type "enumerate") (.fields #[.none,.bool Z,.ref s.heap.objs.size,gj 0,.none,.none])) (rX (bg ⟨_,Y,h⟩))))
 have nc:wpAny Md A (aio "enumerate" ⟨[.type "enumerate",.ref l],[]⟩) (λr s'=>r=(.type "enumerate",[.ref l])/\s'=s) E s:=by unfold aio;refine aK (m:=isType _) (bg ?_);refine aK (m:=isSubtype _ _) ?_;rw[sub_enumerate];exact bg (bg ⟨Y,Y⟩)
 refine aK (wm nc λr s' e=>?_);obtain⟨rfl,rfl⟩:=e;refine aK (m:=VV _) (Zy λb=>?_);cases b
 .refine aK (m:=pure (ik l,U)) (bg go)
 .refine aK (m:=pure (ik l,U)) (bg go)
theorem ZA{it:aY}{ep:Nat}{ok ov a b:aN}{Q:QE}(eS:Xu s.heap it d i n ep ok ov)
 (h:∀h',Xh h' it d i n ep a b s.heap.objs.size->h'.get? s.heap.objs.size=M (ia [a,b])->(∀b o,b≠it->s.heap.get? b=M o->h'.get? b=M o)->Q (.ref s.heap.objs.size) {s with heap:=h'}):
 wpAny Md A (ain (.ref it) 6 a b) Q E s:=by
 have PV:=d9 eS;unfold ain;refine aK (wpAny_newTuple ?_);have xO:Xu (s.heap.push (ia [a,b])) it d i n ep ok ov:=eW _ eS
 refine aK (m:=akU (.ref it)) (aK (xc xO Y (x:=.none) Y (bg ?_)));refine aK (m:=field (.ref it) 6) (xc xO Y (x:=ok) Y (aK (xc xO Y (x:=ov) Y ?_)));refine aK (G8 xO (by exact nK Y) λrp Fl PW=>aK (G8 Fl (by exact nK Y) λFn ZB ZC=>aK (G8 ZB (by exact nK Y) λFp ZD ZE=>aK (G8 ZD (by exact nK Y) λFq ZF ZG=>aK (wpAny_letGo (bg ?_))))))
 have k:∀b o,b≠it->rp.get? b=M o->Fq.get? b=M o:=λb o n e=>ZG.extBut b o n (ZE.extBut b o n (ZC.extBut b o n e));exact h Fq ZF (k _ _ (mU PV) (PW.extBut _ _ (mU PV) (jG _ Y))) λb o n e=>k b o n (PW.extBut b o n (eW _ e))
theorem ZH{it:aY}{ep:Nat}{ds:List dJ}{ok ov:aN}{Q:QE}(hh:A.handled=U)(eS:Xu s.heap it d i ds.length ep ok ov)(BV:s.heap.get? d=M (fV ds ep))
 (h1:∀x,ds[i]?=M x->∀h',Xh h' it d (i+1) ds.length ep x.key x.val s.heap.objs.size->h'.get? s.heap.objs.size=M (ia [x.key,x.val])->
  (∀b o,b≠it->s.heap.get? b=M o->h'.get? b=M o)->Q (.ref s.heap.objs.size) {s with heap:=h'})(h2:ds[i]?=U->∀h' e,(∃o,h'.get? e=M o/\o.cls=.type "StopIteration")->Ei it s.heap h'->E (.ref e) {s with heap:=h'}):
 wpAny Md A (Builtin.«dict_itemiterator.__next__» ⟨[.ref it],[]⟩) (λfin s'=>∃v,fin=.done (.ret v)/\Q v s') E s:=by
 obtain⟨hp,g,dr,tk,os⟩:=s;have hT:ajG ⟨hp,g,dr,tk,os⟩ (.ref it) "dict_itemiterator":=⟨_,eS,Y⟩
 refine aK (bg (aK (aK (aK (V3 hT (bg (aK (ako eS Y ?_))))))));rw[show(AP "dict_itemiterator")=O by decide]
 show wpAny _ _ (if(ik d==ki)=O then _ else _) _ _ _;rw[av (show¬((ik d==ki)=O) from d8)]
 refine aK (bg (aK (tX BV Y ?_)));rw[av (Fh (show(ds.toArray.size:Int)=(ds.length:Int) from Y))]
 refine aK (bg (aK (rZ BV Y ?_)));rw[av (Fh (show((ep:Nat):Int)=(ep:Int) from Y))]
 refine bg ?_;have ei:(if(i:Int)<0 then U else ds.toArray[(i:Int).toNat]?)=ds[i]?:=(av (vm.mpr (jH i))).trans (uY ..)
 dsimp only;rw[ei];cases hx:ds[i]? with
 |some x=>
  refine aK (aK (V3 hT (bg (aK (Wj hT ?_)))));rw[show(AP "dict_itemiterator")=O by decide]
  show wpAny _ _ (NS (.ref it) 3 (gj ((i:Int)+1))>>=_) _ _ _;refine aK (G8 eS (by exact nK Y) λh₁ BW uv=>?_)
  have PY:ajG ⟨h₁,g,dr,tk,os⟩ (.ref it) "dict_itemiterator":=⟨_,BW,Y⟩;refine aK (ij (aK (Wj PY (aK (m:=akW _ _) (Wj PY ?_)))));exact ZA BW (λh' a b c=>bg ⟨_,Y,ak (uv:mf it hp h₁).1 (h1 x hx h' (aj (uv:mf it hp h₁).1 a) (aj (uv:mf it hp h₁).1 b) λp o n e=>c p o n ((uv:mf it hp h₁).extBut p o n e))⟩)
 |none=>
  refine aK (aK (V3 hT (bg ?_)));rw[show(AP "dict_itemiterator")=O by decide]
  show wpAny _ _ (NS (.ref it) 2 .none>>=_) _ _ _;exact aK (Ec eS Y (by exact nK Y) (IW hh λh' e k q=>h2 hx _ _ q λb o n g=>k b o ((rW ..).extBut b o n g)))
theorem ZI{l:aY}{vs:List aN}{Q:QE}(hl:s.heap.get? l=M (ia vs))
 (h:∀h',IsEnum h' (s.heap.objs.size+1) s.heap.objs.size 0 .none->h'.IsTupleIter s.heap.objs.size l 0->(∀b o,s.heap.get? b=M o->h'.get? b=M o)->Q (.ref (s.heap.objs.size+1)) {s with heap:=h'}):wpAny Md A (call (.type "enumerate") [.ref l]) Q E s:=by
 refine callType_newIn F.called_enumerate (ao Y) (F.typeCall_enumerate_1 _) (F.newCall_enumerate_1 _) (λobj=>F.args_object_init_2 obj _) F.entry_enumerate_new
  (MeetsIn.of_wp (S:=λA R s=>s.heap.IsTuple l vs.toArray/\R (.ok (.ret _)) _) λA R s q=>Zz (Q:=λv s'=>R (.ok (.ret v)) s') q.1 q.2) ⟨⟨_,hl,Y,0,Y⟩,?_⟩
 have hz:(s.heap.push {cls:=.type "tuple_iterator",data:=.fields #[.ref l,.int 0 0]}).objs.size=s.heap.objs.size+1:=WU ..;have he:=jG (s.heap.push {cls:=.type "tuple_iterator",data:=.fields #[.ref l,.int 0 0]}) (o:={cls:=.type "enumerate",data:=.fields #[.none,.bool Z,.ref s.heap.objs.size,gj 0,.none,.none]}) Y
 show _/\_;rw[hz]at he⊢;exact⟨⟨_,he,Y⟩,h _ he ⟨_,eW _ (jG _ Y),Y,Y⟩ λb o x=>eW _ (eW _ x)⟩
theorem ZJ{ds:List dJ}{Q:QE}(hd:(d==qe)=Z)(ho:s.heap.get? d=M (fV ds n))
 (h:Q (.ref s.heap.objs.size) {s with heap:=s.heap.push {cls:=.type "dict_items",data:=.fields #[.ref d]}}):
 wpAny Md A (Builtin.«dict.items» ⟨[.ref d],[]⟩) (λfin s'=>∃r,fin=.done (.ret r)/\Q r s') E s:=by
 have hT:s.TypeIs (.ref d) "dict":=⟨_,ho,Y⟩;unfold Builtin.«dict.items»;refine aK ?_;unfold alk;refine aK (G1 hT ?_);show wpAny _ _ (pure d) _ _ s;refine bg ?_;show wpAny _ _ (GW d>>=_) _ _ s;unfold GW;rw[av (by rw[hd];exact d8)]
 refine aK (bg ?_);exact aK (rX (bg ⟨_,Y,h⟩))
theorem ZK{v:aY}{ds:List dJ}{ep:Nat}{Q:QE}(hv:s.heap.IsItemsView v d)(ho:s.heap.get? d=M (fV ds ep))
 (hQ:Q (.ref s.heap.objs.size) {s with heap:=s.heap.push {cls:=.type "dict_itemiterator",data:=.fields #[.none,.bool Z,.ref d,.int 0 0,.int ds.length 0,.int ep 0,.none,.none]}}):
 wpAny Md A (t7 (.ref v)) Q E s:=by
 obtain⟨ov,ZL,hcv,ZM⟩:=id hv;refine aj3 hv.typeIs F.slot_dict_items_iter (mT F.slot_dict_items_iter hv.typeIs F.entry_dict_items_iter ?_ (F.args_dict_items_iter_1 _));unfold Builtin.«dict_items.__iter__»;refine aK (bg ?_);refine aK ?_;unfold akX;refine aK (xc ZL ZM (x:=.ref d) Y (bg ?_));refine aK ?_;unfold akV;refine aK (tX ho Y ?_);refine aK (rZ ho Y ?_);have ZN:AP "dict_itemiterator"=O:=ao Y
 simp only[ZN,if_true];refine rX (bg ⟨_,Y,"dict_itemiterator",_,⟨_,jG _ Y,Y⟩,F.slot_dict_itemiterator_next.lookup,?_⟩)
  (by simp only[sizeOk,aim,wV,dW,oE,WG,kg];omega)
 simpa [gj,aim]using hQ
abbrev Src:=Nat->Hp->Option V->Prop
def jj(b:Bool)(it:aY)(J:List aY)(I:Nat->Wd->(Loc->Prop)->Prop)(S:Src):Prop:=(∀i W D,I i W D->∀a∈J,∃o vs,(a,o)∈W.n/\jK o vs)/\(∀i W D W' D',I i W D->Tu W W' D D'->(∀p∈W.n,p.1∈J->p∈W'.n)->I i W' D')/\(∀F A n W K s i v tg,St F A n W K s->I i W (aX K.h)->S i K.h (M v)->(b=O->∃x y z,tg=.Tuple x y z)->wpAny Md A (yV (.ref it)) (λr a8=>∃u,r=M u/\wpAny Md A (Hl tg (.ref it) u) (λc s'=>∃mZ,aW F ⟨W.bG,mZ⟩ K s'/\(∀p∈W.n,p.1∉J->p∈mZ)/\I (i+1) ⟨W.bG,mZ⟩ (aX K.h)/\VR ⟨W.bG,mZ⟩ (aX K.h) u v) ba a8) ba s)/\(∀F A n W K s i,St F A n W K s->I i W (aX K.h)->S i K.h U->wpAny Md A (yV (.ref it)) (λr s'=>r=U/\∃h',s'={s with heap:=h'}/\∀b o,b∉J->s.heap.get? b=M o->h'.get? b=M o) ba s)/\(b=Z->∀F A n W K s i(R:QE),St F A n W K s->I i W (aX K.h)->R (.ref it) s->wpAny Md A (t7 (.ref it)) R ba s)
section
variable{b:Bool} {it:aY} {J:List aY} {I:Nat->Wd->(Loc->Prop)->Prop} {S:Src} (hh:jj b it J I S)
def jj.aC:=hh.1
def jj.aI:=hh.2.1
def jj.aD:=hh.2.2.1
def jj.aG:=hh.2.2.2.1
def jj.aJ:=hh.2.2.2.2
end
def oh(b:Bool)(F:Fm)(W:Wd)(h:Hp)(Q:Src->QA)(v:aN)(s':bK):Prop:=∃W' aZ it J I S,v=.ref it/\aW F W' aZ s'/\Ext F.bT W h W' aZ.h/\jj b it J I S/\I 0 W' (aX aZ.h)/\(∀p∈W.n,p.1∉J)/\Q S aZ
variable{it:aY} {fs:Array aN} {vs ks:Vs} {S:Src} {Q:Src->QA} {b:Bool}
section
variable{tk:Nat} {o:bh} {v:aN}
theorem oh.cO(e:Ext F.bT W h a5 h₁)(p:oh b F a5 h₁ Q v s):oh b F W h Q v s:=p.elim λW' p=>p.elim λaZ p=>p.elim λit p=>p.elim λJ p=>p.elim λI p=>p.elim λS p=>
 ⟨W',aZ,it,J,I,S,p.1,p.2.1,e.cO p.2.2.1,p.2.2.2.1,p.2.2.2.2.1,λq m=>(e.aG q m).elim λo k=>p.2.2.2.2.2.1 (q.1,o) k,p.2.2.2.2.2.2⟩
theorem ZO(R:aW F W K s)(m:(a,o)∈W.n)(d:jK o fs):Tu W ⟨W.bG,ee a o' W.n⟩ D D:=⟨λl q=>⟨q,Y⟩,λb ws mb=>jB (λ(e:b=a)=>jz (R.kr m (aj e mb)▸d).1 Y) mb⟩
theorem jj.rq{nm:String}{P:Nat->bh->Prop}{E:Wd->(Loc->Prop)->Prop}(hn:["enumerate","zip","dict_itemiterator","dict_reverseitemiterator","odict_iterator","itertools.zip_longest","itertools.pairwise"].contains nm=Z)
 (fl:∀i o,P i o->o.cls=.type nm/\∃vs,o.data=.fields vs)(ek:∀W D W' D',E W D->Tu W W' D D'->E W' D')
 (ag:∀F A n W K s i o(R:QE),St F A n W K s->s.heap.get? it=M o->P i o->R (.ref it) s->wpAny Md A (t7 (.ref it)) R ba s)(nx:∀F A n W K s i o x,St F A n W K s->s.heap.get? it=M o->P i o->E W (aX K.h)->S i K.h x->∀R:Option aN->bK->Prop,(∀u v h' tk o',x=M v->mf it s.heap h'->h'.get? it=M o'->P (i+1) o'->VR W (aX K.h) u v->R (M u) {s with heap:=h',toks:=tk})->(x=U->∀h',Ei it s.heap h'->R U {s with heap:=h'})->wpAny Md A (yV (.ref it)) R ba s):
 jj b it [it] (λi W D=>E W D/\∃o,(it,o)∈W.n/\P i o) S:=by
 have fd:∀{i o},P i o->∃vs,jK o vs:=λp=>have q:=fl _ _ p;q.2.elim λvs k=>⟨vs,k,λe=>xj (e.symm.trans q.1) Y⟩
 refine⟨λi W D h a m=>ak (bp.mp m) (h.2.elim λo k=>(fd k.2).elim λvs d=>⟨o,vs,k.1,d⟩),λi W D W' D' h t k=>⟨ek _ _ _ _ h.1 t,h.2.elim λo q=>⟨o,k _ q.1 (.head _),q.2⟩⟩,λF A n W K s i v tg T h sv ot=>h.2.elim λo k=>(fd k.2).elim λvs d=>?_,λF A n W K s i T h sv=>h.2.elim λo k=>?_,λc F A n W K s i R T h r=>h.2.elim λo k=>ag F A n W K s i o R T (T.aC.aC.aD _ k.1).1 k.2 r⟩
 .refine nx F A n W K s i o _ T (T.aC.aC.aD _ k.1).1 k.2 h.1 sv _ (λu v' h' tk o' ev sb g p vu=>⟨u,Y,?_⟩) λe=>fK e;have t:Tu W ⟨W.bG,ee it o' W.n⟩ (aX K.h) (aX K.h):=ZO T.aC k.1 d
  exact Zr (s:={s with heap:=h',toks:=tk}) g (fl _ _ p).1 hn ⟨_,(T.aC.Zq k.1 d sb g).1,λp m q=>jB (λe=>q (aj e (.head _))) m,⟨ek _ _ _ _ h.1 t,o',ue k.1,p⟩,ak (bu ev) (vu.bN t)⟩
 .exact nx F A n W K s i o _ T (T.aC.aC.aD _ k.1).1 k.2 h.1 sv _ (λu v' h' tk o' ev=>cK ev) λc h' e=>⟨Y,h',Y,λb o q=>e b o λw=>q (aj w (.head _))⟩
theorem oh.rq{P:Nat->bh->Prop}{E:Wd->(Loc->Prop)->Prop}(R:aW F W K s)(hf:o.isFreed=Z)(p0:P 0 o)(e0:E W (aX K.h))(ek:∀W D W' D',E W D->Tu W W' D D'->E W' D')(it:jj b s.heap.objs.size [s.heap.objs.size] (λi W D=>E W D/\∃o,(s.heap.objs.size,o)∈W.n/\P i o) S)(q:Q S K):
 oh b F W K.h Q (.ref s.heap.objs.size) {s with heap:=s.heap.push o,toks:=tk}:=
 have ae:=R.IT (tk:=tk) hf
 ⟨_,K,_,_,_,_,Y,ae.1,ae.2,it,⟨ek _ _ _ _ e0 (ae.2.tu R.aC.aC R.nx),o,.head _,p0⟩,λp m e=>dI _ (bp.mp e▸d9 (R.aC.aD p m).1),q⟩
def Fs(l:Loc):Src:=λi h x=>∃xs,h l=M (.l xs)/\xs[i]?=x
def Ft(vs:Vs):Src:=λi a x=>vs[i]?=x
def PZ(l:Loc)(ks:Vs):Src:=λi h x=>∃es,h l=M (.d es)/\es.map (·.1)=ks/\ks[i]?=x
def Qa(w:aP):Src:=λi a x=>w.cps[i]?.map (λc=>.s ⟨#[c]⟩)=x
def I5(N:Nat):Src:=λi a x=>(if i<N then M (.i i)else U)=x
def zG(nm:String)(fs:Nat->Array aN)(i:Nat)(o:bh):Prop:=o.cls=.type nm/\o.data=.fields (fs i)
def uw(l:Loc)(a:aY)(W:Wd)(D:Loc->Prop):Prop:=D l/\W.ρ l=a
theorem uw.vQ(h:uw l a W D)(t:Tu W W' D D'):uw l a W' D':=⟨(t.aC l h.1).1,(t.aC l h.1).2.trans h.2⟩
theorem ZP:jj b it [it] (λi W D=>uw l a W D/\∃o,(it,o)∈W.n/\zG "list_iterator" (λi=>#[.ref a,.int (i:Nat) 0]) i o) (Fs l):=
 .rq (ao Y) (λi o p=>⟨p.1,_,p.2⟩) (λc c c c h t=>h.vQ t) (λF A n W K s i o R T g p r=>wpAny_pyIter_listiter ⟨o,g,p⟩ r) λF A n W K s i o x T g p e sv R h1 h2=>sv.elim λxs sv=>by
  have il:=e.2▸T.aC.n4 sv.1;rcases(T.aC.hM sv.1).yY i with q|⟨u,v,q⟩
  .exact wpAny_pyNext_list_end T.aD.aC ⟨o,g,p⟩ il (by rw[<-tU];exact q.1) λh'=>h2 (sv.2.symm.trans q.2) h'
  .exact wpAny_pyNext_list_item ⟨o,g,p⟩ il (by rw[<-tU];exact q.1) λh' eS sb=>eS.elim λo' g'=>h1 u v h' s.toks o' (sv.2.symm.trans q.2.1) sb g'.1 g'.2 q.2.2
theorem ZQ{t:aY}:jj b it [it] (λi W D=>VR W D (.ref t) (V.bP vs)/\∃o,(it,o)∈W.n/\zG "tuple_iterator" (λi=>#[.ref t,.int (i:Nat) 0]) i o) (Ft vs):=
 .rq (ao Y) (λi o p=>⟨p.1,_,p.2⟩) (λa a a a h t=>h.bN t) (λF A n W K s i o R T g p r=>wpAny_pyIter_tupleiter ⟨o,g,p⟩ r) λF A n W K s i o x T g p e sv R h1 h2=>(VR.kJ.mp e).elim λt' e=>e.elim λws e=>by
  obtain⟨rfl⟩:=Hk e.1;have il:s.heap.IsTuple t ws.toArray:=⟨_,T.aC.th t ws e.2.1,Y,0,Y⟩
  rcases e.2.2.yY i with q|⟨u,v,q⟩
  .exact wpAny_pyNext_tuple_end T.aD.aC ⟨o,g,p⟩ il (by rw[uY];exact q.1) λh'=>h2 (sv.symm.trans q.2) h'
  .exact wpAny_pyNext_tuple_item ⟨o,g,p⟩ il (by rw[uY];exact q.1) λh' eS sb=>eS.elim λo' g'=>h1 u v h' s.toks o' (sv.symm.trans q.2.1) sb g'.1 g'.2 q.2.2
theorem ZR:jj b it [it] (λi W D=>uw l a W D/\∃o,(it,o)∈W.n/\zG "dict_keyiterator" (λi=>#[.ref a,.int (i:Nat) 0,.int (ks.length:Nat) 0,.int (ks.length:Nat) 0]) i o) (PZ l ks):=
 .rq (ao Y) (λi o p=>⟨p.1,_,p.2⟩) (λc c c c h t=>h.vQ t) (λF A n W K s i o R T g p r=>wpAny_pyIter_keyiter ⟨o,g,p⟩ r) λF A n W K s i o x T g p e sv R h1 h2=>sv.elim λes sv=>by
  have al:=T.aC.lQ sv.1;have n1:(T.aC.ds sv.1).length=ks.length:=al.gU.trans (by rw[<-sv.2.1,bc])
  have go:=e.2▸T.aC.dg sv.1;rw[show es.length=(T.aC.ds sv.1).length from al.gU.symm]at go
  refine PT (⟨o,g,p.1⟩) PySem.F.slot_dict_keyiterator_next PySem.F.entry_dict_keyiterator_next (PySem.F.args_dict_keyiterator_next_1 _) λ{Fi Fj} j1 j2=>Zu (show A.in1.handled=U from T.aD.aC) ⟨o,g,p.1,n1.symm▸p.2⟩ go (λd hd h' eS sb=>j1 _ _ ?_) λhd h' e x ke=>j2 h' e x ?_
  .exact(al.xl hd).elim λy q=>eS.elim λo' g'=>h1 _ _ h' s.toks o' (sv.2.2.symm.trans (by rw[<-sv.2.1,kG,q.1];rfl)) sb g'.1 ⟨g'.2.1,aj n1 g'.2.2⟩ q.2.aC
  .refine h2 (sv.2.2.symm.trans ?_) h' ke;rw[mN]at hd⊢;exact aj n1 hd
theorem ZS{w:aP}{t:nX}(ok:kH w=O):jj b it [it] (λi W D=>True/\∃o,(it,o)∈W.n/\zG "str_ascii_iterator" (λi=>#[.str w t,.int (i:Nat) 0]) i o) (Qa w):=
 .rq (ao Y) (λi o p=>⟨p.1,_,p.2⟩) (λa a a a h t=>h) (λF A n W K s i o R T g p r=>wpAny_pyIter_striter_ascii ⟨o,g,p⟩ r) λF A n W K s i o x T g p e sv R h1 h2=>by
  cases hc:w.cps[i]? with
  |none=>exact wpAny_pyNext_ascii_end T.aD.aC ⟨o,g,p⟩ hc λh'=>h2 (sv.symm.trans (aq _ hc)) h'
  |some c=>exact wpAny_pyNext_ascii_item ⟨o,g,p⟩ hc λh' eS sb=>eS.elim λo' g'=>h1 _ _ h' _ o' (sv.symm.trans (aq _ hc)) sb g'.1 g'.2 ⟨_,Y,aiu.mpr λy hy=>aiu.mp ok y (ak (Array.mem_singleton.mp hy) (Array.mem_of_getElem? hc))⟩
noncomputable def Fu(x left:Int):bh:={cls:=.type "range_iterator",dict:=U,data:=.fields #[gj x,gj left,gj 1],slots:=#[]}
theorem ZT{N:Nat}:jj b it [it] (λi W D=>True/\∃o,(it,o)∈W.n/\o=Fu i ((N:Int)-i)) (I5 N):=
 .rq (nm:="range_iterator") (ao Y) (λi o p=>ak p ⟨Y,_,Y⟩) (λa a a a h t=>h) (λF A n W K s i o R T g p r=>wpAny_pyIter_rangeiter (p▸g) r) λF A n W K s i o x T g p e sv R h1 h2=>by
  subst p;by_cases hi:i<N
  .exact wpAny_pyNext_range_item g (Int.sub_pos.mpr (mV.mpr hi)) λh' eS sb=>h1 _ _ h' _ _ (sv.symm.trans (aw hi)) sb eS (show Fu ((i:Int)+1) ((N:Int)-i-1)=Fu ((i+1:Nat):Int) ((N:Int)-((i+1:Nat):Int)) by rw[Int.sub_sub];rfl) ⟨_,Y⟩
  .exact wpAny_pyNext_range_end T.aD.aC g (Int.sub_nonpos_of_le (qc.mpr (km.mp hi))) λh'=>h2 (sv.symm.trans (av hi)) h'
end
variable{b it2 e:aY} {oa ob zH i5:bh} {fa fb:Array aN} {ws:List aN}
section
variable{tk:Nat} {o:bh} {v:aN}
theorem aW.Qb(R:aW F W K s)(ma:(a,oa)∈W.n)(da:jK oa fa)(mb:(b,ob)∈W.n)(db:jK ob fb)(ga:H'.get? a=M zH)(gb:b≠a->H'.get? b=M i5)(gt:H'.get? s.heap.objs.size=M (ia ws))(hk:∀p o,p≠a->p≠b->s.heap.get? p=M o->H'.get? p=M o):
 aW F ⟨W.bG,(s.heap.objs.size,ia ws)::ee a zH (ee b i5 W.n)⟩ K {s with heap:=H',toks:=tk}/\Tu W ⟨W.bG,(s.heap.objs.size,ia ws)::ee a zH (ee b i5 W.n)⟩ (aX K.h) (aX K.h):=by
 have za:=R.aC.aD _ ma;have zb:=R.aC.aD _ mb
 have k:∀p∈W.n,(∀vs,¬jK p.2 vs)->p∈(s.heap.objs.size,ia ws)::ee a zH (ee b i5 W.n):=λp mp q=>.tail _ (jB (λw=>q _ (aj (R.kr ma (aj w mp:(a,p.2)∈W.n)) da)) (jB (λw=>q _ (aj (R.kr mb (aj w mp:(b,p.2)∈W.n)) db)) mp));refine⟨R.IU k ⟨R.fr.ns.at λo g=>hk _ _ (λq=>za.2.1 q.symm) (λq=>zb.2.1 q.symm) g,λc o g=>hk _ _ (λq=>by subst q;exact fK (g.symm.trans za.2.2)) (λq=>by subst q;exact fK (g.symm.trans zb.2.2)) (R.fr.keep c o g),R.fr.above⟩ (λp m=>?_) ?_,λl q=>⟨q,Y⟩,λc us m=>k _ m λvs f=>by cases f.1⟩
 .rcases b0.mp m with rfl|m
  .exact⟨gt,mU R.fr.ns.lt,by
    cases g:F.h₀.get? s.heap.objs.size with
    |none=>rfl
    |some o=>exact ax (d9 (R.fr.keep _ _ g)) (dI _)⟩
  .obtain⟨akB,m₁,rfl⟩:=bk.mp m;obtain⟨Qc,m₂,rfl⟩:=bk.mp m₁;have z:=R.aC.aD _ m₂
   by_cases eX:Qc.1=b
   .rw[aw eX];by_cases fM:b=a
    .rw[aw fM];exact⟨ga,za.2⟩
    .rw[av fM];exact⟨gb fM,zb.2⟩
   .rw[av eX];by_cases fM:Qc.1=a
    .rw[aw fM];exact⟨ga,za.2⟩
    .rw[av fM];exact⟨hk _ _ fM eX z.1,z.2⟩
 .rw[nN,vA,vA,fQ];exact⟨λq=>(bk.mp q).elim λp r=>dI _ (bF (fR (show s.heap.objs.size=p.1 from r.2.symm)) (d9 (R.aC.aD p r.1).1)),R.aC.aC.aG⟩
noncomputable def xP(it:aY)(i:Nat)(old:aN):bh:={cls:=.type "enumerate",dict:=U,data:=.fields #[.none,.bool Z,.ref it,gj i,.none,old],slots:=#[]}
noncomputable def zJ(d:aY)(i n:Nat)(ok ov:aN):bh:={cls:=.type "dict_itemiterator",dict:=U,data:=.fields #[.none,.bool Z,.ref d,.int i 0,.int n 0,.int n 0,ok,ov],slots:=#[]}
theorem Qd{old:aN}:jK (xP it i old) #[.none,.bool Z,.ref it,gj i,.none,old]:=⟨Y,λe=>xj e Y⟩
theorem I6{k m:aN}:jK (zJ a i n k m) #[.none,.bool Z,.ref a,.int i 0,.int n 0,.int n 0,k,m]:=⟨Y,λe=>xj e Y⟩
theorem I7{o p:bh}(g:s.heap.get? a=M o)(g':s.heap.get? b=M p)(h:o.cls≠p.cls):a≠b:=λe=>h (aq Xv (bu (g.symm.trans (ak e g'))))
def BX(S:Src):Src:=λi h x=>∃y,S i h y/\x=y.map λv=>V.bP [.i (i:Nat),v]
theorem jj.Qe{nm:String}{P:Nat->bh->Prop}{E:Wd->(Loc->Prop)->Prop}(hn:nm≠"enumerate")
 (fl:∀i o,P i o->o.cls=.type nm/\∃vs,o.data=.fields vs)(ek:∀W D W' D',E W D->Tu W W' D D'->E W' D')
 (dr:∀F A n W K s i o x,St F A n W K s->s.heap.get? it=M o->P i o->E W (aX K.h)->S i K.h x->∃N fp Pd Sd,Draws pr w0 A.in1 it fp N Pd Sd/\(∀v,x=M v->Sd i s.heap/\i<N/\(∀b∈fp,∃o,s.heap.get? b=M o/\o.cls≠.type "enumerate")/\(∀y,Pd i y->VR W (aX K.h) y v)/\∀h',Sd (i+1) h'->∃o',h'.get? it=M o'/\P (i+1) o')/\(x=U->Sd N s.heap)):
 jj O e [e,it] (λi W D=>E W D/\∃o old,(it,o)∈W.n/\P i o/\(e,xP it i old)∈W.n) (BX S):=by
 have fd:∀{i o},P i o->∃vs,jK o vs:=λp=>have q:=fl _ _ p;q.2.elim λvs k=>⟨vs,k,λe=>xj (e.symm.trans q.1) Y⟩
 refine⟨λi W D h a m=>h.2.elim λo h=>h.elim λold h=>(b0.mp m).elim (λw=>ak w ⟨_,_,h.2.2,Qd⟩) λm=>ak (bp.mp m) ((fd h.2.1).elim λvs d=>⟨o,vs,h.1,d⟩),λi W D W' D' h t k=>⟨ek _ _ _ _ h.1 t,h.2.elim λo h=>h.elim λold h=>⟨o,old,k _ h.1 (.tail _ (.head _)),h.2.1,k _ h.2.2 (.head _)⟩⟩,λF A n W K s i v tg T h sv ot=>?_,λF A n W K s i T h sv=>?_,λe=>cw e⟩
 .obtain⟨ZU,ZV,ZW,rfl⟩:=ot Y;obtain⟨h0,o,old,m2,p,m1⟩:=h;obtain⟨y,sy,ey⟩:=sv;cases y with
  |none=>cases ey
  |some v'=>
   obtain rfl:=bu ey;have g1:=(T.aC.aC.aD _ m1).1
   have g2:=(T.aC.aC.aD _ m2).1;obtain⟨N,fp,Pd,Sd,d,q,_⟩:=dr F A n W K s i o _ T g2 p h0 sy;obtain⟨q1,q2,q3,q4,q5⟩:=q v' Y;have ne:e≠it:=I7 g1 g2 λw=>hn (Value.type.inj ((fl _ _ p).1.symm.trans w.symm))
   refine wpAny_pyNext_enum_itemD d g1 q1 q2 ne (λw=>(q3 e w).elim λo q=>q.2 (aq Xv (bu (q.1.symm.trans g1)))) λu h' tk pu out sd gt c hk=>⟨_,Y,wpAny_letOwnedTupleGo_enum out λBY en sb=>?_⟩;obtain⟨o',g',p'⟩:=q5 _ sd;obtain⟨f2,d2⟩:=fd p;have ae:=T.aC.Qb (tk:=tk+1) (zH:=xP it (i+1) u) (i5:=o') (ws:=[.int i tk,u]) m1 Qd m2 d2 en (λw=>(sb.2 _ w).trans g') ((sb.2 _ (mU (d9 g1))).trans gt) λb o nb ZX g=>(sb.2 _ nb).trans (hk b o nb ZX g)
   exact⟨_,ae.1,λp m q=>.tail _ (jB (λw=>q (aj w (.head _))) (jB (λw=>q (aj w (.tail _ (.head _)))) m)),⟨ek _ _ _ _ h0 ae.2,o',u,.tail _ (jB (λw=>ne w.symm) (ue m2)),p',.tail _ (ue (jB ne m1))⟩,
    VR.kJ.mpr ⟨_,_,Y,⟨.inl (.head _),(by decide:2<=33554432)⟩,.gE ⟨tk,Y⟩ (.gE ((q4 _ pu).bN ae.2) .gO)⟩⟩
 .obtain⟨h0,o,old,m2,p,m1⟩:=h;obtain⟨y,sy,ey⟩:=sv;cases y with
  |some v'=>cases ey
  |none=>obtain⟨N,fp,Pd,Sd,d,_,q⟩:=dr F A n W K s i o _ T (T.aC.aC.aD _ m2).1 p h0 sy;exact wpAny_pyNext_enum_endD d (T.aC.aC.aD _ m1).1 (q Y) λh' k=>⟨Y,h',Y,λb o q=>k b o λw=>q (aj w (.tail _ (.head _)))⟩
theorem ZY:jj O e [e,it] (λi W D=>uw l a W D/\∃o old,(it,o)∈W.n/\zG "list_iterator" (λi=>#[.ref a,.int (i:Nat) 0]) i o/\(e,xP it i old)∈W.n) (BX (Fs l)):=
 .Qe (ao Y) (λi o p=>⟨p.1,_,p.2⟩) (λc c c c h t=>h.vQ t) λF A n W K s i o x T g p e sv=>sv.elim λxs sv=>by
  have il:=e.2▸T.aC.n4 sv.1;have hh:A.in1.handled=U:=T.aD.aC
  have gl:=e.2▸T.aC.fE sv.1;rcases(T.aC.hM sv.1).yY i with q|⟨u,v,q⟩
  .exact⟨i,_,_,_,Draws.Zw hh it a i _ (km.mp λw=>fK ((mO (l:=(T.aC.a7 sv.1).toList) w).symm.trans q.1)),(λv e=>fK (show M v=U from e.symm.trans (sv.2.symm.trans q.2))),λc=>⟨Y,⟨o,g,p⟩,il⟩⟩
  .refine⟨_,_,_,_,alI hh it a (I7 gl g λw=>ax (w.trans p.1) (by decide:qL "list"≠.type "list_iterator")) (T.aC.a7 sv.1),λv' e=>⟨⟨⟨o,g,p⟩,il⟩,(cV.mp q.1).1,λb m=>?_,λy py=>?_,λh' k=>k.1.elim λo' k=>⟨o',k⟩⟩,λe=>cK (show U=M v from e.symm.trans (sv.2.symm.trans q.2.1))⟩
   .rcases b0.mp m with rfl|m
    .exact⟨o,g,λw=>ax (p.1.symm.trans w) (by decide:qL "list_iterator"≠.type "enumerate")⟩
    .exact bp.mp m▸⟨_,gl,(by decide:qL "list"≠.type "enumerate")⟩
   .rw[<-tU,q.1]at py;exact bu py▸bu (e.symm.trans (sv.2.symm.trans q.2.1))▸q.2.2
theorem ZZ{t:aY}:jj O e [e,it] (λi W D=>VR W D (.ref t) (V.bP vs)/\∃o old,(it,o)∈W.n/\zG "tuple_iterator" (λi=>#[.ref t,.int (i:Nat) 0]) i o/\(e,xP it i old)∈W.n) (BX (Ft vs)):=
 .Qe (ao Y) (λi o p=>⟨p.1,_,p.2⟩) (λa a a a h t=>h.bN t) λF A n W K s i o x T g p e sv=>(VR.kJ.mp e).elim λt' e=>e.elim λws e=>by
  obtain⟨rfl⟩:=Hk e.1;have gl:=T.aC.th t ws e.2.1
  have il:s.heap.IsTuple t ws.toArray:=⟨_,gl,Y,0,Y⟩;have hh:A.in1.handled=U:=T.aD.aC
  rcases e.2.2.yY i with q|⟨u,v,q⟩
  .exact⟨i,_,_,_,Draws.Zx hh it t i _ (km.mp λw=>fK ((mO (l:=ws) w).symm.trans q.1)),(λv e=>fK (show M v=U from e.symm.trans (sv.symm.trans q.2))),λa=>⟨Y,⟨o,g,p⟩,il⟩⟩
  .refine⟨_,_,_,_,Draws.tuple hh it t (I7 gl g λw=>ax (w.trans p.1) (by decide:qL "tuple"≠.type "tuple_iterator")) ws.toArray,λv' e=>⟨⟨⟨o,g,p⟩,il⟩,(cV.mp q.1).1,λb m=>?_,λy py=>?_,λh' k=>k.1.elim λo' k=>⟨o',k⟩⟩,λe=>cK (show U=M v from e.symm.trans (sv.symm.trans q.2.1))⟩
   .rcases b0.mp m with rfl|m
    .exact⟨o,g,λw=>ax (p.1.symm.trans w) (by decide:qL "tuple_iterator"≠.type "enumerate")⟩
    .exact ak (bp.mp m) ⟨_,gl,(by decide:qL "tuple"≠.type "enumerate")⟩
   .rw[uY,q.1]at py;exact aj (bu py) (ak (bu (e.symm.trans (sv.symm.trans q.2.1))) q.2.2)
def Qf(l:Loc)(ks:Vs):Src:=λi h x=>∃es,h l=M (.d es)/\es.map (·.1)=ks/\es[i]?.map (λp=>V.bP [p.1,p.2])=x
theorem Z3:jj O it [it] (λi W D=>uw l a W D/\∃k v,(it,zJ a i ks.length k v)∈W.n) (Qf l ks):=by
 have go:∀{F:Fm}{A:oG}{n:Nat}{W:Wd}{K:AS}{s:bK}{i:Nat}{x:Option V}{es:Es}{k v:aN},St F A n W K s->uw l a W (aX K.h)->(it,zJ a i ks.length k v)∈W.n->K.h l=M (.d es)->es.map (·.1)=ks->es[i]?.map (λp=>V.bP [p.1,p.2])=x->∀R:Option aN->bK->Prop,(∀(u:aN)(p:V×V)(h':fC)(w q:aN),x=M (V.bP [p.1,p.2])->Xh h' it a (i+1) ks.length ks.length w q s.heap.objs.size->h'.get? s.heap.objs.size=M (ia [w,q])->(∀b o,b≠it->s.heap.get? b=M o->h'.get? b=M o)->VR W (aX K.h) w p.1->VR W (aX K.h) q p.2->u=.ref s.heap.objs.size->R (M u) {s with heap:=h'})->(x=U->∀h',Ei it s.heap h'->R U {s with heap:=h'})->wpAny Md A (yV (.ref it)) R ba s:=by
  intro F A n W K s i x es k v T ow m he hk hx R h1 h2;have al:=T.aC.lQ he
  have n1:(T.aC.ds he).length=ks.length:=al.gU.trans (by rw[<-hk,bc])
  have gd:=ow.2▸T.aC.dg he;rw[show es.length=(T.aC.ds he).length from al.gU.symm]at gd
  have g:=(T.aC.aC.aD _ m).1;refine PT ⟨_,g,Y⟩ PySem.F.slot_dict_itemiterator_next PySem.F.entry_dict_itemiterator_next (PySem.F.args_dict_itemiterator_next_1 _) λ{Fi Fj} j1 j2=>ZH (show A.in1.handled=U from T.aD.aC) (n1.symm▸g) gd (λd hd h' out gt kp=>j1 _ _ ?_) λhd h' e x ke=>j2 h' e x ?_
  .exact(al.xl hd).elim λy q=>h1 _ y h' d.key d.val (hx.symm.trans (aq _ q.1)) (aj n1 out) gt kp q.2.aC q.2.aI Y
  .refine h2 (hx.symm.trans (aq (Nu _) (?_:es[i]?=U))) h' ke;rw[mN]at hd⊢;exact aj al.gU hd
 refine⟨λi W D h a m=>ak (bp.mp m) (h.2.elim λk h=>h.elim λv h=>⟨_,_,h,I6⟩),λi W D W' D' h t k=>⟨h.1.vQ t,h.2.elim λo h=>h.elim λold h=>⟨o,old,k _ h (.head _)⟩⟩,λF A n W K s i v tg T h sv ot=>?_,λF A n W K s i T h sv=>?_,λe=>cw e⟩
 .obtain⟨ZU,ZV,ZW,rfl⟩:=ot Y;obtain⟨h0,k,w,m⟩:=h;obtain⟨es,he,hk,hx⟩:=sv;refine go T h0 m he hk hx _ (λu p h' c d ev out gt kp vc vd eu=>⟨_,Y,?_⟩) λe=>fK e;subst eu;obtain rfl:=bu ev;refine wpAny_letOwnedTupleGo_items out λBY en sb=>?_;have g:=(T.aC.aC.aD _ m).1
  have ae:=T.aC.Qb (tk:=s.toks) (zH:=zJ a (i+1) ks.length c d) (i5:=zJ a (i+1) ks.length c d) (ws:=[c,d]) m I6 m I6 en (λw=>ax Y w) ((sb.2 _ (mU (d9 g))).trans gt) λb o nb f g=>(sb.2 _ nb).trans (kp b o nb g);exact⟨_,ae.1,λp m q=>.tail _ (jB (λw=>q (aj w (.head _))) (jB (λw=>q (aj w (.head _))) m)),⟨h0.vQ ae.2,c,d,.tail _ (ue (ue m))⟩,VR.kJ.mpr ⟨_,_,Y,⟨.inl (.head _),(by decide:2<=33554432)⟩,.gE (vc.bN ae.2) (.gE (vd.bN ae.2) .gO)⟩⟩
 .obtain⟨h0,k,w,m⟩:=h;obtain⟨es,he,hk,hx⟩:=sv;exact go T h0 m he hk hx _ (λu p h' c d ev=>cK ev) λf h' e=>⟨Y,h',Y,λb o q=>e b o λw=>q (aj w (.head _))⟩
end
def IB(b:Bool)(K:AS)(x:V)(Q:Src->QA):Prop:=∀F A n W s v,St F A n W K s->VR W (aX K.h) v x->wpAny Md A (t7 v) (oh b F W K.h Q) ba s
def IE(K:AS)(x:V)(Q:Src->QA):Prop:=∀F A n W s v,St F A n W K s->VR W (aX K.h) v x->wpAny Md A (call (.type "enumerate") [v]) (λr a8=>wpAny Md A (t7 r) (oh O F W K.h Q) ba a8) ba s
def WI(n:Nat)(b:Bool)(e:Sx)(Q:Src->QA)(K:AS):Prop:=∀F A W s q,St F A n W K s->Ck e F.b (.i q)->(∀x,WR q F.bB x=pure x)/\wpAny Md A (eval q F.bB) (λx a8=>wpAny Md A (t7 x) (oh b F W K.h Q) ba a8) ba s
variable{es:Es} {b:Bool} {a:Sx}
section
variable{tk:Nat} {o:bh} {v:aN}
theorem aW.Z4(R:aW F W K s)(hk:∀b o,s.heap.get? b=M o->H'.get? b=M o)(g1:H'.get? (s.heap.objs.size+1)=M o)(g2:H'.get? s.heap.objs.size=M o'):
 aW F ⟨W.bG,(s.heap.objs.size+1,o)::(s.heap.objs.size,o')::W.n⟩ K {s with heap:=H',toks:=tk}/\Ext F.bT W K.h ⟨W.bG,(s.heap.objs.size+1,o)::(s.heap.objs.size,o')::W.n⟩ K.h:=
 have lt:∀p∈W.n,p.1<s.heap.objs.size:=λp hp=>d9 (R.aC.aD p hp).1;have ae:=HR.yZ (X:=F.bT) (o:=o') R.aC.aC lt
 have V:=HR.yZ (X:=F.bT) (o:=o) (a:=s.heap.objs.size+1) ae.1 λp hp=>(b0.mp hp).elim (λe=>ak e (jd _)) λm=>qI (lt p m);have E:=ae.2.cO V.2
 have fr:∀b p,s.heap.get? b=M p->b<s.heap.objs.size:=λb p e=>d9 e
 ⟨R.vE (s':={s with heap:=H',toks:=tk}) (t':=K.t) (R.fr.keeps hk) (λp hp=>(b0.mp hp).elim (λe=>Bq R.fr R.aC.aD hk g1 (λb p e=>qI (fr b p e)) p (aj e (.head _))) λm=>Bq R.fr R.aC.aD hk g2 fr p m) ⟨V.1,E⟩ (λa o m c=>.tail _ (.tail _ m)) R.aC.aI Y Y,E⟩
theorem mH(hl:K.h l=M (.l vs))(q:Q (Fs l) K):IB b K (.e l) Q:=λF A n W s v T vx=>ak vx.1 (aj4 (T.aC.n4 hl) (oh.rq T.aC Y ⟨Y,Y⟩ ⟨mu hl,Y⟩ (λa a a a h t=>h.vQ t) ZP q))
theorem I8(q:Q (Ft vs) K):IB b K (V.bP vs) Q:=λF A n W s v T vx=>b5 (VR.kJ.mp vx) λa p=>p.elim λws p=>by obtain rfl:=p.1;exact ajU (items:=ws.toArray) ⟨_,T.aC.th a ws p.2.1,Y,0,Y⟩ (oh.rq T.aC Y ⟨Y,Y⟩ vx (λc c c c h t=>h.bN t) ZQ q)
theorem Qg(hl:K.h l=M (.d es))(q:Q (PZ l (es.map (·.1))) K):IB b K (.e l) Q:=λF A n W s v T vx=>by
 have al:=T.aC.lQ hl;have g:=T.aC.dg hl
 rw[show es.length=(T.aC.ds hl).length from al.gU.symm]at g
 exact ak vx.1 (Zt (T.aC.n7 T.aD (T.aC.dm hl)) g (oh.rq T.aC Y ⟨Y,by rw[bc,<-al.gU];rfl⟩ ⟨mu hl,Y⟩ (λa a a a h t=>h.vQ t) ZR q))
theorem Z5{w:aP}(hw:w.cps.all (·<128)=O)(q:Q (Qa w) K):IB b K (.s w) Q:=λF A n W s v T vx=>b5 vx λt e=>ak e.1 (wpAny_pyIter_ascii hw (oh.rq T.aC Y ⟨Y,Y⟩ trivial (λa a a a h t=>h) (ZS e.2) q))
theorem Qh{I:Nat->Wd->(Loc->Prop)->Prop}(R:aW F W K s)(hk:∀b o,s.heap.get? b=M o->H'.get? b=M o)(he:IsEnum H' (s.heap.objs.size+1) s.heap.objs.size 0 .none)(g:H'.get? s.heap.objs.size=M o)(it:jj O (s.heap.objs.size+1) [s.heap.objs.size+1,s.heap.objs.size] I S)
 (h:∀W',Tu W W' (aX K.h) (aX K.h)->(s.heap.objs.size,o)∈W'.n->(s.heap.objs.size+1,xP s.heap.objs.size 0 .none)∈W'.n->I 0 W' (aX K.h))(q:Q S K):wpAny Md A (t7 (.ref (s.heap.objs.size+1))) (oh O F W K.h Q) ba {s with heap:=H'}:=
 have ae:=R.Z4 (tk:=s.toks) hk (show H'.get? (s.heap.objs.size+1)=M (xP s.heap.objs.size 0 .none) from he) g
 wpAny_pyIter_enum (s:={s with heap:=H'}) he ⟨_,K,_,_,_,_,Y,ae.1,ae.2,it,h _ (ae.2.tu R.aC.aC R.nx) (.tail _ (.head _)) (.head _),λp m e=>have lt:=d9 (R.aC.aD p m).1;(b0.mp e).elim (λe=>Nat.not_succ_lt_self (e▸lt)) λe=>dI _ (bp.mp e▸lt),q⟩
theorem Z6(hl:K.h l=M (.l vs))(q:Q (BX (Fs l)) K):IE K (.e l) Q:=λF A n W s v T vx=>ak vx.1 (call_enumerate_list (T.aC.n4 hl) λh' he hi a hk=>hi.elim λo g=>Qh T.aC hk he g.1 ZY (λW' t m m'=>⟨uw.vQ ⟨mu hl,Y⟩ t,o,_,m,g.2,m'⟩) q)
theorem Z7(q:Q (BX (Ft vs)) K):IE K (V.bP vs) Q:=λF A n W s v T vx=>b5 (VR.kJ.mp vx) λa p=>p.elim λws p=>by obtain rfl:=p.1;exact ZI (T.aC.th a ws p.2.1) λh' he hi hk=>hi.elim λo g=>Qh T.aC hk he g.1 ZZ (λW' t m m'=>⟨vx.bN t,o,_,m,g.2,m'⟩) q
theorem I9{e:bU}{env:jf}(h:nk [7] e=O)(x:aN):WR e env x=pure x:=by cases e<;>first|rfl|exact cw h
theorem oi(h:WE n a (λx aS=>IB b aS x Q) K):WI n b (.l a) Q K:=λF A W s q T c=>c.elim (λc=>c.elim λv c=>bX.no c.1 Y) λc=>c.elim (λc=>c.elim λv c=>by obtain rfl:q=v:=aq (λx=>bX.rec (motive:=λd=>bU) id (λd=>q) (λd=>q) (λd=>q) id (λd=>q) (λd=>q) (λd d=>q) x) c.1;exact⟨I9 c.2.2,wm (h F A W s q T c.2.1) λv a8 p=>p.cA λa5 aS x R e vx k=>wm (k F A n a5 a8 v ⟨T.aD,R⟩ vx) λd d p=>p.cO e⟩) λc=>c.elim λv c=>c.elim λp c=>bX.no c.1 Y
theorem Ja{q:bU}{env:jf}{f:bU}{vs:List bU}{kw:List Keyword}{p:gr}(e:bX.i q=.i (.Call f vs kw p))(w:wpAny Md A (eval (.Call f vs kw p) env) R ba s):(∀x,WR q env x=pure x)/\wpAny Md A (eval q env) R ba s:=by cases e;exact⟨λa=>Y,w⟩
theorem Z8{v:bU}(h:Pl v):oe [v]:=λpos env=>by rw[h.1];rfl
theorem Fv{f:aN}{pos:gr}{e:bU}{env:jf}(hp:Pl e)(h:wpAny Md A (eval e env) (λu a8=>Kp f a8.heap/\wpAny Md A (call f [u]) R ba a8) ba s):wpAny Md A (NU pos f [] (t8 pos (qP [e] env)) []) R ba s:=
 BL (first:=[]) (Z8 hp) (D8 (wm h λu a8 k=>A3 k) (hp.1 _ _))
theorem Jb(P:jw)(ah:jx):nsIn (K0 P++ah) mj "enumerate"=M U/\nsIn (K0 P++ah) mj "range"=M U:=⟨by kernel_rfl,by kernel_rfl⟩
theorem rangeSize_nat{N:Nat}:alb 0 N 1=(N:Int)-((0:Nat):Int):=(rangeSize_one 0 N).trans (by
 by_cases h:(0:Int)<N
 .exact aw h
 .rw[av h,ajT (vm.mp h) (jH N)];rfl)
theorem Jc:Eh "enumerate"=M (.type "enumerate")/\Eh "range"=M (.type "range"):=⟨by decide+kernel,by decide+kernel⟩
theorem Qi(h:WE n a (λx aS=>IE aS x Q) K):WI n O (.A a) Q K:=λF A W s q T c=>c.elim λnq c=>c.elim λv c=>c.elim λp c=>Ja c.1<|aK<|zy T c.2.1 (Jb w0.params Z0).1 Jc.1 (ao Y)<|Fv c.2.2.2<|
 wm (h F A W s v T c.2.2.1) λv a8 p=>p.cA λa5 aS x R e vx k=>⟨uo _ _,wm (k F A n a5 a8 v ⟨T.aD,R⟩ vx) λb b w=>wm w λb b p=>p.cO e⟩
theorem Z9(h:WE n a (λx aS=>∃N:Nat,x=.i N/\N<=1000000/\Q (I5 N) aS) K):WI n b (.B a) Q K:=λF A W s q T c=>c.elim λnq c=>c.elim λv c=>c.elim λp c=>Ja c.1<|aK<|zy T c.2.1 (Jb w0.params Z0).2 Jc.2 (ao Y)<|Fv c.2.2.2<|
 wm (h F A W s v T c.2.2.1) (λv a8 p=>p.cA λa5 aS x R e vx k=>k.elim λN k=>by
  obtain⟨rfl,z,q⟩:=k;obtain⟨t,rfl⟩:=vx;refine⟨uo _ _,call_range_1 (wpAny_pyIter_range (a:=0) (b:=(N:Int)) (IsRange.new ..) (small_one (ao Y) (ao Y) (Ho (ao Y) (jH N)) (AW (qc.mpr z) (ao Y))) ?_)⟩;have R':aW F a5 aS {a8 with heap:=a8.heap.push {cls:=.type "range",data:=.fields #[.int 0 a8.toks,.int N t,.int 1 (a8.toks+1)]},toks:=a8.toks+2}:=R.sA λd d e=>eW _ e
  exact(oh.rq (b:=b) R' Y (P:=λi o=>o=Fu i ((N:Int)-i)) (E:=λd d=>True) (by rw[rangeSize_nat];rfl) trivial (λd d d d h t=>h) ZT q).cO e)
theorem aaa(h:WE n a (λx aS=>∃l es,x=.e l/\aS.h l=M (.d es)/\Q (Qf l (es.map (·.1))) aS) K):WI n O (.E a) Q K:=λF A W s w T c=>c.elim λo c=>c.elim λq c=>c.elim λp c=>Ja c.1<|aK ((c.2.2.2 "items" F.bB (eval o F.bB)).symm▸wm (h F A W s o T c.2.2.1) (λov a8 r=>r.cA λa5 aS x R e vx k=>k.elim λl k=>k.elim λes k=>by
 obtain⟨rfl,hl,q⟩:=k;obtain⟨rfl,_⟩:=vx;have al:=R.lQ hl
 have g:=R.dg hl;rw[show es.length=(R.ds hl).length from al.gU.symm]at g
 have hT:a8.TypeIs (.ref (a5.ρ l)) "dict":=⟨_,g,Y⟩;have R':aW F a5 aS {a8 with heap:=a8.heap.push {cls:=.type "dict_items",data:=.fields #[.ref (a5.ρ l)]}}:=R.sA (tk:=a8.toks) λf f e=>eW _ e
 refine aK (se ?_);refine(Pt (λf f=>Y) c.2.1 Y λpl=>yM hT aiG aiE PySem.F.type_dict_items (λb e=>by cases e;exact⟨_,g,Y⟩)
  (BL (λf f=>Y) (A3 ⟨j5 _ _,mT aiE hT PySem.F.entry_dict_items (ZJ (R.n7 T.aD (R.dm hl)) g (ZK (s:={a8 with heap:=a8.heap.push {cls:=.type "dict_items",data:=.fields #[.ref (a5.ρ l)]}}) ⟨_,jG _ Y,Y,Y⟩ (eW _ g) ?_)) (PySem.F.args_dict_items_1 _)⟩)))
 have ae:=R'.IT (o:=zJ (a5.ρ l) 0 (es.map (·.1)).length .none .none) (tk:=a8.toks) Y;rw[show(R.ds hl).length=(es.map (·.1)).length by rw[al.gU,bc]]
 exact oh.cO e ⟨_,aS,_,_,_,_,Y,ae.1,ae.2,Z3,⟨⟨mu hl,Y⟩,_,_,.head _⟩,λp m e=>dI _ (bp.mp e▸d9 (R'.aC.aD p m).1),q⟩))
end
theorem aab{env:jf}{R:Bi->bK->Prop} {target it body orelse}{ah:Nat->ua->bK->Prop}(I:Nat->bK->Prop)
 (hz:∀n s,(ah n .next s\/ah n .cont s->∃m,m<n/\I m s)/\(ah n .brk s->R (.ok .next) s)/\∀v,ah n (.ret v) s->R (.ok (.ret v)) s)
 (turn:∀n s,I n s->wpAny Md A (yV it) (λr a8=>(r=U/\wpAny Md A (execs orelse env) (λf dy=>R (.ok f) dy) ba a8)\/∃v,r=M v/\wpAny Md A (Hl target it v) (λa bQ=>wpAny Md A (yW target env v) (λa bQ=>wpAny Md A (execs body env) (ah n) ba bQ) ba bQ) ba a8) ba s)
 (n:Nat)(s:bK)(h:I n s):qQ Md A (.forLoop target it body orelse env) R s:=by
 refine codeAny_loop' Y I (λn s hI=>?_) n h;show wpAny _ _ ((forTurn target it body orelse env).onRaise (λx=>do Hu x env;W4 x)) _ _ s
 refine Xl ?_;unfold forTurn;refine aK (se (aK (wpAny_onRaise (gC (turn n s hI) (λr a8 h₁=>?_) λa a h'=>h'.elim))));rcases h₁ with⟨rfl,h₁⟩|⟨v,rfl,h₁⟩
 .exact bg (.inr ⟨Y,codeAny_block (gC h₁ (λa a x=>x) λa a x=>x.elim)⟩)
 .refine aK (gC h₁ (λa bQ h₁=>?_) λa a h'=>h'.elim);refine aK (gC h₁ (λa bQ jA=>aK (gC jA (λf dy rp=>?_) λa a h'=>h'.elim)) λa a h'=>h'.elim);cases f with
  |next=>exact bg (.inl ⟨Y,(hz n dy).1 (.inl rp)⟩)
  |cont=>exact bg (.inl ⟨Y,(hz n dy).1 (.inr rp)⟩)
  |brk=>exact bg ((hz n dy).2.1 rp)
  |ret v=>exact bg ((hz n dy).2.2 v rp)
def Tg.bT(t:Tg):Bool:=Tg.rec (λa=>Z) (λa=>O) t
theorem Tg.aac{sc:dY}{t:Tg}{tg:bU}(c:qZ sc t tg)(h:t.bT=O):∃x y z,tg=.Tuple x y z:=by
 cases t with
 |v i=>cases h
 |a is=>exact b5 c λl c=>c.elim λk c=>c.elim λp c=>⟨l,k,p,c.1⟩
variable{Q:QF} {t:Tg} {it b:Sx}
section
variable{o:Sx}
theorem Ext.xn{J:List aY}(e:Ext F.bT W h W' K.h)(n:∀p∈W.n,p.1∉J):Ext F.bT W h ⟨W'.bG,W'.n.filter λp=>decide (p.1∉J)⟩ K.h:=e.IV (J:=(·∈J)) n λp m q=>iH.mpr ⟨m,az q⟩
theorem jj.on{b:Bool}{it:aY}{J:List aY}{I:Nat->Wd->(Loc->Prop)->Prop}{aZ:AS}(ai:jj b it J I S)(R:aW F W K s)(h:I i W (aX K.h))(e:Ext F.bT W K.h W' aZ.h):I i W' (aX aZ.h):=
 ai.aI _ _ _ _ _ h (e.tu R.aC.aC R.nx) λp m q=>(ai.aC _ _ _ h p.1 q).elim λo k=>k.elim λvs k=>have e':o=p.2:=R.kr k.1 m;e.aD p m (R.PQ m (aj e' k.2)) (R.Zp m (aj e' k.2))
def Qj(F:Fm)(W:Wd)(h:Hp)(It:Nat->Wd->(Loc->Prop)->Prop)(I:Nat->QA)(N m:Nat)(s':bK):Prop:=∃i W' aZ,m+i=N/\aW F W' aZ s'/\Ext F.bT W h W' aZ.h/\It i W' (aX aZ.h)/\I i aZ
def BZ(F:Fm)(W:Wd)(h:Hp)(It:Nat->Wd->(Loc->Prop)->Prop)(I:Nat->QA)(Q:QF)(N m:Nat)(f:ua)(s':bK):Prop:=∃(i:Nat)(j6:Wd)(zM:AS),i<N/\m+i=N/\Ext F.bT W h j6 zM.h/\(∀W' aZ,aW F W' aZ s'->Ext F.bT j6 zM.h W' aZ.h->It (i+1) W' (aX aZ.h))/\PG ro F j6 zM.h (Fw.lp (I (i+1)) Q) f s'
theorem BZ.go{It:Nat->Wd->(Loc->Prop)->Prop}{I:Nat->QA}{N:Nat}{g:ua}(hg:g=Hr\/g=.cont)(z:BZ F W h It I Q N m g s'):∃m',m'<m/\Qj F W h It I N m' s':=by
 obtain⟨i,j6,zM,lt,em,e,k,W',aZ,w,R',e',fl,q⟩:=z;have B1:m=m-1+1:=(M3 (G7 λz=>dI N (by rw[z,sf]at em;exact em▸lt))).symm
 refine⟨m-1,ajs (jd _) B1.symm,i+1,W',aZ,?_,R',e.cO e',k W' aZ R' e',?_⟩
 .rw[<-nO,wU,<-B1,em]
 .cases w with
  |n=>exact q
  |c=>exact q
  |b=>exact hg.elim (λw=>xk (w.symm.trans fl) Y) λw=>xk (w.symm.trans fl) rfl
  |r x=>exact b5 fl λv fl=>hg.elim (λw=>xk (w.symm.trans fl.1) Y) λw=>xk (w.symm.trans fl.1) Y
theorem kO(h:WI n t.bT it (λS aS=>∃(I:Nat->QA)(N:Nat),I 0 aS/\∀i K,I i K->(S i K.h U/\WB n o Q K)\/∃v,S i K.h (M v)/\i<N/\ur t v (λaZ=>WB n b (Fw.lp (I (i+1)) Q) aZ) K) K):WS n (.f t it b o) Q K:=λF A W s x T f c=>c.elim λtg c=>c.elim λJd c=>c.elim λb' c=>c.elim λo' c=>c.elim λp c=>kN c.1<|
 have h:=h F A W s Jd T c.2.2.1
 wpAny_For (wm h.2 (λx a8 h=>wm h (λv bQ p=>p.elim λa5 p=>p.elim λaS p=>p.elim λa p=>p.elim λJ p=>p.elim λIt p=>p.elim λS p=>by
  obtain⟨rfl,i6,fM,ai,i0,nJ,I,N,j0,st⟩:=p;refine aab (ah:=BZ F W K.h It I Q N) (Qj F W K.h It I N) (λm s'=>⟨λz=>z.elim (BZ.go (.inl Y)) (BZ.go (.inr Y)),λz=>?_,λv z=>?_⟩) (λm s' inv=>?_) N bQ ⟨0,a5,aS,Y,i6,fM,i0,j0⟩
  .obtain⟨i,j6,zM,lt,em,e,k,W',aZ,w,R',e',fl,q⟩:=z;cases w with
   |b=>exact⟨W',aZ,.n,R',e.cO e',Y,q⟩
   |r x=>exact b5 fl λv fl=>xk fl.1 rfl
   |_=>exact xk fl Y
  .obtain⟨i,j6,zM,lt,em,e,k,W',aZ,w,R',e',fl,q⟩:=z;cases w with
   |r x=>exact⟨W',aZ,.r x,R',e.cO e',fl,q⟩
   |_=>exact xk fl Y
  .obtain⟨i,cU,cf,em,eK,eX,k₂,aad⟩:=inv;rcases st i cf aad with⟨sn,wb⟩|⟨v,sv,lt,tw⟩
   .refine wm (ai.aG F A n cU cf s' i ⟨T.aD,eK⟩ k₂ sn) λr dy d=>.inl ⟨d.1,d.2.elim λh' d=>?_⟩;have og:=eK.PR (tk:=s'.toks) (ai.aC _ _ _ k₂) d.2
    exact ak d.1 (wm (wb F A _ _ o' ⟨T.aD,og⟩ f c.2.2.2.2) λg m9 p=>p.cO (eX.xn nJ))
   .refine wm (ai.aD F A n cU cf s' i v tg ⟨T.aD,eK⟩ k₂ sv (Tg.aac c.2.1)) λr dy d=>.inr (d.elim λu d=>⟨u,d.1,wm d.2 λj m9 d=>d.elim λnw d=>?_⟩);refine wm (IQ ⟨T.aD,d.1⟩ f.aC c.2.1 (.inl f.aD) d.2.2.2 tw) λj sC p=>p.cA λzO pH j zP zQ j w=>?_;have aae:=ai.on d.1 d.2.2.1 zQ
    exact wm (w F A zO sC b' ⟨T.aD,zP⟩ f c.2.2.2.1) λg Qk p=>⟨i,zO,pH,lt,em,(Ext.IV (J:=(·∈J)) (W:=cU) eX nJ d.2.1).cO zQ,λW' aZ R' e'=>ai.on zP aae e',p⟩))) h.1
end
noncomputable def Fm.Je(F:Fm)(scope:dY)(cl:List (aP×aY))(g:fC)(c:aY):Fm:=
 {h₀:=g,L:=c,q:=F.q,b:=fF F.b scope,fo:=U,cd:=F.cd,l:=cl,f:=F.f,g:=F.g}
noncomputable def j7(m:Mp)(bZ:List (Option Nat)):Mp:=λj=>(bZ[j]?).bind λr=>r.bind m
def jk(sc scope:dY)(bZ:List (Option Nat)):Prop:=(scope.kind=.function)/\(scope.names.map (·.1)).Nodup/\(fF sc scope).names.map (·.1)=scope.names.map (·.1)/\(∀p∈scope.names,p.2≠.cell)/\(∀p∈scope.names,p.2=.local->scope.names.lookup p.1=M .local)/\(∀p∈scope.names,p.2=.free->sc.names.lookup p.1=M .cell)/\(∀j i,bZ[j]?=M (M i)->cx (fF sc scope) j=cx sc i/\((fF sc scope).names.lookup (cx sc i)=M .cell\/(fF sc scope).names.lookup (cx sc i)=M .free)/\(cx sc i,ajr)∈scope.names/\sc.names.lookup (cx sc i)=M .cell)/\∀p∈(fF sc scope).names,p.2=.cell->(p.1,ajr)∈scope.names/\sc.names.lookup p.1=M .cell
section
variable{sc scope:dY} {bZ:List (Option Nat)} (hh:jk sc scope bZ)
def jk.aD:=hh.1
def jk.aJ:=hh.2.1
def jk.aI:=hh.2.2.1
def jk.aG:=hh.2.2.2.1
def jk.aT:=hh.2.2.2.2.1
def jk.bb:=hh.2.2.2.2.2.1
def jk.aC:=hh.2.2.2.2.2.2.1
def jk.bj:=hh.2.2.2.2.2.2.2
end
theorem Jf [BEq α] [LawfulBEq α]{a b:α}{c:Bool}(h:(a !=b||c)=O)(e:a=b):c=O:=(D5.mp h).resolve_left λw=>bne_iff_ne.mp w e
theorem jk.of{sc scope:dY}{bZ:List (Option Nat)}(h:y9 sc scope bZ=O):jk sc scope bZ:=by
 have h:=dH.mp h;have k:=dH.mp h.2
 have k1:=dH.mp k.1;have k2:=dH.mp k.2
 have k3:=dH.mp k2.2;have al:=λp hp=>dH.mp (qa.mp k2.1 p hp)
 refine⟨bq h.1,aB k1.1,bq k1.2,λp hp=>bne_iff_ne.mp (dH.mp (al p hp).1).1,λp hp e=>bq (Jf (dH.mp (al p hp).1).2 e),λp hp e=>bq (Jf (al p hp).2 e),λj i e=>?_,λp hp e=>?_⟩
 .have q:=dH.mp (qa.mp k3.1 (M i,j) (MX.mpr e));have q2:=dH.mp q.2
  have q3:=dH.mp q2.2;exact⟨bq q.1,(D5.mp q2.1).imp bq bq,iT.mp q3.1,bq q3.2⟩
 .have q:=dH.mp (Jf (qa.mp k3.2 p hp) e);exact⟨iT.mp q.1,bq q.2⟩
theorem mem_lookup{l:List (aP×vn)}{x:aP}{k:vn}(h:l.lookup x=M k):(x,k)∈l:=by
 induction l with
 |nil=>cases h
 |cons p r ih=>
  rw[tY]at h;cases e:x==p.1 with
  |true=>rw[e]at h;rw[bq e,<-bu h];exact .head _
  |false=>rw[e]at h;exact .tail _ (ih h)
theorem Jg{sc:dY}(h:(sc.names.map (·.1)).Nodup)(i j:Nat)(e:cx sc i=cx sc j)(ne:cx sc i≠fU):i=j:=by
 have key:∀i,cx sc i≠fU->(sc.names.map (·.1))[i]?=M (cx sc i):=λi ne=>by
  unfold cx at ne⊢;rw[kG];cases hi:sc.names[i]? with
  |none=>rw[hi]at ne;exact ax Y ne
  |some p=>rfl
 have h1:=key i ne;exact(Nc (cV.mp h1).1 h).mp (h1.trans (ak e (key j (aj e ne)).symm))
theorem aaf{env:jf}(l:List (aP×vn)):∀(cs:List (aP×aY)),(∀p∈l,p.2=.free->∃a,env.cells.lookup p.1=M a)->(∀x a,cs.lookup x=M a->env.cells.lookup x=M a)->
 ∃cl,(forIn l cs (λ(p:aP×vn) r=>if(p.2==.free)=O then(cellOf env p.1>>=λa=>pure (Ha ((p.1,a)::r)))else pure (Ha r)):gD (List (aP×aY)))=pure cl/\
  (∀x a,cl.lookup x=M a->env.cells.lookup x=M a)/\(∀p∈l,p.2=.free->cl.lookup p.1=env.cells.lookup p.1)/\∀x a,cs.lookup x=M a->cl.lookup x=M a:=by
 induction l with
 |nil=>exactλcs c h2=>⟨cs,Y,h2,(λc h=>bw h),λc c h=>h⟩
 |cons p r ih=>
  intro cs h1 h2;rw[ajJ];by_cases hk:p.2=.free
  .obtain⟨a,ha⟩:=h1 p (.head _) hk;have hd:∀x b,((p.1,a)::cs).lookup x=M b->env.cells.lookup x=M b:=λx b e=>by
    rw[tY]at e;cases hx:x==p.1 with
    |true=>rw[hx]at e;rw[bq hx,ha];exact e
    |false=>rw[hx]at e;exact h2 x b e
   have ca:cellOf env p.1=pure a:=by unfold cellOf;rw[ha]
   obtain⟨cl,c1,c2,c3,c4⟩:=ih ((p.1,a)::cs) (λp hp=>h1 p (.tail _ hp)) hd;refine⟨cl,?_,c2,λq hq e=>(b0.mp hq).elim (λw=>?_) λw=>c3 q w e,λx b e=>c4 x b ?_⟩
   .rw[aw (beq_iff_eq.mpr hk),ca];exact c1
   .rw[w,c4 p.1 a (by rw[tY,beq_self_eq_true]),ha]
   .rw[tY];cases hx:x==p.1 with
    |true=>rw[<-ha,<-bq hx];exact h2 x b e
    |false=>exact e
  .obtain⟨cl,c1,c2,c3,c4⟩:=ih cs (λp hp=>h1 p (.tail _ hp)) h2;refine⟨cl,?_,c2,λq hq e=>(b0.mp hq).elim (λw=>ax (aj w e) hk) λw=>c3 q w e,c4⟩;rw[av λw=>hk (bq w)];exact c1
variable{aZ:AS} {scope:dY} {bZ:List (Option Nat)} {J:List aY}
section
variable{cl:List (aP×aY)} {tk:Nat}
theorem Jh(R:aW F W K s)(r:jk F.b scope bZ):∃cl,closureFor scope F.bB=pure cl/\(∀x a,cl.lookup x=M a->F.l.lookup x=M a)/\∀p∈scope.names,p.2=.free->cl.lookup p.1=F.l.lookup p.1:=
 (aaf (env:=F.bB) scope.names [] (λp hp e=>(R.aG p.1 (r.bb p hp e)).elim λa q=>q.elim λd q=>q.elim λd q=>⟨a,q.1⟩) λx a e=>cK e).elim λcl c=>⟨cl,by unfold closureFor;refine Eq.trans (aq (·>>=λr=>pure r) c.1) Y,c.2.1,c.2.2.1⟩
theorem Ji(R:aW F W K s):∀b o,F.h₀.get? b=M o->(nW s.heap (W.n.map (·.1))).get? b=M o:=λb o e=>
 A6 _ (R.fr.keep b o e) λq=>(bk.mp q).elim λp hp=>fK (show M o=U from e.symm.trans (aj hp.2 (R.aC.aD p hp.1).2.2:F.h₀.get? b=U))
noncomputable abbrev Fm.ql(F:Fm)(W:Wd)(s:bK)(scope:dY)(cl:List (aP×aY)):Fm:=F.Je scope cl (nW s.heap (W.n.map (·.1))) s.heap.objs.size
theorem aag(R:aW F W K s)(r:jk F.b scope bZ)(c2:∀x a,cl.lookup x=M a->F.l.lookup x=M a)(c3:∀p∈scope.names,p.2=.free->cl.lookup p.1=F.l.lookup p.1){fr:bh}
 (ns:H'.Ns s.heap.objs.size (λc=>U))(sb:mf s.heap.objs.size (s.heap.push fr) H'):aW (F.ql W s scope cl) W ⟨j7 K.m bZ,K.h,K.t⟩ {s with heap:=H',toks:=tk}:=by
 have old:∀b o,s.heap.get? b=M o->H'.get? b=M o:=λb o e=>(sb.2 b (gZ (d9 e))).trans (eW _ e);have st:=Ji R
 refine⟨⟨λp hp=>⟨old _ _ (R.aC.aD p hp).1,gZ (d9 (R.aC.aD p hp).1),Nz _ (dw hp)⟩,R.aC.aC,R.aC.aI,R.aC.aG.keeps st,R.aC.aJ.keeps old,R.aC.bj,R.aC.bb,R.aC.aT.keeps st⟩,
  ⟨_,⟨ns,λb o e=>old b o (NN _ e),fR (Ny _ _)⟩,λj x e=>?_⟩,λy hy=>?_,λy y' a e e'=>R.aI y y' a (c2 _ _ e) (c2 _ _ e'),λp hp=>(bw hp)⟩
 .obtain⟨q,hq,e⟩:=AU.mp e;obtain⟨i,rfl,e⟩:=AU.mp e;have z:=r.aC j i hq
  refine(R.lo i x e).elim λv vh=>⟨v,.inr ?_,vh.2⟩;show(aks _ (cx (fF F.b scope) j)=M .cell\/aks _ (cx (fF F.b scope) j)=M .free)/\∃a o,cl.lookup (cx (fF F.b scope) j)=M a/\_;rw[z.1,c3 _ z.2.2.1 Y];exact⟨z.2.1,vh.1.elim (λk=>yX ((show F.b.names.lookup (cx F.b i)=M .local from k.1).symm.trans z.2.2.2) Y) λk=>k.2⟩
 .have z:=r.bj (y,.cell) (mem_lookup hy) Y;exact(R.aG y z.2).elim λa q=>q.elim λo q=>q.elim λv q=>⟨a,o,v,(c3 _ z.1 Y).trans q.1,q.2⟩
theorem aah(R:aW F W K s)(ib:lO F A n)(hk:scope.kind=.function):lO (F.ql W s scope cl) A 0:=
 have st:=Ji R
 ⟨λh=>ax h (dI 0),hk,aL (mR ..) ib.aI,ib.un,ib.aC,ib.aG.elim λp t=>t.elim λl t=>t.elim λmg t=>t.elim λmb t=>⟨p,l,mg,mb,t.keeps st⟩,ib.aJ.elim λo q=>⟨o,st _ _ q⟩,ib.aT⟩
def Sv(W:Wd)(h:Hp)(W':Wd)(h':Hp):Prop:=Tu W W' (aX h) (aX h')/\(∀a o,(a,o)∈W.n->(∀vs,¬jK o vs)->¬jg W h a->(a,o)∈W'.n)/\∀a o,(a,o)∈W.n->(∀vs,¬jK o vs)->¬jg W h a->¬jg W' h' a
section
variable{h':Hp} (hh:Sv W h W' h')
def Sv.aC:=hh.1
def Sv.aG:=hh.2.1
def Sv.aD:=hh.2.2
end
theorem Tu.cO{Ql Qm:Loc->Prop}(a:Tu W a5 D Ql)(b:Tu a5 cU Ql Qm):Tu W cU D Qm:=
 ⟨λl d=>⟨(b.aC l (a.aC l d).1).1,(b.aC l (a.aC l d).1).2.trans (a.aC l d).2⟩,λx vs m=>b.aD x vs (a.aD x vs m)⟩
theorem Sv.refl:Sv W h W h:=⟨⟨λl d=>⟨d,Y⟩,λa a m=>m⟩,λa a m a a=>m,λa a a a n=>n⟩
theorem Sv.cO(a:Sv W h a5 h₁)(b:Sv a5 h₁ cU jA):Sv W h cU jA:=⟨a.aC.cO b.aC,λx o m c n=>b.aG x o (a.aG x o m c n) c (a.aD x o m c n),λx o m c n=>b.aD x o (a.aG x o m c n) c (a.aD x o m c n)⟩
theorem Qn(hf:F.fo=U)(ho:F.o=[])(a:aY):¬F.bT a:=λw=>w.elim (λq=>q.elim λb q=>q.2.2 hf) λq=>by rw[ho]at q;cases q
theorem Ext.sv(R:aW F W K s)(hf:F.fo=U)(ho:F.o=[])(e:Ext F.bT W K.h W' aZ.h):Sv W K.h W' aZ.h:=⟨e.tu R.aC.aC R.nx,λa o m c n=>e.aD _ m n (Qn hf ho _),λa o m c n=>e.mw m n⟩
theorem Qo{mZ:List (aY×bh)}(R:aW F W K s)(hJ:∀a∈J,∃o vs,(a,o)∈W.n/\jK o vs)(k:∀p∈W.n,p.1∉J->p∈mZ):Sv W K.h ⟨W.bG,mZ⟩ K.h:=
 have nJ:∀a o,(a,o)∈W.n->(∀vs,¬jK o vs)->a∉J:=λa o m c q=>(hJ a q).elim λo' r=>r.elim λvs r=>c vs (aj (R.kr r.1 m) r.2)
 ⟨⟨λl d=>⟨d,Y⟩,λa vs m=>k _ m (nJ _ _ m λvs f=>jz f.1 Y)⟩,λa o m c n=>k _ m (nJ _ _ m c),λa o m c n=>n⟩
theorem Qp{o:bh}(h:(∃v,o.data=.cell v)\/∃es ep,o.data=.dict es ep)(vs:Array aN):¬jK o vs:=λf=>h.elim (λq=>q.elim λv q=>jz (f.1.symm.trans q) Y) λq=>q.elim λes q=>q.elim λep q=>jz (f.1.symm.trans q) Y
theorem aW.B2(R:aW F W K s)(v:Sv W K.h W' h):∀a o,(a,o)∈W.n->((∃v,o.data=.cell v)\/a∈F.o.map (·.1))->(a,o)∈W'.n/\¬jg W' h a:=λa o m q=>
 have w:(∀vs,¬jK o vs)/\¬jg W K.h a:=q.elim (λq=>⟨Qp (.inl q),q.elim λv q=>R.aC.aC.mw m λf=>f.2.1 v q⟩) λq=>⟨Qp (.inr (R.vD m q).1),(R.vD m q).2⟩
 ⟨v.aG a o m w.1 w.2,v.aD a o m w.1 w.2⟩
theorem aai(R:aW F W K s)(R':aW (F.ql W s scope cl) W' aZ s')(v:Sv W K.h W' aZ.h)(sb:mf s.heap.objs.size s'.heap H'):aW F W' ⟨K.m,aZ.h,aZ.t⟩ {s' with heap:=H',toks:=tk}:=by
 have st:=Ji R;have nL:F.L∉W.n.map (·.1):=λq=>(bk.mp q).elim λp hp=>(R.aC.aD p hp.1).2.1 hp.2
 obtain⟨oL,es,ep,hL,zS⟩:=R.fr.ns;have Qq:=A6 _ hL nL
 have keep:∀b o,(nW s.heap (W.n.map (·.1))).get? b=M o->H'.get? b=M o:=λb o e=>(sb.2 b (gZ (by have:=d9 e;rwa [Ny]at this))).trans (R'.fr.keep b o e)
 have ft:Fr F.h₀ F.L H' R.mm:=⟨⟨oL,es,ep,keep _ _ Qq,zS⟩,λb o e=>keep b o (st b o e),R.fr.above⟩;refine⟨⟨λp hp=>?_,R'.aC.aC,R'.aC.aI,R.aC.aG,R.aC.aG.keeps ft.keep,R'.aC.bj,R'.aC.bb,R.aC.aT⟩,⟨R.mm,ft,λi x q=>(R.lo i x q).elim λu w=>⟨u,w.1.imp id λw=>⟨w.1,w.2.elim λa w=>w.elim λo w=>⟨a,o,w.1,w.2.1.imp (λm=>(R.B2 v a o m (.inl ⟨_,w.2.2⟩)).1) id,w.2.2⟩⟩,w.2.bN v.aC⟩⟩,
  λy hy=>(R.aG y hy).elim λa q=>q.elim λo q=>q.elim λu q=>⟨a,o,u,q.1,(R.B2 v a o q.2.1 (.inl ⟨u,q.2.2⟩)).1,q.2.2⟩,R.aI,λp hp=>have k:=R.aD p hp;⟨k.1,k.2.1.elim λo q=>⟨o,(R.B2 v _ o q.1 (.inr (dw hp))).1,q.2⟩,k.2.1.elim λo q=>(R.B2 v _ o q.1 (.inr (dw hp))).2⟩⟩
 have z:=R'.aC.aD p hp;have z3:(nW s.heap (W.n.map (·.1))).get? p.1=U:=z.2.2
 refine⟨(sb.2 _ z.2.1).trans z.1,λq=>(cK (show U=M oL from(aj q z3:(nW s.heap (W.n.map (·.1))).get? F.L=U).symm.trans Qq)),?_⟩
 cases q:F.h₀.get? p.1 with
 |none=>rfl
 |some o=>exact cK (z3.symm.trans (st _ _ q))
theorem aW.reM(R:aW F W K s)(hc:∀i x,K.m i=M x->F.bB.kindOf (cx F.b i)≠M .local)(R':aW F W' aZ s')(v:Sv W K.h W' aZ.h):aW F W' ⟨K.m,aZ.h,aZ.t⟩ s':=
 ⟨R'.aC,⟨R'.mm,R'.fr,λi x q=>(R.lo i x q).elim λu w=>⟨u,.inr (w.1.elim (λk=>ax k.1 (hc i x q)) λw=>⟨w.1,w.2.elim λa w=>w.elim λo w=>⟨a,o,w.1,w.2.1.imp (λm=>(R.B2 v a o m (.inl ⟨_,w.2.2⟩)).1) id,w.2.2⟩⟩),w.2.bN v.aC⟩⟩,R'.aG,R'.aI,R'.aD⟩
theorem aak{m:Mp}{g:fC}{c:aY}(r:jk F.b scope bZ):∀i x,j7 m bZ i=M x->(F.Je scope cl g c).bB.kindOf (cx (F.Je scope cl g c).b i)≠M .local:=λj x e w=>by
 obtain⟨q,hq,e⟩:=AU.mp e;obtain⟨i,rfl,e⟩:=AU.mp e;have z:=r.aC j i hq
 have w:(fF F.b scope).names.lookup (cx (fF F.b scope) j)=M .local:=w;rw[z.1]at w;exact z.2.1.elim (λk=>yX (k.symm.trans w) Y) λk=>yX (k.symm.trans w) Y
theorem aal{sc:dY}(h:zf sc t=O):∀i∈t.is,∀x,od sc i x=O->sc.names.lookup x=M .local:=by
 cases t with
 |v i=>exactλj hj x hx=>(BQ (bp.mp hj▸hx)).1▸bq h
 |a is=>exactλj hj x hx=>(BQ hx).1▸bq (qa.mp h j hj)
theorem aW.Jj{c:aY}(R:aW F W K s)(hL:c≠F.L)(h0:F.h₀.get? c=U)(hn:∀p∈W.n,p.1≠c)(sb:mf c s.heap H'):aW F W K {s with heap:=H',toks:=tk}:=
 have F':Fr F.h₀ F.L H' R.mm:=⟨R.fr.ns.at λo e=>(sb.2 _ (Em hL)).trans e,λb o e=>(sb.2 b λq=>fK ((q▸e).symm.trans h0)).trans (R.fr.keep b o e),R.fr.above⟩
 ⟨⟨λp hp=>⟨(sb.2 _ (hn p hp)).trans (R.aC.aD p hp).1,(R.aC.aD p hp).2⟩,R.aC.aC,R.aC.aI,R.aC.aG,R.aC.aG.keeps F'.keep,R.aC.bj,R.aC.bb,R.aC.aT⟩,⟨R.mm,F',R.lo⟩,R.aG,R.aI,R.aD⟩
end
noncomputable def Qr(ifs:List bU)(env:jf):gD Bool:=forIn ifs O λc r=>if r=O then do let ok<-HC c env (eval c env);pure (Ha ok)else pure (Ha r)
def Fy(A:oG)(target:bU)(it:aN)(env:jf)(R:Bi->bK->Prop)(BD:(bK->Prop)->bK->Prop)(I:Nat->bK->Prop):Prop:=∀n s,I n s->wpAny Md A (yV it) (λr a8=>(r=U/\R (.ok .next) a8)\/∃v,r=M v/\wpAny Md A (Hl target it v) (λa bQ=>wpAny Md A (yW target env v) (λa bQ=>BD (λs'=>∃m,m<n/\I m s') bQ) ba bQ) ba a8) ba s
def B3(A:oG)(elt:bU)(ifs:List bU)(acc:aN)(env:jf)(ah:bK->Prop)(s:bK):Prop:=wpAny Md A (Qr ifs env) (λok dy=>if ok=O then wpAny Md A (eval elt env) (λx m9=>wpAny Md A (call (.builtin "list.append") [acc,x]) (λa sC=>ah sC) ba m9) ba dy else ah dy) ba s
def B4(A:oG)(kx vx:bU)(d:aN)(env:jf)(ah:bK->Prop)(s:bK):Prop:=∀D,d=.ref D->wpAny Md A (eval kx env) (λx m9=>wpAny Md A (eval vx env) (λy m9=>wpAny Md A (Ep D x y) (λa sC=>ah sC) ba m9) ba m9) ba s
theorem aam{R:Bi->bK->Prop}{env:jf}{elt target iter:bU}{ifs:List bU}{pos:gr}{it acc:aN}{I:Nat->bK->Prop}(turn:Fy A target it env R (B3 A elt ifs acc env) I)(h:I n s):
 qQ Md A (.compLoop (.ListComp elt [⟨target,iter,ifs,0⟩] scope pos) 0 it acc env) R s:=by
 refine codeAny_loop Y I (λn s hI=>?_) n h;show wpAny _ A ((compTurn (.ListComp elt [⟨target,iter,ifs,0⟩] scope pos) 0 it acc env).onRaise (λx=>do Hu x env;W4 x)) _ _ s
 refine Xl ?_;rw[compTurn_list];refine aK (se (aK (gC (turn n s hI) (λr a8 h₁=>?_) λa a h'=>h'.elim)));rcases h₁ with⟨rfl,h₁⟩|⟨v,rfl,h₁⟩
 .exact bg h₁
 .refine aK (gC h₁ (λa bQ h₁=>?_) λa a h'=>h'.elim);refine aK (gC h₁ (λa bQ jA=>aK (gC jA (λok dy rp=>?_) λa a h'=>h'.elim)) λa a h'=>h'.elim);cases ok with
  |false=>exact bg ⟨Y,rp⟩
  |true=>exact aK (aK (gC rp (λx m9 Fn=>aK (gC Fn (λa sC Fp=>bg (bg ⟨Y,Fp⟩)) λa a h'=>h'.elim)) λa a h'=>h'.elim))
theorem aan{R:Bi->bK->Prop}{env:jf}{kx vx target iter:bU}{pos:gr}{it:aN}{D:aY}{I:Nat->bK->Prop}(turn:Fy A target it env R (B4 A kx vx (.ref D) env) I)(h:I n s):
 qQ Md A (.compLoop (.DictComp kx vx [⟨target,iter,[],0⟩] scope pos) 0 it (.ref D) env) R s:=by
 refine codeAny_loop Y I (λn s hI=>?_) n h;show wpAny _ A ((compTurn (.DictComp kx vx [⟨target,iter,[],0⟩] scope pos) 0 it (.ref D) env).onRaise (λx=>do Hu x env;W4 x)) _ _ s
 refine Xl ?_;rw[compTurn_dict];refine aK (se (aK (gC (turn n s hI) (λr a8 h₁=>?_) λa a h'=>h'.elim)));rcases h₁ with⟨rfl,h₁⟩|⟨v,rfl,h₁⟩
 .exact bg h₁
 .refine aK (gC h₁ (λa bQ h₁=>?_) λa a h'=>h'.elim);refine aK (gC h₁ (λa bQ jA=>?_) λa a h'=>h'.elim);refine aK (bg ?_);refine aK (aK (gC (jA D Y) (λx m9 Fn=>aK (ij (gC Fn (λy sC Fp=>aK (se (ij (gC Fp (λa Qk Fq=>?_) λa a h'=>h'.elim)))) λa a h'=>h'.elim))) λa a h'=>h'.elim));exact bg ⟨Y,Fq⟩
def CQ(o:af)(t:Tg)(bZ:List (Option Nat))(B:Loc->(Hp->Nat->Prop)->QA)(Q:QV)(S:Src):QA:=alloc o λa K=>∃l,a=.e l/\∃(N:Nat)(I:Nat->Hp->Nat->Prop),I 0 K.h K.t/\∀i h τ,I i h τ->(S i h U/\Q (.e l) ⟨K.m,h,τ⟩)\/∃v,S i h (M v)/\i<N/\ur t v (B l (I (i+1))) ⟨j7 K.m bZ,h,τ⟩
def CI(F F':Fm)(a5 eZ:Wd)(h₁ rp:Hp)(mm:Mp)(It:Nat->Wd->(Loc->Prop)->Prop)(I:Nat->Hp->Nat->Prop)(N m:Nat)(s':bK):Prop:=∃i h τ W',m+i=N/\aW F' W' ⟨mm,h,τ⟩ s'/\Ext F.bT a5 h₁ W' h/\It i W' (aX h)/\Sv eZ rp W' h/\I i h τ
variable{eZ:Wd} {aS fy:AS} {a8 dy:bK} {Q:QV} {e:bU} {xv:aN} {xx:V} {use:Option (aN->gD Unit)} {BD:aN->jf->(bK->Prop)->bK->Prop} {B:Loc->(Hp->Nat->Prop)->QA}
section
variable{cl:List (aP×aY)} {o:af} {tg:bU} {ai:QE}
theorem Qs{F':Fm}{j6:Wd}{h₀ h':Hp}(hf:F'.fo=U)(ho:F'.o=[])(e:Ext F'.bT j6 h₀ W' h'):Ext X j6 h₀ W' h':=e.weaken λa w=>ax w (Qn hf ho a)
theorem aao{it:aY}{It:Nat->Wd->(Loc->Prop)->Prop}{I:Nat->Hp->Nat->Prop}{N:Nat}{R:Bi->bK->Prop}(r:jk F.b scope bZ)(og:aW F eZ fy dy)(ib:lO (F.ql eZ dy scope cl) A 0){m9:bK}(ux:aW (F.ql eZ dy scope cl) eZ ⟨j7 fy.m bZ,fy.h,fy.t⟩ m9)(tl:zf (fF F.b scope) t=O)(ct:qZ (fF F.b scope) t tg)(k:jj Z it J It S)(nJ:∀p∈a5.n,p.1∉J)
 (dl:aX fy.h l)(bd:∀F' W K s ai,F'.b=fF F.b scope->St F' A 0 W K s->aX K.h l->B l ai K->BD (.ref (W.ρ l)) F'.bB (λs'=>∃W' aZ,aW F' W' aZ s'/\Ext F'.bT W K.h W' aZ.h/\ai aZ.h aZ.t) s)(mono:∀a env ah Z' s,(∀s,ah s->Z' s)->BD a env ah s->BD a env Z' s)
 (st:∀i h τ,I i h τ->(S i h U/\Q (.e l) ⟨fy.m,h,τ⟩)\/∃v,S i h (M v)/\i<N/\ur t v (B l (I (i+1))) ⟨j7 fy.m bZ,h,τ⟩)
 (fin:∀W' h τ s',aW (F.ql eZ dy scope cl) W' ⟨j7 fy.m bZ,h,τ⟩ s'->Sv eZ fy.h W' h->Ext F.bT a5 aS.h W' h->Q (.e l) ⟨fy.m,h,τ⟩->R (.ok .next) s'):
 Fy A tg (.ref it) (F.ql eZ dy scope cl).bB R (BD (.ref (eZ.ρ l)) (F.ql eZ dy scope cl).bB) (CI F (F.ql eZ dy scope cl) a5 eZ aS.h fy.h (j7 fy.m bZ) It I N):=λm s' inv=>by
 obtain⟨i,h,τ,W',em,R',E',i',S',j⟩:=inv;rcases st i h τ j with⟨sn,q⟩|⟨v,sv,lt,tw⟩
 .refine wm (k.aG _ A 0 W' _ s' i ⟨ib,R'⟩ i' sn) λr dy d=>.inl ⟨d.1,d.2.elim λh' d=>?_⟩;rw[d.1];exact fin _ h τ _ (R'.PR (tk:=s'.toks) (k.aC _ _ _ i') d.2) (S'.cO (Qo R' (k.aC _ _ _ i') λp m q=>iH.mpr ⟨m,az q⟩)) (E'.xn (K:=⟨j7 fy.m bZ,h,τ⟩) nJ) q
 .refine wm (k.aD _ A 0 W' _ s' i v tg ⟨ib,R'⟩ i' sv (λe=>cw e)) λc sC d=>.inr (d.elim λu d=>⟨u,d.1,wm d.2 λc Qk d=>d.elim λnw d=>?_⟩);refine wm (IQ ⟨ib,d.1⟩ (Jg (sc:=fF F.b scope) (ak r.aI r.aJ)) ct (.inr (aal tl)) d.2.2.2 tw) λc aap p=>p.cA λQt Qu c Jk Jl c w=>?_;have aaq:Sv eZ fy.h ⟨W'.bG,nw⟩ h:=S'.cO (Qo R' (k.aC _ _ _ i') d.2.1)
  have Qv:Sv eZ fy.h Qt Qu.h:=aaq.cO (Jl.sv d.1 Y Y);have aar:Ext F.bT a5 aS.h ⟨W'.bG,nw⟩ h:=Ext.IV (J:=(·∈J)) (W:=W') E' nJ d.2.1
  have aas:=k.on d.1 d.2.2.1 Jl;have z:=Qv.aC.aC l dl
  have b:=bd (F.ql eZ dy scope cl) Qt Qu aap (I (i+1)) Y ⟨ib,Jk⟩ z.1 w;rw[z.2]at b;refine mono _ _ _ _ _ (λakC p=>?_) b;obtain⟨Qw,Jm,aat,Jn,q⟩:=p;have Qx:Sv eZ fy.h Qw Jm.h:=Qv.cO (Jn.sv Jk Y Y)
  have B1:m=m-1+1:=(M3 (G7 λz=>dI N (by rw[z,sf]at em;exact em▸lt))).symm
  refine⟨m-1,ajs (jd _) B1.symm,i+1,Jm.h,Jm.t,Qw,?_,ux.reM (aak r) aat Qx,(aar.cO (Qs Y Y Jl)).cO (Qs Y Y Jn),k.on Jk aas Jn,Qx,q⟩;rw[<-nO,wU,<-B1,em]
theorem Qy(T:St F A n a5 aS a8)(r:jk F.b scope bZ)(c2:∀x a,cl.lookup x=M a->F.l.lookup x=M a)(c3:∀p∈scope.names,p.2=.free->cl.lookup p.1=F.l.lookup p.1)(tl:zf (fF F.b scope) t=O)(ct:qZ (fF F.b scope) t tg)
 {Qz:gD aN}(na:∀W K s Q,aW F W K s->alloc o Q K->wpAny Md A Qz (fL F W K.h Q) ba s)
 (bd:∀F' W K s ai l,F'.b=fF F.b scope->St F' A 0 W K s->aX K.h l->B l ai K->BD (.ref (W.ρ l)) F'.bB (λs'=>∃W' aZ,aW F' W' aZ s'/\Ext F'.bT W K.h W' aZ.h/\ai aZ.h aZ.t) s)(mono:∀a env ah Z' s,(∀s,ah s->Z' s)->BD a env ah s->BD a env Z' s)
 (lp:∀it a env R I n s,Fy A tg it env R (BD (.ref a) env) I->I n s->qQ Md A (.compLoop e 0 it (.ref a) env) R s)
 (sp:∀it acc env R s,qQ Md A (.compLoop e 0 it acc env) R s->wpAny Md A (t7 it) (λJd s'=>qQ Md A (.compLoop e 0 Jd acc env) R s') ba s->qQ Md A (.compStart e 0 it acc env) R s)
 (vx:VR a5 (aX aS.h) xv xx)(q:IB Z aS xx (CQ o t bZ B Q))
 (fin:∀acc c s'(mm:aP->Option aN) W' aZ y,s'.heap.Ns c mm->aW F W' aZ s'->Ext F.bT a5 aS.h W' aZ.h->c≠F.L->F.h₀.get? c=U->(∀p∈W'.n,p.1≠c)->VR W' (aX aZ.h) acc y->Q y aZ->El Md A ba use ai acc c (.ok .next) s'):
 wpAny Md A (t7 xv) (λit bQ=>wpAny Md A Qz (λacc dy=>wpAny Md A (newFunctionEnv scope F.bB.globals cl [] F.bB.qual U .none (M F.bB)) (λQB m9=>
  qQ Md A (.compStart e 0 it acc {QB with scope:=relabel scope F.bB}) (El Md A ba use ai acc QB.locals) m9) ba dy) ba bQ) ba a8:=by
 refine wm (q F A n a5 a8 xv T vx) λitv bQ p=>p.elim λcU p=>p.elim λcf p=>p.elim λit p=>p.elim λJ p=>p.elim λIt p=>p.elim λS p=>?_;obtain⟨rfl,eK,eX,k,i0,nJ,al⟩:=p;refine wm (na cU cf bQ _ eK al) λacc dy p=>p.cA λeZ fy a og vP va w=>?_;obtain⟨l,rfl,N,I,j0,st⟩:=w;obtain⟨rfl,dl⟩:=va;refine ajF (λy hy=>r.aG y hy) (λy hy=>bw hy) (λh' ns sb=>?_) r.aD;have ux:aW (F.ql eZ dy scope cl) eZ ⟨j7 fy.m bZ,fy.h,fy.t⟩ {dy with heap:=h',toks:=dy.toks+0}:=aag og r c2 c3 ns sb
 have ib:=aah (scope:=scope) (cl:=cl) og T.aD r.aD;have i3:=k.on eK i0 vP
 have loop:qQ Md A (.compLoop e 0 (.ref it) (.ref (eZ.ρ l)) (F.ql eZ dy scope cl).bB) (El Md A ba use ai (.ref (eZ.ρ l)) dy.heap.objs.size) {dy with heap:=h',toks:=dy.toks+0}:=by
  refine lp _ _ _ _ _ N _ (aao (aS:=aS) (a5:=a5) (l:=l) (Q:=Q) (N:=N) (I:=I) r og ib ux tl ct k nJ dl (λF' W K s ai=>bd F' W K s ai l) mono st λW' h τ s' R' S' E' q=>?_) ⟨0,fy.h,fy.t,eZ,Y,ux,eX.cO vP,i3,Sv.refl,j0⟩;have z:=S'.aC.aC l dl
  refine fin _ _ _ R'.mm W' ⟨fy.m,h,τ⟩ (.e l) R'.fr.ns (aai (tk:=s'.toks) (aZ:=⟨j7 fy.m bZ,h,τ⟩) og R' S' (ald ..)) E' (mU og.fr.ns.lt) ?_ (λp hp=>(R'.aC.aD p hp).2.1) ⟨aq ik z.2.symm,z.1⟩ q;cases q:F.h₀.get? dy.heap.objs.size with
  |none=>rfl
  |some o=>exact ax (d9 (og.fr.keep _ _ q)) (dI _)
 exact sp _ _ _ _ _ loop (k.aJ Y _ A 0 eZ _ _ 0 _ ⟨ib,ux⟩ i3 loop)
end
def WC(cs:Sx)(P:Bool->QA)(K:AS):Prop:=∀F A W s q,St F A 0 W K s->Ck cs F.b (.ts q)->wpAny Md A (Qr q F.bB) (Ia F W K.h P) ba s
def LB(elt cs:Sx)(l:Loc)(ai:Hp->Nat->Prop)(K:AS):Prop:=l.1≠0/\WC cs (λb rv=>if b then WE 0 elt (λy pH=>∃ys,pH.h l=M (.l ys)/\ys.length<16777216/\ai (pH.h.aF l (.l (ys++[y]))) pH.t) rv else ai rv.h rv.t) K
def DB(ek ev:Sx)(l:Loc)(ai:Hp->Nat->Prop)(K:AS):Prop:=WE 0 ek (λx rv=>WE 0 ev (λy pH=>∃es,pH.h l=M (.d es)/\x.cn 7=O/\es.length<16777216/\ai (pH.h.aF l (.d (cC es x y))) pH.t) rv) K
variable{elt cs ek ev c:Sx} {ifs:List bU} {x y:bU} {ah Z':bK->Prop}
section
variable{ai:Hp->Nat->Prop}
theorem QC(q:P O K):WC .n P K:=λF A W s l T c=>ak (IA c) (wpAny_tests_nil (T.pg Y q))
theorem aau(h:WT 0 c P K):WC (.c c .n) P K:=λF A W s l T k=>(Pq k).elim λe k=>k.elim λq k=>ak k.1 (IA k.2.2▸wpAny_tests_one (h F A W s e T k.2.1))
theorem aav(hc:Ck cs F.b (.ts ifs))(he:Ck elt F.b (.e x))(T:St F A 0 W K s)(dl:aX K.h l)(q:LB elt cs l ai K):B3 A x ifs (.ref (W.ρ l)) F.bB (λs'=>∃W' aZ,aW F W' aZ s'/\Ext F.bT W K.h W' aZ.h/\ai aZ.h aZ.t) s:=
 wm (q.2 F A W s ifs T hc) (λok dy p=>p.cA λeZ fy b R e eq w=>by
  subst eq;cases ok with
  |false=>exact⟨eZ,fy,R,e,w⟩
  |true=>exact wm (w F A eZ dy x ⟨T.aD,R⟩ he) (λy m9 p=>p.cA λQD rv y' ux uy vy w=>w.elim λys w=>by have z:=((e.cO uy).tu T.aC.aC.aC T.aC.nx).aC l dl;exact wm (Fd (n:=0) (Q:=λa aZ=>aZ=rv.aF l (.l (ys++[y'])) rv.t) q.1 w.1 w.2.1 Y F A QD m9 [.ref (W.ρ l),y] ⟨T.aD,ux⟩ (.gE ⟨aq ik z.2.symm,z.1⟩ (.gE vy .gO))).2 λa sC p=>p.cA λzO pH a zP zQ a k=>⟨zO,pH,zP,e.cO (uy.cO zQ),ak k w.2.2⟩))
theorem aaw{a:aN}{env:jf}(k:∀s,ah s->Z' s)(h:B3 A x ifs a env ah s):B3 A x ifs a env Z' s:=wm h (λok dy h=>by
 cases ok with
 |false=>exact k _ h
 |true=>exact wm h λb b h=>wm h λb s h=>k s h)
theorem QG{kx vx:V}{v:aN}{ai:QA}(T:St F A n W K s)(hl:K.h l=M (.d es))(ky:kx.cn 7=O)(hz:es.length<16777216)(vk:VR W (aX K.h) u kx)(vv:VR W (aX K.h) v vx)(q:ai (K.aF l (.d (cC es kx vx)) K.t)):wpAny Md A (Ep (W.ρ l) u v) (sh F W K.h ai) ba s:=
 OD T.aC.th (T.aC.dg hl) (T.aC.lQ hl) (T.aC.qh hl) vk ky vv (T.cl (k:=8) (ao Y)) (by rw[kg];exact gB hz) λh' kK tk sb g al=>T.aC.PB (ai:=λa=>ai) (x:=()) hl sb g al (OB (T.aC.qh hl)) (PF hz) (λa a a=>trivial) q
theorem aax(hk:Ck ek F.b (.e x))(hv:Ck ev F.b (.e y))(T:St F A 0 W K s)(dl:aX K.h l)(q:DB ek ev l ai K):B4 A x y (.ref (W.ρ l)) F.bB (λs'=>∃W' aZ,aW F W' aZ s'/\Ext F.bT W K.h W' aZ.h/\ai aZ.h aZ.t) s:=λD eD=>by
 obtain rfl:=Hk eD;refine wm (q F A W s x T hk) λu dy p=>p.cA λeZ fy x' R e vx w=>wm (w F A eZ dy y ⟨T.aD,R⟩ hv) λv m9 p=>p.cA λQD rv y' ux uy vy w=>w.elim λes w=>?_;have z:=((e.cO uy).tu T.aC.aC.aC T.aC.nx).aC l dl
 exact aj z.2 (wm (QG (ai:=λaZ=>aZ=rv.aF l (.d (cC es x' y')) rv.t) ⟨T.aD,ux⟩ w.1 w.2.1 w.2.2.1 (vx.bN (uy.tu R.aC.aC R.nx)) vy Y) λa sC p=>p.cA λzO pH a zP zQ a k=>⟨zO,pH,zP,e.cO (uy.cO zQ),ak k w.2.2.2⟩)
theorem aay{a:aN}{env:jf}(k:∀s,ah s->Z' s)(h:B4 A x y a env ah s):B4 A x y a env Z' s:=λD e=>wm (h D e) λb b h=>wm h λb b h=>wm h λb s h=>k s h
theorem QH(fM:Ext F.bT W K.h a5 aS.h):∀acc c s'(mm:aP->Option aN) W' aZ y,s'.heap.Ns c mm->aW F W' aZ s'->Ext F.bT a5 aS.h W' aZ.h->c≠F.L->F.h₀.get? c=U->(∀p∈W'.n,p.1≠c)->VR W' (aX aZ.h) acc y->Q y aZ->El Md A ba U (fL F W K.h Q) acc c (.ok .next) s':=
 λacc c s' mm W' aZ y ns R' e hL h0 hn vy q=>⟨mm,ns,λh3 sb=>⟨W',aZ,y,R'.Jj (tk:=s'.toks) hL h0 hn sb,fM.cO e,vy,q⟩⟩
theorem QI{g:Comprehension}{p:gr}{v:bU}(T:St F A n W K s)(as:(g.is_async==0)=O)(ch:y9 F.b scope bZ=O)(tl:zf (fF F.b scope) t=O)(ci:Ck it F.b (.e g.iter))(ct:qZ (fF F.b scope) t g.target)(cc:Ck cs (fF F.b scope) (.ts g.ifs))(ce:Ck elt (fF F.b scope) (.e v))(B5:nk [7] g.iter=O)
 (h:WE n it (λx aS=>IB Z aS x (CQ (.l []) t bZ (LB elt cs) Q)) K)
 (fin:∀(a5:Wd)(aS:AS),Ext F.bT W K.h a5 aS.h->∀acc c s'(mm:aP->Option aN) W' aZ y,s'.heap.Ns c mm->aW F W' aZ s'->Ext F.bT a5 aS.h W' aZ.h->c≠F.L->F.h₀.get? c=U->(∀p∈W'.n,p.1≠c)->VR W' (aX aZ.h) acc y->Q y aZ->El Md A ba use R acc c (.ok .next) s'){pp:gr}:
 wpAny Md A (comprehension (.ListComp v [g] scope p) scope F.bB pp (Hy []) (firstAsync [g]) (firstIter [g] F.bB) use) R ba s:=by
 obtain⟨tg,iter,ifs,as'⟩:=g;obtain rfl:=bq as;have r:=jk.of ch
 obtain⟨cl,c1,c2,c3⟩:=Jh T.aC r;refine ajc Y (λxv=>I9 B5 xv) c1 r.aD r.aT (wm (h F A W s iter T ci) λxv a8 p=>p.cA λa5 aS xx i6 fM vx q=>?_);exact Qy (BD:=B3 A v ifs) (B:=LB elt cs) ⟨T.aD,i6⟩ r c2 c3 tl ct (λW K s Q R al=>EH R .gO (b7 _) al) (λF' W K s ai l e T' dl b=>aav (ak e cc) (ak e ce) T' dl b) (λa env ah Z' s=>aaw) (λd d d d d d d tr i0=>aam tr i0) (λd d d d d h0 h=>codeAny_compStart_list h0 (gC h (λd d x=>x) λd d x=>x.elim)) vx q (fin a5 aS fM)
theorem B6(h:WE n it (λx aS=>IB Z aS x (CQ (.l []) t bZ (LB elt cs) Q)) K):WE n (.sj elt t it cs bZ) Q K:=λF A W s q T c=>c.elim λv c=>c.elim λg c=>c.elim λscope c=>c.elim λp c=>f6 c.1 (by rw[eval_ListComp];exact QI T c.2.1 c.2.2.1 c.2.2.2.1 c.2.2.2.2.1 c.2.2.2.2.2.1 c.2.2.2.2.2.2.1 c.2.2.2.2.2.2.2.1 c.2.2.2.2.2.2.2.2 h λa5 aS e=>QH e)
theorem aaA(h:WE n it (λx aS=>IB Z aS x (CQ (.d []) t bZ (DB ek ev) Q)) K):WE n (.EJ ek ev t it bZ) Q K:=λF A W s q T c=>c.elim λk c=>c.elim λv c=>c.elim λg c=>c.elim λscope c=>c.elim λp c=>f6 c.1 (by
 obtain⟨_,as,em,ch,tl,ci,ct,ck,cv,B5⟩:=c;rw[arm_eval_DictComp];obtain⟨tg,iter,ifs,as'⟩:=g;obtain rfl:=bq as;obtain rfl:=List.isEmpty_iff.mp em;have r:=jk.of ch
 obtain⟨cl,c1,c2,c3⟩:=Jh T.aC r;refine ajc (use:=U) Y (λxv=>I9 B5 xv) c1 r.aD r.aT (wm (h F A W s iter T ci) λxv a8 p=>p.cA λa5 aS xx i6 fM vx q=>?_);exact Qy (BD:=B4 A k v) (B:=DB ek ev) ⟨T.aD,i6⟩ r c2 c3 tl ct (λW K s Q R al=>OK R al) (λF' W K s ai l e T' dl b=>aax (ak e ck) (ak e cv) T' dl b) (λa env ah Z' s=>aay) (λf f f f f f f tr i0=>aan tr i0) (λf f f f f h0 h=>codeAny_compStart_dict h0 (gC h (λf f x=>x) λf f x=>x.elim)) vx q (QH fM))
theorem aaB{y:aP}{q:gr}{ai:QA}(c:lO F A n)(f:Sf F)(it:od F.b i y=O)(kd:F.b.names.lookup y=M .local)(fM:Ext F.bT W K.h a5 aS.h):∀acc c s'(mm:aP->Option aN) W' aZ x,s'.heap.Ns c mm->aW F W' aZ s'->Ext F.bT a5 aS.h W' aZ.h->c≠F.L->F.h₀.get? c=U->(∀p∈W'.n,p.1≠c)->VR W' (aX aZ.h) acc x->ai (aZ.eR i x)->El Md A ba (M (yW (.Name y q) F.bB)) (λa=>PG (λa a f(a:Unit)=>f=.next) F W K.h (λa=>ai) Hr) acc c (.ok .next) s':=
 λacc c' s' mm W' aZ x ns R' e hL h0 hn vx q=>WJ (PL ⟨c,R'⟩ f.aC it kd vx λh' tk sb R''=>⟨mm,ns.at λo ho=>(sb.2 _ hL).trans ho,λh3 sb=>⟨W',aZ.eR i x,(),R''.Jj (tk:=tk) hL h0 hn sb,fM.cO e,Y,q⟩⟩)
theorem Jo{ai:QA}(h:WE n it (λx aS=>IB Z aS x (CQ (.l []) t bZ (LB elt cs) λx aZ=>ai (aZ.eR i x))) K):WN n (.EL i (.sj elt t it cs bZ)) ai K:=λF A W s x T f c=>c.elim λy c=>c.elim λq c=>c.elim λb c=>c.elim λgs c=>c.elim λscope c=>c.elim λlp c=>c.elim λp c=>by
 obtain⟨vO,it,kd,ck⟩:=c;cases vO;obtain⟨w,hw⟩:∃w,Ht (.ListComp b gs scope lp) (M (.Name y q)) p.line F.bB=pure w:=⟨_,Y⟩;cases w with
 |false=>exact WM (zt BP (f:=λv=>NP F.bB y v) T (B6 h F A W s _ T ck) λu a8 a5 aS x gv a vx k=>xM (zC gv f.aC it (.inl f.aD) vx k)) hw
 |true=>
  obtain⟨v,g,akE,p',e,as,ch,tl,ci,ct,cc,ce,B5⟩:=ck;cases e;rw[exec_Assign_Name_used _ _ _ _ hw];refine aK (se (aK ?_));show wpAny _ A (do let _<-comprehension (.ListComp b [g] scope lp) scope F.bB _ (Hy []) (firstAsync [g]) (firstIter [g] F.bB) (M (yW (.Name y q) F.bB))) _ _ s
  exact aK (wm (QI (R:=λa=>PG (λa a f(a:Unit)=>f=.next) F W K.h (λa=>ai) Hr) T as ch tl ci ct cc ce B5 h λa5 aS e=>aaB T.aD f it (bq kd) e) λa a h=>bg (bg h))
end
theorem QJ{ss:Ss}:∀{vs:List aN},bL (VR W D) vs (ss.map .s)->N2 vs ss/\∀z∈ss,kH z=O:=by
 induction ss with
 |nil=>exactλh=>ak h.oJ ⟨.nil,λb m=>bw m⟩
 |cons a r ih=>exactλh=>h.lK.elim λu q=>q.elim λw q=>ak q.1 (b5 q.2.1 λt e=>e.1▸⟨.cons _ _ (ih q.2.2).1,kb.mpr ⟨e.2,(ih q.2.2).2⟩⟩)
theorem aaD{ss:List Int}:∀{vs:List aN},bL (VR W D) vs (ss.map .i)->Er vs ss:=by
 induction ss with
 |nil=>exactλh=>ak h.oJ .nil
 |cons a r ih=>exactλh=>h.lK.elim λu q=>q.elim λw q=>ak q.1 (b5 q.2.1 λt e=>e▸.cons _ _ (ih q.2.2))
theorem QK{vs:List aN}{ss:Ss}(h:N2 vs ss):(∀z∈ss,kH z=O)->bL (VR W D) vs (ss.map .s):=by
 induction h with
 |nil=>exactλa=>.gO
 |cons x t h ih=>exactλk=>.gE ⟨t,Y,k _ (.head _)⟩ (ih λz hz=>k z (.tail _ hz))
theorem QL{vs:List aN}{ss:List Int}(h:Er vs ss):bL (VR W D) vs (ss.map .i):=by
 induction h with
 |nil=>exact .gO
 |cons x t h ih=>exact .gE ⟨t,Y⟩ ih
theorem aaE{bs:List Bool}:∀{vs:List aN},bL (VR W D) vs (bs.map .o)->vs=bs.map .bool:=by
 induction bs with
 |nil=>exactλh=>h.oJ
 |cons a r ih=>exactλh=>h.lK.elim λu q=>q.elim λw q=>by rw[q.1,show u=.bool a from q.2.1,ih q.2.2];rfl
variable{x y:V} {ss:Ss} {js:List Int} {bs:List Bool} {z:aP} {a b:Int}
theorem aaF(q:Q (.i (if b<a then b else a)) K):OL n (.builtin "min") [.i a,.i b] Q K:=xJ (j5 _) λF A W s v u T vx vy=>b5 vx λt e=>b5 vy λt' e'=>e▸e'▸min_two_ints T.aD.aC λh' tk hk=>⟨W,K,.i (if b<a then b else a),T.aC.sA hk,Ext.lM,by
 by_cases h:b<a
 .rw[aw h,aw h];exact⟨_,Y⟩
 .rw[av h,av h];exact⟨_,Y⟩,q⟩
theorem QM(hl:K.h l=M (.l (ss.map .s)))(z:ss.length<64)(q:∀jm:Ss,jm.Perm ss->HA jm=O->alloc (.l (jm.map .s)) Q K):OL n (.builtin "sorted") [.e l] Q K:=oR (j5 _) λF A W s v T vx=>vx.1▸by
 have sa:=QJ (T.aC.hM hl);have ln:=T.aC.lP hl
 rw[bc]at ln;refine sorted_strs (vs:=(T.aC.a7 hl).toList) (T.aC.n4 hl) sa.1 (by rw[M9,ln];exact z) λout jm h1 h2 h3=>(sortedAll_at s.heap (T.aC.a7 hl).toList out).elim λe' he=>?_
 exact T.aC.uh (tk:=s.toks) (a7:=out) (k:=e') (λb o=>sortedAll_old) (λb o h=>qI (d9 h)) he (QK h1 λz hz=>sa.2 z (h2.mem_iff.mp hz)) (by rw[bc,h2.length_eq];exact aL (gB z) (ao Y)) (q jm h2 h3)
theorem aaG(hl:K.h l=M (.l (js.map .i)))(z:js.length<64)(q:∀jm:List Int,jm.Perm js->jm.Pairwise (·<=·)->alloc (.l (jm.map .i)) Q K):OL n (.builtin "sorted") [.e l] Q K:=oR (j5 _) λF A W s v T vx=>vx.1▸by
 have ln:=T.aC.lP hl;rw[bc]at ln;refine sorted_ints (vs:=(T.aC.a7 hl).toList) (T.aC.n4 hl) (aaD (T.aC.hM hl)) (by rw[M9,ln];exact z) λout jm h1 h2 h3=>(sortedAll_at s.heap (T.aC.a7 hl).toList out).elim λe' he=>?_
 exact T.aC.uh (tk:=s.toks) (a7:=out) (k:=e') (λb o=>sortedAll_old) (λb o h=>qI (d9 h)) he (QL h1) (by rw[bc,h2.length_eq];exact aL (gB z) (ao Y)) (q jm h2 h3)
theorem aaH(z1:z.length<=64)(z2:(ss.map (·.length)).sum+ss.length*64<=16777216)(ok:kH (Xt z ss)=O)(q:Q (.s (Xt z ss)) K):OL n (.builtin "str.join") [.s z,V.bP (ss.map .s)] Q K:=xJ (j5 _) λF A W s v u T vx vy=>b5 vx λt e=>e.1▸b5 (VR.kJ.mp vy) λa p=>p.elim λws p=>p.1▸
 join_tupleC (items:=ws.toArray) ⟨_,T.aC.th a ws p.2.1,Y,0,Y⟩ (QJ p.2.2).1 z1 z2 λt' k'=>T.ku (x:=.s _) k' ⟨t',Y,ok⟩ q
theorem aaI(hl:K.h l=M (.l (bs.map .o)))(q:Q (.o (bs.all id)) K):OL n (.builtin "all") [.e l] Q K:=oR (j5 _) λF A W s v T vx=>vx.1▸by
 have ev:=aaE (T.aC.hM hl);have g:=T.aC.fE hl
 have hL:=T.aC.n4 hl;have ne:W.ρ l≠s.heap.objs.size:=gZ (d9 g)
 have sz:(T.aC.a7 hl).size=bs.length:=(T.aC.lP hl).trans (bc ..);refine call_all_walk (aj4 hL ?_);refine⟨s.heap.objs.size,_,_,_,_,_,λi=>(bs[i]?).getD O,Y,Walks.list (show A.in1.handled=U from T.aD.aC) s.heap.objs.size (W.ρ l) ne (T.aC.a7 hl),⟨⟨_,jG _ Y,Y,Y⟩,⟨_,eW _ g,Y,_,Y⟩⟩,λi v s' Q' E' hv h=>?_,λh' tk hk=>?_⟩
 .dsimp only at hv h;rw[<-tU,ev,kG]at hv;obtain⟨b,hb,rfl⟩:=DY.mp hv;rw[hb]at h;exact A0 h
 .have e:(iW (T.aC.a7 hl).size).all (λi=>(bs[i]?).getD O)=bs.all id:=by
   rw[sz];refine Nk.mpr (qa.trans (Iff.trans ⟨λh b hb=>?_,λh i hi=>?_⟩ qa.symm))
   .obtain⟨i,hi⟩:=kE hb;have:=h i (gY.mpr (cV.mp hi).1)
    rw[hi]at this;exact this
   .rw[mO (gY.mp hi)];exact h _ (Ng _)
  exact aj e (⟨W,K,.o _,T.aC.sA (tk:=tk) λb o x=>hk b o (λm=>dI _ (bp.mp m▸d9 x)) (eW _ x),Ext.lM,Y,aj e.symm q⟩)
theorem QN(hl:K.h l=M (.l vs))(z:vs.length<=16777216)(q:alloc (.l vs) Q K):OL n (.type "list") [.e l] Q K:=oR (uo _) λF A W s v T vx=>vx.1▸
 call_list_seq _ (.inl Y) (T.aC.fE hl) Y Y (λh' c' hk g'=>T.aC.uh (a7:=T.aC.a7 hl) (k:=c') (tk:=s.toks) hk (λb o e=>d9 e) g' (T.aC.hM hl) z q) (by rw[kg,T.aC.lP hl];exact z)
theorem aaJ(z:vs.length<=16777216)(q:alloc (.l vs) Q K):OL n (.type "list") [V.bP vs] Q K:=oR (uo _) λF A W s v T vx=>b5 (VR.kJ.mp vx) λa p=>p.elim λws p=>p.1▸
 call_list_seq (items:=ws.toArray) (n:=0) _ (.inr Y) (T.aC.th a ws p.2.1) Y Y (λh' c' hk g'=>T.aC.uh (a7:=ws.toArray) (k:=c') (tk:=s.toks) hk (λb o e=>d9 e) g' p.2.2 z q) (by rw[kg];exact aL (fR p.2.2.gU) z)
theorem aW.so(R:aW F W K s)(hl:K.h l=M (.s vs)):∃o,s.heap.get? (W.ρ l)=M o/\(W.ρ l,o)∈W.n/\xp o vs:=(R.aC.aC.aC l _ hl).2.elim λo q=>⟨o,(R.aC.aD _ q.1).1,q.1,q.2⟩
theorem xp.Jp{o:bh}{a:aY}{h:fC}(so:xp o vs)(g:h.get? a=M o):h.SetOf (strKind pr w0) a (λz=>decide (V.s z∈vs)) vs.length:=
 so.elim λes q=>q.elim λep q=>q.elim λt q=>⟨o,es,ep,t,g,q.1,q.2.1,q.2.2.1,λk=>decide_eq_true_iff.trans (q.2.2.2.1 k),q.2.2.2.2⟩
theorem xp.aaK{a:aY}{h:fC}{S:aP->Bool}(x:h.SetOf (strKind pr w0) a S vs.length)(e:∀k,S k=O↔V.s k∈vs):∃o,h.get? a=M o/\xp o vs:=
 b5 x λo q=>q.elim λes q=>q.elim λep q=>q.elim λt q=>⟨o,q.1,es,ep,t,q.2.1,q.2.2.1,q.2.2.2.1,λk=>(e k).symm.trans (q.2.2.2.2.1 k),q.2.2.2.2.2⟩
theorem QO(q:alloc (.s []) Q K):OL n (.type "set") [] Q K:=λF A W s vs T al=>⟨uo _ _,al.oJ▸call_set_0 λled=>q.elim λl q=>q.elim λt' q=>
 T.aC.EG (o:=.s []) (tk:=s.toks) (c:={cls:=.type "set",dict:=U,data:=.set #[] 0 (.fresh 0 0 led)}) q.1 OJ (λb o e=>eW _ e) (λb o e=>d9 e) (jG _ Y) (λW' t m=>⟨q.1.l0,_,m,#[],0,_,⟨Y,Y,Y⟩,Y,(λe he=>bw he),λk=>⟨λh=>(bw h),λh=>h.elim λe h=>bw h.1⟩,ao Y,Y,Y⟩) q.2⟩
def setAdd(vs:Vs)(x:V):Vs:=if x∈vs then vs else vs++[x]
theorem aaL:y∈setAdd vs x↔y∈vs\/y=x:=by
 unfold setAdd;by_cases h:x∈vs
 .rw[aw h];exact⟨.inl,λq=>q.elim id λe=>ak e h⟩
 .rw[av h,cD,bp]
theorem aaM(hl:K.h l=M (.s vs))(zl:vs.length<4000)(q:Q .n (K.aF l (.s (setAdd vs (.s z))) K.t)):OL n (.builtin "set.add") [.e l,.s z] Q K:=xJ (j5 _) λF A W s v u T vx vy=>vx.1▸b5 vy λt e=>e.1▸(T.aC.so hl).elim λo k=>by
 have l0:=(T.aC.aC.aC.aC l _ hl).1;refine call_set_add (show WY z (.str z t)=O from beq_self_eq_true z) Y (k.2.2.Jp k.1) (bF zl (by decide:4000<scanBound)) λh' sb S'=>?_
 have ln:(setAdd vs (.s z)).length=if decide (V.s z∈vs)=O then vs.length else vs.length+1:=by
  unfold setAdd;by_cases h:V.s z∈vs
  .rw[aw h,aw (az h)]
  .rw[av h,av λw=>h (aB w),dW];rfl
 rw[<-ln]at S';refine(xp.aaK (vs:=setAdd vs (.s z)) S' λk'=>(D5.trans (Iff.trans (or_congr decide_eq_true_iff decide_eq_true_iff) ?_))).elim λo' k'=>?_
 .exact Iff.symm (aaL.trans (or_congr qf ⟨λe=>by cases e;rfl,λe=>aj e Y⟩))
 have nd:∀v,o.data≠.cell v:=λv w=>k.2.2.elim λes r=>r.elim λep r=>r.elim λt r=>jz (r.2.1.symm.trans w) Y;exact(T.aC.Ic (b:=Z) (o:=.s (setAdd vs (.s z))) (tk:=s.toks+1) ⟨l0,mu hl,λw=>cw w⟩ (λw=>ax w OJ) (λw=>w.elim λa w=>w.elim λb w=>vq (w.symm.trans hl) Y) k.2.1 nd sb k'.1 λW' t ea c m=>⟨l0,o',(show(W'.bG (l,Z),_)∈_ from ak ea m),k'.2⟩).elim λW' w=>⟨W',_,.n,w.1,w.2,Y,q⟩
theorem aaN(hl:K.h l=M (.s vs))(q:Q (.i vs.length) K):OL n (.builtin "len") [.e l] Q K:=oR (j5 _) λF A W s v T vx=>vx.1▸(T.aC.so hl).elim λo k=>k.2.2.elim λes r=>r.elim λep r=>r.elim λt r=>by refine call_len_set k.1 r.1 r.2.1 r.2.2.2.2.2.1 (ake (mV.mpr r.2.2.2.2.1) (ao Y)) ?_;rw[r.2.2.2.2.2.2];exact T.ku (x:=.i _) _ ⟨_,Y⟩ q
theorem aaO(hl:K.h l=M (.s vs)):GM K (.e l) "add" (.builtin "set.add"):=λF A n W s v pl T vx R q=>ak vx.1 ((T.aC.so hl).elim λo k=>k.2.2.elim λes r=>r.elim λep r=>r.elim λt r=>yM ⟨_,k.1,r.1.1⟩ PySem.F.plainAttrs_set PySem.F.slot_set_add PySem.F.type_set_add (λa e=>by cases e;exact⟨_,k.1,r.1.2.1⟩) (aj vx.1 q))
variable{ws:Vs} {a b:Sx}
section
variable{v:aN} {o:aN} {ds:List dJ}
theorem slice_list{lo hi:Option Int}{vl vu:aN}{sl:aY}(R:aW F W K s)(hl:K.h l=M (.l vs))(pl:IsPart vl lo)(pu:IsPart vu hi)(hs:s.heap.IsSliceOf sl vl vu .none)
 (z:vs.length<=16777216)(hw:ws=(vs.drop (lo.elim 0 (mW vs.length))).take (hi.elim vs.length (mW vs.length)-lo.elim 0 (mW vs.length)))(q:alloc (.l ws) Q K):wpAny Md A (xf (.ref (W.ρ l)) (.ref sl)) (fL F W K.h Q) ba s:=by
 have al:=R.hM hl;have sz:(R.a7 hl).size=vs.length:=R.lP hl
 refine wpAny_getItem_list_slice (R.n4 hl) hs pl pu .none (λe=>cK e) ?_ (by rw[kg,sz];exact z)
 have vU:bL (VR W (aX K.h)) (slicePick (R.a7 hl) lo hi U).toList ws:=by rw[hw,slicePick_plain,sz];exact(al.xn _).HS _
 have le:ws.length<=vs.length:=by rw[hw,Hb,Hc];exact aL (Nat.min_le_right ..) (Xk ..)
 exact R.uh (tk:=s.toks) (k:=0) (λb o e=>eW _ e) (λb o e=>d9 e) (jG _ Y) vU (aL le z) q
theorem Fz{value:bU}{lo hi:Option bU}{p:gr}(hs:Slot s v)(h:wpAny Md A (xf v u) R ba s):wpAny Md A (yS value (.Slice lo hi U p) v u) R ba s:=hs.elim λT k=>k.elim λid k=>by
 have fin:wpAny Md A (Xo (.Slice lo hi U p) Z v u) (λr dy=>wpAny Md A (akq value v r>>=λa=>pure r) R ba dy) ba s:=
  show wpAny Md A (operate [u,v] (xf v u)) _ ba s from akg (wm h λr dy h=>aK (Wn (bg h)))
 unfold yS;rw[ajy k.1.not_modules];exact aK (aK (A2 k.1 k.2 (bg (aK fin))))
theorem Jq{ab:aN->gD α}{g:aN->α->gD aN}{ai:QV}{Ev:gD aN}(T:St F A n W K s)(w:wpAny Md A Ev (fL F W K.h ai) ba s)(k:∀v a8 a5 aS x,St F A n a5 aS a8->Tu W a5 (aX K.h) (aX aS.h)->VR a5 (aX aS.h) v x->ai x aS->wpAny Md A (ab v) (λi bQ=>wpAny Md A (g v i) (fL F a5 aS.h Q) ba bQ) ba a8):
 wpAny Md A Ev (λv a8=>wpAny Md A (ab v) (λi bQ=>wpAny Md A (g v i) (fL F W K.h Q) ba bQ) ba a8) ba s:=
 wm w λv a8 p=>p.cA λa5 aS x R e vx q=>wm (k v a8 a5 aS x ⟨T.aD,R⟩ (e.tu T.aC.aC.aC T.aC.nx) vx q) λa a w=>jL e w
theorem Jr(R:aW F W K s)(hl:K.h l=M (.l vs)):Slot s (.ref (W.ρ l)):=⟨"list",_,⟨_,R.fE hl,Y⟩,WQ.lookup⟩
theorem aaP{t:aY}{us:List aN}(R:aW F W K s)(h:TupAt W t us):Slot s (.ref t):=⟨"tuple",_,⟨_,R.th t us h,Y⟩,GU.lookup⟩
def LA(x:V)(Q:QV)(K:AS):Prop:=∃l vs,x=.e l/\K.h l=M (.l vs)/\vs.length<=16777216/\alloc (.l vs) Q K
def LL(x y:V)(Q:QV)(K:AS):Prop:=(∃l vs i,x=.e l/\y=.i i/\K.h l=M (.l vs)/\vs.length<=16777216/\alloc (.l (vs.drop (mW vs.length i))) Q K)\/∃(vs:Vs)(j:Nat),x=V.bP vs/\y=.i j/\j<=vs.length/\1<=j/\vs.length<=16777216/\Q (V.bP (vs.drop j)) K
def LU(x y:V)(Q:QV)(K:AS):Prop:=∃l vs i,x=.e l/\y=.i i/\K.h l=M (.l vs)/\vs.length<=16777216/\alloc (.l (vs.take (mW vs.length i))) Q K
theorem QP(h:WE n a (λx aS=>LA x Q aS) K):WE n (.OO a) Q K:=λF A W s q T c=>c.elim λv c=>c.elim λp c=>c.elim λp' c=>f6 c.1<|A8<|Jq (g:=yS v (.Slice U U U p)) T (h F A W s v T c.2) λo a8 a5 aS x gv b vx q=>by
 obtain⟨l,vs,rfl,hl,z,al⟩:=q;obtain⟨rfl,_⟩:=vx;have R':aW F a5 aS {a8 with heap:=a8.heap.push {cls:=.type "slice",data:=.fields #[.none,.none,.none]}}:=gv.aC.sA (tk:=a8.toks) λb b e=>eW _ e
 exact Xm (AX (AX (AX (Fz (Jr R' hl) (slice_list R' hl .none .none (M5 ..) z (by show vs=(vs.drop 0).take (vs.length-0);rw[ajR,Xe,e7]) al)))))
theorem zT(h:WE n a (λx aS=>WE n b (λy cf=>LL x y Q cf) aS) K):WE n (.xA a b) Q K:=λF A W s q T c=>c.elim λv c=>c.elim λw c=>c.elim λp c=>c.elim λp' c=>f6 c.1<|A8<|Jq (g:=yS v (.Slice (M w) U U p)) T (h F A W s v T c.2.1) λo a8 a5 aS x gv d vx q=>by
 refine Xm (ajW (wm (q F A a5 a8 w gv c.2.2) λu bQ r=>r.cA λcU cf y eK eX vy q=>AX (AX ?_)));have R':aW F cU cf {bQ with heap:=bQ.heap.push {cls:=.type "slice",data:=.fields #[u,.none,.none]}}:=eK.sA (tk:=bQ.toks) λd d e=>eW _ e
 have vx:=vx.bN (eX.tu gv.aC.aC.aC gv.aC.nx);refine jL eX (?_:wpAny Md A _ (fL F cU cf.h Q) ba _);rcases q with⟨l,vs,i,rfl,rfl,hl,z,al⟩|⟨vs,j,rfl,rfl,h2,h1,z,q⟩
 .obtain⟨rfl,_⟩:=vx;obtain⟨tk,rfl⟩:=vy;exact Fz (Jr R' hl) (slice_list R' hl (.int i tk) .none (M5 ..) z (by show vs.drop (mW vs.length i)=(vs.drop (mW vs.length i)).take (vs.length-mW vs.length i);rw[yI (fR (Hc ..))]) al)
 .obtain⟨t,us,rfl,ht,al⟩:=VR.kJ.mp vx;obtain⟨tk,rfl⟩:=vy;have ln:=al.gU
  refine Fz (aaP R' ht) (getItem_tuple_from (items:=us.toArray) (a:=j) (u:=tk) ⟨_,R'.th t us ht,Y,0,Y⟩ (M5 ..) (gc Nat.zero_lt_one h1) (show j<=us.length from ak ln h2) ?_ (by rw[kg];exact aL (fR ln) z))
  have ae:=R'.IT (o:=ia (us.drop j)) (tk:=bQ.toks) Y;exact⟨_,cf,_,ae.1,ae.2,VR.kJ.mpr ⟨_,us.drop j,Y,⟨.inl (.head _),by rw[Hc];exact aL (Xk ..) ht.2⟩,(al.xn j).bN λd d=>VR.bN (ae.2.tu R'.aC.aC R'.nx)⟩,q⟩
theorem QQ(h:WE n a (λx aS=>WE n b (λy cf=>LU x y Q cf) aS) K):WE n (.Ig a b) Q K:=λF A W s q T c=>c.elim λv c=>c.elim λw c=>c.elim λp c=>c.elim λp' c=>f6 c.1<|A8<|Jq (g:=yS v (.Slice U (M w) U p)) T (h F A W s v T c.2.1) λo a8 a5 aS x gv d vx q=>by
 refine Xm (AX (ajW (wm (q F A a5 a8 w gv c.2.2) λu bQ r=>r.cA λcU cf y eK eX vy q=>AX ?_)));have R':aW F cU cf {bQ with heap:=bQ.heap.push {cls:=.type "slice",data:=.fields #[.none,u,.none]}}:=eK.sA (tk:=bQ.toks) λd d e=>eW _ e
 have vx:=vx.bN (eX.tu gv.aC.aC.aC gv.aC.nx);refine jL eX (?_:wpAny Md A _ (fL F cU cf.h Q) ba _);obtain⟨l,vs,i,rfl,rfl,hl,z,al⟩:=q;obtain⟨rfl,_⟩:=vx;obtain⟨tk,rfl⟩:=vy;exact Fz (Jr R' hl) (slice_list R' hl .none (.int i tk) (M5 ..) z (by show vs.take (mW vs.length i)=(vs.drop 0).take (mW vs.length i-0);rw[ajR,Xe]) al)
theorem FA(h1:K.h l=M (.l vs))(h2:K.h l'=M (.l ws))(z:vs.length+ws.length<=16777216)(q:alloc (.l (vs++ws)) Q K):O2 K (pB .Add) (.e l) (.e l') Q:=λF A n W s v u T vx vy=>by
 obtain⟨rfl,_⟩:=vx;obtain⟨rfl,_⟩:=vy;have R:=T.aC
 have sz:(R.a7 h1).size+(R.a7 h2).size=vs.length+ws.length:=by rw[R.lP h1,R.lP h2]
 refine concat_meets ⟨_,R.fE h1,Y⟩ ⟨_,R.fE h2,Y⟩ noFill_list_add seq_list_add PySem.F.slot_list_add PySem.F.entry_list_add (PySem.F.args_list_add_2 _ _) (als _ _ (R.a7 h1) (R.a7 h2) (R.xy h1) (R.xy h2) U U #[] #[] (by rw[kg,sz];exact z)) ⟨R.fE h1,R.fE h2,?_⟩
 exact R.uh (tk:=s.toks) (a7:=R.a7 h1++R.a7 h2) (k:=0) (λb o e=>eW _ e) (λb o e=>d9 e) (jG _ Y) (by rw[ajb];exact(R.hM h1).vt (R.hM h2)) (by rw[dW];exact z) q
theorem aaQ(h:z.length<=16777216)(q:Q (.i z.length) K):OL n (.builtin "len") [.s z] Q K:=oR (j5 _) λF A W s v T vx=>b5 vx λt e=>ak e.1 (alv (NF.mpr (BU (aL h (ao Y)))) (T.ku (x:=.i _) _ ⟨_,Y⟩ q))
theorem QR{m:Bool}(hl:K.h l=M (.s vs)):R2 K (mn (isin m)) (.s z) (.e l) (.o (m^^decide (V.s z∈vs))):=λF A n W s v u T vx vy=>vy.1▸b5 vx λt e=>e.1▸(T.aC.so hl).elim λo k=>by
 have kk:(strKind pr w0).is z (.str z t)=O:=show WY z (.str z t)=O from beq_self_eq_true z
 cases m
 .exact wpAny_inSet_of kk Y (k.2.2.Jp k.1) (aj (yP _).symm RV.mC)
 .exact wpAny_notInSet_of kk Y (k.2.2.Jp k.1) (aj (A4 _).symm RV.mC)
theorem aaR{R:Bool->bK->Prop}(hd:(d==qe)=Z)(ho:s.heap.get? d=M (fV ds k))(hz:ds.length<=33554432)(h:R (!ds.isEmpty) {s with toks:=s.toks+1+1}):wpAny Md A (Eu (.ref d)) R E s:=by
 have hT:s.TypeIs (.ref d) "dict":=⟨_,ho,Y⟩;have I3:((ds.length:Int)!=0)=!ds.isEmpty:=by
  cases ds with
  |nil=>rfl
  |cons a r=>exact bne_iff_ne.mpr λw=>yN _ (jv w)
 have key:wpAny Md A (runValue (.builtin "len" ⟨[.ref d],[]⟩)) (λr s'=>r=.int ds.length (s.toks+1)/\R (!ds.isEmpty) s') E s:=by refine akn (W9 entry_len ?_);rw[Wf plain_len _];exact gC (PO (R:=λr s'=>r=.int ds.length (s.toks+1)/\R (!ds.isEmpty) s') hd ho hz ⟨Y,h⟩) (λfin s' h'=>h'.elim λr h'=>ak h'.1 h'.2) λb b e=>False.elim e
 unfold Eu;refine aK (wpAny_callSpecial?_none (name:=bo "__bool__") hT noBool_dict ?_);refine aK (A2 (name:=bo "__len__") hT aiO.lookup ?_);exact aK (wm key λr s' h'=>ak h'.1 (bg (I3▸h'.2)))
theorem FC(hl:K.h l=M (.d es)):Tr K (.e l) (!es.isEmpty):=λF A n W s v T vx=>vx.1▸by have ln:=(T.aC.lQ hl).gU;refine aaR (T.aC.n7 T.aD (T.aC.dm hl)) (T.aC.dg hl) (ak ln (T.aC.dz hl)) ⟨⟨_,Y⟩,?_⟩;cases es<;>cases e:T.aC.ds hl<;>first|rfl|(rw[e]at ln;cases ln)
def WF(n:Nat)(e:Sx)(acc:aP)(Q:QV)(K:AS):Prop:=∀F A W s l,St F A n W K s->Ck e F.b (.es l)->acc.length<=16777216->wpAny Md A (joinParts acc (Hx l F.bB)) (fL F W K.h Q) ba s
def FP(K:AS)(x:V)(w:aP):Prop:=∀F A n W s v,St F A n W K s->VR W (aX K.h) v x->∀R:QE,(∀u h' tk,(∀b o,s.heap.get? b=M o->h'.get? b=M o)->R (.str w u) {s with heap:=h',toks:=tk})->wpAny Md A (convS v) (λr bQ=>wpAny Md A (formatField r fU) R ba bQ) ba s
theorem Js(h:z.length<=16777216):FP K (.s z) z:=λF A n W s v T vx R q=>b5 vx λt e=>e.1▸by
 have z':z.length<=Bd:=by rw[kg];exact h
 exact SB.convS_str (λt' k=>akk (s:={s with toks:=k}) (λJt k'=>q _ s.heap _ λa a e=>e) z') z'
theorem aaS{h:fC}:∀{a7:List aN},bL (VR W D) a7 (ss.map .s)->∃as,Xz h a7 (ss.map .str) as/\Wv (ss.map .str)<=1/\PyData.hasDictAll (ss.map .str)=Z:=by
 induction ss with
 |nil=>exactλk=>ak k.oJ ⟨_,.nil,b7 _,Y⟩
 |cons a r ih=>exactλk=>k.lK.elim λu q=>q.elim λw q=>ak q.1 (b5 q.2.1 λt e=>e.1▸(ih q.2.2).elim λas p=>⟨_,.cons (.str _ _) p.1,Ej.mpr ⟨b7 _,p.2.1⟩,p.2.2⟩)
theorem aaT(hl:K.h l=M (.l (ss.map .s)))(hs:(vg (ss.map .str)).showable=O)(hz:(vg (ss.map .str)).shown.length<=16777216):FP K (.e l) (vg (ss.map .str)).shown:=λF A n W s v T vx R q=>vx.1▸by
 obtain⟨as,ra,da,hd⟩:=aaS (h:=s.heap) (T.aC.hM hl);have z':(vg (ss.map .str)).shown.length<=Bd:=by rw[kg];exact hz
 have un:=T.aD.un;refine convS_of_reads (.list (T.aC.fE hl) Y Y ra) hs (λh=>cw (hd.symm.trans h)) T.aD.aT ?_ (λa a e=>e) (λh' u tk hk=>akk (s:={s with heap:=h',toks:=tk}) (λJt k'=>q _ h' _ hk) z') z'
 exact bF (eQ (show W0 (.list (ss.map .str))+1<=3 from fJ (fJ da)) _) (T.cl (k:=3) (ao Y))
theorem QS{acc:aP}(ok:kH acc=O)(q:Q (.s acc) K):WF n .n acc Q K:=λF A W s l T c hz=>ak (Iz c) (joinParts_nil (T.ku (x:=.s acc) _ ⟨_,Y,ok⟩ q) (by rw[kg];exact hz))
theorem QT{acc w:aP}(hz:(acc++w).length<=16777216)(h:WF n b (acc++w) Q K):WF n (.c (.cS w) b) acc Q K:=λF A W s l T c z0=>(zB c).elim λe c=>c.elim λr c=>ak c.1 (aku (b5 c.2.1 λk d=>d.elim λp d=>f6 d.1 (ajV ⟨by rw[kg];exact hz,wm (h F A W _ r ⟨T.aD,T.aC.qg _⟩ c.2.2.1 hz) λa a p=>p⟩)))
theorem FE{acc:aP}(h:WE n a (λx aS=>∃w,FP aS x w/\(acc++w).length<=16777216/\WF n b (acc++w) Q aS) K):WF n (.c (.l a) b) acc Q K:=λF A W s l T c z0=>(zB c).elim λe c=>c.elim λr c=>c.1▸aku (c.2.1.elim (λd=>d.elim λv d=>bX.no d.1 Y) λd=>d.elim (λd=>d.elim λv d=>bX.no d.1 Y) λd=>d.elim λv d=>d.elim λp d=>by cases d.1;exact wpAny_FormattedValue_s (wm (h F A W s v T d.2) λu a8 p=>p.cA λa5 aS x R e vx k=>k.elim λw k=>k.1 F A n a5 a8 u ⟨T.aD,R⟩ vx _ λu h' tk hk=>⟨by rw[kg];exact k.2.1,jL e (k.2.2 F A a5 _ r ⟨T.aD,R.sA hk⟩ c.2.2.1 k.2.1)⟩))
theorem QU(h:WF n a fU Q K):WE n (.EK a) Q K:=λF A W s q T c=>c.elim λx c=>c.elim λy c=>c.elim λvs c=>c.elim λp c=>f6 c.1 (JoinedStr_many (h F A W s _ T c.2 (ao Y)))
end
theorem aaU{ds:List dJ}{Q:Bool->bK->Prop}(g:s.heap.get? d=M (fV ds k))(h:Q Z s):wpAny Md A (aip (.ref d)) Q E s:=by
 have hT:s.TypeIs (.ref d) "dict":=⟨_,g,Y⟩;unfold aip;refine aK (A2 hT aiO.lookup ?_);generalize QW:("dict.__len__":String)=id0
 wp_delta
 rw[show splitId id0=M ("dict","__len__") from by subst QW;decide+kernel]
 subst QW;refine aK (Hf (T:="dict") (b:=O) hT Wa ?_);refine Nr (λB7=>ax B7 (ao Y)) (λa=>?_);refine Nr (λa=>?_) (λB7=>ax (by decide+kernel) B7)
 exact aK (Nv hT (bg h))
theorem QX:∀{ds:List dJ}{es:Es},bL (DE W D) ds es->es.map (·.1)=ss.map .s->(∀e∈ds,∃z,(strKind pr w0).is z e.key=O/\e.hash=(strKind pr w0).hash z)/\Pairs (strKind pr w0) ds (ss.zip (ds.map (·.val)))/\(∀w∈ss,kH w=O):=by
 induction ss with
 |nil=>
  exactλ{ds es} al e=>by obtain rfl:=ajh.mp e;obtain rfl:=al.oJ;exact⟨λc h=>(bw h),.nil,λc h=>bw h⟩
 |cons z r ih=>
  exactλ{ds es} al e=>by
   cases es with
   |nil=>cases e
   |cons b es=>
    obtain⟨a,kK,rfl,h,t⟩:=al.lK;have e1:b.1=.s z:=(bY e).1
    have k:=h.aC;rw[e1]at k;obtain⟨t',kt,ok⟩:=k;have kz:(strKind pr w0).is z a.key=O:=by rw[kt];exact(beq_self_eq_true z:WY z (.str z t')=O)
    have i:=ih t (bY e).2;exact⟨kb.mpr ⟨⟨z,kz,by rw[h.aG,e1];rfl⟩,i.1⟩,.cons kz Y i.2.1,kb.mpr ⟨ok,i.2.2⟩⟩
theorem QY{ds:List dJ}{h:fC}(g:h.get? d=M (fV ds k))(al:bL (DE W D) ds es)(e:es.map (·.1)=ss.map .s)(nd:(es.map (·.1)).Nodup):
 h.DictAt (strKind pr w0) d (ss.zip (ds.map (·.val))) k/\ds.length=ss.length:=by
 have ln:ds.length=ss.length:=al.gU.trans (by have:=aq Hq e;rwa [bc,bc]at this)
 have k:=QX al e;refine⟨⟨_,ds.toArray,g,⟨Y,Y,Y⟩,Y,λx hx=>k.1 x (ai8.mpr hx),k.2.1,?_⟩,ln⟩;rw[Nf (by rw[bc,ln];exact dj _)]
 rw[e]at nd;exact(md.mp nd).imp λh e=>h (by rw[e])
set_option maxHeartbeats 4000000 in
theorem aaW{ds:List dJ}{Q:List aN->bK->Prop}(hh:A.handled=U)(na:(d==qe)=Z)(g:s.heap.get? d=M (fV ds k))(al:bL (DE W D) ds es)
 (e:es.map (·.1)=ss.map .s)(nd:(es.map (·.1)).Nodup)(z:ss.length<64)(h:∀h' tk vs,(∀b o,s.heap.get? b=M o->h'.get? b=M o)->N2 vs ss->Q vs {s with heap:=h',toks:=tk}):
 wpAny Md A (collect (.ref d)) Q E s:=by
 obtain⟨DA,ln⟩:=QY g al e nd;have kl:(ss.zip (ds.map (·.val))).length=ss.length:=by simp[ln]
 have QZ:d<s.heap.objs.size:=d9 g;unfold collect;refine aK (akn (W9 PySem.F.entry_proto_collect ?_));rw[Wf PySem.F.plain_proto_collect _];show wpAny _ A.in1 (Hy []>>=λl=>again (.builtin "list.__iadd__" ⟨[l,.ref d],[]⟩)) _ _ s;refine aK (rX ?_);refine bg ⟨plainId_quiet aiF _,W9 PySem.F.entry_list_iadd ?_⟩;rw[Wf aiF _];have ne:s.heap.objs.size≠d:=(gZ QZ).symm
 have k1:∀b o,s.heap.get? b=M o->(s.heap.push ({cls:=.type "list",data:=.seq ([]:List aN).toArray}:bh)).get? b=M o:=λb o e=>eW _ e;have DA1:=DA.at' (h':=s.heap.push ({cls:=.type "list",data:=.seq ([]:List aN).toArray}:bh)) (λo e=>k1 _ o e)
 show wpAny _ A.in1 (aiq (.ref s.heap.objs.size) (.ref d) (.ref s.heap.objs.size)) _ _ _;unfold aiq;refine aK (Nv (T:="dict") ⟨_,k1 _ _ g,Y⟩ ?_);have h1:aiv (.ref s.heap.objs.size) (.ref d)=Z:=by simp[aiv,ne]
 have h2:(qL "dict"==qL "list")=Z:=ao Y;have h3:(qL "dict"==qL "tuple")=Z:=ao Y
 simp only[h1,h2,h3,aj2,yK,if_false];refine aK (wpAny_pyIter_dict na DA1 ?_);have S1:(s.heap.push ({cls:=.type "list",data:=.seq ([]:List aN).toArray}:bh)).get? s.heap.objs.size=M {cls:=.type "list",data:=.seq ([]:List aN).toArray}:=jG _ Y
 have Q0:(s.heap.push ({cls:=.type "list",data:=.seq ([]:List aN).toArray}:bh)).objs.size=s.heap.objs.size+1:=WU ..;refine aK (ij (aaU (eW _ (k1 _ _ g)) ?_));refine Nr (λa=>?_) (λB7=>ax (by decide+kernel) B7)
 refine aK (qN ?_);have S2:=eW ({cls:=.type "dict_keyiterator",data:=.fields #[.ref d,.int 0 0,.int (ss.zip (ds.map (·.val))).length 0,.int k 0]}:bh) S1
 refine aK ?_;show wpAny _ A.in1 (updateSeq s.heap.objs.size (·.push .none)>>=λa=>updateSeq s.heap.objs.size (·.pop)) _ _ _;refine aK (akf S2 Y ?_);have S3:=rV (A7 (·.push ki)) S2 Y
 refine akf S3 Y ?_;have S4:=rV (A7 (·.pop)) S3 Y
 rw[Q0];have jM:∀b o,b≠s.heap.objs.size->((s.heap.push ({cls:=.type "list",data:=.seq ([]:List aN).toArray}:bh)).push ({cls:=.type "dict_keyiterator",data:=.fields #[.ref d,.int 0 0,.int (ss.zip (ds.map (·.val))).length 0,.int k 0]}:bh)).get? b=M o->
  ((((s.heap.push ({cls:=.type "list",data:=.seq ([]:List aN).toArray}:bh)).push ({cls:=.type "dict_keyiterator",data:=.fields #[.ref d,.int 0 0,.int (ss.zip (ds.map (·.val))).length 0,.int k 0]}:bh)).update s.heap.objs.size (A7 (·.push ki))).update s.heap.objs.size (A7 (·.pop))).get? b=M o:=
  λb o hb e=>(D0 _ _ (Em hb)).trans ((D0 _ _ (Em hb)).trans e)
 have nI:d≠s.heap.objs.size+1:=gZ (qI QZ);have WK:=(Walks.dictKeys (prog:=pr) (w:=w0) (knd:=strKind pr w0) (A:=A.in1) (by simpa using hh) (s.heap.objs.size+1) d nI (ss.zip (ds.map (·.val))) k).toS
 have I4:=jM (s.heap.objs.size+1) _ (Nj _) (by rw[<-Q0];exact jG _ Y)
 have D4:=jM d _ (Em ne) (eW _ (k1 _ _ g));refine bg ⟨plainId_quiet PySem.F.plain_extend_loop _,codeAny_extend_loopS WK (by rw[kg];omega) s.heap.objs.size (by simp;omega) _ _ 0 _ _ _ Y (b7 _) ⟨⟨_,I4,Y,Y⟩,?_⟩ S4 (ItemsOf.nil _) λs' Q1 c' hm S' aaY=>?_⟩
 .exact(QY D4 al e nd).1
 .show wpAny _ A (load s.heap.objs.size>>=_) _ _ s';refine aK (wpAny_load S' ?_);refine bg ?_;rw[Moved.eq_with hm];refine h s'.heap s'.toks Q1.toList (λb o eb=>?_) ?_
  .have hb:b<s.heap.objs.size:=d9 eb;refine hm.heap b o (λJu=>?_) (jM b o (gZ hb) (eW _ (k1 _ _ eb)));rcases b0.mp Ju with e1|Ju
   .rw[e1]at hb;exact ax hb (dI _)
   .rw[bp.mp Ju]at hb;exact ax hb (km.mpr (jI _))
  .obtain⟨q1,q2⟩:=aaY;have aaZ:Q1.toList.length=ss.length:=by simpa [kl]using q1
   have:∀(vs:List aN)(zs:Ss),vs.length=zs.length->(∀(j:Nat)(v:aN)(z:aP),vs[j]?=M v->zs[j]?=M z->∃t,v=.str z t)->N2 vs zs:=by
    intro vs
    induction vs with
    |nil=>intro zs l _;cases zs<;>first|exact .nil|cases l
    |cons v vs ih=>
     intro zs l q;cases zs with
     |nil=>cases l
     |cons z zs=>obtain⟨t,rfl⟩:=q 0 v z Y Y;exact .cons _ _ (ih zs (by simpa using l) λj v' z' h1 h2=>q (j+1) v' z' h1 h2)
   refine this _ _ aaZ λj v zz hv hz=>?_;obtain⟨k',x,hx,hk⟩:=q2 j v (by simpa using hv)
   have:(ss.zip (ds.map (·.val)))[j]?=M (k',x):=hx;rw[aiN]at this;rw[hz]at this;obtain⟨t,rfl⟩:=Value.isStrOf_shape hk;have:=this.1
   cases this;exact⟨t,Y⟩
theorem Q2(hl:K.h l=M (.d es))(e:es.map (·.1)=ss.map .s)(z:ss.length<64)
 (q:∀jm:Ss,jm.Perm ss->HA jm=O->alloc (.l (jm.map .s)) Q K):OL n (.builtin "sorted") [.e l] Q K:=oR (j5 _) λF A W s v T vx=>vx.1▸by
 have al:=T.aC.lQ hl;have ok:=(QX al e).2.2
 refine aiH kind_sorted plain_sorted entry_sorted (args_sorted1 _) ?_;unfold Builtin.«sorted»;refine aK (m:=checkCount "sorted" 1 1 _) (bg ?_);refine aK (aaW (show A.in1.handled=U from T.aD.aC) (T.aC.n7 T.aD (T.aC.dm hl)) (T.aC.dg hl) al e (T.aC.qh hl) z λh' tk vs hk sa=>?_)
 have lv:=sa.len_eq;refine aK (wpAny_newList ?_);have Jv:(h'.push (seqObj "list" vs.toArray 0)).get? h'.objs.size=M (seqObj "list" vs.toArray 0):=jG _ Y
 show wpAny _ _ _ _ _ {s with heap:=h'.push (seqObj "list" vs.toArray 0),toks:=tk}
 refine aK (ij (mT slot_list_sort ⟨_,Jv,Y⟩ entry_list_sort (list_sort_treeK strKind_oneLt Jv sa.keysOf (λakF akG rest e=>keyKind_strs (by rw[<-e];exact sa)) (by rw[lv];exact z) λQ4 a1 a2=>⟨_,Y,?_⟩) (args_list_sort _)))
 refine bg ⟨_,Y,?_⟩;obtain⟨jm,b1,b2,b3⟩:=sorted_out_str sa a1 a2;obtain⟨e',he⟩:=sortedHeap_at (out:=(arrOf Q4).map (·.2)) Jv;refine T.aC.uh (a7:=(arrOf Q4).map (·.2)) (k:=e') (λb o eb=>?_) (λb o eb=>d9 (hk b o eb)) he (QK b1 λw hw=>ok w (b2.mem_iff.mp hw)) (by rw[bc,b2.length_eq];exact aL (gB z) (ao Y)) (q jm b2 b3)
 have lt:=d9 (hk b o eb);rw[sortedHeap_old (gZ lt) (by rw[size_push'];exact qI lt)]
 exact eW _ (hk b o eb)
abbrev KP(W:Wd)(D:Loc->Prop):List (aN×aN)->Es->Prop:=bL λp e=>VR W D p.1 e.1/\VR W D p.2 e.2
def Jw(env:jf)(pos:gr)(a:List (Option bU)):List bU->List (gD aN×gD aN):=qO (motive:=λc=>List bU->List (gD aN×gD aN)) (λc=>[]) (λk c ih b=>qO (motive:=λc=>List (gD aN×gD aN)) [] (λv r c=>(xd (motive:=λc=>gD aN) (pure .none) (λk=>eval k env) k,do let x<-eval v env;En pos;pure x)::ih r) b) a
def FF(n:Nat)(e:Sx)(L:Es->QA)(K:AS):Prop:=∀F A W s a b pos,St F A n W K s->Ck e F.b (.kv a b)->wpAny Md A (evalPairs (Jw F.bB pos a b)) (PG KP F W K.h L) ba s
def DS(l:Loc)(es:Es):Es->AS->AS:=qO (motive:=λa=>Es->AS->AS) (λa K=>K) (λe a ih acc K=>ih (cC acc e.1 e.2) (K.aF l (.d (cC acc e.1 e.2)) K.t)) es
def bX.qi(x:bX):List (Option bU)×List bU:=bX.rec (motive:=λc=>List (Option bU)×List bU) (λc=>([],[])) (λc=>([],[])) (λc=>([],[])) (λc=>([],[])) (λc=>([],[])) (λc=>([],[])) (λc=>([],[])) (λa b=>(a,b)) x
variable{L:Es->QA} {kk:Bool}
section
variable{v:aN}
theorem Jx(q:L [] K):FF n .n L K:=λF A W s a b pos T c=>by have e:(bX.kv a b)=.kv [] []:=c.elim (λc=>bX.no c Y) λc=>c.elim (λc=>bX.no c Y) λc=>c.elim (λc=>bX.no c Y) id;obtain rfl:a=[]:=aq (λz=>(bX.qi z).1) e;obtain rfl:b=[]:=aq (λz=>(bX.qi z).2) e;exact bg (T.pg bL.gO q)
theorem FG(h:WE n a (λx aS=>WE n b (λy cf=>FF n r (λes fy=>L ((x,y)::es) fy) cf) aS) K):FF n (.kv a b r) L K:=λF A W s ks vs pos T c=>c.elim λke c=>c.elim λka c=>c.elim λve c=>c.elim λvb c=>by
 obtain rfl:ks=M ke::ka:=aq (λz=>(bX.qi z).1) c.1;obtain rfl:vs=ve::vb:=aq (λz=>(bX.qi z).2) c.1;refine aK (wm (h F A W s ke T c.2.1) λo a8 p=>p.cA λa5 aS x i6 fM vx q=>aK (ij (aK (wm (q F A a5 a8 ve ⟨T.aD,i6⟩ c.2.2.1) λu bQ p=>p.cA λcU cf y eK eX vy q=>aK (se (bg (aK (ij (wm (q F A cU bQ ka vb pos ⟨T.aD,eK⟩ c.2.2.2) λus dy p=>p.cA λeZ fy es og vP al q=>bg ?_)))))))));have t3:=vP.tu eK.aC.aC eK.nx
 exact⟨eZ,fy,(x,y)::es,og,fM.cO (eX.cO vP),.gE ⟨(vx.bN (eX.tu i6.aC.aC i6.nx)).bN t3,vy.bN t3⟩ al,q⟩
theorem aa0{ai:QA}:∀{es:Es}{us:List (aN×aN)}{W:Wd}{K:AS}{s:bK}{acc:Es},St F A n W K s->KP W (aX K.h) us es->K.h l=M (.d acc)->(∀e∈es,e.1.cn 7=O)->acc.length+es.length<=16777216->ai (DS l es acc K)->
 wpAny Md A (forIn us () λ(p:aN×aN) a=>do Ep (W.ρ l) p.1 p.2;pure (Ha ())) (sh F W K.h ai) ba s:=by
 intro es
 induction es with
 |nil=>intro us W K s acc T al hl hk hz q;exact ak al.oJ (bg (T.pg (x:=()) trivial q))
 |cons e r ih=>
  intro us W K s acc T al hl hk hz q;obtain⟨p,us,rfl,hp,al⟩:=al.lK;rw[ajJ];have z1:acc.length<16777216:=gc (Nat.lt_add_of_pos_right (fY _)) hz
  refine aK (aK (wm (QG (ai:=λaZ=>aZ=K.aF l (.d (cC acc e.1 e.2)) K.t) T hl (hk e (.head _)) z1 hp.1 hp.2 Y) λa a8 p=>p.cA λa5 aS a i6 fM a w=>bg ?_));subst w;have t:=fM.tu T.aC.aC.aC T.aC.nx
  have d:=t.aC l (mu hl);refine aj d.2 (jL fM (ih (acc:=cC acc e.1 e.2) ⟨T.aD,i6⟩ (al.bN λa a z=>⟨z.1.bN t,z.2.bN t⟩) a4 (λe' he=>hk e' (.tail _ he)) (aL (pz H9 _) (by rw[nO,nU 1];exact hz)) q))
def SK(e:Sx):Prop:=∀sc a b env pos,Ck e sc (.kv a b)->(evalEachOpt a env).zip ((Hx b env).map λv=>do let x<-v;En pos;pure x)=(Jw env pos a b).map (λp=>(M p.1,p.2))/\(Jw env pos a b).length=b.length
theorem aa1{sc:dY}{ka:List (Option bU)}{va:List bU}(c:Ck .n sc (.kv ka va)):ka=[]/\va=[]:=by have e:(bX.kv ka va)=.kv [] []:=c.elim (λc=>bX.no c Y) λc=>c.elim (λc=>bX.no c Y) λc=>c.elim (λc=>bX.no c Y) id;exact⟨aq (λz=>(bX.qi z).1) e,aq (λz=>(bX.qi z).2) e⟩
theorem Jy:SK .n:=λsc ka va env pos c=>by obtain⟨rfl,rfl⟩:=aa1 c;exact⟨Y,Y⟩
theorem FH(h:SK r):SK (.kv a b r):=λsc ks vs env pos c=>c.elim λke c=>c.elim λka c=>c.elim λve c=>c.elim λvb c=>by
 obtain rfl:ks=M ke::ka:=aq (λz=>(bX.qi z).1) c.1;obtain rfl:vs=ve::vb:=aq (λz=>(bX.qi z).2) c.1;have k:=h sc ka vb env pos c.2.2.2
 exact⟨aq (NH (M (eval ke env),(do let x<-eval ve env;En pos;pure x:gD aN))) k.1,aq Bb k.2⟩
theorem aa2(R:aW F W K s)(h:alloc (.d []) Q K):fL F W K.h Q (.ref s.heap.objs.size) {s with heap:=s.heap.push (fV [] 0)}:=h.elim λl q=>q.elim λt' q=>R.EG (o:=.d []) (tk:=s.toks) q.1 Ib (λb o e=>eW _ e) (λb o e=>d9 e) (jG (o:=fV [] 0) _ Y) (λW' t m=>⟨q.1.l0,[],m,.gO,gh,b7 _⟩) q.2
theorem Jz(sk:SK (.kv a b r))(h:alloc (.d []) (λd aS=>FF n (.kv a b r) (λes cf=>∃l,d=.e l/\cf.h l=M (.d [])/\(∀e∈es,e.1.cn 7=O)/\es.length<=16777216/\Q d (DS l es [] cf)) aS) K):WE n (.fq (.kv a b r)) Q K:=λF A W s w T c=>c.elim λka c=>c.elim λva c=>c.elim λp c=>f6 c.1 (by
 have k:=sk F.b ka va F.bB p c.2.2;have z:va.length<=15:=nK c.2.1
 obtain⟨ke,akH,ve,vb,e,_⟩:=c.2.2;rw[arm_eval_Dict];refine aK (se ?_);rw[k.1,dictDisplay_pairs _ (λw=>by have:=k.2;rw[w]at this;exact dS (this.trans (aq (λz=>(bX.qi z).2.length) e)) Y) (by rw[k.2];exact bF z (ao Y))]
 unfold subDict;refine aK (aK (wpAny_alloc (aK ?_)));obtain⟨a5,aS,d,i6,fM,vd,q⟩:=aa2 T.aC h;refine ij ?_;rw[aw (by rw[k.2];exact aL z (ao Y))]
 refine aK (wm (q F A a5 _ ka va p ⟨T.aD,i6⟩ c.2.2) λvs bQ p=>p.cA λcU cf es eK eX al q=>ij ?_);obtain⟨l,rfl,hl,hk,hz,q⟩:=q;have e3:=(eX.tu i6.aC.aC i6.nx).aC l vd.2
 rw[Hk vd.1,<-e3.2];exact aK (wm (aa0 (ai:=λaZ=>aZ=DS l es [] cf) ⟨T.aD,eK⟩ al hl hk (by rw[WG,sf];exact hz) Y) λf dy p=>p.cA λeZ fy f og uy f w=>bg (bg (bg ⟨eZ,fy,.e l,og,fM.cO (eX.cO uy),have z:=(uy.tu eK.aC.aC eK.nx).aC l e3.1;⟨aq ik z.2.symm,z.1⟩,ak w q⟩))))
theorem kP(q:alloc (.d []) Q K):WE n (.fq .n) Q K:=λF A W s w T c=>c.elim λka c=>c.elim λva c=>c.elim λp c=>f6 c.1 (by have e:(bX.kv ka va)=.kv [] []:=c.2.2.elim (λc=>bX.no c Y) λc=>c.elim (λc=>bX.no c Y) λc=>c.elim (λc=>bX.no c Y) id;obtain rfl:ka=[]:=aq (λz=>(bX.qi z).1) e;obtain rfl:va=[]:=aq (λz=>(bX.qi z).2) e;rw[arm_eval_Dict];exact aK (se (OK T.aC q)))
def WO(n:Nat)(k:Bool)(e:Sx)(Q:QV)(K:AS):Prop:=∀F A W s q pos,St F A n W K s->Ck e F.b (.es q)->wpAny Md A (boolOp pos (BH k) (Hx q F.bB)) (fL F W K.h Q) ba s
theorem Q5(h:WO n kk a Q K):WE n (.iZ kk a) Q K:=λF A W s q T c=>c.elim λvs c=>c.elim λp c=>c.elim (λc=>f6 c.1 (h F A W s vs p T c.2)) λc=>bX.no c.1 Y
theorem Q6(h:WE n a Q K):WO n kk (.c a .n) Q K:=λF A W s l pos T c=>(zB c).elim λe c=>c.elim λr c=>ak c.1 (Iz c.2.2.1▸h F A W s e T c.2.1)
theorem JA(h:WE n a (λx aS=>∃w,Tr aS x w/\if w=kk then WO n kk (.c b r) Q aS else Q x aS) K):WO n kk (.c a (.c b r)) Q K:=λF A W s l pos T c=>(zB c).elim λe c=>c.elim λes c=>(zB c.2.2.1).elim λe' d=>d.elim λbO d=>by
 obtain⟨rfl,c1,c2,_⟩:=c;obtain⟨rfl,_⟩:=d;show wpAny _ _ (do
  let v<-eval e F.bB
  En pos
  let t<-holding [v] (Eu v)
  match BH kk,t with
  |.And,Z|.Or,O=>pure v
  |_,_=>boolOp pos (BH kk) (Hx (e'::bO) F.bB)) _ _ s
 refine aK (wm (h F A W s e T c1) λv a8 p=>p.cA λa5 aS x R fM vx q=>q.elim λw q=>aK (se (aK (ij (wm (q.1 F A n a5 a8 v ⟨T.aD,R⟩ vx) λw' bQ p=>?_)))));obtain⟨⟨tk,rfl⟩,rfl⟩:=p;have go:w'=kk->wpAny Md A (boolOp pos (BH kk) (Hx (e'::bO) F.bB)) (fL F W K.h Q) ba {a8 with toks:=tk}:=λg=>jL fM ((Eq.mp (aw g) q.2) F A a5 _ _ pos ⟨T.aD,R.qg tk⟩ c2)
 have stop:w'≠kk->fL F W K.h Q v {a8 with toks:=tk}:=λg=>⟨a5,aS,x,R.qg tk,fM,vx,Eq.mp (av g) q.2⟩
 cases kk<;>cases w'
 .exact go Y
 .exact bg (stop cw)
 .exact bg (stop cw)
 .exact go Y
theorem aa3:∀(n k:Nat)(vs:List aN),vs.length=n->(∀j v,vs[j]?=M v->∃t,v=Value.int ((k+j:Nat):Int) t)->bL (VR W D) vs ((List.range' k n).map λi:Nat=>V.i (i:Int)):=by
 intro n
 induction n with
 |zero=>exactλk vs z a=>ak (VZ z) .gO
 |succ n ih=>
  intro k vs z h;cases vs with
  |nil=>cases z
  |cons v vs=>exact .gE (h 0 v Y) (ih (k+1) vs (qK z) λj w e=>(h (j+1) w e).elim λt e=>⟨t,by rw[e,wU k 1 j];rfl⟩)
theorem aa4:Eh "list"=M (.type "list"):=by decide+kernel
theorem aa5(h:WE n a (λx aS=>∃N:Nat,x=.i N/\N<=1000000/\alloc (.l ((iW N).map λi:Nat=>.i (i:Int))) Q aS) K):WE n (.OQ a) Q K:=λF A W s q T c=>c.elim λq1 c=>c.elim λq2 c=>c.elim λv c=>c.elim λp c=>c.elim λp' c=>f6 c.1<|aK<|zy T c.2.1 (IG w0.params Z0 .i Y) aa4 (ao Y)<|BL (first:=[]) (λd d=>Y)<|D8 (aK<|zy T c.2.2.1 (Jb w0.params Z0).2 Jc.2 (ao Y)<|Fv c.2.2.2.2<|wm (h F A W s v T c.2.2.2.1) (λu a8 r=>r.cA λa5 aS x R e vx k=>k.elim λN k=>by
 obtain⟨rfl,z,q⟩:=k;obtain⟨t,rfl⟩:=vx;refine⟨uo _ _,call_range_1 (A3 ⟨uo _ _,?_⟩)⟩;refine jL e (call_list_range (n:=N) (a:=0) (b:=N) (c:=1) (t:=a8.toks) (u:=t) (v:=a8.toks+1) T.aD.aC (jG _ Y) (small_one (ao Y) (ao Y) (Ho (ao Y) (jH N)) (AW (qc.mpr z) (ao Y))) (rangeSize_nat.trans (Int.sub_zero _)) (aL z (ao Y)) λh' tk acc c hk g hI=>(R.uh (a7:=acc) (k:=c) (λb o e=>hk b o (eW _ e)) (λb o e=>gc (d9 e) (by rw[WU];exact jI _)) g (by rw[List.range_eq_range'];exact aa3 N 0 acc.toList hI.1 λj v e=>(hI.2 j v (by rw[<-tU];exact e)).elim λt e=>⟨t,e.trans (by congr 1;rw[Int.mul_one,sf];exact Int.zero_add _)⟩) (by rw[bc,iU];exact aL z (ao Y)) q)))) Y
theorem Q7{a:aY}(hm:K.m i=M (.iX a))(h:WL n r (λxs aS=>OL n (.ref a) xs Q aS) K):WE n (.Ih i r) Q K:=λF A W s q T c=>c.elim λy c=>c.elim λqp c=>c.elim λvs c=>c.elim λp c=>f6 c.1<|aK<|Xr (Ip T c.2.1 hm λv vx=>ak (show v=.ref a from vx) (BM (y:=[]) c.2.2.2 T c.2.2.1 .gO h)) (EU c.2.1).2.1
end
variable{ko:aP->Option vn} {x:aP}
section
variable{v:aN}
theorem JB{a:α}{l:List (aP×α)}(n:(l.map (·.1)).Nodup)(h:(x,a)∈l):l.lookup x=M a:=by
 induction l with
 |nil=>cases h
 |cons p r ih=>
  have n:=fQ.mp n;rw[tY];cases e:x==p.1 with
  |true=>exact(b0.mp h).elim (λw=>aj w Y) λm=>ax (show p.1∈r.map dQ from bk.mpr ⟨_,m,bq e⟩) n.1
  |false=>exact ih n.2 ((b0.mp h).resolve_left λw=>by rw[<-w,beq_self_eq_true]at e;cases e)
theorem aa6{l:List (aP×aN)}:∀{m:aP->Option aN},x∉l.map (·.1)->bindL ko l m x=m x:=by
 induction l with
 |nil=>exactλa=>rfl
 |cons p r ih=>
  intro m h;have h:=not_or.mp (λw=>h (b0.mpr w))
  refine(ih h.2:bindL ko r _ x=_).trans ?_;by_cases k:ko p.1=M .local
  .rw[aw k];exact av h.1
  .rw[av k]
theorem aa7{l:List (aP×aN)}:∀{m:aP->Option aN},x∉l.map (·.1)->bindC ko l m x=m x:=by
 induction l with
 |nil=>exactλa=>rfl
 |cons p r ih=>
  intro m h;have h:=not_or.mp (λw=>h (b0.mpr w))
  refine(ih h.2:bindC ko r _ x=_).trans ?_;by_cases k:ko p.1=M .local
  .rw[aw k]
  .rw[av k];exact av h.1
theorem aa8(hk:ko x=M .local){l:List (aP×aN)}:∀{m:aP->Option aN},(l.map (·.1)).Nodup->(x,v)∈l->bindL ko l m x=M v:=by
 induction l with
 |nil=>exactλa h=>bw h
 |cons p r ih=>
  intro m n h;have n:=fQ.mp n
  rcases b0.mp h with e|e
  .subst e;exact(aa6 n.1:bindL ko r _ x=_).trans (by rw[aw hk];exact aw Y)
  .exact ih n.2 e
theorem aa9(hk:ko x=M .cell){l:List (aP×aN)}:∀{m:aP->Option aN},(l.map (·.1)).Nodup->(x,v)∈l->bindC ko l m x=M v:=by
 induction l with
 |nil=>exactλa h=>bw h
 |cons p r ih=>
  intro m n h;have n:=fQ.mp n
  rcases b0.mp h with e|e
  .subst e;exact(aa7 n.1:bindC ko r _ x=_).trans (by rw[av (λw=>(yX (show M Eb=M .local from hk.symm.trans w) Y):¬ko x=M .local)];exact aw Y)
  .exact ih n.2 e
theorem aa'(names:List (aP×vn)):∀(n:Nat)(acc:List (aP×aY)),(acc.map (·.2)).Nodup->(∀p∈acc,p.2<n)->(names.map (·.1)).Nodup->(acc.map (·.1)).Nodup->(∀x∈acc.map (·.1),x∉names.map (·.1))->
 ((nV n names acc).map (·.2)).Nodup/\(∀p∈nV n names acc,p∈acc\/n<=p.2)/\((nV n names acc).map (·.1)).Nodup/\∀x,(x,Eb)∈names\/x∈acc.map (·.1)->x∈(nV n names acc).map (·.1):=by
 induction names with
 |nil=>exactλn acc h1 a a h2 a=>⟨h1,λp hp=>.inl hp,h2,λx h=>h.elim (λq=>bw q) id⟩
 |cons p r ih=>
  intro n acc a1 a2 b1 b2 c;have b:=fQ.mp b1
  unfold nV;by_cases k:(p.2==Eb)=O
  .rw[aw k];have k:=bq k
   have z:=ih (n+1) ((p.1,n)::acc) (fQ.mpr ⟨λq=>(bk.mp q).elim λp w=>dI _ (bF (fR (show n=p.2 from w.2.symm)) (a2 p w.1)),a1⟩) (λq hq=>(b0.mp hq).elim (λe=>ak e (jd n)) λm=>qI (a2 q m)) b.2
    (fQ.mpr ⟨λq=>c _ q (.head _),b2⟩) (λx hx q=>(b0.mp hx).elim (λe=>b.1 (show p.1∈_ from aj (show x=p.1 from e) q)) λm=>c x m (.tail _ q))
   refine⟨z.1,λq hq=>(z.2.1 q hq).elim (λm=>(b0.mp m).elim (λe=>.inr (ak e (dj _))) .inl) λm=>.inr (wW m),z.2.2.1,λx hx=>z.2.2.2 x (hx.elim (λm=>(b0.mp m).elim (λe=>.inr (aj (aq dQ e:x=p.1) (.head _))) .inl) λm=>.inr (.tail _ m))⟩
  .rw[av k];have z:=ih n acc a1 a2 b.2 b2 λx hx q=>c x hx (.tail _ q)
   exact⟨z.1,z.2.1,z.2.2.1,λx hx=>z.2.2.2 x (hx.imp (λm=>(b0.mp m).resolve_left λe=>k (beq_iff_eq.mpr (aq sg e).symm)) id)⟩
theorem Q8{cm:aP->Option aN}{cs:List (aP×aY)}{cells:List (aY×bh)}(h:CellsAre cm cs cells):cells.map (·.1)=cs.map (·.2)/\∀n c,(n,c)∈cs->∃o,(c,o)∈cells/\o.data=.cell (cm n):=by
 induction h with
 |nil=>exact⟨Y,λa a h=>bw h⟩
 |cons h t ih=>exact⟨aq (NH _) ih.1,λn c hm=>(b0.mp hm).elim (λe=>by cases e;exact⟨_,.head _,h⟩) λe=>(ih.2 n c e).elim λo q=>⟨o,.tail _ q.1,q.2⟩⟩
theorem lookup_mem{a:α}{l:List (aP×α)}(h:l.lookup x=M a):(x,a)∈l:=by
 induction l with
 |nil=>cases h
 |cons p r ih=>
  rw[tY]at h;cases e:x==p.1 with
  |true=>rw[e]at h;rw[bq e,<-bu h];exact .head _
  |false=>rw[e]at h;exact .tail _ (ih h)
theorem B8{l:List (aP×α)}(h:x∈l.map (·.1)):∃a,l.lookup x=M a:=by
 cases e:l.lookup x with
 |some a=>exact⟨a,Y⟩
 |none=>exact(bk.mp h).elim λp w=>bne_iff_ne.mp (aiU.mp e p w.1) w.2.symm|>.elim
end
variable{a:aY}
section
variable{new:List (aY×bh)}
noncomputable abbrev Wd.lU(W:Wd)(J:List aY):Wd:=⟨W.bG,W.n.filter λp=>decide (p.1∉J)⟩
theorem HR.Q9(H:HR g W h)(n:∀a∈J,¬jg W h a/\∀o vs,(a,o)∈W.n->o≠ia vs):HR g (W.lU J) h/\Tu W (W.lU J) (aX h) (aX h):=
 have t:Tu W (W.lU J) (aX h) (aX h):=⟨λl q=>⟨q,Y⟩,λb ws mb=>iH.mpr ⟨mb,az λe=>(n b e).2 _ ws mb Y⟩⟩
 ⟨⟨λl q e=>(H.aC l q e).bN t (λd=>Y) λb c l0 i m=>iH.mpr ⟨m,az λj=>(n _ j).1 ⟨(l,b),⟨l0,mu e,λw=>ak e (i w)⟩,Y⟩⟩,H.aG.sublist (yJ.map _),H.aJ,H.aD,H.aI⟩,t⟩
theorem HR.Ra(H:HR g W h)(n:∀p∈W.n,p.1≠a):¬jg W h a:=λq=>q.elim λp q=>(H.bT q.1).elim λc m=>n _ m.1 q.2
theorem HR.Rb(H:HR g W h)(nd:((new++W.n).map (·.1)).Nodup):HR g ⟨W.bG,new++W.n⟩ h:=
 ⟨λl q e=>(H.aC l q e).bN (W:=W) ⟨λl d=>⟨d,Y⟩,λa a m=>cZ _ m⟩ (λa=>Y) λa a a a m=>cZ _ m,nd,H.aJ,H.aD,H.aI⟩
def Sw(h h':Hp):Prop:=∀l,h' l=h l\/∃g g',h l=M (.fz g)/\h' l=M (.fz g')
theorem Sw.lM:Sw h h:=λl=>.inl Y
theorem Sw.oU{h':Hp}(s:Sw h h'):Sw h' h:=λl=>(s l).imp Eq.symm λq=>q.elim λg q=>q.elim λg' q=>⟨g',g,q.2,q.1⟩
theorem Sw.aF{g':Gx}(e:h l=M (.fz g)):Sw h (h.aF l (.fz g')):=λk=>by
 by_cases q:k=l
 .subst q;exact .inr ⟨g,g',e,a4⟩
 .exact .inl (aQ q)
theorem Sw.tr{h':Hp}(s:Sw h h')(p:Option af->Prop)(k:∀g g',p (M (.fz g))->p (M (.fz g')))(q:p (h l)):p (h' l):=(s l).elim (λe=>ak e q) λz=>z.elim λg z=>z.elim λg' z=>ak z.2 (k g g' (aj z.1 q))
theorem Sw.aX{h':Hp}(s:Sw h h'):aX h l->aX h' l:=s.tr (·≠U) λa a a q=>fK q
theorem aba:¬gF (M (.fz g)):=λi=>i.elim λa i=>i.elim λa i=>by cases i
theorem abb:¬nY (M (.fz g)):=λi=>i.elim λa i=>i.elim λa i=>by cases i
theorem Sw.gF{h':Hp}(s:Sw h h'):gF (h l)->gF (h' l):=s.tr _ λa a q=>ax q aba
theorem Sw.nY{h':Hp}(s:Sw h h'):nY (h l)->nY (h' l):=s.tr _ λa a q=>ax q abb
theorem Sw.bT{h':Hp}{p:Loc×Bool}(s:Sw h h')(o:Own h p):Own h' p:=⟨o.1,s.aX o.2.1,λw=>s.gF (o.2.2 w)⟩
theorem Sw.mw{h':Hp}(s:Sw h h')(o:jg W h a):jg W h' a:=o.elim λp o=>⟨p,s.bT o.1,o.2⟩
theorem Sw.tu{h':Hp}(s:Sw h h'):Tu W W (jy.Lean.aX h) (jy.Lean.aX h'):=⟨λl d=>⟨s.aX d,Y⟩,λa a m=>m⟩
theorem HR.sw{h':Hp}{g':Gx}(H:HR g W h)(s:Sw h h')(hp:(∀p∈g'.p,aX h p.1/\W.ρ p.1=p.2)/\nZ h' g'):HR g' W h':=
 ⟨λl o e=>(s l).elim (λq=>(H.aC l o (q.symm.trans e)).bN s.tu (λa=>Y) λa a a a m=>m) λq=>q.elim λg q=>q.elim λg' q=>by cases q.2.symm.trans e;exact H.aC l _ q.1,H.aG,H.aJ,⟨λp m=>⟨s.aX (hp.1 p m).1,(hp.1 p m).2⟩,hp.2⟩,λp q o o' e=>H.aI p q (s.oU.bT o) (s.oU.bT o') e⟩
theorem Ext.sw{h' k k':Hp}(e:Ext X W h W' h')(s:Sw h k)(s':Sw h' k'):Ext X W k W' k':=
 ⟨λl d=>have z:=e.aC l (s.oU.aX d);⟨s'.aX z.1,λi=>s.gF (z.2.1 (s'.oU.gF i)),z.2.2⟩,λp m f=>e.aD p m λw=>f (s.mw w),e.aG,λl n d=>have z:=e.aI l (λw=>n (s.aX w)) (s'.oU.aX d);⟨z.1,λb o=>z.2 b (s'.oU.bT o)⟩,λl t=>s'.nY (e.aJ l (s.oU.nY t))⟩
theorem abc{ah X:jx}{h:fC}(hz:∀p∈ah,h.get? p.1=M p.2)(hx:X.In h):(ah++X).In h:=λa o e=>by
 have e:(ah++X).lookup a=M o:=e;rw[G4]at e;cases q:ah.lookup a with
 |none=>rw[q]at e;exact hx a o e
 |some o'=>rw[q]at e;obtain rfl:=bu e;obtain⟨l1,l2,e2,_⟩:=aiT.mp q;exact hz (a,o') (by rw[e2];exact cZ _ (.head _))
end
structure B9 where
 q:aP
 s:dY
 f:aY
 cd:aN
 c:List (aP×aY)
noncomputable def B9.fm(d:B9)(g:fC)(L:aY)(os:List (aY×Data))(gx:Gx):Fm:=
 {h₀:=g,L:=L,q:=d.q++".<locals>.",b:=d.s,fo:=M d.f,cd:=d.cd,l:=d.c,f:=M L,o:=os,g:=gx}
def f9(F:Fm)(W:Wd)(h:Hp)(s:bK)(ah:List (aY×bh))(oL:bh)(g:fC)(L':aY):Prop:=s.heap.get? F.L=M oL/\(∃es ep,oL.data=.dict es ep)/\(∀p∈ah,p∈W.n)/\(∀p∈ah,¬jg W h p.1)/\(∀p∈ah,∀vs,p.2≠ia vs)/\(∀p∈ah,p.1∉F.o.map (·.1))/\g=nW s.heap (F.L::(W.lU (ah.map (·.1))).n.map (·.1))/\L'=s.heap.objs.size
section
variable{ah:List (aY×bh)} {oL:bh} {g:fC} {L':aY} (hh:f9 F W h s ah oL g L')
def f9.aI:=hh.1
def f9.bj:=hh.2.1
def f9.aD:=hh.2.2.1
def f9.bb:=hh.2.2.2.1
def f9.aJ:=hh.2.2.2.2.1
def f9.aT:=hh.2.2.2.2.2.1
def f9.aC:=hh.2.2.2.2.2.2.1
def f9.aG:=hh.2.2.2.2.2.2.2
end
variable{ah:List (aY×bh)} {Pn:List (Loc×aY)} {oL:bh} {g:fC} {L':aY} {d:B9} {cells:List (aY×bh)}
noncomputable abbrev Wd.in(W:Wd)(cells:List (aY×bh))(L:aY)(oL:bh)(ah:List (aY×bh)):Wd:=⟨W.bG,(cells++[(L,oL)])++(W.lU (ah.map (·.1))).n⟩
noncomputable abbrev Gx.to(g:Gx)(ah:List (aY×bh))(P:List (Loc×aY)):Gx:=⟨ah++g.X,P++g.p⟩
noncomputable abbrev Fm.xQ(F:Fm)(d:B9)(g:fC)(L':aY)(oL:bh)(ah:List (aY×bh))(P:List (Loc×aY)):Fm:=d.fm g L' ((F.L,oL.data)::F.o) (F.g.to ah P)
theorem f9.gz(af:f9 F W K.h s ah oL g L'):g.objs.size=L':=by rw[af.aC,Ny,af.aG]
theorem f9.Rc(af:f9 F W K.h s ah oL g L'):F.L<L':=ak af.aG (d9 af.aI)
theorem f9.lt(af:f9 F W K.h s ah oL g L')(R:aW F W K s):∀p∈W.n,p.1<L':=λp hp=>ak af.aG (d9 (R.aC.aD p hp).1)
theorem f9.Rd(af:f9 F W K.h s ah oL g L'):∀b o,g.get? b=M o->s.heap.get? b=M o:=λb o e=>NN _ (aj af.aC e)
theorem f9.st(af:f9 F W K.h s ah oL g L')(R:aW F W K s):∀b o,F.h₀.get? b=M o->g.get? b=M o:=λb o e=>ak af.aC (A6 _ (R.fr.keep b o e) λq=>(b0.mp q).elim (λq=>fK (show M o=U from e.symm.trans (ak q (Wh R.fr.above)))) λq=>(bk.mp q).elim λp hp=>fK (show M o=U from e.symm.trans (aj hp.2 (R.aC.aD p (iH.mp hp.1).1).2.2)))
theorem f9.zg(af:f9 F W K.h s ah oL g L')(R:aW F W K s):∀p∈ah,g.get? p.1=M p.2:=λp hp=>ak af.aC (A6 _ (R.aC.aD p (af.aD p hp)).1 λq=>(b0.mp q).elim (R.aC.aD p (af.aD p hp)).2.1 λq=>(bk.mp q).elim λp' iY=>aB (iH.mp iY.1).2 (ak iY.2 (dw (f:=dQ) hp)))
theorem f9.gL(af:f9 F W K.h s ah oL g L'):g.get? F.L=U:=ak af.aC (Nz _ (.head _))
theorem f9.gn(af:f9 F W K.h s ah oL g L'):∀p∈(W.lU (ah.map (·.1))).n,g.get? p.1=U:=λp hp=>ak af.aC (Nz _ (.tail _ (dw hp)))
theorem f9.H0(af:f9 F W K.h s ah oL g L')(R:aW F W K s):HR F.g (W.lU (ah.map (·.1))) K.h/\Tu W (W.lU (ah.map (·.1))) (aX K.h) (aX K.h):=R.aC.aC.Q9 λa ha=>(bk.mp ha).elim λp hp=>aj hp.2 ⟨af.bb p hp.1,λo vs mo e=>af.aJ p hp.1 vs (aj e (R.kr (show(p.1,p.2)∈W.n from af.aD p hp.1) mo))⟩
theorem f9.Rf(af:f9 F W K.h s ah oL g L')(R:aW F W K s):Tu W (W.in cells F.L oL ah) (aX K.h) (aX K.h):=⟨λl d=>⟨d,Y⟩,λa vs m=>cZ _ ((af.H0 R).2.aD a vs m)⟩
theorem Rg{hh:Hp}(af:f9 F W K.h s ah oL g L')(sw:Sw K.h hh)(gk:nZ hh (F.g.to ah Pn))(JC:∀p∈Pn,aX K.h p.1/\W.ρ p.1=p.2)(R:aW F W K s)(ib:lO F A (n+1))(hk:d.s.kind=.function){h₁:fC}{tk:Nat}{mm:aP->Option aN}{m₁:Mp}
 (sE:h₁.Ns L' mm)(rx:∀b o,s.heap.get? b=M o->h₁.get? b=M o)(NC:ub s.heap L' h₁ cells)(xR:∀p∈cells,L'+1<=p.1)(cnd:(cells.map (·.1)).Nodup)
 (vars:∀i x,m₁ i=M x->∃v,EF (F.xQ d g L' oL ah Pn) (W.in cells F.L oL ah) mm i v/\VR (W.in cells F.L oL ah) (aX hh) v x)
 (abe:∀y,d.s.names.lookup y=M .cell->∃a o v,d.c.lookup y=M a/\(a,o)∈cells/\o.data=.cell v)(abf:∀y y' a,d.c.lookup y=M a->d.c.lookup y'=M a->y=y'):
 aW (F.xQ d g L' oL ah Pn) (W.in cells F.L oL ah) ⟨m₁,hh,K.t⟩ {s with heap:=h₁,toks:=tk}/\lO (F.xQ d g L' oL ah Pn) (A.deeper (F.xQ d g L' oL ah Pn).bB) n:=by
 have H0:=(af.H0 R).1;have st:=af.st R
 have nL:∀p∈W.n,p.1≠F.L:=λp hp=>(R.aC.aD p hp).2.1;have less:∀p∈(W.lU (ah.map (·.1))).n,p∈W.n:=λp m=>(iH.mp m).1
 have Rh:∀p∈cells,∀b,b<L'->p.1≠b:=λp hp b lb e=>dI _ (gc (Xf (e▸lb) (jd L')) (xR p hp));have JD:((W.in cells F.L oL ah).n.map (·.1)).Nodup:=by rw[dc,dc,jX,jX];refine⟨⟨cnd,fQ.mpr ⟨(λq=>bw q),gh⟩,λx hx y hy e=>(bk.mp hx).elim λp hp=>Rh p hp.1 F.L af.Rc (hp.2.trans (e.trans (bp.mp hy)))⟩,H0.aG,λx hx y hy e=>(bk.mp hy).elim λq hq=>(cD.mp hx).elim (λhx=>(bk.mp hx).elim λp hp=>Rh p hp.1 q.1 (af.lt R q (less q hq.1)) (hp.2.trans (e.trans hq.2.symm))) λhx=>nL q (less q hq.1) (hq.2.trans (e.symm.trans (bp.mp hx)))⟩
 have H1:HR (F.g.to ah Pn) (W.in cells F.L oL ah) hh:=(HR.Rb H0 JD).sw sw ⟨λp m=>(cD.mp m).elim (JC p) (H0.aD.1 p),gk⟩;have ks:=R.aC.aG.keeps st
 have keep:∀b o,g.get? b=M o->h₁.get? b=M o:=λb o e=>rx b o (af.Rd b o e);have inL:(F.L,oL)∈(W.in cells F.L oL ah).n:=cH _ (cZ _ (.head _))
 have N':ub g L' h₁ (W.in cells F.L oL ah).n:=λp hp=>(cD.mp hp).elim (λhp=>(cD.mp hp).elim (λhp=>have z:=NC p hp;⟨z.1,z.2.1,by
  cases q:g.get? p.1 with
  |none=>rfl
  |some o=>exact cK (z.2.2.symm.trans (af.Rd _ _ q))⟩) λhp=>ak (bp.mp hp) ⟨rx _ _ af.aI,gZ af.Rc,af.gL⟩) λhp=>⟨rx _ _ (R.aC.aD p (less p hp)).1,gZ (af.lt R p (less p hp)),af.gn p hp⟩
 refine⟨⟨⟨N',H1,λk hk=>Wk.mp λz=>sw.oU.aX z (R.aC.aI k hk),ks,ks.keeps keep,R.aC.bj,R.aC.bb,abc (af.zg R) (R.aC.aT.keeps st)⟩,⟨mm,⟨sE,keep,fR af.gz⟩,vars⟩,λy hy=>(abe y hy).elim λa q=>q.elim λo q=>q.elim λv q=>⟨a,o,v,q.1,cH _ (cH _ q.2.1),q.2.2⟩,abf,λp hp=>(b0.mp hp).elim (λe=>ak e ⟨af.bj,⟨oL,inL,Y⟩,λw=>R.aC.aC.Ra nL (sw.oU.mw w)⟩) λhp=>?_⟩,?_⟩
 .have z:=R.aD p hp;exact⟨z.1,z.2.1.elim λo q=>⟨o,cZ _ (iH.mpr ⟨q.1,az λw=>(bk.mp w).elim λz hz=>af.aT z hz.1 (ak (show z.1=p.1 from hz.2) (dw (f:=dQ) hp))⟩),q.2⟩,λw=>z.2.2 (sw.oU.mw w)⟩
 .obtain⟨outer,zU,hA,Ca⟩:=ib.bj (fY _);refine⟨λj=>⟨F.bB::outer,Y,aiZ hA,λe he=>(b0.mp he).elim (λw=>ak w ⟨by rw[show F.bB.scope.kind=.function from ib.aD];decide,F.L,zU,.head _⟩) λhe=>⟨(Ca e he).1,(Ca e he).2.elim λa q=>⟨a,q.1,.tail _ q.2⟩⟩⟩,hk,?_,?_,ib.aC,ib.aG.elim λp t=>t.elim λl t=>t.elim λmg t=>t.elim λmb t=>⟨p,l,mg,mb,t.keeps st⟩,ib.aJ.elim λo q=>⟨o,st _ _ q⟩,ib.aT⟩
  .have:=ib.aI;show A.depth+1+2*n<=600;exact aL (by rw[nO];exact eQ (show 1+2*n<=2*(n+1) by rw[qb,nU];exact eQ (ao Y) _) _) this
  .have:=ib.bb;rw[ai2];exact aL (by rw[nO];exact eQ (show 3+10*n<=10*(n+1) by rw[qb,nU];exact eQ (ao Y) _) _) this
theorem JE{hh:Hp}(af:f9 F W K.h s ah oL g L')(R:aW F W K s)(sw:Sw K.h hh)(zV:Sw aZ.h jA)(gk:nZ aZ.h (F.g.to ah Pn)->nZ jA F.g)(xR:∀y a,d.s.names.lookup y=M .cell->d.c.lookup y=M a->L'+1<=a)(R':aW (F.xQ d g L' oL ah Pn) W' aZ s')(vO:Ext (F.xQ d g L' oL ah Pn).bT (W.in cells F.L oL ah) hh W' aZ.h):
 ∃news,aW F ⟨W'.bG,news⟩ ⟨K.m,jA,aZ.t⟩ s'/\Ext F.bT W K.h ⟨W'.bG,news⟩ jA/\Tu W' ⟨W'.bG,news⟩ (aX aZ.h) (aX jA):=by
 have e':=vO.sw sw.oU zV;have nL:∀p∈W.n,p.1≠F.L:=λp hp=>(R.aC.aD p hp).2.1
 have lt:=af.lt R;have st:=af.st R
 have zg:=af.zg R;obtain⟨Cb,abh,abi,hL0,Ri,zS⟩:=R.fr.ns;obtain rfl:Cb=oL:=bu (hL0.symm.trans af.aI);obtain⟨⟨bO,ep',Cc⟩,⟨Rj,Rk,Cd⟩,nf'⟩:=R'.aD (F.L,Cb.data) (.head _);have Cd:Rj.data=Cb.data:=Cd
 have JF:∀p∈W.n,p.1∉ah.map (·.1)->p∈(W.in cells F.L Cb ah).n:=λp m q=>cZ _ (iH.mpr ⟨m,az q⟩);have D:=(show HR (F.g.to ah Pn) W' aZ.h from R'.aC.aC).Q9 (J:=[F.L]) λa ha=>bp.mp ha▸⟨nf',λo vs mo e=>by have q:=R'.kr Rk mo;rw[q,e]at Cd;exact jz (Cd.trans Ri) Y⟩
 have zk:∀p∈W'.n,p.1∉ah.map (·.1):=λp hp q=>(bk.mp q).elim λz hz=>cK (show U=M z.2 from(R'.aC.aD p hp).2.2.symm.trans (aj hz.2 (zg z hz.1)))
 have zs:∀p,p∈W.n->p.1∈ah.map (·.1)->p∈ah:=λp hp q=>(bk.mp q).elim λz hz=>aj (je hz.2 (R.kr (show(p.1,z.2)∈W.n from aj hz.2 (af.aD z hz.1)) hp):z=p) hz.1
 have nd2:(((W.n.filter λp=>decide (p.1∈ah.map (·.1)))++(W'.lU [F.L]).n).map (·.1)).Nodup:=by rw[dc,jX];exact⟨R.aC.aC.aG.sublist (yJ.map _),D.1.aG,λx hx y hy e=>(bk.mp hx).elim λp hp=>(bk.mp hy).elim λq hq=>zk q (iH.mp hq.1).1 (aj (hp.2.trans (e.trans hq.2.symm)) (aB (iH.mp hp.1).2))⟩
 have H3:HR F.g ⟨W'.bG,(W.n.filter λp=>decide (p.1∈ah.map (·.1)))++(W'.lU [F.L]).n⟩ jA:=(HR.Rb D.1 nd2).sw zV ⟨λp m=>D.1.aD.1 p (cZ _ m),gk D.1.aD.2⟩;have JG:∀p∈W'.n,p.1≠F.L->p∈(W.n.filter λp=>decide (p.1∈ah.map (·.1)))++(W'.lU [F.L]).n:=λp m e=>cZ _ (iH.mpr ⟨m,az λq=>e (bp.mp q)⟩)
 have Rl:∀p∈W.n,p.1∈ah.map (·.1)->p∈(W.n.filter λp=>decide (p.1∈ah.map (·.1)))++(W'.lU [F.L]).n:=λp m e=>cH _ (iH.mpr ⟨m,az e⟩);have own:∀p∈W.n,(F.xQ d g L' Cb ah Pn).bT p.1->p.1∈F.o.map (·.1):=λp mp w=>w.elim (λw=>w.elim λy w=>ax (gc (jd L') (xR y _ w.1 w.2.1)) (km.mpr (gB (lt p mp)))) λz=>(b0.mp z).resolve_left (nL p mp)
 have kp:∀p∈W.n,¬jg W K.h p.1->p.1∉F.o.map (·.1)->p∈(W.n.filter λp=>decide (p.1∈ah.map (·.1)))++(W'.lU [F.L]).n:=λp mp nf no=>by
  by_cases q:p.1∈ah.map (·.1)
  .exact Rl p mp q
  .exact JG p (e'.aD p (JF p mp q) nf λz=>no (own p mp z)) (nL p mp)
 have E:Ext F.bT W K.h ⟨W'.bG,(W.n.filter λp=>decide (p.1∈ah.map (·.1)))++(W'.lU [F.L]).n⟩ jA:=by
  refine⟨e'.aC,λp mp nf nx=>kp p mp nf λz=>nx (.inr z),λp mp=>?_,λl nd dd=>⟨(e'.aI l nd dd).1,λb ob p mp=>?_⟩,e'.aJ⟩
  .by_cases q:p.1∈ah.map (·.1)
   .exact⟨p.2,Rl p mp q⟩
   .exact(e'.aG p (JF p mp q)).elim λo mo=>⟨o,JG _ mo (nL p mp)⟩
  .by_cases q:p.1∈ah.map (·.1)
   .exactλe=>(R'.aC.aC.bT (zV.oU.bT ob)).elim λc mc=>zk _ mc.1 (show W'.bG (l,b)∈_ from ak (show W'.bG (l,b)=p.1 from e) q)
   .exact(e'.aI l nd dd).2 b ob p (JF p mp q)
 have tt:=E.tu R.aC.aC R.nx;have C':∀a o,(a,o)∈W.n->(∃v,o.data=.cell v)->(a,o)∈(W.n.filter λp=>decide (p.1∈ah.map (·.1)))++(W'.lU [F.L]).n:=λa o mo c=>kp _ mo (c.elim λv c=>R.aC.aC.mw mo λf=>f.2.1 v c) λz=>(R.vD mo z).1.elim λes q=>q.elim λep q=>c.elim λv c=>jz (c.symm.trans q) Y
 refine⟨_,⟨⟨λp hp=>(cD.mp hp).elim (λhp=>?_) λhp=>?_,H3,λk hk=>Wk.mp λz=>zV.oU.aX z (R'.aC.aI k hk),R.aC.aG,R'.aC.aJ,R'.aC.bj,R'.aC.bb,R.aC.aT⟩,⟨R.mm,⟨⟨Rj,abh,abi,(R'.aC.aD _ Rk).1,Cd.trans Ri,zS⟩,λb o e=>R'.fr.keep b o (st b o e),R.fr.above⟩,λi x hx=>(R.lo i x hx).elim λv k=>⟨v,k.1.imp id λk=>⟨k.1,k.2.elim λb k=>k.elim λo k=>⟨b,o,k.1,k.2.1.imp (λz=>C' _ _ z ⟨_,k.2.2⟩) id,k.2.2⟩⟩,k.2.bN tt⟩⟩,
  λy hy=>(R.aG y hy).elim λa q=>q.elim λo q=>q.elim λv q=>⟨a,o,v,q.1,C' _ _ q.2.1 ⟨_,q.2.2⟩,q.2.2⟩,R.aI,λp hp=>?_⟩,E,⟨λl q=>⟨zV.aX q,Y⟩,λa vs m=>cZ _ (D.2.aD a vs m)⟩⟩
 .have w:=iH.mp hp;have hz:=zs p w.1 (aB w.2)
  exact⟨R'.fr.keep _ _ (zg p hz),nL p w.1,(R.aC.aD p w.1).2.2⟩
 .have w:=iH.mp hp;have z:=R'.aC.aD p w.1
  refine⟨z.1,λq=>aB w.2 (bp.mpr q),?_⟩;cases q:F.h₀.get? p.1 with
  |none=>rfl
  |some o=>exact cK (z.2.2.symm.trans (st _ _ q))
 .have k:=R'.aD p (.tail _ hp);have k0:=R.aD p hp
  exact⟨k.1,k.2.1.elim λo q=>⟨o,JG _ q.1 (k0.2.1.elim λo' q'=>nL (p.1,o') q'.1),q.2⟩,λw=>k.2.2 (zV.oU.mw w)⟩
def jN(fd:NW)(fo:bh)(body:List iI)(pn:Ss)(dv:List aN)(f:aY)(k:Nat):Prop:=ai.lookup f=M fo/\(fo.data=.func fd)/\fd=fnX fd.name fd.qualname fd.params body fd.scope [] fd.defaults fd.kwdefaults fd.doc fd.pyModule fd.annotations fd.code fd.closureTuple/\codeIn ai fd.code fd.qualname=O/\xg ai (.ref f)=O/\(∀(s:bK)(vs:List aN),ai.In s.heap->vs.length=k->BindsTo s fd ⟨vs,[]⟩ (pn.zip (vs++dv)))/\pn.length=k+dv.length/\(∀(j:Nat) x,pn[j]?=M x->fd.scope.names[j]?=M (x,.local)\/fd.scope.names[j]?=M (x,.cell))/\(fd.scope.names.map (·.1)).Nodup/\(fd.scope.kind=.function)/\fd.scope.isCoroutine=Z/\fd.scope.isGenerator=Z
section
variable{fd:NW} {fo:bh} {body:List iI} {pn:Ss} {dv:List aN} {f:aY} (hh:jN fd fo body pn dv f k)
def jN.bb:=hh.1
def jN.b6:=hh.2.1
def jN.aI:=hh.2.2.1
def jN.cF:=hh.2.2.2.1
def jN.aT:=hh.2.2.2.2.1
def jN.eO:=hh.2.2.2.2.2.1
def jN.aD:=hh.2.2.2.2.2.2.1
def jN.aJ:=hh.2.2.2.2.2.2.2.1
def jN.aC:=hh.2.2.2.2.2.2.2.2.1
def jN.aG:=hh.2.2.2.2.2.2.2.2.2.1
def jN.dC:=hh.2.2.2.2.2.2.2.2.2.2.1
def jN.bj:=hh.2.2.2.2.2.2.2.2.2.2.2
end
def eV(f:aY)(k:Nat)(ast:Sx)(dx:Vs):Prop:=∃fd fo body pn dv,jN fd fo body pn dv f k/\(∀W D',bL (VR W D') dv dx)/\Ck ast fd.scope (.c body)
def bI(n:Nat)(f:aY)(xs:Vs)(Q:RQ)(h:Hp)(t:Nat):Prop:=∀m F A W s vs,St F A n W ⟨m,h,t⟩ s->bL (VR W (aX h)) vs xs->Kp (.ref f) s.heap/\qQ Md A (.call (.ref f) ⟨vs,[]⟩) (λr s'=>∃v,r=.ok (.ret v)/\fL F W h (λx aZ=>aZ.m=m/\Q x aZ.h aZ.t) v s') s
def Rt(Q:RQ)(g:Fw)(K:AS):Prop:=Fw.rec (motive:=λa=>Prop) (Q .n K.h K.t) False False (λv=>Q v K.h K.t) g
variable{prog:N1} {w:oH} {R:Bi->bK->Prop} {name qual:aP} {params:Hw} {body:List iI} {dV kV doc pm xS ct:aN} {an:Option aY} {fo:bh} {f:aY} {args:Args} {binds:List (aP×aN)}
theorem Rm(abm:s.heap.NoLimit)(ho:s.heap.get? f=M fo)(hd:fo.data=.func (fnX name qual params body scope [] dV kV doc pm an xS ct))(sF:s.heap.CodeRec xS qual)(abn:A.depth<recursionLimit)(JH:BindsTo s (fnX name qual params body scope [] dV kV doc pm an xS ct) args binds)
 (abo:∀n,∀x∈binds,scope.names.lookup x.1=M .local\/(scope.names.lookup x.1=M .cell/\((nV n scope.names []).lookup x.1).isSome=O))(hnd:((nV 0 scope.names []).map (·.1)).Nodup)
 (h:∀h₁ tk cells,h₁.Ns s.heap.objs.size (bindL (xh qual scope s.heap.objs.size f xS).kindOf binds λa=>U)->(∀b o,s.heap.get? b=M o->h₁.get? b=M o)->ub s.heap s.heap.objs.size h₁ cells->CellsAre (bindC (xh qual scope s.heap.objs.size f xS).kindOf binds λa=>U) (nV (s.heap.objs.size+1) scope.names []) cells->
  wpAny (model prog w) (A.deeper (xh qual scope s.heap.objs.size f xS)) (execs body (xh qual scope s.heap.objs.size f xS)) (λfl s'=>R (.ok (.ret (match fl with|.ret v=>v|_=>.none))) s') ba {s with heap:=h₁,toks:=tk})
 (hco:scope.isCoroutine=Z)(abr:scope.isGenerator=Z)(hk:scope.kind=.function):qQ (model prog w) A (.call (.ref f) args) R s:=by
 refine codeAny_call_function abn ho hd hco abr Y sF (JH _ _ _ _ ?_);refine wpAny_newFunctionEnv_cells hk (abo _) λakJ he s' x=>?_;subst he;refine⟨abm.keeps x.toInCall.keep,codeAny_func ?_⟩;obtain⟨h₁,tk,rfl,_⟩:=x.done;obtain⟨cells,NC,aa⟩:=Cl.news (h₀:=s.heap) (dj _) λn c hm=>⟨x.cell n c (lookup_of_mem_nodup (aj (cellsFrom_names scope.names 0 (s.heap.objs.size+1) [] [] Y) hnd) hm),x.above n c hm⟩;exact gC (h h₁ tk cells x.toInCall.ns x.toInCall.keep NC aa) (λa a p=>p) λa a e=>e.elim
variable{fd:NW} {dv vs:List aN} {Q:RQ} {ast:Sx}
section
variable{pn:Ss} {dx:Vs}
theorem jN.y8(ok:jN fd fo body pn dv f k):pn.Nodup/\∀y∈pn,fd.scope.names.lookup y=M .local\/(fd.scope.names.lookup y=M .cell/\(y,Eb)∈fd.scope.names):=by
 refine⟨?_,λy hy=>(kE hy).elim λj hj=>(ok.aJ j y hj).imp (λq=>JB ok.aC (bE q)) λq=>⟨JB ok.aC (bE q),bE q⟩⟩;have key:∀(i:Nat) x,pn[i]?=M x->(fd.scope.names.map (·.1))[i]?=M x:=λi x e=>by rw[kG];rcases ok.aJ i x e with q|q<;>rw[q]<;>rfl
 have e:pn=(fd.scope.names.map (·.1)).take pn.length:=Wq λi=>by
  rw[G5];by_cases lt:i<pn.length
  .rw[aw lt,key _ _ (mO lt),mO lt]
  .rw[av lt,ai5 (km.mp lt)]
 rw[e];exact(D6 _ _).nodup ok.aC
theorem jN.Ro(ok:jN fd fo body pn dv f k){F':Fm}(C:∀x,(x,Eb)∈fd.scope.names\/x∈([]:List (aP×aY)).map (·.1)->x∈(nV (L'+1) fd.scope.names []).map (·.1))(Rp:F'.b=fd.scope)(ecl:F'.l=nV (L'+1) fd.scope.names [])
 (cm:∀n c,(n,c)∈nV (L'+1) fd.scope.names []->∃o,(c,o)∈cells/\o.data=.cell (bindC (xh fd.qualname fd.scope L' f fd.code).kindOf (pn.zip (vs++dv)) (λd=>U) n))(kin:∀p∈cells,p∈a5.n)(vl:vs.length=k)(al:bL (VR a5 (aX h)) (vs++dv) (xs++dx))(i:Nat)(x:V)(e:(xs++dx)[i]?=M x):
 ∃v,EF F' a5 (bindL (xh fd.qualname fd.scope L' f fd.code).kindOf (pn.zip (vs++dv)) λd=>U) i v/\VR a5 (aX h) v x:=by
 have nd:=ok.y8;have bn:(pn.zip (vs++dv)).map (·.1)=pn:=by rw[Nf];rw[dW,vl,ok.aD];exact dj _
 obtain⟨v,hv,vr⟩:=al.lI e;have Rq:i<pn.length:=by have:=(cV.mp hv).1;rw[dW,vl]at this;rw[ok.aD];exact this
 have hp:pn[i]?=M pn[i]:=mO Rq;have hz:(pn[i],v)∈pn.zip (vs++dv):=bE (i:=i) (by rw[aiN];exact⟨hp,hv⟩)
 have hnm:cx F'.b i=pn[i]:=by rw[Rp];unfold cx;rcases ok.aJ i _ hp with q|q<;>rw[q]
 unfold EF;rw[hnm,ecl];have ek:∀y,F'.bB.kindOf y=fd.scope.names.lookup y:=λy=>by rw[<-Rp];rfl
 rw[ek];refine⟨v,(nd.2 _ (Ng Rq)).imp (λlk=>⟨lk,aa8 (ko:=(xh fd.qualname fd.scope L' f fd.code).kindOf) lk (by rw[bn];exact nd.1) hz⟩) λlk=>?_,vr⟩
 obtain⟨a,ea⟩:=B8 (C _ (.inl lk.2));obtain⟨o,m1,m2⟩:=cm _ _ (lookup_mem ea);exact⟨.inl lk.1,a,o,ea,.inl (kin _ m1),m2.trans (aq _ (aa9 (ko:=(xh fd.qualname fd.scope L' f fd.code).kindOf) lk.1 (by rw[bn];exact nd.1) hz))⟩
theorem Rr{names:List (aP×vn)}(nd:(names.map (·.1)).Nodup)(n:Nat):((nV n names []).map (·.2)).Nodup/\(∀p∈nV n names [],n<=p.2)/\((nV n names []).map (·.1)).Nodup/\∀x,(x,Eb)∈names\/x∈([]:List (aP×aY)).map (·.1)->x∈(nV n names []).map (·.1):=by
 have z:=aa' names n [] gh (by intro p h;cases h) nd gh (by intro p h;cases h)
 exact⟨z.1,λp hp=>(z.2.1 p hp).resolve_left (by intro h;cases h),z.2.2⟩
theorem Ru{l:List (aP×aY)}{y y':aP}(nd:(l.map (·.2)).Nodup)(e:l.lookup y=M a)(e':l.lookup y'=M a):y=y':=by
 obtain⟨i,hi⟩:=kE (lookup_mem e);obtain⟨j,hj⟩:=kE (lookup_mem e');have h1:(l.map (·.2))[i]?=M a:=by rw[kG,hi];rfl
 have h2:(l.map (·.2))[j]?=M a:=by rw[kG,hj];rfl
 obtain rfl:=(Nc (cV.mp h1).1 nd).mp (h1.trans h2.symm);exact aq dQ (bu (hi.symm.trans hj))
theorem JI{hh:Hp}(sw:Sw K.h hh)(gk:nZ hh (F.g.to ah Pn))(ok:jN fd fo body pn dv f k)(xT:∀W D',bL (VR W D') dv dx)(hk:xs.length=k)
 (hb:∀(F':Fm)(A':oG)(W':Wd)(s':bK),St F' A' n W' ⟨λi=>(xs++dx)[i]?,hh,K.t⟩ s'->Sf F'->F'.b=fd.scope->F'.cd=fd.code->F'.g=F.g.to ah Pn->wpAny Md A' (execs body F'.bB) (PG ro F' W' hh (Rt λx h' t'=>∃jA,Sw h' jA/\(nZ h' (F.g.to ah Pn)->nZ jA F.g)/\Q x jA t')) ba s')
 (T:St F A (n+1) W K s)(al:bL (VR W (aX K.h)) vs xs)(zin:∀p∈ah,p∈W.n)(znf:∀p∈ah,¬jg W K.h p.1)(ztu:∀p∈ah,∀vs,p.2≠ia vs)(zos:∀p∈ah,p.1∉F.o.map (·.1))(JC:∀p∈Pn,aX K.h p.1/\W.ρ p.1=p.2):
 qQ Md A (.call (.ref f) ⟨vs,[]⟩) (λr s'=>∃v,r=.ok (.ret v)/\fL F W K.h (λx aZ=>aZ.m=K.m/\Q x aZ.h aZ.t) v s') s:=by
 obtain⟨p,loose,mg,mb,tp⟩:=T.aD.aG;have R:=T.aC
 have vl:vs.length=k:=al.gU.trans hk;have nd:=ok.y8
 have bn:(pn.zip (vs++dv)).map (·.1)=pn:=by rw[Nf];rw[dW,vl,ok.aD];exact dj _
 obtain⟨oL,FI,FJ,hL,Ce,zS⟩:=R.fr.ns;have C0:=Rr ok.aC
 refine Rm (tp.nolimit.keeps R.fr.keep) (R.aC.aJ _ _ ok.bb) (ok.b6.trans (aq akt ok.aI)) (codeRec_of R.aC.aJ ok.cF) (bF (aL (mR ..) T.aD.aI) (by decide)) (ok.aI▸ok.eO s vs R.aC.aJ vl)
  (λn x hx=>(nd.2 _ (bn▸dw hx)).imp id λz=>⟨z.1,(B8 ((C0 n).2.2.2 _ (.inl z.2))).elim λa e=>e▸Y⟩) (C0 0).2.2.1 (λh₁ tk cells sE rx NC aa=>?_) ok.dC ok.bj ok.aG
 obtain⟨g,hg⟩:∃g,g=nW s.heap (F.L::(W.lU (ah.map (·.1))).n.map (·.1)):=⟨_,Y⟩;obtain⟨L',sG⟩:∃L',L'=s.heap.objs.size:=⟨_,Y⟩;have af:f9 F W K.h s ah oL g L':=⟨hL,⟨FI,FJ,Ce⟩,zin,znf,ztu,zos,hg,sG⟩
 rw[<-sG]at sE NC aa⊢;have C:=C0 (L'+1)
 have cm:=Q8 aa;have xR:∀p∈cells,L'+1<=p.1:=λp hp=>(bk.mp (cm.1▸dw (f:=dQ) hp:p.1∈_)).elim λq hq=>hq.2▸C.2.1 q hq.1
 have tA:Tu W (W.in cells F.L oL ah) (aX K.h) (aX hh):=(af.Rf R).cO sw.tu;have en:=Rg (m₁:=λi=>(xs++dx)[i]?) af sw gk JC R T.aD (d:=⟨fd.qualname,fd.scope,f,fd.code,nV (L'+1) fd.scope.names []⟩) (tk:=tk) ok.aG sE rx NC xR (by rw[cm.1];exact C.1) (λi x e=>ok.Ro C.2.2.2 Y Y cm.2 (λp hp=>cH _ (cH _ hp)) vl ((al.bN λj j=>VR.bN tA).vt (xT _ _)) i x e)
  (λy hy=>(B8 (C.2.2.2 y (.inl (lookup_mem hy)))).elim λa ea=>(cm.2 _ _ (lookup_mem ea)).elim λo q=>⟨a,o,_,ea,q⟩)
  (λy y' a e e'=>Ru C.1 e e')
 refine wm (hb _ _ _ _ ⟨en.2,en.1⟩ ⟨Jg ok.aC,λe=>fK e⟩ Y Y Y) λfl s' p=>p.cA λW' aZ g' R' e' fr q=>?_;cases g' with
 |n=>exact b5 q λjA q=>(JE af R sw q.1 q.2.1 (λy a hy lk=>C.2.1 _ (lookup_mem lk)) R' e').elim λnw z=>(show fl=.next from fr)▸⟨_,Y,_,_,.n,z.1,z.2.1,Y,Y,q.2.2⟩
 |b=>exact q.elim
 |c=>exact q.elim
 |r x=>exact b5 q λjA q=>(JE af R sw q.1 q.2.1 (λy a hy lk=>C.2.1 _ (lookup_mem lk)) R' e').elim λnw z=>b5 fr λv fr=>fr.1▸⟨_,Y,_,_,x,z.1,z.2.1,fr.2.bN z.2.2,Y,q.2.2⟩
theorem JJ{P:RQ}{g:Fw}(k:∀x h t,Q x h t->P x h t)(q:Rt Q g K):Rt P g K:=by
 cases g with
 |n=>exact k _ _ _ q
 |b=>exact q
 |c=>exact q
 |r v=>exact k _ _ _ q
theorem fP{t:Nat}(ok:eV f k ast dx)(hk:xs.length=k)(q:WB n ast (Rt Q) ⟨λi=>(xs++dx)[i]?,h,t⟩):bI (n+1) f xs Q h t:=λm F A W s vs T al=>by obtain⟨fd,fo,body,pn,dv,ok,xT,ck⟩:=ok;exact⟨N0 ok.aT _ T.aC.aC.aJ,JI (K:=⟨m,h,t⟩) (ah:=[]) (Pn:=[]) .lM T.aC.aC.aC.aD.2 ok xT hk (λF' A' W' s' T' f' es a a=>wm (q F' A' W' s' body T' f' (ak es ck)) λa a p=>p.cA λa5 aS x R e r q=>⟨a5,aS,x,R,e,r,JJ (λa a a q=>⟨_,.lM,id,q⟩) q⟩) T al (λp hp=>bw hp) (λp hp=>bw hp) (λp hp=>bw hp) (λp hp=>bw hp) λp hp=>bw hp⟩
theorem bI.ol{t:Nat}{m:Mp}{P:QV}(c:bI n f xs Q h t)(k:∀x h' t',Q x h' t'->P x ⟨m,h',t'⟩):OL n (.ref f) xs P ⟨m,h,t⟩:=λF A W s vs T al=>
 have w:=c m F A W s vs T al
 ⟨w.1,Xq (Nw w.2 λr s' p=>p.elim λv p=>p.1▸p.2.cA λW' aZ x R e vx q=>⟨W',aZ,x,R,e,vx,by obtain⟨m',h',t'⟩:=aZ;obtain rfl:m'=m:=q.1;exact k _ _ _ q.2⟩)⟩
end
def Cf(c f:Nat):Prop:=Hz ai (dZ c)=O/\(t9 ai (.ref (dZ c)) "__init__"==M (M (.ref (bJ f))))=O/\isFn ai (.ref (bJ f))=O/\xg ai (.ref (dZ c))=O
variable{c f:Nat} {t:Nat} {x:V}
theorem lO.abA{k:aY}{rest:List aN}{kw:List (aP×aN)}(c:lO F A (n+1)):lO F (A.under (.builtin "type.__call__" ⟨.ref k::rest,kw⟩)) n:=by
 have e3:(A.under (.builtin "type.__call__" ⟨.ref k::rest,kw⟩)).frames=A.frames:=by
  unfold ajQ;have:Code.envs (.builtin "type.__call__" ⟨.ref k::rest,kw⟩)=[]:=Y
  dsimp only;rw[this];cases A.frames<;>rfl
 have e4:(A.under (.builtin "type.__call__" ⟨.ref k::rest,kw⟩)).guards=A.guards:=by
  unfold ajQ;have:Code.guards (.builtin "type.__call__" ⟨.ref k::rest,kw⟩)=[]:=Y
  dsimp only;rw[this];cases A.guards<;>rfl
 exact⟨λh=>(c.bj (fY _)).elim λa q=>⟨a,q.1,e3.trans q.2.1,q.2.2⟩,c.aD,aL (by
  show A.depth+1+2*n<=A.depth+2*(n+1);rw[qb,nO,nU 1];exact eQ (eQ (ao Y) _) _) c.aI,aL (by
  show A.units+1+10*n<=A.units+10*(n+1);rw[qb,nO,nU 1];exact eQ (eQ (ao Y) _) _) c.bb,c.aC,c.aG,c.aJ,e4.trans c.aT⟩
theorem lO.in1(c:lO F A (n+1)):lO F A.in1 n:=⟨λa=>c.bj (fY _),c.aD,aL (by
 rw[Around.in1_depth,qb];exact eQ (mR _ _) _) c.aI,aL (by
 rw[Around.in1_units,qb,nO,nU 1];exact eQ (eQ (ao Y) _) _) c.bb,c.aC,c.aG,c.aJ,c.aT⟩
theorem Cg(ok:Cf c f)(r:oN ⟨λd=>U,h,t⟩ l t')(q:bI n (bJ f) (.e l::xs) (λr h' Jt=>r=.n/\Q (.e l) h' Jt) (h.aF l (.i c λd=>U)) t'):bI (n+1) (dZ c) xs Q h t:=λm F A W s vs T al=>by
 have R:=T.aC;have r:oN ⟨m,h,t⟩ l t':=r
 refine⟨N0 ok.2.2.2 _ R.aC.aJ,make_K R.fr R.aC.aD R.aC.aJ ok.1 (bq ok.2.1) (bq ok.2.2.1) λx dx h' F' N' lt Rv=>?_⟩;have hx:x≠dx:=mU Rv
 have e1:(W.eH l x dx [(x,Bg (dZ c) dx),(dx,fV [] 0)]).ρ l=x:=aw Y;have e2:(W.eH l x dx [(x,Bg (dZ c) dx),(dx,fV [] 0)]).δ l=dx:=aw Y
 have ae:HR F.g (W.eH l x dx [(x,Bg (dZ c) dx),(dx,fV [] 0)]) (h.aF l (.i c λd=>U))/\Ext F.bT W h (W.eH l x dx [(x,Bg (dZ c) dx),(dx,fV [] 0)]) (h.aF l (.i c λd=>U)):=HR.Om R.aC.aC (r.no R) r.l0
  (λp hp q hq=>(b0.mp hq).elim (λe=>ak e (Xf (lt p hp) Rv)) λhq=>ak (bp.mp hq) (lt p hp))
  (fQ.mpr ⟨λq=>hx (bp.mp q),fQ.mpr ⟨(λq=>bw q),gh⟩⟩) (λb d=>by cases b;exact⟨_,.head _⟩;exact⟨_,.tail _ (.head _)⟩) (λd=>hx.symm)
  ⟨r.l0,by rw[e1,e2];exact .head _,[],0,by rw[e2];exact .tail _ (.head _),⟨[],gh,(λd q=>bw q),dj _⟩,λi=>Y⟩
 have R1:aW F (W.eH l x dx [(x,Bg (dZ c) dx),(dx,fV [] 0)]) ⟨m,h.aF l (.i c λd=>U),t'⟩ {s with heap:=h'}:=R.vE (s':={s with heap:=h'}) (t':=t') F' N' ae (λa o m d=>cZ _ m) (r.tm R) Y Y
 have tt:=ae.2.tu R.aC.aC R.nx;have dl:aX (h.aF l (.i c λd=>U)) l:=(qS l).mpr (.inl Y)
 refine Nw (q m F _ _ _ (.ref x::vs) ⟨lO.abA T.aD,R1⟩ (.gE ⟨aq ik e1.symm,dl⟩ (al.bN λd d=>VR.bN tt))).2 λrr s' z=>?_;obtain⟨v,rfl,W',aZ,y,R2,E2,vy,em,rfl,qq⟩:=z;obtain rfl:v=.none:=vy;have z:=E2.aC l dl
 exact⟨Y,.ref x,Y,W',aZ,.e l,R2,ae.2.cO E2,⟨aq ik (e1.symm.trans (z.2.2 Z).symm),z.1⟩,em,qq⟩
theorem abB{a:Nat}{P:QV}(h:WE (n+1) b (λx aS=>∃l c g f,x=.e l/\aS.h l=M (.i c g)/\g a=U/\Bm c a=M f/\bI n (bJ f) [.e l] (λr h' t'=>∃i:Nat,r=.i i/\i<=33554432/\P (.i i) ⟨aS.m,h',t'⟩) aS.h aS.t) K):WE (n+1) (.OP b a) P K:=λF A W s q T c=>c.elim λnq c=>c.elim λv c=>c.elim λp c=>f6 c.1<|aK<|
 zy T c.2.1 (IG w0.params Z0 .l Y) (IH .l Y).1 (ao Y)<|Fv c.2.2.2.2<|wm (h F A W s v T c.2.2.2.1) (λu a8 p=>p.cA λa5 aS x R e vx k=>by
  obtain⟨l,cc,g,f,rfl,hl,hg,hm,q⟩:=k;have k:=Oa hm
  have ea:=vp c.2.2.1;have vx':=vx
  obtain⟨rfl,_⟩:=vx;refine⟨j5 _ _,len_K R.fr R.aC.aG (R.xF hl) (by have:=bq k.2.1;rwa [ea]at this) k.2.2.1 (Xq (Nw (q aS.m F A.in1 a5 a8 [.ref (a5.ρ l)] ⟨T.aD.in1,R⟩ (.gE vx' .gO)).2 λr s' z=>?_))⟩
  obtain⟨v,rfl,W',⟨m',h',t'⟩,y,R2,E2,vy,em,i,rfl,z,qq⟩:=z;obtain⟨tk,rfl⟩:=vy;obtain rfl:m'=aS.m:=em;exact⟨⟨jH i,AW (qc.mpr z) (ao Y)⟩,W',⟨aS.m,h',t'⟩,.i i,R2.qg _,e.cO E2,⟨_,Y⟩,qq⟩)
variable{h:fC} {e:aY} {X:String} {z:V} {vs:Vs}
section
variable{tk:Nat} {v:aN}
noncomputable abbrev Wd.xU(W:Wd)(h:fC):Wd:=⟨W.bG,W.n.map λp=>(p.1,(h.get? p.1).getD p.2)⟩
theorem Rw:(W.xU h).n.map (·.1)=W.n.map (·.1):=by show(W.n.map _).map _=_;rw[fA];rfl
theorem aW.slots(R:aW F W K s)(k:∀b o,s.heap.get? b=M o->b≠F.L->b∉F.o.map (·.1)->H'.get? b=M o)(ks:∀b o,s.heap.get? b=M o->∃sl,H'.get? b=M {o with slots:=sl}):
 aW F (W.xU H') K {s with heap:=H',toks:=tk}/\Ext F.bT W K.h (W.xU H') K.h:=by
 have at_:∀a o o',(a,o)∈W.n->H'.get? a=M o'->(a,o')∈(W.xU H').n:=λa o o' m g=>bk.mpr ⟨(a,o),m,by rw[g];rfl⟩
 have Ch:∀a o,(a,o)∈W.n->a∉F.o.map (·.1)->(a,o)∈(W.xU H').n:=λa o m no=>at_ a o o m (k a o (R.aC.aD _ m).1 (R.aC.aD _ m).2.1 no);have Rx:∀a o,(a,o)∈W.n->∃sl,(a,({o with slots:=sl}:bh))∈(W.xU H').n:=λa o m=>(ks a o (R.aC.aD _ m).1).elim λsl g=>⟨sl,at_ a o _ m g⟩
 have FK:∀a,jg W K.h a->a∉F.o.map (·.1):=λa f q=>(bk.mp q).elim λp hp=>(R.aD p hp.1).2.2 (ak hp.2 f);have Ry:∀b o,F.h₀.get? b=M o->H'.get? b=M o:=λb o e=>k b o (R.fr.keep b o e) (gZ (gc (d9 e) R.fr.above)) λq=>(bk.mp q).elim λp hp=>(R.aD p hp.1).2.1.elim λo' m=>cK (show U=M o from(R.aC.aD _ m.1).2.2.symm.trans (ak hp.2 e))
 have t:Tu W (W.xU H') (aX K.h) (aX K.h):=⟨λl d=>⟨d,Y⟩,λa vs m=>Ch _ _ m λq=>R.nx _ _ m (.inr q)⟩;have Rz:∀a o,(a,o)∈W.n->(∃v,o.data=.cell v)->a∉F.o.map (·.1):=λa o m c q=>(R.vD m q).1.elim λes r=>r.elim λep r=>c.elim λv c=>jz (c.symm.trans r) Y
 refine⟨⟨⟨λp hp=>?_,⟨λl o e=>(R.aC.aC.aC l o e).bN t (λj=>Y) λb c l0 i m=>Ch _ _ m (FK _ ⟨(l,b),⟨l0,mu e,λw=>ak e (i w)⟩,Y⟩),by rw[Rw];exact R.aC.aC.aG,R.aC.aC.aJ,R.aC.aC.aD,R.aC.aC.aI⟩,R.aC.aI,R.aC.aG,R.aC.aG.keeps Ry,R.aC.bj,R.aC.bb,R.aC.aT⟩,⟨R.mm,⟨?_,Ry,R.fr.above⟩,λi x hx=>(R.lo i x hx).elim λv q=>⟨v,q.1.imp id λq=>⟨q.1,q.2.elim λa q=>q.elim λo q=>⟨a,o,q.1,q.2.1.imp (λz=>Ch _ _ z (Rz _ _ z ⟨_,q.2.2⟩)) id,q.2.2⟩⟩,q.2.bN t⟩⟩,
  λy hy=>(R.aG y hy).elim λa q=>q.elim λo q=>q.elim λv q=>⟨a,o,v,q.1,Ch _ _ q.2.1 (Rz _ _ q.2.1 ⟨_,q.2.2⟩),q.2.2⟩,R.aI,λp hp=>have z:=R.aD p hp;⟨z.1,z.2.1.elim λo q=>(Rx _ _ q.1).elim λsl m=>⟨_,m,q.2⟩,z.2.2⟩⟩,
  λl d=>⟨d,id,λj=>Y⟩,λp m f x=>Ch p.1 p.2 m λq=>x (.inr q),λp m=>(Rx p.1 p.2 m).elim λsl z=>⟨_,z⟩,λj n d=>ax d n,λj=>id⟩
 .obtain⟨q,hq,rfl⟩:=bk.mp hp;have z:=R.aC.aD q hq
  exact(ks _ _ z.1).elim λsl g=>⟨by rw[g];rfl,z.2⟩
 .obtain⟨o,es,ep,ho,hd,r⟩:=R.fr.ns;exact(ks _ _ ho).elim λsl g=>⟨_,es,ep,g,hd,r⟩
def uz(F:Fm)(W:Wd)(h:fC)(e:aY)(X:String):Prop:=∃ob vs tb Ci Cj,h.get? e=M ob/\ob.cls=.type X/\ob.data=.fields vs/\vs[1]?=M (.ref tb)/\h.get? tb=M Ci/\Ci.data=.fields Cj/\3<Cj.size/\tb≠F.L/\F.h₀.get? tb=U/\∀p∈W.n,p.1≠tb
theorem RA(R:aW F W K s)(ib:lO F A (n+1))(ne:Xg s.heap H' e X){Q:Unit->bK->Prop}
 (k:∀W' BY,aW F W' K {s with heap:=BY,toks:=tk}->Ext F.bT W K.h W' K.h->uz F W' BY e X->Q () {s with heap:=BY,toks:=tk}):
 wpAny Md A (Hu (.ref e) F.bB) (λg bQ=>wpAny Md A (setFlight (.ref e) U) Q ba bQ) ba {s with heap:=H',toks:=tk}:=by
 obtain⟨outer,zU,hA,Ca⟩:=ib.bj (fY _);obtain⟨ob,t,he,abD,hd⟩:=ne.there;obtain⟨oL,FI,FJ,hL,Ce,zS⟩:=R.fr.ns;have abE:∀b,b∈(F.bB::outer).filterMap (·.frame)->b=F.L\/b∈F.o.map (·.1):=λb hb=>(pA.mp hb).elim λv q=>(b0.mp q.1).elim (λw=>.inl (bu ((show F.bB.frame=M b from aj w q.2).symm.trans zU))) λm=>(Ca v m).2.elim λc d=>.inr (aj (bu (d.1.symm.trans q.2)) d.2)
 have fr:∀o':List jf,(∀e∈o',e.scope.kind≠.module/\∃a,e.frame=M a/\a∈F.o.map (·.1))->H'.FunFrames F.h₀ (F.bB::o'):=λo' ho=>by
  refine⟨by rw[show F.bB.scope.kind=.function from ib.aD];decide,⟨F.L,oL,zU,Wh R.fr.above,ne.keeps _ _ hL,λvs q=>jz (Ce.symm.trans q) Y⟩,?_⟩
  induction o' with
  |nil=>trivial
  |cons v r ih=>obtain⟨q1,a,q2,q3⟩:=ho v (.head _);obtain⟨p,hp,rfl⟩:=bk.mp q3;obtain⟨⟨es,ep,e1⟩,⟨o,m1,e2⟩,_⟩:=R.aD p hp;exact⟨q1,⟨p.1,o,q2,(R.aC.aD _ m1).2.2,ne.keeps _ _ (R.aC.aD _ m1).1,λvs q=>jz ((e2.trans e1).symm.trans q) Y⟩,ih λw hw=>ho w (.tail _ hw)⟩
 have ff:=fr outer Ca;unfold Hu;rw[show F.bB.frame=M F.L from zU]
 refine aK (xc (s:={s with heap:=H',toks:=tk}) he hd (x:=.none) Y ?_)
 rw[av (ao Y)];refine aK (wpAny_frameOf_fun (s:={s with heap:=H',toks:=tk}) hA ff zU λh₁ uv=>?_)
 refine aK (wpAny_entryPlaceOf λpl Bo=>?_);unfold EntryCells.newEntry newFields;refine aK (rX ?_ (Bo.sizeOk5 _ _ _ _ _));have ene:∀b o,s.heap.get? b=M o->b≠e:=λb o hb q=>cK ((q▸ne.new).symm.trans hb)
 have abG:e∉(F.bB::outer).filterMap (·.frame):=λhm=>(ff.mem hm).2.elim λo q=>q.2 _ (ak (bu (q.1.symm.trans he)) hd);have BW:h₁.get? e=M ob:=(uv.2.1 e abG).trans he
 obtain⟨T,hT⟩:∃T:bh,T={cls:=.type "traceback",dict:=U,data:=.fields ([ki,.ref F.L,.none,gj F.L,.none]++(if pl.isEmpty then Np 6 ki else pl)).toArray}:=⟨_,Y⟩;rw[<-hT];have FL:T.data=.fields ([ki,.ref F.L,.none,gj F.L,.none]++(if pl.isEmpty then Np 6 ki else pl)).toArray:=by rw[hT]
 have hTf:T.isFreed=Z:=G0 FL;have xO:=eW (h:=h₁) T BW
 refine Ec xO hd (by exact nK Y) ?_
 have RB:h₁.objs.size≠e:=mU (d9 BW);have JK:=AV hd (·.setIfInBounds 1 (ik h₁.objs.size))
 have Fl:=rV (yR (·.setIfInBounds 1 (ik h₁.objs.size))) xO (G0 JK);have RC:=(D0 (h₁.push T) (yR (·.setIfInBounds 1 (ik h₁.objs.size))) (Em RB)).trans (jG h₁ hTf)
 have hz:3<([ki,.ref F.L,.none,gj F.L,.none]++(if pl.isEmpty then Np 6 ki else pl)).toArray.size:=by rw[wV,dW];exact gc (by decide:3<5) (mR _ _)
 refine ajE Fl JK (tb:=h₁.objs.size) Y RC FL hz ?_;have FN:∀b o,s.heap.get? b=M o->h₁.objs.size≠b:=λb o hb q=>(uv.2.2 b o (ne.keeps b o hb)).elim λsl z=>dI _ (q▸d9 z)
 have fin:∀b o o',s.heap.get? b=M o->h₁.get? b=M o'->(((h₁.push T).update e (yR (·.setIfInBounds 1 (ik h₁.objs.size)))).update h₁.objs.size (yR (·.setIfInBounds 3 .none))).get? b=M o':=λb o o' hb h1=>by rw[D0 _ _ (FN b o hb),D0 _ _ (Em (ene b o hb))];exact eW _ h1
 have ae:=R.slots (H':=((h₁.push T).update e (yR (·.setIfInBounds 1 (ik h₁.objs.size)))).update h₁.objs.size (yR (·.setIfInBounds 3 .none))) (tk:=tk)
  (λb o hb h1 h2=>fin b o o hb ((uv.2.1 b λq=>(abE b q).elim h1 h2).trans (ne.keeps b o hb)))
  (λb o hb=>(uv.2.2 b o (ne.keeps b o hb)).elim λsl z=>⟨sl,fin b o _ hb z⟩)
 refine k _ _ ae.1 ae.2 ⟨_,_,h₁.objs.size,_,_,(D0 _ _ RB).trans Fl,by rw[Ws];exact abD,JK,Y,rV _ RC (G0 (AV FL _)),AV FL _,by rw[Array.size_setIfInBounds];exact hz,FN _ _ hL,?_,λp hp=>?_⟩
 .cases z:F.h₀.get? h₁.objs.size with
  |none=>rfl
  |some o=>exact ax Y (FN _ _ (R.fr.keep _ _ z))
 .have:p.1∈W.n.map (·.1):=Rw (W:=W)▸dw (f:=dQ) hp;exact(bk.mp this).elim λq hq=>aj hq.2 (FN _ _ (R.aC.aD q hq.1).1).symm
theorem RD(R:aW F W K s)(L:uz F W s.heap e X){Q:Unit->bK->Prop}(k:∀h',aW F W K {s with heap:=h',toks:=s.toks}->Q () {s with heap:=h'}):wpAny Md A (setFlight (.ref e) U) Q E s:=by obtain⟨ob,vs,tb,Ci,Cj,he,hc,hd,h1,ht,htd,hz,l1,l2,l3⟩:=L;exact ajE he hd h1 ht htd hz (k _ (R.Jj l1 l2 l3 (rW ..)))
theorem uz.RF(L:uz F W s.heap e X):s.TypeIs (.ref e) X:=b5 L λob q=>q.elim λa q=>q.elim λa q=>q.elim λa q=>q.elim λa q=>⟨ob,q.1,q.2.1⟩
theorem uz.RG(L:uz F W h e X)(k:∀b o,h.get? b=M o->H'.get? b=M o):uz F W H' e X:=
 b5 L λob q=>q.elim λvs q=>q.elim λtb q=>q.elim λCi q=>q.elim λCj q=>⟨ob,vs,tb,Ci,Cj,k _ _ q.1,q.2.1,q.2.2.1,q.2.2.2.1,k _ _ q.2.2.2.2.1,q.2.2.2.2.2⟩
theorem JM{A':oG}{w:aP}{pos:gr}{v:aN}{Q:QE}(T:St F A n W K s)(g:j4 F.b w=O)(e:nsIn ai mj w=M U)(hv:Eh w=M v)(hn:w≠"__name__")(q:Q v s):wpAny Md A' (eval (.Name w pos) F.bB) Q E s:=
 have g:=Iq g
 T.aD.aG.elim λp t=>t.elim λloose t=>t.elim λmg t=>t.elim λmb t=>Wo T.aD.aD g.1 (ajY (env:=F.bB) (t.g.keeps T.aC.fr.keep) (mg_none_of T.aC.aC.aG t.g e) (t.b.keeps T.aC.fr.keep) ((t.builtins w hn).trans hv) q) g.2
theorem JN(P:jw)(ah:jx):nsIn (K0 P++ah) mj "KeyError"=M U/\nsIn (K0 P++ah) mj "IndexError"=M U:=⟨by kernel_rfl,by kernel_rfl⟩
theorem abJ(T:St F A n W K s)(L:uz F W s.heap e "KeyError"){pos p:gr}{Cm:iI}{Cn:List iI}{rest:List Xi}{Q:ua->bK->Prop}(g:j4 F.b "KeyError"=O)
 (k:∀h',aW F W K {s with heap:=h',toks:=s.toks}->wpAny Md (A.mark (M (.ref e))) (execs (Cm::Cn) F.bB) Q ba {s with heap:=h'}):wpAny Md A (handleBy (.ref e) F.bB (.ExceptHandler (M (.Name "KeyError" p)) U (Cm::Cn) pos::rest)) Q ba s:=by
 refine wpAny_handleBy_builtin (X:="KeyError") (T:="KeyError") (b:=O) (wX (by decide+kernel)) (wX (by decide+kernel)) (wX (by decide+kernel)) (JM T g (JN w0.params Z0).1 (v:=.type "KeyError") (by decide+kernel) (ao Y) ?_)
 refine⟨Y,L.RF,?_⟩;rw[aw Y];exact RD T.aC L λh' R'=>gC (k h' R') (λa a x=>x) λa a x=>x.elim
theorem abK(T:St F A n W K s)(L:uz F W s.heap e X)(hX:X="KeyError"\/X="IndexError"){pos p p1 p2:gr}{kk:Nat}{Cm:iI}{Cn:List iI}{rest:List Xi}{Q:ua->bK->Prop}(g1:j4 F.b "IndexError"=O)(g2:j4 F.b "KeyError"=O)
 (k:∀h',aW F W K {s with heap:=h',toks:=s.toks}->wpAny Md (A.mark (M (.ref e))) (execs (Cm::Cn) F.bB) Q ba {s with heap:=h'}):wpAny Md A (handleBy (.ref e) F.bB (.ExceptHandler (M (.Tuple [.Name "IndexError" p1,.Name "KeyError" p2] kk p)) U (Cm::Cn) pos::rest)) Q ba s:=by
 have hs:∃b1 b2,subB X (.type "IndexError")=M b1/\subB X (.type "KeyError")=M b2/\(b1||b2)=O:=by
  rcases hX with rfl|rfl
  .exact⟨Z,O,by decide+kernel,by decide+kernel,Y⟩
  .exact⟨O,Z,by decide+kernel,by decide+kernel,Y⟩
 obtain⟨b1,b2,s1,s2,hb⟩:=hs;refine wpAny_handleBy_tup2 (T1:="IndexError") (T2:="KeyError") (wX (by decide+kernel)) (wX (by decide+kernel)) (wX (by decide+kernel)) (wX (by decide+kernel)) (wX s1) (wX s2) ?_
 refine Tuple_ (D8 (JM T g1 (JN w0.params Z0).2 (v:=.type "IndexError") (by decide+kernel) (ao Y) (D8 (JM T g2 (JN w0.params Z0).1 (v:=.type "KeyError") (by decide+kernel) (ao Y) (A3 ?_)) Y)) Y)
 unfold NT;refine rX ⟨_,Y,IsTup.new _ _,?_,?_⟩
 .exact(L.RG λa a e=>eW _ e).RF
 .rw[aw hb];have R':aW F W K {s with heap:=s.heap.push {cls:=.type "tuple",dict:=U,data:=.seq [qL "IndexError",.type "KeyError"].toArray}}:=T.aC.sA (tk:=s.toks) λa a e=>eW _ e
  exact RD R' (L.RG λa a e=>eW _ e) λh' R2=>gC (k h' R2) (λa a x=>x) λa a x=>x.elim
end
def RZ(K:AS)(e:Sx)(X:String):Prop:=∀F A n W s q(R E:QE),St F A n W K s->Ck e F.b (.e q)->(∀W' s' h' tk ex,aW F W' K s'->Ext F.bT W K.h W' K.h->Xg s'.heap h' ex X->E (.ref ex) {s' with heap:=h',toks:=tk})->wpAny Md A (eval q F.bB) R E s
variable{d:Loc} {a e:Sx} {Q:QF} {f:Mp}
section
variable{v:aN}
theorem Cp{q:bU}{R:QE}(h:RE K a x)(T:St F A n W K s)(ck:Ck a F.b (.e q))(k:∀v W' s',aW F W' K s'->Ext F.bT W K.h W' K.h->VR W' (aX K.h) v x->R v s'):wpAny Md A (eval q F.bB) R E s:=
 gC (h n (λy aZ=>y=x/\aZ=K) ⟨Y,Y⟩ F A W s q T ck) (λv a8 p=>p.cA λa5 aS y R e vy q=>by obtain⟨rfl,rfl⟩:=q;exact k v a5 a8 R e vy) λc c e=>e.elim
theorem zW{q q':bU}{env:jf}{R:QE}(e:bX.e q=.e q')(w:wpAny Md A (eval q' env) R E s):wpAny Md A (eval q env) R E s:=by cases e;exact w
theorem RH(ha:RE K a (.e l))(hb:RE K b y)(ho:K.h l=M (.d es))(ky:y.cn 7=O)(no:bM es y=U):RZ K (.u a b) "KeyError":=λF A n W s q R E T c k=>c.elim λo c=>c.elim λp c=>c.elim λpos c=>zW c.1<|A8<|Cp ha T c.2.1 λv a5 a8 i6 fM vx=>Cp hb ⟨T.aD,i6⟩ c.2.2.1 λu cU bQ eK eX vy=>by
 obtain⟨rfl,_⟩:=vx.bN (eX.tu i6.aC.aC i6.nx);have hT:bQ.TypeIs (.ref (cU.ρ l)) "dict":=⟨_,eK.dg ho,Y⟩
 refine Iw c.2.2.2 ⟨"dict",_,hT,D7.lookup⟩ ?_;unfold xf;refine ij (aK (He hT (ao Y) ?_));refine aK (wQ (name:=bo "__getitem__") hT D7 (mT D7 hT ajX ?_ (aj8 _ _)));show wpAny _ _ (Bf (cU.ρ l) u>>=_) _ _ bQ;refine aK (Bp eK.th (eK.dg ho) (eK.lQ ho) (eK.qh ho) vy ky (St.cl (k:=9) ⟨T.aD,eK⟩ (ao Y)) (λf tk=>?_) λv y' e'=>cK (no.symm.trans e'));show wpAny _ _ (V8 (cU.ρ l) u>>=_) _ _ _;refine aK (Wx (eK.n7 T.aD (eK.dm ho)) ?_);refine aK (Nv (s:={bQ with toks:=tk}) hT ?_)
 show wpAny _ _ (if(qL "dict" !=qL "dict")=O then _ else _) _ _ _;rw[av (ao Y)];exact aK (qN (wpAny_raise_newExc (A:=A.in1) plainExc_KeyError T.aD.aC λh' e ne=>k cU bQ h' tk e eK (fM.cO eX) ne))
theorem abL(ha:RE K a (V.bP vs))(hb:RE K b (.i j))(hj:vs.length<=j)(hz:j<=1000000):RZ K (.u a b) "IndexError":=λF A n W s q R E T c k=>c.elim λo c=>c.elim λp c=>c.elim λpos c=>zW c.1<|A8<|Cp ha T c.2.1 λv a5 a8 i6 fM vx=>Cp hb ⟨T.aD,i6⟩ c.2.2.1 λu cU bQ eK eX vy=>by
 obtain⟨t,us,rfl,ht,al⟩:=VR.kJ.mp (vx.bN (eX.tu i6.aC.aC i6.nx));obtain⟨tk,rfl⟩:=vy;have hT:IsTup bQ.heap t us.toArray:=⟨_,eK.th t us ht,Y,0,Y⟩
 have ln:=al.gU
 have hs:yT (j:Int) us.toArray.size=U:=by unfold yT;rw[av (vm.mpr (jH j)),av];intro w;exact dI _ (gc (mV.mp (aB (dH.mp w).2)) (show us.length<=j from ak ln hj))
 refine Iw c.2.2.2 ⟨"tuple",_,hT.typeIs,GU.lookup⟩ ?_;unfold xf;refine ij (aK (He hT.typeIs (ao Y) ?_));refine aK (wQ (name:=bo "__getitem__") hT.typeIs GU (mT slot_tuple_getitem hT.typeIs entry_tuple_getitem ?_ (args_tuple_getitem _ _)));show wpAny _ _ (ala (.ref t)>>=_) _ _ bQ;refine aK (tupleItemsOf_ hT ?_);refine aK (Nv (typeIs_int bQ j tk) ?_);rw[av (ao Y)];refine aK (A2 (T:="int") (typeIs_int bQ j tk) int_index ?_);rw[av (show¬(M (ajO "int.__index__")).isNone=O from d8)]
 refine aK (wpAny_of_eq (a:=(j:Int)) Y ?_);rw[av (by
  intro w;rcases D5.mp w with w|w
  .exact ax (aB w) (vm.mpr (Ho (ao Y) (jH j)))
  .exact ax (aB w) (NF.mpr (AW (qc.mpr hz) (ao Y))))]
 rw[hs];have hA:A.in1.handled=U:=T.aD.aC
 have h:∀h' tk e,Xg bQ.heap h' e "IndexError"->E (.ref e) {bQ with heap:=h',toks:=tk}:=λh' tk e ne=>k cU bQ h' tk e eK (fM.cO eX) ne
 first
  |exact aK (qN (by exact_raiseError Wr hA h))
  |exact aK (qN (aK (by exact_raiseError Wr hA h)))
  |exact qN (by exact_raiseError Wr hA h)
theorem abM(ha:RE K a x)(hb:RZ K b X):RZ K (.u a b) X:=λF A n W s q R E T c k=>c.elim λo c=>c.elim λp c=>c.elim λpos c=>zW c.1<|A8<|Cp ha T c.2.1 λv a5 a8 i6 fM vx=>hb F A n a5 a8 p _ E ⟨T.aD,i6⟩ c.2.2.1 λW' s' h' tk ex r e ne=>k W' s' h' tk ex r (fM.cO e) ne
theorem abN(ha:RZ K a X):RZ K (.bV p a r) X:=λF A n W s q R E T c k=>c.elim λv c=>c.elim λqp c=>c.elim λl c=>c.elim λpos c=>zW c.1<|aK (aj (c.2.2.2.2.2.1 p.si F.bB (eval v F.bB)).symm (ha F A n W s v _ E T c.2.1 k))
theorem abO(h:WB n r Q K):WS n (.Bt r) Q K:=λF A W s x T f c=>c.elim λb c=>c.elim λh' c=>c.elim λhs c=>c.elim λp c=>kN c.1<|Hh (gC (h F A W s b T f c.2) (λg a8 p=>by cases g<;>first|exact yO p|exact p) λa a x=>x.elim)
theorem RK{x:bU}{sc:dY}(c:Ck (.bV p a r) sc (.e x)):SW x:=b5 c λv c=>c.elim λqp c=>c.elim λl c=>c.elim λpos c=>by cases c.1;exactλt k env=>Y
theorem abP{d u:Sx}(h:WE n (.bV p a r) (λg aS=>Q .n aS) K):WS n (.EM (.bV p a r) b d u) Q K:=λF A W s q T f c=>c.elim λx c=>c.elim λp1 c=>c.elim λp2 c=>c.elim λz c=>c.elim λy c=>c.elim λp3 c=>c.elim λw c=>c.elim λp4 c=>c.elim λp5 c=>c.elim λp6 c=>c.elim λp7 c=>
 kN c.1 (Hh (rY (Xd (gC (h F A W s x T c.2.2.1) (λv a8 p=>p.cA λa5 aS x R e vx q=>yO (yO ⟨a5,aS,.n,R,e,Y,q⟩)) λg g x=>x.elim) (by show(F.b.kind==.module&&_)=Z;rw[T.aD.aD];rfl) (RK c.2.2.1 _ _ _))))
theorem FQ{q:bU}{R:QE}(kd:F.b.kind=.function)(r:aW F W K s)(c:Ck (.v i) F.b (.e q))(hm:K.m i=M x)(h:∀v,VR W (aX K.h) v x->R v s):wpAny Md A (eval q F.bB) R E s:=b5 c λy c=>c.elim λp c=>zW c.1<|gC (Xr (O7 kd r c.2 hm λv vx=>h v vx) (EU c.2).2.1) (λa a p=>p) λa a e=>e.elim
theorem RM{o:af}{P:QV}(q:alloc o P K):alloc o (λx aZ=>P x aZ/\aZ.m=K.m) K:=q.elim λl q=>q.elim λt q=>⟨l,t,q.1,q.2,Y⟩
theorem abQ{c':Nat}{dl:Loc}(hz:RZ K (.bV p a r) "KeyError")(ht:K.m i=M (.e l))(hk:K.m j=M y)(hv:K.m k=M x)(dp:kq c c'=O)(ky:y.cn 7=O)(hl:es.length<16777216)
 (al:alloc (.l [x]) (λz aZ=>(∃g,aZ.h l=M (.i c g)/\g c'=M (.e dl))/\aZ.h dl=M (.d es)/\Q .n (aZ.aF dl (.d (cC es y z)) aZ.t)) K):WS (n+1) (.EM (.bV p a r) (.a (.v i) c') (.v j) (.v k)) Q K:=λF A W s q T f ck=>ck.elim λex ck=>ck.elim λp1 ck=>ck.elim λp2 ck=>ck.elim λz ck=>ck.elim λyy ck=>ck.elim λp3 ck=>ck.elim λu ck=>ck.elim λp4 ck=>ck.elim λp5 ck=>ck.elim λp6 ck=>ck.elim λp7 ck=>by
 obtain⟨eq,g,ce,cz,cy,cu,pu⟩:=ck;have kd:=T.aD.aD
 refine kN eq (Hh (rY (Xd (hz F A (n+1) W s ex _ _ T ce λW' s' h' tk exn R' e' ne=>?_) (by show(F.b.kind==.module&&_)=Z;rw[kd];rfl) (RK ce _ _ _))))
 refine RA R' T.aD ne λW3 h3 R3 e3 L3=>abJ ⟨T.aD,R3⟩ L3 g λh4 R4=>?_;refine jL (e'.cO e3) (?_:wpAny Md _ _ (PG ro F W3 K.h Q) ba _);refine rY (ajp (List_ (D8 (FQ kd R4 cu hv λv vx=>A3 ?_) (pu.1 _ _))) Y);refine wm (EH R4 (.gE vx .gO) (show 1<=16777216 by decide) (RM al)) λlv s5 p=>p.cA λW5 xV zz R5 e5 vz q=>?_
 obtain⟨⟨⟨g,hg,ga⟩,hd,qq⟩,em⟩:=q;obtain⟨ve,ya,pa,ea,ata,cv,nb⟩:=cz;refine zW ea (O8 nb (FQ kd R5 cv (em▸ht) λo vo=>?_));have kk:=EC dp
 have gg:oM W5 (aX xV.h) (R5.uj hg) c' (M (.e dl)):=ga▸R5.xE hg c';obtain⟨uu,g1,g2⟩:=gg;obtain⟨w,q1,q2,_⟩:=kk.2.2.2.1;rw[vo.1,<-vp ata];refine get_own R5.fr R5.aC.aG (R5.xF hg) kk.1 kk.2.1 q1 q2 g1 g2.O' (FQ kd (R5.qg _) cy (em▸hk) λyv vy=>?_);rw[g2.1];have R5:=R5.qg (s5.toks+1)
 refine wm (PH (ai:=λaZ=>aZ=xV.aF dl (.d (cC es y zz)) xV.t) R5 (R5.n7 T.aD (R5.dm hd)) (St.cl (A:=A) (k:=9) ⟨T.aD,R5⟩ (by decide)) hd ky hl vy vz Y) λB s6 p=>p.cA λW6 zX B R6 e6 B w=>yO ⟨W6,zX,.n,R6,e5.cO e6,Y,w▸qq⟩
theorem RN{x:bU}{sc:dY}(c:Ck (.u a b) sc (.e x)):SA x:=b5 c λl c=>c.elim λr c=>c.elim λp c=>by cases c.1;exact⟨λz y q k env=>Y,λz y q k env=>Y⟩
theorem abT{o:Sx}(h:WE n (.u a b) (λy aS=>WE n o (λx cf=>BO x c y (Q .n) cf) aS) K):WS n (.Bu o c (.u a b)) Q K:=λF A W s q T f ck=>ck.elim λz ck=>ck.elim λy ck=>ck.elim λp1 ck=>ck.elim λex ck=>ck.elim λp2 ck=>ck.elim λq1 ck=>ck.elim λq2 ck=>ck.elim λkk ck=>ck.elim λq3 ck=>ck.elim λz' ck=>ck.elim λy' ck=>ck.elim λp3 ck=>ck.elim λp4 ck=>ck.elim λp5 ck=>ck.elim λp6 ck=>ck.elim λp7 ck=>by obtain⟨eq,g1,g2,ay,RO,cz,ce,RP⟩:=ck;refine kN eq (Hh (rY (gC (IK (ai:=Q .n) h F A W s (.Assign [.Attribute z y p1] ex p2) T f ⟨z,y,p1,ex,p2,Y,ay,cz,ce,RN ce⟩) (λg a8 p=>p.cA λa5 aS d R e fl k=>?_) λd d e=>e.elim)));obtain rfl:g=.next:=fl;exact yO (yO ⟨a5,aS,.n,R,e,Y,k⟩)
theorem abU(hz:RZ K (.u a b) X)(hX:X="KeyError"\/X="IndexError")(ho:K.m i=M (.e l))(dp:kq j c=O)(al:alloc (.l []) (λz aZ=>∃g,aZ.h l=M (.i j g)/\Q .n (aZ.aF l (.i j (aH g c z)) aZ.t)) K):WS (n+1) (.Bu (.v i) c (.u a b)) Q K:=λF A W s q T f ck=>ck.elim λz ck=>ck.elim λy ck=>ck.elim λp1 ck=>ck.elim λex ck=>ck.elim λp2 ck=>ck.elim λq1 ck=>ck.elim λq2 ck=>ck.elim λkk ck=>ck.elim λq3 ck=>ck.elim λz' ck=>ck.elim λy' ck=>ck.elim λp3 ck=>ck.elim λp4 ck=>ck.elim λp5 ck=>ck.elim λp6 ck=>ck.elim λp7 ck=>by
 obtain⟨eq,g1,g2,ay,RO,cz,ce,RP⟩:=ck;have kd:=T.aD.aD
 refine kN eq (Hh (rY (V0 (hz F A (n+1) W s ex _ _ T ce λW' s' h' tk exn R' e' ne=>?_) ((RN ce).1 _ _ _ _ _))));refine RA R' T.aD ne λW3 h3 R3 e3 L3=>abK ⟨T.aD,R3⟩ L3 hX g1 g2 λh4 R4=>?_;refine jL (e'.cO e3) (?_:wpAny Md _ _ (PG ro F W3 K.h Q) ba _);refine rY (V0 (List_ (A3 ?_)) Y);refine wm (EH R4 .gO (b7 _) (RM al)) λlv s5 p=>p.cA λW5 xV zz R5 e5 vz q=>?_;obtain⟨⟨g,hg,qq⟩,em⟩:=q;refine FQ kd R5 RP (ak em ho) λo vo=>?_;rw[vo.1,<-vp RO];exact wm (PI (ai:=λaZ=>aZ=xV.aF l (.i j (aH g c zz)) xV.t) R5 hg dp vz Y) λd s6 p=>p.cA λW6 zX d R6 e6 d w=>yO ⟨W6,zX,.n,R6,e5.cO e6,Y,ak w qq⟩
end
theorem abV{sc:dY}(r:jk sc scope bZ)(i:Nat):cx (fF sc scope) i=cx scope i:=by
 have key:∀sc:dY,cx sc i=((sc.names.map (·.1))[i]?).getD fU:=λsc=>by
  unfold cx;rw[kG];cases sc.names[i]? with
  |none=>rfl
  |some p=>rfl
 rw[key,key,r.aI]
def xW(g:Gx)(f:aY)(qual:aP)(px:gr)(body:bU)(scope:dY)(cl:List (aP×aY)):Prop:=(∃pm c' pI oc vs tq,g.X.lookup f=M (NZ "<lambda>" qual ⟨[],[⟨"x",U,px⟩],U,[],[],U,[]⟩ body scope cl pm c' pI)/\g.X.lookup c'=M oc/\oc.data=.fields vs/\vs[1]?=M (.str qual tq))/\(cx scope 0=bo "x"/\scope.names.lookup (bo "x")=M .local)/\scope.isCoroutine=Z/\scope.isGenerator=Z/\∀y y' a,cl.lookup y=M a->cl.lookup y'=M a->y=y'
section
variable{g:Gx} {f:aY} {px:gr} {body:bU} {cl:List (aP×aY)} (hh:xW g f qual px body scope cl)
def xW.aG:=hh.1
def xW.aC:=hh.2.1
def xW.aI:=hh.2.2.1
def xW.aD:=hh.2.2.2.1
def xW.aJ:=hh.2.2.2.2
end
def FT(g:Gx)(f:aY)(e:Sx)(bZ:List (Option Nat))(m:Mp):Prop:=∀n x(Q:RQ) h t,h gu=M (.fz g)->WE n e (λv K=>Q v K.h K.t) ⟨λi=>if i=0 then M x else j7 m bZ i,h,t⟩->bI (n+1) f [x] Q h t
theorem abW{g:Gx}{f:aY}{px:gr}{body:bU}{sc:dY}{cl:List (aP×aY)}{m:Mp}(L:xW g f qual px body scope cl)(r:jk sc scope bZ)(ck:Ck e scope (.e body))
 (free:∀(i j:Nat) z,bZ[i]?=M (M j)->m j=M z->∃a o v,cl.lookup (cx sc j)=M a/\g.X.lookup a=M o/\o.data=.cell (M v)/\∀W h,HR g W h->VR W (aX h) v z):FT g f e bZ m:=λn x Q h t hz q m₁ F A W s vs T al=>by
 obtain⟨pm,c',pI,oc,oI,tq,hf,hc,JO,hq⟩:=L.aG;have R:=T.aC
 obtain rfl:=R.aC.aC.aD.2 _ hz;have xs:F.g.X.In s.heap:=R.aC.aT.keeps R.fr.keep
 refine⟨⟨.frame,.inl Y,(Looks.ld (part:=U) (xs _ _ hf)).andThen .now⟩,?_⟩;obtain⟨p,loose,mg,mb,tp⟩:=T.aD.aG;obtain⟨v,ws,rfl,vx,al⟩:=al.lK;obtain rfl:=al.oJ;obtain⟨oL,FI,FJ,hL,Ce,zS⟩:=R.fr.ns;obtain⟨gg,hg⟩:∃g,g=nW s.heap (F.L::(W.lU (([]:List (aY×bh)).map (·.1))).n.map (·.1)):=⟨_,Y⟩;obtain⟨L',sG⟩:∃L',L'=s.heap.objs.size:=⟨_,Y⟩;have af:f9 F W h s [] oL gg L':=⟨hL,⟨FI,FJ,Ce⟩,(λp hp=>bw hp),(λp hp=>bw hp),(λp hp=>bw hp),(λp hp=>bw hp),hg,sG⟩
 refine kla_callFunE (bF (aL (mR ..) T.aD.aI) (ao Y)) (xs _ _ hf) Y L.aI L.aD Y ⟨c',oc,oI,tq,Y,xs _ _ hc,JO,hq⟩ ?_;have JH:Xx (kla_fn "<lambda>" qual ⟨[],[⟨"x",U,px⟩],U,[],[],U,[]⟩ body scope cl pm (.ref c') pI) ⟨[v],[]⟩=pure [(bo "x",v)]:=by kernel_rfl
 rw[JH];refine bg (ajF r.aG (λy hy=>ak (bp.mp hy) L.aC.2) (λh₁ sE JP=>⟨(tp.nolimit.keeps R.fr.keep).fresh _ JP,?_⟩) r.aD);rw[<-sG]at sE JP⊢;have rx:∀b o,s.heap.get? b=M o->h₁.get? b=M o:=λb o e=>JP.extBut b o (ak sG (gZ (d9 e))) (eW _ e)
 have tA:Tu W (W.in [] F.L oL []) (aX h) (aX h):=af.Rf (K:=⟨m₁,h,t⟩) R;have en:=Rg (cells:=[]) (K:=⟨m₁,h,t⟩) (Pn:=[]) (m₁:=λi=>if i=0 then M x else j7 m bZ i) af .lM R.aC.aC.aD.2 (λp hp=>bw hp) R T.aD (d:=⟨qual,scope,f,.ref c',cl⟩) (tk:=s.toks+1) r.aD sE rx (λp hp=>bw hp) (λp hp=>bw hp) gh (λi z e=>?_) (λy hy=>ax Y (r.aG _ (mem_lookup hy))) L.aJ
 .refine kla_codeExpr (gC (q _ _ _ _ body ⟨en.2,en.1⟩ ck) (λu s' p=>p.cA λW' aZ z R' e' vz q=>?_) λc c x=>x.elim);exact(JE (cells:=[]) (K:=⟨m₁,h,t⟩) (Pn:=[]) af R .lM .lM id (λy a hy c=>ax Y (r.aG _ (mem_lookup hy))) R' e').elim λnw z=>⟨u,Y,_,_,_,z.1,z.2.1,vz.bN z.2.2,Y,q⟩
 .by_cases hi:i=0
  .subst hi;cases(aw Y:(if 0=0 then M x else j7 m bZ 0)=M x).symm.trans e;refine⟨v,.inl ⟨?_,?_⟩,vx.bN tA⟩
   .exact(aq (λy=>scope.names.lookup y) L.aC.1).trans L.aC.2
   .exact(aq (λy=>List.lookup y [(bo "x",v)]) L.aC.1).trans (by rw[tY];rfl)
  .have e:=(av hi:(if i=0 then M x else j7 m bZ i)=j7 m bZ i).symm.trans e;obtain⟨w,hw,e⟩:=AU.mp e;obtain⟨j,rfl,e⟩:=AU.mp e;obtain⟨a,o,u,k1,k2,k3,k4⟩:=free i j z hw e;have rr:=r.aC i j hw
   have hn:cx scope i=cx sc j:=(abV r i).symm.trans rr.1;exact⟨u,.inr ⟨.inr ((aq (λy=>scope.names.lookup y) hn).trans (JB r.aJ rr.2.2.1)),a,o,(aq (λy=>cl.lookup y) hn).trans k1,.inr k2,k3⟩,(k4 W h R.aC.aC).bN tA⟩
def qm(c P:aY):Prop:=(∀h,ai.In h->CodeHd h c P)/\(∀h mg,ai.In h->h.Ns mj mg->h.BuiltinsAt mg P)/\mj≠P
section
variable{c P:aY} (hh:qm c P)
def qm.aC:=hh.1
def qm.aG:=hh.2.1
def qm.aD:=hh.2.2
end
def ng(F:Fm)(W:Wd)(h:Hp)(p:aY×bh):Prop:=p∈W.n/\¬jg W h p.1/\(∀vs,p.2≠ia vs)/\p.1∉F.o.map (·.1)
section
variable{h:Hp} {p:aY×bh} (hh:ng F W h p)
def ng.aC:=hh.1
def ng.aD:=hh.2.1
def ng.aG:=hh.2.2.1
def ng.aI:=hh.2.2.2
end
def Made(F:Fm)(W:Wd)(h:Hp)(f:aY)(params:Hw)(body:bU)(scope:dY):Prop:=∃cl pm c' pI oc vs tq,
 ng F W h (f,NZ "<lambda>" (F.bB.qual++"<lambda>") params body scope cl pm c' pI)/\ng F W h (c',oc)/\¬F.bT f/\¬F.bT c'/\oc.data=.fields vs/\vs[1]?=M (.str (F.bB.qual++"<lambda>") tq)/\
 (∀x a,cl.lookup x=M a->F.l.lookup x=M a)/\∀p∈scope.names,p.2=.free->cl.lookup p.1=F.l.lookup p.1
variable{h h':Hp}
theorem ng.uA{p:aY×bh}(z:ng F W h p)(no:¬F.bT p.1)(e:Ext F.bT W h W' h'):ng F W' h' p:=⟨e.aD _ z.aC z.aD no,e.mw z.aC z.aD,z.aG,z.aI⟩
theorem Made.uA{f:aY}{body:bU}(m:Made F W h f params body scope)(e:Ext F.bT W h W' h'):Made F W' h' f params body scope:=by obtain⟨cl,pm,c',pI,oc,vs,tq,z1,z2,n1,n2,k⟩:=m;exact⟨cl,pm,c',pI,oc,vs,tq,z1.uA n1 e,z2.uA n2 e,n1,n2,k⟩
theorem aW.abX(R:aW F W K s){a:aY}(w:F.bT a):∃o,(a,o)∈W.n:=w.elim (λq=>q.elim λy q=>(R.aG y q.1).elim λb r=>r.elim λo r=>r.elim λv r=>⟨o,ak (bu (q.2.1.symm.trans r.1)) r.2.1⟩) λq=>(bk.mp q).elim λp hp=>(R.aD p hp.1).2.1.elim λo z=>⟨o,aj hp.2 z.1⟩
theorem abY{P c' f:aY}{lt:Loc}{ps fh:Array aN}{oc:bh}{tk:Nat}(R:aW F W K s)(ht:K.h lt=M (.t P ps))(nf:(∀vs,fo≠ia vs)/\∀vs,oc≠ia vs)(hx:Ei P s.heap H')(zY:s.heap.objs.size<=c')(zZ:c'<f)(g1:H'.get? f=M fo)(g2:H'.get? c'=M oc)(g3:H'.get? P=M (lL fh)):
 ∃W',aW F W' (K.aF lt (.t P fh) K.t) {s with heap:=H',toks:=tk}/\Ext F.bT W K.h W' (K.aF lt (.t P fh) K.t).h/\ng F W' (K.aF lt (.t P fh) K.t).h (f,fo)/\ng F W' (K.aF lt (.t P fh) K.t).h (c',oc)/\¬F.bT f/\¬F.bT c':=by
 obtain⟨l0,eP,mP⟩:lt.1≠0/\W.ρ lt=P/\(W.ρ lt,lL ps)∈W.n:=R.aC.aC.aC lt _ ht;have ob:Own K.h (lt,Z):=⟨l0,mu ht,λe=>cw e⟩
 have ae:HR F.g ⟨W.bG,ee (W.ρ lt) (lL fh) W.n⟩ (K.h.aF lt (.t P fh))/\Ext F.bT W K.h ⟨W.bG,ee (W.ρ lt) (lL fh) W.n⟩ (K.h.aF lt (.t P fh)):=R.aC.aC.Oo ob (λi=>i.elim λc i=>i.elim λc i=>vq i Y) (λc=>⟨P,fh,Y⟩) λc=>⟨l0,eP,ue mP⟩;have JQ:∀p∈ee (W.ρ lt) (lL fh) W.n,p.1<c':=λp hp=>by obtain⟨q,hq,e⟩:=bk.mp (aj (vA (d:=W.ρ lt) (o:=lL fh)) (dw (f:=dQ) hp));exact gc (aj e (d9 (R.aC.aD q hq).1)) zY
 have U1:HR F.g ⟨W.bG,(c',oc)::ee (W.ρ lt) (lL fh) W.n⟩ (K.h.aF lt (.t P fh))/\Ext F.bT _ _ ⟨W.bG,(c',oc)::ee (W.ρ lt) (lL fh) W.n⟩ (K.h.aF lt (.t P fh)):=ae.1.yZ JQ;have U2:HR F.g ⟨W.bG,(f,fo)::(c',oc)::ee (W.ρ lt) (lL fh) W.n⟩ (K.h.aF lt (.t P fh))/\Ext F.bT _ _ ⟨W.bG,(f,fo)::(c',oc)::ee (W.ρ lt) (lL fh) W.n⟩ (K.h.aF lt (.t P fh)):=U1.1.yZ λp hp=>(b0.mp hp).elim (λe=>ak e zZ) λhp=>Xf (JQ p hp) zZ
 have nP:=(R.aC.aD _ mP).2;have old:∀b o,F.h₀.get? b=M o->H'.get? b=M o:=λb o e=>hx b o (λq=>cK (show U=M o from nP.2.symm.trans (ak (eP.trans q.symm) e))) (R.fr.keep b o e)
 have ge:∀a,c'<=a->a≠F.L/\F.h₀.get? a=U:=λa k=>⟨λe=>dI _ (gc R.fr.ns.lt (aL zY (aj e k))),Wh (aL R.fr.above (aL (gB R.fr.ns.lt) (aL zY k)))⟩;have no:∀a,c'<=a->¬F.bT a:=λa k w=>(R.abX w).elim λo m=>dI _ (gc (d9 (R.aC.aD _ m).1) (aL zY k))
 have FK:∀a,c'<=a->¬jg ⟨W.bG,(f,fo)::(c',oc)::ee (W.ρ lt) (lL fh) W.n⟩ (K.h.aF lt (.t P fh)) a:=λa k=>ae.1.Ra λp hp e=>dI _ (gc (e▸JQ p hp) k);have N':ub F.h₀ F.L H' ((f,fo)::(c',oc)::ee (W.ρ lt) (lL fh) W.n):=kb.mpr ⟨⟨g1,ge _ (gB zZ)⟩,kb.mpr ⟨⟨g2,ge _ (dj _)⟩,λp hp=>by
  obtain⟨p',iY,rfl⟩:=bk.mp hp;by_cases e:p'.1=W.ρ lt
  .rw[aw e];exact⟨aj eP.symm g3,nP⟩
  .rw[av e];exact⟨hx _ _ (λw=>e (w.trans eP.symm)) (R.aC.aD p' iY).1,(R.aC.aD p' iY).2⟩⟩⟩
 refine⟨⟨W.bG,_⟩,R.vE (s':={s with heap:=H',toks:=tk}) (t':=K.t) ⟨R.fr.ns.extBut hx λe=>nP.1 (eP.trans e.symm),old,R.fr.above⟩ N' ⟨U2.1,ae.2.cO (U1.2.cO U2.2)⟩ (λa o m x=>.tail _ (.tail _ (jB (λ(e:a=_)=>?_) m))) (λk hk=>(aQ λ(e:bz k=lt)=>ob.2.1 (aj e (R.aC.aI k hk))).trans (R.aC.aI k hk)) Y Y,
  ae.2.cO (U1.2.cO U2.2),⟨.head _,FK _ (gB zZ),nf.1,λw=>no f (gB zZ) (.inr w)⟩,⟨.tail _ (.head _),FK _ (dj _),nf.2,λw=>no c' (dj _) (.inr w)⟩,no _ (gB zZ),no _ (dj _)⟩
 subst e;exact x.elim (λx=>x.elim λv x=>jz (aj (R.kr m mP) x:(lL ps).data=.cell v) Y) λx=>(R.vD m x).2 ⟨_,ob,Y⟩
theorem abZ{c P:aY}(L:qm c P)(T:St F A n W K s)(sF:F.cd=.ref c){body:bU}{pos:gr}(r:jk F.b scope bZ)(ab0:defaultsOf params F.bB=([],[]))
 {lt:Loc}{ps:Array aN}(ht:K.h lt=M (.t P ps))(tr:TriplesOk ps.toList)(nf:NQ pos ps.toList=U){Q:QE}
 (q:∀W' s' f c',aW F W' (K.aF lt (.t P (ps++#[gj pos.line,gj pos.col,.ref c'])) K.t) s'->Ext F.bT W K.h W' (K.aF lt (.t P (ps++#[gj pos.line,gj pos.col,.ref c'])) K.t).h->
  Made F W' (K.aF lt (.t P (ps++#[gj pos.line,gj pos.col,.ref c'])) K.t).h f params body scope->Q (.ref f) s'):
 wpAny Md A (eval (.Lambda params body scope pos) F.bB) Q ba s:=by
 have R:=T.aC;obtain⟨cl,hcl,c1,c2⟩:=Jh R r;obtain⟨p,loose,mg,mb,tp⟩:=T.aD.aG;have RR:=tp.g.keeps R.fr.keep
 obtain⟨l0,eP,mP⟩:lt.1≠0/\W.ρ lt=P/\(W.ρ lt,lL ps)∈W.n:=R.aC.aC.aC lt _ ht;refine kla_eval ab0 (kla_makeFunction (mg:=mg) hcl Y RR sF (L.aC _ R.aC.aJ) (aj eP (R.aC.aD _ mP).1) tr nf L.aD (L.aG _ _ R.aC.aJ RR) λc' pI h' tk hx zY hlt ab3 htb=>?_);obtain⟨c₂,oc,vs,tq,e2,JO,hd,hv⟩:=ab3;cases e2;obtain⟨W',R',e,z1,z2,n1,n2⟩:=abY (f:=h'.objs.size) (tk:=tk) (H':=h'.push (NZ "<lambda>" (F.bB.qual++"<lambda>") params body scope cl ((mg "__name__").getD .none) c' pI)) (fo:=NZ "<lambda>" (F.bB.qual++"<lambda>") params body scope cl ((mg "__name__").getD .none) c' pI) R ht
  (And.intro (λvs e=>jz (aq Ba e) Y) λus e=>jz ((aq Ba e).symm.trans hd) Y) (λb o nb e=>eW _ (hx b o nb e)) zY hlt (jG _ Y) (eW _ JO) (eW _ htb)
 exact q W' _ _ c' R' e ⟨cl,_,c',pI,oc,vs,tq,z1,z2,n1,n2,hd,hv,c1,c2⟩
noncomputable abbrev JR(px:gr):Hw:=⟨[],[⟨"x",U,px⟩],U,[],[],U,[]⟩
def FU(sc:dY)(i:Nat)(e:Sx)(bZ:List (Option Nat))(pos:gr)(x:iI):Prop:=∃y py px body scope p,x=.Assign [.Name y py] (.Lambda (JR px) body scope pos) p/\od sc i y=O/\y9 sc scope bZ=O/\Ck e scope (.e body)/\(cx scope 0==bo "x")=O/\(scope.names.lookup (bo "x")==M .local)=O/\scope.isCoroutine=Z/\scope.isGenerator=Z
def uB(F:Fm)(W:Wd)(h:Hp)(a:aY)(e:Sx)(bZ:List (Option Nat)):Prop:=∃px body scope,Made F W h a (JR px) body scope/\jk F.b scope bZ/\Ck e scope (.e body)/\(cx scope 0=bo "x"/\scope.names.lookup (bo "x")=M .local)/\scope.isCoroutine=Z/\scope.isGenerator=Z
theorem ab5{X:jx}{N:List (aY×bh)}(nd:(N.map (·.1)).Nodup)(hZ:∀p∈ah,p∈N){a:aY}{o:bh}(h:(a,o)∈ah):(ah++X).lookup a=M o:=by
 rw[G4];cases q:ah.lookup a with
 |none=>exact ax (aiU.mp q _ h) (by simp)
 |some o'=>obtain⟨l1,l2,e,_⟩:=aiT.mp q;exact aq M (HT nd (hZ (a,o') (ak e (cZ _ (.head _)))) (hZ _ h))
variable{a:aY}
theorem uB.uA(m:uB F W h a e bZ)(x:Ext F.bT W h W' h'):uB F W' h' a e bZ:=m.elim λpx m=>m.elim λb m=>m.elim λsc m=>⟨px,b,sc,m.1.uA x,m.2⟩
theorem RU{x:aP}{px p:gr}{v:bU}(T:St F A n W K s)(f:Sf F)(it:od F.b i x=O)(sw:SW v){Q:ua->bK->Prop}
 (ev:wpAny Md A (eval v F.bB) (λu a8=>∃a5 aS y,aW F a5 aS a8/\VR a5 (aX aS.h) u y/\∀cU bQ,aW F cU (aS.eR i y) bQ->Ext F.bT a5 aS.h cU aS.h->Q .next bQ) ba s):wpAny Md A (exec (.Assign [.Name x px] v p) F.bB) Q ba s:=
 WM (wm ev λu a8 q=>q.elim λa5 q=>q.elim λaS q=>q.elim λy q=>wm (zC (ai:=(·=aS.eR i y)) ⟨T.aD,q.1⟩ f.aC it (.inl f.aD) q.2.1 Y) λa bQ z=>z.cA λcU cf a R e a k=>q.2.2 cU bQ (aj k R) (by cases k;exact e)) (sw _ _ _)
theorem RW{c P:aY}(L:qm c P)(T:St F A n W K s)(f:Sf F)(sF:F.cd=.ref c){x:iI}{pos:gr}(ck:FU F.b i e bZ pos x){lt:Loc}{ps:Array aN}(ht:K.h lt=M (.t P ps))(tr:TriplesOk ps.toList)(nf:NQ pos ps.toList=U){Q:ua->bK->Prop}
 (q:∀W' s' a c',aW F W' ((K.aF lt (.t P (ps++#[gj pos.line,gj pos.col,.ref c'])) K.t).eR i (.iX a)) s'->Ext F.bT W K.h W' (K.h.aF lt (.t P (ps++#[gj pos.line,gj pos.col,.ref c'])))->
  uB F W' (K.h.aF lt (.t P (ps++#[gj pos.line,gj pos.col,.ref c']))) a e bZ->Q .next s'):wpAny Md A (exec x F.bB) Q ba s:=by
 obtain⟨y,py,px,body,scope,p,rfl,c1,c2,c3,c4,c5,c6,c7⟩:=ck;exact RU T f c1 (λd d d=>Y) (abZ L T sF (jk.of c2) Y ht tr nf λW' s' a c' R e m=>⟨W',_,.iX a,R,Y,λcU bQ eK eX=>q cU bQ a c' eK (e.cO eX) ⟨px,body,scope,m.uA eX,jk.of c2,c3,⟨bq c4,bq c5⟩,c6,c7⟩⟩)
theorem RX(R:aW F W K s)(ab:uB F W K.h a e bZ):∃Zs:List (aY×bh),(∀p∈Zs,ng F W K.h p)/\∀(ah:List (aY×bh))(Pn:List (Loc×aY)),(∀p∈Zs,p∈ah)->(∀p∈ah,p∈W.n)->(∀(i j:Nat),bZ[i]?=M (M j)->∃l a o,K.m j=M (.e l)/\F.l.lookup (cx F.b j)=M a/\(a,o)∈ah/\o.data=.cell (M (.ref (W.ρ l)))/\(l,W.ρ l)∈Pn)->FT (F.g.to ah Pn) a e bZ K.m:=by
 obtain⟨px,body,scope,⟨cl,pm,c',pI,oc,vs,tq,z1,z2,n1,n2,k1,k2,k3,k4⟩,r,ck,hx,co,gen⟩:=ab;refine⟨[_,_],kb.mpr ⟨z1,kb.mpr ⟨z2,λp hp=>bw hp⟩⟩,λah Pn hs hn pJ=>?_⟩;have lz:∀{a o},(a,o)∈ah->(ah++F.g.X).lookup a=M o:=λm=>ab5 R.aC.aC.aG hn m
 refine abW ⟨⟨pm,c',pI,oc,vs,tq,lz (hs _ (.head _)),lz (hs _ (.tail _ (.head _))),k1,k2⟩,hx,co,gen,λy y' b e e'=>R.aI y y' b (k3 _ _ e) (k3 _ _ e')⟩ r ck λi j z hj hz=>?_;obtain⟨l,b,o,e1,e2,e3,e4,e5⟩:=pJ i j hj;cases e1.symm.trans hz;exact⟨b,o,_,(k4 _ (r.aC i j hj).2.2.1 Y).trans e2,lz e3,e4,λW1 h1 H1=>have q:=H1.aD.1 (l,W.ρ l) (cH _ e5);⟨aq ik q.2.symm,q.1⟩⟩
theorem ab6(R:aW F W K s)(f:Sf F)(hk:F.b.names.lookup (cx F.b i)=M .cell)(hm:K.m i=M (.e l)):∃a o,F.l.lookup (cx F.b i)=M a/\ng F W K.h (a,o)/\o.data=.cell (M (.ref (W.ρ l)))/\aX K.h l:=by
 obtain⟨v,vh,rfl,dl⟩:=R.lo i _ hm;rcases vh with⟨k,_⟩|⟨_,a,o,k2,k3,k4⟩
 .exact yX ((show F.b.names.lookup (cx F.b i)=M .local from k).symm.trans hk) Y
 .obtain⟨a',o',v',e1,e2,e3⟩:=R.aG _ hk;obtain rfl:=bu (k2.symm.trans e1);obtain rfl:o=o':=k3.elim (λm=>R.kr m e2) λx=>fK ((R.aC.aT _ _ x).symm.trans (R.aC.aD _ e2).2.2);exact⟨a,o,k2,⟨e2,R.aC.aC.mw e2 λf=>f.2.1 _ e3,(λvs e=>jz ((aq Ba e).symm.trans e3) Y),λw=>(R.vD e2 w).1.elim λes q=>q.elim λep q=>jz (q.symm.trans e3) Y⟩,k4,dl⟩
theorem ab7(R:aW F W K s)(f:Sf F)(I:Nl):(∀j∈I,(∃l,K.m j=M (.e l))/\F.b.names.lookup (cx F.b j)=M .cell)->
 ∃(ah:List (aY×bh))(Pn:List (Loc×aY)),(∀p∈ah,ng F W K.h p)/\(∀p∈Pn,aX K.h p.1/\W.ρ p.1=p.2)/\∀j∈I,∃l a o,K.m j=M (.e l)/\F.l.lookup (cx F.b j)=M a/\(a,o)∈ah/\o.data=.cell (M (.ref (W.ρ l)))/\(l,W.ρ l)∈Pn:=by
 induction I with
 |nil=>exactλc=>⟨[],[],(λp hp=>bw hp),(λp hp=>bw hp),(λj hj=>bw hj)⟩
 |cons j I ih=>
  intro hI;have hI:=kb.mp hI
  obtain⟨ah,Pn,h1,h2,h3⟩:=ih hI.2;obtain⟨l,hl⟩:=hI.1.1;obtain⟨a,o,k1,k2,k3,k4⟩:=ab6 R f hI.1.2 hl;exact⟨(a,o)::ah,(l,W.ρ l)::Pn,kb.mpr ⟨k2,h1⟩,kb.mpr ⟨⟨k4,Y⟩,h2⟩,kb.mpr ⟨⟨l,a,o,hl,k1,.head _,k3,.head _⟩,λi hi=>(h3 i hi).elim λl z=>z.elim λa z=>z.elim λo z=>⟨l,a,o,z.1,z.2.1,.tail _ z.2.2.1,z.2.2.2.1,.tail _ z.2.2.2.2⟩⟩⟩
structure L3 where
 i1:Nat
 e1:Sx
 nh:List (Option Nat)
 i2:Nat
 e2:Sx
 nr:List (Option Nat)
 i3:Nat
 f:Nat
 k0:Nat
def JT(sc:dY)(d:L3)(l:List iI):Prop:=∃s1 Cq s2 Cr x3 Cs g pg va pc p3 v4 p4,l=[s1,s2,.Assign [.Name x3 Cs] (.Call (.Name g pg) va [] pc) p3,.Return (M v4) p4]/\FU sc d.i1 d.e1 d.nh Cq s1/\FU sc d.i2 d.e2 d.nr Cr s2/\od sc d.i3 x3=O/\j4 sc g=O/\mq Bl d.f g=O/\
 Ck (.c (.v d.k0) (.c (.v d.i2) (.c (.v d.i1) .n))) sc (.es va)/\oe va/\SW (.Call (.Name g pg) va [] pc)/\Ck (.v d.i3) sc (.e v4)/\(cQ Cq.line Cr.line&&cQ Cq.col Cr.col)=Z
def Ct(f k c:Nat)(d:L3):Prop:=∃fd fo body pn,jN fd fo body pn [] f k/\fd.code=.ref c/\JT fd.scope d body
theorem ab8{p1 p2:gr}{c:aN}(h:(cQ p1.line p2.line&&cQ p1.col p2.col)=Z):NQ p2 (#[]++#[gj p1.line,gj p1.col,c]:Array aN).toList=U:=by
 show(if(((p1.line:Nat):Int)==((p2.line:Nat):Int)&&((p1.col:Nat):Int)==((p2.col:Nat):Int))=O then M c else NQ p2 [])=U;refine(av λw=>?_).trans Y;have w:=dH.mp w
 rw[jv (bq w.1),jv (bq w.2),xa,xa]at h;exact cw h
theorem nZ.RY{g:Gx}:nZ (h.aF gu (.fz g)) g:=λg' e=>by
 cases a4.symm.trans e
 rfl
theorem mI{a b:af}:(h.aF l a).aF l b=h.aF l b:=funext λk=>by
 unfold Hp.aF;by_cases e:k=l
 .rw[aw e,aw e]
 .rw[av e,av e,av e]
variable{d:L3} {Q:RQ} {x0:V} {a1 a2:aY}
section
variable{dx:Vs} {g0:Gx}
def Q3(n:Nat)(d:L3)(ast:Sx)(dx:Vs)(Q:RQ)(g0:Gx)(x0:V)(K:AS):Prop:=∀g a1 a2,FT g a1 d.e1 d.nh K.m->FT g a2 d.e2 d.nr K.m->WB n ast (Rt λx h' t'=>(∃g',h' gu=M (.fz g'))/\Q x (h'.aF gu (.fz g0)) t') ⟨λi=>([x0,.iX a2,.iX a1]++dx)[i]?,K.h.aF gu (.fz g),K.t⟩
theorem ab9(T:St F A (n+1) W K s)(f:Sf F)(M1:uB F W K.h a1 d.e1 d.nh)(M2:uB F W K.h a2 d.e2 d.nr)(hz:K.h gu=M (.fz g0))(ok:eV (bJ d.f) 3 ast dx)(pJ:∀(i j:Nat),d.nh[i]?=M (M j)\/d.nr[i]?=M (M j)->∃l,K.m j=M (.e l))(q:Q3 n d ast dx Q g0 x0 K)
 {vs:List aN}(al:bL (VR W (aX K.h)) vs [x0,.iX a2,.iX a1]):Kp (.ref (bJ d.f)) s.heap/\wpAny Md A (call (.ref (bJ d.f)) vs) (fL F W K.h λx aZ=>aZ.m=K.m/\Q x aZ.h aZ.t) ba s:=by
 have R:=T.aC;obtain⟨fd,fo,body,pn,dv,ok,xT,ck⟩:=ok;obtain⟨Z1,z1,k1⟩:=RX R M1;obtain⟨Z2,z2,k2⟩:=RX R M2;obtain⟨_,_,_,_,r1,_⟩:=M1;obtain⟨_,_,_,_,r2,_⟩:=M2;have hr:∀(i j:Nat),d.nh[i]?=M (M j)\/d.nr[i]?=M (M j)->F.b.names.lookup (cx F.b j)=M .cell:=λi j w=>w.elim (λw=>(r1.aC i j w).2.2.2) λw=>(r2.aC i j w).2.2.2
 have inI:∀j,j∈(d.nh++d.nr).filterMap id->∃i:Nat,d.nh[i]?=M (M j)\/d.nr[i]?=M (M j):=λj w=>(pA.mp w).elim λo w=>(cD.mp (aj w.2 w.1:M j∈_)).elim (λw=>(kE w).elim λi w=>⟨i,.inl w⟩) λw=>(kE w).elim λi w=>⟨i,.inr w⟩;obtain⟨Zc,Pn,zc,pp,cc⟩:=ab7 R f ((d.nh++d.nr).filterMap id) λj w=>(inI j w).elim λi w=>⟨pJ i j w,hr i j w⟩;have hZ:∀p∈Z1++(Z2++Zc),ng F W K.h p:=λp hp=>(cD.mp hp).elim (z1 p) λhp=>(cD.mp hp).elim (z2 p) (zc p)
 have R9:∀j,M j∈d.nh++d.nr->∃l a o,K.m j=M (.e l)/\F.l.lookup (cx F.b j)=M a/\(a,o)∈Z1++(Z2++Zc)/\o.data=.cell (M (.ref (W.ρ l)))/\(l,W.ρ l)∈Pn:=λj w=>(cc j (pA.mpr ⟨_,w,Y⟩)).elim λl z=>z.elim λa z=>z.elim λo z=>⟨l,a,o,z.1,z.2.1,cZ _ (cZ _ z.2.2.1),z.2.2.2⟩;have w:=q (F.g.to (Z1++(Z2++Zc)) Pn) a1 a2 (k1 _ _ (λp m=>cH _ m) (λp m=>(hZ p m).aC) λi j w=>R9 j (cH _ (bE w))) (k2 _ _ (λp m=>cZ _ (cH _ m)) (λp m=>(hZ p m).aC) λi j w=>R9 j (cZ _ (bE w)))
 obtain rfl:=R.aC.aC.aD.2 _ hz;refine⟨N0 ok.aT _ R.aC.aJ,Xq (Nw (JI (ah:=Z1++(Z2++Zc)) (Pn:=Pn) (Q:=Q) (xs:=[x0,.iX a2,.iX a1]) (.aF hz) nZ.RY ok xT Y (λF' A' W' s' T' f' es c c=>wm (w F' A' W' s' body T' f' (ak es ck)) λc c p=>p.cA λa5 aS x R e r q=>⟨a5,aS,x,R,e,r,JJ (λx h t q=>q.1.elim λg' e=>⟨_,.aF e,(λc=>nZ.RY),q.2⟩) q⟩) T al (λp hp=>(hZ p hp).aC) (λp hp=>(hZ p hp).aD) (λp hp=>(hZ p hp).aG) (λp hp=>(hZ p hp).aI) pp) λr s' p=>p.elim λv p=>ak p.1 p.2)⟩
theorem aca(T:St F A (n+1) W K s)(f:Sf F)(M1:uB F W K.h a1 d.e1 d.nh)(M2:uB F W K.h a2 d.e2 d.nr)(hz:K.h gu=M (.fz g0))(ok:eV (bJ d.f) 3 ast dx)(pJ:∀(i j:Nat),d.nh[i]?=M (M j)\/d.nr[i]?=M (M j)->∃l,K.m j=M (.e l))(q:Q3 n d ast dx Q g0 x0 K)
 (m0:K.m d.k0=M x0)(m1:K.m d.i1=M (.iX a1))(m2:K.m d.i2=M (.iX a2)){x3:aP}{Cs:gr}{g:aP}{pg:gr}{va:List bU}{pc p3:gr}{v4:bU}{p4:gr}(c3:od F.b d.i3 x3=O)(c4:j4 F.b g=O)(c5:mq Bl d.f g=O)
 (c6:Ck (.c (.v d.k0) (.c (.v d.i2) (.c (.v d.i1) .n))) F.b (.es va))(c7:oe va)(c8:SW (.Call (.Name g pg) va [] pc))(c9:Ck (.v d.i3) F.b (.e v4)):wpAny Md A (execs [.Assign [.Name x3 Cs] (.Call (.Name g pg) va [] pc) p3,.Return (M v4) p4] F.bB) (PG ro F W K.h (Rt Q)) ba s:=by
 refine rY (RU T f c3 c8 (aK (BE T c4 (bq (Od c5).1) (BL (first:=[]) c7 (wm ((a6 (aE m0) (a6 (aE m2) (a6 (aE m1) br))) (n+1) (λys aZ=>ys=[x0,.iX a2,.iX a1]/\aZ=K) ⟨Y,Y⟩ F A W s va pc T c6) λws s5 p5=>p5.cA λW5 xV ys R5 E5 al5 e5=>?_)))));obtain⟨rfl,rfl⟩:=e5;have w:=ab9 ⟨T.aD,R5⟩ f (M1.uA E5) (M2.uA E5) hz ok pJ q al5
 refine⟨w.1,wm w.2 λv s6 p=>p.cA λW6 zX y R6 E6 vy q6=>⟨W6,zX,y,R6,vy,λW7 s7 R7 E7=>?_⟩⟩;exact rY (aj5 (wm (aE (aw Y) (n+1) (λz aZ=>z=y/\aZ=zX.eR d.i3 y) ⟨Y,Y⟩ F A W7 s7 v4 ⟨T.aD,R7⟩ c9) (λu s8 p=>p.cA λW8 σ8 z R8 E8 vz e8=>⟨W8,σ8,.r z,R8,(E5.cO E6).cO (E7.cO (by cases e8.2;exact E8)),⟨u,Y,vz⟩,by obtain⟨rfl,rfl⟩:=e8;exact q6.2⟩)))
theorem ace{c P:aY}(L:qm c P)(T:St F A (n+1) W K s)(f:Sf F)(sF:F.cd=.ref c){l:List iI}(ck:JT F.b d l)(ok:eV (bJ d.f) 3 ast dx){lt:Loc}(ht:K.h lt=M (.t P #[]))(hz:K.h gu=M (.fz g0)) (lz:gu≠lt)
 (pJ:∀(i j:Nat),d.nh[i]?=M (M j)\/d.nr[i]?=M (M j)->(∃l,K.m j=M (.e l))/\j≠d.i1/\j≠d.i2) (Cu:d.i1≠d.i2) (Cv:K.m d.k0=M x0) (Cw:d.k0≠d.i1) (Cx:d.k0≠d.i2)
 (q:∀ps m h',(∀j,j≠d.i1->j≠d.i2->m j=K.m j)->h'=K.h.aF lt (.t P ps)->Q3 n d ast dx Q g0 x0 ⟨m,h',K.t⟩):wpAny Md A (execs l F.bB) (PG ro F W K.h (Rt Q)) ba s:=by
 obtain⟨s1,Cq,s2,Cr,x3,Cs,g,pg,va,pc,p3,v4,p4,rfl,c1,c2,c3,c4,c5,c6,c7,c8,c9,c10⟩:=ck;refine rY (RW L T f sF c1 ht trivial Y λW1 s1 a1 cc1 R1 E1 M1=>rY (RW L ⟨T.aD,R1⟩ f sF c2 a4 trivial (ab8 c10) λW2 s2 a2 cc2 R2 E2 M2=>?_));have hm:∀j,j≠d.i1->j≠d.i2->aH (aH K.m d.i1 (.iX a1)) d.i2 (.iX a2) j=K.m j:=λj h1 h2=>(av h2).trans (av h1)
 exact jL (E1.cO E2) (aca ⟨T.aD,R2⟩ f (M1.uA E2) M2 ((aQ lz).trans ((aQ lz).trans hz)) ok (λi j w=>(pJ i j w).1.imp λl e=>(hm j (pJ i j w).2.1 (pJ i j w).2.2).trans e) (q _ _ _ hm mI) ((hm _ Cw Cx).trans Cv) ((av Cu).trans (aw Y)) (aw Y) c3 c4 c5 c6 c7 c8 c9)
end
theorem acg{P f:Nat}(L:qm c P)(ok:Ct f k c d){dx:Vs}(ok2:eV (bJ d.f) 3 ast dx)(hk:xs.length=k){lt:Loc}{g0:Gx}(ht:h lt=M (.t P #[]))(hz:h gu=M (.fz g0)) (lz:gu≠lt)
 (pJ:∀(i j:Nat),d.nh[i]?=M (M j)\/d.nr[i]?=M (M j)->(∃l,xs[j]?=M (.e l))/\j≠d.i1/\j≠d.i2) (Cu:d.i1≠d.i2) (Cv:xs[d.k0]?=M x0) (Cw:d.k0≠d.i1) (Cx:d.k0≠d.i2)
 (q:∀ps m h',(∀j,j≠d.i1->j≠d.i2->m j=xs[j]?)->h'=h.aF lt (.t P ps)->Q3 n d ast dx Q g0 x0 ⟨m,h',t⟩):bI (n+2) f xs Q h t:=λm F A W s vs T al=>by
 obtain⟨fd,fo,body,pn,ok,sF,ck⟩:=ok;have e:xs++[]=xs:=hY xs
 exact⟨N0 ok.aT _ T.aC.aC.aJ,JI (K:=⟨m,h,t⟩) (ah:=[]) (Pn:=[]) (dx:=[]) (Q:=Q) .lM T.aC.aC.aC.aD.2 ok (λa a=>.gO) hk (λF' A' W' s' T' f' es ec a=>wm (ace L T' f' (ec.trans sF) (ak es ck) ok2 ht hz lz (aj e.symm pJ) Cu (aj e.symm Cv) Cw Cx (aj e.symm q)) λa a p=>p.cA λa5 aS x R e r q=>⟨a5,aS,x,R,e,r,JJ (λa a a q=>⟨_,.lM,id,q⟩) q⟩) T al (λp hp=>bw hp) (λp hp=>bw hp) (λp hp=>bw hp) (λp hp=>bw hp) λp hp=>bw hp⟩
def aci:Sx:=sq [.h (.iZ O (sq [.m .Gt (.p .l (sq [.v 0])) (.cI 0),.p .c (sq [.sj (.m .In (.v 1) (.D 1)) (.v 1) (.v 0) .n [U,U,U]])]))]
def JU:Sx:=sq [.cW (.v 0) 0 (.v 2),.cW (.v 0) 1 (.p .t (sq [.v 3])),.cW (.v 0) 2 (.v 1),.cW (.v 0) 3 (.v 5),.cW (.v 0) 4 .cN,.cW (.v 0) 5 (.v 6),.cW (.v 0) 6 (.v 7),.cW (.v 0) 7 (.v 4),.cW (.v 0) 8 (.p .l (sq [.a (.v 0) 1])),.cW (.v 0) 9 (.t .n),.f (.v 8) (.l (.a (.v 0) 1)) (sq [.i (.m .NotIn (.v 8) (.a (.v 0) 9)) (sq [.e (.bV .a (.a (.v 0) 9) (sq [.v 8]))]) .n]) .n,.cW (.v 0) 10 (.t .n),.cW (.v 0) 11 .cN,.i (.l (.a (.v 0) 1)) (sq [.cW (.v 0) 12 (.EK (sq [.l (.a (.v 0) 0),.cS " -> ",.l (.bV .j (.cS " ") (sq [.a (.v 0) 1]))]))]) (sq [.cW (.v 0) 12 (.b .Mod (.cS "%s -> <empty>") (.a (.v 0) 0))])]
def acj:Sx:=sq [.h (.p .l (sq [.a (.v 0) 1]))]
def ack:Sx:=sq [.cW (.v 0) 0 (.a (.v 1) 0),.cW (.v 0) 1 (.p .i (sq [.a (.v 1) 1])),.cW (.v 0) 2 (.a (.v 1) 2),.cW (.v 0) 13 (.v 2),.cW (.v 0) 14 (.fq .n),.e (.bV .e (.a (.v 0) 1) (sq [.v 2,.cS "."])),.cW (.v 0) 1 (.p .t (sq [.a (.v 0) 1])),.cW (.v 0) 8 (.p .l (sq [.a (.v 0) 1])),.cW (.v 0) 9 (.a (.v 1) 9)]
def acm:Sx:=sq [.s (.v 2) (.b .Sub (.p .l (sq [.v 0])) (.cI 1)),.pC (.m .GtE (.v 2) (.cI 0)) (sq [.i (.m .In (.u (.v 0) (.v 2)) (.v 1)) (sq [.h (.u (.v 0) (.v 2))]) .n,.xB 2 .Sub (.cI 1)]) .n,.h .cN]
def acn:Sx:=sq [.cW (.v 0) 15 (.t (sq [.cN])),.cW (.v 0) 16 (.fq .n),.cW (.v 0) 17 (.fq .n),.cW (.v 0) 18 (.fq .n),.f (.v 2) (.l (.v 1)) (sq [.cR (.a (.v 0) 18) (.v 2) (.t .n)]) .n,.cR (.a (.v 0) 18) (.cS "error") (.t .n),.cW (.v 0) 19 (.fq .n),.cW (.v 0) 20 (.fq .n),.cW (.v 0) 21 (.fq .n),.cW (.v 0) 22 (.fq .n),.cW (.v 0) 23 (.p .b .n),.cW (.v 0) 24 .cN]
def Sa:Sx:=sq [.i (.m .In (.u (.v 7) (.cI 0)) (.cS "'\"")) (sq [.j]) .n,.i (.iZ O (sq [.o (.l (.g 1 (sq [.v 7]))),.m .NotEq (.v 7) (.cS "%prec")])) (sq [.j]) .n]
def JV:Sx:=sq [.i (.m .In (.v 14) (.a (.v 0) 18)) (sq [.e (.bV .a (.u (.a (.v 0) 18) (.v 14)) (sq [.v 13]))]) (sq [.i (.m .NotIn (.v 14) (.a (.v 0) 19)) (sq [.cR (.a (.v 0) 19) (.v 14) (.t .n)]) .n,.e (.bV .a (.u (.a (.v 0) 19) (.v 14)) (sq [.v 13]))])]
def aco:Sx:=sq [.i (.m .In (.v 1) (.a (.v 0) 18)) (sq [.j]) .n,.i (.m .Eq (.v 1) (.cS "error")) (sq [.j]) .n,.i (.o (.l (.g 1 (sq [.v 1])))) (sq [.j]) .n,.f (.a [6,7]) (.A (.v 2)) Sa .n,.i (.m .In (.cS "%prec") (.v 2)) (sq [.i (.m .Eq (.u (.v 2) (.q (.cI 1))) (.cS "%prec")) (sq [.j]) .n,.i (.m .NotEq (.u (.v 2) (.q (.cI 2))) (.cS "%prec")) (sq [.j]) .n,.s (.v 9) (.u (.v 2) (.q (.cI 1))),.s (.v 10) (.bV .g (.a (.v 0) 22) (sq [.v 9])),.i (.o (.l (.v 10))) (sq [.j]) (sq [.e (.bV .d (.a (.v 0) 23) (sq [.v 9]))]),.j]) (sq [.s (.v 9) (.g 3 (sq [.v 2,.a (.v 0) 18])),.s (.v 10) (.bV .g (.a (.v 0) 22) (sq [.v 9,.d (sq [.cS "right",.cI 0])]))]),.s (.v 11) (.EK (sq [.l (.v 1),.cS " -> ",.l (.v 2)])),.i (.m .In (.v 11) (.a (.v 0) 17)) (sq [.s (.v 12) (.u (.a (.v 0) 17) (.v 11)),.j]) .n,.s (.v 13) (.p .l (sq [.a (.v 0) 15])),.i (.m .NotIn (.v 1) (.a (.v 0) 19)) (sq [.cR (.a (.v 0) 19) (.v 1) (.t .n)]) .n,.f (.v 14) (.l (.v 2)) JV .n,.s (.v 15) (.C 1 (sq [.v 13,.v 1,.v 2,.v 10,.v 3,.v 4,.v 5])),.e (.bV .a (.a (.v 0) 15) (sq [.v 15])),.cR (.a (.v 0) 17) (.v 11) (.v 15),.EM (.bV .a (.u (.a (.v 0) 16) (.v 1)) (sq [.v 15])) (.a (.v 0) 16) (.v 1) (.v 15)]
def acp:Sx:=sq [.i (.o (.l (.v 1))) (sq [.s (.v 1) (.a (.u (.a (.v 0) 15) (.cI 1)) 0)]) .n,.i (.m .NotIn (.v 1) (.a (.v 0) 19)) (sq [.j]) .n,.cR (.a (.v 0) 15) (.cI 0) (.C 1 (sq [.cI 0,.cS "S'",.t (sq [.v 1])])),.e (.bV .a (.u (.a (.v 0) 19) (.v 1)) (sq [.cI 0])),.cW (.v 0) 24 (.v 1)]
def acq:Sx:=sq [.s (.v 2) (.t .n),.f (.v 3) (.l (.v 1)) (sq [.s (.v 4) (.cB Z),.f (.v 5) (.l (.u (.a (.v 0) 20) (.v 3))) (sq [.i (.m .Eq (.v 5) (.cS "<empty>")) (sq [.s (.v 4) (.cB O)]) (sq [.i (.m .NotIn (.v 5) (.v 2)) (sq [.e (.bV .a (.v 2) (sq [.v 5]))]) .n])]) .n,.i (.l (.v 4)) (sq [.F]) (sq [.z])]) (sq [.e (.bV .a (.v 2) (sq [.cS "<empty>"]))]),.h (.v 2)]
def Sb:Sx:=sq [.i (.m .NotIn (.v 5) (.u (.a (.v 0) 20) (.v 2))) (sq [.e (.bV .a (.u (.a (.v 0) 20) (.v 2)) (sq [.v 5])),.s (.v 3) (.cB O)]) .n]
def JW:Sx:=sq [.f (.v 5) (.l (.gW (.v 0) 25 (sq [.a (.v 4) 1]))) Sb .n]
def JX:Sx:=sq [.f (.v 4) (.l (.u (.a (.v 0) 16) (.v 2))) JW .n]
def Se:Sx:=sq [.s (.v 3) (.cB Z),.f (.v 2) (.l (.a (.v 0) 19)) JX .n,.i (.o (.l (.v 3))) (sq [.z]) .n]
def acr:Sx:=sq [.i (.l (.a (.v 0) 20)) (sq [.h (.a (.v 0) 20)]) .n,.f (.v 1) (.l (.a (.v 0) 18)) (sq [.cR (.a (.v 0) 20) (.v 1) (.t (sq [.v 1]))]) .n,.cR (.a (.v 0) 20) (.cS "$end") (.t (sq [.cS "$end"])),.f (.v 2) (.l (.a (.v 0) 19)) (sq [.cR (.a (.v 0) 20) (.v 2) (.t .n)]) .n,.pC (.l (.cB O)) Se .n,.h (.a (.v 0) 20)]
def JY:Sx:=sq [.i (.iZ O (sq [.m .NotEq (.v 9) (.cS "<empty>"),.m .NotIn (.v 9) (.u (.a (.v 0) 21) (.v 6))])) (sq [.e (.bV .a (.u (.a (.v 0) 21) (.v 6)) (sq [.v 9])),.s (.v 3) (.cB O)]) .n,.i (.m .Eq (.v 9) (.cS "<empty>")) (sq [.s (.v 8) (.cB O)]) .n]
def JZ:Sx:=sq [.i (.m .NotIn (.v 9) (.u (.a (.v 0) 21) (.v 6))) (sq [.e (.bV .a (.u (.a (.v 0) 21) (.v 6)) (sq [.v 9])),.s (.v 3) (.cB O)]) .n]
def J0:Sx:=sq [.i (.m .In (.v 6) (.a (.v 0) 19)) (sq [.s (.v 7) (.gW (.v 0) 25 (sq [.xA (.a (.v 4) 1) (.b .Add (.v 5) (.cI 1))])),.s (.v 8) (.cB Z),.f (.v 9) (.l (.v 7)) JY .n,.i (.iZ Z (sq [.l (.v 8),.m .Eq (.v 5) (.b .Sub (.p .l (sq [.a (.v 4) 1])) (.cI 1))])) (sq [.f (.v 9) (.l (.u (.a (.v 0) 21) (.a (.v 4) 0))) JZ .n]) .n]) .n]
def J3:Sx:=sq [.f (.a [5,6]) (.A (.a (.v 4) 1)) J0 .n]
def Sg:Sx:=sq [.s (.v 3) (.cB Z),.f (.v 4) (.l (.xA (.a (.v 0) 15) (.cI 1))) J3 .n,.i (.o (.l (.v 3))) (sq [.z]) .n]
def acs:Sx:=sq [.i (.l (.a (.v 0) 21)) (sq [.h (.a (.v 0) 21)]) .n,.i (.o (.l (.a (.v 0) 20))) (sq [.e (.gW (.v 0) 26 .n)]) .n,.f (.v 2) (.l (.a (.v 0) 19)) (sq [.cR (.a (.v 0) 21) (.v 2) (.t .n)]) .n,.i (.o (.l (.v 1))) (sq [.s (.v 1) (.a (.u (.a (.v 0) 15) (.cI 1)) 0)]) .n,.cR (.a (.v 0) 21) (.v 1) (.t (sq [.cS "$end"])),.pC (.l (.cB O)) Sg .n,.h (.a (.v 0) 21)]
def Sh:Sx:=sq [.i (.m .Gt (.v 3) (.OP (.v 1) 27)) (sq [.s (.v 5) .cN]) (sq [.s (.v 5) (.C 2 (sq [.v 1,.v 3])),.Bu (.v 5) 28 (.u (.a (.v 0) 16) (.u (.a (.v 5) 1) (.b .Add (.v 3) (.cI 1)))),.Bt (sq [.cW (.v 5) 29 (.u (.a (.v 5) 1) (.b .Sub (.v 3) (.cI 1)))])]),.cW (.v 2) 11 (.v 5),.i (.o (.l (.v 5))) (sq [.z]) .n,.e (.bV .a (.v 4) (sq [.v 5])),.s (.v 2) (.v 5),.xB 3 .Add (.cI 1)]
def acu:Sx:=sq [.f (.v 1) (.l (.a (.v 0) 15)) (sq [.s (.v 2) (.v 1),.s (.v 3) (.cI 0),.s (.v 4) (.t .n),.pC (.l (.cB O)) Sh .n,.cW (.v 1) 10 (.v 4)]) .n]
def Si:Sx:=sq [.i (.m .Eq (.u (.v 3) (.v 4)) (.cI 0)) (sq [.e (.g 5 (sq [.v 4,.v 3,.v 5,.v 6,.v 0,.v 1,.v 2]))]) .n]
def Sj:Sx:=sq [.s (.v 3) (.fq .n),.f (.v 4) (.l (.v 0)) (sq [.cR (.v 3) (.v 4) (.cI 0)]) .n,.s (.v 5) (.t .n),.s (.v 6) (.fq .n),.f (.v 4) (.l (.v 0)) Si .n,.h (.v 6)]
def Sk:Sx:=sq [.i (.m .Eq (.u (.v 1) (.v 9)) (.cI 0)) (sq [.e (.g 5 (sq [.v 9,.v 1,.v 2,.v 3,.v 4,.v 5,.v 6]))]) .n,.cR (.v 1) (.v 0) (.p .m (sq [.u (.v 1) (.v 0),.u (.v 1) (.v 9)])),.f (.v 10) (.l (.bV .g (.v 3) (sq [.v 9,.t .n]))) (sq [.i (.m .NotIn (.v 10) (.u (.v 3) (.v 0))) (sq [.e (.bV .a (.u (.v 3) (.v 0)) (sq [.v 10]))]) .n]) .n]
def J5:Sx:=sq [.e (.bV .a (.v 2) (sq [.v 0])),.s (.v 7) (.p .l (sq [.v 2])),.cR (.v 1) (.v 0) (.v 7),.cR (.v 3) (.v 0) (.Ih 6 (sq [.v 0])),.s (.v 8) (.Ih 5 (sq [.v 0])),.f (.v 9) (.l (.v 8)) Sk .n,.i (.m .Eq (.u (.v 1) (.v 0)) (.v 7)) (sq [.cR (.v 1) (.u (.v 2) (.q (.cI 1))) (.D 0),.cR (.v 3) (.u (.v 2) (.q (.cI 1))) (.u (.v 3) (.v 0)),.s (.v 11) (.bV .o (.v 2) .n),.pC (.m .NotEq (.v 11) (.v 0)) (sq [.cR (.v 1) (.u (.v 2) (.q (.cI 1))) (.D 0),.cR (.v 3) (.u (.v 2) (.q (.cI 1))) (.u (.v 3) (.v 0)),.s (.v 11) (.bV .o (.v 2) .n)]) .n]) .n]
def acv:Sx:=sq [.i (.o (.l (.v 0))) (sq [.h (.d .n)]) .n,.h (.p .t (sq [.sj (.d (sq [.a (.v 1) 2,.a (.v 1) 13])) (.v 1) (.v 0) .n [U,U]]))]
def z4:Sx:=sq [.i (.m .NotIn (.v 2) (.t (sq [.cS "SLR",.cS "LALR"]))) (sq [.j]) .n,.cW (.v 0) 30 (.v 1),.cW (.v 0) 31 (.v 2),.cW (.v 0) 32 (.fq .n),.cW (.v 0) 33 (.fq .n),.cW (.v 0) 34 (.a (.v 1) 15),.cW (.v 0) 35 (.fq .n),.cW (.v 0) 36 (.fq .n),.cW (.v 0) 37 (.cI 0),.cW (.v 0) 38 (.cI 0),.cW (.v 0) 39 (.cI 0),.cW (.v 0) 40 (.t .n),.cW (.v 0) 41 (.t .n),.cW (.v 0) 42 (.t .n),.e (.gW (.a (.v 0) 30) 43 .n),.e (.gW (.a (.v 0) 30) 26 .n),.e (.gW (.a (.v 0) 30) 44 .n),.e (.gW (.v 0) 45 .n)]
def J6:Sx:=sq [.i (.m .Eq (.a (.v 5) 46) (.a (.v 0) 37)) (sq [.w]) .n,.e (.bV .a (.v 2) (sq [.a (.v 5) 11])),.cW (.v 5) 46 (.a (.v 0) 37),.s (.v 3) (.cB O)]
def FV:Sx:=sq [.f (.v 5) (.l (.a (.v 4) 28)) J6 .n]
def Sl:Sx:=sq [.s (.v 3) (.cB Z),.f (.v 4) (.l (.v 2)) FV .n]
def acw:Sx:=sq [.vF (.v 0) 37 .Add (.cI 1),.s (.v 2) (.OO (.v 1)),.s (.v 3) (.cB O),.pC (.l (.v 3)) Sl .n,.h (.v 2)]
def J7:Sx:=sq [.s (.v 7) (.a (.v 6) 11),.i (.iZ O (sq [.l (.v 7),.m .Eq (.a (.v 7) 29) (.v 2)])) (sq [.s (.v 8) (.bV .g (.v 4) (sq [.d (sq [.a (.v 7) 2,.a (.v 7) 13])])),.i (.o (.l (.v 8))) (sq [.s (.v 8) (.fq .n),.cR (.v 4) (.d (sq [.a (.v 7) 2,.a (.v 7) 13])) (.v 8)]) .n,.e (.bV .a (.v 5) (sq [.v 7])),.s (.v 4) (.v 8)]) .n]
def J8:Sx:=sq [.s (.v 3) (.bV .g (.a (.v 0) 35) (sq [.d (sq [.g 6 (sq [.v 1]),.v 2])])),.i (.l (.v 3)) (sq [.h (.v 3)]) .n,.s (.v 4) (.bV .g (.a (.v 0) 35) (sq [.v 2])),.i (.o (.l (.v 4))) (sq [.s (.v 4) (.fq .n),.cR (.a (.v 0) 35) (.v 2) (.v 4)]) .n,.s (.v 5) (.t .n),.f (.v 6) (.l (.v 1)) J7 .n,.s (.v 3) (.bV .g (.v 4) (sq [.cS "$end"])),.i (.o (.l (.v 3))) (sq [.i (.l (.v 5)) (sq [.s (.v 3) (.gW (.v 0) 47 (sq [.v 5])),.cR (.v 4) (.cS "$end") (.v 3)]) (sq [.cR (.v 4) (.cS "$end") (.v 5)])]) .n,.cR (.a (.v 0) 35) (.d (sq [.g 6 (sq [.v 1]),.v 2])) (.v 3),.h (.v 3)]
def Sm:Sx:=sq [.s (.v 8) (.gW (.v 0) 48 (sq [.v 3,.v 7])),.i (.iZ Z (sq [.o (.l (.v 8)),.m .In (.g 6 (sq [.v 8])) (.a (.v 0) 36)])) (sq [.w]) .n,.cR (.a (.v 0) 36) (.g 6 (sq [.v 8])) (.p .l (sq [.v 1])),.e (.bV .a (.v 1) (sq [.v 8]))]
def Sn:Sx:=sq [.s (.v 3) (.u (.v 1) (.v 2)),.xB 2 .Add (.cI 1),.s (.v 4) (.fq .n),.f (.v 5) (.l (.v 3)) (sq [.f (.v 6) (.l (.a (.v 5) 9)) (sq [.cR (.v 4) (.v 6) .cN]) .n]) .n,.f (.v 7) (.l (.v 4)) Sm .n]
def FW:Sx:=sq [.s (.v 1) (.t (sq [.gW (.v 0) 47 (sq [.t (sq [.a (.u (.a (.a (.v 0) 30) 15) (.cI 0)) 11])])])),.s (.v 2) (.cI 0),.f (.v 3) (.l (.v 1)) (sq [.cR (.a (.v 0) 36) (.g 6 (sq [.v 3])) (.v 2),.xB 2 .Add (.cI 1)]) .n,.s (.v 2) (.cI 0),.pC (.m .Lt (.v 2) (.p .l (sq [.v 1]))) Sn .n,.h (.v 1)]
def So:Sx:=sq [.i (.m .NotIn (.v 4) (.v 1)) (sq [.z]) .n]
def Sp:Sx:=sq [.i (.m .Eq (.a (.v 3) 8) (.cI 0)) (sq [.e (.bV .d (.v 1) (sq [.a (.v 3) 0])),.w]) .n,.f (.v 4) (.l (.a (.v 3) 1)) So (sq [.e (.bV .d (.v 1) (sq [.a (.v 3) 0]))])]
def acx:Sx:=sq [.s (.v 1) (.p .b .n),.s (.v 2) (.cI 0),.pC (.l (.cB O)) (sq [.f (.v 3) (.l (.xA (.a (.a (.v 0) 30) 15) (.cI 1))) Sp .n,.i (.m .Eq (.p .l (sq [.v 1])) (.v 2)) (sq [.z]) .n,.s (.v 2) (.p .l (sq [.v 1]))]) .n,.h (.v 1)]
def acy:Sx:=sq [.s (.v 2) (.t .n),.f (.a [3,4]) (.A (.v 1)) (sq [.f (.v 5) (.l (.v 4)) (sq [.i (.m .Lt (.a (.v 5) 13) (.b .Sub (.a (.v 5) 8) (.cI 1))) (sq [.s (.v 6) (.d (sq [.v 3,.u (.a (.v 5) 1) (.b .Add (.a (.v 5) 13) (.cI 1))])),.i (.m .In (.u (.v 6) (.cI 1)) (.a (.a (.v 0) 30) 19)) (sq [.i (.m .NotIn (.v 6) (.v 2)) (sq [.e (.bV .a (.v 2) (sq [.v 6]))]) .n]) .n]) .n]) .n]) .n,.h (.v 2)]
def acz:Sx:=sq [.s (.a [4,5]) (.v 2),.s (.v 6) (.t .n),.s (.v 7) (.gW (.v 0) 48 (sq [.u (.v 1) (.v 4),.v 5])),.f (.v 8) (.l (.v 7)) (sq [.i (.m .Lt (.a (.v 8) 13) (.b .Sub (.a (.v 8) 8) (.cI 1))) (sq [.s (.v 9) (.u (.a (.v 8) 1) (.b .Add (.a (.v 8) 13) (.cI 1))),.i (.m .In (.v 9) (.a (.a (.v 0) 30) 18)) (sq [.i (.m .NotIn (.v 9) (.v 6)) (sq [.e (.bV .a (.v 6) (sq [.v 9]))]) .n]) .n]) .n]) .n,.i (.iZ O (sq [.m .Eq (.v 4) (.cI 0),.m .Eq (.v 5) (.u (.a (.u (.a (.a (.v 0) 30) 15) (.cI 0)) 1) (.cI 0))])) (sq [.e (.bV .a (.v 6) (sq [.cS "$end"]))]) .n,.h (.v 6)]
def acA:Sx:=sq [.s (.v 4) (.t .n),.s (.a [5,6]) (.v 2),.s (.v 7) (.gW (.v 0) 48 (sq [.u (.v 1) (.v 5),.v 6])),.s (.v 8) (.bV .g (.a (.v 0) 36) (sq [.g 6 (sq [.v 7]),.q (.cI 1)])),.f (.v 9) (.l (.v 7)) (sq [.i (.m .Lt (.a (.v 9) 13) (.b .Sub (.a (.v 9) 8) (.cI 1))) (sq [.s (.v 10) (.u (.a (.v 9) 1) (.b .Add (.a (.v 9) 13) (.cI 1))),.i (.m .In (.v 10) (.v 3)) (sq [.e (.bV .a (.v 4) (sq [.d (sq [.v 8,.v 10])]))]) .n]) .n]) .n,.h (.v 4)]
def Sq:Sx:=sq [.s (.v 13) (.b .Add (.v 13) (.cI 1)),.s (.v 7) (.u (.a (.v 12) 1) (.v 13)),.i (.m .In (.d (sq [.v 14,.v 7])) (.v 6)) (sq [.s (.v 15) (.b .Add (.v 13) (.cI 1)),.pC (.m .Lt (.v 15) (.a (.v 12) 8)) (sq [.i (.m .In (.u (.a (.v 12) 1) (.v 15)) (.a (.a (.v 0) 30) 18)) (sq [.z]) .n,.i (.m .NotIn (.u (.a (.v 12) 1) (.v 15)) (.v 3)) (sq [.z]) .n,.s (.v 15) (.b .Add (.v 15) (.cI 1))]) (sq [.e (.bV .a (.v 11) (sq [.d (sq [.v 14,.v 7])]))])]) .n,.s (.v 16) (.gW (.v 0) 48 (sq [.u (.v 1) (.v 14),.v 7])),.s (.v 14) (.bV .g (.a (.v 0) 36) (sq [.g 6 (sq [.v 16]),.q (.cI 1)]))]
def Sr:Sx:=sq [.i (.m .NotEq (.a (.v 17) 0) (.a (.v 12) 0)) (sq [.w]) .n,.i (.m .NotEq (.a (.v 17) 8) (.a (.v 12) 8)) (sq [.w]) .n,.s (.v 18) (.cI 0),.pC (.m .Lt (.v 18) (.a (.v 17) 13)) (sq [.i (.m .NotEq (.u (.a (.v 17) 1) (.v 18)) (.u (.a (.v 12) 1) (.b .Add (.v 18) (.cI 1)))) (sq [.z]) .n,.s (.v 18) (.b .Add (.v 18) (.cI 1))]) (sq [.e (.bV .a (.v 10) (sq [.d (sq [.v 14,.v 17])]))])]
def Su:Sx:=sq [.i (.m .NotEq (.a (.v 12) 0) (.v 9)) (sq [.w]) .n,.s (.v 13) (.a (.v 12) 13),.s (.v 14) (.v 8),.pC (.m .Lt (.v 13) (.b .Sub (.a (.v 12) 8) (.cI 1))) Sq .n,.f (.v 17) (.l (.u (.v 1) (.v 14))) Sr .n]
def Sy:Sx:=sq [.s (.v 10) (.t .n),.s (.v 11) (.t .n),.f (.v 12) (.l (.u (.v 1) (.v 8))) Su .n,.f (.v 18) (.l (.v 11)) (sq [.i (.m .NotIn (.v 18) (.v 5)) (sq [.cR (.v 5) (.v 18) (.t .n)]) .n,.e (.bV .a (.u (.v 5) (.v 18)) (sq [.d (sq [.v 8,.v 9])]))]) .n,.cR (.v 4) (.d (sq [.v 8,.v 9])) (.v 10)]
def acB:Sx:=sq [.s (.v 4) (.fq .n),.s (.v 5) (.fq .n),.s (.v 6) (.fq .n),.f (.v 7) (.l (.v 2)) (sq [.cR (.v 6) (.v 7) (.cI 1)]) .n,.f (.a [8,9]) (.l (.v 2)) Sy .n,.h (.d (sq [.v 4,.v 5]))]
def Sz:Sx:=sq [.i (.m .NotIn (.v 8) (.u (.a (.v 6) 14) (.v 5))) (sq [.e (.bV .a (.u (.a (.v 6) 14) (.v 5)) (sq [.v 8]))]) .n]
def J9:Sx:=sq [.i (.m .NotIn (.v 5) (.a (.v 6) 14)) (sq [.cR (.a (.v 6) 14) (.v 5) (.t .n)]) .n,.s (.v 7) (.bV .g (.v 2) (sq [.v 3,.t .n])),.f (.v 8) (.l (.v 7)) Sz .n]
def SD:Sx:=sq [.f (.a [3,4]) (.E (.v 1)) (sq [.f (.a [5,6]) (.l (.v 4)) J9 .n]) .n]
def acC:Sx:=sq [.s (.v 2) (.gW (.v 0) 49 .n),.s (.v 3) (.gW (.v 0) 50 (sq [.v 1])),.s (.v 4) (.gW (.v 0) 51 (sq [.v 1,.v 3,.v 2])),.s (.a [5,6]) (.gW (.v 0) 52 (sq [.v 1,.v 3,.v 2])),.s (.v 7) (.gW (.v 0) 53 (sq [.v 3,.v 4,.v 6])),.e (.gW (.v 0) 54 (sq [.v 5,.v 7]))]
def Ka:Sx:=sq [.s (.v 15) (.bV .g (.v 9) (sq [.v 14])),.i (.EI (.v 15)) (sq [.i (.m .Gt (.v 15) (.cI 0)) (sq [.s (.a [16,17]) (.bV .g (.v 2) (sq [.v 14,.d (sq [.cS "right",.cI 0])])),.s (.a [18,19]) (.a (.u (.v 1) (.a (.v 12) 2)) 7),.i (.iZ Z (sq [.m .Lt (.v 17) (.v 19),.iZ O (sq [.m .Eq (.v 17) (.v 19),.m .Eq (.v 18) (.cS "left")])])) (sq [.cR (.v 9) (.v 14) (.q (.a (.v 12) 2)),.cR (.v 10) (.v 14) (.v 12),.i (.iZ O (sq [.o (.l (.v 17)),.o (.l (.v 19))])) (sq [.e (.bV .a (.a (.v 0) 41) (sq [.d (sq [.v 7,.v 14,.cS "reduce"])]))]) .n,.vF (.u (.v 1) (.a (.v 12) 2)) 57 .Add (.cI 1)]) (sq [.i (.iZ O (sq [.m .Eq (.v 17) (.v 19),.m .Eq (.v 18) (.cS "nonassoc")])) (sq [.cR (.v 9) (.v 14) .cN]) (sq [.i (.o (.l (.v 19))) (sq [.e (.bV .a (.a (.v 0) 41) (sq [.d (sq [.v 7,.v 14,.cS "shift"])]))]) .n])])]) (sq [.i (.m .Lt (.v 15) (.cI 0)) (sq [.s (.v 20) (.u (.v 1) (.q (.v 15))),.s (.v 21) (.u (.v 1) (.a (.v 12) 2)),.i (.m .Gt (.a (.v 20) 6) (.a (.v 21) 6)) (sq [.cR (.v 9) (.v 14) (.q (.a (.v 12) 2)),.cR (.v 10) (.v 14) (.v 12),.j,.vF (.u (.v 1) (.a (.v 12) 2)) 57 .Add (.cI 1),.vF (.u (.v 1) (.a (.v 20) 2)) 57 .Sub (.cI 1)]) (sq [.j]),.e (.bV .a (.a (.v 0) 42) (sq [.d (sq [.v 7,.v 22,.v 23])]))]) (sq [.j])])]) (sq [.cR (.v 9) (.v 14) (.q (.a (.v 12) 2)),.cR (.v 10) (.v 14) (.v 12),.vF (.u (.v 1) (.a (.v 12) 2)) 57 .Add (.cI 1)])]
def SE:Sx:=sq [.i (.m .Eq (.a (.v 12) 8) (.b .Add (.a (.v 12) 13) (.cI 1))) (sq [.i (.m .Eq (.a (.v 12) 0) (.cS "S'")) (sq [.cR (.v 9) (.cS "$end") (.cI 0),.cR (.v 10) (.cS "$end") (.v 12)]) (sq [.i (.m .Eq (.a (.v 0) 31) (.cS "LALR")) (sq [.s (.v 13) (.u (.a (.v 12) 14) (.v 7))]) (sq [.s (.v 13) (.u (.a (.a (.v 0) 30) 21) (.a (.v 12) 0))]),.f (.v 14) (.l (.v 13)) Ka .n])]) (sq [.s (.v 24) (.a (.v 12) 13),.s (.v 14) (.u (.a (.v 12) 1) (.b .Add (.v 24) (.cI 1))),.i (.m .In (.v 14) (.a (.a (.v 0) 30) 18)) (sq [.s (.v 25) (.gW (.v 0) 48 (sq [.v 8,.v 14])),.s (.v 26) (.bV .g (.a (.v 0) 36) (sq [.g 6 (sq [.v 25]),.q (.cI 1)])),.i (.m .GtE (.v 26) (.cI 0)) (sq [.s (.v 15) (.bV .g (.v 9) (sq [.v 14])),.i (.EI (.v 15)) (sq [.i (.m .Gt (.v 15) (.cI 0)) (sq [.i (.m .NotEq (.v 15) (.v 26)) (sq [.j]) .n]) (sq [.i (.m .Lt (.v 15) (.cI 0)) (sq [.s (.a [16,17]) (.bV .g (.v 2) (sq [.v 14,.d (sq [.cS "right",.cI 0])])),.s (.a [18,19]) (.a (.u (.v 1) (.a (.u (.v 10) (.v 14)) 2)) 7),.i (.iZ Z (sq [.m .Gt (.v 17) (.v 19),.iZ O (sq [.m .Eq (.v 17) (.v 19),.m .Eq (.v 18) (.cS "right")])])) (sq [.vF (.u (.v 1) (.a (.u (.v 10) (.v 14)) 2)) 57 .Sub (.cI 1),.cR (.v 9) (.v 14) (.v 26),.cR (.v 10) (.v 14) (.v 12),.i (.o (.l (.v 19))) (sq [.e (.bV .a (.a (.v 0) 41) (sq [.d (sq [.v 7,.v 14,.cS "shift"])]))]) .n]) (sq [.i (.iZ O (sq [.m .Eq (.v 17) (.v 19),.m .Eq (.v 18) (.cS "nonassoc")])) (sq [.cR (.v 9) (.v 14) .cN]) (sq [.i (.iZ O (sq [.o (.l (.v 17)),.o (.l (.v 19))])) (sq [.e (.bV .a (.a (.v 0) 41) (sq [.d (sq [.v 7,.v 14,.cS "reduce"])]))]) .n])])]) (sq [.j])])]) (sq [.cR (.v 9) (.v 14) (.v 26),.cR (.v 10) (.v 14) (.v 12)])]) .n]) .n])]
def SF:Sx:=sq [.s (.v 25) (.gW (.v 0) 48 (sq [.v 8,.v 30])),.s (.v 26) (.bV .g (.a (.v 0) 36) (sq [.g 6 (sq [.v 25]),.q (.cI 1)])),.i (.m .GtE (.v 26) (.cI 0)) (sq [.cR (.v 11) (.v 30) (.v 26)]) .n]
def Cy:Sx:=sq [.s (.v 9) (.fq .n),.s (.v 10) (.fq .n),.s (.v 11) (.fq .n),.f (.v 12) (.l (.v 8)) SE .n,.s (.v 27) (.fq .n),.f (.v 28) (.l (.v 8)) (sq [.f (.v 29) (.l (.a (.v 28) 9)) (sq [.i (.m .In (.v 29) (.a (.a (.v 0) 30) 19)) (sq [.cR (.v 27) (.v 29) .cN]) .n]) .n]) .n,.f (.v 30) (.l (.v 27)) SF .n,.cR (.v 4) (.v 7) (.v 9),.cR (.v 5) (.v 7) (.v 10),.cR (.v 3) (.v 7) (.v 11),.xB 7 .Add (.cI 1)]
def Kb:Sx:=sq [.s (.v 1) (.a (.a (.v 0) 30) 15),.s (.v 2) (.a (.a (.v 0) 30) 22),.s (.v 3) (.a (.v 0) 33),.s (.v 4) (.a (.v 0) 32),.s (.v 5) (.fq .n),.s (.v 6) (.gW (.v 0) 55 .n),.i (.m .Eq (.a (.v 0) 31) (.cS "LALR")) (sq [.e (.gW (.v 0) 56 (sq [.v 6]))]) .n,.s (.v 7) (.cI 0),.f (.v 8) (.l (.v 6)) Cy .n]
def acD:Sx:=sq [.h (.Bs (.l (.v 0)) (.bV .o (.v 0) (sq [.cI 0])) (.cI 0))]
def Kc:Sx:=sq [.i (.m .NotEq (.b .Mod (.v 5) (.cI 4)) (.cI 3)) (sq [.cR (.v 2) (.d (sq [.v 4,.v 6])) (.b .Mod (.b .Mod (.v 5) (.cI 4)) (.v 1))]) .n,.s (.v 5) (.b .FloorDiv (.v 5) (.cI 4))]
def Ke:Sx:=sq [.s (.v 5) (.g 7 (sq [.v 0])),.i (.m .Eq (.b .Mod (.v 5) (.cI 2)) (.cI 0)) (sq [.e (.bV .a (.v 3) (sq [.v 4]))]) .n,.s (.v 5) (.b .FloorDiv (.v 5) (.cI 2)),.f (.v 6) (.l (.t (sq [.cS "a",.cS "b",.cS "c"]))) Kc .n]
def SG:Sx:=sq [.i (.iZ O (sq [.m .In (.d (sq [.v 4,.v 6])) (.v 2),.m .NotIn (.u (.v 2) (.d (sq [.v 4,.v 6]))) (.v 7)])) (sq [.e (.bV .a (.v 7) (sq [.u (.v 2) (.d (sq [.v 4,.v 6]))]))]) .n]
def SH:Sx:=sq [.f (.v 6) (.l (.t (sq [.cS "a",.cS "b",.cS "c"]))) SG .n]
def Cz:Sx:=sq [.s (.v 1) (.b .Add (.cI 1) (.b .Mod (.g 7 (sq [.v 0])) (.cI 3))),.s (.v 2) (.fq .n),.s (.v 3) (.t .n),.f (.v 4) (.B (.v 1)) Ke .n,.s (.v 7) (.t (sq [.cI 0])),.f (.v 4) (.l (.v 7)) SH .n,.EL 3 (.sj (.v 1) (.v 1) (.v 3) (sq [.m .In (.v 1) (.v 2)]) [U,U,M 7]),.h (.d (sq [.v 2,.v 7,.Bs (.l (.v 3)) (.v 3) (.xA (.v 7) (.q (.cI 1)))]))]
def SJ:Sx:=sq [.i (.iZ O (sq [.m .In (.v 5) (.v 1),.m .NotIn (.v 5) (.v 3),.m .In (.u (.v 0) (.d (sq [.v 5,.v 6]))) (.v 3)])) (sq [.e (.bV .a (.v 3) (sq [.v 5]))]) .n]
def SM:Sx:=sq [.s (.v 3) (.p .i (sq [.v 2])),.f (.v 4) (.B (.cI 3)) (sq [.f (.a [5,6]) (.l (.v 0)) SJ .n]) .n,.h (.v 3)]
def SN:Sx:=sq [.i (.m .In (.v 5) (.v 2)) (sq [.e (.bV .a (.v 6) (sq [.d (sq [.b .Add (.cS "N") (.p .r (sq [.u (.v 1) (.d (sq [.v 5,.v 7]))])),.t (sq [.b .Add (.cS "N") (.p .r (sq [.v 5])),.v 7])])]))]) .n]
def SO:Sx:=sq [.s (.v 9) (.b .Mod (.g 7 (sq [.v 0])) (.b .Add (.p .l (sq [.v 4])) (.cI 1))),.s (.v 4) (.b .Add (.b .Add (.Ig (.v 4) (.v 9)) (.t (sq [.v 8]))) (.xA (.v 4) (.v 9)))]
def FX:Sx:=sq [.s (.v 4) (.t (sq [.d (sq [.cS "N0",.t .n])])),.EL 6 (.sj (.d (sq [.cS "S",.t (sq [.b .Add (.cS "N") (.p .r (sq [.v 1]))])])) (.v 1) (.v 3) .n [U,U,U]),.f (.a [5,7]) (.l (.v 1)) SN .n,.f (.v 8) (.l (.v 6)) SO .n,.h (.v 4)]
def SP:Sx:=sq [.e (.gW (.v 6) 58 (sq [.v 7,.p .i (sq [.v 8])]))]
def SQ:Sx:=sq [.cR (.v 11) (.v 12) (.sj (.v 1) (.v 1) (.t (sq [.cS "a",.cS "b",.cS "c"])) (sq [.m .In (.bV .g (.v 4) (sq [.d (sq [.v 3,.v 1]),.cI 9])) (.v 2)]) [U,U,M 10,M 12,M 2]),.cR (.v 11) (.v 12) (.b .Add (.u (.v 11) (.v 12)) (.Bs (.m .In (.v 12) (.v 4)) (.t (sq [.cS "$end"])) (.t .n)))]
def SR:Sx:=sq [.i (.m .NotEq (.v 13) (.cS "$end")) (sq [.s (.v 20) (.u (.v 2) (.d (sq [.v 12,.v 13]))),.s (.v 21) (.b .Add (.cI 1) (.bV .n (.v 5) (sq [.d (sq [.b .Add (.cS "N") (.p .r (sq [.v 20])),.t (sq [.b .Add (.cS "N") (.p .r (sq [.v 12])),.v 13])])]))),.cR (.u (.v 16) (.v 18)) (.v 13) (.u (.v 19) (.v 13)),.cR (.v 16) (.u (.v 19) (.v 13)) (.EJ (.v 1) (.q (.v 2)) (.v 1) (.u (.v 11) (.v 20)) [U,U,M 21]),.e (.bV .a (.v 17) (sq [.u (.v 19) (.v 13)]))]) .n]
def CA:Sx:=sq [.s (.v 18) (.u (.v 14) (.b .Add (.cS "N") (.p .r (sq [.v 12])))),.e (.bV .a (.v 17) (sq [.v 18])),.s (.v 19) (.u (.a (.v 9) 32) (.v 18)),.i (.m .NotEq (.p .s (sq [.v 19])) (.p .s (sq [.u (.v 11) (.v 12)]))) (sq [.h (.cB Z)]) .n,.cR (.v 16) (.v 18) (.Bs (.m .In (.v 12) (.v 4)) (.fq (.kv (.cS "$end") (.b .Sub (.q (.cI 1)) (.bV .n (.v 5) (sq [.d (sq [.cS "S",.t (sq [.b .Add (.cS "N") (.p .r (sq [.v 12]))])])]))) .n)) (.fq .n)),.f (.v 13) (.l (.u (.v 11) (.v 12))) SR .n]
def i7:Sx:=sq [.EL 1 (.sj (.b .Mod (.v 1) (.cI 720720)) (.v 1) (.Ig (.v 0) (.cI 24)) .n [U,U]),.s (.a [2,3,4]) (.g 8 (sq [.v 1])),.s (.v 5) (.g 10 (sq [.v 1,.v 2,.v 3,.v 4])),.s (.v 6) (.C 4 (sq [.t (sq [.cS "a",.cS "b",.cS "c"])])),.f (.a [7,8]) (.l (.v 5)) SP .n,.e (.gW (.v 6) 59 (sq [.cS "S"])),.s (.v 9) (.C 6 (sq [.v 6,.cS "LALR"])),.s (.v 10) (.g 9 (sq [.v 2,.v 3,.v 4])),.s (.v 11) (.fq .n),.f (.v 12) (.l (.v 10)) SQ .n,.s (.v 14) (.u (.a (.v 9) 33) (.cI 0)),.i (.m .NotEq (.p .s (sq [.v 14])) (.p .s (sq [.b .Add (.t (sq [.cS "S"])) (.sj (.b .Add (.cS "N") (.p .r (sq [.v 1]))) (.v 1) (.v 10) .n [U,U,U])]))) (sq [.h (.cB Z)]) .n,.s (.v 15) (.b .Sub (.q (.cI 1)) (.bV .n (.v 5) (sq [.d (sq [.cS "N0",.t .n])]))),.s (.v 16) (.fq (.kv (.cI 0) (.EJ (.v 1) (.v 2) (.v 1) (.u (.v 11) (.cI 0)) [U,U,M 15]) (.kv (.u (.v 14) (.cS "S")) (.fq (.kv (.cS "$end") (.cI 0) .n)) .n))),.s (.v 17) (.t (sq [.cI 0,.u (.v 14) (.cS "S")])),.f (.v 12) (.l (.v 10)) CA .n,.i (.iZ Z (sq [.m .NotEq (.p .s (sq [.v 17])) (.OQ (.p .l (sq [.v 17]))),.m .NotEq (.a (.v 9) 32) (.v 16)])) (sq [.h (.cB Z)]) .n,.f (.v 18) (.l (.xA (.v 17) (.cI 1))) (sq [.i (.m .NotEq (.u (.a (.v 9) 33) (.v 18)) (.fq .n)) (sq [.h (.cB Z)]) .n]) .n,.h (.iZ O (sq [.m .Eq (.p .l (sq [.a (.v 9) 33])) (.p .l (sq [.v 17])),.m .Eq (.a (.v 9) 41) (.t .n),.m .Eq (.a (.v 9) 42) (.t .n)]))]
def eE(f:aY):NW:=match(ai.lookup f).map Ba with
 |some (.func d)=>d
 |_=>default
def xX(f:aY):List iI:=match(eE f).body with
 |.stmts b=>b
 |_=>[]
abbrev z5(f:aY):Ss:=(eE f).params.args.map (·.arg)
abbrev FY(f:aY):bh:=⟨.type "function",U,.func (eE f),#[]⟩
noncomputable def nmB(xs:Ss)(l:List (aP×vn)):Bool:=xs.zipIdx.all λp=>l[p.2]?==M (p.1,.local)||l[p.2]?==M (p.1,.cell)
def dB(f:aY)(k:Nat)(dv:List aN):Bool:=codeIn ai (eE f).code (eE f).qualname&&(xg ai (.ref f)&&(cQ (z5 f).length (k+dv.length)&&(nmB (z5 f) (eE f).scope.names&&(decide ((eE f).scope.names.map (·.1)).Nodup&&((eE f).scope.kind==.function&&(!(eE f).scope.isCoroutine&&!(eE f).scope.isGenerator))))))
def SS(X:Type)(k:Nat):Type:=NR X (λa T=>aN->T) k
noncomputable def cur{X:Type}(k:Nat):(List aN->X)->SS X k:=NR (motive:=λk=>(List aN->X)->SS X k) (λp=>p []) (λa ih p v=>ih λvs=>p (v::vs)) k
theorem acF{X:Type}:∀{p q:List aN->X},cur k p=cur k q->∀vs,vs.length=k->p vs=q vs:=by
 induction k with
 |zero=>exactλh vs e=>ak (VZ e) h
 |succ k ih=>
  intro p q h vs e;cases vs with
  |nil=>exact ax e (yN k).symm
  |cons v vs=>exact ih (congrFun h v) vs (qK e)
theorem SU{b:Bool}(h:(!b)=O):b=Z:=by
 cases b
 .rfl
 .exact cw h
theorem dOk{f:Nat}(look:ai.lookup f=M (FY f))(hb:dB f k dv=O)
 (eta:eE f=fnX (eE f).name (eE f).qualname (eE f).params (xX f) (eE f).scope [] (eE f).defaults (eE f).kwdefaults (eE f).doc (eE f).pyModule (eE f).annotations (eE f).code (eE f).closureTuple)
 (bind:(λS=>cur k λvs=>peek ai S (Xx (eE f) ⟨vs,[]⟩))=λS=>cur k λvs=>M ((z5 f).zip (vs++dv))):jN (eE f) (FY f) (xX f) (z5 f) dv f k:=
 have h:=dH.mp hb;have h2:=dH.mp h.2
 have h3:=dH.mp h2.2;have h4:=dH.mp h3.2
 have h5:=dH.mp h4.2;have h6:=dH.mp h5.2
 have h7:=dH.mp h6.2
 ⟨look,Y,eta,h.1,h2.1,λs vs hK hl=>kp_binds hK λS=>acF (congrFun bind S) vs hl,Wg h3.1,λj x e=>(D5.mp (qa.mp h4.1 (x,j) (MX.mpr e))).imp bq bq,aB h5.1,bq h6.1,SU h7.1,SU h7.2⟩
def FZ(f k:Nat)(dv:List aN):=(ai.lookup f,dB f k dv,eE f,λS=>cur k λvs=>peek ai S (Xx (eE f) ⟨vs,[]⟩))
def F1(f k:Nat)(dv:List aN):=(M (FY f),O,fnX (eE f).name (eE f).qualname (eE f).params (xX f) (eE f).scope [] (eE f).defaults (eE f).kwdefaults (eE f).doc (eE f).pyModule (eE f).annotations (eE f).code (eE f).closureTuple,λa:Setting=>cur k λvs=>M ((z5 f).zip (vs++dv)))
theorem SV{f:Nat}(h:FZ f k dv=F1 f k dv):jN (eE f) (FY f) (xX f) (z5 f) dv f k:=
 have h:=bS h;have h2:=bS h.2
 have h3:=bS h2.2
 dOk h.1 h2.1 h3.1 h3.2
theorem CC{f:Nat}{dx:Vs}(hd:∀W D',bL (VR W D') dv dx)(h:(FZ f k dv,(ck ast (eE f).scope (.c (xX f))).isSome)=(F1 f k dv,O)):eV f k ast dx:=⟨_,_,_,_,_,SV (bS h).1,hd,dg _ (bS h).2⟩
theorem hO{f:Nat}(h:(FZ f k [],(ck ast (eE f).scope (.c (xX f))).isSome)=(F1 f k [],O)):eV f k ast []:=CC (dv:=[]) (λa a=>.gO) h
noncomputable def acH(k:∀b c d a,DP (PE (.Lambda a b c d)))(x:bU):DP (PE x):=cc λh=>alG x h λa b c d=>k b c d a
noncomputable def acI{P:Hw->Prop}(k:∀px,DP (P (JR px)))(x:Hw):DP (P x):=match x with|⟨[],[⟨y,U,px⟩],U,[],[],U,[]⟩=>if h:y=bo "x" then h▸k px else U|_=>U
def SX{P:iI->Prop}{sc:dY}{i:Nat}{e:Sx}{bZ:List (Option Nat)}(k:∀pos s,FU sc i e bZ pos s->DP (P s)):∀x,DP (P x):=ui λp v=>ir λpy y=>by
 revert v;refine acH λbody scope pos=>acI λpx=>?_;exact match(dn (db _) (dn (db _) (dn (ck _ _ _) (dn (db _) (dn (db _) (dn (dN _) (dN _)))))):DP (od sc i y=O/\y9 sc scope bZ=O/\Ck e scope (.e body)/\(cx scope 0==bo "x")=O/\(scope.names.lookup (bo "x")==M .local)=O/\scope.isCoroutine=Z/\scope.isGenerator=Z))with
 |some h=>k pos _ ⟨y,py,px,body,scope,p,Y,h.1⟩
 |none=>U
def acJ(sc:dY)(d:L3):∀l,DP (JT sc d l):=lc λs1 r=>by revert s1;refine SX (sc:=sc) (i:=d.i1) (e:=d.e1) (bZ:=d.nh) λCq s1 h1=>?_;revert r;refine lc λs2 r=>?_;revert s2;refine SX (sc:=sc) (i:=d.i2) (e:=d.e2) (bZ:=d.nr) λCr s2 h2=>?_;revert r;refine lc λs3 r=>?_;revert s3;refine ui λp3 v=>ir λCs x3=>?_;revert v;refine oO λpc va=>ir λpg g=>?_;revert r;refine l1 (OY λp4 v4=>?_);exact d5 (d5 (d3 (dr (dn (M ⟨h1⟩) (dn (M ⟨h2⟩) (dn (db _) (dn (db _) (dn (db _) (dn (ck _ _ _) (dn (xD _) (dn (sw _) (dn (ck _ _ _) (dN _)))))))))))))
theorem SY{f:Nat}(h:(FZ f k [],(eE f).code,(acJ (eE f).scope d (xX f)).isSome)=(F1 f k [],.ref c,O)):Ct f k c d:=⟨_,_,_,_,SV (bS h).1,(bS (bS h).2).1,dg _ (bS (bS h).2).2⟩
theorem acK:eV (bJ 1) 1 aci []:=hO (by kernel_rfl)
theorem acL:eV (bJ 20) 4 JU [V.bP [.s "right",.i 0],.n,.s "",.i 0]:=CC (dv:=[vR 54,.none,vS "" 251,vI 0 252]) (λa a=>.gE (VR.kJ.mpr ⟨54,[vS "right" 249,vI 0 250],Y,⟨.inr (by kernel_rfl),ao Y⟩,.gE ⟨249,Y,by decide+kernel⟩ (.gE ⟨250,Y⟩ .gO)⟩) (.gE Y (.gE ⟨251,Y,by decide+kernel⟩ (.gE ⟨252,Y⟩ .gO)))) (by kernel_rfl)
theorem acM:eV (bJ 21) 1 acj []:=hO (by kernel_rfl)
theorem acN:eV (bJ 22) 3 ack []:=hO (by kernel_rfl)
theorem acO:eV (bJ 3) 2 acm []:=hO (by kernel_rfl)
theorem acP:eV (bJ 23) 2 acn []:=hO (by kernel_rfl)
theorem acQ:eV (bJ 25) 3 aco [.n,.s "",.i 0]:=CC (dv:=[.none,vS "" 448,vI 0 449]) (λa a=>(.gE Y (.gE ⟨_,Y,by decide+kernel⟩ (.gE ⟨_,Y⟩ .gO)))) (by kernel_rfl)
theorem acR:eV (bJ 27) 2 acq []:=hO (by kernel_rfl)
theorem acS:eV (bJ 28) 1 acr []:=hO (by kernel_rfl)
theorem acT:eV (bJ 29) 1 acs [.n]:=CC (dv:=[.none]) (λa a=>(.gE Y .gO)) (by kernel_rfl)
theorem acU:eV (bJ 30) 1 acu []:=hO (by kernel_rfl)
theorem acV:eV (bJ 4) 3 Sj []:=hO (by kernel_rfl)
theorem acW:eV (bJ 5) 7 J5 []:=hO (by kernel_rfl)
theorem Kf:eV (bJ 6) 1 acv []:=hO (by kernel_rfl)
theorem SZ:eV (bJ 32) 2 acw []:=hO (by kernel_rfl)
theorem S0:eV (bJ 33) 3 J8 []:=hO (by kernel_rfl)
theorem acX:eV (bJ 34) 1 FW []:=hO (by kernel_rfl)
theorem acY:eV (bJ 35) 1 acx []:=hO (by kernel_rfl)
theorem acZ:eV (bJ 36) 2 acy []:=hO (by kernel_rfl)
theorem ac0:eV (bJ 37) 4 acz []:=hO (by kernel_rfl)
theorem ac1:eV (bJ 38) 4 acA []:=hO (by kernel_rfl)
theorem ac2:eV (bJ 39) 4 acB []:=hO (by kernel_rfl)
noncomputable def ac3:L3:=⟨4,(.gW (.v 3) 61 (.c (.v 1) (.c (.v 0) (.c (.v 2) .n)))),[U,M 1,M 3,M 0],5,(.gW (.v 3) 62 (.c (.v 1) (.c (.v 0) (.c (.v 2) .n)))),[U,M 1,M 3,M 0],6,4,2⟩
theorem ac4:Ct (bJ 40) 4 395 ac3:=SY (by kernel_rfl)
noncomputable def ac5:L3:=⟨4,(.u (.v 1) (.v 0)),[U,M 2],5,(.bV .g (.v 1) (.c (.v 0) (.c (.t .n) .n))),[U,M 3],6,4,1⟩
theorem ac6:Ct (bJ 41) 4 402 ac5:=SY (by kernel_rfl)
theorem ac7:eV (bJ 42) 3 SD []:=hO (by kernel_rfl)
theorem ac8:eV (bJ 43) 2 acC []:=hO (by kernel_rfl)
theorem ac9:eV (bJ 44) 1 Kb []:=hO (by kernel_rfl)
theorem ac':eV (bJ 7) 1 acD []:=hO (by kernel_rfl)
theorem ada:eV (bJ 8) 1 Cz []:=hO (by kernel_rfl)
theorem adb:eV (bJ 9) 3 SM []:=hO (by kernel_rfl)
theorem ade:eV (bJ 10) 4 FX []:=hO (by kernel_rfl)
theorem adf:eV (bJ 11) 1 i7 []:=hO (by kernel_rfl)
theorem adg:eV (bJ 20) 8 JU []:=hO (by kernel_rfl)
theorem adh:eV (bJ 26) 2 acp []:=hO (by kernel_rfl)
theorem adi:eV (bJ 31) 3 z4 [.n]:=CC (dv:=[.none]) (λa a=>(.gE Y .gO)) (by kernel_rfl)
theorem adj:nsIn (K0 w0.params++Z0) mj "__builtins__"=M (M (.ref 4)):=by kernel_rfl
def vV(c:aY):Array aN:=match(ai.lookup c).map Ba with
 |some (.fields v)=>v
 |_=>#[]
theorem S5{c P:aY}{tf:nX}(k:ai.lookup c=M (oF (vY "code") (vV c)))(k1:((vV c)[11]?,(vV c).getD 11 .none,(vV c).getD 18 .none,(vV c).getD 7 .none,(vV c).getD 9 .none,(vV c).getD 10 .none,ai.lookup 4)=(M (.ref P),.ref P,fS tf,vI 3 0,vT O,vI 181 0,M (boot_o_4 w0.params)))(k7:c≠P)
 (g:mj≠P)(b4:4≠P):qm c P:=by
 obtain⟨k1,k2,k3,k4,k5,k6,hb⟩:=bS k1|>.imp id λh=>bS h|>.imp id λh=>bS h|>.imp id λh=>bS h|>.imp id λh=>bS h|>.imp id λh=>bS h;exact⟨λh X=>⟨_,vV c,_,tf,3,0,O,181,0,X _ _ k,Y,Y,k1,k2,k3,k4,k5,k6,k7⟩,λh mg X G=>⟨4,_,mg_of X G adj,ao Y,ao Y,b4,X _ _ hb,by kernel_rfl,by kernel_rfl,by kernel_rfl⟩,g⟩
theorem S6:qm 395 391:=S5 (tf:=806) (by kernel_rfl) (by kernel_rfl) (ao Y) (ao Y) (ao Y)
theorem S7:qm 402 398:=S5 (tf:=821) (by kernel_rfl) (by kernel_rfl) (ao Y) (ao Y) (ao Y)
noncomputable def mix(R:Nl)(u h:Hp):Hp:=λl=>bif R.contains l.1 then u l else h l
noncomputable def aU(R:Nl)(u m:Mp):Mp:=λi=>bif R.contains i then u i else m i
abbrev Nx(n:Nat)(r:Sx)(Q:QF):QF:=λg K=>Fw.rec (motive:=λd=>Prop) (WB n r Q K) (Q .b K) (Q .c K) (λv=>Q (.r v) K) g
variable{Q:QF} {E:QV} {t a es:Sx} {c:Bool} {ob:af}
section
variable{o:Sx} {ai:QA} {ds:Es}
theorem ry{R:Nl}:h=mix R h h:=funext λl=>by unfold mix;cases R.contains l.1<;>rfl
theorem bA{R:Nl}{u:Hp}(hl:R.contains l.1=O):(mix R u h).aF l ob=mix R (u.aF l ob) h:=funext λk=>by
 unfold mix Hp.aF;by_cases e:k=l
 .rw[aw e,e,hl,aw Y];rfl
 .rw[av e,av e]
theorem kQ{R:Nl}(hl:R.contains l.1=O):h.aF l ob=mix R (h.aF l ob) h:=(aq (λx:Hp=>x.aF l ob) ry).trans (bA hl)
theorem gG{R R':Nl}{u v:Hp}(s:R'.all R.contains=O):mix R' v (mix R u h)=mix R (mix R' v u) h:=funext λk=>by
 unfold mix;cases q:R'.contains k.1 with
 |false=>rfl
 |true=>rw[qa.mp s _ (iT.mp q)];rfl
theorem re(h:RE K e x)(q:E x K):WE n e E K:=h n _ q
theorem rl{P:Vs->QA}(h:RL K es xs)(q:P xs K):WL n es P K:=h n _ q
theorem eF(h:RE K e x)(k:WB n r Q (K.eR i x)):WB n (.c (.s (.v i) e) r) Q K:=fW (PM (h n _ k))
theorem cj(h:WE n e (λx aS=>WB n r Q (aS.eR i x)) K):WB n (.c (.s (.v i) e) r) Q K:=fW (PM h)
theorem jO(h:RE K e x)(k:Q (.r x) K):WB n (.c (.h e) r) Q K:=d7 (PJ (h n _ k))
theorem CD(h:WE n e (λx aS=>Q (.r x) aS) K):WB n (.c (.h e) r) Q K:=d7 (PJ h)
theorem pK(h:WE n e (λa aS=>WB n r Q aS) K):WB n (.c (.e e) r) Q K:=fW (Zd h)
theorem z6(q:Q .c K):WB n (.c .w r) Q K:=d7 (Zb q)
theorem vW(q:Q .b K):WB n (.c .z r) Q K:=d7 (Za q)
theorem S8{a:Nat}(he:RE K e y)(ho:RE K o (.e l))(hl:K.h l=M (.i k f))(d:kq k a=O)(q:WB n r Q (K.aF l (.i k (aH f a y)) K.t)):WB n (.c (.cW o a e) r) Q K:=fW (IK (he n _ (ho n _ (su hl d q))))
theorem CE{a:Nat}(he:WE n e (λy K=>WE n o (λx cf=>BO x a y (WB n r Q) cf) K) K):WB n (.c (.cW o a e) r) Q K:=fW (IK he)
theorem xY(he:RE K e z)(ho:RE K o (.e l))(hi:RE K a y)(hl:K.h l=M (.d ds))(kx:y.cn 7=O)(hz:ds.length<16777216)(q:WB n r Q (K.aF l (.d (cC ds y z)) K.t)):WB n (.c (.cR o a e) r) Q K:=fW (pE (he n _ (ho n _ (hi n _ (rj hl kx hz q)))))
theorem kU(h:RT K t c)(ha:c=O->WB n a (Nx n r Q) K)(hb:c=Z->WB n b (Nx n r Q) K):WB n (.c (.i t a b) r) Q K:=d7 (oT (h n _ (by
 cases c
 .exact hb Y
 .exact ha Y)))
theorem iN(h:RT K t O)(ha:WB n a (Nx n r Q) K):WB n (.c (.i t a b) r) Q K:=d7 (oT (h n _ ha))
theorem i8(h:RT K t Z)(hb:WB n b (Nx n r Q) K):WB n (.c (.i t a b) r) Q K:=d7 (oT (h n _ hb))
def Kh(N:Nat)(I:Nat->QA)(j:Nat):QA:=if j<=N then I j elseλa=>False
theorem lV{tg:Tg}{G:QF}(xs:Vs)(I:Nat->QA)(hS:∀i K,I i K->S i K.h xs[i]?)(i0:I 0 K)(step:∀j v K,xs[j]?=M v->I j K->ur tg v (WB n b (Fw.lp (I (j+1)) G)) K)(fin:∀K,I xs.length K->WB n o G K):
 ∃(I:Nat->QA)(N:Nat),I 0 K/\∀i K,I i K->(S i K.h U/\WB n o G K)\/∃v,S i K.h (M v)/\i<N/\ur tg v (λaZ=>WB n b (Fw.lp (I (i+1)) G) aZ) K:=by
 have e:∀{j},j<=xs.length->Kh xs.length I j=I j:=λh=>aw h;refine⟨Kh xs.length I,xs.length,aj (e (b7 _)) i0,λj K J=>?_⟩;by_cases le:j<=xs.length
 .rw[e le]at J;have s:=hS j K J
  cases hv:xs[j]? with
  |none=>exact .inl ⟨aj hv s,fin K (aj (w9 le (mN.mp hv)) J)⟩
  |some v=>have lt:=(cV.mp hv).1;exact .inr ⟨v,aj hv s,lt,aj (e lt).symm (step j v K hv J)⟩
 .unfold Kh at J;rw[av le]at J;exact J.elim
theorem gw(vs:Vs)(I:Nat->QA)(he:RE K e (.e l))(hl:∀j K,I j K->K.h l=M (.l vs))(i0:I 0 K)(step:∀j v K,vs[j]?=M v->I j K->WB n b (Fw.lp (I (j+1)) (Nx n r Q)) (K.eR i v))(fin:∀K,I vs.length K->WB n r Q K):WB n (.c (.f (.v i) (.l e) b .n) r) Q K:=
 d7 (kO (oi (re he (mH (hl 0 K i0) (lV (tg:=.v i) vs I (λi K J=>⟨vs,hl i K J,Y⟩) i0 step λK J=>aO (fin K J))))))
theorem adk(vs:Vs)(I:Nat->QA)(he:RE K e (V.bP vs))(i0:I 0 K)(step:∀j v K,vs[j]?=M v->I j K->WB n b (Fw.lp (I (j+1)) (Nx n r Q)) (K.eR i v))(fin:∀K,I vs.length K->WB n r Q K):WB n (.c (.f (.v i) (.l e) b .n) r) Q K:=
 d7 (kO (oi (re he (I8 (lV (tg:=.v i) vs I (λi K J=>Y) i0 step λK J=>aO (fin K J))))))
theorem S9{i':Nat}(vs:Vs)(I:Nat->QA)(he:RE K e (.e l))(hl:∀j K,I j K->K.h l=M (.l vs))(i0:I 0 K)(step:∀j v K,vs[j]?=M v->I j K->WB n b (Fw.lp (I (j+1)) (Nx n r Q)) ((K.eR i (.i j)).eR i' v))(fin:∀K,I vs.length K->WB n r Q K):WB n (.c (.f (.a [i,i']) (.A e) b .n) r) Q K:=
 d7 (kO (Qi (re he (Z6 (hl 0 K i0) (lV (tg:=.a [i,i']) (vs.mapIdx λj v=>V.bP [.i (j:Nat),v]) I (λj K J=>⟨vs[j]?,⟨vs,hl j K J,Y⟩,M8⟩) i0 (λj v K hv J=>by rw[M8]at hv;obtain⟨x,hx,rfl⟩:=DY.mp hv;exact⟨_,Y,Y,step j x K hx J⟩) λK J=>aO (fin K (by rwa [ajk]at J)))))))
theorem sH(I:Nat->QA){m₀:Nat}(i0:I m₀ K)(turn:∀m K,I m K->∃c,RT K t c/\(c=O->WB n a (Fw.lp (λK=>∃m',m'<m/\I m' K) (Nx n r Q)) K)/\(c=Z->WB n r Q K)):WB n (.c (.pC t a .n) r) Q K:=
 d7 (IL I i0 λm K J=>(turn m K J).elim λc k=>k.1 n _ (by
  cases c
  .exact aO (k.2.2 Y)
  .exact k.2.1 Y))
theorem Ki{m:Mp}:aH (aH m i x) i y=aH m i y:=funext λj=>by
 unfold aH;by_cases e:j=i
 .rw[aw e,aw e]
 .rw[av e,av e,av e]
theorem gH{R:Nl}{m:Mp}:m=aU R m m:=funext λj=>by unfold aU;cases R.contains j<;>rfl
theorem bH{R:Nl}{u m:Mp}(hl:R.contains i=O):aH (aU R u m) i x=aU R (aH u i x) m:=funext λk=>by
 unfold aU aH;by_cases e:k=i
 .rw[aw e,e,hl,aw Y];rfl
 .rw[av e,av e]
theorem CG(h:RE K e x)(g:∀n Q,Q y K->OL n (.builtin "len") [x] Q K):RE K (.p .l (.c e .n)) y:=λn Q q=>mG Y (a6 h br n _ (g n Q q))
theorem vX(h:RE K e (.e l))(hl:K.h l=M (.l vs)):RE K (.p .l (.c e .n)) (.i vs.length):=CG h λn Q q=>YS hl q
theorem F2(h:RE K e (V.bP vs)):RE K (.p .l (.c e .n)) (.i vs.length):=CG h λn Q q=>Zk q
theorem xZ(ha:RE K a (.e l))(hl:K.h l=M (.l vs))(hb:RE K b (.i j))(hj:vs[j]?=M z):RE K (.u a b) z:=dU ha hb (Pc hl hj)
theorem x4(ha:RE K a (V.bP vs))(hb:RE K b (.i j))(hj:vs[j]?=M z):RE K (.u a b) z:=dU ha hb (EY hj)
theorem z8(ha:RE K a x)(hb:RE K b (.e l))(hl:K.h l=M (.d ds))(kx:x.cn 7=O):RT K (.m .In a b) (bM ds x).isSome:=aj (yP (bM ds x).isSome) (fu ha hb (in_dict (n:=Z) hl kx))
theorem F3(ha:RE K a x)(hb:RE K b (.e l))(hl:K.h l=M (.d ds))(kx:x.cn 7=O):RT K (.m .NotIn a b) (!(bM ds x).isSome):=aj (A4 (bM ds x).isSome) (fu ha hb (in_dict (n:=O) hl kx))
theorem CH(ha:RE K a x)(hb:RE K b (.e l))(hl:K.h l=M (.l vs))(kv:∀y∈vs,y.cn 7=O)(kx:x.cn 7=O):RT K (.m .NotIn a b) (!decide (x∈vs)):=aj (A4 (decide (x∈vs))) (fu ha hb (in_list (n:=O) hl kv kx))
end
theorem dA{f:α->β}{l:List α}{y:β}(h:(l.map f)[j]?=M y):∃x,l[j]?=M x/\f x=y:=DY.mp (aj kG h)
theorem iO{f:α->β}{l:List α}{x:α}(h:l[j]?=M x):(l.map f)[j]?=M (f x):=kG.trans (aq (Nu f) h)
theorem lW{l:List α}(h:j<l.length):∃x,l[j]?=M x:=⟨l[j],mO h⟩
theorem succ_sub(m:Nat):((m+1:Nat):Int)-1=(m:Int):=Int.add_sub_cancel (m:Int) 1
theorem adl{ds:Es}{ls ld:Loc}{t:Nat}{Q:RQ}(hl:h ls=M (.l (ss.map .s)))(hd:h ld=M (.d ds))(q:∀v:V,v.cn 7=O->Q v h t):bI (n+1) (bJ 3) [.e ls,.e ld] Q h t:=
 fP acO Y (eF (jC (vX (aE Y) hl) bW vH) (sH (m₀:=(ss.map V.s).length) (λm K=>m<=(ss.map V.s).length/\K=⟨aH (λi=>[V.e ls,.e ld][i]?) 2 (.i ((m:Int)-1)),h,t⟩) ⟨dj _,Y⟩ λm K I=>by
  obtain⟨le,rfl⟩:=I;refine⟨_,fu (aE Y) bW E4,λhc=>?_,λa=>jO vG (q _ Y)⟩;cases m with
  |zero=>exact cw hc
  |succ j=>
   rw[succ_sub];obtain⟨x,hx⟩:=lW le;obtain⟨z,hz,rfl⟩:=dA hx;have rs:RE ⟨aH (λi=>[V.e ls,.e ld][i]?) 2 (.i j),h,t⟩ (.u (.v 0) (.v 2)) (.s z):=xZ (aE Y) hl (aE Y) hx
   exact kU (z8 rs (aE Y) hd Y) (λa=>jO rs (q _ Y)) λa=>aO (fW (BS Y (bW n _ ⟨_,Zg,aO ⟨j,jd j,gB le,aq (AS.mk · h t) Ki⟩⟩)))))
variable{Q:QV} {t:Tg} {ys:Vs} {τ:Nat} {m:Mp} {w:aP}
section
variable{o:af} {ai:Hp->Nat->Prop}
theorem Aa:(bz k).1≠0:=show(99:Nat)≠0 by decide
theorem kC(q:Q (.e (bz K.t)) (K.aF (bz K.t) o (K.t+1))):alloc o Q K:=⟨_,_,.inl ⟨Y,Y⟩,q⟩
noncomputable def rg(l:Loc):Bool:=Xw 1 l.1&&Xw l.1 98
theorem F4(h:rg l=O):l.1≠0:=λe=>dI 0 (gc (nK (dH.mp h).1) (fR e))
theorem dF(l:Loc)(r:rg l=O)(f:K.h l=U)(q:Q (.e l) (K.aF l o K.t)):alloc o Q K:=⟨l,_,.inr ⟨F4 r,λe=>dI 98 (gc (jd 98) (aL (fR e.symm) (nK (dH.mp r).2))),f,Y⟩,q⟩
theorem take_snoc{l:List α}{x:α}(h:l[j]?=M x):l.take (j+1)=l.take j++[x]:=by rw[List.take_succ,h];rfl
theorem CM{g:α->Option β}{v:α}:[v].filterMap g=(g v).toList:=by rw[G3];cases g v<;>rfl
theorem Kj(xs:Vs)(g:V->Option V)(rm:oN K l t')(hS:∀ys i,S i (K.h.aF l (.l ys)) xs[i]?)
 (body:∀v∈xs,∀ys ai,ys.length<=xs.length->ai (K.h.aF l (.l (ys++(g v).toList))) t'->ur t v (LB elt cs l ai) ⟨j7 K.m bZ,K.h.aF l (.l ys),t'⟩)(q:Q (.e l) (K.aF l (.l (xs.filterMap g)) t')):CQ (.l []) t bZ (LB elt cs) Q S K:=
 ⟨l,t',rm,l,Y,xs.length,λi h τ=>h=K.h.aF l (.l ((xs.take i).filterMap g))/\τ=t',⟨Y,Y⟩,λi h τ I=>by
  obtain⟨rfl,rfl⟩:=I;have s:=hS ((xs.take i).filterMap g) i
  cases hv:xs[i]? with
  |none=>exact .inl ⟨aj hv s,aj (yI (mN.mp hv)).symm q⟩
  |some v=>exact .inr ⟨v,aj hv s,(cV.mp hv).1,body v (bE hv) _ _ (aL (jF ..) (iG ..)) ⟨by rw[take_snoc hv,D1,CM],Y⟩⟩⟩
theorem F5(l0:l.1≠0)(z:ys.length<16777216)(he:RE ⟨m,h.aF l (.l ys),τ⟩ elt y)(k:ai (h.aF l (.l (ys++[y]))) τ):LB elt .n l ai ⟨m,h.aF l (.l ys),τ⟩:=⟨l0,QC (he 0 _ ⟨ys,a4,z,aj mI.symm k⟩)⟩
theorem Ta(l0:l.1≠0)(z:ys.length<16777216)(hc:RT ⟨m,h.aF l (.l ys),τ⟩ e c)(he:RE ⟨m,h.aF l (.l ys),τ⟩ elt y)(k:ai (h.aF l (.l (ys++(bif c then M y else U).toList))) τ):LB elt (.c e .n) l ai ⟨m,h.aF l (.l ys),τ⟩:=⟨l0,aau (hc 0 _ (by
 cases c
 .exact aj (hY ys) k
 .exact he 0 _ ⟨ys,a4,z,aj mI.symm k⟩))⟩
end
def Ab(s:aP):Prop:=0<s.length/\s.length<=1000/\s.cps.all (·<128)=O/\∀c∈s.cps.toList,zA ⟨#[c]⟩ Ir=O
theorem Tb{s:aP}{t:Nat}{Q:RQ}(hs:Ab s)(q:∀u,Q (.o O) (mix [99] u h) (t+1)):bI (n+1) (bJ 1) [.s s] Q h t:=by
 have z:(s.cps.toList.map λc=>V.s ⟨#[c]⟩).length<=1000:=by rw[bc,M9];exact hs.2.1
 refine fP acK Y (CD (Q5 (JA (Pg (CG (aE Y) λn Q q=>aaQ (aL hs.2.1 (ao Y)) q) bW Ph n _ ⟨_,mE,?_⟩))));rw[show decide ((0:Int)<(s.length:Nat))=O from az (Int.natCast_pos.mpr hs.1)]
 refine Q6 (mG Y (eC (B6 (aE Y n _ (Z5 hs.2.2.1 (Kj (s.cps.toList.map λc=>.s ⟨#[c]⟩) (λb=>M (.o O)) (.inl ⟨Y,Y⟩) (λys i=>(kG.trans (aq _ tU)).symm) (λv hv ys ai le k=>?_) (eB (aaI (bs:=Np s.cps.toList.length O) ?_ ?_))))))))
 .obtain⟨c,hc,rfl⟩:=bk.mp hv;exact F5 Aa (bF le (bF z (ao Y))) (Pg (aE Y) Yw (in_str (n:=Z))) (aj (hs.2.2.2 c hc).symm k)
 .refine a4.trans (aq (λx=>M (af.l x)) ?_);rw[ajl,List.map_replicate];exact(congrFun (M7 (f:=λb=>V.o O)) _).trans List.map_const'
 .rw[List.all_replicate,show(if s.cps.toList.length=0 then O else id O)=O by split<;>rfl]
  exact(show Q _ (h.aF (bz t) _) _ by rw[kQ (R:=[99]) (l:=bz t) (h:=h) Y];exact q _)
variable{a:Nat} {Q:QF} {i5:af} {t:Nat}
section
variable{o:Sx}
theorem CN(ne:l'≠l):(h.aF l ob).aF l' i5=(h.aF l' i5).aF l ob:=funext λk=>by
 unfold Hp.aF;by_cases e:k=l'
 .rw[aw e,av (e▸ne),aw e]
 .rw[av e,av e]
theorem bf(h:cQ l.1 l'.1=Z):l≠l':=λe=>by rw[e,xa]at h;exact cw h
theorem vZ(ne:l'≠l):((h.aF l' ob).aF l i5) l'=M ob:=(aQ ne).trans a4
theorem put3{CO:af}(ne:l'≠l):((h.aF l ob).aF l' i5).aF l CO=(h.aF l' i5).aF l CO:=by rw[CN ne,mI]
theorem Tc{CO:af}(ne:l'≠l):((h.aF l' ob).aF l i5).aF l' CO=(h.aF l' CO).aF l i5:=by rw[CN ne,mI]
theorem jP{m':Mp}(e:m=m')(e':h=h'):(⟨m,h,t⟩:AS)=⟨m',h',t⟩:=by rw[e,e']
theorem x5{p:Prop} [Decidable p](h:(!decide p)=O):¬p:=λw=>by rw[az w]at h;exact cw h
theorem Ac{p:Prop} [Decidable p](h:(!decide p)=Z):p:=Wk.mp λw=>by rw[aA w]at h;exact cw h
theorem jo(d:kq k a=O)(he:RE ⟨m,h.aF l (.i k f),t⟩ e y)(ho:m i=M (.e l))(q:WB n r Q ⟨m,h.aF l (.i k (aH f a y)),t⟩):WB n (.c (.cW (.v i) a e) r) Q ⟨m,h.aF l (.i k f),t⟩:=S8 he (aE ho) a4 d (show WB n r Q ⟨m,(h.aF l (.i k f)).aF l _,t⟩ from aj mI.symm q)
theorem Td(l':Loc)(d:kq k a=O)(he:RL ⟨m,h.aF l (.i k f),t⟩ es xs)(z:xs.length<=16777216)(ho:m i=M (.e l))(rl:rg l'=O)(ne:l'≠l)(fr:h l'=U)(q:WB n r Q ⟨m,(h.aF l' (.l xs)).aF l (.i k (aH f a (.e l'))),t⟩):WB n (.c (.cW (.v i) a (.t es)) r) Q ⟨m,h.aF l (.i k f),t⟩:=
 CE (fw (jy.Lean.rl he ⟨z,dF l' rl ((aQ ne).trans fr) (re (aE ho) (su (f:=f) ((aQ ne.symm).trans a4) d (show WB n r Q ⟨m,((h.aF l (.i k f)).aF l' (.l xs)).aF l _,t⟩ from aj (put3 ne).symm q)))⟩))
theorem CP(l':Loc)(d:kq k a=O)(ho:m i=M (.e l))(rl:rg l'=O)(ne:l'≠l)(fr:h l'=U)(q:WB n r Q ⟨m,(h.aF l' (.l [])).aF l (.i k (aH f a (.e l'))),t⟩):WB n (.c (.cW (.v i) a (.t .n)) r) Q ⟨m,h.aF l (.i k f),t⟩:=Td l' d br (b7 _) ho rl ne fr q
theorem wc(l':Loc)(d:kq k a=O)(ho:m i=M (.e l))(rl:rg l'=O)(ne:l'≠l)(fr:h l'=U)(q:WB n r Q ⟨m,(h.aF l' (.d [])).aF l (.i k (aH f a (.e l'))),t⟩):WB n (.c (.cW (.v i) a (.fq .n)) r) Q ⟨m,h.aF l (.i k f),t⟩:=
 CE (kP (dF l' rl ((aQ ne).trans fr) (aE ho n _ (su (f:=f) ((aQ ne.symm).trans a4) d (show WB n r Q ⟨m,((h.aF l (.i k f)).aF l' (.d [])).aF l _,t⟩ from aj (put3 ne).symm q)))))
theorem F6(ho:RE K o (.e l))(he:RE K e y)(l0:l.1≠0)(hl:K.h l=M (.l vs))(z:vs.length<16777216)(q:WB n r Q (K.aF l (.l (vs++[y])) K.t)):WB n (.c (.e (.bV .a o (.c e .n))) r) Q K:=
 pK (iu (re ho ⟨_,II hl,jy.Lean.rl (a6 he br) (Fd l0 hl z q)⟩))
theorem Kk(ho:RE K o (.e l))(he:RE K e y)(l0:rg l=O)(hl:K.h l=M (.l vs))(z:vs.length<16777216)(q:WB n r Q (K.aF l (.l (vs++[y])) K.t)):WB n (.c (.e (.bV .a o (.c e .n))) r) Q K:=F6 ho he (F4 l0) hl z q
end
noncomputable def cX(l:Ss)(a:aP):Ss:=if a∈l then l else l++[a]
theorem qn{l:Ss}{a:aP}(h:a∉l):cX l a=l++[a]:=av h
theorem qo{l:Ss}{a:aP}(h:a∈l):cX l a=l:=aw h
noncomputable def dd(l:Ss):Ss:=l.foldl cX []
theorem wd{a:aP}{l:Ss}:V.s a∈l.map V.s↔a∈l:=⟨λh=>(bk.mp h).elim λb q=>by cases q.2;exact q.1,λh=>dw h⟩
theorem Kl{l:Ss}:∀y∈l.map V.s,y.cn 7=O:=λy h=>(bk.mp h).elim λb q=>aj q.2 Y
theorem x6{l:Ss}{a:aP}:(cX l a).length<=l.length+1:=by
 unfold cX
 split
 .exact jI _
 .rw[dW];exact dj _
theorem Te{l:Ss}{a:aP}(h:l[j]?=M a):dd (l.take (j+1))=cX (dd (l.take j)) a:=by unfold dd;rw[take_snoc h,u7];rfl
theorem qr{l:Ss}:(dd l).length<=l.length:=by
 unfold dd;have:∀(l k:Ss),(l.foldl cX k).length<=k.length+l.length:=λl=>by
  induction l with
  |nil=>exactλk=>dj _
  |cons a l ih=>exactλk=>aL (ih _) (by rw[oE,nU l.length,<-nO];exact pz x6 _)
 exact aL (this l []) (fR (sf _))
noncomputable def jn(ss:Ss):aP:=Xt " " ss
def x7(nm:aP)(ss:Ss):Prop:=ss.length<=100/\nm.length<=1000/\(ss.map (·.length)).sum<=1000/\kH (jn ss)=O/\kH (fU++nm++" -> "++jn ss)=O/\(fU++nm++" -> "++jn ss).length<=16777216/\(fU++nm++" -> ").length<=16777216/\(fU++nm).length<=16777216/\(jn ss).length<=16777216
def qs(p:Nat)(nm:aP)(ss:Ss)(prec line:V)(f:Mp):Prop:=f 0=M (.s nm)/\f 1=M (V.bP (ss.map .s))/\f 2=M (.i p)/\f 6=M line/\f 7=M prec/\f 8=M (.i ss.length)/\f 9=M (.e (3,[p]))/\f 46=U/\f 57=U/\f 27=U
theorem Tf{p:Nat}{ls:Loc}{prec fn fl li:V}{Q:RQ}(z:x7 nm ss)(hl:h ls=M (.l (ss.map .s)))(nl:ls≠(2,[p]))(h3:h (3,[p])=U)(h7:h (7,[p])=U)
 (m0:m 0=M (.e (2,[p])))(m1:m 1=M (.i p))(m2:m 2=M (.s nm))(m3:m 3=M (.e ls))(m4:m 4=M prec)(m5:m 5=M fn)(m6:m 6=M fl)(m7:m 7=M li)
 (q:∀f,qs p nm ss prec li f->Q .n (((h.aF (3,[p]) (.l ((dd ss).map .s))).aF (7,[p]) (.l [])).aF (2,[p]) (.i 1 f)) t):WB n JU (Rt Q) ⟨m,h.aF (2,[p]) (.i 1 λb=>U),t⟩:=by
 have zl:(ss.map V.s).length<=16777216:=by rw[bc];exact aL z.1 (ao Y)
 refine jo Y (aE m2) m0 (jo Y (λn Q q=>mG Y (a6 (aE m3) br n _ (IJ ((aQ nl).trans hl) zl q))) m0 (jo Y (aE m1) m0 (jo Y (aE m5) m0 (jo Y vG m0 (jo Y (aE m6) m0 (jo Y (aE m7) m0 (jo Y (aE m4) m0 (jo Y (F2 (ra (aE m0) a4 Y Y)) m0
  (CP (3,[p]) Y m0 Y (bf Y) h3 ?_)))))))))
 generalize hf:aH _ 9 _=f;have k9:f 9=M (.e (3,[p])):=aj hf Y
 refine adk (ss.map .s) (λj K=>∃v,K=⟨aU [8] v m,(h.aF (3,[p]) (.l ((dd (ss.take j)).map .s))).aF (2,[p]) (.i 1 f),t⟩) (ra (aE m0) a4 Y (aj hf Y)) ⟨m,aq (AS.mk · _ t) gH⟩ (λj v K hv I=>?_) λK I=>?_
 .obtain⟨u,rfl⟩:=I;obtain⟨a,ha,rfl⟩:=dA hv;have e9:=vZ (h:=h) (l':=(3,[p])) (l:=(2,[p])) (ob:=.l ((dd (ss.take j)).map .s)) (i5:=.i 1 f) (bf Y)
  have r9:RE ⟨aH (aU [8] u m) 8 (.s a),(h.aF (3,[p]) (.l ((dd (ss.take j)).map .s))).aF (2,[p]) (.i 1 f),t⟩ (.a (.v 0) 9) (.e (3,[p])):=ra (aE m0) a4 Y k9;have zj:(dd (ss.take j)).length<=100:=aL qr (aL (iG ..) z.1)
  refine kU (CH (aE Y) r9 e9 Kl Y) (λc=>Kk r9 (aE Y) Y e9 (by rw[bc];exact bF zj (ao Y)) (aO (aO ⟨aH u 8 (.s a),jP (bH Y) ((Tc (bf Y)).trans (aq (λx=>(h.aF (3,[p]) (.l x)).aF (2,[p]) (.i 1 f)) ?_))⟩))) λc=>aO (aO ⟨aH u 8 (.s a),jP (bH Y) (aq (λx=>(h.aF (3,[p]) (.l (x.map .s))).aF (2,[p]) (.i 1 f)) ((Te ha).trans (aw (wd.mp (Ac c)))).symm)⟩)
  rw[Te ha,cX,av λw=>x5 c (wd.mpr w),dc]
  rfl
 .obtain⟨u,rfl⟩:=I;rw[bc,e7];refine CP (7,[p]) Y m0 Y (bf Y) ((aQ (bf Y)).trans h7) (jo Y vG m0 ?_);have fin:∀s,Q .n (((h.aF (3,[p]) (.l ((dd ss).map .s))).aF (7,[p]) (.l [])).aF (2,[p]) (.i 1 (aH (aH (aH f 10 (.e (7,[p]))) 11 .n) 12 s))) t:=λs=>q _ (aj hf ⟨Y,Y,Y,Y,Y,aq (λx:Nat=>M (V.i x)) (bc ..),Y,Y,Y,Y⟩)
  have r1:RE ⟨aU [8] u m,((h.aF (3,[p]) (.l ((dd ss).map .s))).aF (7,[p]) (.l [])).aF (2,[p]) (.i 1 (aH (aH f 10 (.e (7,[p]))) 11 .n)),t⟩ (.a (.v 0) 1) (V.bP (ss.map .s)):=ra (aE m0) a4 Y (aj hf Y);have r0:RE ⟨aU [8] u m,((h.aF (3,[p]) (.l ((dd ss).map .s))).aF (7,[p]) (.l [])).aF (2,[p]) (.i 1 (aH (aH f 10 (.e (7,[p]))) 11 .n)),t⟩ (.a (.v 0) 0) (.s nm):=ra (aE m0) a4 Y (aj hf Y)
  exact kU (fc r1 Zn) (λb=>jo Y (λn Q q=>QU (FE (r0 n _ ⟨nm,Js (aL z.2.1 (ao Y)),z.2.2.2.2.2.2.2.1,QT z.2.2.2.2.2.2.1 (FE (iu (du n _ ⟨_,YN,a6 r1 br n _ (aaH (ao Y) (aL (jY z.2.2.1 (Nat.mul_le_mul_right 64 z.1)) (ao Y)) z.2.2.2.1 ⟨_,Js z.2.2.2.2.2.2.2.2,z.2.2.2.2.2.1,QS z.2.2.2.2.1 q⟩)⟩)))⟩))) m0 (aO (aO (fin _)))) λb=>jo Y (jC du r0 (YG (aL z.2.1 (ao Y)))) m0 (aO (aO (fin _)))
theorem Th:Cf 1 20:=⟨(by kernel_rfl:Hz (K0 w0.params++Z0) (dZ 1)=O),(by kernel_rfl:(t9 (K0 w0.params++Z0) (.ref (dZ 1)) "__init__"==M (M (.ref (bJ 20))))=O),(by kernel_rfl:isFn (K0 w0.params++Z0) (.ref (bJ 20))=O),(by kernel_rfl:xg (K0 w0.params++Z0) (.ref (dZ 1))=O)⟩
theorem adm:Cf 2 22:=⟨(by kernel_rfl:Hz (K0 w0.params++Z0) (dZ 2)=O),(by kernel_rfl:(t9 (K0 w0.params++Z0) (.ref (dZ 2)) "__init__"==M (M (.ref (bJ 22))))=O),(by kernel_rfl:isFn (K0 w0.params++Z0) (.ref (bJ 22))=O),(by kernel_rfl:xg (K0 w0.params++Z0) (.ref (dZ 2))=O)⟩
theorem adn:Cf 4 23:=⟨(by kernel_rfl:Hz (K0 w0.params++Z0) (dZ 4)=O),(by kernel_rfl:(t9 (K0 w0.params++Z0) (.ref (dZ 4)) "__init__"==M (M (.ref (bJ 23))))=O),(by kernel_rfl:isFn (K0 w0.params++Z0) (.ref (bJ 23))=O),(by kernel_rfl:xg (K0 w0.params++Z0) (.ref (dZ 4))=O)⟩
theorem ado:Cf 6 31:=⟨(by kernel_rfl:Hz (K0 w0.params++Z0) (dZ 6)=O),(by kernel_rfl:(t9 (K0 w0.params++Z0) (.ref (dZ 6)) "__init__"==M (M (.ref (bJ 31))))=O),(by kernel_rfl:isFn (K0 w0.params++Z0) (.ref (bJ 31))=O),(by kernel_rfl:xg (K0 w0.params++Z0) (.ref (dZ 6))=O)⟩
theorem CR(r:rg l=O)(f:h l=U):oN ⟨m,h,t⟩ l t:=.inr ⟨F4 r,λe=>dI 98 (gc (jd 98) (aL (fR e.symm) (nK (dH.mp r).2))),f,Y⟩
variable{p:Nat} {ls:Loc} {prec fl li:V} {Q:RQ}
section
variable{fn:V}
theorem adp(z:x7 nm ss)(hl:h ls=M (.l (ss.map .s)))(h2:h (2,[p])=U)(h3:h (3,[p])=U)(h7:h (7,[p])=U)
 (q:∀f,qs p nm ss prec li f->Q (.e (2,[p])) (((h.aF (3,[p]) (.l ((dd ss).map .s))).aF (7,[p]) (.l [])).aF (2,[p]) (.i 1 f)) t):bI (n+2) (dZ 1) [.i p,.s nm,.e ls,prec,fn,fl,li] Q h t:=
 Cg Th (CR (l:=(2,[p])) Y h2) (fP adg Y (Tf z hl (λe=>fK ((e▸hl).symm.trans h2)) h3 h7 Y Y Y Y Y Y Y Y λf k=>⟨Y,q f k⟩))
theorem adq(z:x7 nm ss)(hl:h ls=M (.l (ss.map .s)))(h2:h (2,[p])=U)(h3:h (3,[p])=U)(h7:h (7,[p])=U)
 (q:∀f,qs p nm ss (V.bP [.s "right",.i 0]) (.i 0) f->Q (.e (2,[p])) (((h.aF (3,[p]) (.l ((dd ss).map .s))).aF (7,[p]) (.l [])).aF (2,[p]) (.i 1 f)) t):bI (n+2) (dZ 1) [.i p,.s nm,.e ls] Q h t:=
 Cg Th (CR (l:=(2,[p])) Y h2) (fP acL Y (Tf z hl (λe=>fK ((e▸hl).symm.trans h2)) h3 h7 Y Y Y Y Y Y Y Y λf k=>⟨Y,q f k⟩))
theorem adr(h2:h (2,[p])=M (.i 1 f))(h1:f 1=M (V.bP (ss.map .s)))(q:Q (.i ss.length) h t):bI (n+1) (bJ 21) [.e (2,[p])] Q h t:=
 fP acM Y (jO (F2 (ra (aE Y) h2 Y h1)) (ak (bc (f:=V.s) (as:=ss)) q))
theorem n_L{G:QF}(d:kq k a=O)(he:RE ⟨m,h.aF l (.i k f),t⟩ e (V.bP vs))(z:vs.length<=16777216)(ho:m i=M (.e l))(ne:bz t≠l)(q:WB n r G ⟨m,(h.aF (bz t) (.l vs)).aF l (.i k (aH f a (.e (bz t)))),t+1⟩):WB n (.c (.cW (.v i) a (.p .i (.c e .n))) r) G ⟨m,h.aF l (.i k f),t⟩:=
 CE (mG Y (rl (a6 he br) (aaJ z (kC (re (aE ho) (su (f:=f) ((aQ ne.symm).trans a4) d (show WB n r G ⟨m,((h.aF l (.i k f)).aF (bz t) (.l vs)).aF l _,t+1⟩ from aj (put3 ne).symm q)))))))
noncomputable def Km:aP:="."
noncomputable def dot(ss:Ss)(i:Nat):Ss:=ss.take i++Km::ss.drop i
def Kn(p i:Nat)(nm:aP)(ss:Ss)(f:Mp):Prop:=f 0=M (.s nm)/\f 1=M (V.bP ((dot ss i).map .s))/\f 2=M (.i p)/\f 8=M (.i (ss.length+1:Nat))/\f 9=M (.e (3,[p]))/\f 13=M (.i i)/\f 14=M (.e (6,[p,i]))
theorem F7(hi:i<=ss.length):(dot ss i).length=ss.length+1:=by rw[dot,dW,oE,Hb,Hc,Hj hi,<-nO,Nat.add_sub_cancel' hi]
theorem adt(h2:h (2,[p])=M (.i 1 f))(k0:f 0=M (.s nm))(k1:f 1=M (V.bP (ss.map .s)))(k2:f 2=M (.i p))(k9:f 9=M (.e (3,[p])))(hi:i<=ss.length)(zs:ss.length<=100)(h5:h (5,[p,i])=U)(h6:h (6,[p,i])=U)
 (q:∀f u,Kn p i nm ss f->Q (.e (5,[p,i])) ((mix [99] u (h.aF (6,[p,i]) (.d []))).aF (5,[p,i]) (.i 2 f)) (t+1)):bI (n+2) (dZ 2) [.e (2,[p]),.i i] Q h t:=by
 refine Cg adm (CR (l:=(5,[p,i])) Y h5) (fP acN Y ?_);have zl:(ss.map V.s).length<=100:=by rw[bc];exact zs
 refine jo Y (ra (aE Y) h2 Y k0) Y (n_L Y (ra (aE Y) h2 Y k1) (aL zl (ao Y)) Y (bf Y) ?_);refine jo Y (ra (aE Y) h2 Y k2) Y (jo Y (aE Y) Y (wc (6,[p,i]) Y Y Y (bf Y) h6 ?_));generalize hf:aH _ 14 _=g;have k1:g 1=M (.e (bz t)):=aj hf Y
 have ed:(((h.aF (bz t) (.l (ss.map .s))).aF (6,[p,i]) (.d [])).aF (5,[p,i]) (.i 2 g)) (bz t)=M (.l (ss.map .s)):=(aQ (bf Y)).trans (vZ (bf Y));refine pK (iu (re (ra (aE Y) a4 Y k1) ⟨_,YL ed,rl (a6 (aE Y) (a6 du br)) (Zm Aa ed (by rw[bc];exact hi) (bF zl (ao Y)) ?_)⟩))
 have eh:(((h.aF (bz t) (.l (ss.map .s))).aF (6,[p,i]) (.d [])).aF (5,[p,i]) (.i 2 g)).aF (bz t) (.l ((ss.map .s).take i++.s Km::(ss.map .s).drop i))=((h.aF (6,[p,i]) (.d [])).aF (bz t) (.l ((dot ss i).map .s))).aF (5,[p,i]) (.i 2 g):=by rw[CN (bf Y),Tc (bf Y),CN (bf Y) (h:=h),dot,dc,Ee,nN,Ef]
 have ez:(((h.aF (6,[p,i]) (.d [])).aF (bz t) (.l ((dot ss i).map .s))).aF (5,[p,i]) (.i 2 g)) (bz t)=M (.l ((dot ss i).map .s)):=vZ (bf Y);have zd:((dot ss i).map V.s).length<=101:=by rw[bc,F7 hi];exact fJ zs
 show WB n _ _ ⟨_,(((h.aF (bz t) (.l (ss.map .s))).aF (6,[p,i]) (.d [])).aF (5,[p,i]) (.i 2 g)).aF (bz t) (.l ((ss.map .s).take i++.s Km::(ss.map .s).drop i)),t+1⟩;rw[eh];refine jo Y (λn Q q=>mG Y (rl (a6 (ra (aE Y) a4 Y k1) br) (IJ ez (aL zd (ao Y)) q))) Y (jo Y (F2 (ra (aE Y) a4 Y Y)) Y (jo Y (ra (aE Y) h2 Y k9) Y (aO ⟨Y,?_⟩)));rw[kQ (R:=[99]) (h:=h.aF (6,[p,i]) (.d [])) (l:=bz t) Y,bc,F7 hi];refine q _ _ ?_;subst hf;exact⟨Y,Y,Y,Y,Y,Y,Y⟩
end
noncomputable def cd(s:aP):Nl:=s.cps.toList
theorem Ad{a b:aP}(h:cd a=cd b):a=b:=by cases a;cases b;exact aq Str.mk (aju.mp h)
noncomputable def eG(r:Nat)(ks:Ss):Es:=ks.map λs=>(.s s,.e (r,cd s))
variable{es:Es} {r:Nat} {ks:Ss} {a b:aP}
theorem pL:(bM es x).isSome=decide (x∈es.map (·.1)):=by
 induction es with
 |nil=>exact(aA qJ).symm
 |cons e t ih=>
  rw[xw];by_cases h:e.1=x
  .rw[aw h,az (aj h (.head _))];rfl
  .rw[av h,ih];exact decide_eq_decide.mpr ⟨.tail _,λm=>(b0.mp m).resolve_left λe=>h e.symm⟩
theorem kW(h:x∉es.map (·.1)):cC es x y=es++[(x,y)]:=by
 induction es with
 |nil=>rfl
 |cons e t ih=>rw[qX,av λw:e.1=x=>h (aj w (.head _)),ih λm=>h (.tail _ m)];rfl
theorem we:bM (cC es x y) x=M y:=by
 induction es with
 |nil=>exact aw rfl
 |cons e t ih=>
  rw[qX];by_cases h:e.1=x
  .rw[aw h];exact aw h
  .rw[av h];exact(av h).trans ih
theorem wg(n:x≠z):bM (cC es x y) z=bM es z:=by
 induction es with
 |nil=>exact av n
 |cons e t ih=>
  rw[qX,xw];by_cases h:e.1=x
  .rw[aw h,av λw=>n (h.symm.trans w)];exact av λw=>n (h.symm.trans w)
  .rw[av h];by_cases q:e.1=z
   .rw[aw q];exact aw q
   .rw[av q];exact(av q).trans ih
theorem str_inj(h:V.s a=.s b):a=b:=by
 cases h
 rfl
theorem CS:(eG r ks).map (·.1)=ks.map .s:=fA
theorem F8:(bM (eG r ks) (.s a)).isSome=decide (a∈ks):=pL.trans (decide_eq_decide.mpr (ak CS wd))
theorem sI(h:a∈ks):bM (eG r ks) (.s a)=M (.e (r,cd a)):=by
 induction ks with
 |nil=>cases h
 |cons k t ih=>
  rw[eG,nN,xw];by_cases e:k=a
  .rw[e];exact aw Y
  .exact(av λw=>e (str_inj w)).trans (ih ((b0.mp h).resolve_left λw=>e w.symm))
theorem Ae(h:a∉ks):cC (eG r ks) (.s a) (.e (r,cd a))=eG r (ks++[a]):=(kW (ak CS λm=>h (wd.mp m))).trans (dc (f:=λs=>(V.s s,V.e (r,cd s))) (l₂:=[a])).symm
theorem qt{r':Nat}(h:a≠b):((r,cd a):Loc)≠(r',cd b):=λe=>h (Ad (aq sg e))
theorem adu{Q:QF}{o a r es:Sx}{ds:Es}(l':Loc)(rl:rg l'=O)(fr:K.h l'=U)(he:RL K es xs)(z:xs.length<=16777216)(ho:RE (K.aF l' (.l xs) K.t) o (.e l))(hi:RE (K.aF l' (.l xs) K.t) a y)(hl:(K.h.aF l' (.l xs)) l=M (.d ds))(kx:y.cn 7=O)(hz:ds.length<16777216)
 (q:WB n r Q ((K.aF l' (.l xs) K.t).aF l (.d (cC ds y (.e l'))) K.t)):WB n (.c (.cR o a (.t es)) r) Q K:=fW (pE (fw (jy.Lean.rl he ⟨z,dF l' rl fr (re ho (re hi (rj hl kx hz q)))⟩)))
variable{a:Nat} {R:Nl} {u:Hp} {Q:QF} {b r:Sx}
section
variable{o:Sx} {ds:Es}
theorem uC(d:kq k a=O)(rl:R.contains l.1=O)(ho:RE ⟨m,mix R u h,t⟩ o (.e l))(hl:(mix R u h) l=M (.i k f))(he:RE ⟨m,mix R u h,t⟩ e y)(q:WB n r Q ⟨m,mix R (u.aF l (.i k (aH f a y))) h,t⟩):WB n (.c (.cW o a e) r) Q ⟨m,mix R u h,t⟩:=S8 he ho hl d (show WB n r Q ⟨m,(mix R u h).aF l _,t⟩ from aj (bA rl).symm q)
theorem Ko(rl:R.contains l.1=O)(ho:RE ⟨m,mix R u h,t⟩ o (.e l))(hl:(mix R u h) l=M (.d ds))(hi:RE ⟨m,mix R u h,t⟩ b y)(he:RE ⟨m,mix R u h,t⟩ e z)(kx:y.cn 7=O)(hz:ds.length<16777216)(q:WB n r Q ⟨m,mix R (u.aF l (.d (cC ds y z))) h,t⟩):WB n (.c (.cR o b e) r) Q ⟨m,mix R u h,t⟩:=
 xY he ho hi hl kx hz (show WB n r Q ⟨m,(mix R u h).aF l _,t⟩ from aj (bA rl).symm q)
theorem ny(rl:R.contains l.1=O)(l0:rg l=O)(ho:RE ⟨m,mix R u h,t⟩ o (.e l))(hl:(mix R u h) l=M (.l vs))(he:RE ⟨m,mix R u h,t⟩ e y)(z:vs.length<16777216)(q:WB n r Q ⟨m,mix R (u.aF l (.l (vs++[y]))) h,t⟩):WB n (.c (.e (.bV .a o (.c e .n))) r) Q ⟨m,mix R u h,t⟩:=
 Kk ho he l0 hl z (show WB n r Q ⟨m,(mix R u h).aF l _,t⟩ from aj (bA rl).symm q)
theorem F9{es:Sx}(l':Loc)(rl:R.contains l.1=O)(CT:R.contains l'.1=O)(g:rg l'=O)(fr:(mix R u h) l'=U)(he:RL ⟨m,mix R u h,t⟩ es xs)(zx:xs.length<=16777216)(ho:RE ⟨m,mix R (u.aF l' (.l xs)) h,t⟩ o (.e l))(hl:(mix R (u.aF l' (.l xs)) h) l=M (.d ds))(hi:RE ⟨m,mix R (u.aF l' (.l xs)) h,t⟩ b y)(kx:y.cn 7=O)(hz:ds.length<16777216)
 (q:WB n r Q ⟨m,mix R ((u.aF l' (.l xs)).aF l (.d (cC ds y (.e l')))) h,t⟩):WB n (.c (.cR o b (.t es)) r) Q ⟨m,mix R u h,t⟩:=by
 have e:=bA (u:=u) (h:=h) (ob:=.l xs) CT;rw[<-e]at ho hl hi;refine adu l' g fr he zx ho hi hl kx hz (show WB n r Q ⟨m,((mix R u h).aF l' _).aF l _,t⟩ from ?_)
 rw[e,bA rl];exact q
theorem Af(l':Loc)(rl:R.contains l.1=O)(CT:R.contains l'.1=O)(g:rg l'=O)(fr:(mix R u h) l'=U)(ho:RE ⟨m,mix R (u.aF l' (.l [])) h,t⟩ o (.e l))(hl:(mix R (u.aF l' (.l [])) h) l=M (.d ds))(hi:RE ⟨m,mix R (u.aF l' (.l [])) h,t⟩ b y)(kx:y.cn 7=O)(hz:ds.length<16777216)
 (q:WB n r Q ⟨m,mix R ((u.aF l' (.l [])).aF l (.d (cC ds y (.e l')))) h,t⟩):WB n (.c (.cR o b (.t .n)) r) Q ⟨m,mix R u h,t⟩:=F9 l' rl CT g fr br (b7 _) ho hl hi kx hz q
theorem Ga(l':Loc)(d:kq k a=O)(rl:R.contains l.1=O)(CT:R.contains l'.1=O)(g:rg l'=O)(fr:(mix R u h) l'=U)(ho:RE ⟨m,mix R (u.aF l' (.d [])) h,t⟩ o (.e l))(hl:(mix R (u.aF l' (.d [])) h) l=M (.i k f))
 (q:WB n r Q ⟨m,mix R ((u.aF l' (.d [])).aF l (.i k (aH f a (.e l')))) h,t⟩):WB n (.c (.cW o a (.fq .n)) r) Q ⟨m,mix R u h,t⟩:=by
 have e:=bA (u:=u) (h:=h) (ob:=.d []) CT;rw[<-e]at ho hl;refine CE (kP (dF l' g fr (re ho (su hl d (show WB n r Q ⟨m,((mix R u h).aF l' _).aF l _,t⟩ from ?_)))))
 rw[e,bA rl];exact q
end
noncomputable def lA:aP:="a"
noncomputable def lB:aP:="b"
noncomputable def lC:aP:="c"
noncomputable def lets:Ss:=[lA,lB,lC]
noncomputable def wh:aP:="error"
noncomputable def ts:Ss:=[lA,lB,lC,wh]
def kX(f:Mp):Prop:=f 15=M (.e (41,[]))/\f 16=M (.e (42,[]))/\f 17=M (.e (43,[]))/\f 18=M (.e (44,[]))/\f 19=M (.e (45,[]))/\f 20=M (.e (46,[]))/\f 21=M (.e (47,[]))/\f 22=M (.e (48,[]))
def fH(l:Loc)(r z:Nat)(ks:Ss)(h:Hp):Prop:=h l=M (.d (eG r ks))/\∀s,if s∈ks then∃vs,h (r,cd s)=M (.l vs)/\vs.length<=z else h (r,cd s)=U
def Ti(f:Mp)(h:Hp):Prop:=h (1,[])=M (.i 4 f)/\kX f/\h (41,[])=M (.l [.n])/\h (42,[])=M (.d [])/\h (43,[])=M (.d [])/\fH (44,[]) 12 0 ts h/\h (45,[])=M (.d [])/\h (46,[])=M (.d [])/\h (47,[])=M (.d [])/\h (48,[])=M (.d [])
theorem uD{c:Prop} [Decidable c]{p q:Prop}(h:if c then p else q)(k:¬c):q:=by rwa [av k]at h
theorem sJ{c:Prop} [Decidable c]{p q:Prop}(h:if c then p else q)(k:c):p:=by rwa [aw k]at h
theorem rz{c:Prop} [Decidable c]{p q:Prop}(k:c)(h:p):if c then p else q:=by rwa [aw k]
theorem oV{c:Prop} [Decidable c]{p q:Prop}(k:¬c)(h:q):if c then p else q:=by rwa [av k]
theorem pN{l:Ss}{a:aP}(n:l.Nodup)(h:l[j]?=M a):a∉l.take j:=λm=>(jX.mp (aj (take_snoc h) ((D6 (j+1) l).nodup n))).2.2 a m a (.head _) Y
theorem CU:lets.Nodup:=ao Y
theorem fH.x8{r:Nat}(k:ks.length<=100):(eG r ks).length<16777216:=by rw[eG,bc];exact bF k (ao Y)
theorem fH.eH{r z:Nat}{a:aP}(d:fH l r z ks h)(n:a∉ks)(ne:cQ l.1 r=Z):fH l r z (ks++[a]) ((h.aF (r,cd a) (.l [])).aF l (.d (eG r (ks++[a])))):=⟨a4,λs=>by
 have nl:((r,cd s):Loc)≠l:=λe=>bf (l':=(r,cd s)) ne e.symm;rw[aQ nl];by_cases e:s=a
 .subst e;rw[aw (cZ _ (.head _)),a4];exact⟨[],Y,b7 _⟩
 .rw[aQ (qt e)];have w:=d.2 s
  by_cases m:s∈ks
  .rw[aw m]at w;rw[aw (cH _ m)];exact w
  .rw[av m]at w;rw[av λq=>(cD.mp q).elim m λq=>e (bp.mp q)];exact w⟩
noncomputable abbrev gR:Nl:=[1,12,41,42,43,44,45,46,47,48,49]
noncomputable def f0:Mp:=aH (aH (aH (aH (aH (aH (aH (aH (aH (aH (λa=>U) 15 (.e (41,[]))) 16 (.e (42,[]))) 17 (.e (43,[]))) 18 (.e (44,[]))) 19 (.e (45,[]))) 20 (.e (46,[]))) 21 (.e (47,[]))) 22 (.e (48,[]))) 23 (.e (49,[]))) 24 .n
theorem adv{x:Nl}{Q:RQ}(hl:h (99,x)=M (.l (lets.map .s)))(hn:∀k x,gR.contains k=O->h (k,x)=U)
 (q:∀u,Ti f0 u->Q (.e (1,[])) (mix gR u h) t):bI (n+2) (dZ 4) [.e (99,x)] Q h t:=by
 refine Cg adn (CR (l:=(1,[])) Y (hn 1 [] Y)) (fP acP Y ?_);refine Td (41,[]) Y (a6 vG br) (by decide:1<=16777216) Y Y (λe=>by cases e) (hn 41 [] Y) (wc (42,[]) Y Y Y (λe=>by cases e) (hn 42 [] Y) (wc (43,[]) Y Y Y (λe=>by cases e) (hn 43 [] Y) (wc (44,[]) Y Y Y (λe=>by cases e) (hn 44 [] Y) ?_)))
 rw[kQ (R:=gR) (h:=h) Y,bA Y,bA Y,bA Y,bA Y];generalize hf:aH _ 18 _=f;have kf:f 15=M (.e (41,[]))/\f 16=M (.e (42,[]))/\f 17=M (.e (43,[]))/\f 18=M (.e (44,[])):=aj hf ⟨Y,Y,Y,Y⟩
 generalize hu:((((h.aF (41,[]) _).aF (42,[]) _).aF (43,[]) _).aF (44,[]) _).aF (1,[]) _=u;refine gw (l:=(99,x)) (lets.map .s) (λj K=>∃v u,K=⟨aU [2] v λi=>([V.e (1,[]),V.e (99,x)]++[])[i]?,mix gR u h,t⟩/\u (1,[])=M (.i 4 f)/\u (41,[])=M (.l [.n])/\u (42,[])=M (.d [])/\u (43,[])=M (.d [])/\fH (44,[]) 12 0 (lets.take j) u/\u (45,[])=U/\u (46,[])=U/\u (47,[])=U/\u (48,[])=U/\u (49,[])=U) (aE Y) (λj K I=>?_) ⟨_,u,jP gH Y,?_⟩ (λj v K hv I=>?_) λK I=>?_
 .obtain⟨v,u,rfl,_⟩:=I;exact hl
 .subst hu;exact⟨Y,Y,Y,Y,⟨Y,λs=>oV qJ (hn 12 _ Y)⟩,hn 45 [] Y,hn 46 [] Y,hn 47 [] Y,hn 48 [] Y,hn 49 [] Y⟩
 .obtain⟨v,u,rfl,g0,g1,g2,g3,g4,g5⟩:=I;obtain⟨a,ha,rfl⟩:=dA hv;have n:=pN CU ha
  refine Af (l:=(44,[])) (12,cd a) Y Y Y (uD (g4.2 a) n) (ra (aE Y) g0 Y kf.2.2.2) g4.1 (aE Y) Y (fH.x8 (aL (iG ..) (by decide:3<=100))) (aO ⟨_,_,jP (bH Y) Y,g0,g1,g2,g3,?_,g5⟩)
  rw[Ae n,take_snoc ha];exact g4.eH n Y
 .obtain⟨v,u,rfl,g0,g1,g2,g3,g4,g5,g6,g7,g8,g9⟩:=I;have g4:fH (44,[]) 12 0 lets u:=g4
  refine Af (l:=(44,[])) (y:=.s wh) (12,cd wh) Y Y Y (uD (g4.2 wh) (ao Y)) (ra (aE Y) g0 Y kf.2.2.2) g4.1 du Y (fH.x8 (by decide:3<=100)) ?_
  have g4:=g4.eH (a:=wh) (ao Y) Y;rw[Ae (ao Y)];refine Ga (45,[]) Y Y Y Y g5 (aE Y) g0 (Ga (46,[]) Y Y Y Y g6 (aE Y) Y (Ga (47,[]) Y Y Y Y g7 (aE Y) Y (Ga (48,[]) Y Y Y Y g8 (aE Y) Y ?_)));generalize hv:Hp.aF _ (1,[]) (.i 4 (aH _ 22 _))=w;have e0:w (1,[])=M (.i 4 (aH (aH (aH (aH f 19 (.e (45,[]))) 20 (.e (46,[]))) 21 (.e (47,[]))) 22 (.e (48,[])))):=aj hv Y
  have e9:w (49,[])=U:=aj hv g9;refine CE (mG Y (rl br (QO (dF (49,[]) Y e9 (re (aE Y) (su e0 Y (show WB n _ _ ⟨_,((mix gR w h).aF (49,[]) (.s [])).aF (1,[]) _,t⟩ from ?_)))))))
  rw[bA Y,bA Y];exact uC Y Y (aE Y) Y vG (aO (by subst hv;exact⟨Y,q _ ⟨by rw[<-hf];rfl,⟨Y,Y,Y,Y,Y,Y,Y,Y⟩,g1,g2,g3,g4,Y,Y,Y,Y⟩⟩))
variable{i':Nat} {P:QV} {G:RQ} {t a:Sx} {c:Prop} {s s':aP}
section
variable{ds:Es}
theorem bI.o{f:aY}(w:bI n f xs (λx h' t'=>P x ⟨m,h',t'⟩) h τ):OL n (.ref f) xs P ⟨m,h,τ⟩:=w.ol λa a a q=>q
theorem wi(ha:RE K a (.s s))(hb:RE K b (.e l))(hl:K.h l=M (.d (eG k ks))):RT K (.m .In a b) (decide (s∈ks)):=aj (F8 (r:=k)) (z8 ha hb hl Y)
theorem Kq(ha:RE K a (.s s))(hb:RE K b (.e l))(hl:K.h l=M (.d (eG k ks))):RT K (.m .NotIn a b) (!decide (s∈ks)):=aj (F8 (r:=k)) (F3 ha hb hl Y)
theorem Ag(ha:RE K a (.s s))(hb:RE K b (.e l))(hl:K.h l=M (.l (ks.map .s))):RT K (.m .NotIn a b) (!decide (s∈ks)):=aj (decide_eq_decide.mpr (wd (a:=s) (l:=ks))) (CH ha hb hl Kl Y)
theorem wj(ha:RE K a (.s s))(hb:RE K b (.s s')):RT K (.m .Eq a b) (decide (s=s')):=aj (decide_eq_decide.mpr ⟨str_inj,aq V.s⟩:decide (V.s s=V.s s')=decide (s=s')) (fu (o:=.Eq) ha hb (pD Y Y))
variable [d:Decidable c]
theorem rA(h:RT K t (decide c))(ha:c->WB n a (Nx n r Q) K)(hb:¬c->WB n b (Nx n r Q) K):WB n (.c (.i t a b) r) Q K:=kU h (λe=>ha (aB e)) λe=>hb (of_decide_eq_false e)
theorem rB(h:RT K t (!decide c))(ha:¬c->WB n a (Nx n r Q) K)(hb:c->WB n b (Nx n r Q) K):WB n (.c (.i t a b) r) Q K:=kU h (λe=>ha (x5 e)) λe=>hb (Ac e)
theorem Tj(h:RT K t (!decide c))(hc:c)(k:WB n r Q K):WB n (.c (.i t a .n) r) Q K:=rB h (λe=>ax hc e) λb=>aO k
theorem Kr(h:WT n t (λc aZ=>c=Z/\WB n r Q aZ) K):WB n (.c (.i t a .n) r) Q K:=d7 (oT λF A W s q T k=>wm (h F A W s q T k) (λd a8 p=>p.cA λW' aZ x R e v z=>⟨W',aZ,x,R,e,v,by rw[z.1];exact aO z.2⟩))
end
theorem adw{z:aP}{c:Nat}(h:z.cps[0]?=M c):I2 K (.s z) (.i 0) (.s ⟨#[c]⟩):=λF A n W s v u T vx vy=>b5 vx λt e=>e.1▸b5 vy λt' e'=>e'▸
 ⟨⟨"str",_,typeIs_str s z t,slot_str_getitem.lookup⟩,getItem_str Y (by
   have lt:0<z.length:=(aiC.mp h).1;rw[show yT 0 (z.length:Nat)=M 0 from EX lt];exact h) ⟨⟨s.toks+1,Y⟩,⟨s.toks,Y,by
   have k:=e.2;unfold kH at k⊢;rw[ajo]at k;obtain⟨lt,hc⟩:=aiC.mp h;have q:=k 0 lt
   rw[hc]at q;rw[ajo];exactλi hi=>by obtain rfl:i=0:=Hm.mp hi;exact q⟩⟩⟩
noncomputable def Ks:aP:="%prec"
noncomputable def lX(nm:aP)(ss:Ss):aP:=fU++nm++bo " -> "++(vg (ss.map .str)).shown
def qu(nm:aP)(ss:Ss):Prop:=Ab nm/\nm∉ts/\(∀s∈ss,Ab s/\(∃c,s.cps[0]?=M c/\zA ⟨#[c]⟩ "'\""=Z)/\s≠Ks)/\x7 nm ss/\(vg (ss.map .str)).showable=O/\(vg (ss.map .str)).shown.length<=16777216/\(lX nm ss).length<=16777216/\kH (lX nm ss)=O
variable(hh:qu nm ss)
def qu.aT:=hh.1
def qu.aI:=hh.2.1
def qu.aG:=hh.2.2.1
def qu.aC:=hh.2.2.2.1
def qu.aJ:=hh.2.2.2.2.1
def qu.aD:=hh.2.2.2.2.2
variable{x:Nl} {t:Nat}
theorem wk{x:V}(ha:RE K a x)(hb:RE K b (.e l))(hl:K.h l=M (.l vs))(kv:∀y∈vs,y.cn 7=O)(kx:x.cn 7=O):RT K (.m .In a b) (decide (x∈vs)):=aj (yP (decide (x∈vs))) (fu ha hb (in_list (n:=Z) hl kv kx))
theorem tiC{p q:aP}(ha:RE K a (.s p))(hb:RE K b (.s q)):RT K (.m .In a b) (zA p q):=aj (yP (zA p q)) (fu ha hb (in_str (n:=Z)))
theorem ady(ok:qu nm ss)(gi:h (1,[])=M (.i 4 f))(g18:f 18=M (.e (44,[])))(gt:h (44,[])=M (.d (eG 12 ts)))(hs:h (62,x)=M (.l (ss.map .s)))
 (m0:m 0=M (.e (1,[])))(m1:m 1=M (.s nm))(m2:m 2=M (.e (62,x)))(k:∀v u' t',WB (n+1) r Q ⟨aU [6,7] v m,mix [99] u' h,t'⟩):
 WB (n+1) (.c (.i (.m .In (.v 1) (.a (.v 0) 18)) (.c .j .n) .n) (.c (.i (.m .Eq (.v 1) (.cS "error")) (.c .j .n) .n) (.c (.i (.o (.l (.g 1 (.c (.v 1) .n)))) (.c .j .n) .n) (.c (.f (.a [6,7]) (.A (.v 2)) Sa .n) r)))) Q ⟨m,h,t⟩:=by
 refine i8 (aj (aA ok.aI) (wi (aE m1) (ra (aE m0) gi Y g18) gt)) (aO (i8 (aj (aA λe:nm=wh=>ok.aI (aj e.symm (by decide:wh∈ts))) (wj (s':=wh) (aE m1) du)) (aO (Kr (Fa (E9 (kM (rl (a6 (aE m1) br) ((Tb ok.aT λu'=>⟨O,mE,Y,?_⟩).o)))))))))
 refine S9 (l:=(62,x)) (ss.map .s) (λj K=>∃v u t,K=⟨aU [6,7] v m,mix [99] u h,t⟩) (aE m2) (λj K I=>?_) ⟨m,u',t+1,jP gH Y⟩ (λj v K hv I=>?_) λK I=>?_
 .obtain⟨v,u,t,rfl⟩:=I;exact hs
 .obtain⟨w,u,t,rfl⟩:=I;obtain⟨s,hs,rfl⟩:=dA hv;obtain⟨k1,⟨c,k2,k3⟩,k4⟩:=ok.aG s (bE hs);refine i8 (aj k3 (tiC (dU (aE Y) bW (adw k2)) du)) (aO (Kr (vL (vK (Fa (E9 (kM (rl (a6 (aE Y) br) ((Tb k1 λu'=>⟨O,mE,?_⟩).o)))))))));exact⟨Y,aO ⟨aH (aH w 6 (.i j)) 7 (.s s),_,_,jP ((aq (aH · 7 (.s s)) (bH Y)).trans (bH Y)) (gG Y)⟩⟩
 .obtain⟨v,u,t,rfl⟩:=I;exact k v u t
noncomputable def rC:V:=V.bP [.s "right",.i 0]
theorem adA{ps:Vs}{A:Sx}(ok:qu nm ss)(gi:h (1,[])=M (.i 4 f))(gf:kX f)(gp:h (41,[])=M (.l ps))(gm:h (43,[])=M (.d es))(gt:h (44,[])=M (.d (eG 12 ts)))(g8:h (48,[])=M (.d []))(hs:h (62,x)=M (.l (ss.map .s)))(ne:V.s (lX nm ss)∉es.map (·.1))
 (m0:m 0=M (.e (1,[])))(m1:m 1=M (.s nm))(m2:m 2=M (.e (62,x)))(k:∀v,v 10=M rC->v 11=M (.s (lX nm ss))->v 13=M (.i ps.length)->WB (n+1) r Q ⟨aU [9,10,11,13] v m,h,t⟩):
 WB (n+1) (.c (.i (.m .In (.cS "%prec") (.v 2)) A (.c (.s (.v 9) (.g 3 (.c (.v 2) (.c (.a (.v 0) 18) .n)))) (.c (.s (.v 10) (.bV .g (.a (.v 0) 22) (.c (.v 9) (.c (.d (.c (.cS "right") (.c (.cI 0) .n))) .n)))) .n))) (.c (.s (.v 11) (.EK (.c (.l (.v 1)) (.c (.cS " -> ") (.c (.l (.v 2)) .n)))))
  (.c (.i (.m .In (.v 11) (.a (.v 0) 17)) (.c (.s (.v 12) (.u (.a (.v 0) 17) (.v 11))) (.c .j .n)) .n) (.c (.s (.v 13) (.p .l (.c (.a (.v 0) 15) .n))) r)))) Q ⟨m,h,t⟩:=by
 have np:V.s Ks∉ss.map V.s:=λw=>(ok.aG _ (wd.mp w)).2.2 Y;refine i8 (aj (aA np) (wk du (aE m2) hs Kl Y)) (cj (kM (rl (a6 (aE m2) (a6 (ra (aE m0) gi Y gf.2.2.2.1) br)) ((adl hs gt λv kv=>?_).o))));refine cj (iu (re (ra (aE m0) gi Y gf.2.2.2.2.2.2.2) ⟨_,lT g8,rl (a6 (aE Y) (a6 (mF (a6 du (a6 bW br)) (by decide:2<=16777216)) br)) (sr g8 kv (aO (eF (λn Q q=>QU (FE (re (aE m1) ⟨nm,Js (aL ok.aC.2.1 (ao Y)),ok.aC.2.2.2.2.2.2.2.1,QT ok.aC.2.2.2.2.2.2.1 (FE (re (aE m2) ⟨_,aaT hs ok.aJ ok.aD.1,ok.aD.2.1,QS ok.aD.2.2 q⟩))⟩))) ?_)))⟩))
 refine i8 (aj (pL.trans (aA ne)) (z8 (aE Y) (ra (aE m0) gi Y gf.2.2.1) gm Y)) (aO (eF (vX (ra (aE m0) gi Y gf.1) gp) ?_));have e:=k (aH (aH (aH (aH m 9 v) 10 rC) 11 (.s (lX nm ss))) 13 (.i ps.length)) Y Y Y
 rw[<-bH Y,<-bH Y,<-bH Y,<-bH Y,<-gH]at e;exact e
variable{z:Nat} {a:aP} {sL:Ss}
theorem fH.bN{z':Nat}(d:fH l k z ks h)(le:z<=z'):fH l k z' ks h:=⟨d.1,λs=>by
 have w:=d.2 s;by_cases e:s∈ks
 .exact rz e ((sJ w e).imp λvs q=>⟨q.1,aL q.2 le⟩)
 .exact oV e (uD w e)⟩
theorem fH.Tl(d:fH l k z ks h)(i:a∈ks)(e:h (k,cd a)=M (.l vs))(zv:vs.length<=z)(ne:cQ l.1 k=Z):fH l k (z+1) ks (h.aF (k,cd a) (.l (vs++[y]))):=⟨(aQ (bf ne)).trans d.1,λs=>by
 have w:=d.2 s;by_cases e:s∈ks
 .refine rz e ?_;by_cases q:s=a
  .subst q;exact⟨_,a4,by rw[dW];exact fJ zv⟩
  .rw[aQ (qt q)];exact(sJ w e).imp λvs q=>⟨q.1,p9 q.2⟩
 .exact oV e ((aQ (qt λq:s=a=>e (aj q.symm i))).trans (uD w e))⟩
noncomputable def j8(l:Ss)(s:aP):Ss:=if s∈ts then l else cX l s
theorem Kt{l:Ss}:a∈cX l a:=by
 by_cases c:a∈l
 .rw[qo c];exact c
 .rw[qn c];exact cZ _ (.head _)
theorem adB:∀{l:Ss},(ss.foldl j8 l).length<=l.length+ss.length:=by
 induction ss with
 |nil=>exact dj _
 |cons a ss ih=>
  intro l;refine aL ih ?_;rw[oE,nU ss.length,<-nO];refine pz ?_ _;unfold j8
  split
  .exact jI _
  .exact x6
theorem adC(gi:h (1,[])=M (.i 4 f))(gf:kX f)(d4:fH (44,[]) 12 z ts h)(d5:fH (45,[]) 13 z sL h)(zn:ss.length<=100/\z<=1000000/\sL.length+ss.length<=99)(hs:h (62,x)=M (.l (ss.map .s)))(m0:m 0=M (.e (1,[])))(m1:m 1=M (.s nm))(m2:m 2=M (.e (62,x)))(Gb:m 13=M y)
 (k:∀v u,fH (44,[]) 12 (z+ss.length) ts u->fH (45,[]) 13 (z+ss.length) (ss.foldl j8 (cX sL nm)) u->WB n r Q ⟨aU [14] v m,mix [12,13,44,45] u h,t⟩):
 WB n (.c (.i (.m .NotIn (.v 1) (.a (.v 0) 19)) (.c (.cR (.a (.v 0) 19) (.v 1) (.t .n)) .n) .n) (.c (.f (.v 14) (.l (.v 2)) JV .n) r)) Q ⟨m,h,t⟩:=by
 have x9:=gf.2.2.2.2.1;have loop:∀u,fH (44,[]) 12 z ts u->fH (45,[]) 13 z (cX sL nm) u->WB n (.c (.f (.v 14) (.l (.v 2)) JV .n) r) Q ⟨m,mix [12,13,44,45] u h,t⟩:=λu e4 e5=>by
  refine gw (l:=(62,x)) (ss.map .s) (λj K=>j<=ss.length/\∃v u,K=⟨aU [14] v m,mix [12,13,44,45] u h,t⟩/\fH (44,[]) 12 (z+j) ts u/\fH (45,[]) 13 (z+j) ((ss.take j).foldl j8 (cX sL nm)) u) (aE m2) (λj K I=>?_) ⟨b7 _,m,u,jP gH Y,e4,e5⟩ (λj v K hv I=>?_) λK I=>?_
  .obtain⟨_,v,u,rfl,_⟩:=I;exact hs
  .obtain⟨lj,w,u,rfl,e4,e5⟩:=I;obtain⟨s,hs,rfl⟩:=dA hv;have hm:aH (aU [14] w m) 14 (.s s)=aU [14] (aH w 14 (.s s)) m:=bH Y
   have lt:j<ss.length:=(cV.mp hs).1;have zj:z+j<16777216:=bF (jY zn.2.1 (aL lj zn.1)) (ao Y)
   have step:(ss.take (j+1)).foldl j8 (cX sL nm)=j8 ((ss.take j).foldl j8 (cX sL nm)) s:=by rw[take_snoc hs,u7];rfl
   refine rA (wi (aE Y) (ra (aE m0) gi Y gf.2.2.2.1) e4.1) (λc=>?_) λc=>?_
   .obtain⟨vs,k1,k2⟩:=sJ (e4.2 s) c;exact ny (l:=(12,cd s)) Y Y (dU (ra (aE m0) gi Y gf.2.2.2.1) (aE Y) (fG e4.1 Y (sI c))) k1 (aE Gb) (bF k2 zj) (aO (aO ⟨lt,_,_,jP hm Y,e4.Tl c k1 k2 Y,by rw[step,j8,aw c];exact e5.bN (jI _)⟩))
   .rw[j8,av c]at step;have app:∀u,fH (44,[]) 12 (z+j) ts u->fH (45,[]) 13 (z+j) (cX ((ss.take j).foldl j8 (cX sL nm)) s) u->WB n (.c (.e (.bV .a (.u (.a (.v 0) 19) (.v 14)) (.c (.v 13) .n))) .n) (Nx n .n (Fw.lp (λK=>j+1<=ss.length/\∃v u,K=⟨aU [14] v m,mix [12,13,44,45] u h,t⟩/\fH (44,[]) 12 (z+(j+1)) ts u/\fH (45,[]) 13 (z+(j+1)) ((ss.take (j+1)).foldl j8 (cX sL nm)) u) (Nx n r Q))) ⟨aH (aU [14] w m) 14 (.s s),mix [12,13,44,45] u h,t⟩:=λu e4 e5=>by have i:s∈cX ((ss.take j).foldl j8 (cX sL nm)) s:=Kt;obtain⟨vs,k1,k2⟩:=sJ (e5.2 s) i;exact ny (l:=(13,cd s)) Y Y (dU (ra (aE m0) gi Y x9) (aE Y) (fG e5.1 Y (sI i))) k1 (aE Gb) (bF k2 zj) (aO (aO ⟨lt,_,_,jP hm Y,e4.bN (jI _),ak step (e5.Tl i k1 k2 Y)⟩))
    refine rB (Kq (aE Y) (ra (aE m0) gi Y x9) e5.1) (λd=>?_) λd=>aO (app u e4 (aj (qo d).symm e5));refine Af (l:=(45,[])) (13,cd s) Y Y Y (uD (e5.2 s) d) (ra (aE m0) gi Y x9) e5.1 (aE Y) Y (fH.x8 (aL adB ?_)) (aO ?_)
    .exact aL (jY x6 (iG ..)) (by rw[wU];exact fJ zn.2.2)
    .rw[Ae d];exact app _ e4 (ak (qn d) (e5.eH d Y))
  .obtain⟨_,v,u,rfl,e4,e5⟩:=I;rw[bc]at e4 e5;rw[e7]at e5;exact k v u e4 e5
 have mk:=ry (R:=[12,13,44,45]) (h:=h);refine rB (Kq (aE m1) (ra (aE m0) gi Y x9) d5.1) (λc=>?_) λc=>?_
 .rw[mk];refine Af (l:=(45,[])) (13,cd nm) Y Y Y (uD (d5.2 nm) c) (ra (aE m0) gi Y x9) d5.1 (aE m1) Y (fH.x8 (aL (aL (mR ..) zn.2.2) (ao Y))) (aO ?_);rw[Ae c];exact loop _ d4 (ak (qn c) (d5.eH c Y))
 .rw[mk];exact aO (loop _ d4 (aj (qo c).symm d5))
def qv(p:Nat)(nm:aP)(ss dh:Ss)(ps:Vs)(es:Es)(old:Vs)(g:Mp)(h ae:Hp):Prop:=qs p nm ss rC (.i 0) g/\ae (2,[p])=M (.i 1 g)/\ae (3,[p])=M (.l ((dd ss).map .s))/\(∀p',p'≠p->ae (2,[p'])=h (2,[p'])/\ae (3,[p'])=h (3,[p'])/\ae (7,[p'])=h (7,[p']))/\ae (41,[])=M (.l (ps++[.e (2,[p])]))/\ae (43,[])=M (.d (cC es (.s (lX nm ss)) (.e (2,[p]))))/\ae (42,[])=M (.d (eG 8 (cX dh nm)))/\ae (8,cd nm)=M (.l (old++[.e (2,[p])]))/\∀s,s≠nm->ae (8,cd s)=h (8,cd s)
section
variable{ss dh:Ss} {ps:Vs} {old:Vs} {g:Mp} {h ae:Hp} (hh:qv p nm ss dh ps es old g h ae)
def qv.bj:=hh.1
def qv.bb:=hh.2.1
def qv.aT:=hh.2.2.1
def qv.aC:=hh.2.2.2.1
def qv.aJ:=hh.2.2.2.2.1
def qv.aG:=hh.2.2.2.2.2.1
def qv.aI:=hh.2.2.2.2.2.2.1
def qv.aD:=hh.2.2.2.2.2.2.2.1
def qv.b6:=hh.2.2.2.2.2.2.2.2
end
variable{dh:Ss} {ps old:Vs} {b8:Bool}
theorem jQ{r p':Nat}(h:p'≠p):((r,[p']):Loc)≠(r,[p]):=λe=>h (bY (bS e).2).1
theorem adD(ok:qu nm ss)(gi:h (1,[])=M (.i 4 f))(gf:kX f)(gp:h (41,[])=M (.l ps))(zp:ps.length<=100)(gm:h (43,[])=M (.d es))(zm:es.length<=100)(gn:h (42,[])=M (.d (eG 8 dh)))(zn:dh.length<=100)(g8:if nm∈dh then h (8,cd nm)=M (.l old)else h (8,cd nm)=U/\old=[])(zo:old.length<=100)
 (fr:h (2,[p])=U/\h (3,[p])=U/\h (7,[p])=U)(hs:h (62,x)=M (.l (ss.map .s)))(m0:m 0=M (.e (1,[])))(m1:m 1=M (.s nm))(m2:m 2=M (.e (62,x)))(m3:m 3=M .n)(m4:m 4=M (.s fU))(m5:m 5=M (.i 0))(m10:m 10=M rC)(CV:m 11=M (.s (lX nm ss)))(Gb:m 13=M (.i p))
 (k:∀v g ae,qv p nm ss dh ps es old g h ae->Q .n ⟨aU [15] v m,mix [2,3,7,8,41,42,43] ae h,t⟩):
 WB (n+2) (.c (.s (.v 15) (.C 1 (.c (.v 13) (.c (.v 1) (.c (.v 2) (.c (.v 10) (.c (.v 3) (.c (.v 4) (.c (.v 5) .n))))))))) (.c (.e (.bV .a (.a (.v 0) 15) (.c (.v 15) .n))) (.c (.cR (.a (.v 0) 17) (.v 11) (.v 15)) (.c (.EM (.bV .a (.u (.a (.v 0) 16) (.v 1)) (.c (.v 15) .n)) (.a (.v 0) 16) (.v 1) (.v 15)) .n)))) Q ⟨m,h,t⟩:=by
 refine cj (BN (rl (a6 (aE Gb) (a6 (aE m1) (a6 (aE m2) (a6 (aE m10) (a6 (aE m3) (a6 (aE m4) (a6 (aE m5) br))))))) ((adp ok.aC hs fr.1 fr.2.1 fr.2.2 λg pf=>?_).o)));rw[kQ (R:=[2,3,7,8,41,42,43]) (h:=h) Y,bA Y,bA Y];have hm:aH m 15 (.e (2,[p]))=aU [15] (aH m 15 (.e (2,[p]))) m:=by rw[<-bH Y,<-gH]
 generalize hu:((h.aF (3,[p]) _).aF (7,[p]) _).aF (2,[p]) _=u;have e2:u (2,[p])=M (.i 1 g):=aj hu a4
 refine ny (l:=(41,[])) Y Y (ra (aE m0) gi Y gf.1) (aj hu gp) (aE Y) (bF zp (ao Y)) (Ko (l:=(43,[])) Y (ra (aE m0) gi Y gf.2.2.1) (aj hu gm) (aE CV) (aE Y) Y (bF zm (ao Y)) (d7 ?_));have Ku:=gf.2.1
 have jM:∀p',p'≠p->u (2,[p'])=h (2,[p'])/\u (3,[p'])=h (3,[p'])/\u (7,[p'])=h (7,[p']):=λp' e=>aj hu ⟨aQ (jQ e),aQ (jQ e),aQ (jQ e)⟩;have e3:u (3,[p])=M (.l ((dd ss).map .s)):=aj hu a4
 have Gd:u (42,[])=M (.d (eG 8 dh)):=aj hu gn;by_cases c:nm∈dh
 .have k8:u (8,cd nm)=M (.l old):=hu▸sJ g8 c;refine abP (iu (re (dU (ra (aE m0) gi Y Ku) (aE m1) (fG Gd Y (sI c))) ⟨_,II k8,rl (a6 (aE Y) br) (Fd (show(8:Nat)≠0 by decide) k8 (bF zo (ao Y)) (aO ?_))⟩))
  show Q .n ⟨aH m 15 (.e (2,[p])),(mix [2,3,7,8,41,42,43] ((u.aF (41,[]) (.l (ps++[.e (2,[p])]))).aF (43,[]) (.d (cC es (.s (lX nm ss)) (.e (2,[p]))))) h).aF (8,cd nm) (.l (old++[.e (2,[p])])),t⟩;rw[bA Y,hm];refine k _ g _ ⟨pf,e2,e3,jM,Y,Y,?_,a4,λs e=>(aQ λw=>e (Ad (aq sg w))).trans (aj hu Y)⟩;rw[qo c];exact Gd
 .obtain⟨k8,ho⟩:=uD g8 c;subst ho;have n8:u (8,cd nm)=U:=aj hu k8
  refine abQ (abN (RH (ra (aE m0) gi Y Ku) (aE m1) Gd Y (aiB.mp ?_))) m0 m1 Y Y Y (fH.x8 zn) (dF (8,cd nm) Y n8 ⟨⟨f,gi,Ku⟩,Gd,aO ?_⟩)
  .rw[<-aje,F8,aA c];rfl
  .show Q .n ⟨aH m 15 (.e (2,[p])),((mix [2,3,7,8,41,42,43] ((u.aF (41,[]) (.l (ps++[.e (2,[p])]))).aF (43,[]) (.d (cC es (.s (lX nm ss)) (.e (2,[p]))))) h).aF (8,cd nm) (.l [.e (2,[p])])).aF (42,[]) (.d (cC (eG 8 dh) (.s nm) (.e (8,cd nm)))),t⟩;rw[bA Y,bA Y,hm,Ae c];exact k _ g _ ⟨pf,e2,e3,jM,Y,Y,aj (qn c).symm Y,a4,λs e=>show(Hp.aF u (8,cd nm) (.l [.e (2,[p])])) (8,cd s)=h (8,cd s) from(aQ λw=>e (Ad (aq sg w))).trans (aj hu Y)⟩
abbrev cJ:=aP×Ss
noncomputable def fi(gs:List cJ)(k:Nat):Ss:=dd ((gs.take k).map (·.1))
noncomputable def fX(gs:List cJ)(k:Nat):Ss:=(gs.take k).foldl (λl r=>r.2.foldl j8 (cX l r.1)) []
noncomputable def rD(k:Nat):Vs:=.n::(iW k).map λp=>.e (2,[p+1])
noncomputable def named(gs:List cJ)(k:Nat)(s:aP):Vs:=((iW k).filter λp=>decide (∃r,gs[p]?=M r/\r.1=s)).map λp=>V.e (2,[p+1])
structure GA(gs:List cJ)(k:Nat)(f:Mp)(F:Nat->Mp)(u:Hp):Prop where
 aC:u (1,[])=M (.i 4 f)
 aD:kX f
 bb:u (41,[])=M (.l (rD k))
 bj:u (42,[])=M (.d (eG 8 (fi gs k)))
 jq:∃es,u (43,[])=M (.d es)/\es.map (·.1)=(gs.take k).map λr=>.s (lX r.1 r.2)
 aI:fH (44,[]) 12 (100*k) ts u
 aG:fH (45,[]) 13 (100*k) (fX gs k) u
 cF:u (46,[])=M (.d [])
 b6:u (47,[])=M (.d [])
 aT:u (48,[])=M (.d [])
 eO:∀p r,p<k->gs[p]?=M r->qs (p+1) r.1 r.2 rC (.i 0) (F (p+1))/\u (2,[p+1])=M (.i 1 (F (p+1)))/\u (3,[p+1])=M (.l ((dd r.2).map .s))
 dC:∀p,k<p\/p=0->u (2,[p])=U/\u (3,[p])=U/\u (7,[p])=U
 aJ:∀s,if s∈fi gs k then u (8,cd s)=M (.l (named gs k s))else u (8,cd s)=U
variable{gs:List cJ} {r:cJ} {F:Nat->Mp}
theorem Tn{l:Ss}{b:aP}(h:b∈l):b∈cX l a:=by
 by_cases c:a∈l
 .rw[qo c];exact h
 .rw[qn c];exact cH _ h
theorem To{l:Ss}{b:aP}(h:b∈cX l a):b∈l\/b=a:=by
 by_cases c:a∈l
 .rw[qo c]at h;exact .inl h
 .rw[qn c]at h;exact(cD.mp h).imp id bp.mp
theorem Kv:(rD k).length=k+1:=by rw[rD,oE,bc,iU]
theorem adF:rD k++[.e (2,[k+1])]=rD (k+1):=by rw[rD,rD,WD,dc];rfl
theorem Tq(h:gs[k]?=M r):fi gs (k+1)=cX (fi gs k) r.1:=by rw[fi,take_snoc h,dc,dd,u7];rfl
theorem Ts:(fi gs k).length<=k:=aL qr (by rw[bc];exact M' ..)
theorem adG(h:gs[k]?=M r):fX gs (k+1)=r.2.foldl j8 (cX (fX gs k) r.1):=by rw[fX,take_snoc h,u7];rfl
theorem adH:(named gs k s).length<=k:=by rw[named,bc];exact aL (GZ ..) (fR iU)
theorem adI(h:gs[k]?=M r):named gs (k+1) s=if r.1=s then named gs k s++[.e (2,[k+1])]else named gs k s:=by
 rw[named,WD,List.filter_append,dc];by_cases e:r.1=s
 .rw[aw e,Ni,aw (az ⟨r,h,e⟩)];rfl
 .rw[av e,Ni,av λw=>(aB w).elim λr' q=>e (ak (bu (h.symm.trans q.1)) q.2)];exact hY _
theorem GA.next{ae u1 u3:Hp}{g:Mp}(G:GA gs k f F h)(hr:gs[k]?=M r)(P:qv (k+1) r.1 r.2 (fi gs k) (rD k) es (if r.1∈fi gs k then named gs k r.1 else []) g (mix [12,13,44,45] u3 (mix [99] u1 h)) ae)(d4:fH (44,[]) 12 (100*k+r.2.length) ts u3)(d5:fH (45,[]) 13 (100*k+r.2.length) (r.2.foldl j8 (cX (fX gs k) r.1)) u3)
 (em:es.map (·.1)=(gs.take k).map λr=>.s (lX r.1 r.2))(new:V.s (lX r.1 r.2)∉es.map (·.1))(zr:r.2.length<=100)(nn:r.1∉fi gs k->named gs k r.1=[]):GA gs (k+1) f (λp=>if p=k+1 then g else F p) (mix [2,3,7,8,41,42,43] ae (mix [12,13,44,45] u3 (mix [99] u1 h)))where
 aC:=G.aC
 aD:=G.aD
 bb:=P.aJ.trans (aq (λx=>M (af.l x)) adF)
 bj:=ak (Tq hr) P.aI
 jq:=⟨_,P.aG,by rw[kW new,dc,em,take_snoc hr,dc];rfl⟩
 aI:=d4.bN (eQ zr _)
 aG:=ak (adG hr) (d5.bN (eQ zr _))
 cF:=G.cF
 b6:=G.b6
 aT:=G.aT
 eO:=λp r' lt hp=>by
  by_cases e:p=k
  .subst e;obtain rfl:=bu (hr.symm.trans hp);exact⟨ak (aw (c:=p+1=p+1) Y) P.bj,ak (aw (c:=p+1=p+1) Y) P.bb,P.aT⟩
  .have w:=G.eO p r' (u4 (AZ lt) e) hp;have ne:p+1≠k+1:=λq=>e (qK q)
   rw[av ne];exact⟨w.1,(P.aC _ ne).1.trans w.2.1,(P.aC _ ne).2.1.trans w.2.2⟩
 dC:=λp hp=>by
  have ne:p≠k+1:=λq=>hp.elim (λw=>dI _ (q▸w)) λw=>dS (q.symm.trans w) Y;have w:=G.dC p (hp.imp ajA id)
  exact⟨(P.aC _ ne).1.trans w.1,(P.aC _ ne).2.1.trans w.2.1,(P.aC _ ne).2.2.trans w.2.2⟩
 aJ:=λs=>by
  rw[Tq hr,adI hr];by_cases e:r.1=s
  .subst e;rw[aw Kt,aw Y];refine P.aD.trans ?_;by_cases m:r.1∈fi gs k
   .rw[aw m]
   .rw[av m,nn m]
  .rw[av e];have w:=G.aJ s
   have q:=P.b6 s λw=>e w.symm;by_cases m:s∈fi gs k
   .exact rz (Tn m) (q.trans (sJ w m))
   .exact oV (λc=>(To c).elim m λc=>e c.symm) (q.trans (uD w m))
theorem CX{l:Ss}:∀{b:Ss},a∈l\/a∈b->a∈l.foldl cX b:=by
 induction l with
 |nil=>exactλh=>h.resolve_left λw=>bw w
 |cons c l ih=>exactλh=>ih (h.elim (λh=>(b0.mp h).elim (λe=>.inr (aj e Kt)) .inl) λh=>.inr (Tn h))
theorem adJ(h:s∉fi gs k):named gs k s=[]:=by
 rw[named,ajh,List.filter_eq_nil_iff];intro p hp w;obtain⟨r,hr,e⟩:=aB w;have lt:=gY.mp hp
 exact h (CX (.inl (aj e (dw (bE (i:=p) (by rw[G5,aw lt];exact hr))))))
noncomputable abbrev aR:Nl:=[2,3,7,8,12,13,41,42,43,44,45,99]
theorem adK{Q:RQ}(G:GA gs k f F h)(hr:gs[k]?=M r)(ok:qu r.1 r.2)(new:V.s (lX r.1 r.2)∉(gs.take k).map λr=>V.s (lX r.1 r.2))(zk:k<=90)(zr:r.2.length<=9)(zn:(fX gs k).length<=90)(hs:h (62,x)=M (.l (r.2.map .s)))
 (q:∀F' u t',GA gs (k+1) f F' (mix aR u h)->Q .n (mix aR u h) t'):bI (n+3) (bJ 25) [.e (1,[]),.s r.1,.e (62,x)] Q h t:=by
 obtain⟨es,ge,ek⟩:=G.jq;refine fP acQ Y (ady (n:=n+1) ok G.aC G.aD.2.2.2.1 G.aI.1 hs Y Y Y λv1 u1 t1=>?_);refine adA (n:=n+1) ok G.aC G.aD G.bb ge G.aI.1 G.aT hs (ak ek new) Y Y Y λv2 CY C3 Tt=>?_;refine adC G.aC G.aD G.aI G.aG ⟨aL zr (ao Y),aL (mQ 100 zk) (ao Y),jY zn zr⟩ hs Y Y Y Tt λv3 u3 d4 d5=>?_;refine adD (p:=k+1) ok G.aC G.aD G.bb (by rw[Kv];exact fJ (aL zk (ao Y))) ge (by rw[<-bc (f:=(·.1)),ek,bc];exact aL (M' ..) (aL zk (ao Y))) G.bj (aL Ts (aL zk (ao Y))) (old:=if r.1∈fi gs k then named gs k r.1 else []) ?_ ?_ (G.dC (k+1) (.inl (jd k))) hs Y Y Y Y Y Y CY C3 (Tt.trans (aq (λx:Nat=>M (V.i x)) Kv)) λv4 g ae P=>?_
 .have w:=G.aJ r.1;by_cases m:r.1∈fi gs k
  .rw[aw m,aw m];exact sJ w m
  .rw[av m,av m];exact⟨uD w m,Y⟩
 .by_cases m:r.1∈fi gs k
  .rw[aw m];exact aL adH (aL zk (ao Y))
  .rw[av m];exact b7 _
 .have G':=G.next hr P d4 d5 ek (ak ek new) (aL zr (ao Y)) adJ;have e:mix [2,3,7,8,41,42,43] ae (mix [12,13,44,45] u3 (mix [99] u1 h))=mix aR (mix [2,3,7,8,41,42,43] ae (mix [12,13,44,45] u3 (mix [99] u1 h))) h:=by have w:=ry (R:=aR) (h:=h);rw[<-gG (R:=aR) Y,<-gG (R:=aR) Y,<-gG (R:=aR) Y,<-w]
  have z:=q (λp=>if p=k+1 then g else F p) (mix [2,3,7,8,41,42,43] ae (mix [12,13,44,45] u3 (mix [99] u1 h))) t1 (by rw[<-e];exact G')
  rw[<-e]at z;exact z
noncomputable def bD:aP:="S"
noncomputable def sP:aP:="S'"
noncomputable def hP(gs:List cJ):List cJ:=(sP,[bD])::gs
noncomputable def refs(n:Nat):Vs:=(iW n).map λp=>.e (2,[p])
structure GS(gs:List cJ)(f:Mp)(F:Nat->Mp)(u:Hp):Prop where
 aC:u (1,[])=M (.i 4 f)
 aG:kX f
 aI:u (41,[])=M (.l (refs (gs.length+1)))
 bb:u (42,[])=M (.d (eG 8 (fi gs gs.length)))
 aT:u (44,[])=M (.d (eG 12 ts))
 aJ:u (45,[])=M (.d (eG 13 (fX gs gs.length)))
 dC:u (46,[])=M (.d [])
 cF:u (47,[])=M (.d [])
 b6:u (48,[])=M (.d [])
 aD:∀p r,(hP gs)[p]?=M r->qs p r.1 r.2 rC (.i 0) (F p)/\u (2,[p])=M (.i 1 (F p))/\u (3,[p])=M (.l ((dd r.2).map .s))
 bj:∀s∈fi gs gs.length,u (8,cd s)=M (.l (named gs gs.length s))
theorem adL:x7 sP [bD]:=⟨ao Y,ao Y,ao Y,by decide+kernel,by decide+kernel,by decide+kernel,ao Y,ao Y,by decide+kernel⟩
variable{Q:RQ}
theorem adM:(rD n).set 0 (.e (2,[0]))=refs (n+1):=by rw[rD,refs,List.range_succ_eq_map,nN,fA];rfl
theorem adN(G:GA gs gs.length f F h)(hS:bD∈fX gs gs.length)(zk:gs.length<=90)(q:∀F' u t',GS gs (aH f 24 (.s bD)) F' u->Q .n (mix [1,2,3,7,13,41,99] u h) t'):bI (n+3) (bJ 26) [.e (1,[]),.s bD] Q h t:=by
 obtain⟨k2,k3,k7⟩:=G.dC 0 (.inr Y);refine fP adh Y (i8 (lS (p:=O) (fc (aE Y) (Zo (ao Y)))) (aO (Tj (Kq (aE Y) (ra (aE Y) G.aC Y G.aD.2.2.2.2.1) G.aG.1) hS (fW (pE (BN (eC (re bW (eC (re du (eC (fw (rl (a6 (aE Y) br) ⟨(by decide:1<=16777216),kC (eB ((adq (p:=0) (ss:=[bD]) (h:=h.aF (bz t) (.l ([bD].map .s))) adL a4 k2 k3 k7 λg pf=>?_).o))⟩)))))))))))))
 show WE _ _ _ ⟨_,(((h.aF (bz t) (.l ([bD].map .s))).aF (3,[0]) (.l ((dd [bD]).map .s))).aF (7,[0]) (.l [])).aF (2,[0]) (.i 1 g),t+1⟩;rw[kQ (R:=[1,2,3,7,13,41,99]) (h:=h) Y,bA Y,bA Y,bA Y];generalize hu:(((h.aF _ _).aF (3,[0]) _).aF (7,[0]) _).aF (2,[0]) _=u;obtain⟨vs,k8,k9⟩:=sJ (G.aG.2 bD) hS;have p0:u (41,[])=M (.l (rD gs.length)):=aj hu G.bb
 have g1:u (1,[])=M (.i 4 f):=aj hu G.aC;have g13:u (13,cd bD)=M (.l vs):=aj hu k8
 refine re (ra (aE Y) g1 Y G.aD.1) (re bW (YW (j:=0) (l:=(41,[])) (show(41:Nat)≠0 by decide) p0 (by rw[Kv];exact fY _) ?_))
 show WB _ _ _ ⟨_,(mix [1,2,3,7,13,41,99] u h).aF (41,[]) _,t+1⟩;rw[bA Y,adM];refine ny (l:=(13,cd bD)) Y Y (dU (ra (aE Y) g1 Y G.aD.2.2.2.2.1) (aE Y) (fG G.aG.1 Y (sI hS))) g13 bW (bF k9 (bF (mQ 100 zk) (ao Y))) (uC (l:=(1,[])) Y Y (aE Y) g1 (aE Y) (aO (q (λp=>if p=0 then g else F p) _ _ ?_)));refine⟨Y,G.aD,Y,aj hu G.bj,aj hu G.aI.1,aj hu G.aG.1,aj hu G.cF,aj hu G.b6,aj hu G.aT,λp r hp=>?_,λs hs=>aj hu (sJ (G.aJ s) hs)⟩;cases p with
 |zero=>cases hp;exact⟨pf,aj hu Y,aj hu Y⟩
 |succ p=>
  have hp:gs[p]?=M r:=hp;have w:=G.eO p r (cV.mp hp).1 hp
  rw[av (yN p)];exact⟨w.1,aj hu w.2.1,aj hu w.2.2⟩
theorem adP{z:V}(hy:vs[vs.length-1]?=M z):I2 K (V.bP vs) (.i (-1)) z:=λF A n W s v u T vx vy=>b5 (VR.kJ.mp vx) λa q=>q.elim λa7 q=>q.1▸b5 vy λt e=>e▸
 have g:=T.aC.th a a7 q.2.1;have ln:=q.2.2.gU
 have lt:0<vs.length:=bF (b7 _) (cV.mp hy).1
 have sq:yT (-1) (vs.length:Nat)=M (vs.length-1):=by
  have e:(-1:Int)+(vs.length:Nat)=((vs.length-1:Nat):Int):=(Nt ..).trans (akc lt).symm;have k:=EX (Xj lt xb)
  unfold yT at k⊢;rw[av (vm.mpr (jH _))]at k;rw[aw (by decide:(-1:Int)<0),e]
  exact k
 ⟨⟨"tuple",_,⟨_,g,Y⟩,GU.lookup⟩,(q.2.2.lI hy).elim λw r=>air (items:=a7.toArray) ⟨_,g,Y,0,Y⟩ (ao Y) (ao Y) (by rw[wV,ln];exact sq) (by rw[uY];exact r.1) ⟨⟨s.toks,Y⟩,r.2⟩⟩
noncomputable def lY(dh ss:Ss)(p i:Nat):Loc:=match ss[i]? with|some s=>if s∈dh then(8,cd s)else(9,[p,i])|none=>(9,[p,i])
def kY(dh:Ss)(p i:Nat)(nm:aP)(ss:Ss)(f:Mp)(ae:Hp):Prop:=Kn p i nm ss f/\f 28=M (.e (lY dh ss p i))/\(∀s,0<i->ss[i-1]?=M s->f 29=M (.s s))/\ae (5,[p,i])=M (.i 2 f)/\ae (6,[p,i])=M (.d [])/\(lY dh ss p i=(9,[p,i])->ae (9,[p,i])=M (.l []))
section
variable{ae:Hp} (hh:kY dh p i nm ss f ae)
def kY.aC:=hh.1
def kY.aI:=hh.2.1
def kY.aT:=hh.2.2.1
def kY.aD:=hh.2.2.2.1
def kY.aJ:=hh.2.2.2.2.1
def kY.aG:=hh.2.2.2.2.2
end
variable{Q:QF} {g:Mp} {line:V} {r:Sx}
theorem Kw(hi:i<=ss.length)(h:ss[i]?=M s):(dot ss i)[i+1]?=M s:=by
 have e:(ss.take i).length=i:=by rw[Hb,Hj hi]
 rw[dot,aiI (by rw[e];exact jI i),e,Nat.add_sub_cancel_left,List.getElem?_cons_succ,Wm]
 exact h
theorem adQ(hi:i+1<=ss.length):(dot ss (i+1))[i]?=ss[i]?:=by
 have e:(ss.take (i+1)).length=i+1:=by rw[Hb,Hj hi]
 rw[dot,AQ (by rw[e];exact jd i),G5,aw (jd i)]
theorem adR(gi:h (1,[])=M (.i 4 f))(gf:kX f)(gn:h (42,[])=M (.d (eG 8 dh)))(h2:h (2,[p])=M (.i 1 g))(pf:qs p nm ss prec line g)(hi:i<=ss.length)(zs:ss.length<=100)(h5:h (5,[p,i])=U)(h6:h (6,[p,i])=U)(h9:h (9,[p,i])=U)
 (m0:m 0=M (.e (1,[])))(m1:m 1=M (.e (2,[p])))(m3:m 3=M (.i i))
 (k:∀f ae t',kY dh p i nm ss f ae->(∀y,y≠[p,i]->ae (5,y)=h (5,y)/\ae (6,y)=h (6,y)/\ae (9,y)=h (9,y))->WB (n+2) r Q ⟨aH m 5 (.e (5,[p,i])),mix [5,6,9,99] ae h,t'⟩):
 WB (n+2) (.c (.s (.v 5) (.C 2 (.c (.v 1) (.c (.v 3) .n)))) (.c (.Bu (.v 5) 28 (.u (.a (.v 0) 16) (.u (.a (.v 5) 1) (.b .Add (.v 3) (.cI 1))))) (.c (.Bt (.c (.cW (.v 5) 29 (.u (.a (.v 5) 1) (.b .Sub (.v 3) (.cI 1)))) .n)) r))) Q ⟨m,h,t⟩:=by
 refine cj (BN (rl (a6 (aE m1) (a6 (aE m3) br)) ((adt h2 pf.1 pf.2.1 pf.2.2.1 pf.2.2.2.2.2.2.1 hi zs h5 h6 λf u it=>?_).o)));rw[kQ (R:=[5,6,9,99]) (h:=h) Y,gG Y,bA Y];generalize hu:(mix [99] u (h.aF (6,[p,i]) _)).aF (5,[p,i]) _=v;have e5:v (5,[p,i])=M (.i 2 f):=aj hu a4
 have jM:∀y,y≠[p,i]->v (5,y)=h (5,y)/\v (6,y)=h (6,y)/\v (9,y)=h (9,y):=λy e=>aj hu ⟨aQ λw=>e (bS w).2,(show(h.aF (6,[p,i]) (.d [])) (6,y)=_ from aQ λw=>e (bS w).2),Y⟩
 have e6:v (6,[p,i])=M (.d []):=aj hu a4;have e9:v (9,[p,i])=U:=aj hu h9
 have fin:∀ae f2 t',ae (5,[p,i])=M (.i 2 f2)->Kn p i nm ss f2->f2 28=M (.e (lY dh ss p i))->ae (6,[p,i])=M (.d [])->(lY dh ss p i=(9,[p,i])->ae (9,[p,i])=M (.l []))->(∀y,y≠[p,i]->ae (5,y)=h (5,y)/\ae (6,y)=h (6,y)/\ae (9,y)=h (9,y))->
  WB (n+2) (.c (.Bt (.c (.cW (.v 5) 29 (.u (.a (.v 5) 1) (.b .Sub (.v 3) (.cI 1)))) .n)) r) Q ⟨aH m 5 (.e (5,[p,i])),mix [5,6,9,99] ae h,t'⟩:=λae f2 t' e5 it a28 e6 e9 jM=>by
  have done:∀z,(∀s,0<i->ss[i-1]?=M s->z=.s s)->WB (n+2) r Q ⟨aH m 5 (.e (5,[p,i])),mix [5,6,9,99] (ae.aF (5,[p,i]) (.i 2 (aH f2 29 z))) h,t'⟩:=λz hz=>
   k (aH f2 29 z) _ t' ⟨it,a28,λs h0 hs=>aq M (hz s h0 hs),a4,e6,e9⟩ λy e=>⟨(aQ λw=>e (bS w).2).trans (jM y e).1,(jM y e).2⟩
  refine d7 (abO ?_);cases i with
  |zero=>
   have lt:0<((dot ss 0).map V.s).length:=by rw[bc,F7 hi];exact fY _
   obtain⟨z,hz⟩:=lW (l:=(dot ss 0).map V.s) (Xj lt xb);exact uC (l:=(5,[p,0])) Y Y (aE Y) e5 (dU (ra (aE Y) e5 Y it.2.1) (jC (aE m3) bW vH) (adP hz)) (aO (done z λs h0=>ax h0 (dI 0)))
  |succ j=>
   obtain⟨s,hs⟩:=lW hi;have e:((j+1:Nat):Int)-1=(j:Nat):=succ_sub j
   exact uC (l:=(5,[p,j+1])) Y Y (aE Y) e5 (dU (ra (aE Y) e5 Y it.2.1) (e▸jC (aE m3) bW vH) (EY (iO ((adQ hi).trans hs)))) (aO (done _ λs' q pG=>aq V.s (bu (hs.symm.trans pG))))
 have rr:RE ⟨aH m 5 (.e (5,[p,i])),mix [5,6,9,99] v h,t+1⟩ (.b .Add (.v 3) (.cI 1)) (.i (i+1:Nat)):=jC (aE m3) bW qk;have r1:RE ⟨aH m 5 (.e (5,[p,i])),mix [5,6,9,99] v h,t+1⟩ (.a (.v 5) 1) (V.bP ((dot ss i).map .s)):=ra (aE Y) e5 Y it.2.1
 have r0:RE ⟨aH m 5 (.e (5,[p,i])),mix [5,6,9,99] v h,t+1⟩ (.a (.v 0) 16) (.e (42,[])):=ra (aE m0) gi Y gf.2.1;have out:lY dh ss p i=(9,[p,i])->∀X,X="KeyError"\/X="IndexError"->RZ ⟨aH m 5 (.e (5,[p,i])),mix [5,6,9,99] v h,t+1⟩ (.u (.a (.v 0) 16) (.u (.a (.v 5) 1) (.b .Add (.v 3) (.cI 1)))) X->WB (n+2) (.c (.Bu (.v 5) 28 (.u (.a (.v 0) 16) (.u (.a (.v 5) 1) (.b .Add (.v 3) (.cI 1))))) (.c (.Bt (.c (.cW (.v 5) 29 (.u (.a (.v 5) 1) (.b .Sub (.v 3) (.cI 1)))) .n)) r)) Q ⟨aH m 5 (.e (5,[p,i])),mix [5,6,9,99] v h,t+1⟩:=λea X hX hz=>
  d7 (abU hz hX Y Y (dF (9,[p,i]) Y e9 ⟨f,e5,by show WB (n+2) _ Q ⟨aH m 5 (.e (5,[p,i])),((mix [5,6,9,99] v h).aF (9,[p,i]) (.l [])).aF (5,[p,i]) (.i 2 (aH f 28 (.e (9,[p,i])))),t+1⟩;rw[bA Y,bA Y];exact fin _ (aH f 28 (.e (9,[p,i]))) _ a4 it (aj ea.symm Y) e6 (λq=>a4) λy e=>⟨(aQ λw=>e (bS w).2).trans (jM y e).1,(jM y e).2.1,(show(Hp.aF v (9,[p,i]) (.l [])) (9,y)=_ from aQ λw=>e (bS w).2).trans (jM y e).2.2⟩⟩))
 cases hs:ss[i]? with
 |none=>have ei:i=ss.length:=w9 hi (mN.mp hs);exact out (by unfold lY;rw[hs]) _ (.inr Y) (abM r0 (abL r1 rr (by rw[bc,F7 hi,ei];exact dj _) (aL (fJ (aL hi zs)) (ao Y))))
 |some s=>
  have rs:=dU r1 rr (EY (iO (Kw hi hs)));by_cases c:s∈dh
  .have ea:lY dh ss p i=(8,cd s):=by unfold lY;rw[hs];exact aw c
   refine d7 (abT (re (dU r0 rs (fG gn Y (sI c))) (re (aE Y) (su e5 Y ?_))));show WB (n+2) _ Q ⟨aH m 5 (.e (5,[p,i])),(mix [5,6,9,99] v h).aF (5,[p,i]) (.i 2 (aH f 28 (.e (8,cd s)))),t+1⟩;rw[bA Y];exact fin _ (aH f 28 (.e (8,cd s))) _ a4 it (aj ea.symm Y) e6 (λw=>X0 (ea.symm.trans w) Y) λy e=>⟨(aQ λw=>e (bS w).2).trans (jM y e).1,(jM y e).2⟩
  .refine out (by unfold lY;rw[hs];exact av c) _ (.inl Y) (RH r0 rs gn Y ?_)
   rw[<-aiB,<-aje,F8,aA c];rfl
noncomputable def sM(q j:Nat)(ss:Ss):V:=if j<ss.length then .e (5,[q,j+1])else .n
def LJ(gs:List cJ)(dh:Ss)(p i:Nat)(u:Hp):Prop:=(∀q r,(hP gs)[q]?=M r->∃g,u (2,[q])=M (.i 1 g)/\qs q r.1 r.2 rC (.i 0) g/\(q<p\/q=p/\0<i->g 11=M (.e (5,[q,0]))))/\(∀q r j,(hP gs)[q]?=M r->j<=r.2.length->q<p\/q=p/\j<i->∃f,kY dh q j r.1 r.2 f u/\(q<p\/j+1<i->f 11=M (sM q j r.2)))/\∀q j,p<q\/q=p/\i<=j->u (5,[q,j])=U/\u (6,[q,j])=U/\u (9,[q,j])=U
variable(hh:LJ gs dh p i u)
def LJ.aD:=hh.1
def LJ.aC:=hh.2.1
def LJ.aG:=hh.2.2
variable{ae:Hp} {r:cJ} {z:V}
theorem qw{a b c d:Nat}(h:[a,b]=[c,d]):a=c/\b=d:=⟨(bY h).1,(bY (bY h).2).1⟩
theorem kY.aH{q:Nat}{W:Hp}(x:kY dh q j nm ss f u)(h5:W (5,[q,j])=M (.i 2 (aH f 11 z)))(h6:W (6,[q,j])=u (6,[q,j]))(h9:W (9,[q,j])=u (9,[q,j])):kY dh q j nm ss (aH f 11 z) W:=⟨x.aC,x.aI,x.aT,h5,h6.trans x.aJ,λe=>h9.trans (x.aG e)⟩
theorem kY.eq{q:Nat}{W:Hp}(x:kY dh q j nm ss f u)(h5:W (5,[q,j])=u (5,[q,j]))(h6:W (6,[q,j])=u (6,[q,j]))(h9:W (9,[q,j])=u (9,[q,j])):kY dh q j nm ss f W:=⟨x.aC,x.aI,x.aT,h5.trans x.aD,h6.trans x.aJ,λe=>h9.trans (x.aG e)⟩
def LS(dh:Ss)(p i:Nat)(r:cJ)(f:Mp)(u ae:Hp):Prop:=kY dh p i r.1 r.2 f ae/\(∀y,y≠[p,i]->ae (5,y)=u (5,y)/\ae (6,y)=u (6,y)/\ae (9,y)=u (9,y))/\∀y,ae (2,y)=u (2,y)
variable(hh:LS dh p i r f u ae)
def LS.aD:=hh.1
def LS.aC:=hh.2.1
def LS.aG:=hh.2.2
theorem LJ.adT(J:LJ gs dh p 0 u)(hr:(hP gs)[p]?=M r)(S:LS dh p 0 r f u ae)(hg:u (2,[p])=M (.i 1 g))(pf:qs p r.1 r.2 rC (.i 0) g):LJ gs dh p 1 (ae.aF (2,[p]) (.i 1 (aH g 11 (.e (5,[p,0]))))):=
 ⟨λq r' hq=>by
  by_cases e:q=p
  .subst e;obtain rfl:=bu (hr.symm.trans hq);exact⟨_,a4,pf,λa=>Y⟩
  .obtain⟨g',k1,k2,k3⟩:=J.aD q r' hq;exact⟨g',(aQ (jQ e)).trans ((S.aG _).trans k1),k2,λw=>k3 (w.imp id λw=>ax w.1 e)⟩,
 λq r' j hq hj hd=>by
  by_cases e:q=p
  .subst e;obtain rfl:j=0:=Hm.mp (hd.resolve_left (dI _)).2;obtain rfl:=bu (hr.symm.trans hq);exact⟨f,S.aD.eq Y Y Y,λw=>w.elim (λw=>ax w (dI _)) λw=>ax w (ao Y)⟩
  .have ne:[q,j]≠[p,0]:=λw=>e (bY w).1;obtain⟨f',k1,k2⟩:=J.aC q r' j hq hj (.inl (hd.resolve_right λw=>e w.1));exact⟨f',k1.eq (S.aC _ ne).1 (S.aC _ ne).2.1 (S.aC _ ne).2.2,λw=>k2 (.inl (hd.resolve_right λw=>e w.1))⟩,
 λq j hd=>by
  have ne:[q,j]≠[p,0]:=λw=>hd.elim (λq'=>dI _ ((qw w).1▸q')) λq'=>ax q'.2 (by rw[(qw w).2];decide)
  have k:=J.aG q j (hd.imp id λw=>⟨w.1,b7 _⟩);exact⟨(S.aC _ ne).1.trans k.1,(S.aC _ ne).2.1.trans k.2.1,(S.aC _ ne).2.2.trans k.2.2⟩⟩
theorem LJ.adU{f':Mp}(J:LJ gs dh p (i+1) u)(hr:(hP gs)[p]?=M r)(hi:i+1<=r.2.length)(S:LS dh p (i+1) r f u ae)(x':kY dh p i r.1 r.2 f' u):LJ gs dh p (i+2) (ae.aF (5,[p,i]) (.i 2 (jy.Lean.aH f' 11 (.e (5,[p,i+1]))))):=
 ⟨λq r' hq=>(J.aD q r' hq).imp λg' k=>⟨(S.aG _).trans k.1,k.2.1,λw=>k.2.2 (w.imp id λw=>⟨w.1,fY _⟩)⟩,
 λq r' j hq hj hd=>by
  by_cases e:[q,j]=[p,i+1]
  .obtain⟨rfl,rfl⟩:=qw e;obtain rfl:=bu (hr.symm.trans hq);exact⟨f,S.aD.eq (aQ λw=>ax (qw (bS w).2).2 (Nj i)) Y Y,λw=>w.elim (λw=>ax w (dI _)) λw=>ax w (dI _)⟩
  .have o:=S.aC _ e;by_cases e2:[q,j]=[p,i]
   .obtain⟨rfl,rfl⟩:=qw e2;obtain rfl:=bu (hr.symm.trans hq);exact⟨_,x'.aH a4 o.2.1 o.2.2,λa=>aq M (aw hi).symm⟩
   .have Cc:q<p\/q=p/\j<i+1:=hd.imp id λw=>⟨w.1,u4 (AZ w.2) λk=>e (by rw[w.1,k])⟩
    obtain⟨Kx,k1,k2⟩:=J.aC q r' j hq hj Cc;exact⟨Kx,k1.eq ((aQ λw=>e2 (bS w).2).trans o.1) o.2.1 o.2.2,λa=>k2 (Cc.imp id λl=>wZ (u4 (AZ l.2) λk=>e2 (by rw[l.1,k])))⟩,
 λq j hd=>by
  have ne:[q,j]≠[p,i+1]:=λw=>hd.elim (λq'=>dI _ ((qw w).1▸q')) λq'=>ax q'.2 (by rw[(qw w).2];exact dI _)
  have k:=J.aG q j (hd.imp id λw=>⟨w.1,wW w.2⟩);have ne2:((5,[q,j]):Loc)≠(5,[p,i]):=λw=>hd.elim (λq'=>dI _ ((qw (bS w).2).1▸q')) λq'=>ax q'.2 (by rw[(qw (bS w).2).2];exact akv.mpr (qI (jd i)))
  exact⟨(aQ ne2).trans ((S.aC _ ne).1.trans k.1),(S.aC _ ne).2.1.trans k.2.1,(S.aC _ ne).2.2.trans k.2.2⟩⟩
theorem LJ.last{f':Mp}{W:Hp}(J:LJ gs dh p (r.2.length+1) u)(hr:(hP gs)[p]?=M r)(x':kY dh p r.2.length r.1 r.2 f' u)(h5:W (5,[p,r.2.length])=M (.i 2 (jy.Lean.aH f' 11 .n)))(o5:∀y,y≠[p,r.2.length]->W (5,y)=u (5,y))(o6:∀y,W (6,y)=u (6,y)/\W (9,y)=u (9,y))
 (hg:u (2,[p])=M (.i 1 g))(h2:W (2,[p])=M (.i 1 (jy.Lean.aH g 10 z)))(o2:∀y,y≠p->W (2,[y])=u (2,[y])):LJ gs dh (p+1) 0 W:=
 ⟨λq r' hq=>by
  obtain⟨adW,k1,k2,k3⟩:=J.aD q r' hq;by_cases e:q=p
  .subst e;cases k1.symm.trans hg;exact⟨_,h2,k2,λa=>k3 (.inr ⟨Y,fY _⟩)⟩
  .exact⟨adW,(o2 _ e).trans k1,k2,λw=>k3 (.inl (u4 (AZ (w.resolve_right λw=>ax w.2 (dI 0))) e))⟩,
 λq r' j hq hj hd=>by
  have hd:=hd.resolve_right λw=>ax w.2 (w8 j);by_cases e:[q,j]=[p,r.2.length]
  .obtain⟨rfl,rfl⟩:=qw e;obtain rfl:=bu (hr.symm.trans hq);exact⟨_,x'.aH h5 (o6 _).1 (o6 _).2,λa=>aq M (av (dI _)).symm⟩
  .obtain⟨Kx,k1,k2⟩:=J.aC q r' j hq hj (by
    by_cases w:q=p
    .subst w;obtain rfl:=bu (hr.symm.trans hq);exact .inr ⟨Y,AY hj⟩
    .exact .inl (u4 (AZ hd) w))
   refine⟨Kx,k1.eq (o5 _ e) (o6 _).1 (o6 _).2,λa=>k2 ?_⟩;by_cases w:q=p
   .subst w;obtain rfl:=bu (hr.symm.trans hq);exact .inr (wZ (u4 hj λk=>e (by rw[k])))
   .exact .inl (u4 (AZ hd) w),
 λq j hd=>by
  have lt:p<q:=hd.elim ajA λw=>ak w.1 (jd p);have k:=J.aG q j (.inl lt)
  exact⟨(o5 _ λw=>dI _ ((qw w).1▸lt)).trans k.1,(o6 _).1.trans k.2.1,(o6 _).2.trans k.2.2⟩⟩
noncomputable abbrev bR:Nl:=[2,5,6,9,10,99]
noncomputable def adX(p:Nat):Nat->Loc:=λi=>NR (2,[p]) (λi a=>(5,[p,i])) i
def BI(gs:List cJ)(dh:Ss)(p i:Nat)(v:Mp)(u:Hp):Prop:=LJ gs dh p i u/\v 1=M (.e (2,[p]))/\v 2=M (.e (adX p i))/\v 3=M (.i i)/\v 4=M (.e (10,[p]))/\(∃vs,u (10,[p])=M (.l vs)/\vs.length=i)/\∀q,p<q->u (10,[q])=U
section
variable{v:Mp} (hh:BI gs dh p i v u)
def BI.aC:=hh.1
def BI.aD:=hh.2.1
def BI.aJ:=hh.2.2.1
def BI.aI:=hh.2.2.2.1
def BI.aG:=hh.2.2.2.2.1
def BI.bb:=hh.2.2.2.2.2.1
def BI.aT:=hh.2.2.2.2.2.2
end
section
variable{v:Mp}
theorem gtT{a:Sx}(ha:RE K a (.i i)){P:Bool->QA}{N:Nat}(hb:WE N b (λx aS=>x=.i k/\aS=K/\P (decide (k<i)) K) K):WT N (.m .Gt a b) P K:=uk (re ha (by
 intro F A W s q T c;exact wm (hb F A W s q T c) (λu a8 p=>p.cA λW' aZ x R e vx k=>by obtain⟨rfl,rfl,k⟩:=k;exact⟨W',aZ,_,R,e,vx,_,Ph,aj (decide_eq_decide.mpr mV).symm k⟩)))
theorem adZ(gi:h (1,[])=M (.i 4 f))(gf:kX f)(gn:h (42,[])=M (.d (eG 8 dh)))(m0:m 0=M (.e (1,[])))(hr:(hP gs)[p]?=M r)(zs:r.2.length<=100)(hi:i<=r.2.length+1)(B:BI gs dh p i v u)
 (k1:∀v' u' t',i<=r.2.length->BI gs dh p (i+1) v' u'->Q .n ⟨aU [1,2,3,4,5] v' m,mix bR u' h,t'⟩)(k2:∀v' u' t',v' 1=M (.e (2,[p]))->v' 4=M (.e (10,[p]))->(∃g,u' (2,[p])=M (.i 1 g)/\∀ae z,(∀y,y≠p->ae (2,[y])=u' (2,[y]))->ae (2,[p])=M (.i 1 (aH g 10 z))->(∀y,ae (5,y)=u' (5,y)/\ae (6,y)=u' (6,y)/\ae (9,y)=u' (9,y))->LJ gs dh (p+1) 0 ae)->(∀q,p<q->u' (10,[q])=U)->Q .b ⟨aU [1,2,3,4,5] v' m,mix bR u' h,t'⟩):
 WB (n+3) Sh Q ⟨aU [1,2,3,4,5] v m,mix bR u h,t⟩:=by
 obtain⟨g,g2,pf,g11⟩:=B.aC.aD p r hr;refine d7 (oT (gtT (aE B.aI) (k:=r.2.length) (abB (re (aE B.aD) ⟨(2,[p]),1,g,21,Y,g2,pf.2.2.2.2.2.2.2.2.2,Y,adr g2 pf.2.1 ⟨r.2.length,Y,aL zs (ao Y),Y,Y,?_⟩⟩))));by_cases c:r.2.length<i
 .rw[az c];obtain rfl:i=r.2.length+1:=w9 hi c;obtain⟨f',x',_⟩:=B.aC.aC p r r.2.length hr (dj _) (.inr ⟨Y,jd _⟩);refine eF vG (aO (uC (l:=(5,[p,r.2.length])) Y Y (aE B.aJ) x'.aD (aE Y) (iN (lS (p:=Z) (fc (aE Y) rd)) (vW ?_))));have e:aH (aU [1,2,3,4,5] v m) 5 V.n=aU [1,2,3,4,5] (aH v 5 .n) m:=bH Y
  show Q .b ⟨aH (aU [1,2,3,4,5] v m) 5 V.n,_,t⟩;rw[e];exact k2 _ _ t B.aD B.aG ⟨g,g2,λae z o2 h2 o=>B.aC.last hr x' ((o _).1.trans a4) (λy ne=>(o _).1.trans (aQ λw=>ne (bS w).2)) (λy=>⟨(o _).2.1,(o _).2.2⟩) g2 h2 o2⟩ B.aT
 .rw[aA c];have le:=km.mp c
  obtain⟨n5,n6,n9⟩:=B.aC.aG p i (.inr ⟨Y,dj _⟩);refine adR (n:=n+1) gi gf gn g2 pf le zs n5 n6 n9 m0 B.aD B.aI λf' ae t' X o=>aO ?_;rw[gG Y];have S:LS dh p i r f' u (mix [5,6,9,99] ae u):=⟨X.eq Y Y Y,o,λx=>Y⟩
  obtain⟨vs,l1,l2⟩:=B.bb;have fin:∀W,LJ gs dh p (i+1) W->W (5,[p,i])=M (.i 2 f')->W (10,[p])=M (.l vs)->(∀q,p<q->W (10,[q])=U)->WB (n+3) (.c (.i (.o (.l (.v 5))) (.c .z .n) .n) (.c (.e (.bV .a (.v 4) (.c (.v 5) .n))) (.c (.s (.v 2) (.v 5)) (.c (.xB 3 .Add (.cI 1)) .n)))) Q ⟨aH (aU [1,2,3,4,5] v m) 5 (.e (5,[p,i])),mix bR W h,t'⟩:=λW J w5 w10 wf=>by
   refine i8 (lS (p:=O) (fc (aE Y) (Po w5))) (aO (ny (l:=(10,[p])) Y Y (aE B.aG) w10 (aE Y) (bF (aL (fR l2) (aL le zs)) (ao Y)) (eF (aE Y) (fW (BS B.aI (re bW ⟨_,xN,aO ?_⟩))))));have e:aH (aH (aH (aU [1,2,3,4,5] v m) 5 (.e (5,[p,i]))) 2 (.e (5,[p,i]))) 3 (.i ((i:Int)+1))=aU [1,2,3,4,5] (aH (aH (aH v 5 (.e (5,[p,i]))) 2 (.e (5,[p,i]))) 3 (.i ((i:Int)+1))) m:=by rw[bH Y,bH Y,bH Y]
   show Q .n ⟨aH (aH (aH (aU [1,2,3,4,5] v m) 5 (.e (5,[p,i]))) 2 (.e (5,[p,i]))) 3 (.i ((i:Int)+1)),_,t'⟩;rw[e];exact k1 _ _ t' le ⟨⟨J.aD,λq r' j a b d=>(J.aC q r' j a b d).imp λf k=>⟨k.1.eq Y Y Y,k.2⟩,J.aG⟩,B.aD,Y,Y,B.aG,⟨_,a4,by rw[dW,l2];rfl⟩,λq lt=>(aQ (jQ (mU lt))).trans (wf q lt)⟩
  cases i with
  |zero=>exact uC (l:=(2,[p])) Y Y (aE B.aJ) g2 (aE Y) (fin _ (B.aC.adT hr S g2 pf) X.aD l1 B.aT)
  |succ j=>
   obtain⟨akN,x',_⟩:=B.aC.aC p r j hr (wW le) (.inr ⟨Y,jd j⟩);have ne:[p,j]≠[p,j+1]:=λw=>ax (qw w).2 (gZ (jd j))
   exact uC (l:=(5,[p,j])) Y Y (aE B.aJ) ((o _ ne).1.trans x'.aD) (aE Y) (fin _ (B.aC.adU hr le S x') ((aQ λw=>ne (bS w).2.symm).trans X.aD) l1 B.aT)
end
variable{Q:RQ}
theorem Ky{v:V}(h:(refs k)[p]?=M v):p<k/\v=.e (2,[p]):=by
 obtain⟨x,hx,rfl⟩:=dA h;rw[Na (by have:=(cV.mp hx).1;rwa [iU]at this)]at hx
 cases hx;exact⟨by have:=(cV.mp h).1;rwa [refs,bc,iU]at this,Y⟩
theorem ad1(G:GS gs f F h)(zs:∀r∈hP gs,r.2.length<=100)(fr:∀y,h (5,y)=U/\h (6,y)=U/\h (9,y)=U/\h (10,y)=U)(q:∀u t',LJ gs (fi gs gs.length) (gs.length+1) 0 u->Q .n (mix bR u h) t'):bI (n+4) (bJ 30) [.e (1,[])] Q h t:=by
 refine fP acU Y (gw (refs (gs.length+1)) (λp K=>∃v u t,K=⟨aU [1,2,3,4,5] v λi=>([V.e (1,[])]++[])[i]?,mix bR u h,t⟩/\LJ gs (fi gs gs.length) p 0 u/\∀q,p<=q->u (10,[q])=U) (ra (aE Y) G.aC Y G.aG.1) (λj K I=>?_) ⟨_,h,t,jP gH ry,⟨λq r hq=>⟨F q,(G.aD q r hq).2.1,(G.aD q r hq).1,λw=>w.elim (λw=>ax w (w8 _)) λw=>ax w.2 (dI 0)⟩,λq r j a b w=>w.elim (λw=>ax w (w8 _)) λw=>ax w.2 (w8 _),λq j c=>⟨(fr _).1,(fr _).2.1,(fr _).2.2.1⟩⟩,λq c=>(fr _).2.2.2⟩ (λp v K hv I=>?_) λK I=>?_)
 .obtain⟨v,u,t,rfl,_⟩:=I;exact G.aI
 .obtain⟨w,u,t,rfl,J,Ge⟩:=I;obtain⟨lt,rfl⟩:=Ky hv;obtain⟨r,hr⟩:=lW (l:=hP gs) (show p<(hP gs).length from lt)
  refine eF (aE Y) (eF bW (cj (fw (eB ⟨b7 _,dF (10,[p]) Y (Ge p (dj _)) ?_⟩))));show WB _ _ _ ⟨aH (aH (aH (aH (aU [1,2,3,4,5] w _) 1 _) 2 _) 3 _) 4 _,(mix bR u h).aF _ _,_⟩;rw[bA Y,bH Y,bH Y,bH Y,bH Y];refine sH (m₀:=r.2.length+1) (λk K=>∃i v u t,k+i=r.2.length+1/\K=⟨aU [1,2,3,4,5] v λi=>([V.e (1,[])]++[])[i]?,mix bR u h,t⟩/\BI gs (fi gs gs.length) p i v u) ⟨0,_,_,_,Y,Y,⟨⟨J.aD,λq r' j a b d=>(J.aC q r' j a b d).imp λf k=>⟨k.1.eq Y Y Y,k.2⟩,J.aG⟩,Y,Y,Y,Y,⟨[],a4,Y⟩,λq l=>(aQ (jQ (mU l))).trans (Ge q (gB l))⟩⟩ λk K I=>⟨O,fc mY mE,λc=>?_,λe=>cw e⟩;obtain⟨i,v,u,t,ei,rfl,B⟩:=I;refine adZ G.aC G.aG G.bb Y hr (zs r (bE hr)) (aj ei (Nn i k)) B (λv' u' t' le B'=>?_) λv' u' t' e1 e4 nx Ge=>?_
  .cases k with
   |zero=>exact ax (aL (fR (ei.symm.trans (sf i))) le) (ajg _)
   |succ k=>exact⟨k,jd k,i+1,v',u',t',by rw[<-ei,wU];rfl,Y,B'⟩
  .obtain⟨g,g2,nx⟩:=nx;exact uC (l:=(2,[p])) Y Y (aE e1) g2 (aE e4) (aO ⟨v',_,t',Y,nx _ _ (λy ne=>aQ (jQ ne)) a4 λy=>⟨Y,Y,Y⟩,λq l=>Ge q l⟩)
 .obtain⟨v,u,t,rfl,J,_⟩:=I;rw[refs,bc,iU]at J;exact aO (q _ _ J)
abbrev It:=Nat×Nat
noncomputable def a7(I:List It):Vs:=I.map λx=>.e (5,[x.1,x.2])
noncomputable def oW(x:It):V:=V.bP [.i x.1,.i x.2]
noncomputable def kZ(I:List It):V:=V.bP (I.map oW)
def Tv(v:V):V:=V.rec (motive:=λa=>V) .n (λa=>.n) (λa=>.n) (λa=>.n) (λl=>V.bP [.i (l.2.getD 0 0:Nat),.i (l.2.getD 1 0:Nat)]) (λa=>.n) .n (λa a a a=>.n) v
def Tw(gs:List cJ)(h:Hp):Prop:=∀q r j,(hP gs)[q]?=M r->j<=r.2.length->∃f,kY (fi gs gs.length) q j r.1 r.2 f h/\f 11=M (sM q j r.2)
variable{I:List It}
theorem LJ.a7(J:LJ gs (fi gs gs.length) (gs.length+1) 0 h):Tw gs h:=λq r j hq hj=>
 have lt:q<gs.length+1:=(cV.mp hq).1
 (J.aC q r j hq hj (.inl lt)).imp λf k=>⟨k.1,k.2 (.inl lt)⟩
theorem ad2{x:V}(hx:x=.n\/∃l,x=.e l/\h l=M (.l []))(q:Q (V.bP []) h t):bI (n+1) (bJ 6) [x] Q h t:=by
 have ret:WB n (.c (.h (.d .n)) .n) (Nx n (.c (.h (.p .t (.c (.sj (.d (.c (.a (.v 1) 2) (.c (.a (.v 1) 13) .n))) (.v 1) (.v 0) .n [U,U]) .n))) .n) (Rt Q)) ⟨λi=>([x]++[])[i]?,h,t⟩:=jO (mF br (b7 _)) q;rcases hx with rfl|⟨l,rfl,hl⟩
 .exact fP Kf Y (iN (lS (p:=Z) (fc (aE Y) rd)) ret)
 .exact fP Kf Y (iN (lS (p:=Z) (fc (aE Y) (rh (vs:=[]) hl))) ret)
theorem ad3(hI:∀x∈I,∃f,h (5,[x.1,x.2])=M (.i 2 f)/\f 2=M (.i x.1)/\f 13=M (.i x.2))(zI:I.length<=1000)(ne:I≠[])(l9:cQ l.1 99=Z)(hl:h l=M (.l (a7 I)))(q:∀u,Q (kZ I) (mix [99] u h) (t+1)):bI (n+1) (bJ 6) [.e l] Q h t:=by
 have ni:(!(a7 I).isEmpty)=O:=by
  cases I with
  |nil=>exact ax Y ne
  |cons x I=>rfl
 have zl:(a7 I).length<=1000:=by rw[a7,bc];exact zI
 have e:(a7 I).filterMap (λv=>M (Tv v))=I.map oW:=by rw[a7,ajl];exact congrFun M7 I
 refine fP Kf Y (i8 (lS (p:=O) (ni▸fc (aE Y) (rh hl))) (aO (CD (mG Y (eC (B6 (re (aE Y) (mH hl (Kj (a7 I) (λv=>M (Tv v)) (.inl ⟨Y,Y⟩) (λys i=>⟨_,(aQ (bf l9)).trans hl,Y⟩) (λv hv ys ai le k=>?_) (eB (IJ a4 ?_ ?_)))))))))))
 .obtain⟨x,hx,rfl⟩:=bk.mp hv;obtain⟨f,k5,k2,k13⟩:=hI x hx;exact F5 Aa (bF (aL le zl) (ao Y)) (mF (a6 (ra (aE Y) k5 Y k2) (a6 (ra (aE Y) k5 Y k13) br)) (by decide:2<=16777216)) k
 .rw[e,bc];exact aL zI (ao Y)
 .rw[e];show Q _ (h.aF (bz t) _) _;rw[kQ (R:=[99]) (h:=h) Y];exact q _
noncomputable def cG:aP:="$end"
noncomputable def sO:aP:="<empty>"
noncomputable def U1:Ss:=ts++[cG]
noncomputable def U0:Ss:=U1++[sO]
theorem oX [BEq α] [LawfulBEq α]{l:List α}:∀{u:List α},l.Nodup->(∀a∈l,a∈u)->l.length<=u.length:=by
 induction l with
 |nil=>exactλc c=>b7 _
 |cons a l ih=>
  intro u n s;have n:=fQ.mp n
  have s:=kb.mp s;have k:=ih (u:=u.erase a) n.2 λb hb=>(ai9 λe:b=a=>n.1 (aj e hb)).mpr (s.2 b hb)
  rw[aiP s.1]at k;exact Nat.succ_le_of_lt (bF k (Xj (M4 s.1) xb))
def lu(u l:Ss):Prop:=l.Nodup/\∀a∈l,a∈u
theorem lu.pO{u l:Ss}(h:lu u l):l.length<=u.length:=oX h.1 h.2
theorem lu.eH{u l:Ss}(h:lu u l)(i:a∈u)(n:a∉l):lu u (l++[a]):=⟨qY h.1 n,λb hb=>(cD.mp hb).elim (h.2 b) λe=>ak (bp.mp e) i⟩
def gI(l:Loc)(r:Nat)(ks:Ss)(L:aP->Ss)(h:Hp):Prop:=h l=M (.d (eG r ks))/\∀s∈ks,h (r,cd s)=M (.l ((L s).map .s))/\lu U0 (L s)
variable{bs:Ss} {L:aP->Ss}
theorem Tx(gi:h (1,[])=M (.i 4 f))(gf:kX f)(D:gI (46,[]) 14 ks L h)(hb:∀s∈bs,s∈ks)(q:∀rs u t' k,lu U0 rs->u (99,k)=M (.l (rs.map .s))->Q (.e (99,k)) (mix [99] u h) t'):bI (n+1) (bJ 27) [.e (1,[]),V.bP (bs.map .s)] Q h t:=by
 obtain⟨m,hm⟩:∃m,m=aH (λi=>([V.e (1,[]),V.bP (bs.map .s)]++[])[i]?) 2 (.e (bz t)):=⟨_,Y⟩;have m0:m 0=M (.e (1,[])):=ak hm Y
 have m1:m 1=M (V.bP (bs.map .s)):=ak hm Y;have m2:m 2=M (.e (bz t)):=ak hm Y
 refine fP acR Y (cj (fw (eB ⟨b7 _,kC ?_⟩)));show WB _ _ _ ⟨aH (λi=>([V.e (1,[]),V.bP (bs.map .s)]++[])[i]?) 2 (.e (bz t)),h.aF (bz t) (.l []),t+1⟩;rw[<-hm];have fin:∀v rs,lu U0 rs->WB (n+1-1) (.c (.h (.v 2)) .n) (Rt Q) ⟨aU [3,4,5] v m,h.aF (bz t) (.l (rs.map .s)),t+1⟩:=λv rs ok=>jO (aE m2) (by show Q _ (h.aF (bz t) _) _;rw[kQ (R:=[99]) (h:=h) Y];exact q rs _ _ _ ok a4)
 refine d7 (kO (oi (re (aE m1) (I8 (lV (tg:=.v 3) (bs.map .s) (λg K=>∃v rs,K=⟨aU [3,4,5] v m,h.aF (bz t) (.l (rs.map .s)),t+1⟩/\lu U1 rs) (λi K J=>Y) ⟨m,[],jP gH Y,gh,λa w=>bw w⟩ (λj v K hv I=>?_) λK I=>?_)))))
 .obtain⟨w,rs,rfl,ok⟩:=I;obtain⟨s,hs,rfl⟩:=dA hv;obtain⟨e1,e2⟩:=D.2 s (hb s (bE hs));refine eF mY (gw (l:=(14,cd s)) ((L s).map .s) (λg K=>∃v rs b,K=⟨aU [3,4,5] v m,h.aF (bz t) (.l (rs.map .s)),t+1⟩/\v 4=M (.o b)/\lu U1 rs) (dU (ra (aE m0) gi Y gf.2.2.2.2.2.1) (aE Y) (fG D.1 Y (sI (hb s (bE hs))))) (λj K I=>?_) ⟨aH (aH w 3 (.s s)) 4 (.o Z),rs,Z,jP ((aq (aH · 4 (.o Z)) (bH Y)).trans (bH Y)) Y,Y,ok⟩ (λj v K hv I=>?_) λK I=>?_)
  .obtain⟨v,rs,b,rfl,_⟩:=I;exact e1
  .obtain⟨w,rs,b,rfl,b4,ok⟩:=I;obtain⟨a,ha,rfl⟩:=dA hv;have me:aH (aU [3,4,5] w m) 5 (.s a)=aU [3,4,5] (aH w 5 (.s a)) m:=bH Y
   refine rA (wj (s':=sO) (aE Y) du) (λc=>eF mY (aO (aO ⟨_,rs,O,jP ((aq (aH · 4 (.o O)) me).trans (bH Y)) Y,Y,ok⟩))) λc=>rB (Ag (aE Y) (aE m2) a4) (λd=>?_) λd=>aO (aO (aO ⟨_,rs,b,jP me Y,b4,ok⟩));have au:a∈U1:=(cD.mp (e2.2 a (bE ha))).resolve_right λw=>c (bp.mp w)
   refine F6 (aE m2) (aE Y) Aa a4 (by rw[bc];exact bF ok.pO (ao Y)) (aO (aO (aO ⟨_,rs++[a],b,jP me ?_,b4,ok.eH au d⟩)))
   exact mI.trans (aq (λx=>h.aF (bz t) (.l x)) (dc (l₂:=[a])).symm)
  .obtain⟨v,rs,b,rfl,b4,ok⟩:=I;refine kU (fc (aE b4) mE) (λg=>?_) λg=>?_
   .exact fW (Y9 (aO (aO ⟨v,rs,Y,ok⟩)))
   .exact vW (fin v rs ⟨ok.1,λa w=>cH _ (ok.2 a w)⟩)
 .obtain⟨v,rs,rfl,ok⟩:=I;have Kz:lu U0 (rs++[sO]):=lu.eH ⟨ok.1,λa w=>cH _ (ok.2 a w)⟩ (ao Y) λw=>ax (ok.2 _ w) (ao Y)
  refine F6 (y:=.s sO) (aE m2) du Aa a4 (by rw[bc];exact bF ok.pO (ao Y)) (aO ?_)
  show WB _ _ _ ⟨_,(h.aF (bz t) (.l (rs.map .s))).aF (bz t) (.l (rs.map .s++[.s sO])),_⟩;rw[mI,show rs.map V.s++[V.s sO]=(rs++[sO]).map V.s from(dc (l₂:=[sO])).symm]
  exact fin v _ Kz
noncomputable def ic(ns:Ss)(L:aP->Ss):Nat:=(ns.map λs=>(L s).length).sum
noncomputable def pP(L:aP->Ss)(s a:aP):aP->Ss:=λx=>if x=s then L s++[a]else L x
variable{r:Nat} {Q:QF} {q:Sx} {ns:Ss}
theorem ad5(h:s∉ns):ic ns (pP L s a)=ic ns L:=aq List.sum (G2 λx hx=>aq Hq (av λe:x=s=>h (aj e hx)))
theorem Gf(nd:ns.Nodup)(h:s∈ns):ic ns (pP L s a)=ic ns L+1:=by
 induction ns with
 |nil=>cases h
 |cons x ns ih=>
  have nd:=fQ.mp nd;show(pP L s a x).length+ic ns (pP L s a)=(L x).length+ic ns L+1;by_cases e:x=s
  .subst e;rw[ad5 nd.1,pP,aw Y,dW,wU];rfl
  .rw[ih nd.2 ((b0.mp h).resolve_left λw=>e w.symm),pP,av e];rfl
theorem Tz(h:∀s∈ns,lu U0 (L s)):ic ns L<=6*ns.length:=by
 induction ns with
 |nil=>exact dj _
 |cons x ns ih=>have h:=kb.mp h;show(L x).length+ic ns L<=6*(ns.length+1);rw[qb,nU];exact jY (ih h.2) h.1.pO
theorem gI.add(D:gI l r ks L u)(i:a∈U0)(n:a∉L s)(sk:s∈ks)(ne:cQ l.1 r=Z):gI l r ks (pP L s a) (u.aF (r,cd s) (.l ((L s).map .s++[.s a]))):=⟨(aQ (bf ne)).trans D.1,λx hx=>by
 by_cases e:x=s
 .subst e;rw[pP,aw Y];exact⟨a4.trans (aq (λy=>M (af.l y)) (dc (l₂:=[a])).symm),(D.2 x hx).2.eH i n⟩
 .rw[pP,av e];exact⟨(aQ (qt e)).trans (D.2 x hx).1,(D.2 x hx).2⟩⟩
theorem C4(I:Nat->QA)(he:RE K e (.e l))(hl:∀j K,I j K->∃es,K.h l=M (.d es)/\es.map (·.1)=ks.map .s)(i0:I 0 K)(step:∀j s K,ks[j]?=M s->I j K->WB n b (Fw.lp (I (j+1)) (Nx n q Q)) (K.eR i (.s s)))(fin:∀K,I ks.length K->WB n q Q K):WB n (.c (.f (.v i) (.l e) b .n) q) Q K:=by obtain⟨es,e1,e2⟩:=hl 0 K i0;exact d7 (kO (oi (re he (Qg e1 (lV (tg:=.v i) (ks.map .s) I (λj K J=>(hl j K J).elim λes k=>⟨es,k.1,k.2.trans e2.symm,aj e2 Y⟩) i0 (λj v K hv J=>(dA hv).elim λs k=>aj k.2 (step j s K k.1 J)) λK J=>aO (fin K (aj (bc (f:=V.s) (as:=ks)) J)))))))
theorem TA{fl:Nat}{X ai:Sx}(rr:R.contains r=O)(r0:rg (r,[])=O)(ne:cQ l.1 r=Z)(D:gI l r ks L u)(D':∀x,(mix R u h) (r,x)=u (r,x))(g:RE ⟨m,mix R u h,t⟩ (.u X ai) (.e (r,cd s)))(hi:m i=M (.s a))(au:a∈U0)(sk:s∈ks)(c:a∉L s)
 (k1:∀u',gI l r ks (pP L s a) u'->u'=u.aF (r,cd s) (.l ((L s).map .s++[.s a]))->WB n q Q ⟨aH m fl (.o O),mix R u' h,t⟩):
 WB n (.c (.e (.bV .a (.u X ai) (.c (.v i) .n))) (.c (.s (.v fl) (.cB O)) q)) Q ⟨m,mix R u h,t⟩:=by
 have d:=D.2 s sk;exact ny (l:=(r,cd s)) rr r0 g ((D' (cd s)).trans d.1) (aE hi) (by rw[bc];exact bF d.2.pO (ao Y)) (eF mY (k1 _ (D.add au c sk ne) Y))
theorem TB{fl:Nat}{X ai:Sx}(rr:R.contains r=O)(r0:rg (r,[])=O)(ne:cQ l.1 r=Z)(D:gI l r ks L u)(D':∀x,(mix R u h) (r,x)=u (r,x))(Dl:(mix R u h) l=u l)(hX:RE ⟨m,mix R u h,t⟩ X (.e l))(hK:RE ⟨m,mix R u h,t⟩ ai (.s s))(hi:m i=M (.s a))(au:a∈U0)(sk:s∈ks)
 (k0:a∈L s->WB n q Q ⟨m,mix R u h,t⟩)(k1:∀u',a∉L s->gI l r ks (pP L s a) u'->u'=u.aF (r,cd s) (.l ((L s).map .s++[.s a]))->WB n q Q ⟨aH m fl (.o O),mix R u' h,t⟩):
 WB n (.c (.i (.m .NotIn (.v i) (.u X ai)) (.c (.e (.bV .a (.u X ai) (.c (.v i) .n))) (.c (.s (.v fl) (.cB O)) .n)) .n) q) Q ⟨m,mix R u h,t⟩:=by
 have g:RE ⟨m,mix R u h,t⟩ (.u X ai) (.e (r,cd s)):=dU hX hK (fG (Dl.trans D.1) Y (sI sk));exact rB (Ag (aE hi) g ((D' (cd s)).trans (D.2 s sk).1)) (λc=>TA rr r0 ne D D' g hi au sk c λu' d e=>aO (k1 u' c d e)) λc=>aO (k0 c)
theorem TG:Bm 4 25=M 27:=by kernel_rfl
def CF(ns ks:Ss)(T0:Nat)(v:Mp)(u:Hp):Prop:=∃L b,gI (46,[]) 14 ks L u/\v 3=M (.o b)/\T0<=ic ns L/\(b=O->T0<ic ns L)
variable{T0:Nat}
section
variable{v:Mp}
theorem ad6(gi:h (1,[])=M (.i 4 f))(gf:kX f)(oj:f 25=U)(nd:ns.Nodup)(hs:∀a∈ss,a∈ks)(m0:m 0=M (.e (1,[])))(h2:h (2,[p])=M (.i 1 g))(h1:g 1=M (V.bP (ss.map .s)))(C:CF ns ks T0 v u)(v2:v 2=M (.s s))(sn:s∈ns)(sk:s∈ks)(v4:v 4=M (.e (2,[p])))
 (k:∀v' u' t',CF ns ks T0 v' u'->v' 2=M (.s s)->Q .n ⟨aU [2,3,4,5] v' m,mix [14,46,99] u' h,t'⟩):WB (n+1) JW Q ⟨aU [2,3,4,5] v m,mix [14,46,99] u h,t⟩:=by
 obtain⟨L,b,D,v3,le,lt⟩:=C;refine d7 (kO (oi (i4 (re (aE m0) ⟨_,kB gi TG oj,rl (a6 (ra (aE v4) h2 Y h1) br) ((Tx (h:=mix [14,46,99] u h) gi gf D hs λrs u' t' kk ok hk=>mH hk (lV (tg:=.v 5) (rs.map .s) (λc K=>∃v u,K=⟨aU [2,3,4,5] v m,mix [14,46,99] u h,t'⟩/\CF ns ks T0 v u/\v 2=M (.s s)/\u (99,kk)=M (.l (rs.map .s))) (λi K J=>?_) ⟨v,mix [99] u' u,jP Y (gG Y),⟨L,b,D,v3,le,lt⟩,v2,hk⟩ (λj x K hv J=>?_) λK J=>?_)).o)⟩))))
 .obtain⟨v,u,rfl,_,_,e⟩:=J;exact⟨_,e,Y⟩
 .obtain⟨w,u,rfl,⟨L,b,D,v3,le,lt⟩,w2,e⟩:=J;obtain⟨a,ha,rfl⟩:=dA hv;have me:aH (aU [2,3,4,5] w m) 5 (.s a)=aU [2,3,4,5] (aH w 5 (.s a)) m:=bH Y
  show WB (n+1) Sb _ ⟨aH (aU [2,3,4,5] w m) 5 (.s a),mix [14,46,99] u h,t'⟩;rw[me];refine TB (l:=(46,[])) (r:=14) (fl:=3) Y Y Y D (λx=>Y) Y (ra (aE m0) gi Y gf.2.2.2.2.2.1) (aE w2) Y (ok.2 a (bE ha)) sk (λc=>aO ⟨_,u,Y,⟨L,b,D,v3,le,lt⟩,w2,e⟩) λu' na D' eu=>aO ⟨_,u',jP (bH Y) Y,⟨_,O,D',Y,?_,λc=>?_⟩,w2,ak eu e⟩
  .rw[Gf nd sn];exact p9 le
  .rw[Gf nd sn];exact AY le
 .obtain⟨v',KA,rfl,C',KB,_⟩:=J;exact aO (aO (k v' KA t' C' KB))
def KC(ks:Ss)(h:Hp)(x:V):Prop:=∃(p:Nat)(g:Mp)(ss:Ss),x=.e (2,[p])/\h (2,[p])=M (.i 1 g)/\g 1=M (V.bP (ss.map .s))/\∀a∈ss,a∈ks
theorem ad7(gi:h (1,[])=M (.i 4 f))(gf:kX f)(oj:f 25=U)(gn:h (42,[])=M (.d (eG 8 dh)))(sm:s∈dh)(g8:h (8,cd s)=M (.l ps))(po:∀x∈ps,KC ks h x)(nd:ns.Nodup)(m0:m 0=M (.e (1,[])))(C:CF ns ks T0 v u)(v2:v 2=M (.s s))(sn:s∈ns)(sk:s∈ks)
 (k:∀v' u' t',CF ns ks T0 v' u'->Q .n ⟨aU [2,3,4,5] v' m,mix [14,46,99] u' h,t'⟩):WB (n+1) JX Q ⟨aU [2,3,4,5] v m,mix [14,46,99] u h,t⟩:=by
 refine gw (l:=(8,cd s)) ps (λa K=>∃v u t,K=⟨aU [2,3,4,5] v m,mix [14,46,99] u h,t⟩/\CF ns ks T0 v u/\v 2=M (.s s)) (dU (ra (aE m0) gi Y gf.2.1) (aE v2) (fG gn Y (sI sm))) (λj K J=>?_) ⟨v,u,t,Y,C,v2⟩ (λj x K hv J=>?_) λK J=>?_
 .obtain⟨v,u,t,rfl,_⟩:=J;exact g8
 .obtain⟨w,u,t,rfl,C,w2⟩:=J;obtain⟨p,g,ss,rfl,k1,k2,k3⟩:=po x (bE hv);show WB (n+1) JW _ ⟨aH (aU [2,3,4,5] w m) 4 (.e (2,[p])),mix [14,46,99] u h,t⟩;rw[bH Y];exact ad6 gi gf oj nd k3 m0 k1 k2 C w2 sn sk Y λv' u' t' C' KB=>⟨v',u',t',Y,C',KB⟩
 .obtain⟨v,u,t,rfl,C,_⟩:=J;exact aO (k v u t C)
theorem ad8{pl:aP->Vs}(gi:h (1,[])=M (.i 4 f))(gf:kX f)(oj:f 25=U)(gn:h (42,[])=M (.d (eG 8 dh)))(g5:h (45,[])=M (.d (eG 13 ns)))(g8:∀s∈ns,s∈dh/\s∈ks/\h (8,cd s)=M (.l (pl s))/\∀x∈pl s,KC ks h x)(nd:ns.Nodup)(m0:m 0=M (.e (1,[])))(D:gI (46,[]) 14 ks L u)
 (k1:∀L' v' u' t',gI (46,[]) 14 ks L' u'->ic ns L<ic ns L'->Q .n ⟨aU [2,3,4,5] v' m,mix [14,46,99] u' h,t'⟩)(k2:∀L' v' u' t',gI (46,[]) 14 ks L' u'->Q .b ⟨aU [2,3,4,5] v' m,mix [14,46,99] u' h,t'⟩):
 WB (n+1) Se Q ⟨aU [2,3,4,5] v m,mix [14,46,99] u h,t⟩:=by
 refine eF mY ?_;show WB (n+1) _ _ ⟨aH (aU [2,3,4,5] v m) 3 (.o Z),mix [14,46,99] u h,t⟩;rw[bH Y];refine C4 (l:=(45,[])) (ks:=ns) (λa K=>∃v u t,K=⟨aU [2,3,4,5] v m,mix [14,46,99] u h,t⟩/\CF ns ks (ic ns L) v u) (ra (aE m0) gi Y gf.2.2.2.2.1) (λj K J=>?_) ⟨_,u,t,Y,L,Z,D,Y,dj _,λe=>cw e⟩ (λj s K hs J=>?_) λK J=>?_
 .obtain⟨v,u,t,rfl,_⟩:=J;exact⟨_,g5,CS⟩
 .obtain⟨w,u,t,rfl,C⟩:=J;have sn:=bE hs
  obtain⟨k1,k2,k3,k4⟩:=g8 s sn;show WB (n+1) JX _ ⟨aH (aU [2,3,4,5] w m) 2 (.s s),mix [14,46,99] u h,t⟩;rw[bH Y];exact ad7 gi gf oj gn k1 k3 k4 nd m0 C Y sn k2 λv' u' t' C'=>⟨v',u',t',Y,C'⟩
 .obtain⟨v,u,t,rfl,L',b,D',v3,le,lt⟩:=J;cases b with
  |false=>exact iN (lS (p:=Z) (fc (aE v3) mE)) (vW (k2 L' v u t D'))
  |true=>exact i8 (lS (p:=O) (fc (aE v3) mE)) (aO (aO (k1 L' v u t D' (lt Y))))
end
variable{fs:Ss}
theorem gI.Ah(D:gI l r ks L u)(n:s∉ks)(ok:lu U0 fs)(ne:cQ l.1 r=Z):gI l r (ks++[s]) (λx=>if x=s then fs else L x) ((u.aF (r,cd s) (.l (fs.map .s))).aF l (.d (cC (eG r ks) (.s s) (.e (r,cd s))))):=⟨aj (Ae n).symm a4,λx hx=>by
 have nl:((r,cd x):Loc)≠l:=λe=>bf (l':=(r,cd x)) ne e.symm;rw[aQ nl];dsimp only;by_cases e:x=s
 .subst e;rw[aw Y,a4];exact⟨Y,ok⟩
 .rw[av e,aQ (qt e)];exact D.2 x ((cD.mp hx).resolve_right λw=>e (bp.mp w))⟩
theorem KD(h:a∈U0):lu U0 [a]:=⟨fQ.mpr ⟨(λw=>bw w),gh⟩,λb hb=>ak (bp.mp hb) h⟩
theorem TL:lu U0 []:=⟨gh,λa w=>bw w⟩
variable{X es:Sx} {rk:Nat}
section
variable{v:Mp} {ai:Sx} {ds:Ss} {l0:Loc}
theorem TM(fs:aP->Ss)(gi:h (1,[])=M (.i 4 f))(uE:f 20=M (.e (46,[])))(m0:m 0=M (.e (1,[])))(i0:cQ 0 i=Z)(hX:RE ⟨aU [i] v m,mix [14,46,99] u h,t⟩ X (.e l0))(hd:∀u,(mix [14,46,99] u h) l0=M (.d (eG rk ds)))(nd:(ks++ds).Nodup)(zk:(ks++ds).length<=100)(D:gI (46,[]) 14 ks L u)(fr:∀s,s∉ks->u (14,cd s)=U)
 (he:∀v u s,v i=M (.s s)->RL ⟨aU [i] v m,mix [14,46,99] u h,t⟩ es ((fs s).map .s))(ok:∀s∈ds,lu U0 (fs s))(k:∀L v u,gI (46,[]) 14 (ks++ds) L u->(∀s,s∉ks++ds->u (14,cd s)=U)->WB n q Q ⟨aU [i] v m,mix [14,46,99] u h,t⟩):
 WB n (.c (.f (.v i) (.l X) (.c (.cR (.a (.v 0) 20) (.v i) (.t es)) .n) .n) q) Q ⟨aU [i] v m,mix [14,46,99] u h,t⟩:=by
 refine C4 (l:=l0) (ks:=ds) (λj K=>∃v u L,K=⟨aU [i] v m,mix [14,46,99] u h,t⟩/\gI (46,[]) 14 (ks++ds.take j) L u/\∀s,s∉ks++ds.take j->u (14,cd s)=U) hX (λj K J=>?_) ⟨v,u,L,Y,by rw[Ea,hY];exact D,by rw[Ea,hY];exact fr⟩ (λj s K hs J=>?_) λK J=>?_
 .obtain⟨v,u,L,rfl,_⟩:=J;exact⟨_,hd u,CS⟩
 .obtain⟨w,u,L,rfl,D,fr⟩:=J;have c:[i].contains i=O:=iT.mpr (.head _)
  have ns:s∉ks++ds.take j:=λw=>by have nd:=jX.mp nd;exact(cD.mp w).elim (λw=>nd.2.2 s w s (bE hs) Y) (pN nd.2.1 hs)
  show WB n _ _ ⟨aH (aU [i] w m) i (.s s),mix [14,46,99] u h,t⟩;rw[bH c];have vi:aH w i (.s s) i=M (.s s):=aw Y
  have mi:(aU [i] (aH w i (.s s)) m) i=M (.s s):=by unfold aU;rw[c];exact vi
  have m0':(aU [i] (aH w i (.s s)) m) 0=M (.e (1,[])):=by
   unfold aU;rw[show [i].contains 0=Z from vf.mpr λw=>ax (bp.mp (iT.mp w)) (λe=>by rw[<-e]at i0;exact cw i0)]
   exact m0
  have sn:(ds.take (j+1))=ds.take j++[s]:=take_snoc hs;refine F9 (l:=(46,[])) (14,cd s) Y Y Y (fr s ns) (he _ _ s vi) (by rw[bc];exact aL (ok s (bE hs)).pO (ao Y)) (ra (aE m0') gi Y uE) D.1 (aE mi) Y (fH.x8 ?_) (aO ⟨_,_,_,Y,by rw[sn,<-tW];exact D.Ah ns (ok s (bE hs)) Y,λx hx=>?_⟩)
  .exact aL (by rw[dW,dW];exact eQ (iG ..) _) zk
  .rw[sn,<-tW]at hx;exact(show(Hp.aF u (14,cd s) _) (14,cd x)=U from(aQ (qt λe:x=s=>hx (aj e (cZ _ (.head _))))).trans (fr x λw=>hx (cH _ w)))
 .obtain⟨v,u,L,rfl,D,fr⟩:=J;rw[e7]at D fr;exact k L v u D fr
end
variable{Q:RQ}
section
variable{pl:aP->Vs}
noncomputable def sQ(ns:Ss):Ss:=ts++[cG]++ns
theorem ad'(gi:h (1,[])=M (.i 4 f))(gf:kX f)(oj:f 25=U)(gn:h (42,[])=M (.d (eG 8 dh)))(g4:h (44,[])=M (.d (eG 12 ts)))(g5:h (45,[])=M (.d (eG 13 ns)))(g6:h (46,[])=M (.d []))(fr:∀x,h (14,x)=U)(zn:ns.length<=90)
 (g8:∀s∈ns,s∈dh/\s∈sQ ns/\h (8,cd s)=M (.l (pl s))/\∀x∈pl s,KC (sQ ns) h x)(nd:(sQ ns).Nodup)(q:∀L u t',gI (46,[]) 14 (sQ ns) L u->Q (.e (46,[])) (mix [14,46,99] u h) t'):bI (n+2) (bJ 28) [.e (1,[])] Q h t:=by
 have mh:=ry (R:=[14,46,99]) (h:=h);have uE:=gf.2.2.2.2.2.1
 have nd1:=jX.mp nd;refine fP acS Y (i8 (fc (ra (aE Y) gi Y uE) (FC (es:=[]) g6)) (aO ?_));obtain⟨m,hm⟩:∃m:Mp,m=λi=>([V.e (1,[])]++[])[i]?:=⟨_,Y⟩;have m0:m 0=M (.e (1,[])):=ak hm Y
 rw[<-hm,mh,gH (R:=[1]) (m:=m)];refine TM (ks:=[]) (L:=λa=>[]) (ds:=ts) (λs=>[s]) gi uE m0 Y (ra (aE m0) gi Y gf.2.2.2.1) (λu=>g4) (ao Y) (ao Y) ⟨g6,λs w=>bw w⟩ (λs a=>fr _) (λv u s e=>a6 (aE e) br) (λs hs=>KD (cH _ (cH _ hs))) λL v u D TN=>?_;refine F9 (l:=(46,[])) (y:=.s cG) (14,cd cG) Y Y Y (TN _ (ao Y)) (a6 (x:=.s cG) du br) (by decide:1<=16777216) (ra (aE (show(aU [1] v m) 0=_ from m0)) gi Y uE) D.1 du Y (fH.x8 (ao Y)) ?_
 have D2:gI (46,[]) 14 ([]++ts++[cG]) _ ((u.aF (14,cd cG) (.l [.s cG])).aF (46,[]) (.d (cC (eG 14 ([]++ts)) (.s cG) (.e (14,cd cG))))):=D.Ah (s:=cG) (fs:=[cG]) (ao Y) (KD (ao Y)) Y;generalize hu:(u.aF (14,cd cG) (.l [.s cG])).aF (46,[]) (.d (cC (eG 14 ([]++ts)) (.s cG) (.e (14,cd cG))))=u2 at D2⊢;have KH:∀s,s∉ts++[cG]->u2 (14,cd s)=U:=λs w=>aj hu ((aQ (qt λe:s=cG=>w (aj e (cZ _ (.head _))))).trans (TN s λk=>w (cH _ k)))
 obtain⟨m2,C6⟩:∃m2:Mp,m2=aU [1] v m:=⟨_,Y⟩;have sR:m2 0=M (.e (1,[])):=ak C6 m0
 show WB _ _ _ ⟨aU [1] v m,mix [14,46,99] u2 h,t⟩;rw[<-C6,gH (R:=[2]) (m:=m2)];refine TM (ds:=ns) (λs=>[]) gi uE sR Y (ra (aE sR) gi Y gf.2.2.2.2.1) (λu=>g5) nd (by rw[dW];exact aL (eQ zn _) (ao Y)) D2 KH (λv u s e=>br) (λs hs=>TL) λL v u D a=>?_
 have e3:aU [2] v m2=aU [2,3,4,5] (aU [2] v m2) (aU [2] v m2):=gH;rw[e3];refine sH (m₀:=6*ns.length-ic ns L) (λk K=>∃L v' u t,k=6*ns.length-ic ns L/\K=⟨aU [2,3,4,5] v' (aU [2] v m2),mix [14,46,99] u h,t⟩/\gI (46,[]) 14 (sQ ns) L u) ⟨L,_,u,t,Y,Y,D⟩ λk K J=>⟨O,fc mY mE,λa=>?_,λe=>cw e⟩;obtain⟨L,v',u,t,rfl,rfl,D⟩:=J;refine ad8 gi gf oj gn g5 g8 nd1.2.1 sR D (λL' v' u' t' D' lt=>⟨_,?_,L',v',u',t',Y,Y,D'⟩) λL' v' u' t' D'=>jO (ra (aE (show(aU [2,3,4,5] v' (aU [2] v m2)) 0=_ from sR)) gi Y uE) (q L' u' t' D')
 exact Wl (gc lt (Tz λs hs=>(D'.2 s (cZ _ hs)).2)) lt
end
variable{Q:QF} {r x y:Sx} {c d:Bool}
theorem aeb(ha:RT K x c)(hb:RT K y d):RT K (.iZ Z (.c x (.c y .n))) (c||d):=IF λn P q=>by
 cases c
 .exact BK ha (BJ hb q)
 .exact xI ha q
theorem KI(ha:RT K x c)(hb:RT K y d):RT K (.iZ O (.c x (.c y .n))) (c&&d):=IF λn P q=>by
 cases c
 .exact xI ha q
 .exact BK ha (BJ hb q)
theorem aec(vs:Vs)(I:Nat->QA)(he:RE K e (V.bP vs))(i0:I 0 K)(step:∀j v K,vs[j]?=M v->I j K->WB n b (Fw.lp (I (j+1)) (Nx n r Q)) ((K.eR i (.i j)).eR i' v))(fin:∀K,I vs.length K->WB n r Q K):WB n (.c (.f (.a [i,i']) (.A e) b .n) r) Q K:=
 d7 (kO (Qi (re he (Z7 (lV (tg:=.a [i,i']) (vs.mapIdx λj v=>V.bP [.i (j:Nat),v]) I (λj K J=>⟨vs[j]?,Y,M8⟩) i0 (λj v K hv J=>by rw[M8]at hv;obtain⟨x,hx,rfl⟩:=DY.mp hv;exact⟨_,Y,Y,step j x K hx J⟩) λK J=>aO (fin K (by rwa [ajk]at J)))))))
noncomputable abbrev wR:Nl:=[15,16,17,47,99]
noncomputable abbrev wM:Nl:=[3,4,5,6,7,8,9]
def CW(ns:Ss)(T0:Nat)(c:Nl->Option af)(L:aP->Ss)(b:Bool)(v:Mp)(u:Hp):Prop:=gI (47,[]) 15 ns L u/\v 3=M (.o b)/\T0<=ic ns L/\(b=O->T0<ic ns L)/\∀x,u (17,x)=c x
section
variable{c:Nl->Option af} {b:Bool} {v:Mp} (hh:CW ns T0 c L b v u)
def CW.aC:=hh.1
def CW.aI:=hh.2.1
def CW.aD:=hh.2.2.1
def CW.aJ:=hh.2.2.2.1
def CW.aG:=hh.2.2.2.2
end
variable{rs:Ss} {kk:Nl} {b:Bool} {c:Nl->Option af}
section
variable{v:Mp}
theorem CW.eH{v':Mp}{u':Hp}(C:CW ns T0 c L b v u)(nd:ns.Nodup)(sn:s∈ns)(D':gI (47,[]) 15 ns (pP L s a) u')(eu:u'=u.aF (15,cd s) (.l ((L s).map .s++[.s a])))(e3:v' 3=M (.o O)):CW ns T0 c (pP L s a) O v' u':=
 ⟨D',e3,ak (Gf (a:=a) (L:=L) nd sn) (p9 C.aD),λd=>ak (Gf (a:=a) (L:=L) nd sn) (AY C.aD),λx=>ak eu (C.aG x)⟩
def rE(ns ks:Ss)(h:Hp)(p:Nat)(g:Mp)(nm:aP)(ss:Ss):Prop:=h (2,[p])=M (.i 1 g)/\g 0=M (.s nm)/\g 1=M (V.bP (ss.map .s))/\nm∈ns/\ss.length<=100/\∀a∈ss,a∈ks
variable(hh:rE ns ks h p g nm ss)
def rE.aC:=hh.1
def rE.aT:=hh.2.1
def rE.aD:=hh.2.2.1
def rE.aI:=hh.2.2.2.1
def rE.aG:=hh.2.2.2.2.1
def rE.aJ:=hh.2.2.2.2.2
def C5(p i:Nat)(s:aP)(rs:Ss)(kk:Nl)(b:Bool)(v:Mp)(u:Hp):Prop:=v 4=M (.e (2,[p]))/\v 5=M (.i i)/\v 6=M (.s s)/\v 8=M (.o b)/\u (99,kk)=M (.l (rs.map .s))
section
variable{v:Mp} (hh:C5 p i s rs kk b v u)
def C5.aC:=hh.1
def C5.aG:=hh.2.1
def C5.aD:=hh.2.2.1
def C5.aJ:=hh.2.2.2.1
def C5.aI:=hh.2.2.2.2
end
theorem aed(gi:h (1,[])=M (.i 4 f))(gf:kX f)(nd:ns.Nodup)(m0:m 0=M (.e (1,[])))(C:CW ns T0 c L b v u)(sn:s∈ns)(C':C5 p i s rs kk Z v u)(v7:v 7=M (.e (99,kk)))(ok:lu U0 rs)
 (k:∀v' u' L b b',CW ns T0 c L b v' u'->C5 p i s rs kk b' v' u'->WB n q Q ⟨aU wM v' m,mix wR u' h,t⟩):
 WB n (.c (.f (.v 9) (.l (.v 7)) JY .n) q) Q ⟨aU wM v m,mix wR u h,t⟩:=by
 refine gw (l:=(99,kk)) (rs.map .s) (λd K=>∃v u L b b',K=⟨aU wM v m,mix wR u h,t⟩/\CW ns T0 c L b v u/\C5 p i s rs kk b' v u) (aE v7) (λj K J=>?_) ⟨v,u,L,b,_,Y,C,C'⟩ (λj x K hv J=>?_) λK J=>?_
 .obtain⟨v,u,L,b,b',rfl,J⟩:=J;exact J.2.aI
 .obtain⟨w,u,L,b,b',rfl,C,C'⟩:=J;obtain⟨a,ha,rfl⟩:=dA hv;show WB n JY _ ⟨aH (aU wM w m) 9 (.s a),mix wR u h,t⟩;rw[bH Y];generalize hI:(λK:AS=>∃v u L b b',K=⟨aU wM v m,mix wR u h,t⟩/\CW ns T0 c L b v u/\C5 p i s rs kk b' v u)=I;have fin:∀v' u' L b,v' 9=M (.s a)->CW ns T0 c L b v' u'->C5 p i s rs kk b' v' u'->WB n (.c (.i (.m .Eq (.v 9) (.cS "<empty>")) (.c (.s (.v 8) (.cB O)) .n) .n) .n) (Fw.lp I (Nx n q Q)) ⟨aU wM v' m,mix wR u' h,t⟩:=λv' u' L b e9 C C'=>
   rA (wj (s':=sO) (aE e9) du) (λd=>eF mY (aO (aO (aj hI ⟨_,u',L,b,O,jP (bH Y) Y,⟨C.aC,C.aI,C.aD,C.aJ,C.aG⟩,⟨C'.aC,C'.aG,C'.aD,Y,C'.aI⟩⟩)))) λd=>aO (aO (aj hI ⟨v',u',L,b,b',Y,C,C'⟩))
  have g:RE ⟨aU wM (aH w 9 (.s a)) m,mix wR u h,t⟩ (.u (.a (.v 0) 21) (.v 6)) (.e (15,cd s)):=dU (ra (aE m0) gi Y gf.2.2.2.2.2.2.1) (aE C'.aD) (fG C.aC.1 Y (sI sn));refine kU (KI (fu (o:=.NotEq) (x:=.s a) (y:=.s sO) (aE Y) du (um Y Y)) (Ag (aE Y) g (C.aC.2 s sn).1)) (λc=>?_) λd=>aO (fin _ u L b Y ⟨C.aC,C.aI,C.aD,C.aJ,C.aG⟩ ⟨C'.aC,C'.aG,C'.aD,C'.aJ,C'.aI⟩);refine TA (l:=(47,[])) (r:=15) (fl:=3) Y Y Y C.aC (λx=>Y) g Y (ok.2 a (bE ha)) sn (x5 (dH.mp c).2) λu' D' eu=>aO ?_;rw[bH Y];exact fin _ u' _ _ Y (C.eH nd sn D' eu Y) ⟨C'.aC,C'.aG,C'.aD,C'.aJ,ak eu C'.aI⟩
 .obtain⟨v',u',L,b,b',rfl,J⟩:=J;exact k v' u' L b b' J.1 J.2
theorem aee(gi:h (1,[])=M (.i 4 f))(gf:kX f)(nd:ns.Nodup)(m0:m 0=M (.e (1,[])))(h2:h (2,[p])=M (.i 1 g))(h0:g 0=M (.s nm))(nn:nm∈ns)(C:CW ns T0 c L b v u)(v4:v 4=M (.e (2,[p])))(v6:v 6=M (.s s))(sn:s∈ns)
 (k:∀v' u' L b,CW ns T0 c L b v' u'->v' 4=M (.e (2,[p]))->WB n q Q ⟨aU wM v' m,mix wR u' h,t⟩):
 WB n (.c (.f (.v 9) (.l (.u (.a (.v 0) 21) (.a (.v 4) 0))) JZ .n) q) Q ⟨aU wM v m,mix wR u h,t⟩:=by
 refine gw (l:=(15,cd nm)) ((L nm).map .s) (λd K=>∃v u L' b,K=⟨aU wM v m,mix wR u h,t⟩/\CW ns T0 c L' b v u/\L' nm=L nm/\v 4=M (.e (2,[p]))/\v 6=M (.s s)) (dU (ra (aE m0) gi Y gf.2.2.2.2.2.2.1) (ra (aE v4) h2 Y h0) (fG C.aC.1 Y (sI nn))) (λj K J=>?_) ⟨v,u,L,b,Y,C,Y,v4,v6⟩ (λj x K hv J=>?_) λK J=>?_
 .obtain⟨v,u,L',b,rfl,J⟩:=J;exact aj J.2.1 (J.1.aC.2 nm nn).1
 .obtain⟨w,u,L',b,rfl,J⟩:=J;obtain⟨a,ha,rfl⟩:=dA hv;have am:=bE ha
  show WB n JZ _ ⟨aH (aU wM w m) 9 (.s a),mix wR u h,t⟩;rw[bH Y];exact TB (l:=(47,[])) (r:=15) (fl:=3) Y Y Y J.1.aC (λx=>Y) Y (ra (aE m0) gi Y gf.2.2.2.2.2.2.1) (aE J.2.2.2) Y ((C.aC.2 nm nn).2.2 a am) sn (λd=>aO ⟨_,u,L',b,Y,⟨J.1.aC,J.1.aI,J.1.aD,J.1.aJ,J.1.aG⟩,J.2⟩) λu' na D' eu=>aO ⟨_,u',_,O,jP (bH Y) Y,J.1.eH nd sn D' eu Y,(av λe:nm=s=>na (aj e (ak J.2.1 am))).trans J.2.1,J.2.2⟩
 .obtain⟨v',u',L',b,rfl,J⟩:=J;exact k v' u' L' b J.1 J.2.2.1
theorem aef{LF:aP->Ss}(gi:h (1,[])=M (.i 4 f))(gf:kX f)(oj:f 25=U)(g5:h (45,[])=M (.d (eG 13 ns)))(DF:gI (46,[]) 14 ks LF h)(nd:ns.Nodup)(m0:m 0=M (.e (1,[])))(P:rE ns ks h p g nm ss)(hi:i<ss.length)(C:CW ns T0 c L b v u)(v4:v 4=M (.e (2,[p])))(v5:v 5=M (.i i))(v6:v 6=M (.s s))
 (k:∀v' u' L b t',CW ns T0 c L b v' u'->v' 4=M (.e (2,[p]))->Q .n ⟨aU wM v' m,mix wR u' h,t'⟩):
 WB (n+1) J0 Q ⟨aU wM v m,mix wR u h,t⟩:=by
 have r1:∀{v u t},v 4=M (.e (2,[p]))->RE ⟨aU wM v m,mix wR u h,t⟩ (.a (.v 4) 1) (V.bP (ss.map .s)):=λe=>ra (aE e) P.aC Y P.aD;refine rA (wi (aE v6) (ra (aE m0) gi Y gf.2.2.2.2.1) g5) (λsn=>?_) λj=>aO (aO (k v u L b t C v4));refine cj (i4 (re (aE m0) ⟨_,kB gi TG oj,eC (zT (re (r1 v4) (re (jC (aE v5) bW qk) (.inr ⟨ss.map .s,i+1,Y,Y,by rw[bc];exact hi,Nn ..,by rw[bc];exact aL P.aG (ao Y),eB ?_⟩))))⟩))
 rw[<-Ef];refine(Tx (h:=mix wR u h) gi gf DF (λa ha=>P.aJ a (Wi ha)) λrs u' t' kk ok hk=>?_).o;show WB _ _ _ ⟨aH (aU wM v m) 7 _,_,t'⟩;rw[bH Y,gG Y];refine eF mY ?_;show WB _ _ _ ⟨aH (aU wM (aH v 7 _) m) 8 _,_,t'⟩;rw[bH Y];refine aed gi gf nd m0 (u:=mix [99] u' u) ⟨C.aC,C.aI,C.aD,C.aJ,C.aG⟩ sn ⟨v4,v5,v6,Y,hk⟩ Y ok λv' u' L b b' C C'=>kU (aeb (fc (aE C'.aJ) mE) (fu (o:=.Eq) (x:=.i i) (aE C'.aG) (jC (F2 (r1 C'.aC)) bW vH) (pD Y Y))) (λj=>aee gi gf nd m0 P.aC P.aT P.aI C C'.aC C'.aD sn λTP KA L b C e4=>aO (aO (aO (k TP KA L b t' C e4)))) λj=>aO (aO (aO (k v' u' L b t' C C'.aC)))
theorem aeg{LF:aP->Ss}(gi:h (1,[])=M (.i 4 f))(gf:kX f)(oj:f 25=U)(g5:h (45,[])=M (.d (eG 13 ns)))(DF:gI (46,[]) 14 ks LF h)(nd:ns.Nodup)(m0:m 0=M (.e (1,[])))(P:rE ns ks h p g nm ss)(C:CW ns T0 c L b v u)(v4:v 4=M (.e (2,[p])))
 (k:∀v' u' L b t',CW ns T0 c L b v' u'->Q .n ⟨aU wM v' m,mix wR u' h,t'⟩):
 WB (n+1) J3 Q ⟨aU wM v m,mix wR u h,t⟩:=by
 refine aec (ss.map .s) (λl K=>∃v u L b t,K=⟨aU wM v m,mix wR u h,t⟩/\CW ns T0 c L b v u/\v 4=M (.e (2,[p]))) (ra (aE v4) P.aC Y P.aD) ⟨v,u,L,b,t,Y,C,v4⟩ (λj x K hv J=>?_) λK J=>?_
 .obtain⟨w,u,L,b,t,rfl,J⟩:=J;obtain⟨a,ha,rfl⟩:=dA hv;show WB (n+1) J0 _ ⟨aH (aH (aU wM w m) 5 (.i j)) 6 (.s a),mix wR u h,t⟩;rw[bH Y,bH Y];exact aef gi gf oj g5 DF nd m0 P (cV.mp ha).1 ⟨J.1.aC,J.1.aI,J.1.aD,J.1.aJ,J.1.aG⟩ J.2 Y Y λv' u' L b t' C e=>⟨v',u',L,b,t',Y,C,e⟩
 .obtain⟨w,u,L,b,t,rfl,J⟩:=J;exact aO (k w u L b t J.1)
end
variable{LF:aP->Ss}
section
variable{s1:aP} {v:Mp}
theorem KJ(h:1<=n):mW n 1=1:=by
 unfold mW;rw[av (ao Y),ajS (show(1:Int)<=n from qc.mpr h)]
 rfl
theorem aeh(gi:h (1,[])=M (.i 4 f))(gf:kX f)(oj:f 25=U)(gp:h (41,[])=M (.l vs))(zv:1<=vs.length/\vs.length<=1000)(g5:h (45,[])=M (.d (eG 13 ns)))(DF:gI (46,[]) 14 ks LF h)(nd:ns.Nodup)(hp:∀x∈vs.drop 1,∃p g nm ss,x=.e (2,[p])/\rE ns ks h p g nm ss)(m0:m 0=M (.e (1,[])))(D:gI (47,[]) 15 ns L u)(fr:∀j,ic ns L<=j->u (17,[j])=U)
 (k1:∀L' v' u' t',gI (47,[]) 15 ns L' u'->ic ns L<ic ns L'->(∀j,ic ns L'<=j->u' (17,[j])=U)->Q .n ⟨aU wM v' m,mix wR u' h,t'⟩)(k2:∀v' u' t',Q .b ⟨aU wM v' m,mix wR u' h,t'⟩):
 WB (n+1) Sg Q ⟨aU wM v m,mix wR u h,t⟩:=by
 refine eF mY ?_;show WB (n+1) _ _ ⟨aH (aU wM v m) 3 (.o Z),mix wR u h,t⟩;rw[bH Y];refine d7 (kO (oi (zT (re (ra (aE m0) gi Y gf.1) (re bW (.inl ⟨_,vs,1,Y,Y,gp,aL zv.2 (ao Y),dF (17,[ic ns L]) Y (fr _ (dj _)) ?_⟩))))));rw[KJ zv.1];show IB _ ⟨_,(mix wR u h).aF (17,[ic ns L]) _,t⟩ _ _;rw[bA Y];refine mH a4 (lV (tg:=.v 4) (vs.drop 1) (λa K=>∃v u' L' b t,K=⟨aU wM v m,mix wR u' h,t⟩/\CW ns (ic ns L) (λx=>(u.aF (17,[ic ns L]) (.l (vs.drop 1))) (17,x)) L' b v u') (λi K J=>?_) ⟨_,_,L,Z,t,Y,⟨⟨D.1,D.2⟩,Y,dj _,λe=>cw e,λx=>Y⟩⟩ (λj x K hv J=>?_) λK J=>?_)
 .obtain⟨v,u,L,b,t,rfl,J⟩:=J;exact⟨_,(J.aG _).trans a4,Y⟩
 .obtain⟨w,u,L,b,t,rfl,C⟩:=J;obtain⟨p,g,nm,ss,rfl,P⟩:=hp x (bE hv);show WB (n+1) J3 _ ⟨aH (aU wM w m) 4 (.e (2,[p])),mix wR u h,t⟩;rw[bH Y];exact aeg gi gf oj g5 DF nd m0 P ⟨C.aC,C.aI,C.aD,C.aJ,C.aG⟩ Y λv' u' L b t' C=>⟨v',u',L,b,t',Y,C⟩
 .obtain⟨v,u',L',b,t,rfl,C⟩:=J;cases b with
  |false=>exact aO (iN (lS (p:=Z) (fc (aE C.aI) mE)) (vW (k2 v u' t)))
  |true=>exact aO (i8 (lS (p:=O) (fc (aE C.aI) mE)) (aO (aO (k1 L' v u' t C.aC (C.aJ Y) λj hj=>(C.aG _).trans ((aQ λe=>dI j (gc ((bY (bS e).2).1▸C.aJ Y) hj)).trans (fr j (aL C.aD hj)))))))
theorem Gg{p q:Prop} [Decidable p] [Decidable q]{a b:α}(h:p↔q):(if p then a else b)=if q then a else b:=by
 by_cases c:p
 .rw[aw c,aw (h.mp c)]
 .rw[av c,av λw=>c (h.mpr w)]
noncomputable def pF(s1 s:aP):Loc:=if s=s1 then(16,[])else(15,cd s)
def CZ(s1:aP)(ks:Ss)(u:Hp):Prop:=(u (47,[])=M (.d (ks.map λs=>(.s s,.e (pF s1 s)))))/\(∀s,u (15,cd s)=if s∈ks/\s≠s1 then M (.l [])else U)/\(s1∉ks->u (16,[])=U)/\∀x,u (17,x)=U
section
variable{s1:aP} (hh:CZ s1 ks u)
def CZ.aG:=hh.1
def CZ.aC:=hh.2.1
def CZ.aI:=hh.2.2.1
def CZ.aD:=hh.2.2.2
end
theorem aei{F G:aP->V}:∀{ks:Ss},s∈ks->ks.Nodup->(∀x,x≠s->F x=G x)->cC (ks.map λx=>(V.s x,F x)) (.s s) (G s)=ks.map λx=>(V.s x,G x):=by
 intro ks
 induction ks with
 |nil=>exactλh a a=>bw h
 |cons k ks ih=>
  intro h nd e;have nd:=fQ.mp nd
  rw[nN,qX,nN];by_cases c:k=s
  .rw[aw (aq V.s c),c];exact aq _ (G2 λx hx=>aq _ (e x λw=>nd.1 (ak c (w▸hx))))
  .rw[av λw=>c (str_inj w),e k c,ih ((b0.mp h).resolve_left λw=>c w.symm) nd.2 e]
theorem CZ.TQ(C:CZ s1 ks u)(n:s∉ks)(hl:l=pF s1 s):CZ s1 (ks++[s]) ((u.aF l (.l [])).aF (47,[]) (.d (cC (ks.map λs=>(.s s,.e (pF s1 s))) (.s s) (.e l)))):=by
 subst hl;have nk:V.s s∉(ks.map λs=>(V.s s,V.e (pF s1 s))).map (·.1):=by rw[fA];exactλm=>n (wd.mp m)
 by_cases e:s=s1
 .have pe:pF s1 s=(16,[]):=aw e;refine⟨a4.trans (by rw[kW nk,dc];rfl),λx=>?_,λw=>ax (cZ _ (e▸.head _)) w,λx=>ak pe (C.aD x)⟩
  rw[pe];exact(C.aC x).trans (Gg ⟨λw=>⟨cH _ w.1,w.2⟩,λw=>⟨(cD.mp w.1).resolve_right λk=>w.2 ((bp.mp k).trans e),w.2⟩⟩)
 .have pe:pF s1 s=(15,cd s):=av e;refine⟨a4.trans (by rw[kW nk,dc];rfl),λx=>?_,λw=>ak pe (C.aI λk=>w (cH _ k)),λx=>ak pe (C.aD x)⟩
  rw[pe];show(Hp.aF u (15,cd s) (.l [])) (15,cd x)=_;by_cases c:x=s
  .subst c;rw[a4,aw ⟨cZ _ (.head _),e⟩]
  .rw[aQ (qt c),C.aC x];exact Gg ⟨λw=>⟨cH _ w.1,w.2⟩,λw=>⟨(cD.mp w.1).resolve_right λk=>c (bp.mp k),w.2⟩⟩
end
variable{Q:RQ}
section
variable{s1:aP}
theorem aej(gi:h (1,[])=M (.i 4 f))(gf:kX f)(oj:f 25=U)(gp:h (41,[])=M (.l vs))(zv:vs.length<=1000)(v1:vs[1]?=M (.e (2,[1])))(g2:h (2,[1])=M (.i 1 g))(uE:g 0=M (.s s1))(sn:s1∈ns)(g5:h (45,[])=M (.d (eG 13 ns)))(zn:ns.length<=100)(DF:gI (46,[]) 14 ks LF h)(KL:ks≠[])(g7:h (47,[])=M (.d []))(fr:∀k x,[15,16,17].contains k=O->h (k,x)=U)(nd:ns.Nodup)(hp:∀x∈vs.drop 1,∃p g nm ss,x=.e (2,[p])/\rE ns ks h p g nm ss)
 (q:∀u t',Q (.e (47,[])) (mix wR u h) t'):bI (n+2) (bJ 29) [.e (1,[])] Q h t:=by
 have mh:=ry (R:=wR) (h:=h);have C7:=gf.2.2.2.2.2.2.1
 have ne:(!(eG 14 ks).isEmpty)=O:=by
  cases ks with
  |nil=>exact ax Y KL
  |cons k ks=>rfl
 obtain⟨m,hm⟩:∃m:Mp,m=λi=>([V.e (1,[])]++[V.n])[i]?:=⟨_,Y⟩;have m0:m 0=M (.e (1,[])):=ak hm Y
 have m1:m 1=M .n:=ak hm Y;refine fP acT Y ?_;rw[<-hm];refine i8 (fc (ra (aE m0) gi Y C7) (FC (es:=[]) g7)) (aO (i8 (lS (p:=O) (aj ne (fc (ra (aE m0) gi Y gf.2.2.2.2.2.1) (FC DF.1)))) (aO ?_)));refine C4 (l:=(45,[])) (ks:=ns) (λj K=>∃v u,K=⟨aU [2] v m,mix wR u h,t⟩/\CZ s1 (ns.take j) u) (ra (aE m0) gi Y gf.2.2.2.2.1) (λj K J=>?_) ⟨m,h,jP gH mh,⟨g7,λs=>(fr 15 _ Y).trans (av λw=>bw w.1).symm,λa=>fr 16 _ Y,λx=>fr 17 x Y⟩⟩ (λj s K hs J=>?_) λK J=>?_
 .obtain⟨v,u,rfl,_⟩:=J;exact⟨_,g5,CS⟩
 .obtain⟨w,u,rfl,C⟩:=J;have Gh:=pN nd hs
  have zl:((ns.take j).map λs=>(V.s s,V.e (pF s1 s))).length<16777216:=by rw[bc];exact bF (iG ..) (bF zn (ao Y))
  show WB _ _ _ ⟨aH (aU [2] w m) 2 (.s s),mix wR u h,t⟩;rw[bH Y,take_snoc hs];by_cases e:s=s1
  .exact Af (l:=(47,[])) (16,[]) Y Y Y (C.aI (aj e Gh)) (ra (aE m0) gi Y C7) C.aG (aE Y) Y zl (aO ⟨_,_,Y,C.TQ Gh (aw e).symm⟩)
  .exact Af (l:=(47,[])) (15,cd s) Y Y Y ((C.aC s).trans (av λw=>Gh w.1)) (ra (aE m0) gi Y C7) C.aG (aE Y) Y zl (aO ⟨_,_,Y,C.TQ Gh (av e).symm⟩)
 .obtain⟨v,u,rfl,C⟩:=J;rw[e7]at C;refine iN (lS (p:=Z) (fc (aE (show(aU [2] v m) 1=_ from m1)) rd)) (eF (ra (xZ (ra (aE m0) gi Y gf.1) gp bW v1) g2 Y uE) (aO ?_))
  refine F9 (l:=(47,[])) (y:=.s s1) (15,cd s1) Y Y Y ((C.aC s1).trans (av λw=>w.2 Y)) (a6 (x:=.s cG) du br) (by decide:1<=16777216) (ra (aE m0) gi Y C7) C.aG (aE Y) Y (by rw[bc];exact bF zn (ao Y)) ?_
  rw[aei (F:=λs=>.e (pF s1 s)) (G:=λs=>.e (15,cd s)) sn nd λx e=>aq V.e (av e)];generalize hu:Hp.aF _ (47,[]) _=u2;have D:gI (47,[]) 15 ns (λs=>if s=s1 then [cG]else []) u2:=⟨aj hu a4,λs hs=>by
   rw[<-hu];show(Hp.aF u (15,cd s1) (.l ([cG].map .s))) (15,cd s)=M (.l ((if s=s1 then [cG]else []).map .s))/\lu U0 (if s=s1 then [cG]else []);by_cases e:s=s1
   .rw[aw e,e];exact⟨a4,KD (ao Y)⟩
   .rw[av e,aQ (qt e),C.aC s,aw ⟨hs,e⟩];exact⟨Y,TL⟩⟩
  have f17:∀x,u2 (17,x)=U:=λx=>aj hu (C.aD x);obtain⟨m2,C6⟩:∃m2:Mp,m2=aH (aU [2] v m) 1 (.s s1):=⟨_,Y⟩;have sR:m2 0=M (.e (1,[])):=ak C6 m0
  show WB _ _ _ ⟨aH (aU [2] v m) 1 (.s s1),mix wR u2 h,t⟩;rw[<-C6];refine sH (m₀:=6*ns.length-ic ns (λs=>if s=s1 then [cG]else [])) (λk K=>∃L v' u t,k=6*ns.length-ic ns L/\K=⟨aU wM v' m2,mix wR u h,t⟩/\gI (47,[]) 15 ns L u/\∀j,ic ns L<=j->u (17,[j])=U) ⟨_,m2,u2,t,Y,jP gH Y,D,λj a=>f17 _⟩ λk K J=>⟨O,fc mY mE,λa=>?_,λe=>cw e⟩;obtain⟨L,v',u,t,rfl,rfl,D,fr⟩:=J;refine aeh gi gf oj gp ⟨gB (cV.mp v1).1,zv⟩ g5 DF nd hp sR D fr (λL' v' u' t' D' lt fr'=>⟨_,?_,L',v',u',t',Y,Y,D',fr'⟩) λv' u' t'=>jO (ra (aE (show(aU wM v' m2) 0=_ from sR)) gi Y C7) (q u' t')
  exact Wl (gc lt (Tz λs hs=>(D'.2 s hs).2)) lt
end
theorem TT{Q:QF}{b:Sx}(B:Nat)(I:Nat->QA)(he:RE K e (.e l))(i0:I 0 K)(st:∀j K,I j K->∃vs,K.h l=M (.l vs)/\j<=vs.length/\vs.length<=B/\(∀v,vs[j]?=M v->WB n b (Fw.lp (I (j+1)) (Nx n r Q)) (K.eR i v))/\(j=vs.length->WB n r Q K)):WB n (.c (.f (.v i) (.l e) b .n) r) Q K:=by
 obtain⟨vs,hl,_⟩:=st 0 K i0;refine d7 (kO (oi (re he (mH hl ⟨I,B,i0,λj K J=>?_⟩))));obtain⟨vs,hl,le,lb,s1,s2⟩:=st j K J;cases hv:vs[j]? with
 |none=>exact .inl ⟨⟨vs,hl,hv⟩,aO (s2 (w9 le (mN.mp hv)))⟩
 |some v=>exact .inr ⟨v,⟨vs,hl,hv⟩,gc (cV.mp hv).1 lb,s1 v hv⟩
def LW(gs:List cJ)(h:Hp):Prop:=(∀s∈fi gs gs.length,h (8,cd s)=M (.l (named gs gs.length s)))/\∀(p:Nat)(r:cJ)(j:Nat),(hP gs)[p]?=M r->j<=r.2.length->∃g,h (5,[p,j])=M (.i 2 g)/\g 28=M (.e (lY (fi gs gs.length) r.2 p j))/\(lY (fi gs gs.length) r.2 p j=(9,[p,j])->h (9,[p,j])=M (.l []))
variable(hh:LW gs h)
def LW.aC:=hh.1
def LW.aD:=hh.2
noncomputable def oY:aP:="LALR"
noncomputable def sy(gs:List cJ)(x:It):Option aP:=(hP gs)[x.1]?.bind λr=>r.2[x.2]?
inductive Lv(gs:List cJ):aP->Prop
 |s:Lv gs bD
 |c {r:cJ} {s:aP}:r∈gs->Lv gs r.1->r.2[0]?=M s->Lv gs s
noncomputable def JL(ps:Nl):List It:=(0,0)::ps.map λq=>(q+1,0)
def wq(gs:List cJ)(ps:Nl)(j:Nat):Prop:=∀x∈(JL ps).take j,∀(q:Nat)(r:cJ),gs[q]?=M r->sy gs x=M r.1->q∈ps
noncomputable def KM(ps:Nl)(G:Nat->Mp)(q:Nat):Mp:=if q∈ps then aH (G q) 46 (.i 1)else G q
noncomputable abbrev kR:Nl:=[2,34]
def CB(gs:List cJ)(G:Nat->Mp)(jl:Nl)(h:Hp)(ps:Nl)(u:Hp):Prop:=(∀(q:Nat)(r:cJ),gs[q]?=M r->u (2,[q+1])=M (.i 1 (KM ps G q)))/\u (2,[0])=h (2,[0])/\u (34,jl)=M (.l (a7 (JL ps)))/\(∀x,x≠jl->u (34,x)=h (34,x))/\ps.Nodup/\∀q∈ps,∃r:cJ,gs[q]?=M r/\Lv gs r.1
section
variable{G:Nat->Mp} {jl:Nl} {ps:Nl} (hh:CB gs G jl h ps u)
def CB.aI:=hh.1
def CB.aJ:=hh.2.1
def CB.aG:=hh.2.2.1
def CB.aT:=hh.2.2.2.1
def CB.aD:=hh.2.2.2.2.1
def CB.aC:=hh.2.2.2.2.2
end
def CJ(gs:List cJ)(G:Nat->Mp)(jl:Nl)(h:Hp)(oZ ps:Nl)(b:Bool)(v:Mp)(u:Hp):Prop:=CB gs G jl h ps u/\v 3=M (.o b)/\(wq gs oZ (JL oZ).length->b=Z/\ps=oZ)
section
variable{G:Nat->Mp} {jl:Nl} {oZ ps:Nl} {v:Mp} (hh:CJ gs G jl h oZ ps b v u)
def CJ.aC:=hh.1
def CJ.aG:=hh.2.1
def CJ.aD:=hh.2.2
end
variable{q c:Nat} {Q:QF} {F:Mp} {G:Nat->Mp} {jl:Nl} {oZ ps:Nl} {x:It} {r:cJ} {k:Sx}
section
variable{v:Mp}
theorem Gi(hr:(hP gs)[x.1]?=M r):sy gs x=r.2[x.2]?:=by unfold sy;rw[hr];rfl
theorem C8(h:r∈gs):r.1∈fi gs gs.length:=CX (.inl (dw (by rw[e7];exact h)))
def TU(gs:List cJ)(h:Hp)(x:It):Prop:=∃g l vs,h (5,[x.1,x.2])=M (.i 2 g)/\g 28=M (.e l)/\h l=M (.l vs)/\kR.contains l.1=Z/\∀v,v∈vs↔∃(q:Nat)(r:cJ),v=.e (2,[q+1])/\gs[q]?=M r/\sy gs x=M r.1
theorem aem(W:LW gs h)(hr:(hP gs)[x.1]?=M r)(hj:x.2<=r.2.length):TU gs h x:=by
 obtain⟨g,u5,TY,u9⟩:=W.aD x.1 r x.2 hr hj;have U:lY (fi gs gs.length) r.2 x.1 x.2=(9,[x.1,x.2])->(∀r':cJ,r'∈gs->sy gs x≠M r'.1)->TU gs h x:=λe no=>⟨g,(9,[x.1,x.2]),[],u5,aj e TY,u9 e,Y,λv=>⟨(λw=>bw w),λw=>w.elim λq w=>w.elim λr w=>ax w.2.2 (no r (bE w.2.1))⟩⟩
 cases hs:r.2[x.2]? with
 |none=>exact U (by unfold lY;rw[hs]) λr' a e=>cK (((Gi hr).trans hs).symm.trans e)
 |some s=>
  have es:=(Gi hr).trans hs;by_cases c:s∈fi gs gs.length
  .have e:lY (fi gs gs.length) r.2 x.1 x.2=(8,cd s):=by unfold lY;rw[hs];exact aw c
   refine⟨g,(8,cd s),_,u5,aj e TY,W.aC s c,Y,λv=>⟨λw=>?_,λw=>?_⟩⟩
   .obtain⟨q,hq,rfl⟩:=bk.mp w;obtain⟨r',h1,h2⟩:=aB (iH.mp hq).2;exact⟨q,r',Y,h1,ak h2 es⟩
   .obtain⟨q,r',rfl,h1,h2⟩:=w;exact dw (f:=λq=>V.e (2,[q+1])) (iH.mpr ⟨gY.mpr (cV.mp h1).1,az ⟨r',h1,bu (h2.symm.trans es)⟩⟩)
  .exact U (by unfold lY;rw[hs];exact av c) λr' wt e=>c (ak (bu (es.symm.trans e)) (C8 wt))
theorem aen:JL (ps++[q])=JL ps++[(q+1,0)]:=aq (NH (0,0)) (dc (l₂:=[q]))
theorem TZ{tl:Nl}:JL (ps++tl)=JL ps++tl.map λq=>(q+1,0):=aq (NH (0,0)) dc
theorem T3:a7 I++[.e (5,[x.1,x.2])]=a7 (I++[x]):=(dc (l₂:=[x])).symm
theorem KN(nd:ps.Nodup)(lv:∀q∈ps,∃r:cJ,gs[q]?=M r/\Lv gs r.1):(a7 (JL ps)).length<=gs.length+1:=by rw[a7,bc,JL,oE,bc];exact fJ (aL (oX nd λq hq=>gY.mpr ((lv q hq).elim λr k=>(cV.mp k.1).1)) (fR iU))
theorem aeo(zg:gs.length<=90)(wu:h (20,[])=M (.i 6 (aH F 37 (.i 1))))(hG:∀(q:Nat)(r:cJ),gs[q]?=M r->G q 46=U/\G q 11=M (.e (5,[q+1,0])))(m0:m 0=M (.e (20,[])))(m2:m 2=M (.e (34,jl)))(J:CJ gs G jl h oZ ps b v u)(hr:gs[q]?=M r)(l:Lv gs r.1)(v5:v 5=M (.e (2,[q+1])))(nc:wq gs oZ (JL oZ).length->q∈oZ)
 (k0:q∈ps->Q .c ⟨aU [3,4,5] v m,mix kR u h,t⟩)(k1:∀v' u',q∉ps->v' 4=v 4->CJ gs G jl h oZ (ps++[q]) O v' u'->Q .n ⟨aU [3,4,5] v' m,mix kR u' h,t⟩):
 WB n J6 Q ⟨aU [3,4,5] v m,mix kR u h,t⟩:=by
 have e2:=J.aC.aI q r hr;have ec:∀{u},RE ⟨aU [3,4,5] v m,mix kR u h,t⟩ (.a (.v 0) 37) (.i 1):=ra (aE m0) wu Y Y
 by_cases c:q∈ps
 .have er:RE ⟨aU [3,4,5] v m,mix kR u h,t⟩ (.a (.v 5) 46) (.i 1):=ra (aE v5) e2 Y (congrFun (aw c) 46);exact iN (aj (az (Y:V.i 1=V.i 1)) (fu (o:=.Eq) er ec (pD Y Y))) (z6 (k0 c))
 .have eg:KM ps G q=G q:=av c;rw[eg]at e2;have er:RE ⟨aU [3,4,5] v m,mix kR u h,t⟩ (.a (.v 5) 46) (.i 0):=Pb (aE v5) (Pa e2 Y (hG q r hr).1 Y)
  refine i8 (aj (aA (λw:V.i 0=V.i 1=>by cases w)) (fu (o:=.Eq) er ec (pD Y Y))) (aO (ny (l:=(34,jl)) Y Y (aE m2) J.aC.aG (ra (aE v5) e2 Y (hG q r hr).2) (bF (KN J.aC.aD J.aC.aC) (bF (fJ zg) (ao Y))) (uC (l:=(2,[q+1])) Y Y (aE v5) e2 ec (eF mY (aO ?_)))))
  show Q .n ⟨aH (aU [3,4,5] v m) 3 (.o O),_,t⟩;rw[bH Y];refine k1 _ _ c Y ⟨⟨λq' r' sS=>?_,(aQ (jQ (yN q).symm)).trans J.aC.aJ,?_,λx hx=>(show(Hp.aF u (34,jl) _) (34,x)=_ from aQ λw=>hx (bS w).2).trans (J.aC.aT x hx),qY J.aC.aD c,λq' sS=>(cD.mp sS).elim (J.aC.aC q') λw=>ak (bp.mp w) ⟨r,hr,l⟩⟩,Y,λw=>ax (ak (J.aD w).2 (nc w)) c⟩
  .by_cases e:q'=q
   .subst e;exact a4.trans (aq (λg=>M (af.i 1 g)) (aw (cZ _ (.head _))).symm)
   .refine(aQ (jQ λw=>e (qK w))).trans ((J.aC.aI q' r' sS).trans (aq (λg=>M (af.i 1 g)) ?_));exact Gg ⟨cH _,λw=>(cD.mp w).resolve_right λw=>e (bp.mp w)⟩
  .exact a4.trans (aq (λx=>M (af.l x)) (T3.trans (aq a7 aen.symm)))
theorem KO(h:V.e l=.e l'):l=l':=by
 cases h
 rfl
theorem T4{a b:Nat}(h:V.e (2,[a+1])=.e (2,[b+1])):a=b:=qK (bY (aq sg (KO h))).1
theorem iw(e:R.contains l.1=Z):(mix R u h) l=h l:=by unfold mix;rw[e];rfl
theorem aep(lv:∀q∈ps,∃r:cJ,gs[q]?=M r/\Lv gs r.1)(hx:x∈JL ps):(∃r:cJ,(hP gs)[x.1]?=M r/\x.2<=r.2.length)/\∀s,sy gs x=M s->Lv gs s:=by
 rcases b0.mp hx with rfl|hx
 .exact⟨⟨_,Y,b7 _⟩,λs e=>aj (bu e:bD=s) .s⟩
 .obtain⟨q,hq,rfl⟩:=bk.mp hx;obtain⟨r,hr,l⟩:=lv q hq;exact⟨⟨r,hr,b7 _⟩,λs e=>.c (bE hr) l ((Gi (x:=(q+1,0)) hr).symm.trans e)⟩
theorem aeq(W:LW gs h)(zg:gs.length<=90)(wu:h (20,[])=M (.i 6 (aH F 37 (.i 1))))(hG:∀(q:Nat)(r:cJ),gs[q]?=M r->G q 46=U/\G q 11=M (.e (5,[q+1,0])))(m0:m 0=M (.e (20,[])))(m2:m 2=M (.e (34,jl)))(J:CJ gs G jl h oZ ps b v u)(hx:x∈JL ps)(v4:v 4=M (.e (5,[x.1,x.2])))
 (k:∀v' u' tl b',CJ gs G jl h oZ (ps++tl) b' v' u'->(∀(q:Nat)(r:cJ),gs[q]?=M r->sy gs x=M r.1->q∈ps++tl)->Q .n ⟨aU [3,4,5] v' m,mix kR u' h,t⟩):
 WB n FV Q ⟨aU [3,4,5] v m,mix kR u h,t⟩:=by
 obtain⟨⟨r,hr,hj⟩,lv⟩:=aep J.aC.aC hx;obtain⟨g,l,vs,h5,g28,hl,lR,mv⟩:=aem W hr hj;refine gw (l:=l) vs (λj K=>∃v u tl b,K=⟨aU [3,4,5] v m,mix kR u h,t⟩/\CJ gs G jl h oZ (ps++tl) b v u/\∀w∈vs.take j,∀q,w=.e (2,[q+1])->q∈ps++tl) (ra (aE v4) h5 Y g28) (λj K I=>?_) ⟨v,u,[],b,Y,by rw[hY];exact J,λw hw=>bw hw⟩ (λj w K hv I=>?_) λK I=>?_
 .obtain⟨v,u,tl,b,rfl,_⟩:=I;exact(iw lR).trans hl
 .obtain⟨v,u,tl,b,rfl,I⟩:=I;obtain⟨q,r',rfl,hq,es⟩:=(mv w).mp (bE hv);show WB n J6 _ ⟨aH (aU [3,4,5] v m) 5 (.e (2,[q+1])),mix kR u h,t⟩;rw[bH Y];refine aeo zg wu hG m0 m2 (ps:=ps++tl) ⟨I.1.aC,I.1.aG,I.1.aD⟩ hq (lv _ es) Y (λw=>w _ (by rw[e7];exact aj (J.aD w).2 hx) q r' hq es) (λc=>⟨_,u,tl,b,Y,⟨I.1.aC,I.1.aG,I.1.aD⟩,λw hw q' e=>?_⟩) λv' u' c e4 J'=>⟨v',u',tl++[q],O,Y,tW ..▸J',λw hw q' e=>?_⟩
  .rw[take_snoc hv]at hw;refine(cD.mp hw).elim (λhw=>I.2 w hw q' e) λhw=>?_;obtain rfl:q'=q:=T4 (e.symm.trans (bp.mp hw));exact c
  .rw[take_snoc hv]at hw;rw[<-tW];refine(cD.mp hw).elim (λhw=>cH _ (I.2 w hw q' e)) λhw=>?_;obtain rfl:q'=q:=T4 (e.symm.trans (bp.mp hw));exact cZ _ (.head _)
 .obtain⟨v,u,tl,b,rfl,I⟩:=I;rw[e7]at I;exact aO (k v u tl b I.1 λq r hq e=>I.2 _ ((mv _).mpr ⟨q,r,Y,hq,e⟩) q Y)
theorem aes(W:LW gs h)(zg:gs.length<=90)(wu:h (20,[])=M (.i 6 (aH F 37 (.i 1))))(hG:∀(q:Nat)(r:cJ),gs[q]?=M r->G q 46=U/\G q 11=M (.e (5,[q+1,0])))(m0:m 0=M (.e (20,[])))(m2:m 2=M (.e (34,jl)))(B:CB gs G jl h ps u)
 (k:∀v' u' fh b',CJ gs G jl h ps fh b' v' u'->wq gs fh (JL fh).length->Q .n ⟨aU [3,4,5] v' m,mix kR u' h,t⟩):
 WB n Sl Q ⟨aU [3,4,5] v m,mix kR u h,t⟩:=by
 refine eF mY ?_;show WB n _ _ ⟨aH (aU [3,4,5] v m) 3 (.o Z),mix kR u h,t⟩;rw[bH Y];refine TT (l:=(34,jl)) (gs.length+1) (λj K=>∃v u fh b,K=⟨aU [3,4,5] v m,mix kR u h,t⟩/\CJ gs G jl h ps fh b v u/\j<=(JL fh).length/\wq gs fh j) (aE m2) ⟨_,u,ps,Z,Y,⟨B,Y,λa=>⟨Y,Y⟩⟩,b7 _,λx hx=>bw hx⟩ λj K I=>?_;obtain⟨v,u,fh,b,rfl,I⟩:=I;have ll:(a7 (JL fh)).length=(JL fh).length:=bc ..
 refine⟨_,I.1.aC.aG,ak ll I.2.1,KN I.1.aC.aD I.1.aC.aC,λw hw=>?_,λe=>aO (k v u fh b I.1 (aj ll (aj e I.2.2)))⟩;obtain⟨x,hx,rfl⟩:=dA hw;show WB n FV _ ⟨aH (aU [3,4,5] v m) 4 (.e (5,[x.1,x.2])),mix kR u h,t⟩;rw[bH Y];have lt:=(cV.mp hx).1
 refine aeq W zg wu hG m0 m2 (x:=x) ⟨I.1.aC,I.1.aG,I.1.aD⟩ (bE hx) Y λv' u' tl b' J' cl=>⟨v',u',fh++tl,b',Y,J',?_,?_⟩
 .rw[TZ,dW];exact aL lt (mR ..)
 .unfold wq;rw[TZ,VY lt,take_snoc hx];exactλy hy q r hq es=>(cD.mp hy).elim (λhy=>cH _ (I.2.2 y hy q r hq es)) λhy=>cl q r hq (aj (bp.mp hy) es)
theorem aet(B:CB gs G jl h ps u)(c:wq gs ps (JL ps).length)(hq:gs[q]?=M r):q∈ps↔Lv gs r.1:=by
 refine⟨λw=>(B.aC q w).elim λr' k=>aj (bu (k.1.symm.trans hq)) k.2,λw=>?_⟩;unfold wq at c;rw[e7]at c;have:∀s,Lv gs s->∀(q:Nat)(r:cJ),gs[q]?=M r->r.1=s->q∈ps:=λs l=>by
  induction l with
  |s=>exactλq r hq e=>c (0,0) (.head _) q r hq (ak e Y)
  |c hr _ hs ih=>exactλq r hq e=>(kE hr).elim λq' sS=>c (q'+1,0) (.tail _ (dw (f:=λq=>(q+1,0)) (ih q' _ sS Y))) q r hq ((Gi (x:=(q'+1,0)) sS).trans (ak e hs))
 exact this _ w q r hq Y
theorem aeu{l0:Loc}{P:RQ}(W:LW gs h)(zg:gs.length<=90)(wu:h (20,[])=M (.i 6 F))(f37:F 37=M (.i 0))(hG:∀(q:Nat)(r:cJ),gs[q]?=M r->h (2,[q+1])=M (.i 1 (G q))/\G q 46=U/\G q 11=M (.e (5,[q+1,0])))(C9:cQ l0.1 20=Z)(hl:h l0=M (.l (a7 [(0,0)])))(fr:h (34,jl)=U)
 (k:∀ps ae,CB gs G jl h ps ae->(∀(q:Nat)(r:cJ),gs[q]?=M r->(q∈ps↔Lv gs r.1))->ae (20,[])=M (.i 6 (aH F 37 (.i 1)))->P (.e (34,jl)) (mix [2,20,34] ae h) t):bI (n+1) (bJ 32) [.e (20,[]),.e l0] P h t:=by
 obtain⟨m,hm⟩:∃m:Mp,m=λi=>([V.e (20,[]),.e l0]++[])[i]?:=⟨_,Y⟩;have m0:m 0=M (.e (20,[])):=ak hm Y
 have m1:m 1=M (.e l0):=ak hm Y;refine fP SZ Y ?_;rw[<-hm];refine fW (IM (re (aE m0) ⟨_,EW wu Y f37,re bW ⟨_,xN,su wu Y ?_⟩⟩));show WB n _ _ ⟨m,h.aF (20,[]) (.i 6 (aH F 37 (.i 1))),t⟩;have e1:=kQ (R:=[2,20,34]) (l:=(20,[])) (h:=h) (ob:=.i 6 (aH F 37 (.i 1))) Y
 generalize hh:h.aF (20,[]) (.i 6 (aH F 37 (.i 1)))=h1 at e1⊢;have W1:LW gs h1:=aj hh ⟨W.aC,W.aD⟩
 have Gj:h1 (20,[])=M (.i 6 (aH F 37 (.i 1))):=aj hh a4;have kl:h1 l0=M (.l (a7 [(0,0)])):=aj hh ((aQ (bf C9)).trans hl)
 refine cj (QP (re (aE m1) ⟨l0,_,Y,kl,(by decide:1<=16777216),dF (34,jl) Y (aj hh fr) (eF mY ?_)⟩))
 show WB n _ _ ⟨aH (aH m 2 (.e (34,jl))) 3 (.o O),h1.aF (34,jl) (.l (a7 [(0,0)])),t⟩;obtain⟨m',wx⟩:∃m':Mp,m'=aH (aH m 2 (.e (34,jl))) 3 (.o O):=⟨_,Y⟩;rw[<-wx,kQ (R:=kR) (h:=h1) Y,gH (R:=[3,4,5]) (m:=m')];have sR:m' 2=M (.e (34,jl)):=ak wx Y
 have B0:CB gs G jl h1 [] (h1.aF (34,jl) (.l (a7 [(0,0)]))):=⟨λq r hq=>aj hh ((hG q r hq).1.trans (aq (λg=>M (af.i 1 g)) (av qJ).symm)),Y,a4,λx hx=>aQ λw=>hx (bS w).2,gh,λq w=>bw w⟩;refine sH (m₀:=2) (λk K=>∃v u ps b,K=⟨aU [3,4,5] v m',mix kR u h1,t⟩/\CB gs G jl h1 ps u/\v 3=M (.o b)/\(k<2\/b=Z->wq gs ps (JL ps).length)/\(k=0->b=Z)) ⟨m',_,[],O,Y,B0,ak wx Y,λw=>ax w (ao Y),λe=>dS e Y⟩ λk' K I=>?_;obtain⟨v,u,ps,b,rfl,I⟩:=I;refine⟨b,fc (aE I.2.1) mE,λe=>?_,λe=>jO (aE (show(aU [3,4,5] v m') 2=_ from sR)) ?_⟩
 .cases k' with
  |zero=>exact ax (e.symm.trans (I.2.2.2 Y)) (λw=>cw w)
  |succ k'=>exact aes W1 zg Gj (λq r hq=>(hG q r hq).2) (wx▸m0) sR I.1 λv' u' fh b' J c=>⟨k',jd _,v',u',fh,b',Y,J.aC,J.aG,λa=>c,λe=>(J.aD (I.2.2.1 (.inl (e▸by decide)))).1⟩
 .have em:=gG (R:=[2,20,34]) (R':=kR) (u:=h1) (v:=u) (h:=h) Y;rw[<-e1]at em;show P (.e (34,jl)) (mix kR u h1) t;rw[em];have B':=I.1
  exact k ps _ ⟨B'.aI,B'.aJ.trans (aj hh Y),B'.aG,λx hx=>(B'.aT x hx).trans (aj hh Y),B'.aD,B'.aC⟩ (λq r hq=>aet B' (I.2.2.1 (.inr e)) hq) Gj
end
def j9{X:Type}(w:X)(P R:X->Prop):X:=@Bc X ⟨w⟩ λx=>P x/\¬R x
theorem mJ{X:Type}{w:X}{P R:X->Prop}(core:P (j9 w P R)->R (j9 w P R)){x:X}(p:P x):R x:=AR λn=>
 have e:P (j9 w P R)/\¬R (j9 w P R):=A5 (p:=λx=>P x/\¬R x) ⟨x,p,n⟩
 e.2 (core e.1)
noncomputable def f1:Mp:=aH f0 24 (.s bD)
noncomputable def F0:Mp:=aH (aH (aH (aH (aH (aH (aH (aH (aH (aH (aH (aH (aH (λa=>U) 30 (.e (1,[]))) 31 (.s oY)) 32 (.e (23,[]))) 33 (.e (25,[]))) 34 (.e (41,[]))) 35 (.e (21,[]))) 36 (.e (22,[]))) 37 (.i 0)) 38 (.i 0)) 39 (.i 0)) 40 (.e (26,[]))) 41 (.e (27,[]))) 42 (.e (28,[]))
noncomputable abbrev lR:Nl:=[0,2,6,20,21,22,23,24,25,26,27,28,29,30,31,32,33,34,35,36,37,38,39,40,50,51,52,53,99]
def nC(gs:List cJ):Prop:=gs.length<=90/\(∀r∈gs,r.2=[]\/(r.1=bD/\∃A,r.2=[A])\/∃A x,r.2=[A,x]/\x∈lets)/\(∀s∈fi gs gs.length,s∉ts)/\(∀s∈fX gs gs.length,s∉ts)/\(∀r∈gs,∀A,r.2[0]?=M A->A∈fX gs gs.length/\A≠bD)/\(∀r∈gs,r.1∈fX gs gs.length/\r.1≠sP)/\sP∉fX gs gs.length/\bD∈fX gs gs.length/\gs.Nodup/\(∀r∈gs,∀r'∈gs,∀A x,r.2=[A,x]->r'.2=[A,x]->r=r')/\∀r∈gs,∀r'∈gs,r.2=[]->r'.2=[]->r=r'
variable(hh:nC gs)
def nC.aG:=hh.1
def nC.aD:=hh.2.1
def nC.bj:=hh.2.2.1
def nC.aJ:=hh.2.2.2.1
def nC.aC:=hh.2.2.2.2.1
def nC.aI:=hh.2.2.2.2.2.1
def nC.cF:=hh.2.2.2.2.2.2.1
def nC.aT:=hh.2.2.2.2.2.2.2.1
def nC.bb:=hh.2.2.2.2.2.2.2.2.1
def nC.b6:=hh.2.2.2.2.2.2.2.2.2.1
def nC.dC:=hh.2.2.2.2.2.2.2.2.2.2
noncomputable def qx(gs:List cJ)(p:Nat):cJ:=((hP gs)[p]?).getD (fU,[])
noncomputable def oo(gs:List cJ)(x:It):Option aP:=(qx gs x.1).2[x.2]?
noncomputable def KG(gs:List cJ)(I:List It)(x:aP):List It:=I.filterMap λy=>if oo gs y=M x then M (y.1,y.2+1)else U
def yb(gs:List cJ)(cs:List (List It)):Prop:=cs.length<=1000/\(∃ps:Nl,cs[(0:Nat)]?=M (JL ps)/\ps.Nodup/\(∀(q:Nat)(r:cJ),gs[q]?=M r->(q∈ps↔Lv gs r.1))/\∀q∈ps,q<gs.length)/\(∀c∈cs,∀x,KG gs c x≠([]:List It)->KG gs c x∈cs)/\(∀(j:Nat)(c:List It),0<j->cs[j]?=M c->c≠[]/\∃c'∈cs,∃x,c=KG gs c' x)/\cs.Nodup
section
variable{cs:List (List It)} (hh:yb gs cs)
def yb.aJ:=hh.1
def yb.aI:=hh.2.1
def yb.aC:=hh.2.2.1
def yb.aD:=hh.2.2.2.1
def yb.aG:=hh.2.2.2.2
end
def Fo(gs:List cJ)(A a:aP):Prop:=(∃r∈gs,Lv gs r.1/\r.2=[A,a])\/(a=cG/\(A=bD\/(bD,[A])∈gs))
def Cell(gs:List cJ)(cs:List (List It))(c:List It)(y:It)(k v:V):Prop:=
 (y.1=0/\y.2=1/\k=.s cG/\v=.i 0)\/(y.1≠0/\oo gs y=U/\(∃a,k=.s a/\Fo gs (qx gs y.1).1 a)/\v=.i (-(y.1:Int)))\/∃a i,oo gs y=M a/\a∈ts/\k=.s a/\cs[i]?=M (KG gs c a)/\v=.i (i:Nat)
def o7(gs:List cJ)(cs:List (List It))(u:Hp):Prop:=yb gs cs/\(∃c,u (20,[])=M (.i 6 (aH F0 37 c)))/\(u (23,[])=M (.d ((iW cs.length).map λj=>(.i (j:Nat),.e (29,[j])))))/\(u (25,[])=M (.d ((iW cs.length).map λj=>(.i (j:Nat),.e (30,[j])))))/\(∀(j:Nat)(c:List It),cs[j]?=M c->∃es,u (29,[j])=M (.d es)/\(es.map (·.1)).Nodup/\∀k v,(k,v)∈es↔∃y∈c,Cell gs cs c y k v)/\(∀(j:Nat)(c:List It),cs[j]?=M c->∃es,u (30,[j])=M (.d es)/\(es.map (·.1)).Nodup/\∀k v,(k,v)∈es↔∃A i,k=.s A/\v=.i (i:Nat)/\A∈fX gs gs.length/\KG gs c A≠[]/\cs[i]?=M (KG gs c A))/\u (27,[])=M (.l [])/\u (28,[])=M (.l [])
section
variable{cs:List (List It)} (hh:o7 gs cs u)
def o7.aC:=hh.1
def o7.aD:=hh.2.1
def o7.aJ:=hh.2.2.1
def o7.aG:=hh.2.2.2.1
def o7.bj:=hh.2.2.2.2.1
def o7.aI:=hh.2.2.2.2.2.1
def o7.aT:=hh.2.2.2.2.2.2.1
def o7.bb:=hh.2.2.2.2.2.2.2
end
structure Rn where
 n:Nat
 u:Hp
 t:Nat
 Q:RQ
noncomputable def yd:Rn:=⟨0,λa=>U,0,λa a a=>True⟩
abbrev sU(P R:Rn->Prop):Rn:=j9 yd P R
theorem wy{P R:Rn->Prop}(core:P (sU P R)->R (sU P R)){x:Rn}(p:P x):R x:=mJ core p
structure sV where
 gs:List cJ
 F:Nat->Mp
 n:Nat
 h:Hp
 t:Nat
 Q:RQ
def iP(x:sV):Prop:=nC x.gs/\x.h (1,[])=M (.i 4 f1)/\x.h (41,[])=M (.l (refs (x.gs.length+1)))/\(∀s∈fi x.gs x.gs.length,x.h (8,cd s)=M (.l (named x.gs x.gs.length s)))/\x.h (44,[])=M (.d (eG 12 ts))/\x.h (45,[])=M (.d (eG 13 (fX x.gs x.gs.length)))/\x.h (48,[])=M (.d [])/\(∀(p:Nat)(r:cJ),(hP x.gs)[p]?=M r->x.h (3,[p])=M (.l ((dd r.2).map .s)))/\Tw x.gs x.h/\(∀(q:Nat)(r:cJ),(hP x.gs)[q]?=M r->∃g,x.h (2,[q])=M (.i 1 g)/\qs q r.1 r.2 rC (.i 0) g/\g 11=M (.e (5,[q,0])))/\x.h (20,[])=M (.i 6 F0)/\x.h (21,[])=M (.d [])/\x.h (22,[])=M (.d [])/\x.h (23,[])=M (.d [])/\x.h (25,[])=M (.d [])/\x.h (27,[])=M (.l [])/\x.h (28,[])=M (.l [])/\(∀k y,[24,29,30,31,32,33,34,35,36,37,38,39,40,52,53].contains k=O->x.h (k,y)=U)/\(∃g,x.h gu=M (.fz g))/\x.h (50,[])=M (.t 391 #[])/\x.h (51,[])=M (.t 398 #[])/\∀cs u t',o7 x.gs cs u->x.Q .n (mix lR u x.h) t'
section
variable{x:sV} (hh:iP x)
def iP.aC:=hh.1
def iP.aD:=hh.2.1
def iP.aI:=hh.2.2.1
def iP.jq:=hh.2.2.2.1
def iP.aJ:=hh.2.2.2.2.1
def iP.bb:=hh.2.2.2.2.2.1
def iP.akO:=hh.2.2.2.2.2.2.1
def iP.b6:=hh.2.2.2.2.2.2.2.1
def iP.bj:=hh.2.2.2.2.2.2.2.2.1
def iP.eO:=hh.2.2.2.2.2.2.2.2.2.1
def iP.aG:=hh.2.2.2.2.2.2.2.2.2.2.1
def iP.aew:=hh.2.2.2.2.2.2.2.2.2.2.2.1
def iP.aex:=hh.2.2.2.2.2.2.2.2.2.2.2.2.1
def iP.aey:=hh.2.2.2.2.2.2.2.2.2.2.2.2.2.1
def iP.aez:=hh.2.2.2.2.2.2.2.2.2.2.2.2.2.2.1
def iP.aeA:=hh.2.2.2.2.2.2.2.2.2.2.2.2.2.2.2.1
def iP.uF:=hh.2.2.2.2.2.2.2.2.2.2.2.2.2.2.2.2.1
def iP.aT:=hh.2.2.2.2.2.2.2.2.2.2.2.2.2.2.2.2.2.1
def iP.aeB:=hh.2.2.2.2.2.2.2.2.2.2.2.2.2.2.2.2.2.2.1
def iP.dC:=hh.2.2.2.2.2.2.2.2.2.2.2.2.2.2.2.2.2.2.2.1
def iP.cF:=hh.2.2.2.2.2.2.2.2.2.2.2.2.2.2.2.2.2.2.2.2.1
def iP.rF:=hh.2.2.2.2.2.2.2.2.2.2.2.2.2.2.2.2.2.2.2.2.2
end
def KQ(x:sV):Prop:=bI (x.n+12) (bJ 44) [.e (20,[])] x.Q x.h x.t
def lx:sV:=j9 ⟨[],λa a=>U,0,λa=>U,0,λa a a=>True⟩ iP KQ
abbrev gS:List cJ:=lx.gs
abbrev hL:Hp:=lx.h
abbrev hp(u:Hp):Hp:=mix lR u hL
abbrev HL:Prop:=iP lx
def ru(p:Nat):cJ:=qx gS p
def sym(x:It):Option aP:=oo gS x
def K1(I:List It)(x:aP):List It:=KG gS I x
def Io(x:It):Prop:=x.1<gS.length+1/\x.2<=(ru x.1).2.length
def IX(x:It)(f:Mp):Prop:=hL (5,[x.1,x.2])=M (.i 2 f)/\f 0=M (.s (ru x.1).1)/\f 1=M (V.bP ((dot (ru x.1).2 x.2).map .s))/\f 2=M (.i x.1)/\f 8=M (.i ((ru x.1).2.length+1:Nat))/\f 9=M (.e (3,[x.1]))/\f 11=M (sM x.1 x.2 (ru x.1).2)/\f 13=M (.i x.2)/\f 14=M (.e (6,[x.1,x.2]))/\(0<x.2->f 28=M (.e (9,[x.1,x.2]))/\hL (9,[x.1,x.2])=M (.l []))/\(∀s,0<x.2->(ru x.1).2[x.2-1]?=M s->f 29=M (.s s))/\hL (6,[x.1,x.2])=M (.d [])
variable(hh:IX x f)
def IX.aC:=hh.1
def IX.aJ:=hh.2.1
def IX.aI:=hh.2.2.1
def IX.aT:=hh.2.2.2.1
def IX.aG:=hh.2.2.2.2.1
def IX.b6:=hh.2.2.2.2.2.1
def IX.eO:=hh.2.2.2.2.2.2.1
def IX.aD:=hh.2.2.2.2.2.2.2.1
def IX.bb:=hh.2.2.2.2.2.2.2.2.1
def IX.dC:=hh.2.2.2.2.2.2.2.2.2.1
def IX.cF:=hh.2.2.2.2.2.2.2.2.2.2.1
def IX.bj:=hh.2.2.2.2.2.2.2.2.2.2.2
def fI(x:It):Mp:=@Bc _ ⟨λa=>U⟩ (IX x)
def PX(p:Nat)(g:Mp):Prop:=hL (2,[p])=M (.i 1 g)/\qs p (ru p).1 (ru p).2 rC (.i 0) g/\g 11=M (.e (5,[p,0]))
variable(hh:PX p g)
def PX.aD:=hh.1
def PX.aC:=hh.2.1
def PX.aG:=hh.2.2
def gP(p:Nat):Mp:=@Bc _ ⟨λa=>U⟩ (PX p)
theorem wz(h:p<gS.length+1):(hP gS)[p]?=M (ru p):=by
 obtain⟨r,hr⟩:=lW (l:=hP gS) (show p<(hP gS).length from h)
 unfold ru qx;rw[hr]
 rfl
theorem px(H:HL)(h:p<gS.length+1):PX p (gP p):=(H.eO p _ (wz h)).elim λg k=>@A5 _ (PX p) ⟨g,k.1,k.2.1,k.2.2⟩
theorem Ai(h:gS[q]?=M r):ru (q+1)=r:=by
 unfold ru qx;rw[show(hP gS)[q+1]?=gS[q]? from Y,h]
 rfl
theorem sX(h:q+1<gS.length+1):ru (q+1)∈gS:=bE (i:=q) (wz h)
theorem sY(H:HL)(i:Io x)(h0:0<x.2)(hs:sym x=M s):x.2=1/\s∈lets/\∃A,(ru x.1).2=[A,s]:=by
 obtain⟨p,j⟩:=x;have hs:(ru p).2[j]?=M s:=hs
 have go:∀{A x:aP},(ru p).2=[A,x]->x∈lets->j=1/\s∈lets/\∃A,(ru p).2=[A,s]:=λ{A x} e l=>by
  rw[e]at hs;cases j with
  |zero=>cases h0
  |succ j=>cases j with
   |zero=>exact⟨Y,aj (bu hs) l,A,aj (bu hs) e⟩
   |succ j=>exact cK hs
 have no:∀{A:aP},(ru p).2=[A]->False:=λe=>by
  rw[e]at hs;cases j with
  |zero=>cases h0
  |succ j=>exact cK hs
 cases p with
 |zero=>exact(no Y).elim
 |succ q=>
  rcases H.aC.aD _ (sX i.1)with e|⟨_,A,e⟩|⟨A,x,e,l⟩
  .rw[e]at hs;exact cK hs
  .exact(no e).elim
  .exact go e l
theorem uG(h:s∈lets):s∈ts:=by
 rcases b0.mp h with h|h
 .exact ak h (.head _)
 rcases b0.mp h with h|h
 .exact ak h (.tail _ (.head _))
 .exact ak (bp.mp h) (.tail _ (.tail _ (.head _)))
theorem ix(H:HL)(i:Io x):IX x (fI x):=by
 obtain⟨f,X,C3⟩:=H.bj x.1 (ru x.1) x.2 (wz i.1) i.2;have ea:0<x.2->lY (fi gS gS.length) (ru x.1).2 x.1 x.2=(9,[x.1,x.2]):=λh0=>by
  unfold lY;cases hs:(ru x.1).2[x.2]? with
  |none=>rfl
  |some s=>exact av λw=>H.aC.bj s w (uG (sY H i h0 hs).2.1)
 exact@A5 _ (IX x) ⟨f,X.aD,X.aC.1,X.aC.2.1,X.aC.2.2.1,X.aC.2.2.2.1,X.aC.2.2.2.2.1,C3,X.aC.2.2.2.2.2.1,X.aC.2.2.2.2.2.2,λh0=>⟨aj (ea h0) X.aI,X.aG (ea h0)⟩,X.aT,X.aJ⟩
theorem nD{y:It}(h:y∈K1 I s):∃z∈I,sym z=M s/\y=(z.1,z.2+1):=by
 obtain⟨z,hz,e⟩:=pA.mp h;by_cases c:sym z=M s
 .exact⟨z,hz,c,bu (e.symm.trans (aw c))⟩
 .exact fK (e.symm.trans (av c))
theorem sZ{z:It}(h:z∈I)(c:sym z=M s):(z.1,z.2+1)∈K1 I s:=pA.mpr ⟨z,h,aw c⟩
theorem KR(i:Io x)(c:sym x=M s):Io (x.1,x.2+1):=⟨i.1,(cV.mp c).1⟩
theorem uH(ok:∀y∈I,Io y):∀y∈K1 I s,Io y:=λy hy=>(nD hy).elim λz k=>ak k.2.2 (KR (ok z k.1) k.2.1)
noncomputable def Sx.tl(x:Sx):Sx:=match x with|.c _ r=>r|_=>.n
noncomputable def Sx.dD(k:Nat)(x:Sx):Sx:=NR x (λa y=>y.tl) k
noncomputable def gk(I:List It)(x:aP):V:=V.bP [kZ I,.s x]
def Aj(u:Hp)(v:V)(L:Vs):Prop:=∃l,v=.e (34,l)/\u (34,l)=M (.l L)
def ye(I:List It)(x:aP)(u:Hp)(v:V):Prop:=Aj u v (a7 (K1 I x))\/(v=.n/\K1 I x=[])
def rG(bl:List It)(u:Hp)(ds:Es):Prop:=∀k v,bM ds k=M v->(k=.s cG/\Aj u v [])\/∃y∈bl,k=oW y
def pQ(w w':Hp):Prop:=∀l L,w (34,l)=M (.l L)->w' (34,l)=M (.l L)
def FR(w:Hp):Prop:=∃j0,∀j,j0<=j->w (34,[j])=U/\w (35,[j])=U
structure GC(es:Es)(bl:List It)(N:Nat)(u:Hp):Prop where
 aC:∃c:Int,u (20,[])=M (.i 6 (aH F0 37 (.i c)))
 aG:u (21,[])=M (.d es)
 aI:es.length<=N
 aT:∀x v,bM es (.s x)=M v->∃l ds,v=.e (34,l)/\u (34,l)=M (.d ds)/\ds.length<=N/\rG bl u ds
 aJ:∀I x v,bM es (gk I x)=M v->ye I x u v
 aD:FR u
variable{x:aP} {l:Nl} {w w':Hp} {N N':Nat} {L:Vs} {es:Es} {bl gX:List It} {Q:RQ}
section
variable{v:V} {ds:Es} {o:af}
theorem aeC{a b c d:V}(h:V.fk a b=.fk c d):a=c/\b=d:=by cases h;exact⟨Y,Y⟩
theorem wB:∀{xs ys:Vs},V.bP xs=V.bP ys->xs=ys:=by
 intro xs
 induction xs with
 |nil=>
  intro ys h;cases ys with
  |nil=>rfl
  |cons y ys=>exact HO h rfl
 |cons x xs ih=>
  intro ys h;cases ys with
  |nil=>exact HO h rfl
  |cons y ys=>
   have h:=aeC (show V.fk x (V.bP xs)=.fk y (V.bP ys) from h)
   rw[h.1,ih h.2]
theorem jR{a b:Int}(h:V.i a=.i b):a=b:=by
 cases h
 rfl
theorem T5{a b:It}(h:oW a=oW b):a=b:=by have h:=wB h;exact je (jv (jR (bY h).1)) (jv (jR (bY (bY h).2).1))
theorem map_inj{f:α->β}(hf:∀a b,f a=f b->a=b):∀{l l':List α},l.map f=l'.map f->l=l':=by
 intro l
 induction l with
 |nil=>
  intro l' h;cases l' with
  |nil=>rfl
  |cons b l'=>exact jZ h rfl
 |cons a l ih=>
  intro l' h;cases l' with
  |nil=>exact jZ h rfl
  |cons b l'=>rw[hf a b (bY h).1,ih (bY h).2]
theorem Gk{J:List It}(h:kZ I=kZ J):I=J:=map_inj (λa a=>T5) (wB h)
theorem aeD{I':List It}{x':aP}(h:gk I x=gk I' x'):I=I'/\x=x':=by have h:=wB h;exact⟨Gk (bY h).1,str_inj (bY (bY h).2).1⟩
theorem yg{d:Nat}:∀{I:List It},(kZ I).cn (d+2)=O/\(kZ I).ip=O:=by
 intro I
 induction I with
 |nil=>exact⟨Y,Y⟩
 |cons a I ih=>
  have k:=ih;have e:kZ (a::I)=.fk (oW a) (kZ I):=Y
  rw[e];exact⟨dH.mpr ⟨Y,dH.mpr ⟨Y,dH.mpr k⟩⟩,Y⟩
theorem KS:(gk I x).cn 7=O:=dH.mpr ⟨Y,dH.mpr ⟨(yg (d:=4)).1,Y⟩⟩
theorem Aj.nE(h:Aj w v L)(p:pQ w w'):Aj w' v L:=h.elim λl k=>⟨l,k.1,p l L k.2⟩
theorem ye.nE(h:ye I x w v)(p:pQ w w'):ye I x w' v:=h.imp (·.nE p) id
theorem rG.nE(h:rG bl w ds)(p:pQ w w')(s:∀y∈bl,y∈gX):rG gX w' ds:=λk v e=>(h k v e).imp (λq=>⟨q.1,q.2.nE p⟩) λq=>q.elim λy q=>⟨y,s y q.1,q.2⟩
theorem GC.cg(C:GC es bl N w)(p:pQ w w')(d:∀l ds,w (34,l)=M (.d ds)->ds.length<=N->rG bl w ds->∃kK,w' (34,l)=M (.d kK)/\kK.length<=N'/\rG gX w' kK)(ch:w' (21,[])=w (21,[]))(tb:∃c:Int,w' (20,[])=M (.i 6 (aH F0 37 (.i c))))(le:N<=N')(fr:FR w'):GC es gX N' w':=
 ⟨tb,ch.trans C.aG,aL C.aI le,λx v e=>by obtain⟨l,ds,e1,e2,e3,e4⟩:=C.aT x v e;obtain⟨kK,k⟩:=d l ds e2 e3 e4;exact⟨l,kK,e1,k⟩,λI x v e=>(C.aJ I x v e).nE p,fr⟩
theorem pn(f:w (34,[j])=U){o':af}(e:w (34,l)=M o'):(w.aF (34,[j]) o) (34,l)=M o':=(aQ λq=>by rw[<-(bS q).2,e]at f;exact fK f).trans e
theorem FR.aF{l:Loc}(f:FR w):FR (w.aF l o):=f.elim λj0 k=>⟨max j0 (l.2.headD 0+1),λj h=>by
 have ne:∀r,(r,[j])≠l:=λr e=>dI j (by rw[<-e]at h;exact aL (Nat.le_max_right j0 (j+1)) h)
 have q:=k j (aL (Nat.le_max_left ..) h);exact⟨(aQ (ne 34)).trans q.1,(aQ (ne 35)).trans q.2⟩⟩
theorem GC.Ah(C:GC es bl N w)(f:w (34,[j])=U):GC es bl N (w.aF (34,[j]) o):=C.cg (λl L e=>pn f e) (λl ds e z k=>⟨ds,pn f e,z,k.nE (λl L e=>pn f e) λa h=>h⟩) Y C.aC (dj _) C.aD.aF
theorem GC.T6{dn wC:Es}(C:GC es bl N w)(hd:w (34,l)=M (.d dn))(s:∀y∈bl,y∈gX)(le:N<=N')(k:rG gX w wC)(z:wC.length<=N'):GC es gX N' (w.aF (34,l) (.d wC))/\pQ w (w.aF (34,l) (.d wC)):=by
 have p:pQ w (w.aF (34,l) (.d wC)):=λl' L e=>(aQ λq=>by rw[q,hd]at e;exact vq e Y).trans e
 refine⟨C.cg p (λl' ds e z' k'=>?_) Y C.aC le C.aD.aF,p⟩
 .by_cases c:(34,l')=(34,l)
  .rw[c];exact⟨wC,a4,z,k.nE p λa h=>h⟩
  .exact⟨ds,(aQ c).trans e,aL z' le,k'.nE p s⟩
theorem GC.nd(C:GC es bl N w):GC es bl N (w.aF (35,l) o):=⟨C.aC,C.aG,C.aI,C.aT,C.aJ,C.aD.aF⟩
theorem GC.bN(C:GC es bl N w)(s:∀y∈bl,y∈gX)(le:N<=N'):GC es gX N' w:=C.cg (λa a e=>e) (λl ds e z k=>⟨ds,e,aL z le,k.nE (λa a e=>e) s⟩) Y C.aC le C.aD
theorem wD(H:HL)(io:∀y∈I,Io y)(z:I.length<=1000)(ne:I≠[])(hl:u (34,l)=M (.l (a7 I)))(q:∀w,Q (kZ I) (hp (mix [99] w u)) (t+1)):bI (n+1) (bJ 6) [.e (34,l)] Q (hp u) t:=
 ad3 (h:=hp u) (λx hx=>have X:=ix H (io x hx);⟨fI x,X.aC,X.aT,X.aD⟩) z ne Y hl λw=>ak (gG (R:=lR) (R':=[99]) Y) (q w)
theorem KT(H:HL)(io:∀y∈I,Io y)(z:I.length<=1000)(ne:I≠[])(hl:u (34,l)=M (.l (a7 I)))(m1:m 1=M (.e (34,l)))(m2:m 2=M (.s x))(q:∀w,P (gk I x) ⟨m,hp (mix [99] w u),t+1⟩):WE (n+1) (.d (.c (.g 6 (.c (.v 1) .n)) (.c (.v 2) .n))) P ⟨m,hp u,t⟩:=
 xG (eC (kM (rl (a6 (aE m1) br) ((wD H io z ne hl λw=>eC (re (aE m2) (eB ⟨(by decide:2<=16777216),q w⟩))).o))))
theorem aeE{c:Int}{l:Loc}(H:HL)(io:∀y∈I,Io y)(ps:∀y∈I,0<y.2)(z:I.length<=1000)(tb:u (20,[])=M (.i 6 (aH F0 37 (.i c))))(C9:cQ l.1 20=Z)(hl:(hp u) l=M (.l (a7 I)))(fr:u (34,jl)=U)(q:Q (.e (34,jl)) (hp ((u.aF (20,[]) (.i 6 (aH F0 37 (.i (c+1))))).aF (34,jl) (.l (a7 I)))) t):bI (n+1) (bJ 32) [.e (20,[]),.e l] Q (hp u) t:=by
 obtain⟨m,hm⟩:∃m:Mp,m=λi=>([V.e (20,[]),.e l]++[])[i]?:=⟨_,Y⟩;have m0:m 0=M (.e (20,[])):=ak hm Y
 have m1:m 1=M (.e l):=ak hm Y;refine fP SZ Y ?_;rw[<-hm];refine fW (IM (re (aE m0) ⟨_,EW (c:=6) (f:=aH F0 37 (.i c)) tb Y Y,re bW ⟨_,xN,su (c:=6) (f:=aH F0 37 (.i c)) tb Y ?_⟩⟩));show WB n _ _ ⟨m,(hp u).aF (20,[]) (.i 6 (aH (aH F0 37 (.i c)) 37 (.i (c+1)))),t⟩;have yh:((hp u).aF (20,[]) (.i 6 (aH F0 37 (.i (c+1))))) l=M (.l (a7 I)):=(aQ (bf C9)).trans hl
 rw[Ki];refine cj (QP (re (aE m1) ⟨l,_,Y,yh,by rw[a7,bc];exact aL z (ao Y),dF (34,jl) Y fr ?_⟩))
 show WB n _ _ ⟨aH m 2 (.e (34,jl)),((hp u).aF (20,[]) _).aF (34,jl) _,t⟩;rw[bA Y,bA Y];generalize hu:(u.aF (20,[]) _).aF (34,jl) _=u2 at q⊢;have eJ:u2 (34,jl)=M (.l (a7 I)):=aj hu a4
 refine eF mY ?_;obtain⟨m',wx⟩:∃m':Mp,m'=aH (aH m 2 (.e (34,jl))) 3 (.o O):=⟨_,Y⟩;have m2:m' 2=M (.e (34,jl)):=ak wx Y
 show WB n _ _ ⟨aH (aH m 2 (.e (34,jl))) 3 (.o O),hp u2,t⟩;rw[<-wx,gH (R:=[3,4,5]) (m:=m')];refine sH (m₀:=1) (λk K=>∃v b,K=⟨aU [3,4,5] v m',hp u2,t⟩/\v 3=M (.o b)/\(k=0->b=Z)) ⟨m',O,Y,ak wx Y,λe=>dS e Y⟩ λk K J=>?_;obtain⟨v,b,rfl,v3,hb⟩:=J;refine⟨b,fc (aE v3) mE,λe=>?_,λe=>jO (aE (show(aU [3,4,5] v m') 2=_ from m2)) q⟩
 refine eF mY ?_;show WB n _ _ ⟨aH (aU [3,4,5] v m') 3 (.o Z),hp u2,t⟩;rw[bH Y];refine gw (l:=(34,jl)) (a7 I) (λa K=>∃v,K=⟨aU [3,4,5] v m',hp u2,t⟩/\v 3=M (.o Z)) (aE m2) (λj K J=>?_) ⟨_,Y,Y⟩ (λj y K hy J=>?_) λK J=>?_
 .obtain⟨v,rfl,_⟩:=J;exact eJ
 .obtain⟨v,rfl,v3⟩:=J;obtain⟨y,hz,rfl⟩:=dA hy;have ym:y∈I:=bE hz
  have X:=ix H (io y ym);have e9:=X.dC (ps y ym)
  show WB n FV _ ⟨aH (aU [3,4,5] v m') 4 (.e (5,[y.1,y.2])),hp u2,t⟩;rw[bH Y];exact gw (l:=(9,[y.1,y.2])) [] (λa K=>∃v,K=⟨aU [3,4,5] v m',hp u2,t⟩/\v 3=M (.o Z)) (ra (aE Y) X.aC Y e9.1) (λj K J=>J.elim λv J=>J.1▸e9.2) ⟨_,Y,v3⟩ (λj y K hy a=>cK hy) λK J=>aO J
 .obtain⟨v,rfl,v3⟩:=J;refine aO ⟨0,?_,v,Z,Y,v3,λa=>Y⟩;cases k with
  |zero=>exact ax (e.symm.trans (hb Y)) (λw=>cw w)
  |succ k=>exact fY k
end
noncomputable abbrev dK:Nl:=[20,21,34,35,99]
noncomputable abbrev gV:Nl:=[3,4,5,6,7,8]
def GR(es:Es)(bl:List It)(N:Nat)(u:Hp)(I:List It)(x:aP)(bO:Es)(gX:List It)(N':Nat)(w:Hp):Prop:=GC bO gX N' w/\pQ u w/\(∀k,bM es k≠U->bM bO k≠U)/\(∀y∈gX,y∈bl\/y∈K1 I x)/\N'<=N+4
section
variable{bO:Es} (hh:GR es bl N u I x bO gX N' w)
def GR.aC:=hh.1
def GR.aD:=hh.2.1
def GR.aG:=hh.2.2.1
def GR.aI:=hh.2.2.2.1
def GR.aJ:=hh.2.2.2.2
end
structure GX where
 n:Nat
 u:Hp
 t:Nat
 Q:RQ
 I:List It
 x:aP
 l:Nl
 es:Es
 bl:List It
 N:Nat
 c:List (Nl×List It)
def lZ(x:GX):Prop:=HL/\GC x.es x.bl x.N x.u/\(∀y∈x.I,Io y)/\x.I.length<=1000/\x.I≠[]/\x.u (34,x.l)=M (.l (a7 x.I))/\x.N<=16000000/\(bM x.es (gk x.I x.x)=U->∀y∈K1 x.I x.x,y∉x.bl)/\∀v bO gX N' w t',GR x.es x.bl x.N x.u x.I x.x bO gX N' w->ye x.I x.x w v->bM bO (gk x.I x.x)≠U->x.Q v (hp (mix dK w x.u)) t'
section
variable{x:GX} (hh:lZ x)
def lZ.aC:=hh.1
def lZ.b6:=hh.2.1
def lZ.aI:=hh.2.2.1
def lZ.aG:=hh.2.2.2.1
def lZ.aT:=hh.2.2.2.2.1
def lZ.aJ:=hh.2.2.2.2.2.1
def lZ.aD:=hh.2.2.2.2.2.2.1
def lZ.bj:=hh.2.2.2.2.2.2.2.1
def lZ.bb:=hh.2.2.2.2.2.2.2.2
end
def T7(x:GX):Prop:=bI (x.n+3) (bJ 33) [.e (20,[]),.e (34,x.l),.s x.x] x.Q (hp x.u) x.t
def gx:GX:=j9 ⟨0,λa=>U,0,λa a a=>True,[],fU,[],[],[],0,[]⟩ lZ T7
def gM:Mp:=λi=>([V.e (20,[]),.e (34,gx.l),.s gx.x]++[])[i]?
abbrev tc(bO:Es)(gX:List It)(N':Nat)(w:Hp):Prop:=GR gx.es gx.bl gx.N gx.u gx.I gx.x bO gX N' w
abbrev kD(v:Mp)(w:Hp)(t:Nat):AS:=⟨aU gV v gM,hp (mix dK w gx.u),t⟩
abbrev gT(k:Nat):Sx:=Sx.dD k J8
variable{g:V} {lg KU:Loc} {ls:Nl}
section
variable{v:Mp} {dn:Es}
theorem yi{x y:V}(h:es.length<=N):(cC es x y).length<=N+1:=aL H9 (fJ h)
theorem aeF:hp (mix [99] w' (mix dK w gx.u))=hp (mix dK (mix [99] w' w) gx.u):=aq hp (gG Y)
theorem GC.tm(C:GC es bl N w)(w':Hp):GC es bl N (mix [99] w' w):=⟨C.aC,C.aG,C.aI,C.aT,C.aJ,C.aD⟩
theorem GR.tm(C:tc es bl N w)(w':Hp):tc es bl N (mix [99] w' w):=⟨C.aC.tm w',C.aD,C.aG,C.aI,C.aJ⟩
theorem T8(H:lZ gx)(R:tc es bl N w)(zN:N<=gx.N+3)(v3:v 3=M g)(a:ye gx.I gx.x w g):WB (gx.n+2) (gT 8) (Rt gx.Q) (kD v w t):=by
 refine fW (pE (re (aE v3) (re (ra (aE Y) R.aC.aC.choose_spec Y Y) (KT (n:=gx.n+1) H.aC H.aI H.aG H.aT (R.aD _ _ H.aJ) Y Y λw'=>rj R.aC.aG KS (bF R.aC.aI (bF zN (bF (pz H.aD 3) (ao Y)))) ?_))));have R:=R.tm w'
 rw[aeF];show WB _ _ _ ⟨_,(hp (mix dK (mix [99] w' w) gx.u)).aF (21,[]) _,_⟩;rw[bA Y,bA Y];refine jO (aE v3) (H.bb _ (cC es (gk gx.I gx.x) g) bl (N+1) _ _ ⟨⟨R.aC.aC,a4,yi R.aC.aI,λx v e=>?_,λI x v e=>?_,R.aC.aD⟩,R.aD,λk hk=>?_,R.aI,fJ zN⟩ a ?_)
 .rw[wg (λq=>by cases(show V.fk _ _=.s _ from q))]at e
  exact(R.aC.aT x v e).imp λl q=>q.imp λds q=>⟨q.1,q.2.1,p9 q.2.2.1,q.2.2.2⟩
 .by_cases c:gk gx.I gx.x=gk I x
  .obtain⟨rfl,rfl⟩:=aeD c;rw[we]at e;exact aj (bu e) a
  .rw[wg c]at e;exact R.aC.aJ I x v e
 .by_cases c:gk gx.I gx.x=k
  .rw[<-c,we];exactλq=>fK q
  .rw[wg c];exact R.aG k hk
 .rw[we];exactλq=>fK q
theorem T9{y:It}:V.s cG≠oW y:=λq=>by cases(show V.s cG=.fk _ _ from q)
theorem Ua(H:lZ gx)(R:tc es bl (gx.N+2) w)(v4:v 4=M (.e KU))(v5:v 5=M (.e lg))(hg:(hp (mix dK w gx.u)) lg=M (.l (a7 (K1 gx.I gx.x))))(c1:K1 gx.I gx.x=[]->∃l l' dn,lg=(34,l)/\KU=(34,l')/\w (34,l')=M (.d dn)/\dn.length<=gx.N+2/\rG bl w dn)(c2:K1 gx.I gx.x≠[]->∃l,KU=(35,l)/\w (35,l)=M (.d [])/\cQ lg.1 20=Z):WB (gx.n+2) (gT 6) (Rt gx.Q) (kD v w t):=by
 by_cases c:K1 gx.I gx.x=[]
 .obtain⟨l,l',dn,rfl,rfl,hd,zd,ke⟩:=c1 c;have hl:w (34,l)=M (.l []):=hg.trans (aq (λI=>M (af.l (a7 I))) c)
  have fal:∃g,(bM dn (.s cG)).getD .n=g/\(Aj w g []\/g=.n):=by
   cases hk:bM dn (.s cG)with
   |none=>exact⟨_,Y,.inr Y⟩
   |some g=>exact⟨_,Y,(ke _ g hk).elim (λq=>.inl q.2) λq=>q.elim λy q=>ax q.2 T9⟩
  obtain⟨g,eg,fg⟩:=fal;refine cj (iu (re (aE v4) ⟨_,lT hd,rl (a6 (x:=.s cG) du br) (vM hd Y ?_)⟩));rw[eg];show WB _ _ _ ⟨aH (aU gV v gM) 3 g,_,t⟩;rw[bH Y];have tf:Tr (kD (aH v 3 g) w t) g Z:=fg.elim (λq=>q.elim λl q=>q.1▸rh (K:=kD (aH v 3 g) w t) (l:=(34,l)) (vs:=[]) q.2) λq=>ak q rd
  refine iN (lS (p:=Z) (fc (aE Y) tf)) (i8 (fc (aE v5) (rh (vs:=[]) hl)) (xY (ds:=dn) (y:=.s cG) (aE v5) (aE v4) du hd Y (bF zd (bF (pz H.aD 2) (ao Y))) (aO (aO ?_))));show WB _ _ _ ⟨_,(hp (mix dK w gx.u)).aF (34,l') _,t⟩;rw[bA Y,bA Y];have pl:pQ w (w.aF (34,l') (.d (cC dn (.s cG) (.e (34,l))))):=λl2 L e=>(aQ λq=>by rw[q,hd]at e;exact vq e Y).trans e
  have D:=R.aC.T6 (gX:=bl) (wC:=cC dn (.s cG) (.e (34,l))) (N':=gx.N+3) hd (λb h=>h) (jI _) (λk v e=>by
   by_cases q:V.s cG=k
   .rw[<-q,we]at e;exact .inl ⟨q.symm,l,(bu e).symm,hl⟩
   .rw[wg q]at e;exact ke k v e) (yi zd)
  exact T8 H ⟨D.1,λl L e=>pl _ _ (R.aD l L e),R.aG,R.aI,jI _⟩ (dj _) (g:=g) Y (fg.imp (λq=>ak c (q.nE pl)) λq=>⟨q,c⟩)
 .obtain⟨l',rfl,hd,C9⟩:=c2 c;refine cj (iu (re (aE v4) ⟨_,lT (ds:=[]) hd,rl (a6 (x:=.s cG) du br) (vM (ds:=[]) hd Y ?_)⟩));show WB _ _ _ ⟨aH (aU gV v gM) 3 .n,_,t⟩;rw[bH Y];obtain⟨j,fj⟩:=R.aC.aD;have fj:=(fj j (dj _)).1
  have ni:(!(a7 (K1 gx.I gx.x)).isEmpty)=O:=by
   cases h:K1 gx.I gx.x with
   |nil=>exact ax h c
   |cons _ _=>rfl
  refine iN (lS (p:=Z) (fc (aE Y) rd)) (iN (ni▸fc (aE v5) (rh hg)) (cj (i4 (re (aE Y) ⟨_,kB (c:=6) (a:=47) (f:=32) R.aC.aC.choose_spec Y Y,rl (a6 (aE v5) br) ((aeE (n:=gx.n+1) (u:=mix dK w gx.u) H.aC (uH H.aI) (λy hy=>(nD hy).elim λz k=>ak k.2.2 (fY _)) (aL (jF ..) H.aG) R.aC.aC.choose_spec C9 hg (jl:=[j]) fj ?_).o)⟩))));show WB _ _ _ ⟨aH (aU gV (aH v 3 .n) gM) 3 _,_,t⟩;rw[bH Y,bA (R:=dK) Y,bA (R:=dK) Y];generalize hw:(w.aF (20,[]) _).aF (34,[j]) _=w2;have R2:tc es bl (gx.N+3) w2:=aj hw ⟨(GC.Ah (w:=w.aF (20,[]) (.i 6 (aH F0 37 (.i (R.aC.aC.choose+1))))) ⟨⟨_,Y⟩,R.aC.aG,R.aC.aI,R.aC.aT,R.aC.aJ,R.aC.aD.aF⟩ fj).bN (λb h=>h) (jI _),λl L e=>pn (w:=w.aF (20,[]) _) fj (R.aD l L e),R.aG,R.aI,jI _⟩
  have e2:w2 (34,[j])=M (.l (a7 (K1 gx.I gx.x))):=aj hw a4;have d2:w2 (35,l')=M (.d []):=aj hw hd
  refine xY (ds:=[]) (y:=.s cG) (aE Y) (aE v4) du d2 Y (ao Y) (aO (aO ?_));show WB _ _ _ ⟨_,(hp (mix dK w2 gx.u)).aF (35,l') _,t⟩;rw[bA Y,bA Y];exact T8 H ⟨R2.aC.nd,R2.aD,R2.aG,R2.aI,R2.aJ⟩ (dj _) Y (.inl ⟨[j],Y,e2⟩)
end
abbrev gK:List It:=K1 gx.I gx.x
def GI(es:Es)(lg:Loc)(L:List It)(v:Mp)(w:Hp):Prop:=tc es (gx.bl++gK) (gx.N+2) w/\v 5=M (.e lg)/\(hp (mix dK w gx.u)) lg=M (.l (a7 (K1 L gx.x)))/\∃l dn,dn.length<=gx.N+1/\((K1 L gx.x=[]/\v 4=M (.e (34,l))/\w (34,l)=M (.d dn)/\rG gx.bl w dn)\/(K1 L gx.x≠[]/\v 4=M (.e (35,l))/\w (35,l)=M (.d dn)/\dn=[]))
section
variable{L:List It} {v:Mp} (hh:GI es lg L v w)
def GI.aC:=hh.1
def GI.aD:=hh.2.1
def GI.aG:=hh.2.2.1
def GI.aI:=hh.2.2.2
end
variable{L:List It} {y:It} {Q:QF}
section
variable{dn:Es} {v:Mp}
theorem Gl:K1 (L++[y]) s=K1 L s++(if sym y=M s then [(y.1,y.2+1)]else []):=(D1 ..).trans (aq _ (CM.trans (by
 unfold sym;by_cases c:oo gS y=M s
 .rw[aw c,aw c];rfl
 .rw[av c,av c];rfl)))
theorem aeH(H:HL)(i:Io y)(m7:m 7=M (sM y.1 y.2 (ru y.1).2))(m2:m 2=M (.s s)):RT ⟨m,hp u,t⟩ (.iZ O (.c (.l (.v 7)) (.c (.m .Eq (.a (.v 7) 29) (.v 2)) .n))) (decide (sym y=M s)):=by
 cases hs:sym y with
 |none=>exact aj (aA (λe:U=M s=>cK e)) (IF λn P q=>xI (fc (aE (m7.trans (aq M (av (km.mpr (mN.mp hs)))))) rd) q)
 |some s'=>
  have X:=ix H (KR i hs);have m7:=m7.trans (aq M (aw (cV.mp hs).1))
  rw[show decide (M s'=M s)=(O&&decide (s'=s)) from decide_eq_decide.mpr ⟨bu,aq M⟩]
  exact KI (fc (aE m7) (Po (K:=⟨m,hp u,t⟩) X.aC)) (wj (ra (aE m7) X.aC Y (X.cF s' (fY _) hs)) (aE m2))
theorem aeI(H:lZ gx)(J:GI es lg L v w)(nv:∀y∈gK,y∉gx.bl)(lk:gK≠[]->∃k,lg=(99,k))(ym:y∈gx.I)(v6:v 6=M (.e (5,[y.1,y.2])))(z:(K1 L gx.x).length<=1000)(k:∀v' w',GI es lg (L++[y]) v' w'->Q .n (kD v' w' t)):WB n J7 Q (kD v w t):=by
 have i:=H.aI y ym;have X:=ix H.aC i
 refine eF (ra (aE v6) X.aC Y X.eO) ?_;show WB n _ _ ⟨aH (aU gV v gM) 7 _,_,t⟩;rw[bH Y];refine rA (aeH H.aC i Y Y) (λhs=>?_) λhs=>aO (aO (k _ w ⟨J.aC,J.aD,?_,?_⟩))
 .have kn:=sZ ym hs;obtain⟨kk,rfl⟩:=lk (p8 kn);have Xn:=ix H.aC (KR i hs)
  obtain⟨l,dn,zd,pG⟩:=J.aI;have v7:aH v 7 (sM y.1 y.2 (ru y.1).2) 7=M (.e (5,[y.1,y.2+1])):=aq M (aw (cV.mp hs).1)
  have rk:∀{m u},m 7=M (.e (5,[y.1,y.2+1]))->RE ⟨m,hp u,t⟩ (.d (.c (.a (.v 7) 2) (.c (.a (.v 7) 13) .n))) (oW (y.1,y.2+1)):=λe=>mF (a6 (ra (aE e) Xn.aC Y Xn.aT) (a6 (ra (aE e) Xn.aC Y Xn.aD) br)) (by decide:2<=16777216)
  obtain⟨j,fj⟩:=J.aC.aC.aD;have fj:=(fj j (dj _)).2
  have v5:aH v 7 (sM y.1 y.2 (ru y.1).2) 5=M (.e (99,kk)):=J.aD;have v4:aH v 7 (sM y.1 y.2 (ru y.1).2) 4=v 4:=Y
  generalize aH v 7 _=v' at v7 v5 v4⊢;have go:∀r,dK.contains r=O->lR.contains r=O->((r,l):Loc)≠(99,kk)->((r,l):Loc)≠(35,[j])->v' 4=M (.e (r,l))->(hp (mix dK w gx.u)) (r,l)=M (.d dn)->bM dn (oW (y.1,y.2+1))=U->tc es (gx.bl++gK) (gx.N+2) ((w.aF (35,[j]) (.d [])).aF (r,l) (.d (cC dn (oW (y.1,y.2+1)) (.e (35,[j])))))->WB n (.c (.s (.v 8) (.bV .g (.v 4) (.c (.d (.c (.a (.v 7) 2) (.c (.a (.v 7) 13) .n))) .n))) (.c (.i (.o (.l (.v 8))) (.c (.s (.v 8) (.fq .n)) (.c (.cR (.v 4) (.d (.c (.a (.v 7) 2) (.c (.a (.v 7) 13) .n))) (.v 8)) .n)) .n) (.c (.e (.bV .a (.v 5) (.c (.v 7) .n))) (.c (.s (.v 4) (.v 8)) .n)))) (Nx n .n Q) (kD v' w t):=λr c1 c2 n99 Ub e4 hd no R'=>by
   refine cj (iu (re (aE e4) ⟨_,lT hd,rl (a6 (rk v7) br) (vM hd Y ?_)⟩));rw[no];show WB n _ _ ⟨aH (aU gV v' gM) 8 .n,_,t⟩;rw[bH Y];refine iN (lS (p:=Z) (fc (aE Y) rd)) (cj (kP (dF (35,[j]) Y fj ?_)));show WB n _ _ ⟨aH (aU gV (aH v' 8 .n) gM) 8 (.e (35,[j])),(hp (mix dK w gx.u)).aF (35,[j]) (.d []),t⟩;have hd2:(hp (mix dK (w.aF (35,[j]) (.d [])) gx.u)) (r,l)=M (.d dn):=by show mix lR (mix dK (w.aF (35,[j]) (.d [])) gx.u) hL (r,l)=_;rw[<-bA (R:=dK) Y,<-bA Y];exact(aQ Ub).trans hd
   rw[bH Y,bA Y,bA (R:=dK) Y];refine xY (aE Y) (aE e4) (rk v7) hd2 Y (bF zd (bF (pz H.aD 1) (ao Y))) (aO (F6 (aE v5) (aE v7) (show(99:Nat)≠0 by decide) ((aQ n99.symm).trans J.aG) (by rw[a7,bc];exact bF z (ao Y)) (eF (aE Y) (aO (aO ?_)))))
   show Q .n ⟨aH (aU gV _ gM) 4 _,((hp (mix dK (w.aF (35,[j]) (.d [])) gx.u)).aF (r,l) _).aF (99,kk) _,t⟩;rw[bH Y,bA c2,bA (R:=dK) c1,bA Y,bA (R:=dK) Y];refine k _ _ ⟨⟨⟨R'.aC.aC,R'.aC.aG,R'.aC.aI,R'.aC.aT,R'.aC.aJ,R'.aC.aD.aF⟩,R'.aD,R'.aG,R'.aI,R'.aJ⟩,v5,?_,[j],[],b7 _,.inr ⟨?_,Y,(aQ Ub.symm).trans a4,Y⟩⟩
   .rw[Gl,aw hs];exact a4.trans (aq (λx=>M (af.l x)) (T3 (x:=(y.1,y.2+1))))
   .rw[Gl,aw hs];exact ais _ (A1 _ _)
  rcases pG with⟨_,e4,hd,ke⟩|⟨_,e4,hd,rfl⟩
  .have no:bM dn (oW (y.1,y.2+1))=U:=by
    cases e:bM dn (oW (y.1,y.2+1))with
    |none=>rfl
    |some g=>exact ax (ke _ g e) λq=>q.elim (λq=>T9 q.1.symm) λq=>q.elim λz q=>nv _ kn (ak (T5 q.2) q.1)
   have D:=(J.aC.aC.nd (l:=[j]) (o:=.d [])).T6 (dn:=dn) (wC:=cC dn (oW (y.1,y.2+1)) (.e (35,[j]))) hd (λb h=>h) (dj _) (λk v e=>by
    by_cases q:oW (y.1,y.2+1)=k
    .exact .inr ⟨_,cZ _ kn,q.symm⟩
    .rw[wg q]at e;exact(ke k v e).imp (λq=>⟨q.1,q.2.nE (λb b e=>e)⟩) λq=>q.elim λy q=>⟨y,cH _ q.1,q.2⟩) (yi zd)
   exact go 34 Y Y (bf Y) (bf Y) (v4.trans e4) hd no ⟨D.1,λl L e=>D.2 l L (J.aC.aD l L e),J.aC.aG,J.aC.aI,J.aC.aJ⟩
  .exact go 35 Y Y (bf Y) (λq=>by rw[q,fj]at hd;exact cK hd) (v4.trans e4) hd Y ⟨J.aC.aC.nd.nd,J.aC.aD,J.aC.aG,J.aC.aI,J.aC.aJ⟩
 .rw[Gl,av hs,hY];exact J.aG
 .rw[Gl,av hs,hY];exact J.aI
theorem aeL(H:lZ gx)(J:GI es lg [] v w)(nv:∀y∈gK,y∉gx.bl)(lk:gK≠[]->∃k,lg=(99,k))(lk0:gK=[]->∃k,lg=(34,k)):WB (gx.n+2) (gT 5) (Rt gx.Q) (kD v w t):=by
 refine gw (l:=(34,gx.l)) (a7 gx.I) (λj K=>∃v w,K=kD v w t/\GI es lg (gx.I.take j) v w) (aE Y) (λj K J=>?_) ⟨v,w,Y,J⟩ (λj y K hy J=>?_) λK J=>?_
 .obtain⟨v,w,rfl,J⟩:=J;exact J.aC.aD _ _ H.aJ
 .obtain⟨v,w,rfl,J⟩:=J;obtain⟨y,hz,rfl⟩:=dA hy;show WB (gx.n+2) J7 _ ⟨aH (aU gV v gM) 6 _,hp (mix dK w gx.u),t⟩;rw[bH Y];refine aeI (y:=y) H ⟨J.aC,J.aD,J.aG,J.aI⟩ nv lk (bE hz) Y (aL (jF ..) (aL (iG ..) H.aG)) λv' w' J'=>⟨v',w',Y,?_⟩;rw[take_snoc hz];exact J'
 .obtain⟨v,w,rfl,J⟩:=J;rw[a7,bc,e7]at J;obtain⟨l,dn,zd,J4⟩:=J.aI;by_cases c:gK=[]
  .obtain⟨k,rfl⟩:=lk0 c;obtain⟨_,e4,hd,ke⟩:=J4.resolve_right λq=>q.1 c;exact Ua H J.aC e4 J.aD J.aG (λa=>⟨k,l,dn,Y,Y,hd,p9 zd,ke.nE (λa a e=>e) λa h=>cH _ h⟩) λq=>ax c q
  .obtain⟨k,rfl⟩:=lk c;obtain⟨_,e4,hd,rfl⟩:=J4.resolve_left λq=>c q.1;exact Ua H J.aC e4 J.aD J.aG (λq=>ax q c) λa=>⟨l,Y,hd,Y⟩
theorem Uc(H:lZ gx)(R:tc es gx.bl (gx.N+1) w)(nv:∀y∈gK,y∉gx.bl)(v4:v 4=M (.e (34,l)))(hd:w (34,l)=M (.d dn))(zd:dn.length<=gx.N+1)(ke:rG gx.bl w dn):WB (gx.n+2) (gT 4) (Rt gx.Q) (kD v w t):=by
 have go:∀lg w' t',((gK≠[]->∃k,lg=(99,k))/\(gK=[]->∃k,lg=(34,k)))->GC es gx.bl (gx.N+1) w'->pQ w w'->(hp (mix dK w' gx.u)) lg=M (.l [])->w' (34,l)=M (.d dn)->WB (gx.n+2) (gT 5) (Rt gx.Q) (kD (aH v 5 (.e lg)) w' t'):=λlg w' t' lk C p hg hd=>aeL H ⟨⟨C.bN (λa h=>cH _ h) (jI _),λl L e=>p l L (R.aD l L e),R.aG,λy hy=>cD.mp hy,eQ (ao Y) _⟩,Y,hg,l,dn,zd,.inl ⟨Y,v4,hd,ke.nE p λa h=>h⟩⟩ nv lk.1 lk.2;by_cases c:gK=[]
 .obtain⟨j,fj⟩:=R.aC.aD;have fj:=(fj j (dj _)).1
  refine cj (fw (eB ⟨b7 _,dF (34,[j]) Y fj ?_⟩));show WB _ _ _ ⟨aH (aU gV v gM) 5 _,(hp (mix dK w gx.u)).aF (34,[j]) _,t⟩;rw[bH Y,bA Y,bA (R:=dK) Y];exact go (34,[j]) _ t ⟨λq=>ax c q,λa=>⟨[j],Y⟩⟩ (R.aC.Ah fj) (λl L e=>pn fj e) a4 (pn fj hd)
 .refine cj (fw (eB ⟨b7 _,kC ?_⟩));show WB _ _ _ ⟨aH (aU gV v gM) 5 _,(hp (mix dK w gx.u)).aF (bz t) _,t+1⟩;rw[bH Y,bA Y,bA (R:=dK) Y];exact go (bz t) _ _ ⟨λa=>⟨[t],Y⟩,λq=>ax q c⟩ ⟨R.aC.aC,R.aC.aG,R.aC.aI,R.aC.aT,R.aC.aJ,R.aC.aD.aF⟩ (λl L e=>e) a4 hd
theorem aeN(H:lZ gx)(R:tc gx.es gx.bl gx.N w)(nv:∀y∈gK,y∉gx.bl):WB (gx.n+2) (gT 2) (Rt gx.Q) (kD v w t):=by
 refine cj (iu (re (ra (aE Y) R.aC.aC.choose_spec Y Y) ⟨_,lT R.aC.aG,rl (a6 (aE Y) br) (vM R.aC.aG Y ?_)⟩));have new:∀g,Tr (kD (aH v 4 g) w t) g Z->WB (gx.n+2) (gT 3) (Rt gx.Q) (kD (aH v 4 g) w t):=λg tg=>by
  obtain⟨j,fj⟩:=R.aC.aD;have fj:=(fj j (dj _)).1
  refine iN (lS (p:=Z) (fc (aE Y) tg)) (cj (kP (dF (34,[j]) Y fj ?_)));show WB _ _ _ ⟨aH (aU gV _ gM) 4 _,(hp (mix dK w gx.u)).aF (34,[j]) _,t⟩;rw[bH Y,bA Y,bA (R:=dK) Y];have C1:GC gx.es gx.bl gx.N (w.aF (34,[j]) (.d [])):=R.aC.Ah fj
  refine xY (aE Y) (ra (aE Y) C1.aC.choose_spec Y Y) (aE Y) C1.aG Y (bF C1.aI (bF H.aD (ao Y))) (aO ?_);show WB _ _ _ ⟨_,(hp (mix dK (w.aF (34,[j]) (.d [])) gx.u)).aF (21,[]) _,t⟩;rw[bA Y,bA (R:=dK) Y];have C2:=C1.bN (λa h=>h) (jI _)
  have ke:rG gx.bl (w.aF (34,[j]) (.d [])) []:=λk v e=>cK e;refine Uc (es:=cC gx.es (.s gx.x) (.e (34,[j]))) (dn:=[]) (l:=[j]) H ⟨⟨C2.aC,a4,yi C1.aI,λx v e=>?_,λI x v e=>?_,C2.aD.aF⟩,λl L e=>pn fj (R.aD l L e),λk hk=>?_,R.aI,eQ (ao Y) _⟩ nv Y a4 (b7 _) ke
  .by_cases c:V.s gx.x=.s x
   .rw[<-c,we]at e;exact⟨[j],[],(bu e).symm,a4,b7 _,ke⟩
   .rw[wg c]at e;exact C2.aT x v e
  .rw[wg (λq=>by cases(show V.s _=.fk _ _ from q))]at e
   exact C2.aJ I x v e
  .by_cases c:V.s gx.x=k
   .rw[<-c,we];exactλq=>fK q
   .rw[wg c];exact hk
 show WB _ _ _ ⟨aH (aU gV v gM) 4 _,_,t⟩;rw[bH Y];cases hk:bM gx.es (.s gx.x)with
 |none=>exact new _ rd
 |some g=>
  obtain⟨l,ds,rfl,hd,zd,ke⟩:=R.aC.aT _ g hk;have td:Tr (kD (aH v 4 (.e (34,l))) w t) (.e (34,l)) (!ds.isEmpty):=FC (K:=kD (aH v 4 (.e (34,l))) w t) (l:=(34,l)) hd
  cases ds with
  |nil=>exact new _ td
  |cons d ds=>have C2:=R.aC.bN (λa h=>h) (jI _);exact i8 (lS (p:=O) (fc (aE Y) td)) (aO (Uc H ⟨C2,R.aD,R.aG,R.aI,eQ (ao Y) _⟩ nv Y hd (p9 zd) ke))
theorem aeO(H:lZ gx):T7 gx:=by
 have C:=H.b6;refine fP S0 Y ?_;show WB (gx.n+2) J8 _ ⟨gM,hp gx.u,gx.t⟩;refine cj (iu (re (ra (aE Y) C.aC.choose_spec Y Y) ⟨_,lT C.aG,eC (KT (n:=gx.n+1) H.aC H.aI H.aG H.aT H.aJ Y Y λw=>eB (vM C.aG KS ?_))⟩));have R:tc gx.es gx.bl gx.N (mix [99] w gx.u):=⟨C.tm w,λa a e=>e,λa h=>h,λa h=>.inl h,mR ..⟩
 have e0:mix [99] w gx.u=mix dK (mix [99] w gx.u) gx.u:=by have e:=ry (R:=dK) (h:=gx.u);rw[<-gG (R:=dK) Y,<-e]
 show WB _ _ _ ⟨aH gM 3 _,hp (mix [99] w gx.u),_⟩;rw[show aH gM 3 _=aU gV _ gM from(aq (aH · 3 _) gH).trans (bH Y),e0]
 have no:∀g,Tr (kD (aH gM 3 g) (mix [99] w gx.u) (gx.t+1)) g Z->(∀y∈gK,y∉gx.bl)->WB (gx.n+2) (gT 1) (Rt gx.Q) (kD (aH gM 3 g) (mix [99] w gx.u) (gx.t+1)):=λg tg nv=>i8 (fc (aE Y) tg) (aO (aeN H R nv));cases hk:bM gx.es (gk gx.I gx.x)with
 |none=>exact no _ rd (H.bj hk)
 |some g=>
  rcases C.aJ _ _ g hk with⟨l,rfl,hl⟩|⟨rfl,c⟩
  .have tl:Tr (kD (aH gM 3 (.e (34,l))) (mix [99] w gx.u) (gx.t+1)) (.e (34,l)) (!(a7 gK).isEmpty):=rh (K:=kD (aH gM 3 (.e (34,l))) (mix [99] w gx.u) (gx.t+1)) (l:=(34,l)) hl;cases c:gK with
   |nil=>rw[c]at tl;exact no _ tl (by rw[c];exactλa h=>bw h)
   |cons y ai=>rw[c]at tl;exact iN (fc (aE Y) tl) (jO (aE Y) (H.bb _ _ _ _ _ _ R (.inl ⟨l,Y,hl⟩) (by rw[hk];exactλq=>fK q)))
  .exact no _ rd λy h=>bw (c▸h:y∈[])
end
theorem Ud{Q:RQ}(H:HL)(C:GC es bl N u)(io:∀y∈I,Io y)(z:I.length<=1000)(ne:I≠[])(hl:u (34,l)=M (.l (a7 I)))(zN:N<=16000000)(fs:bM es (gk I x)=U->∀y∈K1 I x,y∉bl)(k:∀v bO gX N' w t',GR es bl N u I x bO gX N' w->ye I x w v->bM bO (gk I x)≠U->Q v (hp (mix dK w u)) t'):bI (n+3) (bJ 33) [.e (20,[]),.e (34,l),.s x] Q (hp u) t:=mJ aeO (x:=⟨n,u,t,Q,I,x,l,es,bl,N,[]⟩) ⟨H,C,io,z,ne,hl,zN,fs,k⟩
abbrev gJ:=Nl×List It
def Pk(pl:List (List It))(I0:List It)(ys:Ss)(I:List It)(x:aP):Prop:=(I∈pl/\∃y∈I,x∈(ru y.1).2)\/(I=I0/\x∈ys)
noncomputable def ou(cs:List gJ):Es:=cs.zipIdx.map λp=>(kZ p.1.2,.i (p.2:Nat))
def Pw(w:Hp):Prop:=∀p,p<gS.length+1->∃g,w (2,[p])=M (.i 1 g)/\(∀a,a=0\/a=1\/a=8\/a=57->g a=gP p a)
structure IS(cs:List gJ)(pl:List (List It))(I0:List It)(ys:Ss)(es:Es)(bl:List It)(N:Nat)(w:Hp):Prop where
 aC:GC es bl N w
 aI:w (24,[])=M (.l (cs.map λc=>.e (34,c.1)))
 aD:∀c∈cs,w (34,c.1)=M (.l (a7 c.2))/\c.2≠[]/\c.2.length<=91/\∀y∈c.2,Io y
 aG:w (22,[])=M (.d (ou cs))
 aT:∀(j j':Nat)(c c':gJ)(y:It),cs[j]?=M c->cs[j']?=M c'->y∈c.2->y∈c'.2->j=j'
 b6:∃l ps,cs[(0:Nat)]?=M (l,JL ps)/\ps.Nodup/\∀(q:Nat)(r:cJ),gS[q]?=M r->(q∈ps↔Lv gS r.1)
 cF:∀y∈bl,∃c∈cs,y∈c.2
 aJ:∀(j:Nat)(c:gJ),0<j->cs[j]?=M c->∃c'∈cs,∃x,c.2=K1 c'.2 x/\Pk pl I0 ys c'.2 x
 bj:∀I x,Pk pl I0 ys I x->bM es (gk I x)≠U/\(K1 I x≠[]->∃c'∈cs,c'.2=K1 I x)
 bb:Pw w
variable{cs:List gJ} {ys:Ss} {bO:Es} {c:gJ}
section
variable{pl:List (List It)} {I0:List It}
theorem KW:(ou cs).map (·.1)=cs.map λc=>kZ c.2:=by have e:=aq (NO λc:gJ=>kZ c.2) (List.zipIdx_map_fst 0 cs);rw[fA]at e;exact fA.trans e
theorem aeP:ou (cs++[c])=ou cs++[(kZ c.2,.i (cs.length:Nat))]:=by
 rw[ou,List.zipIdx_append,dc,sf]
 rfl
theorem uI{l:List α}{a:α}(h:a∈l):∃j:Nat,l[j]?=M a:=kE h
theorem IS.Dc(S:IS cs pl I0 ys es bl N w){c':gJ}{j':Nat}(h:cs[j]?=M c)(h':cs[j']?=M c')(e:c.2=c'.2):j=j':=by obtain⟨y,hy⟩:=qH _ (S.aD c (bE h)).2.1;exact S.aT j j' c c' y h h' hy (aj e hy)
theorem IS.new(S:IS cs pl I0 ys es bl N w)(hi:cs[i]?=M c)(eI:c.2=I0)(ep:∀I∈pl,∃j c,j<i/\cs[j]?=M c/\c.2=I)(nx:x∉ys)(hy:y∈K1 I0 x):∀c∈cs,y∉c.2:=λc' gN ef=>by
 obtain⟨z,hz,sz,rfl⟩:=nD hy;obtain⟨j,hj⟩:=uI gN;cases j with
 |zero=>
  obtain⟨l,ps,e0,_⟩:=S.b6;obtain rfl:=bu (e0.symm.trans hj);rcases b0.mp ef with e|e
  .exact dS (aq sg e) Y
  .obtain⟨q,_,e⟩:=bk.mp e;exact dS (aq sg e) rfl
 |succ j=>
  obtain⟨c2,h2,x',e2,P⟩:=S.aJ _ c' (fY j) hj;obtain⟨z',jS,Dd,e⟩:=nD (aj e2 ef);have ez:z=z':=je (bS e).1 (qK (bS e).2)
  subst ez;obtain⟨j2,Ue⟩:=uI h2;have e3:=S.aT i j2 c c2 z hi Ue (ak eI hz) jS
  obtain rfl:=bu (hi.symm.trans (ak e3 Ue));rcases P with⟨hp,_⟩|⟨_,hx⟩
  .obtain⟨j3,c3,lt,h3,e4⟩:=ep _ hp;exact dI _ (S.Dc h3 hi e4▸lt)
  .exact nx (ak (bu (sz.symm.trans Dd)) hx)
theorem IS.same(S:IS cs pl I0 ys es bl N w)(R:GR es bl N u I0 x bO gX N' w')(hu:pQ w u)(KX:w' (24,[])=w (24,[]))(KY:w' (22,[])=w (22,[]))(pw:Pw w')(no:K1 I0 x=[])(hk:bM bO (gk I0 x)≠U):IS cs pl I0 (ys++[x]) bO gX N' w' where
 aC:=R.aC
 aI:=KX.trans S.aI
 aD:=λc hc=>⟨R.aD _ _ (hu _ _ (S.aD c hc).1),(S.aD c hc).2⟩
 aG:=KY.trans S.aG
 aT:=S.aT
 b6:=S.b6
 cF:=λy hy=>(R.aI y hy).elim (S.cF y) λh=>by rw[no]at h;exact bw h
 aJ:=λj c h0 hj=>(S.aJ j c h0 hj).imp λc' k=>⟨k.1,k.2.imp λx' k=>⟨k.1,k.2.imp id λq=>⟨q.1,cH _ q.2⟩⟩⟩
 bj:=λI x' P=>by
  have go:Pk pl I0 ys I x'->bM bO (gk I x')≠U/\(K1 I x'≠[]->∃c'∈cs,c'.2=K1 I x'):=λP=>⟨R.aG _ (S.bj I x' P).1,(S.bj I x' P).2⟩;rcases P with P|⟨e,hx⟩
  .exact go (.inl P)
  .rcases cD.mp hx with hx|hx
   .exact go (.inr ⟨e,hx⟩)
   .rw[e,bp.mp hx];exact⟨hk,λq=>ax no q⟩
 bb:=pw
theorem IS.add(S:IS cs pl I0 ys es bl N w)(R:GR es bl N u I0 x bO gX N' w')(hu:pQ w u)(hi:cs[i]?=M c)(eI:c.2=I0)(fr:∀y∈K1 I0 x,∀c∈cs,y∉c.2)(ne:K1 I0 x≠[])(KX:w' (24,[])=M (.l ((cs++[(l,K1 I0 x)]).map λc=>.e (34,c.1))))(KY:w' (22,[])=M (.d (ou (cs++[(l,K1 I0 x)]))))(pw:Pw w')(hk:bM bO (gk I0 x)≠U)(hl:w' (34,l)=M (.l (a7 (K1 I0 x)))):IS (cs++[(l,K1 I0 x)]) pl I0 (ys++[x]) bO gX N' w' where
 aC:=R.aC
 aI:=KX
 aD:=λc' hc=>(cD.mp hc).elim (λhc=>⟨R.aD _ _ (hu _ _ (S.aD c' hc).1),(S.aD c' hc).2⟩) λhc=>by have L:=S.aD c (bE hi);rw[bp.mp hc];exact⟨hl,ne,aL (jF ..) (aj eI L.2.2.1),uH (aj eI L.2.2.2)⟩
 aG:=KY
 aT:=λj j' c c' y hj hU hy ef=>by
  rw[aja]at hj hU;by_cases a:j<cs.length
  .rw[aw a]at hj;by_cases b:j'<cs.length
   .rw[aw b]at hU;exact S.aT j j' c c' y hj hU hy ef
   .rw[av b]at hU;have e:=bp.mp (bE hU)
    exact ax hy (fr y (aj e ef:y∈(l,K1 I0 x).2) c (bE hj))
  .rw[av a]at hj;have e:=bp.mp (bE hj)
   by_cases b:j'<cs.length
   .rw[aw b]at hU;exact ax ef (fr y (aj e hy:y∈(l,K1 I0 x).2) c' (bE hU))
   .rw[av b]at hU;have l1:=(cV.mp hj).1
    have l2:=(cV.mp hU).1;exact w9 (aL (ai3.mp (Hm.mp l1)) (km.mp b)) (aL (ai3.mp (Hm.mp l2)) (km.mp a))
 b6:=S.b6.imp λl k=>k.imp λps k=>⟨(AQ (cV.mp k.1).1).trans k.1,k.2⟩
 cF:=λy hy=>(R.aI y hy).elim (λh=>(S.cF y h).imp λc k=>⟨cH _ k.1,k.2⟩) λh=>⟨_,cZ _ (.head _),h⟩
 aJ:=λj c' h0 hj=>by
  rw[aja]at hj;by_cases a:j<cs.length
  .rw[aw a]at hj;exact(S.aJ j c' h0 hj).imp λc' k=>⟨cH _ k.1,k.2.imp λx' k=>⟨k.1,k.2.imp id λq=>⟨q.1,cH _ q.2⟩⟩⟩
  .rw[av a]at hj;exact⟨c,cH _ (bE hi),x,bp.mp (bE hj)▸eI▸Y,.inr ⟨eI,cZ _ (.head _)⟩⟩
 bj:=λI x' P=>by
  have go:Pk pl I0 ys I x'->bM bO (gk I x')≠U/\(K1 I x'≠[]->∃c'∈cs++[(l,K1 I0 x)],c'.2=K1 I x'):=λP=>⟨R.aG _ (S.bj I x' P).1,λq=>((S.bj I x' P).2 q).imp λc k=>⟨cH _ k.1,k.2⟩⟩;rcases P with P|⟨e,hx⟩
  .exact go (.inl P)
  .rcases cD.mp hx with hx|hx
   .exact go (.inr ⟨e,hx⟩)
   .rw[e,bp.mp hx];exact⟨hk,λq=>⟨_,cZ _ (.head _),Y⟩⟩
 bb:=pw
theorem IS.pO(H:HL)(S:IS cs pl I0 ys es bl N w):cs.length<=273:=by
 have nd:(cs.map λc=>c.2.headD (0,0)).Nodup:=by
  refine V5.mpr λa b la lb lt e=>?_;rw[Nh,Nh]at e;have hd:∀{c:gJ},c∈cs->c.2.headD (0,0)∈c.2:=λ{c} hc=>by
   cases h:c.2 with
   |nil=>exact ax h (S.aD c hc).2.1
   |cons y _=>exact .head _
  exact gZ lt (S.aT a b _ _ _ (mO _) (mO _) (hd (Ng _)) (aj e.symm (hd (Ng _))))
 have sub:∀y∈cs.map λc=>c.2.headD (0,0),y∈(iW 91).flatMap λp=>(iW 3).map λj=>(p,j):=λy hy=>by
  obtain⟨c,hc,rfl⟩:=bk.mp hy;have L:=S.aD c hc
  cases h:c.2 with
  |nil=>exact ax h L.2.1
  |cons y _=>
   have i:=L.2.2.2 y (ak h (.head _));have i2:y.2<=2:=by
    refine aL i.2 ?_;obtain⟨p,k⟩:=y;cases p with
    |zero=>exact jI 1
    |succ q=>rcases H.aC.aD _ (sX i.1)with e|⟨_,A,e⟩|⟨A,x,e,_⟩<;>rw[e]<;>first|exact b7 _|exact jI 1|exact dj _
   refine wY.mpr ⟨y.1,gY.mpr (gc i.1 (fJ H.aC.aG)),?_⟩;exact bk.mpr ⟨y.2,gY.mpr (AY i2),Y⟩
 have:=oX nd sub
 rwa [bc]at this
end
noncomputable def iA(xs:Ss):Es:=xs.map λs=>(.s s,.n)
def US(I:List It):Ss:=I.flatMap λy=>dd (ru y.1).2
variable{a b c:Nat} {ab:Nl} {body r:Sx} {f:Ss->aP->Ss} {xs:Ss}
section
variable{v:Mp}
theorem Ug:cC (iA xs) (.s s) .n=iA (cX xs s):=by
 have ek:(iA xs).map (·.1)=xs.map .s:=fA;by_cases c:s∈xs
 .rw[qo c];have:∀{xs:Ss},s∈xs->cC (iA xs) (.s s) .n=iA xs:=λ{xs}=>by
   induction xs with
   |nil=>exactλh=>bw h
   |cons z xs ih=>
    intro h;show cC ((V.s z,V.n)::iA xs) (.s s) .n=(V.s z,V.n)::iA xs;rw[qX];by_cases e:V.s z=.s s
    .exact(aw e).trans Y
    .rw[av e,ih ((b0.mp h).resolve_left λw=>e (aj w Y))]
  exact this c
 .rw[qn c,kW (ak ek λw=>c (wd.mp w))];exact(dc (l₂:=[s])).symm
theorem KZ(h:xs.Nodup):(cX xs s).Nodup:=by
 by_cases c:s∈xs
 .rwa [qo c]
 .rw[qn c];exact qY h c
theorem yj:∀{ys xs:Ss},xs.Nodup->(ys.foldl cX xs).Nodup
 |[],_,h=>h
 |y::ys,_,h=>yj (ys:=ys) (KZ (s:=y) h)
theorem K3:∀{ys xs:Ss},s∈ys.foldl cX xs->s∈xs\/s∈ys:=by
 intro ys
 induction ys with
 |nil=>exactλh=>.inl h
 |cons y ys ih=>exactλh=>(ih h).elim (λh=>(To h).imp id λe:s=y=>aj e (.head _)) λh=>.inr (.tail _ h)
theorem qy:s∈dd ys↔s∈ys:=⟨λh=>(K3 h).resolve_left (λw=>bw w),λh=>CX (.inl h)⟩
theorem Uh:s∈US I↔∃y∈I,s∈(ru y.1).2:=wY.trans ⟨λh=>h.imp λy k=>⟨k.1,qy.mp k.2⟩,λh=>h.imp λy k=>⟨k.1,qy.mpr k.2⟩⟩
theorem Ui(H:HL)(i:Io y):(ru y.1).2.length<=2:=by
 obtain⟨p,k⟩:=y;cases p with
 |zero=>exact jI 1
 |succ q=>rcases H.aC.aD _ (sX i.1)with e|⟨_,A,e⟩|⟨A,x,e,_⟩<;>rw[e]<;>first|exact b7 _|exact jI 1|exact dj _
theorem Uj(H:HL)(io:∀y∈I,Io y):(US I).length<=2*I.length:=by
 induction I with
 |nil=>exact dj _
 |cons y I ih=>rw[US,yL,dW,oE,qb,nU];exact jY (ih λz hz=>io z (.tail _ hz)) (aL qr (Ui H (io y (.head _))))
theorem Uk(H:HL)(io:∀y∈I,Io y)(ca:ab.contains a=O)(cc:ab.contains c=O)(ac:cQ a c=Z)(hb:RE ⟨aU ab v m,hp (mix R (w.aF (36,[i]) (.d (iA []))) u),t⟩ (.v b) (.e (34,l)))
 (hl:∀xs,(hp (mix R (w.aF (36,[i]) (.d (iA xs))) u)) (34,l)=M (.l (a7 I)))
 (step:∀v' xs s Q,(∀z,z≠a->z≠c->v' z=v z)->xs.length<=(US I).length->Q .n ⟨aU ab (aH v' c (.s s)) m,hp (mix R (w.aF (36,[i]) (.d (iA (f xs s)))) u),t⟩->WB n body Q ⟨aU ab (aH v' c (.s s)) m,hp (mix R (w.aF (36,[i]) (.d (iA xs))) u),t⟩)(fl:∀xs s,(f xs s).length<=xs.length+1)
 (k:∀v',(∀z,z≠a->z≠c->v' z=v z)->WB n r Q ⟨aU ab v' m,hp (mix R (w.aF (36,[i]) (.d (iA ((US I).foldl f [])))) u),t⟩):
 WB n (.c (.f (.v a) (.l (.v b)) (.c (.f (.v c) (.l (.a (.v a) 9)) body .n) .n) .n) r) Q ⟨aU ab v m,hp (mix R (w.aF (36,[i]) (.d (iA []))) u),t⟩:=by
 have fz:∀(ys xs:Ss),(ys.foldl f xs).length<=xs.length+ys.length:=λys=>by
  induction ys with
  |nil=>exactλxs=>dj _
  |cons y ys ih=>exactλxs=>aL (ih _) (aL (pz (fl xs y) _) (fR (by rw[oE,nO,nU 1])))
 refine gw (l:=(34,l)) (a7 I) (λj K=>∃v',K=⟨aU ab v' m,hp (mix R (w.aF (36,[i]) (.d (iA ((US (I.take j)).foldl f [])))) u),t⟩/\∀z,z≠a->z≠c->v' z=v z) hb (λj K J=>?_) ⟨v,Y,λg g g=>Y⟩ (λj y K hy J=>?_) λK J=>?_
 .obtain⟨v',rfl,_⟩:=J;exact hl _
 .obtain⟨v',rfl,hv⟩:=J;obtain⟨y,hz,rfl⟩:=dA hy;have X:=ix H (io y (bE hz))
  have e3:=H.b6 y.1 (ru y.1) (wz (io y (bE hz)).1);have eU:US (I.take (j+1))=US (I.take j)++dd (ru y.1).2:=by rw[take_snoc hz,US,D3];exact aq _ (hY _)
  have le:(US (I.take (j+1))).length<=(US I).length:=by
   have e:=aq (λI=>(US I).length) (M6 (j+1) I);rw[<-show(US (I.take (j+1)++I.drop (j+1))).length=(US I).length from e,US,US,D3,dW]
   exact mR ..
  have va:∀z:Nat,z≠a->z≠c->aH v' a (.e (5,[y.1,y.2])) z=v z:=λz h1 h2=>(av h1).trans (hv z h1 h2);show WB n _ _ ⟨aH (aU ab v' m) a (.e (5,[y.1,y.2])),_,t⟩;rw[bH ca];have ra':∀{v1:Mp},v1 a=M (.e (5,[y.1,y.2]))->(aU ab v1 m) a=M (.e (5,[y.1,y.2])):=λe=>by unfold aU;rw[ca];exact e
  refine gw (l:=(3,[y.1])) ((dd (ru y.1).2).map .s) (λk K=>∃v',K=⟨aU ab v' m,hp (mix R (w.aF (36,[i]) (.d (iA ((US (I.take j)++(dd (ru y.1).2).take k).foldl f [])))) u),t⟩/\∀z,z≠a->z≠c->v' z=v z) (ra (aE (ra' (aw Y))) X.aC Y X.b6) (λk K J=>?_) ⟨_,by rw[Ea,hY],va⟩ (λk x K hx J=>?_) λK J=>?_
  .obtain⟨v',rfl,_⟩:=J;exact e3
  .obtain⟨v',rfl,hv⟩:=J;obtain⟨s,hs,rfl⟩:=dA hx;show WB n body _ ⟨aH (aU ab v' m) c (.s s),_,t⟩;rw[bH cc];refine step v' _ s _ hv ?_ ⟨aH v' c (.s s),?_,λz h1 h2=>(av h2).trans (hv z h1 h2)⟩
   .refine aL (fz _ []) (aL ?_ le);rw[eU,WG,sf,dW,dW];exact eQ (iG ..) _
   .rw[take_snoc hs,<-tW,u7 (l':=[s])];rfl
  .obtain⟨v',rfl,hv⟩:=J;refine aO ⟨v',?_,hv⟩;rw[bc,e7,eU]
 .obtain⟨v',rfl,hv⟩:=J;rw[a7,bc,e7];exact k v' hv
end
noncomputable abbrev iR:Nl:=[2,20,21,22,24,34,35,36,99]
noncomputable abbrev iM:Nl:=[1,2,3,4,5,6,7,8]
def o8(x:Rn):Prop:=HL/\(∀y,x.u (2,y)=hL (2,y))/\x.u (20,[])=M (.i 6 F0)/\x.u (21,[])=M (.d [])/\x.u (22,[])=M (.d [])/\(∀k y,[24,34,35,36].contains k=O->x.u (k,y)=U)/\∀cs es bl N w t',IS cs (cs.map (·.2)) [] [] es bl N w->N<=8000000->(∀j,cs.length<=j->w (36,[j])=U)->x.Q (.e (24,[])) (hp (mix iR w x.u)) t'
section
variable{x:Rn} (hh:o8 x)
def o8.aC:=hh.1
def o8.aI:=hh.2.1
def o8.aG:=hh.2.2.1
def o8.bb:=hh.2.2.2.1
def o8.aT:=hh.2.2.2.2.1
def o8.aD:=hh.2.2.2.2.2.1
def o8.aJ:=hh.2.2.2.2.2.2
end
def K4(x:Rn):Prop:=bI (x.n+5) (bJ 34) [.e (20,[])] x.Q (hp x.u) x.t
def nx:Rn:=j9 yd o8 K4
noncomputable def nM:Mp:=λi=>([V.e (20,[])]++[])[i]?
abbrev pT(v:Mp)(w:Hp)(t:Nat):AS:=⟨aU iM v nM,hp (mix iR w nx.u),t⟩
def JS(cs:List gJ)(i:Nat)(c0:gJ)(xs:Ss)(k:Nat)(es:Es)(bl:List It)(N:Nat)(v:Mp)(w:Hp):Prop:=IS cs ((cs.take i).map (·.2)) c0.2 (xs.take k) es bl N w/\cs[i]?=M c0/\v 1=M (.e (24,[]))/\v 2=M (.i (i+1:Nat))/\v 3=M (.e (34,c0.1))/\w (36,[i])=M (.d (iA xs))/\(∀j,i<j->w (36,[j])=U)/\N<=728*i+4*k
section
variable{c0:gJ} {k:Nat} {v:Mp} (hh:JS cs i c0 xs k es bl N v w)
def JS.bj:=hh.1
def JS.aC:=hh.2.1
def JS.aD:=hh.2.2.1
def JS.aJ:=hh.2.2.2.1
def JS.aI:=hh.2.2.2.2.1
def JS.bb:=hh.2.2.2.2.2.1
def JS.aT:=hh.2.2.2.2.2.2.1
def JS.aG:=hh.2.2.2.2.2.2.2
end
variable{k:Nat} {c0:gJ}
section
variable{v:Mp}
theorem Gm(s:R.all iR.contains=O):hp (mix R w' (mix iR w nx.u))=hp (mix iR (mix R w' w) nx.u):=aq hp (gG s)
theorem aeR{l:List α}{a:α}(h:l[i]?=M a){m:List α}:(l++m).take i=l.take i:=VY (gB (cV.mp h).1)
theorem n_5(H:o8 nx)(J:JS cs i c0 xs k es bl N v w)(nd:xs.Nodup)(hx:xs[k]?=M x)(v7:v 7=M (.s x))(zi:i<=273)(zk:k<=182)(q:∀cs es bl N v' w' t',JS cs i c0 xs (k+1) es bl N v' w'->Q .n (pT v' w' t')/\Q .c (pT v' w' t')):WB (nx.n+4) Sm Q (pT v w t):=by
 have S:=J.bj;have K5:=bE J.aC
 have L:=S.aD c0 K5;have zN:N<=728*273+4*182:=aL J.aG (jY (mQ _ zi) (mQ _ zk))
 have nw:∀y∈K1 c0.2 x,∀c∈cs,y∉c.2:=λy hy=>S.new J.aC Y (λI hI=>(bk.mp hI).elim λc h=>(uI h.1).elim λj hj=>by
  rw[G5]at hj;by_cases lt:j<i
  .rw[aw lt]at hj;exact⟨j,c,lt,hj,h.2⟩
  .rw[av lt]at hj;exact cK hj) (pN nd hx) hy
 refine cj (i4 (re (aE Y) ⟨_,kB (c:=6) (a:=48) (f:=33) S.aC.aC.choose_spec Y Y,rl (a6 (aE J.aI) (a6 (aE v7) br)) (bI.o (Ud (n:=nx.n+1) (u:=mix iR w nx.u) (es:=es) (bl:=bl) (N:=N) H.aC ⟨S.aC.aC,S.aC.aG,S.aC.aI,S.aC.aT,S.aC.aJ,S.aC.aD⟩ L.2.2.2 (aL L.2.2.1 (ao Y)) L.2.1 L.1 (aL zN (ao Y)) (λb y hy hv=>(S.cF y hv).elim λc k=>nw y hy c k.1 k.2) λg bO gX N' w' t' R a hk=>?_))⟩));show WB _ _ _ ⟨aH (aU iM v nM) 8 g,hp (mix dK w' (mix iR w nx.u)),t'⟩;rw[bH Y,Gm Y];have ts:(xs.take (k+1))=xs.take k++[x]:=take_snoc hx
 have R2:∀{w2:Hp},(∀l,w2 (34,l)=w' (34,l))->(∀l,w2 (35,l)=w' (35,l))->w2 (20,[])=w' (20,[])->w2 (21,[])=w' (21,[])->GR es bl N (mix iR w nx.u) c0.2 x bO gX N' w2:=λ{w2} h4 h5 h0 h1=>⟨⟨ak h0 R.aC.aC,h1.trans R.aC.aG,R.aC.aI,λx v e=>(R.aC.aT x v e).imp λl q=>q.imp λds q=>⟨q.1,(h4 l).trans q.2.1,q.2.2.1,q.2.2.2.nE (λl L e=>(h4 l).trans e) λb h=>h⟩,λI x v e=>(R.aC.aJ I x v e).nE λl L e=>(h4 l).trans e,R.aC.aD.imp λj0 k j h=>⟨(h4 _).trans (k j h).1,(h5 _).trans (k j h).2⟩⟩,λl L e=>(h4 l).trans (R.aD l L e),R.aG,R.aI,R.aJ⟩;have De:N'<=728*i+4*(k+1):=aL R.aJ (by rw[qb,<-nO];exact pz J.aG 4)
 by_cases c:K1 c0.2 x=[]
 .have tf:Tr (pT (aH v 8 g) (mix dK w' w) t') g Z:=a.elim (λq=>q.elim λl q=>q.1▸rh (K:=pT (aH v 8 g) (mix dK w' w) t') (l:=(34,l)) (vs:=[]) (q.2.trans (by rw[c];rfl))) λq=>q.1▸rd
  refine d7 (oT (vL (xI (lS (p:=Z) (fc (aE Y) tf)) (z6 (q cs bO gX N' (aH v 8 g) (mix dK w' w) t' ⟨ak ts (S.same (R2 (λb=>Y) (λb=>Y) Y Y) (λb b e=>e) Y Y S.bb c hk),J.aC,J.aD,J.aJ,J.aI,J.bb,J.aT,De⟩).2))))
 .obtain⟨l,rfl,hl⟩:=a.resolve_right λq=>c q.2;have io:=uH (s:=x) L.2.2.2
  have zK:(K1 c0.2 x).length<=1000:=aL (jF ..) (aL L.2.2.1 (ao Y));have nk:kZ (K1 c0.2 x)∉(ou cs).map (·.1):=by rw[KW];intro hm;obtain⟨c',gN,e⟩:=bk.mp hm;obtain⟨y,hy⟩:=qH _ c;exact nw y hy c' gN (ak (Gk e) hy)
  have kk:(kZ (K1 c0.2 x)).cn 7=O:=(yg (d:=5)).1;refine d7 (oT (vL (vK (Fa (E9 (re (aE Y) ⟨O,?_,?_⟩))))))
  .have z:(!(a7 (K1 c0.2 x)).isEmpty)=O:=by
    cases h:K1 c0.2 x with
    |nil=>exact ax h c
    |cons _ _=>rfl
   exact z▸rh (K:=pT (aH v 8 (.e (34,l))) (mix dK w' w) t') (l:=(34,l)) hl
  refine vK (uk (kM (rl (a6 (aE Y) br) (bI.o (wD (n:=nx.n+3) H.aC io zK c hl λw2=>?_)))));show WE _ _ _ ⟨_,hp (mix [99] w2 (mix iR (mix dK w' w) nx.u)),_⟩;rw[Gm Y];refine re (ra (l:=(20,[])) (c:=6) (f:=aH F0 37 (.i R.aC.aC.choose)) (aE Y) R.aC.aC.choose_spec Y Y) ⟨_,in_dict (n:=Z) (l:=(22,[])) S.aG kk,?_⟩;rw[pL,aA nk];refine ID (aO (fW (pE (re (vX (aE J.aD) S.aI) (re (ra (l:=(20,[])) (c:=6) (f:=aH F0 37 (.i R.aC.aC.choose)) (aE Y) R.aC.aC.choose_spec Y Y) (kM (rl (a6 (aE Y) br) (bI.o (wD (n:=nx.n+3) H.aC io zK c hl λw3=>?_)))))))));rw[Gm Y,bc];have zc:cs.length<=273:=S.pO H.aC
  refine rj (l:=(22,[])) S.aG kk (by rw[ou,bc,List.length_zipIdx];exact bF zc (ao Y)) ?_
  show WB _ _ _ ⟨_,(hp (mix iR _ nx.u)).aF (22,[]) _,_⟩;rw[bA Y,bA (R:=iR) Y,kW nk,<-aeP (c:=(l,K1 c0.2 x))];refine ny (l:=(24,[])) Y Y (aE J.aD) S.aI (aE Y) (by rw[bc];exact bF zc (ao Y)) (aO ?_)
  rw[bA (R:=iR) Y,show(cs.map λc=>V.e (34,c.1))++[V.e (34,l)]=(cs++[(l,K1 c0.2 x)]).map λc=>V.e (34,c.1) from(dc (l₂:=[(l,K1 c0.2 x)])).symm]
  refine(q (cs++[(l,K1 c0.2 x)]) bO gX N' (aH v 8 (.e (34,l))) (((mix [99] w3 (mix [99] w2 (mix dK w' w))).aF (22,[]) (.d (ou (cs++[(l,K1 c0.2 x)])))).aF (24,[]) (.l ((cs++[(l,K1 c0.2 x)]).map λc=>.e (34,c.1)))) _ ⟨?_,(AQ (cV.mp J.aC).1).trans J.aC,J.aD,J.aJ,J.aI,J.bb,J.aT,De⟩).1;rw[ts,aeR J.aC];exact S.add (R2 (λb=>Y) (λb=>Y) Y Y) (λb b e=>e) J.aC Y nw c Y Y S.bb hk hl
theorem n_2(H:o8 nx)(S:IS cs ((cs.take i).map (·.2)) [] [] es bl N w)(hi:cs[i]?=M c0)(v1:v 1=M (.e (24,[])))(v2:v 2=M (.i i))(te:∀j,i<=j->w (36,[j])=U)(zN:N<=728*i)(zi:i<=273)(q:∀cs es bl N v' w' t',IS cs ((cs.take (i+1)).map (·.2)) [] [] es bl N w'->i+1<=cs.length->v' 1=M (.e (24,[]))->v' 2=M (.i (i+1:Nat))->(∀j,i+1<=j->w' (36,[j])=U)->N<=728*(i+1)->Q .n (pT v' w' t')):WB (nx.n+4) Sn Q (pT v w t):=by
 have K5:=bE hi;have L:=S.aD c0 K5
 refine eF (xZ (aE v1) S.aI (aE v2) (iO hi)) (fW (BS v2 (re bW ⟨_,xN,cj (kP (dF (36,[i]) Y (te i (dj _)) ?_))⟩)));show WB _ _ _ ⟨aH (aH (aH (aU iM v nM) 3 (.e (34,c0.1))) 2 (.i (i+1:Nat))) 4 (.e (36,[i])),(hp (mix iR w nx.u)).aF (36,[i]) (.d (iA [])),t⟩;rw[bH Y,bH Y,bH Y,bA Y,bA (R:=iR) Y];generalize hv:aH (aH (aH v 3 (.e (34,c0.1))) 2 (.i (i+1:Nat))) 4 (.e (36,[i]))=v0;have w1:v0 1=M (.e (24,[])):=aj hv v1
 have w2:v0 2=M (.i (i+1:Nat)):=aj hv Y;have w3:v0 3=M (.e (34,c0.1)):=aj hv Y
 have w4:v0 4=M (.e (36,[i])):=aj hv Y;have Df:(US c0.2).length<=182:=aL (Uj H.aC L.2.2.2) (mQ 2 L.2.2.1)
 refine Uk (f:=cX) H.aC L.2.2.2 Y Y Y (aE w3) (λa=>L.1) (λv' xs s Q ly le q=>xY (ds:=iA xs) (vG) (aE ((ly 4 (ao Y) (ao Y)).trans w4)) (aE Y) a4 Y (by rw[iA,bc];exact bF le (bF Df (ao Y))) (aO ?_)) (λxs s=>x6) λv' ly=>?_
 .show Q .n ⟨_,(hp (mix iR (w.aF (36,[i]) (.d (iA xs))) nx.u)).aF (36,[i]) _,t⟩;rw[bA Y,bA (R:=iR) Y,Ug,mI];exact q
 show WB _ _ _ ⟨aU iM v' nM,hp (mix iR (w.aF (36,[i]) (.d (iA (dd (US c0.2))))) nx.u),t⟩;have nd:(dd (US c0.2)).Nodup:=yj gh
 have zl:(dd (US c0.2)).length<=182:=aL qr Df;refine C4 (l:=(36,[i])) (ks:=dd (US c0.2)) (λk K=>k<=182/\∃cs es bl N v w t,K=pT v w t/\JS cs i c0 (dd (US c0.2)) k es bl N v w) (aE ((ly 4 (ao Y) (ao Y)).trans w4)) (λk K J=>?_) ⟨b7 _,cs,es,bl,N,v',_,t,Y,⟨⟨⟨S.aC.aC,S.aC.aG,S.aC.aI,S.aC.aT,S.aC.aJ,S.aC.aD⟩,S.aI,S.aD,S.aG,S.aT,S.b6,S.cF,λj c h0 hj=>(S.aJ j c h0 hj).imp λc' k=>⟨k.1,k.2.imp λx k=>⟨k.1,.inl (k.2.resolve_right λq=>bw q.2)⟩⟩,λI x P=>S.bj I x (.inl (P.resolve_right λq=>bw q.2)),S.bb⟩,hi,(ly 1 (ao Y) (ao Y)).trans w1,(ly 2 (ao Y) (ao Y)).trans w2,(ly 3 (ao Y) (ao Y)).trans w3,a4,λj lt=>(aQ λq=>mU lt (bY (bS q).2).1).trans (te j (gB lt)),zN⟩⟩ (λk x K hx J=>?_) λK J=>?_
 .obtain⟨_,cs,es,bl,N,v,w,t,rfl,J⟩:=J;exact⟨_,J.bb,fA⟩
 .obtain⟨zk,cs,es,bl,N,v,w,t,rfl,J⟩:=J;show WB _ _ _ ⟨aH (aU iM v nM) 7 (.s x),_,t⟩;rw[bH Y];have lt:=gc (cV.mp hx).1 zl
  exact n_5 H ⟨J.bj,J.aC,J.aD,J.aJ,J.aI,J.bb,J.aT,J.aG⟩ nd hx Y zi zk λcs es bl N v' w' t' J'=>⟨⟨lt,cs,es,bl,N,v',w',t',Y,J'⟩,⟨lt,cs,es,bl,N,v',w',t',Y,J'⟩⟩
 .obtain⟨_,cs,es,bl,N,v,w,t,rfl,J⟩:=J;have S:=J.bj
  rw[e7]at S;have et:(cs.take (i+1)).map (·.2)=(cs.take i).map (·.2)++[c0.2]:=by rw[take_snoc J.aC,dc];rfl
  have ep:∀I x,Pk ((cs.take (i+1)).map (·.2)) [] [] I x↔Pk ((cs.take i).map (·.2)) c0.2 (dd (US c0.2)) I x:=λI x=>by unfold Pk;rw[et,cD,bp,qy,Uh];exact⟨λh=>(h.resolve_right λq=>bw q.2).elim λh k=>h.elim (λh=>.inl ⟨h,k⟩) λe=>.inr ⟨e,aj e k⟩,λh=>.inl (h.elim (λh=>⟨.inl h.1,h.2⟩) λh=>⟨.inr h.1,ak h.1 h.2⟩)⟩
  exact aO (q cs es bl N v w t ⟨S.aC,S.aI,S.aD,S.aG,S.aT,S.b6,S.cF,λj c h0 hj=>(S.aJ j c h0 hj).imp λc' k=>⟨k.1,k.2.imp λx k=>⟨k.1,(ep _ _).mpr k.2⟩⟩,λI x P=>S.bj I x ((ep I x).mp P),S.bb⟩ (cV.mp J.aC).1 J.aD J.aJ J.aT (aL J.aG (by rw[qb];exact eQ (mQ 4 zl) _)))
end
theorem Gn(h:p<n):(refs n)[p]?=M (.e (2,[p])):=by
 rw[refs,kG,Na h]
 rfl
theorem aeU(lv:∀q∈ps,∃r:cJ,gS[q]?=M r/\Lv gS r.1):∀y∈JL ps,Io y:=λy hy=>by
 rcases b0.mp hy with rfl|hy
 .exact⟨fY _,b7 _⟩
 .obtain⟨q,hq,rfl⟩:=bk.mp hy;exact⟨wZ ((lv q hq).elim λr k=>(cV.mp k.1).1),b7 _⟩
def uK(i:Nat)(cs:List gJ)(es:Es)(bl:List It)(N:Nat)(v:Mp)(w:Hp):Prop:=IS cs ((cs.take i).map (·.2)) [] [] es bl N w/\i<=cs.length/\v 1=M (.e (24,[]))/\v 2=M (.i i)/\(∀j,i<=j->w (36,[j])=U)/\N<=728*i
section
variable{v:Mp} (hh:uK i cs es bl N v w)
def uK.aC:=hh.1
def uK.aG:=hh.2.1
def uK.aD:=hh.2.2.1
def uK.aJ:=hh.2.2.2.1
def uK.aT:=hh.2.2.2.2.1
def uK.aI:=hh.2.2.2.2.2
end
theorem aeV(H:o8 nx){v:Mp}(W:uK 0 cs es bl N v w):WB (nx.n+4) (Sx.dD 4 FW) (Rt nx.Q) (pT v w t):=by
 refine sH (m₀:=274) (λk K=>∃i cs es bl N v w t,k+i=274/\K=pT v w t/\uK i cs es bl N v w) ⟨0,cs,es,bl,N,v,w,t,Y,Y,W⟩ λk K J=>?_;obtain⟨i,cs,es,bl,N,v,w,t,ek,rfl,W⟩:=J;have zc:cs.length<=273:=W.aC.pO H.aC
 refine⟨_,fu (aE W.aJ) (vX (aE W.aD) W.aC.aI) BF,λc=>?_,λc=>?_⟩
 .have lt:i<cs.length:=by
   have c:=mV.mp (aB c)
   rwa [bc]at c
  obtain⟨c0,h0⟩:=lW lt;refine n_2 H W.aC h0 W.aD W.aJ W.aT W.aI (aL W.aG zc) λcs es bl N v' w' t' S le v1 v2 te zN=>?_;cases k with
  |zero=>exact ax (gc lt zc) (by rw[sf]at ek;rw[ek];decide)
  |succ k=>exact⟨k,jd k,i+1,cs,es,bl,N,v',w',t',by rw[<-ek,wU];rfl,Y,S,le,v1,v2,te,zN⟩
 .have le:cs.length<=i:=by have c:=vm.mp (of_decide_eq_false c);rw[bc]at c;exact qc.mp c
  have S:=W.aC;rw[yI le]at S;exact jO (aE W.aD) (H.aJ cs es bl N w t S (aL W.aI (aL (mQ 728 (aL W.aG zc)) (ao Y))) λj h=>W.aT j (aL W.aG h))
theorem aeW(H:o8 nx):K4 nx:=by
 refine fP acX Y ?_;show WB (nx.n+4) FW _ ⟨nM,hp nx.u,nx.t⟩;have P0:=px H.aC (p:=0) (fY _)
 have CY:RE ⟨nM,hp nx.u,nx.t⟩ (.a (.u (.a (.a (.v 0) 30) 15) (.cI 0)) 11) (.e (5,[0,0])):=ra (l:=(2,[0])) (xZ (j:=0) (ra (c:=4) (f:=f1) (ra (l:=(20,[])) (c:=6) (f:=F0) (aE Y) H.aG Y Y) H.aC.aD Y Y) H.aC.aI bW (Gn (fY _))) ((H.aI _).trans P0.aD) Y P0.aG;refine cj (fw (eC (i4 (re (aE Y) ⟨_,kB (c:=6) (a:=47) (f:=32) (g:=F0) H.aG Y Y,eC (fw (rl (a6 CY br) ⟨(by decide:1<=16777216),kC ?_⟩))⟩))))
 show WL _ _ _ ⟨nM,(hp nx.u).aF (bz nx.t) (.l (a7 [(0,0)])),nx.t+1⟩;rw[bA Y];refine eB (bI.o (aeu (n:=nx.n+3) (gs:=gS) (F:=F0) (G:=λq=>gP (q+1)) (jl:=[0]) (l0:=bz nx.t) (h:=hp (nx.u.aF (bz nx.t) (.l (a7 [(0,0)])))) ⟨H.aC.jq,λp r j hr hj=>(H.aC.bj p r j hr hj).elim λf X=>⟨f,X.1.aD,X.1.aI,X.1.aG⟩⟩ H.aC.aC.aG H.aG Y (λq r hq=>?_) Y a4 (H.aD 34 _ Y) λps ae B lv Gj=>eB ⟨(by decide:1<=16777216),dF (24,[]) Y (H.aD 24 [] Y) ?_⟩))
 .have P:=px H.aC (p:=q+1) (wZ (cV.mp hq).1);exact⟨(H.aI _).trans P.aD,P.aC.2.2.2.2.2.2.2.1,P.aG⟩
 generalize ht:V.e (34,[0])=r0;obtain⟨u1,Dg⟩:∃u1,u1=nx.u.aF (bz nx.t) (.l (a7 [(0,0)])):=⟨_,Y⟩;show WB _ (Sx.dD 1 FW) _ ⟨aH nM 1 (.e (24,[])),(mix [2,20,34] ae (hp (nx.u.aF (bz nx.t) (.l (a7 [(0,0)]))))).aF (24,[]) (.l [r0]),nx.t+1⟩;have e1:u1=mix iR u1 nx.u:=ak Dg (kQ Y)
 have e2:mix [2,20,34] ae u1=mix iR (mix [2,20,34] ae u1) nx.u:=(aq (mix [2,20,34] ae) e1).trans (gG Y);rw[<-Dg,show mix [2,20,34] ae (hp u1)=mix lR (mix iR (mix [2,20,34] ae u1) nx.u) hL from(gG Y).trans (aq (λx=>mix lR x hL) e2),bA Y,bA (R:=iR) Y,show aH nM 1 (.e (24,[]))=aU iM (aH nM 1 (.e (24,[]))) nM from(aq (aH · 1 _) gH).trans (bH Y)]
 have jM:∀k y,cQ k 99=Z->u1 (k,y)=nx.u (k,y):=λk y e=>ak Dg (aQ (bf e));generalize hw:(mix [2,20,34] ae u1).aF (24,[]) _=w0;have K6:w0 (24,[])=M (.l [r0]):=aj hw a4
 have Ul:w0 (20,[])=M (.i 6 (aH F0 37 (.i 1))):=aj hw Gj;have Um:∀l,w0 (34,l)=ae (34,l):=λl=>aj hw Y
 have io:=aeU B.aC;refine eF bW ?_;show WB _ _ _ ⟨aH (aU iM (aH nM 1 (.e (24,[]))) nM) 2 (.i 0),hp (mix iR w0 nx.u),nx.t+1⟩;rw[bH Y];refine gw (l:=(24,[])) [r0] (λj K=>K.h (24,[])=M (.l [r0])/\(j=0->K=pT (aH (aH nM 1 (.e (24,[]))) 2 (.i 0)) w0 (nx.t+1))/\(j=1->∃v w t,K=pT v w t/\v 1=M (.e (24,[]))/\(∀j,w (36,[j])=U)/\IS [([0],JL ps)] [] [] [] [] [] 0 w)) (aE Y) (λj K J=>J.1) ⟨K6,λb=>Y,λe=>dS e Y⟩ (λj x K hx J=>?_) λK J=>?_
 .cases j with
  |succ j=>exact cK hx
  |zero=>
   obtain rfl:r0=x:=bu hx;obtain rfl:=J.2.1 Y;subst ht;show WB _ _ _ ⟨aH (aU iM _ nM) 3 (.e (34,[0])),hp (mix iR w0 nx.u),nx.t+1⟩;rw[bH Y];have lJ:(JL ps).length<=91:=by have:=KN B.aD B.aC;rw[a7,bc]at this;exact aL this (fJ H.aC.aC.aG)
   have uJ:w0 (34,[0])=M (.l (a7 (JL ps))):=(Um _).trans B.aG;refine fW (pE (re (aE Y) (re (ra (l:=(20,[])) (c:=6) (f:=aH F0 37 (.i 1)) (aE Y) Ul Y Y) (kM (rl (a6 (aE Y) br) (bI.o (wD (n:=nx.n+3) (u:=mix iR w0 nx.u) H.aC io (aL lJ (ao Y)) (A1 _ _) uJ λw'=>?_)))))));have w22:w0 (22,[])=M (.d []):=aj hw ((jM 22 [] Y).trans H.aT)
   refine rj (l:=(22,[])) w22 (yg (d:=5)).1 (ao Y) ?_;show WB _ _ _ ⟨_,(hp (mix [99] w' (mix iR w0 nx.u))).aF (22,[]) _,_⟩;rw[Gm Y,bA Y,bA (R:=iR) Y];refine fW (BS Y (re bW ⟨_,xN,aO ⟨K6,(λe=>dS e Y),λb=>⟨_,_,_,jP (bH Y) Y,Y,λj=>?_,?_⟩⟩⟩))
   .exact(show w0 (36,[j])=U from aj hw ((jM 36 [j] Y).trans (H.aD 36 _ Y)))
   have i1:∀{P:gJ->Prop},P ([0],JL ps)->∀c∈[([0],JL ps)],P c:=λp c hc=>ak (bp.mp hc) p;have d1:∀{j:Nat}{c:gJ},[([0],JL ps)][j]?=M c->j=0:=λ{j c} e=>by
    cases j with
    |zero=>rfl
    |succ j=>exact cK e
   refine⟨⟨⟨1,Ul⟩,aj hw ((jM 21 [] Y).trans H.bb),dj _,(λx v e=>cK e),(λI x v e=>cK e),1,λj hj=>⟨(Um _).trans ((B.aT _ λe=>ax hj (by rw[(bY e).1];decide)).trans ((congrFun Dg.symm (34,[j])).trans ((jM 34 _ Y).trans (H.aD 34 _ Y)))),(show w0 (35,[j])=U from aj hw ((jM 35 _ Y).trans (H.aD 35 _ Y)))⟩⟩,K6,i1 ⟨uJ,A1 _ _,lJ,io⟩,a4,λj j' c c' y h h' b b=>(d1 h).trans (d1 h').symm,⟨[0],ps,Y,B.aD,lv⟩,(λy h=>bw h),λj c h e=>ax (d1 e) (mU h),(λI x P=>P.elim (λq=>bw q.1) λq=>bw q.2),λp hp=>?_⟩
   have P:=px H.aC hp;cases p with
   |zero=>exact⟨_,(show w0 (2,[0])=_ from aj hw (B.aJ.trans ((congrFun Dg.symm (2,[0])).trans<|(jM 2 _ Y).trans ((H.aI _).trans P.aD)))),λa b=>Y⟩
   |succ q=>
    obtain⟨r,hr⟩:=lW (GY hp);refine⟨_,(congrFun hw.symm (2,[q+1])).trans (B.aI q r hr),λa ha=>?_⟩;unfold KM;by_cases c:q∈ps
    .rw[aw c];exact av λe=>by rw[e]at ha;exact ax ha (ao Y)
    .rw[av c]
 .obtain⟨v,w,t,rfl,v1,te,S⟩:=J.2.2 Y;refine eF bW ?_;show WB _ _ _ ⟨aH (aU iM v nM) 2 (.i 0),hp (mix iR w nx.u),t⟩;rw[bH Y];exact aeV H ⟨S,b7 _,v1,Y,λj b=>te j,dj _⟩
theorem aeY{x:Rn}:o8 x->K4 x:=mJ aeW
def b9(x:GX):Prop:=HL/\IS x.c (x.c.map (·.2)) [] [] x.es x.bl x.N x.u/\x.N<=8000000/\(∀j,x.c.length<=j->x.u (36,[j])=U)/\(∀y,x.u (6,y)=hL (6,y))/\x.u (23,[])=M (.d [])/\x.u (25,[])=M (.d [])/\x.u (27,[])=M (.l [])/\x.u (28,[])=M (.l [])/\x.u (40,[])=M (.d [])/\x.u (50,[])=M (.t 391 #[])/\x.u (51,[])=M (.t 398 #[])/\(∃g,x.u gu=M (.fz g))/\∀k y,[29,30,31,32,33,37,38,39,52,53].contains k=O->x.u (k,y)=U
section
variable{x:GX} (hh:b9 x)
def b9.aC:=hh.1
def b9.aD:=hh.2.1
def b9.aI:=hh.2.2.1
def b9.aT:=hh.2.2.2.1
def b9.bb:=hh.2.2.2.2.1
def b9.rF:=hh.2.2.2.2.2.1
def b9.jq:=hh.2.2.2.2.2.2.1
def b9.eO:=hh.2.2.2.2.2.2.2.1
def b9.dC:=hh.2.2.2.2.2.2.2.2.1
def b9.cF:=hh.2.2.2.2.2.2.2.2.2.1
def b9.b6:=hh.2.2.2.2.2.2.2.2.2.2.1
def b9.bj:=hh.2.2.2.2.2.2.2.2.2.2.2.1
def b9.aJ:=hh.2.2.2.2.2.2.2.2.2.2.2.2.1
def b9.aG:=hh.2.2.2.2.2.2.2.2.2.2.2.2.2
end
noncomputable def pM:Mp:=aH (aH (aH (aH (aH (aH (λi=>([V.e (20,[])]++[])[i]?) 1 (.e (41,[]))) 2 (.e (48,[]))) 3 (.e (25,[]))) 4 (.e (23,[]))) 5 (.e (40,[]))) 6 (.e (24,[]))
def K7(x:GX):Prop:=WB (lx.n+11) (Sx.dD 6 Kb) (Rt lx.Q) ⟨pM,hp x.u,x.t⟩
def bx:GX:=j9 ⟨0,λa=>U,0,λa a a=>True,[],fU,[],[],[],0,[]⟩ b9 K7
noncomputable abbrev zR:Nl:=[0,6,31,32,33,37,38,39,50,51,52,53,99]
abbrev hb(w:Hp):Hp:=hp (mix zR w bx.u)
def ti(vs:Vs):Prop:=vs.Nodup/\∀v∈vs,∃s∈fi gS gS.length,v=.s s
def P1(x:Rn):Prop:=b9 bx/\x.u (53,[])=U/\∀w vs t,ti vs->w (53,[])=M (.s vs)->x.Q (.e (53,[])) (hb (mix [53,99] w x.u)) t
section
variable{x:Rn} (hh:P1 x)
def P1.aC:=hh.1
def P1.aG:=hh.2.1
def P1.aD:=hh.2.2
end
def K8(x:Rn):Prop:=bI (x.n+1) (bJ 35) [.e (20,[])] x.Q (hb x.u) x.t
def r1:Rn:=sU P1 K8
noncomputable def m1:Mp:=aH (λi=>([V.e (20,[])]++[])[i]?) 1 (.e (53,[]))
def Lp:Vs:=(refs (gS.length+1)).drop 1
abbrev s1(v:Mp)(w:Hp)(t:Nat):AS:=⟨aU [2,3,4] v m1,hb (mix [53,99] w r1.u),t⟩
def NI(kk:Nl)(n0:Nat)(vs:Vs)(v:Mp)(w:Hp):Prop:=ti vs/\w (53,[])=M (.s vs)/\w (99,kk)=M (.l Lp)/\n0<=vs.length/\v 2=M (.i n0)
section
variable{n0:Nat} {v:Mp} (hh:NI kk n0 vs v w)
def NI.aD:=hh.1
def NI.aC:=hh.2.1
def NI.aJ:=hh.2.2.1
def NI.aI:=hh.2.2.2.1
def NI.aG:=hh.2.2.2.2
end
inductive NJ(kk:Nl)(n0 t:Nat)(vs:Vs)(p:Nat)(_:Nat):QA
 |mk {v w}:NI kk n0 vs v w->v 3=M (.e (2,[p+1]))->NJ kk n0 t vs p _ (s1 v w t)
inductive NK(t n0:Nat)(_:Nat):QA
 |mk {vs v w}:NI [t] n0 vs v w->NK t n0 _ (s1 v w (t+1))
inductive NL(k:Nat):QA
 |mk {vs v w t}:ti vs->w (53,[])=M (.s vs)->v 2=M (.i vs.length)->k+vs.length=91->NL k (s1 v w t)
variable{n0:Nat}
section
variable{v:Mp}
theorem ti.add(h:ti vs)(hs:s∈fi gS gS.length):ti (setAdd vs (.s s))/\vs.length<=(setAdd vs (.s s)).length:=by
 unfold setAdd;by_cases c:V.s s∈vs
 .rw[aw c];exact⟨h,dj _⟩
 .rw[av c];exact⟨⟨qY h.1 c,λv hv=>(cD.mp hv).elim (h.2 v) λe=>⟨s,hs,bp.mp e⟩⟩,by rw[dW];exact mR ..⟩
theorem ti.pO(H:HL)(h:ti vs):vs.length<=90:=by
 have e:∀v∈vs,v∈(fi gS gS.length).map V.s:=λv hv=>(h.2 v hv).elim λs k=>ak k.2 (dw k.1);have:=oX h.1 e
 rw[bc]at this;exact aL this (aL Ts H.aC.aG)
theorem Un(H:P1 r1)(I:NI kk n0 vs v w)(hp:p<gS.length)(v3:v 3=M (.e (2,[p+1])))(q:∀mz w',NI kk n0 mz v w'->WB n r Q (s1 v w' t)):WB n (.c (.e (.bV .d (.v 1) (.c (.a (.v 3) 0) .n))) r) Q (s1 v w t):=by
 have hp:=wZ hp;obtain⟨g,hg,eg⟩:=H.aC.aD.bb _ hp;have A:=I.aD.add (C8 (sX hp))
 refine pK (iu (re (aE Y) ⟨_,aaO (l:=(53,[])) I.aC,rl (a6 (x:=.s (ru (p+1)).1) (ra (l:=(2,[p+1])) (aE v3) hg Y ((eg 0 (.inl Y)).trans (px H.aC.aC hp).aC.1)) br) (aaM (l:=(53,[])) I.aC (bF (I.aD.pO H.aC.aC) (ao Y)) ?_)⟩));show WB _ _ _ ⟨_,(hb (mix [53,99] w r1.u)).aF (53,[]) _,t⟩;rw[bA Y,bA (R:=zR) Y,bA (R:=[53,99]) Y];exact q _ _ ⟨A.1,a4,I.aJ,aL I.aI A.2,I.aG⟩
theorem aeZ(H:P1 r1)(I:NI kk n0 vs v w)(hp:p<gS.length)(v3:v 3=M (.e (2,[p+1])))(q:∀mz v' w',NI kk n0 mz v' w'->Q .n (s1 v' w' t)/\Q .c (s1 v' w' t)):WB n Sp Q (s1 v w t):=by
 have iY:=wZ hp;obtain⟨g,hg,eg⟩:=H.aC.aD.bb _ iY;have pf:=(px H.aC.aC iY).aC
 refine kU (fu (o:=.Eq) (ra (l:=(2,[p+1])) (aE v3) hg Y ((eg 8 (.inr (.inr (.inl Y)))).trans pf.2.2.2.2.2.1)) bW (pD Y Y)) (λa=>Un H I hp v3 λmz w' I'=>z6 (q mz v w' I').2) λa=>aO ?_;refine d7 (kO (oi (re (ra (l:=(2,[p+1])) (aE v3) hg Y ((eg 1 (.inr (.inl Y))).trans pf.2.1)) (I8 (lV (tg:=.v 4) _ (NJ kk n0 t vs p) (λi K J=>Y) (.mk I v3) (λj x K hx J=>?_) λK J=>?_)))))
 .obtain⟨J1,J2⟩:=J;obtain⟨s,_,rfl⟩:=dA hx;show WB n So _ ⟨aH (aU [2,3,4] _ m1) 4 (.s s),_,t⟩;rw[bH Y];have I2:NI kk n0 vs (aH _ 4 (.s s)) _:=⟨J1.aD,J1.aC,J1.aJ,J1.aI,J1.aG⟩
  exact kU (aj (A4 (decide (V.s s∈vs))) (fu (o:=.NotIn) (aE Y) (aE Y) (QR (m:=O) (l:=(53,[])) J1.aC))) (λa=>vW (aO (q vs _ _ I2).1)) λa=>aO (aO (.mk I2 J2))
 .obtain⟨J1,J2⟩:=J;exact Un H J1 hp J2 λmz w' I'=>aO (aO (q mz _ w' I').1)
theorem ae0(H:P1 r1):K8 r1:=by
 refine fP acY Y (cj (mG Y (rl br (QO (dF (53,[]) Y H.aG (eF bW ?_))))));show WB _ _ _ ⟨aH m1 2 (.i 0),(hb r1.u).aF (53,[]) (.s []),r1.t⟩;rw[bA Y,bA (R:=zR) Y,show r1.u.aF (53,[]) (.s [])=mix [53,99] (r1.u.aF (53,[]) (.s [])) r1.u from kQ Y,show aH m1 2 (.i 0)=aU [2,3,4] (aH m1 2 (.i 0)) m1 from(aq (aH · 2 _) gH).trans (bH Y)]
 refine sH (m₀:=91) NL (.mk (vs:=[]) ⟨gh,λv h=>bw h⟩ a4 Y Y) λk K J=>⟨O,fc mY mE,λa=>?_,λe=>cw e⟩;cases J with|@mk vs v w t ok s v2 ek=>?_
 have zp:(refs (gS.length+1)).length=gS.length+1:=by rw[refs,bc,iU]
 refine d7 (kO (oi (zT (re (ra (l:=(1,[])) (c:=4) (f:=f1) (ra (l:=(20,[])) (c:=6) (f:=aH F0 37 (.i H.aC.aD.aC.aC.choose)) (aE Y) H.aC.aD.aC.aC.choose_spec Y Y) H.aC.aC.aD Y Y) (re bW (.inl ⟨_,refs (gS.length+1),1,Y,Y,H.aC.aC.aI,by rw[zp];exact aL (fJ H.aC.aC.aC.aG) (ao Y),kC ?_⟩))))))
 rw[KJ (by rw[zp];exact fY _)]
 show IB _ ⟨_,(hb (mix [53,99] w r1.u)).aF (99,[t]) (.l Lp),t+1⟩ _ _;rw[bA Y,bA (R:=zR) Y,bA (R:=[53,99]) Y];refine mH a4 (lV (tg:=.v 3) Lp (NK t vs.length) (λi K J=>?_) (.mk ⟨ok,s,a4,dj _,v2⟩) (λj x K hx I=>?_) λK I=>?_)
 .obtain⟨I⟩:=J;exact⟨_,I.aJ,Y⟩
 .cases I with|@mk mz v w I=>?_
  rw[Lp,Wm]at hx;obtain⟨lt,rfl⟩:=Ky hx;show WB _ _ _ ⟨aH (aU [2,3,4] v m1) 3 (.e (2,[1+j])),_,t+1⟩;rw[bH Y];rw[nU 1 j]at lt⊢;exact aeZ H ⟨I.aD,I.aC,I.aJ,I.aI,I.aG⟩ (GY lt) Y λmz v' w' I'=>⟨.mk I',.mk I'⟩
 .cases I with|@mk mz v w I=>?_
  have rl:∀{r:Sx},RE (s1 v w (t+1)) (.p .l (.c (.v 1) .n)) (.i mz.length):=CG (aE Y) λn Q q=>aaN (l:=(53,[])) I.aC q;refine aO (kU (fu (o:=.Eq) (rl (r:=.n)) (aE I.aG) (pD Y Y)) (λa=>vW (jO (aE Y) (H.aD w mz _ I.aD I.aC))) λc=>aO (eF (rl (r:=.n)) ?_));show WB _ _ _ ⟨aH (aU [2,3,4] v m1) 2 _,_,t+1⟩;rw[bH Y];have lt:vs.length<mz.length:=u4 I.aI λe=>ax c (by rw[e];exactλw=>cw ((az (Y:V.i mz.length=_)).symm.trans w))
  have l2:=I.aD.pO H.aC.aC;exact aO ⟨91-mz.length,gc (Wl (bF (aL (gB lt) l2) (ao Y)) lt) (fR (Nat.sub_eq_of_eq_add ek.symm)),.mk I.aD I.aC Y (Nat.sub_add_cancel (p9 l2))⟩
theorem ae1{x:Rn}(p:P1 x):K8 x:=wy ae0 p
end
def dO:List It:=(bx.c.headD ([],[])).2
def bC:Ss:=dd (dO.filterMap sym)
noncomputable def tV(A:aP):V:=V.bP [.i 0,.s A]
variable{A B:aP} {c:gJ}
section
variable{v:Mp}
theorem K9(H:HL)(i:Io y)(ha:m a=M (.e (5,[y.1,y.2]))):RT ⟨m,hp u,t⟩ (.m .Lt (.a (.v a) 13) (.b .Sub (.a (.v a) 8) (.cI 1))) (sym y).isSome:=by
 have X:=ix H i;have r:RT ⟨m,hp u,t⟩ (.m .Lt (.a (.v a) 13) (.b .Sub (.a (.v a) 8) (.cI 1))) (decide ((y.2:Int)<(((ru y.1).2.length+1:Nat):Int)-1)):=fu (o:=.Lt) (ra (aE ha) X.aC Y X.aD) (jC (o:=.Sub) (ra (aE ha) X.aC Y X.aG) bW vH) BF
 rw[succ_sub]at r;have e:decide ((y.2:Int)<((ru y.1).2.length:Nat))=(sym y).isSome:=by
  cases hs:sym y with
  |none=>exact aA λw=>ax (mV.mp w) (km.mpr (mN.mp hs))
  |some s=>exact az (mV.mpr (cV.mp hs).1)
 exact aj e r
theorem K'(H:HL)(i:Io y)(ha:m a=M (.e (5,[y.1,y.2])))(hs:sym y=M s):RE ⟨m,hp u,t⟩ (.u (.a (.v a) 1) (.b .Add (.a (.v a) 13) (.cI 1))) (.s s):=by have X:=ix H i;exact x4 (j:=y.2+1) (ra (aE ha) X.aC Y X.aI) (jC (ra (aE ha) X.aC Y X.aD) bW qk) (iO (Kw i.2 hs))
theorem tB(h:tV A=tV B):A=B:=str_inj (bY (bY (wB h)).2).1
theorem ae2:tV A∈xs.map tV↔A∈xs:=⟨λh=>(bk.mp h).elim λB k=>aj (tB k.2) k.1,dw⟩
theorem iQ(H:b9 bx):∃l ps,bx.c[(0:Nat)]?=M (l,dO)/\dO=JL ps/\ps.Nodup/\∀(q:Nat)(r:cJ),gS[q]?=M r->(q∈ps↔Lv gS r.1):=by
 obtain⟨l,ps,e,k⟩:=H.aD.b6;have e0:dO=JL ps:=by
  unfold dO;cases h:bx.c with
  |nil=>rw[h]at e;exact cK e
  |cons c cs=>rw[h]at e;exact aq sg (bu e)
 exact⟨l,ps,ak e0 e,e0,k⟩
theorem pU(H:b9 bx)(hy:y∈dO):y.2=0/\∀s,sym y=M s->s∈fX gS gS.length/\Lv gS s:=by
 obtain⟨l,ps,_,e,_,lv⟩:=iQ H;rw[e]at hy;rcases b0.mp hy with rfl|hy
 .exact⟨Y,λs e=>aj (bu e:bD=s) ⟨H.aC.aC.aT,.s⟩⟩
 .obtain⟨q,hq,rfl⟩:=bk.mp hy;refine⟨Y,λs hs=>?_⟩;cases hr:gS[q]? with
  |none=>
   have:ru (q+1)=(fU,[]):=by unfold ru qx;rw[show(hP gS)[q+1]?=gS[q]? from Y,hr];rfl
   have hs:(ru (q+1)).2[(0:Nat)]?=M s:=hs;rw[this]at hs;exact cK hs
  |some r=>have hs:(ru (q+1)).2[(0:Nat)]?=M s:=hs;rw[Ai hr]at hs;exact⟨(H.aC.aC.aC r (bE hr) s hs).1,.c (bE hr) ((lv q r hr).mp hq) hs⟩
theorem La(H:b9 bx)(h:bx.c[j]?=M c)(h0:0<j)(hy:y∈c.2):0<y.2:=by obtain⟨c',_,x,e,_⟩:=H.aD.aJ j c h0 h;obtain⟨z,_,_,rfl⟩:=nD (aj e hy);exact fY _
theorem Lb(H:HL)(h:s∈lets):s∉fX gS gS.length:=λw=>H.aC.aJ s w (uG h)
theorem iB(H:b9 bx)(h:bx.c[j]?=M c):bx.u (34,c.1)=M (.l (a7 c.2))/\c.2≠[]/\c.2.length<=91/\∀y∈c.2,Io y:=H.aD.aD c (bE h)
end
def P2(x:Rn):Prop:=b9 bx/\x.u (32,[])=U/\∀w,w (32,[])=M (.l (bC.map tV))->x.Q (.e (32,[])) (hb (mix [32] w x.u)) x.t
section
variable{x:Rn} (hh:P2 x)
def P2.aG:=hh.1
def P2.aD:=hh.2.1
def P2.aC:=hh.2.2
end
def Lc(x:Rn):Prop:=bI (x.n+1) (bJ 36) [.e (20,[]),.e (24,[])] x.Q (hb x.u) x.t
def r2:Rn:=sU P2 Lc
noncomputable def m2:Mp:=aH (λi=>([V.e (20,[]),.e (24,[])]++[])[i]?) 2 (.e (32,[]))
abbrev s2(v:Mp)(xs:Ss):AS:=⟨aU [3,4,5,6] v m2,hb (mix [32] (r2.u.aF (32,[]) (.l (xs.map tV))) r2.u),r2.t⟩
def TC(j k:Nat):Ss:=if j=0 then dd ((dO.take k).filterMap sym)else bC
inductive TJ(j k:Nat):QA
 |mk {v}:v 3=M (.i j)->TJ j k (s2 v (TC j k))
inductive TI(j:Nat):QA
 |mk {v}:TI j (s2 v (TC j 0))
theorem Uo(h:dO[k]?=M y):TC 0 (k+1)=(sym y).toList.foldl cX (TC 0 k):=by
 show dd _=List.foldl cX (dd _) _;rw[take_snoc h,D1,CM,dd,u7]
 rfl
theorem Dh(H:b9 bx):bC.length<=91:=by obtain⟨l,ps,e,_⟩:=iQ H;exact aL qr (aL (jF ..) (iB H e).2.2.1)
theorem ae3(H:P2 r2):Lc r2:=by
 have B:=H.aG;refine fP acZ Y (cj (fw (eB ⟨b7 _,dF (32,[]) Y H.aD ?_⟩)));show WB _ _ _ ⟨m2,(hb r2.u).aF (32,[]) (.l []),r2.t⟩;rw[bA Y,bA (R:=zR) Y,show r2.u.aF (32,[]) (.l [])=mix [32] (r2.u.aF (32,[]) (.l [])) r2.u from kQ Y,show m2=aU [3,4,5,6] m2 m2 from gH]
 refine S9 (l:=(24,[])) (bx.c.map λc=>.e (34,c.1)) TI (aE Y) (λj K J=>by cases J;exact B.aD.aI) (.mk (v:=m2)) (λj x K hx J=>?_) λK J=>?_
 .cases J with|@mk v=>?_
  obtain⟨c,hc,rfl⟩:=dA hx;have L:=iB B hc
  show WB _ _ _ ⟨aH (aH (aU [3,4,5,6] v m2) 3 (.i j)) 4 (.e (34,c.1)),_,r2.t⟩;rw[bH Y,bH Y];refine gw (l:=(34,c.1)) (a7 c.2) (TJ j) (aE Y) (λk K J=>by cases J;exact L.1) (.mk Y) (λk y K hy J=>?_) λK J=>?_
  .cases J with|@mk v v3=>?_
   obtain⟨y,hz,rfl⟩:=dA hy;have ym:=bE hz
   have i:=L.2.2.2 y ym;show WB _ _ _ ⟨aH (aU [3,4,5,6] v m2) 5 (.e (5,[y.1,y.2])),_,r2.t⟩;rw[bH Y];have done:∀v':Mp,v' 3=M (.i j)->(∀s,sym y=M s->s∉fX gS gS.length)->TJ j (k+1) (s2 v' (TC j k)):=λv' v3 no=>by
    have e:TC j (k+1)=TC j k:=by
     by_cases c0:j=0
     .subst c0;obtain⟨l,ps,e,_⟩:=iQ B;obtain rfl:=bu (e.symm.trans hc);rw[Uo hz];cases hs:sym y with
      |none=>rfl
      |some s=>exact ax ((pU B ym).2 s hs).1 (no s hs)
     .exact(av c0).trans (av c0).symm
    exact aj e (.mk v3)
   refine kU (K9 (u:=mix zR _ bx.u) B.aC i Y) (λhs=>?_) λhs=>aO (aO (done _ v3 λs e=>by rw[e]at hs;exact cw hs))
   obtain⟨s,hs⟩:=GV.mp hs;refine eF (mF (a6 (aE v3) (a6 (K' (u:=mix zR _ bx.u) B.aC i Y hs) br)) (by decide:2<=16777216)) ?_
   show WB _ _ _ ⟨aH (aU [3,4,5,6] _ m2) 6 _,_,r2.t⟩;rw[bH Y];refine rA (wi (dU (aE Y) bW (EY (j:=1) Y)) (ra (l:=(1,[])) (c:=4) (f:=f1) (ra (l:=(20,[])) (c:=6) (f:=aH F0 37 (.i B.aD.aC.aC.choose)) (aE Y) B.aD.aC.aC.choose_spec Y Y) B.aC.aD Y Y) B.aC.bb) (λsn=>?_) λsn=>aO (aO (aO (done _ v3 λs' e=>aj (bu (hs.symm.trans e)) sn)));have c0:j=0:=AR λc0=>Lb B.aC (sY B.aC i (La B hc (G7 c0) ym) hs).2.1 sn
   subst c0;obtain⟨l,ps,e,_⟩:=iQ B;obtain rfl:=bu (e.symm.trans hc);have eT:TC 0 (k+1)=cX (TC 0 k) s:=by rw[Uo hz,hs];rfl
   have tt:decide (tV s∈(TC 0 k).map tV)=decide (s∈TC 0 k):=decide_eq_decide.mpr ae2;have qz:(s2 v (TC 0 k)).h (32,[])=M (.l ((TC 0 k).map tV)):=(a4:(r2.u.aF (32,[]) (.l ((TC 0 k).map tV))) (32,[])=_)
   refine rB (aj tt (CH (l:=(32,[])) (aE Y) (aE Y) qz (λv h=>(bk.mp h).elim λB k=>aj k.2 Y) Y)) (λni=>?_) λni=>aO (aO (aO (aO (show TJ 0 (k+1) (s2 _ (TC 0 k)) from aj (eT.trans (qo ni)) (.mk v3)))))
   refine ny (l:=(32,[])) Y Y (aE Y) qz (aE Y) (by rw[bc];exact bF (aL qr (aL (jF ..) (aL (iG ..) L.2.2.1))) (ao Y)) (aO (aO (aO (aO ?_))))
   rw[bA (R:=zR) Y,bA (R:=[32]) Y,mI,show(TC 0 k).map tV++[V.bP [V.i ((0:Nat):Int),V.s s]]=(cX (TC 0 k) s).map tV from aj (qn ni).symm (dc (l₂:=[s])).symm,<-eT]
   exact .mk v3
  .rw[a7,bc]at J;cases J with|@mk v v3=>?_
   refine aO ?_;have e:TC j c.2.length=TC (j+1) 0:=by
    by_cases c0:j=0
    .subst c0;obtain⟨l,ps,e,_⟩:=iQ B;obtain rfl:=bu (e.symm.trans hc);show dd (List.filterMap _ (akx _ _))=bC;rw[e7];rfl
    .exact av c0
   rw[e];exact .mk
 .obtain⟨l,ps,e,_⟩:=iQ B;have ne:(bx.c.map λc=>V.e (34,c.1)).length≠0:=λq=>by rw[bc]at q;rw[List.length_eq_zero_iff.mp q]at e;exact cK e
  cases J with|@mk v=>?_
  rw[show TC _ 0=bC from av ne]
  exact jO (aE Y) (H.aC _ a4)
theorem ae4{x:Rn}(p:P2 x):Lc x:=wy ae3 p
variable{j':Nat} {c':gJ} {Q:RQ} {k:V}
section
variable{v:V}
theorem uL:∀{es:Es},(es.map (·.1)).Nodup->(k,v)∈es->bM es k=M v:=by
 intro es
 induction es with
 |nil=>exactλa h=>bw h
 |cons e es ih=>
  intro nd h;have nd:=fQ.mp nd
  rw[xw];rcases b0.mp h with h|h
  .rw[<-h];exact aw Y
  .rw[av λq:e.1=k=>nd.1 (show e.1∈_ from ak q (dw (f:=(·.1)) h))]
   exact ih nd.2 h
theorem ae5(B:b9 bx):((ou bx.c).map (·.1)).Nodup:=by rw[KW];refine V5.mpr λa b la lb lt e=>?_;rw[Nh,Nh]at e;exact gZ lt (B.aD.Dc (mO _) (mO _) (Gk e))
theorem Ld(B:b9 bx)(h:bx.c[j]?=M c):bM (ou bx.c) (kZ c.2)=M (.i j):=
 uL (ae5 B) (bk.mpr ⟨(c,j),MX.mpr h,Y⟩)
theorem Ak(B:b9 bx)(h:bx.c[j]?=M c)(hy:y∈c.2)(hx:x∈(ru y.1).2):bM bx.es (gk c.2 x)≠U/\(K1 c.2 x≠[]->∃c'∈bx.c,c'.2=K1 c.2 x):=B.aD.bj c.2 x (.inl ⟨dw (bE h),y,hy,hx⟩)
theorem Al(h:sym y=M x):x∈(ru y.1).2:=bE h
theorem Le{l:Loc}{o:af}(e:R.contains l.1=Z):mix R w (u.aF l o)=(mix R w u).aF l o:=funext λk=>by
 unfold mix Hp.aF;by_cases c:k=l
 .rw[aw c,aw c,c,e];rfl
 .rw[av c,av c]
theorem Up(H:HL)(C:GC es bl N u)(hk:bM es (gk I x)≠U)(io:∀y∈I,Io y)(z:I.length<=1000)(hy:y∈I)(hs:sym y=M x)(hl:u (34,l)=M (.l (a7 I)))(q:∀l w',u (34,l)=M (.l (a7 (K1 I x)))->Q (.e (34,l)) (hp (mix [99] w' u)) (t+1)):bI (n+3) (bJ 33) [.e (20,[]),.e (34,l),.s x] Q (hp u) t:=by
 obtain⟨v,hv⟩:=aiz.mp hk;obtain⟨l',rfl,Uq⟩:=(C.aJ _ _ v hv).resolve_right λq=>p8 (sZ hy hs) q.2;refine fP S0 Y (cj (iu (re (ra (l:=(20,[])) (c:=6) (f:=aH F0 37 (.i C.aC.choose)) (aE Y) C.aC.choose_spec Y Y) ⟨_,lT (l:=(21,[])) C.aG,eC (KT (n:=n+1) (u:=u) H io z (p8 hy) hl Y Y λw'=>eB (vM (l:=(21,[])) C.aG KS ?_))⟩)));rw[hv];have ne:(!(a7 (K1 I x)).isEmpty)=O:=by
  cases e:K1 I x with
  |nil=>exact ax e (p8 (sZ hy hs))
  |cons _ _=>rfl
 exact iN (ne▸fc (aE Y) (rh (l:=(34,l')) Uq)) (jO (aE Y) (q l' w' Uq))
theorem Ur(B:b9 bx)(h:bx.c[j]?=M c)(hy:y∈c.2)(hs:sym y=M x)(q:∀l w',bx.u (34,l)=M (.l (a7 (K1 c.2 x)))->Q (.e (34,l)) (hb (mix [99] w' w)) (t+1)):bI (n+3) (bJ 33) [.e (20,[]),.e (34,c.1),.s x] Q (hb w) t:=by
 have L:=iB B h;refine Up (es:=bx.es) (bl:=bx.bl) (N:=bx.N) B.aC ⟨B.aD.aC.aC,B.aD.aC.aG,B.aD.aC.aI,B.aD.aC.aT,B.aD.aC.aJ,B.aD.aC.aD⟩ (Ak B h hy (Al hs)).1 L.2.2.2 (aL L.2.2.1 (ao Y)) hy hs L.1 λl w' hl=>?_;rw[show hp (mix [99] w' (mix zR w bx.u))=hb (mix [99] w' w) from aq hp (gG Y)]
 exact q l w' hl
end
def kA(A:aP):List It:=K1 dO A
def ie(A:aP)(k:Nat):Ss:=dd (((kA A).take k).filterMap sym)
def DR(A:aP):Ss:=ie A (kA A).length++(if A=bD then [cG]else [])
variable{k:Nat} {Q:QF}
section
variable{v:Mp}
theorem Go(h:A∈bC):∃y∈dO,sym y=M A:=pA.mp (qy.mp h)
theorem pW(B:b9 bx):∀y∈dO,Io y:=(iQ B).elim λl e=>e.elim λps e=>(iB B e.1).2.2.2
theorem Lf(B:b9 bx)(hy:y∈kA A)(hs:sym y=M s):s∈lets:=(nD hy).elim λz k=>(sY B.aC (uH (pW B) y hy) (ak k.2.2 (fY _)) hs).2.1
theorem Us(B:b9 bx)(hA:A∈bC)(m0:m 0=M (.e (20,[])))(m1:m 1=M (.e (24,[])))(ma:m a=M (.i 0))(mb:m b=M (.s A))(q:∀l w',bx.u (34,l)=M (.l (a7 (kA A)))->P (.e (34,l)) ⟨m,hb (mix [99] w' w),t+1⟩):WE (n+3) (.gW (.v 0) 48 (.c (.u (.v 1) (.v a)) (.c (.v b) .n))) P ⟨m,hb w,t⟩:=by obtain⟨l,ps,e0,_⟩:=iQ B;obtain⟨y,hy,hs⟩:=Go hA;exact i4 (re (aE m0) ⟨_,kB (c:=6) (a:=48) (f:=33) (g:=aH F0 37 (.i B.aD.aC.aC.choose)) B.aD.aC.aC.choose_spec Y Y,rl (a6 (xZ (l:=(24,[])) (j:=0) (aE m1) B.aD.aI (aE ma) (iO e0)) (a6 (aE mb) br)) (bI.o (Ur (c:=(l,dO)) B e0 hy hs q))⟩)
end
structure rH extends Rn where
 A:aP
def P3(x:rH):Prop:=b9 bx/\x.A∈bC/\x.u (39,cd x.A)=U/\∀w,x.Q (.e (39,cd x.A)) (hb ((mix [99] w x.u).aF (39,cd x.A) (.l ((DR x.A).map .s)))) (x.t+1)
section
variable{x:rH} (hh:P3 x)
def P3.aI:=hh.1
def P3.aD:=hh.2.1
def P3.aG:=hh.2.2.1
def P3.aC:=hh.2.2.2
end
def Lg(x:rH):Prop:=bI (x.n+4) (bJ 37) [.e (20,[]),.e (24,[]),tV x.A,.e (53,[])] x.Q (hb x.u) x.t
def r3:rH:=j9 ⟨yd,fU⟩ P3 Lg
def m3:Mp:=aH (aH (aH (λi=>([V.e (20,[]),.e (24,[]),tV r3.A,.e (53,[])]++[])[i]?) 4 (.i 0)) 5 (.s r3.A)) 6 (.e (39,cd r3.A))
abbrev s3(v:Mp)(w:Hp)(xs:Ss):AS:=⟨aU [7,8,9] v m3,hb ((mix [99] w r3.u).aF (39,cd r3.A) (.l (xs.map .s))),r3.t+1⟩
inductive DJ(w:Hp)(k:Nat):QA
 |mk {v}:DJ w k (s3 v w (ie r3.A k))
theorem Ut{x:It}{l:List It}(h:l[k]?=M x):dd ((l.take (k+1)).filterMap sym)=(sym x).toList.foldl cX (dd ((l.take k).filterMap sym)):=by
 rw[take_snoc h,D1,CM,dd,u7]
 rfl
theorem ae6(H:P3 r3):Lg r3:=by
 have B:=H.aI;have io:∀y∈kA r3.A,Io y:=uH (pW B)
 have zK:(kA r3.A).length<=91:=(iQ B).elim λl e=>e.elim λps e=>aL (jF ..) (iB B e.1).2.2.1;refine fP ac0 Y (fW (Fg (re (aE Y) ⟨[.i 0,.s r3.A],Y,Y,cj (fw (eB ⟨b7 _,dF (39,cd r3.A) Y H.aG ?_⟩))⟩)));show WB _ _ _ ⟨m3,(hb r3.u).aF (39,cd r3.A) (.l []),r3.t⟩;rw[bA Y,bA (R:=zR) Y];refine cj (Us (n:=r3.n) B H.aD Y Y Y Y λl w hl=>?_);rw[show mix [99] w (r3.u.aF (39,cd r3.A) (.l []))=(mix [99] w r3.u).aF (39,cd r3.A) (.l (([]:Ss).map .s)) from Le Y,show m3=aU [7,8,9] m3 m3 from gH]
 show WB _ _ _ ⟨aH (aU [7,8,9] m3 m3) 7 _,_,_⟩;rw[bH Y];refine gw (l:=(34,l)) (a7 (kA r3.A)) (DJ w) (aE Y) (λk K J=>by cases J;exact hl) .mk (λk y K hy J=>?_) λK J=>?_
 .cases J with|@mk v=>?_
  obtain⟨y,hz,rfl⟩:=dA hy;have ym:=bE hz
  have i:=io y ym;show WB _ _ _ ⟨aH (aU [7,8,9] v m3) 8 (.e (5,[y.1,y.2])),_,_⟩;rw[bH Y];refine kU (K9 (u:=mix zR _ bx.u) B.aC i Y) (λhs=>?_) λhs=>aO (aO ?_)
  .obtain⟨s,hs⟩:=GV.mp hs;have eT:ie r3.A (k+1)=cX (ie r3.A k) s:=by unfold ie;rw[Ut hz,hs];rfl
   refine eF (K' (u:=mix zR _ bx.u) B.aC i Y hs) ?_;show WB _ _ _ ⟨aH (aU [7,8,9] _ m3) 9 _,_,_⟩;rw[bH Y];have nG:(s3 v w (ie r3.A k)).h (39,cd r3.A)=M (.l ((ie r3.A k).map .s)):=(a4:((mix [99] w r3.u).aF (39,cd r3.A) (.l ((ie r3.A k).map .s))) (39,cd r3.A)=_)
   refine iN (aj (az (uG (Lf B ym hs))) (wi (aE Y) (ra (l:=(1,[])) (c:=4) (f:=f1) (ra (l:=(20,[])) (c:=6) (f:=aH F0 37 (.i B.aD.aC.aC.choose)) (aE Y) B.aD.aC.aC.choose_spec Y Y) B.aC.aD Y Y) B.aC.aJ)) (rB (Ag (l:=(39,cd r3.A)) (aE Y) (aE Y) nG) (λni=>?_) λni=>aO (aO (aO (aO (show DJ w (k+1) (s3 _ w (ie r3.A k)) from aj (eT.trans (qo ni)) .mk)))))
   refine ny (l:=(39,cd r3.A)) Y Y (aE Y) nG (aE Y) (by rw[bc];exact bF (aL qr (aL (jF ..) (aL (iG ..) zK))) (ao Y)) (aO (aO (aO (aO ?_))))
   rw[bA (R:=zR) Y,mI,show(ie r3.A k).map V.s++[.s s]=(cX (ie r3.A k) s).map .s from aj (qn ni).symm (dc (l₂:=[s])).symm,<-eT]
   exact .mk
  .have eT:ie r3.A (k+1)=ie r3.A k:=by
    unfold ie;rw[Ut hz];cases h:sym y with
    |none=>rfl
    |some s=>rw[h]at hs;exact cw hs
   exact(show DJ w (k+1) (s3 _ w (ie r3.A k)) from aj eT .mk)
 .rw[a7,bc]at J;cases J with|@mk v=>?_
  have P0:=px B.aC (p:=0) (fY _);obtain⟨g,hg,eg⟩:=B.aD.bb 0 (fY _);have e1:g 1=M (V.bP [.s bD]):=(eg 1 (.inr (.inl Y))).trans P0.aC.2.1
  have rs:RE (s3 v w (ie r3.A (kA r3.A).length)) (.u (.a (.u (.a (.a (.v 0) 30) 15) (.cI 0)) 1) (.cI 0)) (.s bD):=x4 (j:=0) (ra (l:=(2,[0])) (xZ (j:=0) (ra (c:=4) (f:=f1) (ra (l:=(20,[])) (c:=6) (f:=aH F0 37 (.i B.aD.aC.aC.choose)) (aE Y) B.aD.aC.aC.choose_spec Y Y) B.aC.aD Y Y) B.aC.aI bW (Gn (fY _))) hg Y e1) bW Y;have t1:RT (s3 v w (ie r3.A (kA r3.A).length)) (.m .Eq (.v 4) (.cI 0)) O:=aj (az (Y:V.i 0=.i 0)) (fu (o:=.Eq) (aE Y) bW (pD Y Y))
  refine kU (KI t1 (wj (aE Y) rs)) (λc=>?_) λc=>aO (jO (aE Y) ?_)
  .have c:r3.A=bD:=aB c;have nG:(s3 v w (ie r3.A (kA r3.A).length)).h (39,cd r3.A)=M (.l ((ie r3.A (kA r3.A).length).map .s)):=(a4:((mix [99] w r3.u).aF (39,cd r3.A) (.l ((ie r3.A (kA r3.A).length).map .s))) (39,cd r3.A)=_)
   refine ny (l:=(39,cd r3.A)) (y:=.s cG) Y Y (aE Y) nG du (by rw[bc];exact bF (aL qr (aL (jF ..) (aL (iG ..) zK))) (ao Y)) (aO (jO (aE Y) ?_))
   rw[bA (R:=zR) Y,mI,show(ie r3.A (kA r3.A).length).map V.s++[.s cG]=(DR r3.A).map .s from by rw[DR,aw c,dc];rfl]
   exact H.aC w
  .have c:r3.A≠bD:=of_decide_eq_false c;have e:ie r3.A (kA r3.A).length=DR r3.A:=by rw[DR,av c,hY]
   rw[e];exact H.aC w
theorem ae7{x:rH}(p:P3 x):Lg x:=mJ ae6 p
def P4(x:rH):Prop:=b9 bx/\x.A∈bC/\x.u (33,0::cd x.A)=U/\(∃vs,x.u (53,[])=M (.s vs)/\ti vs)/\∀w,x.Q (.e (33,0::cd x.A)) (hb ((mix [99] w x.u).aF (33,0::cd x.A) (.l []))) (x.t+1+1)
section
variable{x:rH} (hh:P4 x)
def P4.aJ:=hh.1
def P4.aC:=hh.2.1
def P4.aI:=hh.2.2.1
def P4.aG:=hh.2.2.2.1
def P4.aD:=hh.2.2.2.2
end
def Lh(x:rH):Prop:=bI (x.n+4) (bJ 38) [.e (20,[]),.e (24,[]),tV x.A,.e (53,[])] x.Q (hb x.u) x.t
def r4:rH:=j9 ⟨yd,fU⟩ P4 Lh
def m4:Mp:=aH (aH (aH (λi=>([V.e (20,[]),.e (24,[]),tV r4.A,.e (53,[])]++[])[i]?) 4 (.e (33,0::cd r4.A))) 5 (.i 0)) 6 (.s r4.A)
abbrev s4(v:Mp)(w:Hp)(t:Nat):AS:=⟨aU [7,8,9,10] v m4,hb ((mix [99] w r4.u).aF (33,0::cd r4.A) (.l [])),t⟩
inductive RJ(w:Hp)(_:Nat):QA
 |mk {v}:RJ w _ (s4 v w (r4.t+1+1))
theorem ae8(H:P4 r4):Lh r4:=by
 have B:=H.aJ;have io:∀y∈kA r4.A,Io y:=uH (pW B)
 obtain⟨vs,h31,nu⟩:=H.aG;refine fP ac1 Y (cj (fw (eB ⟨b7 _,dF (33,0::cd r4.A) Y H.aI (fW (Fg (re (aE Y) ⟨[.i 0,.s r4.A],Y,Y,?_⟩)))⟩)));show WB _ _ _ ⟨m4,(hb r4.u).aF (33,0::cd r4.A) (.l []),r4.t⟩;rw[bA Y,bA (R:=zR) Y];refine cj (Us (n:=r4.n) B H.aC Y Y Y Y λl w hl=>?_);rw[Le Y,show m4=aU [7,8,9,10] m4 m4 from gH]
 show WB _ _ _ ⟨aH (aU [7,8,9,10] m4 m4) 7 _,_,_⟩;rw[bH Y];obtain⟨y,hy,hs⟩:=Go H.aC;have zK:(kA r4.A).length<=1000:=(iQ B).elim λl e=>e.elim λps e=>aL (jF ..) (aL (iB B e.1).2.2.1 (ao Y))
 refine cj (iu (re (ra (l:=(20,[])) (c:=6) (f:=aH F0 37 (.i B.aD.aC.aC.choose)) (aE Y) B.aD.aC.aC.choose_spec Y Y) ⟨_,lT (l:=(22,[])) B.aD.aG,eC (kM (rl (a6 (aE Y) br) (bI.o (wD (n:=r4.n+2) (u:=mix zR ((mix [99] w r4.u).aF (33,0::cd r4.A) (.l [])) bx.u) B.aC io zK (p8 (sZ hy hs)) hl λw2=>rl (a6 (q9 bW) br) (sr (l:=(22,[])) B.aD.aG (yg (d:=5)).1 ?_)))))⟩));rw[show hp (mix [99] w2 (mix zR ((mix [99] w r4.u).aF (33,0::cd r4.A) (.l [])) bx.u))=hb ((mix [99] (mix [99] w2 w) r4.u).aF (33,0::cd r4.A) (.l [])) from aq hp ((gG Y).trans (aq (λx=>mix zR x bx.u) ((Le Y).trans (aq (λx:Hp=>x.aF (33,0::cd r4.A) (.l [])) (gG Y)))))]
 show WB _ _ _ ⟨aH (aU [7,8,9,10] _ m4) 8 _,_,_⟩;rw[bH Y];refine gw (l:=(34,l)) (a7 (kA r4.A)) (RJ (mix [99] w2 w)) (aE Y) (λk K J=>by cases J;exact hl) .mk (λk y K hy J=>?_) λK J=>?_
 .cases J with|@mk v=>?_
  obtain⟨y,hz,rfl⟩:=dA hy;have ym:=bE hz
  have i:=io y ym;show WB _ _ _ ⟨aH (aU [7,8,9,10] v m4) 9 (.e (5,[y.1,y.2])),_,_⟩;rw[bH Y];refine kU (K9 (u:=mix zR _ bx.u) B.aC i Y) (λhs=>?_) λhs=>aO (aO .mk);obtain⟨s,hs⟩:=GV.mp hs;refine eF (K' (u:=mix zR _ bx.u) B.aC i Y hs) ?_;show WB _ _ _ ⟨aH (aU [7,8,9,10] _ m4) 10 _,_,_⟩;rw[bH Y];have ni:V.s s∉vs:=λh=>(nu.2 _ h).elim λs' k=>B.aC.aC.bj s' k.1 (aj (str_inj k.2) (uG (Lf B ym hs)))
  exact i8 (aj (aA ni) (aj (yP (decide (V.s s∈vs))) (fu (o:=.In) (aE Y) (aE Y) (QR (m:=Z) (l:=(53,[])) h31)))) (aO (aO (aO .mk)))
 .cases J with|@mk v=>exact jO (aE Y) (H.aD _)
theorem ae'{x:rH}(p:P4 x):Lh x:=mJ ae8 p
def ND(f:aP->V):Es:=bC.map λB=>(tV B,f B)
noncomputable def FD(ds:Ss):Es:=ds.map λB=>(tV B,.e (39,cd B))
noncomputable def mS(f:aP->V)(A:aP)(v:V):aP->V:=λB=>if B=A then v else f B
noncomputable def uM:V:=.i 9223372036854775807
variable{f g F G:aP->V} {k:V}
section
variable{v:V} {ds:Ss}
theorem afa:∀{es:Es},bM es k=M v->cC es k v=es:=by
 intro es
 induction es with
 |nil=>exactλh=>cK h
 |cons e es ih=>
  intro h;rw[xw]at h;rw[qX];by_cases c:e.1=k
  .rw[aw c]at h⊢;exact aq (·::es) (je Y (bu h).symm)
  .rw[av c]at h⊢;rw[ih h]
theorem Li:∀{ks:Ss},A∈ks->ks.Nodup->cC (ks.map λB=>(tV B,f B)) (tV A) v=ks.map λB=>(tV B,mS f A v B):=by
 intro ks
 induction ks with
 |nil=>exactλh a=>bw h
 |cons B ks ih=>
  intro h nd;have nd:=fQ.mp nd
  rw[nN,qX,nN];by_cases c:B=A
  .rw[aw (aq tV c),c];exact congr (aq _ (aq _ (aw Y).symm)) (G2 λx hx=>aq _ (av λw:x=A=>nd.1 (ak (c.trans w.symm) hx)).symm)
  .rw[av λw=>c (tB w),ih ((b0.mp h).resolve_left λw=>c w.symm) nd.2];exact aq (·::_) (aq _ (av c).symm)
theorem rI:∀{ks:Ss},A∈ks->bM (ks.map λB=>(tV B,f B)) (tV A)=M (f A):=by
 intro ks
 induction ks with
 |nil=>exactλh=>bw h
 |cons B ks ih=>
  intro h;rw[nN,xw];by_cases c:B=A
  .rw[aw (aq tV c),c]
  .rw[av λw=>c (tB w)];exact ih ((b0.mp h).resolve_left λw=>c w.symm)
theorem yk:bC.Nodup:=yj gh
theorem Uu:mS (mS f A v) A k=mS f A k:=funext λB=>by
 unfold mS;by_cases c:B=A
 .rw[aw c,aw c]
 .rw[av c,av c,av c]
theorem afb(n:A∉ds):cC (FD ds) (tV A) (.e (39,cd A))=FD (ds++[A]):=(kW (by rw[FD,fA];exactλh=>(bk.mp h).elim λB k=>n (aj (tB k.2) k.1))).trans (dc (f:=λB=>(tV B,V.e (39,cd B))) (l₂:=[A])).symm
end
variable{u0 h0:Hp} {b:Sx} {x y:V} {l:Loc}
section
variable{R1 R2:Nl} {v:Mp} {o:Sx} {ds:Es}
theorem dP(c:ab.contains i=O)(k:WB n r Q ⟨aU ab (aH v i x) m,h,t⟩):WB n r Q (AS.eR ⟨aU ab v m,h,t⟩ i x):=(show WB n r Q ⟨aH (aU ab v m) i x,h,t⟩ from aj (bH (u:=v) (m:=m) (x:=x) c).symm k)
theorem An(c:ab.contains i=O)(c':ab.contains j=O)(k:WB n r Q ⟨aU ab (aH (aH v i x) j y) m,h,t⟩):WB n r Q (AS.eR (AS.eR ⟨aU ab v m,h,t⟩ i x) j y):=(show WB n r Q ⟨aH (aH (aU ab v m) i x) j y,h,t⟩ from aj ((aq (aH · j y) (bH (u:=v) (m:=m) (x:=x) c)).trans (bH c')).symm k)
theorem rJ(he:RE ⟨aU ab v m,h,t⟩ e x)(c:ab.contains i=O)(k:WB n r Q ⟨aU ab (aH v i x) m,h,t⟩):WB n (.c (.s (.v i) e) r) Q ⟨aU ab v m,h,t⟩:=eF he (dP c k)
theorem iC(c1:R1.contains l.1=O)(c2:R2.contains l.1=O):(mix R1 (mix R2 w u0) h0).aF l ob=mix R1 (mix R2 (w.aF l ob) u0) h0:=(bA c1).trans (aq (λx=>mix R1 x h0) (bA c2))
theorem Ao(c1:R1.contains l.1=O)(c2:R2.contains l.1=O)(l0:rg l=O)(ho:RE ⟨m,mix R1 (mix R2 w u0) h0,t⟩ o (.e l))(hl:(mix R1 (mix R2 w u0) h0) l=M (.l vs))(he:RE ⟨m,mix R1 (mix R2 w u0) h0,t⟩ e y)(z:vs.length<16777216)(q:WB n r Q ⟨m,mix R1 (mix R2 (w.aF l (.l (vs++[y]))) u0) h0,t⟩):WB n (.c (.e (.bV .a o (.c e .n))) r) Q ⟨m,mix R1 (mix R2 w u0) h0,t⟩:=
 Kk ho he l0 hl z (show WB n r Q ⟨m,(mix R1 (mix R2 w u0) h0).aF l _,t⟩ from aj (iC c1 c2).symm q)
theorem l4(c1:R1.contains l.1=O)(c2:R2.contains l.1=O)(ho:RE ⟨m,mix R1 (mix R2 w u0) h0,t⟩ o (.e l))(hl:(mix R1 (mix R2 w u0) h0) l=M (.d ds))(hi:RE ⟨m,mix R1 (mix R2 w u0) h0,t⟩ b y)(he:RE ⟨m,mix R1 (mix R2 w u0) h0,t⟩ e z)(kx:y.cn 7=O)(hz:ds.length<16777216)(q:WB n r Q ⟨m,mix R1 (mix R2 (w.aF l (.d (cC ds y z))) u0) h0,t⟩):WB n (.c (.cR o b e) r) Q ⟨m,mix R1 (mix R2 w u0) h0,t⟩:=
 xY he ho hi hl kx hz (show WB n r Q ⟨m,(mix R1 (mix R2 w u0) h0).aF l _,t⟩ from aj (iC c1 c2).symm q)
end
def Fx(A:aP)(k:Nat)(w w':Hp):Prop:=∀l:Loc,l.1≠99->(l.1=37->l.2.headD 0≠k)->l≠(38,[k])->l≠(39,cd A)->l≠(33,k::cd A)->w' l=w l
structure TX extends rH where
 k:Nat
 d:Ss
 f:aP->V
 D:Ss
 ys:Ss
 L:aP->Ss
 b:aY
 a:aY
 yf:aP->Ss
def P5(x:TX):Prop:=b9 bx/\x.A∈bC/\x.A∉x.d/\x.d.length<=200/\x.u (37,[x.k])=M (.d (ND x.f))/\x.u (38,[x.k])=M (.d (FD x.d))/\x.u (37,[x.k,0])=M (.l [])/\(∀w t Q,(∀l:Loc,(l.1=37->l.2.headD 0≠x.k)->w l=x.u l)->(∀w' t',(∀l:Loc,l.1≠99->l≠(39,cd x.A)->w' l=w l)->w' (39,cd x.A)=M (.l (x.D.map .s))->Q (.e (39,cd x.A)) (hb w') t')->bI x.n x.b [tV x.A] Q (hb w) t)/\(∀w t Q,Fx x.A x.k x.u w->(w (33,x.k::cd x.A)=x.u (33,x.k::cd x.A))->(∀r y w' t',(∀l:Loc,l.1≠99->l≠(33,x.k::cd x.A)->w' l=w l)->[31,33].contains r=O->w' (r,y)=M (.l (x.ys.map tV))->Q (.e (r,y)) (hb w') t')->bI x.n x.a [tV x.A] Q (hb w) t)/\(∀B∈x.ys,B≠x.A/\B∈bC/\x.f B=uM/\B∈x.d/\x.u (39,cd B)=M (.l ((x.L B).map .s)))/\x.D.length+(x.ys.flatMap x.L).length<=1000/\∀w t,w (37,[x.k])=M (.d (ND (mS x.f x.A uM)))->w (38,[x.k])=M (.d (FD (x.d++[x.A])))->w (37,[x.k,0])=M (.l [])->w (39,cd x.A)=M (.l (((x.ys.flatMap x.L).foldl cX x.D).map .s))->Fx x.A x.k x.u w->x.Q .n (hb w) t
section
variable{x:TX} (hh:P5 x)
def P5.aD:=hh.1
def P5.aC:=hh.2.1
def P5.bb:=hh.2.2.1
def P5.aG:=hh.2.2.2.1
def P5.eO:=hh.2.2.2.2.1
def P5.dC:=hh.2.2.2.2.2.1
def P5.cF:=hh.2.2.2.2.2.2.1
def P5.b6:=hh.2.2.2.2.2.2.2.1
def P5.bj:=hh.2.2.2.2.2.2.2.2.1
def P5.aJ:=hh.2.2.2.2.2.2.2.2.2.1
def P5.aI:=hh.2.2.2.2.2.2.2.2.2.2.1
def P5.aT:=hh.2.2.2.2.2.2.2.2.2.2.2
end
def Uv(x:TX):Prop:=bI (x.n+1) (bJ 5) [tV x.A,.e (37,[x.k]),.e (37,[x.k,0]),.e (38,[x.k]),.e (32,[]),.iX x.a,.iX x.b] x.Q (hb x.u) x.t
def r5:TX:=j9 ⟨⟨yd,fU⟩,0,[],λa=>.n,[],[],λa=>[],0,0,λa=>[]⟩ P5 Uv
def m5:Mp:=λi=>([tV r5.A,.e (37,[r5.k]),.e (37,[r5.k,0]),.e (38,[r5.k]),.e (32,[]),.iX r5.a,.iX r5.b]++[])[i]?
abbrev s5(v:Mp)(w:Hp)(t:Nat):AS:=⟨aU [7,8,9,10,11] v m5,hb w,t⟩
abbrev t5(k:Nat):Sx:=Sx.dD k J5
def acc(j:Nat):Ss:=((r5.ys.take j).flatMap r5.L).foldl cX r5.D
def TS(xs:Ss)(w:Hp):Prop:=w (37,[r5.k])=M (.d (ND (mS r5.f r5.A (.i 1))))/\w (38,[r5.k])=M (.d (FD (r5.d++[r5.A])))/\w (37,[r5.k,0])=M (.l [tV r5.A])/\w (39,cd r5.A)=M (.l (xs.map .s))/\Fx r5.A r5.k r5.u w
variable(hh:TS xs w)
def TS.aD:=hh.1
def TS.aC:=hh.2.1
def TS.aI:=hh.2.2.1
def TS.aJ:=hh.2.2.2.1
def TS.aG:=hh.2.2.2.2
variable{a:aP}
section
variable{v:Mp}
theorem yl{a:Nat}{y:Nl}{p:Prop}(h:cQ a 37=Z):((a,y):Loc).1=37->p:=λe=>by
 rw[show a=37 from e]at h
 exact cw h
theorem yn{k:Nat}:((37,[k,0]):Loc)≠(37,[k]):=λq=>dS (aq (λl:Loc=>l.2.length) q:2=1) Y
theorem jT:(tV a).cn 7=O:=Y
theorem Lj(B:b9 bx):(ND f).length<16777216:=by rw[ND,bc];exact bF (Dh B) (ao Y)
theorem Ap{o:af}(f:Fx r5.A r5.k r5.u w)(c:(l.1=37/\l.2.headD 0=r5.k)\/l=(38,[r5.k])\/l=(39,cd r5.A)\/l.1=99):Fx r5.A r5.k r5.u (w.aF l o):=λl' h9 h7 h8 Aq h3=>(aQ λq=>by subst q;exact c.elim (λc=>h7 c.1 c.2) λc=>c.elim h8 λc=>c.elim Aq h9).trans (f l' h9 h7 h8 Aq h3)
theorem afc:acc r5.ys.length=(r5.ys.flatMap r5.L).foldl cX r5.D:=by rw[acc,e7]
theorem afd(H:P5 r5)(S:TS (acc r5.ys.length) w)(v7:v 7=M (.i 1))(dz:(FD (r5.d++[r5.A])).length<16777216):WB r5.n (t5 6) (Rt r5.Q) (s5 v w t):=by
 have kF:bM (FD (r5.d++[r5.A])) (tV r5.A)=M (.e (39,cd r5.A)):=rI (cZ _ (.head _));have rt:∀{w:Hp},w (37,[r5.k,0])=M (.l [tV r5.A])->RE (s5 v w t) (.u (.v 2) (.q (.cI 1))) (tV r5.A):=λe=>dU (aE Y) (q9 bW) (YD (i:=0) (l:=(37,[r5.k,0])) e xb Y)
 have e1:RE (s5 v w t) (.u (.v 1) (.v 0)) (.i 1):=dU (aE Y) (aE Y) (fG (l:=(37,[r5.k])) S.aD jT ((rI H.aC).trans (aq M (aw Y))));refine iN (aj (az (Y:V.i 1=.i 1)) (fu (o:=.Eq) e1 (aE v7) (pD Y Y))) (l4 (l:=(37,[r5.k])) Y Y (aE Y) S.aD (rt S.aI) Yv jT (Lj H.aD) ?_);rw[show cC (ND (mS r5.f r5.A (.i 1))) (tV r5.A) (.i 9223372036854775807)=ND (mS r5.f r5.A uM) from(Li H.aC yk).trans (by rw[Uu];rfl)]
 have es:(w.aF (37,[r5.k]) (.d (ND (mS r5.f r5.A uM)))) (37,[r5.k,0])=M (.l [tV r5.A]):=(aQ yn).trans S.aI;refine l4 (l:=(38,[r5.k])) Y Y (aE Y) S.aC (rt es) (dU (aE Y) (aE Y) (fG (l:=(38,[r5.k])) S.aC jT kF)) jT dz ?_;rw[afa kF];refine cj (iu (re (aE Y) ⟨_,Px (l:=(37,[r5.k,0])) es,rl br (YO (l:=(37,[r5.k,0])) (show(37:Nat)≠0 by decide) es Y (by decide:1<=16777216) (dP Y ?_))⟩))
 rw[iC Y Y];generalize h3:((w.aF (37,[r5.k]) _).aF (38,[r5.k]) _).aF (37,[r5.k,0]) _=w3;have fin:r5.Q .n (hb w3) t:=H.aT w3 t (aj h3 ((aQ yn.symm).trans a4)) (aj h3 a4) (aj h3 a4) (aj h3 (aj afc S.aJ)) (aj h3 (Ap (l:=(37,[r5.k,0])) (Ap (l:=(38,[r5.k])) (Ap (l:=(37,[r5.k])) S.aG (.inl ⟨Y,Y⟩)) (.inr (.inl Y))) (.inl ⟨Y,Y⟩)))
 refine sH (m₀:=0) (λa K=>K=s5 (aH v 11 (tV r5.A)) w3 t) Y λk K J=>⟨Z,?_,λe=>cw e,λa=>?_⟩
 .subst J;have e:(!decide (tV r5.A=tV r5.A))=Z:=by rw[az Y];rfl
  exact aj e (fu (o:=.NotEq) (aE Y) (aE Y) (um jT jT))
 .subst J;exact aO (aO fin)
def TR(lr:Loc)(xs:Ss)(v:Mp)(w:Hp):Prop:=TS xs w/\v 7=M (.i 1)/\(hb w) lr=M (.l (r5.ys.map tV))
section
variable{lr:Loc} {v:Mp} (hh:TR lr xs v w)
def TR.aC:=hh.1
def TR.aD:=hh.2.1
def TR.aG:=hh.2.2
end
inductive TK(lr:Loc)(xs ys:Ss)(t:Nat)(k:Nat):QA
 |mk {v:Mp} {w:Hp}:TR lr ((ys.take k).foldl cX xs) v w->TK lr xs ys t k (s5 v w t)
inductive TO(lr:Loc)(j:Nat):QA
 |mk {v:Mp} {w:Hp} {t:Nat}:TR lr (acc j) v w->TO lr j (s5 v w t)
theorem afe(H:P5 r5):(xs.foldl cX r5.D).length<=r5.D.length+xs.length:=by
 have:∀(l k:Ss),(l.foldl cX k).length<=k.length+l.length:=λl=>by
  induction l with
  |nil=>exactλk=>dj _
  |cons a l ih=>exactλk=>aL (ih _) (by rw[oE,nU l.length,<-nO];exact pz x6 _)
 exact this xs _
theorem aff(H:P5 r5)(hj:r5.ys[j]?=M B){k:Nat}:(((r5.L B).take k).foldl cX (acc j)).length<=1000:=by
 rw[acc,<-u7];refine aL (afe H) (aL (eQ ?_ _) H.aI);have e:=aq (λl=>(l.flatMap r5.L).length) (M6 (j+1) r5.ys)
 rw[<-show((r5.ys.take (j+1)++r5.ys.drop (j+1)).flatMap r5.L).length=(r5.ys.flatMap r5.L).length from e,D3,dW,take_snoc hj,D3,dW,dW]
 refine aL (eQ ?_ _) (mR ..);rw[yL,Hd,hY];exact iG ..
theorem Lk{lr:Loc}(c:[31,33].contains lr.1=O)(h:[31,33].contains l.1=Z):lr≠l:=λe=>by rw[e,h]at c;exact cw c
theorem Ar(c:R.contains l.1=O):(mix R u h) l=u l:=by unfold mix;rw[c];rfl
theorem Ll{o:af}{lr:Loc}(c1:lR.contains l.1=O)(c2:zR.contains l.1=O)(ne:lr≠l):(hb (w.aF l o)) lr=(hb w) lr:=by show mix lR (mix zR (w.aF l o) bx.u) hL lr=mix lR (mix zR w bx.u) hL lr;rw[<-bA c2,<-bA c1];exact aQ ne
theorem afg(H:P5 r5){lr:Loc}(c:[31,33].contains lr.1=O)(hj:r5.ys[j]?=M B)(R:TR lr (acc j) v w)(v9:v 9=M (tV B))(q:∀v w t,TR lr (acc (j+1)) v w->Q .n (s5 v w t)):WB r5.n Sk Q (s5 v w t):=by
 have S:=R.aC;obtain⟨nB,hB,fB,dB,LB⟩:=H.aJ B (bE hj);have z:=λk=>aff H hj (k:=k)
 have l39:((39,cd B):Loc)≠(39,cd r5.A):=qt nB;have e9:RE (s5 v w t) (.u (.v 1) (.v 9)) uM:=dU (aE Y) (aE v9) (fG (l:=(37,[r5.k])) S.aD jT ((rI hB).trans (aq M ((av nB).trans fB))))
 have e0:RE (s5 v w t) (.u (.v 1) (.v 0)) (.i 1):=dU (aE Y) (aE Y) (fG (l:=(37,[r5.k])) S.aD jT ((rI H.aC).trans (aq M (aw Y))));refine i8 (aj (aA (λh:uM=.i 0=>ax (jR h) (ao Y))) (fu (o:=.Eq) e9 bW (pD Y Y))) (aO (l4 (l:=(37,[r5.k])) (z:=.i 1) Y Y (aE Y) S.aD (aE Y) (λn Q q=>mG Y (rl (a6 e0 (a6 e9 br)) (aaF (a:=1) (b:=9223372036854775807) q))) jT (Lj H.aD) ?_));rw[show cC (ND (mS r5.f r5.A (.i 1))) (tV r5.A) (.i 1)=ND (mS r5.f r5.A (.i 1)) from(Li H.aC yk).trans (by rw[Uu];rfl)]
 have R1:TR lr (acc j) v (w.aF (37,[r5.k]) (.d (ND (mS r5.f r5.A (.i 1))))):=⟨⟨a4,S.aC,(aQ yn).trans S.aI,S.aJ,Ap (l:=(37,[r5.k])) S.aG (.inl ⟨Y,Y⟩)⟩,R.aD,(Ll Y Y (Lk c Y)).trans R.aG⟩;generalize w.aF (37,[r5.k]) _=w1 at R1;refine d7 (kO (oi (iu (re (aE Y) ⟨_,lT (l:=(38,[r5.k])) R1.aC.aC,eC (re (aE v9) (eC (fw (eB ⟨b7 _,kC (eB (sr (l:=(38,[r5.k])) R1.aC.aC jT ?_))⟩))))⟩))));rw[show bM (FD (r5.d++[r5.A])) (tV B)=M (.e (39,cd B)) from rI (cH _ dB)]
 show IB _ ⟨_,(hb w1).aF (99,[t]) (.l []),t+1⟩ _ _;rw[iC Y Y];have R2:TR lr (acc j) v (w1.aF (99,[t]) (.l [])):=⟨⟨R1.aC.aD,R1.aC.aC,R1.aC.aI,R1.aC.aJ,Ap (l:=(99,[t])) R1.aC.aG (.inr (.inr (.inr Y)))⟩,R1.aD,(Ll Y Y (Lk c Y)).trans R1.aG⟩
 have Uw:∀{w},Fx r5.A r5.k r5.u w->w (39,cd B)=M (.l ((r5.L B).map .s)):=λf=>(f (39,cd B) (show(39:Nat)≠99 by decide) (yl Y) (λe=>dS (aq dQ e) Y) l39 (λe=>dS (aq dQ e) Y)).trans LB
 refine mH (l:=(39,cd B)) (Uw (w:=w1.aF (99,[t]) (.l [])) R2.aC.aG) (lV (tg:=.v 10) ((r5.L B).map .s) (TK lr (acc j) (r5.L B) (t+1)) (λk K J=>by cases J with|@mk v w R=>exact⟨_,Uw (w:=w) R.aC.aG,Y⟩) (.mk R2) (λk a K ha J=>?_) λK J=>?_)
 .cases J with|@mk v w R=>?_
  obtain⟨a,tC,rfl⟩:=dA ha;refine dP Y ?_;have rf:RE (s5 (aH v 10 (.s a)) w (t+1)) (.u (.v 3) (.v 0)) (.e (39,cd r5.A)):=dU (aE Y) (aE Y) (fG (l:=(38,[r5.k])) R.aC.aC jT (rI (cZ _ (.head _))))
  have ea:((r5.L B).take (k+1)).foldl cX (acc j)=cX (((r5.L B).take k).foldl cX (acc j)) a:=by rw[take_snoc tC,u7];rfl
  refine rB (Ag (l:=(39,cd r5.A)) (aE Y) rf R.aC.aJ) (λni=>Ao (l:=(39,cd r5.A)) Y Y Y rf R.aC.aJ (aE Y) (by rw[bc];exact bF (z k) (ao Y)) (aO (aO (.mk ⟨⟨R.aC.aD,R.aC.aC,R.aC.aI,?_,Ap (l:=(39,cd r5.A)) R.aC.aG (.inr (.inr (.inl Y)))⟩,R.aD,(Ll Y Y (Lk c Y)).trans R.aG⟩)))) λni=>aO (aO (.mk ⟨aj (ea.trans (qo ni)).symm R.aC,R.aD,R.aG⟩))
  rw[ea,qn ni,dc];exact a4
 .cases J with|@mk v w R=>?_
  rw[bc,e7]at R;refine aO (aO (q v w _ ?_));have e:(r5.L B).foldl cX (acc j)=acc (j+1):=by rw[acc,<-u7,acc,take_snoc hj,D3,yL,Hd,hY]
  exact aj e R
end
theorem afi(H:P5 r5):Uv r5:=by
 refine fP acW Y ?_;show WB r5.n J5 _ ⟨m5,hb r5.u,r5.t⟩;rw[show m5=aU [7,8,9,10,11] m5 m5 from gH]
 refine Ao (l:=(37,[r5.k,0])) (vs:=[]) Y Y Y (aE Y) H.cF (aE Y) (ao Y) ?_;have es1:(r5.u.aF (37,[r5.k,0]) (.l [tV r5.A])) (37,[r5.k,0])=M (.l [tV r5.A]):=a4
 refine rJ (x:=.i 1) (show RE _ _ (.i ([tV r5.A].length:Nat)) from vX (vs:=[tV r5.A]) (l:=(37,[r5.k,0])) (aE Y) es1) Y ?_
 refine l4 (l:=(37,[r5.k])) (ds:=ND r5.f) Y Y (aE Y) ((aQ yn.symm).trans H.eO) (aE Y) (aE Y) jT (Lj H.aD) ?_;rw[show cC (ND r5.f) (tV r5.A) _=ND (mS r5.f r5.A (.i 1)) from Li H.aC yk]
 have Di:∀l:Loc,(l.1=37->l.2.headD 0≠r5.k)->((r5.u.aF (37,[r5.k,0]) (.l ([]++[tV r5.A]))).aF (37,[r5.k]) (.d (ND (mS r5.f r5.A (.i 1))))) l=r5.u l:=λl h=>(aQ λe=>h (by rw[e]) (by rw[e];rfl)).trans (aQ λe=>h (by rw[e]) (by rw[e];rfl))
 generalize hw:(r5.u.aF (37,[r5.k,0]) _).aF (37,[r5.k]) _=w1 at Di;have Dj:w1 (37,[r5.k])=M (.d (ND (mS r5.f r5.A (.i 1)))):=aj hw a4
 have es:w1 (37,[r5.k,0])=M (.l [tV r5.A]):=aj hw ((aQ yn).trans a4);have n1:∀{k y k' y'},cQ k k'=Z->((k,y):Loc)≠(k',y'):=λh=>bf h
 have a9:∀{k y},cQ k 99=Z->((k,y):Loc).1≠99:=λ{k y} h e=>by rw[show k=99 from e]at h;exact cw h
 have o9:w1 (38,[r5.k])=M (.d (FD r5.d)):=(Di _ (yl Y)).trans H.dC;have zF:∀{l:Ss},l.length<=201->(FD l).length<16777216:=λh=>by rw[FD,bc];exact bF h (ao Y)
 have rm:∀{v:Mp} {w t},RL (s5 v w t) (.c (.v 0) .n) [tV r5.A]:=a6 (aE Y) br;refine fW (pE (Q7 (a:=r5.b) Y (rl rm (bI.o (H.b6 w1 _ _ Di λw2 t2 f2 nG=>re (aE Y) (re (aE Y) (rj (l:=(38,[r5.k])) ((f2 (38,[r5.k]) (a9 Y) (n1 Y)).trans o9) jT (zF (p9 H.aG)) ?_)))))));show WB _ _ _ ⟨_,(hb w2).aF (38,[r5.k]) _,t2⟩;rw[iC Y Y,afb H.bb];have f3:∀l:Loc,l.1≠99->l≠(39,cd r5.A)->l≠(38,[r5.k])->(w2.aF (38,[r5.k]) (.d (FD (r5.d++[r5.A])))) l=w1 l:=λl h9 h39 h38=>(aQ h38).trans (f2 l h9 h39)
 have Gp:(w2.aF (38,[r5.k]) (.d (FD (r5.d++[r5.A])))) (39,cd r5.A)=M (.l (r5.D.map .s)):=nG;have Gq:(w2.aF (38,[r5.k]) (.d (FD (r5.d++[r5.A])))) (38,[r5.k])=M (.d (FD (r5.d++[r5.A]))):=a4
 generalize w2.aF (38,[r5.k]) _=w3 at f3 Gp Gq;have fx:Fx r5.A r5.k r5.u w3:=λl h9 h7 h8 Aq g=>(f3 l h9 Aq h8).trans (Di l h7)
 refine cj (Q7 (a:=r5.a) Y (rl rm (bI.o (H.bj w3 _ _ fx ((f3 _ (show(33:Nat)≠99 by decide) (n1 Y) (n1 Y)).trans (Di _ (yl Y))) λr y w4 t4 f4 cr el=>dP Y ?_))))
 have cL:lR.contains r=O/\zR.contains r=O:=by
  rcases b0.mp (iT.mp cr)with h|h
  .rw[h];exact⟨Y,Y⟩
  .rw[bp.mp h];exact⟨Y,Y⟩
 have hr:(hb w4) (r,y)=M (.l (r5.ys.map tV)):=(Ar cL.1).trans ((Ar cL.2).trans el);have R0:∀v:Mp,v 7=M (.i 1)->TR (r,y) (acc 0) v w4:=λv v7=>⟨⟨(f4 _ (a9 Y) (n1 Y)).trans ((f3 _ (a9 Y) (n1 Y) (n1 Y)).trans Dj),(f4 _ (a9 Y) (n1 Y)).trans Gq,(f4 _ (a9 Y) (n1 Y)).trans ((f3 _ (a9 Y) (n1 Y) (n1 Y)).trans es),(f4 _ (a9 Y) (n1 Y)).trans Gp,λl h9 h7 h8 Aq h3=>(f4 l h9 h3).trans (fx l h9 h7 h8 Aq h3)⟩,v7,hr⟩
 refine gw (l:=(r,y)) (r5.ys.map tV) (TO (r,y)) (aE Y) (λj K J=>by cases J with|mk R=>exact R.aG) (.mk (R0 _ Y)) (λj b K yo J=>?_) λK J=>?_
 .cases J with|@mk v w t R=>?_
  obtain⟨b,hj,rfl⟩:=dA yo;exact dP Y (afg (v:=aH v 9 (tV b)) H cr hj ⟨R.aC,R.aD,R.aG⟩ Y λv w t R=>.mk R)
 .rw[bc]at J;cases J with|mk R=>exact afd H R.aC R.aD (zF (by rw[dW];exact fJ H.aG))
theorem afm{k:Nat}{Q:RQ}{ds D:Ss}{L:aP->Ss}(B:b9 bx)(hA:A∈bC)(nA:A∉ds)(dz:ds.length<=200)(Dj:u (37,[k])=M (.d (ND f)))(o9:u (38,[k])=M (.d (FD ds)))(es:u (37,[k,0])=M (.l []))
 (hF:∀w t Q,(∀l:Loc,(l.1=37->l.2.headD 0≠k)->w l=u l)->(∀w' t',(∀l:Loc,l.1≠99->l≠(39,cd A)->w' l=w l)->w' (39,cd A)=M (.l (D.map .s))->Q (.e (39,cd A)) (hb w') t')->bI n a1 [tV A] Q (hb w) t)(hR:∀w t Q,Fx A k u w->w (33,k::cd A)=u (33,k::cd A)->(∀r y w' t',(∀l:Loc,l.1≠99->l≠(33,k::cd A)->w' l=w l)->[31,33].contains r=O->w' (r,y)=M (.l (ys.map tV))->Q (.e (r,y)) (hb w') t')->bI n a2 [tV A] Q (hb w) t)
 (hy:∀B∈ys,B≠A/\B∈bC/\f B=uM/\B∈ds/\u (39,cd B)=M (.l ((L B).map .s)))(z:D.length+(ys.flatMap L).length<=1000)
 (q:∀w t,w (37,[k])=M (.d (ND (mS f A uM)))->w (38,[k])=M (.d (FD (ds++[A])))->w (37,[k,0])=M (.l [])->w (39,cd A)=M (.l (((ys.flatMap L).foldl cX D).map .s))->Fx A k u w->Q .n (hb w) t):bI (n+1) (bJ 5) [tV A,.e (37,[k]),.e (37,[k,0]),.e (38,[k]),.e (32,[]),.iX a2,.iX a1] Q (hb u) t:=mJ afi (x:=⟨⟨⟨n,u,t,Q⟩,A⟩,k,ds,f,D,ys,L,a1,a2,λa=>[]⟩) ⟨B,hA,nA,dz,Dj,o9,es,hF,hR,hy,z,q⟩
noncomputable def tk(k:Nat)(l:Loc):Bool:=[39,99].contains l.1||([33,37,38].contains l.1&&cQ (l.2.headD 0) k)
def Off(k:Nat)(u w:Hp):Prop:=∀l:Loc,tk k l=Z->w l=u l
noncomputable def FO(D ys:aP->Ss)(A:aP):Ss:=((ys A).flatMap D).foldl cX (D A)
def P6(x:TX):Prop:=b9 bx/\x.u (32,[])=M (.l (bC.map tV))/\(x.u (37,[x.k])=U/\x.u (37,[x.k,0])=U/\x.u (38,[x.k])=U)/\(∀A w t Q,A∈bC->Off x.k x.u w->w (39,cd A)=x.u (39,cd A)->(∀w' t',(∀l:Loc,l.1≠99->l≠(39,cd A)->w' l=w l)->w' (39,cd A)=M (.l ((x.L A).map .s))->Q (.e (39,cd A)) (hb w') t')->bI x.n x.b [tV A] Q (hb w) t)/\(∀A w t Q,A∈bC->Off x.k x.u w->w (33,x.k::cd A)=x.u (33,x.k::cd A)->(∀r y w' t',(∀l:Loc,l.1≠99->l≠(33,x.k::cd A)->w' l=w l)->[31,33].contains r=O->w' (r,y)=M (.l ((x.yf A).map tV))->Q (.e (r,y)) (hb w') t')->bI x.n x.a [tV A] Q (hb w) t)/\(∀(i:Nat)(A B:aP),bC[i]?=M A->B∈x.yf A->x.yf B=[]/\B∈bC.take i)/\(∀A,(x.L A).length<=100/\(x.yf A).length<=1)/\∀w t,w (38,[x.k])=M (.d (FD bC))->(∀B∈bC,w (39,cd B)=M (.l ((FO x.L x.yf B).map .s)))->Off x.k x.u w->x.Q (.e (38,[x.k])) (hb w) t
section
variable{x:TX} (hh:P6 x)
def P6.aD:=hh.1
def P6.aI:=hh.2.1
def P6.aC:=hh.2.2.1
def P6.bj:=hh.2.2.2.1
def P6.bb:=hh.2.2.2.2.1
def P6.aJ:=hh.2.2.2.2.2.1
def P6.aG:=hh.2.2.2.2.2.2.1
def P6.aT:=hh.2.2.2.2.2.2.2
end
def Ux(x:TX):Prop:=WB (x.n+1) Sj (Rt x.Q) ⟨λi=>([V.e (32,[]),.iX x.a,.iX x.b]++[])[i]?,hb x.u,x.t⟩
def r6:TX:=j9 ⟨⟨yd,fU⟩,0,[],λa=>.n,[],[],λa=>[],0,0,λa=>[]⟩ P6 Ux
def m6:Mp:=aH (λi=>([V.e (32,[]),.iX r6.a,.iX r6.b]++[])[i]?) 3 (.e (37,[r6.k]))
abbrev s6(v:Mp)(w:Hp)(t:Nat):AS:=⟨aU [4,5,6] v m6,hb w,t⟩
noncomputable def nf(ds:Ss)(B:aP):V:=if B∈ds then uM else .i 0
def qA(ds:Ss)(v:Mp)(w:Hp):Prop:=v 5=M (.e (37,[r6.k,0]))/\v 6=M (.e (38,[r6.k]))/\w (37,[r6.k])=M (.d (ND (nf ds)))/\w (38,[r6.k])=M (.d (FD ds))/\w (37,[r6.k,0])=M (.l [])/\(∀B∈ds,w (39,cd B)=M (.l ((FO r6.L r6.yf B).map .s)))/\(∀B,B∉ds->w (39,cd B)=r6.u (39,cd B)/\w (33,r6.k::cd B)=r6.u (33,r6.k::cd B))/\Off r6.k r6.u w
section
variable{ds:Ss} {v:Mp} (hh:qA ds v w)
def qA.aJ:=hh.1
def qA.aD:=hh.2.1
def qA.bb:=hh.2.2.1
def qA.aT:=hh.2.2.2.1
def qA.bj:=hh.2.2.2.2.1
def qA.aI:=hh.2.2.2.2.2.1
def qA.aG:=hh.2.2.2.2.2.2.1
def qA.aC:=hh.2.2.2.2.2.2.2
end
inductive DZ(j:Nat):QA
 |mk {v:Mp}:DZ j (s6 v (r6.u.aF (37,[r6.k]) (.d ((bC.take j).map λB=>(tV B,.i 0)))) r6.t)
inductive DL(j:Nat):QA
 |mk {v:Mp} {w:Hp} {t:Nat}:qA (bC.take j) v w->DL j (s6 v w t)
theorem Lm{k:Nat}{o:af}(f:Off k u w)(c:tk k l=O):Off k u (w.aF l o):=λl' h=>(aQ λq=>by subst q;rw[h]at c;exact cw c).trans (f l' h)
theorem Dk{k:Nat}{a:Nat}{y:Nl}(h:[33,37,38].contains a=O):tk k (a,k::y)=O:=by unfold tk;rw[h];show(_||(O&&cQ k k))=O;rw[xa];exact Bool.or_true _
theorem Uy{k:Nat}(h:tk k l=Z)(e:l.1=37):l.2.headD 0≠k:=λe'=>by unfold tk at h;rw[e,e',xa]at h;exact cw h
theorem Uz{k:Nat}(f:Fx A k w w')(h:tk k l=Z):w' l=w l:=by
 have ne:∀{l'},tk k l'=O->l≠l':=λh' e=>by rw[e,h']at h;exact cw h
 exact f l (λe=>by unfold tk at h;rw[e]at h;exact cw h) (Uy h) (ne (Dk Y)) (ne Y) (ne (Dk Y))
theorem afn(H:P6 r6){v:Mp}(hj:bC[j]?=M A)(S:qA (bC.take j) v w)(v4:v 4=M (tV A))(q:∀v' w' t',qA (bC.take (j+1)) v' w'->Q .n (s6 v' w' t')):WB (r6.n+1) Si Q (s6 v w t):=by
 have hA:=bE hj;have nA:=pN yk hj
 have e0:RE (s6 v w t) (.u (.v 3) (.v 4)) (.i 0):=dU (aE Y) (aE v4) (fG (l:=(37,[r6.k])) S.bb jT ((rI hA).trans (aq M (av nA))));refine iN (az (Y:V.i 0=.i 0)▸fu (o:=.Eq) e0 bW (pD Y Y)) (pK (kM (rl (a6 (aE v4) (a6 (aE Y) (a6 (aE S.aJ) (a6 (aE S.aD) (a6 (aE Y) (a6 (aE Y) (a6 (aE Y) br))))))) (bI.o (afm (D:=r6.L A) (ys:=r6.yf A) (L:=r6.L) H.aD hA nA (aL (iG ..) (aL (Dh H.aD) (by decide))) S.bb S.aT S.bj ?_ ?_ ?_ ?_ ?_)))))
 .exactλw' t' Q' f k=>H.bj A w' t' Q' hA (λl h=>(f l (Uy h)).trans (S.aC l h)) ((f _ (yl Y)).trans (S.aG A nA).1) k
 .exactλw' t' Q' f e k=>H.bb A w' t' Q' hA (λl h=>(Uz f h).trans (S.aC l h)) (e.trans (S.aG A nA).2) k
 .intro B hB;have y:=H.aJ j A B hj hB
  have e:FO r6.L r6.yf B=r6.L B:=by unfold FO;rw[y.1];rfl
  exact⟨λe:B=A=>nA (e▸y.2),uZ y.2,aw y.2,y.2,(S.aI B y.2).trans (aq (λl:Ss=>M (af.l (l.map .s))) e)⟩
 .have z1:=H.aG A;refine aL (jY z1.1 (?_:_<=100)) (by decide)
  have z2:=z1.2;cases h:r6.yf A with
  |nil=>exact b7 _
  |cons B t=>
   rw[h]at z2;cases t with
   |cons c t=>exact ax (We z2) (ajf _)
   |nil=>exact aL (fR (aq Hq (hY (r6.L B)))) (H.aG B).1
 .intro w' t' Dj o9 es nG fx;have tk:bC.take (j+1)=bC.take j++[A]:=take_snoc hj
  refine aO (aO (q v w' t' ⟨S.aJ,S.aD,Dj.trans (aq (λf=>M (af.d (ND f))) (funext λB=>?_)),tk▸o9,es,λB hB=>?_,λB hB=>?_,λl h=>(Uz fx h).trans (S.aC l h)⟩))
  .unfold nf mS;rw[tk];by_cases c:B=A
   .rw[aw c,aw (cZ _ (c▸.head _))]
   .rw[av c];exact Gg ⟨cH _,λh=>(cD.mp h).resolve_right λe=>c (bp.mp e)⟩
  .rw[tk]at hB;by_cases c:B=A
   .subst c;exact nG
   .exact(fx _ (show(39:Nat)≠99 by decide) (yl Y) (bf Y) (qt c) (bf Y)).trans (S.aI B ((cD.mp hB).resolve_right λe=>c (bp.mp e)))
  .rw[tk]at hB;have c:B≠A:=λc=>hB (cZ _ (c▸.head _))
   have o:=S.aG B λh=>hB (cH _ h);exact⟨(fx _ (show(39:Nat)≠99 by decide) (yl Y) (bf Y) (qt c) (bf Y)).trans o.1,(fx _ (show(33:Nat)≠99 by decide) (yl Y) (bf Y) (bf Y) λe=>c (Ad (bY (bS e).2).2)).trans o.2⟩
theorem afo(H:P6 r6):Ux r6:=by
 refine cj (kP (dF (37,[r6.k]) Y H.aC.1 ?_));show WB _ _ _ ⟨m6,(hb r6.u).aF (37,[r6.k]) (.d []),r6.t⟩;rw[iC Y Y,show m6=aU [4,5,6] m6 m6 from gH]
 have zl:∀{j},((bC.take j).map λB=>(tV B,V.i 0)).length<16777216:=by intro j;rw[bc];exact bF (aL (iG ..) (Dh H.aD)) (ao Y)
 refine gw (l:=(32,[])) (bC.map tV) DZ (aE Y) (λj K J=>by cases J;exact H.aI) .mk (λj x K hx J=>?_) λK J=>?_
 .cases J with|@mk v=>?_
  obtain⟨A,hA,rfl⟩:=dA hx;refine dP Y (l4 (l:=(37,[r6.k])) (ds:=(bC.take j).map λB=>(tV B,.i 0)) Y Y (aE Y) a4 (aE Y) bW jT zl (aO ?_));rw[mI,kW (by rw[fA];exactλh=>(bk.mp h).elim λB k=>pN yk hA (aj (tB k.2) k.1)),show((bC.take j).map λB=>(tV B,V.i 0))++[(tV A,.i 0)]=(bC.take (j+1)).map λB=>(tV B,.i 0) from by rw[take_snoc hA,dc];rfl]
  exact .mk
 .rw[bc]at J;cases J with|@mk v=>?_
  rw[e7];generalize hw:r6.u.aF (37,[r6.k]) _=w1;refine cj (fw (eB ⟨b7 _,dF (37,[r6.k,0]) Y (aj hw ((aQ yn).trans H.aC.2.1)) (dP Y ?_)⟩));rw[iC Y Y];refine cj (kP (dF (38,[r6.k]) Y (aj hw H.aC.2.2) (dP Y ?_)));rw[iC Y Y];refine gw (l:=(32,[])) (bC.map tV) DL (aE Y) (λj K J=>by cases J with|mk S=>exact(S.aC (32,[]) Y).trans H.aI) (.mk ⟨Y,Y,?_,a4,a4,(λB h=>bw h),λB a=>aj hw ⟨Y,Y⟩,?_⟩) (λj x K hx J=>?_) λK J=>?_
  .exact(aQ yn.symm).trans (aj hw a4)
  .exact Lm (l:=(38,[r6.k])) (Lm (l:=(37,[r6.k,0])) (aj hw (Lm (l:=(37,[r6.k])) (λa a=>Y) (Dk Y))) (Dk Y)) (Dk Y)
  .cases J with|@mk v w t S=>?_
   obtain⟨A,hA,rfl⟩:=dA hx;exact dP Y (afn (v:=aH v 4 (tV A)) H hA ⟨S.aJ,S.aD,S.bb,S.aT,S.bj,S.aI,S.aG,S.aC⟩ Y λv' w' t' S'=>.mk S')
  .rw[bc]at J;cases J with|@mk v w t S=>?_
   rw[e7]at S;exact jO (aE S.aD) (H.aT w t S.aT S.aI S.aC)
def Ln(k r:Nat)(u w:Hp):Prop:=(∀l:Loc,cQ l.1 0=Z->tk k l=Z->l≠(r,[])->w l=u l)/\∃g,w gu=M (.fz g)
variable{k r c P:Nat} {d:L3} {f:aY} {xs:Vs} {D ys:aP->Ss} {Q:RQ}
theorem Dm(h:l.1≠99):(mix [99] w' w) l=w l:=iw (vf.mpr λq=>h (bp.mp (iT.mp q)))
theorem UA(B:b9 bx)(L:qm c P)(ok:Ct f 4 c d)(df:d.f=4)(hk:xs.length=4)(rr:r=50\/r=51)(tb:u (r,[])=M (.t P #[]))(fz:∃g,u gu=M (.fz g)) (qz:u (32,[])=M (.l (bC.map tV))) (fr:u (37,[k])=U/\u (37,[k,0])=U/\u (38,[k])=U)
 (pJ:∀(i j:Nat),d.nh[i]?=M (M j)\/d.nr[i]?=M (M j)->(∃l,xs[j]?=M (.e l))/\j≠d.i1/\j≠d.i2) (Cu:d.i1≠d.i2) (Cv:xs[d.k0]?=M (.e (32,[]))) (Cw:d.k0≠d.i1) (Cx:d.k0≠d.i2)
 (hF:∀(m:Mp)(A:aP)(w:Hp)(t:Nat)(Q:RQ),(∀j,j≠d.i1->j≠d.i2->m j=xs[j]?)->A∈bC->(∀l:Loc,cQ l.1 0=Z->tk k l=Z->l≠(r,[])->w l=u l)->w (39,cd A)=u (39,cd A)->(∀(w':Hp) t',(∀l:Loc,l.1≠99->l≠(39,cd A)->w' l=w l)->w' (39,cd A)=M (.l ((D A).map .s))->Q (.e (39,cd A)) (hb w') t')->WE (n+4) d.e1 (λv K=>Q v K.h K.t) ⟨λi=>if i=0 then M (tV A)else j7 m d.nh i,hb w,t⟩)
 (hR:∀(m:Mp)(A:aP)(w:Hp)(t:Nat)(Q:RQ),(∀j,j≠d.i1->j≠d.i2->m j=xs[j]?)->A∈bC->(∀l:Loc,cQ l.1 0=Z->tk k l=Z->l≠(r,[])->w l=u l)->w (33,k::cd A)=u (33,k::cd A)->(∀r y(w':Hp) t',(∀l:Loc,l.1≠99->l≠(33,k::cd A)->w' l=w l)->[31,33].contains r=O->w' (r,y)=M (.l ((ys A).map tV))->Q (.e (r,y)) (hb w') t')->WE (n+4) d.e2 (λv K=>Q v K.h K.t) ⟨λi=>if i=0 then M (tV A)else j7 m d.nr i,hb w,t⟩)
 (hy:∀(i:Nat)(A B:aP),bC[i]?=M A->B∈ys A->ys B=[]/\B∈bC.take i) (z:∀A,(D A).length<=100/\(ys A).length<=1)
 (q:∀w t,w (38,[k])=M (.d (FD bC))->(∀B∈bC,w (39,cd B)=M (.l ((FO D ys B).map .s)))->Ln k r u w->Q (.e (38,[k])) (hb w) t):bI (n+8) f xs Q (hb u) t:=by
 obtain⟨g0,hz⟩:=fz;have rc:lR.contains r=O/\zR.contains r=O:=rr.elim (λe=>ak e ⟨Y,Y⟩) λe=>ak e ⟨Y,Y⟩
 have rn:∀l:Loc,[33,37,39,99].contains l.1=O\/l.1=38\/l.1=32->l≠(r,[]):=λl h e=>by
  rw[e]at h;rcases rr with rfl|rfl
  .exact ax h (ao Y)
  .exact ax h (ao Y)
 have r0:gu≠(r,[]):=λe=>by have e:0=r:=aq dQ e;rw[<-e]at rr;exact ax rr (ao Y)
 refine acg (n:=n+6) L ok (aj df.symm acV) hk (lt:=(r,[])) (g0:=g0) ((Ar rc.1).trans ((Ar rc.2).trans tb)) hz r0 pJ Cu Cv Cw Cx λps m h' hm eh g a1 a2 L1 L2=>?_;subst eh;show WB _ _ _ ⟨_,((hb u).aF (r,[]) _).aF gu _,t⟩;rw[iC rc.1 rc.2,iC Y Y];obtain⟨u1,hu⟩:∃u1,u1=(u.aF (r,[]) (.t P ps)).aF gu (.fz g):=⟨_,Y⟩;rw[<-hu];have e1:∀l:Loc,l.1≠0->l≠(r,[])->u1 l=u l:=λl h h'=>ak hu ((aQ λe=>h (by rw[e];rfl)).trans (aQ h'))
 have z0:∀{l:Loc},cQ l.1 0=Z->l.1≠0:=λh e=>by rw[e]at h;exact cw h
 have off:∀{w},Off k u1 w->(∀l:Loc,cQ l.1 0=Z->tk k l=Z->l≠(r,[])->w l=u l)/\w gu=M (.fz g):=λf=>⟨λl h h8 hr=>(f l h8).trans (e1 l (z0 h) hr),(f gu Y).trans (ak hu a4)⟩;refine mJ (w:=⟨⟨yd,fU⟩,0,[],λa=>.n,[],[],λa=>[],0,0,λa=>[]⟩) afo (x:=⟨⟨⟨n+5,u1,t,_⟩,fU⟩,k,[],λa=>.n,[],[],D,a1,a2,ys⟩) ⟨B,(e1 _ (show(32:Nat)≠0 by decide) (rn _ (.inr (.inr Y)))).trans qz,⟨(e1 _ (show(37:Nat)≠0 by decide) (rn _ (.inl Y))).trans fr.1,(e1 _ (show(37:Nat)≠0 by decide) (rn _ (.inl Y))).trans fr.2.1,(e1 _ (show(38:Nat)≠0 by decide) (rn _ (.inr (.inl Y)))).trans fr.2.2⟩,λA w t Q hA f e q=>L1 _ _ _ _ _ (off f).2 (hF m A w t Q hm hA (off f).1 (e.trans (e1 _ (show(39:Nat)≠0 by decide) (rn _ (.inl Y)))) q),λA w t Q hA f e q=>L2 _ _ _ _ _ (off f).2 (hR m A w t Q hm hA (off f).1 (e.trans (e1 _ (show(33:Nat)≠0 by decide) (rn _ (.inl Y)))) q),hy,z,λw t o9 nG f=>⟨⟨g,(off f).2⟩,?_⟩⟩
 rw[iC Y Y];exact q _ t o9 nG ⟨λl h h8 hr=>(aQ λe=>z0 h (by rw[e];rfl)).trans ((off f).1 l h h8 hr),g0,a4⟩
theorem Gr{P:Nat->Prop}(h:∀o∈bZ,xd (motive:=λa=>Prop) True P o)(e:bZ[i]?=M (M j)):P j:=h _ (bE e)
theorem afp(B:b9 bx)(nu:∃vs,u (53,[])=M (.s vs)/\ti vs)(tb:u (50,[])=M (.t 391 #[]))(fz:∃g,u gu=M (.fz g)) (qz:u (32,[])=M (.l (bC.map tV))) (fr:u (37,[0])=U/\u (37,[0,0])=U/\u (38,[0])=U) (f39:∀A,u (39,cd A)=U) (Lo:∀A,u (33,0::cd A)=U)
 (q:∀w t,w (38,[0])=M (.d (FD bC))->(∀B∈bC,w (39,cd B)=M (.l ((DR B).map .s)))->Ln 0 50 u w->Q (.e (38,[0])) (hb w) t):bI (n+8) (bJ 40) [.e (20,[]),.e (24,[]),.e (32,[]),.e (53,[])] Q (hb u) t:=by
 have cp:∀o∈[U,M 1,M 3,M 0],xd (motive:=λb=>Prop) True (λj:Nat=>(∃l,([V.e (20,[]),.e (24,[]),.e (32,[]),.e (53,[])])[j]?=M (.e l))/\j≠4/\j≠5) o:=kb.mpr ⟨trivial,kb.mpr ⟨⟨⟨_,Y⟩,ao Y⟩,kb.mpr ⟨⟨⟨_,Y⟩,ao Y⟩,kb.mpr ⟨⟨⟨_,Y⟩,ao Y⟩,λb h=>bw h⟩⟩⟩⟩;refine UA B S6 ac4 Y Y (.inl Y) tb fz qz fr (λi j h=>h.elim (Gr cp) (Gr cp)) (ao Y) Y (ao Y) (ao Y) (D:=DR) (ys:=λb=>[]) (λm A w t Q hm hA f e k=>?_) (λm A w t Q hm hA f e k=>?_) (λb b b b h=>bw h) (λA=>⟨?_,b7 _⟩) q
 .have h0:m 0=M (.e (20,[])):=hm 0 (ao Y) (ao Y);exact i4 (re (aE h0) ⟨_,kB (c:=6) (a:=61) (f:=37) (g:=aH F0 37 (.i B.aD.aC.aC.choose)) B.aD.aC.aC.choose_spec Y Y,rl (a6 (aE (hm 1 (ao Y) (ao Y))) (a6 (aE Y) (a6 (aE (hm 3 (ao Y) (ao Y))) br))) (bI.o (ae7 (x:=⟨⟨n,w,t,_⟩,A⟩) ⟨B,hA,e.trans (f39 A),λw'=>k _ _ (λl h h'=>(aQ h').trans (Dm h)) a4⟩))⟩)
 .have h0:m 0=M (.e (20,[])):=hm 0 (ao Y) (ao Y);exact i4 (re (aE h0) ⟨_,kB (c:=6) (a:=62) (f:=38) (g:=aH F0 37 (.i B.aD.aC.aC.choose)) B.aD.aC.aC.choose_spec Y Y,rl (a6 (aE (hm 1 (ao Y) (ao Y))) (a6 (aE Y) (a6 (aE (hm 3 (ao Y) (ao Y))) br))) (bI.o (ae' (x:=⟨⟨n,w,t,_⟩,A⟩) ⟨B,hA,e.trans (Lo A),nu.imp λvs h=>⟨(f _ Y Y (bf Y)).trans h.1,h.2⟩,λw'=>k 33 _ _ _ (λl h h'=>(aQ h').trans (Dm h)) Y a4⟩))⟩)
 .unfold DR ie;rw[dW];refine aL (jY (aL qr (aL (jF ..) (iG ..))) (?_:_<=1)) (fJ ((iQ B).elim λl e=>e.elim λps e=>aL (jF ..) (aL (iB B e.1).2.2.1 (ao Y))))
  split<;>decide
def qB(A:aP):Ss:=if(bD,[A])∈gS then [bD]else []
theorem afr:∀{ys l:Ss},∃l',ys.foldl cX (a::l)=a::l':=by
 intro ys
 induction ys with
 |nil=>exactλ{l}=>⟨l,Y⟩
 |cons y ys ih=>
  intro l;rw[WH];by_cases c:y∈a::l
  .rw[qo c];exact ih
  .rw[qn c];exact ih (l:=l++[y])
theorem yp(B:b9 bx):bC[(0:Nat)]?=M bD:=by
 obtain⟨l,ps,_,e,_⟩:=iQ B;have:bC=((ps.map λq=>(q+1,0)).filterMap sym).foldl cX [bD]:=by
  unfold bC;rw[e,JL,G3,show sym (0,0)=M bD from Y]
  rfl
 obtain⟨l',e'⟩:=afr (a:=bD) (ys:=(ps.map λq=>(q+1,0)).filterMap sym) (l:=[]);rw[this,e']
 rfl
theorem afs(B:b9 bx)(i:Nat)(A C:aP)(h:bC[i]?=M A)(hC:C∈qB A):qB C=[]/\C∈bC.take i:=by
 unfold qB at hC;by_cases c:(bD,[A])∈gS
 .rw[aw c]at hC;obtain rfl:=bp.mp hC;refine⟨av λw=>(B.aC.aC.aC _ w bD Y).2 Y,?_⟩;cases i with
  |zero=>exact ax (bu (h.symm.trans (yp B))) (B.aC.aC.aC _ c A Y).2
  |succ i=>exact bE (i:=0) ((V6 (fY i)).trans (yp B))
 .rw[av c]at hC;exact bw hC
theorem aft{inc:Es}(B:b9 bx)(tb:u (51,[])=M (.t 398 #[]))(fz:∃g,u gu=M (.fz g)) (qz:u (32,[])=M (.l (bC.map tV))) (fr:u (37,[1])=U/\u (37,[1,0])=U/\u (38,[1])=U) (Lo:∀A,u (33,1::cd A)=U)
 (o9:u (38,[0])=M (.d (FD bC))) (nG:∀B∈bC,u (39,cd B)=M (.l ((DR B).map .s))) (zD:∀A,(DR A).length<=100) (ei:u (31,[2])=M (.d inc)) (hi:∀A∈bC,bM inc (tV A)=if(bD,[A])∈gS then M (.e (31,9::cd A))else U) (li:∀A∈bC,(bD,[A])∈gS->u (31,9::cd A)=M (.l [tV bD]))
 (q:∀w t,w (38,[1])=M (.d (FD bC))->(∀B∈bC,w (39,cd B)=M (.l ((FO DR qB B).map .s)))->Ln 1 51 u w->Q (.e (38,[1])) (hb w) t):bI (n+8) (bJ 41) [.e (20,[]),.e (32,[]),.e (38,[0]),.e (31,[2])] Q (hb u) t:=by
 have xr:∀{j:Nat},j<4->∃l,([V.e (20,[]),.e (32,[]),.e (38,[0]),.e (31,[2])])[j]?=M (.e l):=λ{j} lt=>by obtain⟨x,hx⟩:=lW (l:=[((20,[]):Loc),(32,[]),(38,[0]),(31,[2])]) lt;exact⟨x,iO (f:=V.e) hx⟩
 refine UA B S7 ac6 Y Y (.inr Y) tb fz qz fr (λi j h=>?_) (ao Y) Y (ao Y) (ao Y) (D:=DR) (ys:=qB) (λm A w t Q hm hA f e k=>?_) (λm A w t Q hm hA f e k=>?_) (afs B) (λA=>⟨zD A,?_⟩) q
 .have lt:j<4:=h.elim (Gr (bZ:=[U,M 2]) (P:=λj=>j<4) (kb.mpr ⟨trivial,kb.mpr ⟨(by decide:2<4),λa h=>bw h⟩⟩)) (Gr (bZ:=[U,M 3]) (P:=λj=>j<4) (kb.mpr ⟨trivial,kb.mpr ⟨(by decide:3<4),λa h=>bw h⟩⟩))
  exact⟨xr lt,gZ lt,gZ (qI lt)⟩
 .have l38:w (38,[0])=M (.d (FD bC)):=(f (38,[0]) Y Y (bf Y)).trans o9;exact re (dU (aE (hm 2 (ao Y) (ao Y))) (aE Y) (fG (l:=(38,[0])) l38 jT (rI hA))) (k w t (λa a a=>Y) (e.trans (nG A hA)))
 .have UB:w (31,[2])=M (.d inc):=(f (31,[2]) Y Y (bf Y)).trans ei;refine iu (re (aE (hm 3 (ao Y) (ao Y))) ⟨_,lT (l:=(31,[2])) UB,eC (re (aE Y) (eC (fw (eB ⟨b7 _,dF (33,1::cd A) Y (e.trans (Lo A)) (eB (sr (l:=(31,[2])) UB jT ?_))⟩))))⟩);show Q _ ((hb w).aF (33,1::cd A) (.l [])) t;rw[hi A hA,iC Y Y];by_cases c:(bD,[A])∈gS
  .rw[aw c];exact k 31 _ _ _ (λl a h=>aQ h) Y (((f (31,9::cd A) Y Y (bf Y)).trans (li A hA c)).trans (by rw[show qB A=[bD] from aw c];rfl))
  .rw[av c];exact k 33 _ _ _ (λl a h=>aQ h) Y (a4.trans (by rw[show qB A=[] from av c];rfl))
 .unfold qB
  split<;>decide
def stI(y:It):Nat:=Bc λj=>∃c:gJ,bx.c[j]?=M c/\y∈c.2
def fin(y:It):It:=(y.1,(ru y.1).2.length)
def Dn(y:It):V:=V.bP [.i (stI (fin y):Nat),.e (5,[y.1,(ru y.1).2.length])]
def ja(A:aP)(y:It):Option aP:=if(ru y.1).1=A/\(ru y.1).2.length=1 then sym y else U
noncomputable def m7:Mp:=aH (aH (aH (λi=>([V.e (20,[]),.e (24,[]),.e (32,[]),.e (53,[])]++[])[i]?) 4 (.e (31,[1]))) 5 (.e (31,[2]))) 6 (.e (31,[3]))
abbrev s7(v:Mp)(w:Hp)(t:Nat):AS:=⟨aU [7,8,9,10,11,12,13,14,15,16,17,18] v m7,hb w,t⟩
def jb(A:aP)(w0:Hp)(xs:Vs)(ins:Ss)(v:Mp)(w:Hp):Prop:=v 8=M (.i 0)/\v 9=M (.s A)/\v 10=M (.e (31,4::cd A))/\v 11=M (.e (31,5::cd A))/\w (31,4::cd A)=M (.l xs)/\w (31,5::cd A)=M (.l (ins.map tV))/\∀l:Loc,l.1≠99->l≠(31,4::cd A)->l≠(31,5::cd A)->w l=w0 l
section
variable{w0:Hp} {ins:Ss} {v:Mp} (hh:jb A w0 xs ins v w)
def jb.aG:=hh.1
def jb.aD:=hh.2.1
def jb.aJ:=hh.2.2.1
def jb.aI:=hh.2.2.2.1
def jb.bb:=hh.2.2.2.2.1
def jb.aT:=hh.2.2.2.2.2.1
def jb.aC:=hh.2.2.2.2.2.2
end
variable{ins:Ss} {y z:It} {Q:QF} {c:gJ}
section
variable{v:Mp} {w0:Hp}
theorem Lq(B:b9 bx)(h:bx.c[j]?=M c)(hy:y∈c.2):stI y=j:=(show∃c,bx.c[stI y]?=M c/\y∈c.2 from A5 (p:=λj=>∃c:gJ,bx.c[j]?=M c/\y∈c.2) ⟨j,c,h,hy⟩).elim λc' k=>B.aD.aT _ _ _ _ _ k.1 h k.2 hy
theorem afv(h:i<j)(hj:j<=ss.length):(dot ss j)[i]?=ss[i]?:=by
 have e:(ss.take j).length=j:=by rw[Hb,Hj hj]
 rw[dot,AQ (by rw[e];exact h),G5,aw h]
theorem Lr:(dot ss 0)[i+1]?=ss[i]?:=Y
theorem Dp(B:b9 bx)(h:bx.c[j]?=M c)(hy:y∈c.2)(hz:z∈c.2):z.2=y.2:=by
 cases j with
 |zero=>obtain⟨l,ps,e,_⟩:=iQ B;obtain rfl:=bu (e.symm.trans h);exact(pU B hz).1.trans (pU B hy).1.symm
 |succ j=>
  obtain⟨c',gN,x,e,_⟩:=B.aD.aJ _ c (fY j) h;obtain⟨y',ef,Ls,rfl⟩:=nD (aj e hy);obtain⟨z',jS,Dd,rfl⟩:=nD (aj e hz);obtain⟨j',hU⟩:=uI gN;have io:=(iB B hU).2.2.2
  have go:∀{a b:It},a∈c'.2->b∈c'.2->sym a=M x->sym b=M x->0<a.2->0<b.2:=λ{a b} ha hb sa sb h0=>G7 λe0=>by
   have la:=(sY B.aC (io a ha) h0 sa).2.1;obtain⟨p,i⟩:=b;obtain rfl:i=0:=e0;cases p with
   |zero=>exact ax (ak (bu sb) la:bD∈lets) (ao Y)
   |succ q=>exact Lb B.aC la (B.aC.aC.aC _ (sX (io _ hb).1) x sb).1
  refine aq Bb ?_;by_cases h0:0<y'.2
  .rw[(sY B.aC (io _ jS) (go ef jS Ls Dd h0) Dd).1,(sY B.aC (io _ ef) h0 Ls).1]
  .have z0:¬0<z'.2:=λh=>h0 (go jS ef Dd Ls h);rw[ai4 h0,ai4 z0]
theorem Lu(B:b9 bx)(hp:p<gS.length+1)(hq:q<gS.length+1)(e:ru p=ru q):p=q:=by
 cases p with
 |zero=>
  cases q with
  |zero=>rfl
  |succ q=>exact ax (show(ru (q+1)).1=sP from aj e Y) (B.aC.aC.aI _ (sX hq)).2
 |succ p=>
  cases q with
  |zero=>exact ax (show(ru (p+1)).1=sP from ak e Y) (B.aC.aC.aI _ (sX hp)).2
  |succ q=>
   have iY:=wz hp;have sS:=wz hq
   have iY:gS[p]?=M (ru (p+1)):=iY;have sS:gS[q]?=M (ru (q+1)):=sS
   have lp:=GY hp;have lq:=GY hq
   exact aq Bb ((List.getElem_inj (h₀:=lp) (h₁:=lq) B.aC.aC.bb).mp (bu ((mO lp).symm.trans (iY.trans ((aq M e).trans (sS.symm.trans (mO lq)))))))
theorem afw(B:b9 bx)(iy:Io (fin y))(zi:Io z)(zl:z.2=(ru y.1).2.length)(I:jb A w0 xs ins v w)(gy:v 12=M (.e (5,[y.1,0])))(pX:v 14=M (.i j))(Dq:v 17=M (.e (5,[z.1,z.2])))(zx:xs.length<=100000)
 (q:∀v' w' ox,(∀a,a≠18->v' a=v a)->jb A w0 ox ins v' w'->ox.length<=xs.length+1->(∀x,x∈ox↔x∈xs\/(z=fin y/\x=V.bP [.i j,.e (5,[z.1,z.2])]))->Q .n (s7 v' w' t)/\Q .c (s7 v' w' t)):WB n Sr Q (s7 v w t):=by
 have aa:=ix B.aC (x:=(y.1,0)) ⟨iy.1,b7 _⟩;have ah:=ix B.aC zi
 have iD:∀{v:Mp} {a x},v 12=M (.e (5,[y.1,0]))->kq 2 a=O->fI (y.1,0) a=M x->RE (s7 v w t) (.a (.v 12) a) x:=λe d h=>ra (aE e) aa.aC d h;have Gs:∀{v:Mp} {a x},v 17=M (.e (5,[z.1,z.2]))->kq 2 a=O->fI z a=M x->RE (s7 v w t) (.a (.v 17) a) x:=λe d h=>ra (aE e) ah.aC d h
 have out:ru z.1≠ru y.1->∀v':Mp,(∀a,a≠18->v' a=v a)->Q .n (s7 v' w t)/\Q .c (s7 v' w t):=λne v' hv=>q v' w xs hv ⟨(hv 8 (ao Y)).trans I.aG,(hv 9 (ao Y)).trans I.aD,(hv 10 (ao Y)).trans I.aJ,(hv 11 (ao Y)).trans I.aI,I.bb,I.aT,I.aC⟩ (jI _) λx=>⟨.inl,λh=>h.resolve_right λh=>ne (aq (λy:It=>ru y.1) h.1:ru z.1=ru (fin y).1)⟩;refine kU (fu (o:=.NotEq) (Gs Dq Y ah.aJ) (iD gy Y aa.aJ) (um Y Y)) (λh=>z6 (out (λe=>x5 h (aq (λr:cJ=>V.s r.1) e)) v λf f=>Y).2) λh1=>aO (kU (fu (o:=.NotEq) (Gs Dq Y ah.aG) (iD gy Y aa.aG) (um Y Y)) (λh=>z6 (out (λe=>x5 h (aq (λr:cJ=>V.i (r.2.length+1:Nat)) e)) v λf f=>Y).2) λh2=>aO (rJ bW Y ?_));have h1:=str_inj (Ac h1)
 have h2:(ru z.1).2.length=(ru y.1).2.length:=qK (jv (jR (Ac h2)));refine d7 (IL (λm K=>∃i,m+i=(ru y.1).2.length/\K=s7 (aH v 18 (.i (i:Nat))) w t/\∀i',i'<i->(ru z.1).2[i']?=(ru y.1).2[i']?) (m₀:=(ru y.1).2.length) ⟨0,Y,Y,λi' h=>ax h (w8 _)⟩ λm K J=>?_);obtain⟨i,em,rfl,pre⟩:=J;refine fu (o:=.Lt) (aE Y) (Gs (v:=aH v 18 (.i (i:Nat))) Dq Y ah.aD) BF n _ ?_;by_cases c:i<z.2
 .rw[az (mV.mpr c),aw Y];have cl:i<(ru y.1).2.length:=aj zl c
  obtain⟨a,ha⟩:=lW (aj h2.symm cl);obtain⟨b,yo⟩:=lW cl;refine kU (fu (o:=.NotEq) (x:=.s a) (y:=.s b) (x4 (j:=i) (Gs (v:=aH v 18 (.i (i:Nat))) Dq Y ah.aI) (aE Y) (iO ((afv c zi.2).trans ha))) (x4 (j:=i+1) (iD (v:=aH v 18 (.i (i:Nat))) gy Y aa.aI) (jC (aE Y) bW qk) (iO (Lr.trans yo))) (um Y Y)) (λh=>vW (aO (out (λe=>x5 h (aq V.s (bu (ha.symm.trans ((aq (λr:cJ=>r.2[i]?) e).trans yo))))) (aH v 18 (.i (i:Nat))) λa h=>av h).1)) λh=>aO (rJ (jC (aE Y) bW qk) Y (aO ?_));cases m with
  |zero=>exact ax (em▸cl) (by rw[sf];exact dI _)
  |succ m=>
   refine⟨m,jd _,i+1,by rw[<-em,wU];rfl,by rw[Ki];rfl,λi' h'=>?_⟩
   rcases V7.mp h' with h'|rfl
   .exact pre i' h'
   .rw[ha,yo,str_inj (Ac h)]
 .rw[aA λh=>c (mV.mp h),av (λh=>cw h)];have ei:i=(ru y.1).2.length:=w9 (em▸Nn ..) (aj zl (km.mp c))
  have er:ru z.1=ru y.1:=je h1 (Wq λi'=>by
   by_cases c':i'<i
   .exact pre i' c'
   .rw[mN.mpr (by rw[h2];exact aj ei (km.mp c')),mN.mpr (aj ei (km.mp c'))])
  refine Ao (l:=(31,4::cd A)) Y Y Y (aE I.aJ) I.bb (mF (a6 (aE pX) (a6 (aE Dq) br)) (by decide:2<=16777216)) (bF zx (ao Y)) (aO (aO ?_))
  refine(q (aH v 18 (.i (i:Nat))) (w.aF (31,4::cd A) (.l (xs++[V.bP [.i j,.e (5,[z.1,z.2])]]))) _ (λa h=>av h) ⟨I.aG,I.aD,I.aJ,I.aI,a4,(aQ λe=>ax (bY (bS e).2).1 (ao Y)).trans I.aT,λl h h4 h5=>(aQ h4).trans (I.aC l h h4 h5)⟩ (fR (dW)) λx=>?_).1;have ez:z=fin y:=je (Lu B zi.1 iy.1 er) zl
  exact⟨λh=>(cD.mp h).imp id λh=>⟨ez,bp.mp h⟩,λh=>cD.mpr (h.imp id λh=>bp.mpr h.2)⟩
end
def uN:Es:=bC.map λB=>(tV B,.i 1)
def rK(A:aP)(ins:Ss)(y:It)(k:Nat):Ss:=if k=0 then ins else ins++(ja A y).toList
def LY(A:aP)(w0:Hp)(y:It):Prop:=b9 bx/\y∈dO/\(ru y.1).1=A/\w0 (31,[3])=M (.d uN)
section
variable{w0:Hp} (hh:LY A w0 y)
def LY.aD:=hh.1
def LY.aC:=hh.2.1
def LY.aG:=hh.2.2.1
def LY.aI:=hh.2.2.2
end
def LQ(A:aP)(w0:Hp)(y:It)(xs:Vs)(ins:Ss)(k j:Nat)(c:gJ)(v:Mp)(w:Hp):Prop:=jb A w0 xs ins v w/\v 12=M (.e (5,[y.1,0]))/\v 13=M (.i k)/\v 14=M (.i j)/\bx.c[j]?=M c/\(y.1,k)∈c.2
section
variable{w0:Hp} {v:Mp} (hh:LQ A w0 y xs ins k j c v w)
def LQ.aT:=hh.1
def LQ.aG:=hh.2.1
def LQ.aJ:=hh.2.2.1
def LQ.aD:=hh.2.2.2.1
def LQ.aC:=hh.2.2.2.2.1
def LQ.aI:=hh.2.2.2.2.2
end
inductive UC(A:aP)(w0:Hp)(y:It)(xs:Vs)(ins:Ss)(m:Nat):QA
 |mk {k j:Nat} {c:gJ} {v:Mp} {w:Hp} {t:Nat}:m+k=(ru y.1).2.length->LQ A w0 y xs (rK A ins y k) k j c v w->UC A w0 y xs ins m (s7 v w t)
variable{v':Mp}
section
variable{v:Mp} {w0:Hp}
theorem jb.tm(I:jb A w0 xs ins v w)(w':Hp):jb A w0 xs ins v (mix [99] w' w):=⟨I.aG,I.aD,I.aJ,I.aI,I.bb,I.aT,λl h h4 h5=>(Dm h).trans (I.aC l h h4 h5)⟩
theorem jb.vv(I:jb A w0 xs ins v w)(e8:v' 8=v 8)(e9:v' 9=v 9)(CY:v' 10=v 10)(C3:v' 11=v 11):jb A w0 xs ins v' w:=⟨e8.trans I.aG,e9.trans I.aD,CY.trans I.aJ,C3.trans I.aI,I.bb,I.aT,I.aC⟩
theorem afx(F:LY A w0 y)(I:jb A w0 xs ins v w):w (31,[3])=M (.d uN):=(I.aC _ (show(31:Nat)≠99 by decide) (λe=>ax (bY (bS e).2).1 (ao Y)) (λe=>ax (bY (bS e).2).1 (ao Y))).trans F.aI
theorem UD(F:LY A w0 y):(y.1,0)=y:=je Y (pU F.aD F.aC).1.symm
theorem Gu(F:LY A w0 y)(h:k<=(ru y.1).2.length):Io (y.1,k):=⟨(pW F.aD y F.aC).1,h⟩
theorem afy(F:LY A w0 y)(hs:sym y=M s):s∈bC:=qy.mpr (pA.mpr ⟨y,F.aC,hs⟩)
theorem afz(B:b9 bx)(h:s∈lets):s∉bC:=λw=>(Go w).elim λy k=>Lb B.aC h ((pU B k.1).2 s k.2).1
theorem Lw{v:Mp}{a:Nat}(B:b9 bx)(hc:bx.c[j]?=M c)(va:(aU [7,8,9,10,11,12,13,14,15,16,17,18] v m7) a=M (.i j)):RE (s7 v w t) (.u (.v 1) (.v a)) (.e (34,c.1)):=xZ (l:=(24,[])) (aE Y) B.aD.aI (aE va) (iO hc)
theorem afA(F:LY A w0 y)(lt:k<(ru y.1).2.length)(L:LQ A w0 y xs (rK A ins y k) k j c v w)(zi:ins.length<=1000)(q:∀v' w' t' j' c',LQ A w0 y xs (rK A ins y (k+1)) (k+1) j' c' v' w'->Q .n (s7 v' w' t')):WB (n+3) Sq Q (s7 v w t):=by
 have B:=F.aD;obtain⟨s,hs⟩:=lW lt;have aa:=ix B.aC (Gu F (b7 _))
 have C:=iB B L.aC;refine rJ (jC (aE L.aJ) bW qk) Y (rJ (x4 (j:=k+1) (ra (aE L.aG) aa.aC Y aa.aI) (aE Y) (iO (Lr.trans hs))) Y ?_);have rest:∀(v:Mp) w,jb A w0 xs (rK A ins y (k+1)) v w->v 12=M (.e (5,[y.1,0]))->v 13=M (.i (k+1:Nat))->v 14=M (.i j)->v 7=M (.s s)->WB (n+3) (.c (.s (.v 16) (.gW (.v 0) 48 (.c (.u (.v 1) (.v 14)) (.c (.v 7) .n)))) (.c (.s (.v 14) (.bV .g (.a (.v 0) 36) (.c (.g 6 (.c (.v 16) .n)) (.c (.q (.cI 1)) .n)))) .n)) Q (s7 v w t):=λv w I gy wF pX v7=>by
  refine cj (i4 (re (aE Y) ⟨_,kB (c:=6) (a:=48) (f:=33) (g:=aH F0 37 (.i B.aD.aC.aC.choose)) B.aD.aC.aC.choose_spec Y Y,rl (a6 (Lw B L.aC pX) (a6 (aE v7) br)) (bI.o (Ur B L.aC L.aI hs λl w1 hl=>dP Y ?_))⟩));obtain⟨c',gN,e'⟩:=(Ak B L.aC L.aI (bE hs)).2 (p8 (sZ L.aI hs));obtain⟨j',hU⟩:=uI gN;have ck:bM (ou bx.c) (kZ (K1 c.2 s))=M (.i j'):=aj e' (Ld B hU)
  refine cj (iu (re (ra (l:=(20,[])) (c:=6) (f:=aH F0 37 (.i B.aD.aC.aC.choose)) (aE Y) B.aD.aC.aC.choose_spec Y Y) ⟨_,lT (l:=(22,[])) B.aD.aG,eC (kM (rl (a6 (aE Y) br) (bI.o (wD (n:=n+2) (u:=mix zR (mix [99] w1 w) bx.u) B.aC (uH C.2.2.2) (aL (jF ..) (aL C.2.2.1 (ao Y))) (p8 (sZ L.aI hs)) hl λw2=>rl (a6 (q9 bW) br) (sr (l:=(22,[])) B.aD.aG (yg (d:=5)).1 ?_)))))⟩));rw[ck,show hp (mix [99] w2 (mix zR (mix [99] w1 w) bx.u))=hb (mix [99] w2 (mix [99] w1 w)) from aq hp (gG Y)]
  refine dP Y (aO (q _ _ _ j' c' ⟨((I.tm w1).tm w2).vv Y Y Y Y,gy,wF,Y,hU,?_⟩));rw[e'];exact sZ L.aI hs
 have e6:∀{v:Mp} {w},jb A w0 xs (rK A ins y k) v w->v 14=M (.i j)->v 7=M (.s s)->RT (s7 v w t) (.m .In (.d (.c (.v 14) (.c (.v 7) .n))) (.v 6)) (bM uN (V.bP [.i j,.s s])).isSome:=λ{v} {w} I pX v7=>z8 (l:=(31,[3])) (mF (a6 (aE pX) (a6 (aE v7) br)) (by decide:2<=16777216)) (aE Y) (afx (w:=w) F I) Y
 have I:=L.aT.vv (v':=aH (aH v 13 (.i ((k:Int)+1))) 7 (.s s)) Y Y Y Y;cases k with
 |succ k=>
  have sl:=(sY B.aC (Gu F (gB lt)) (fY k) hs).2.1;have no:(bM uN (V.bP [.i j,.s s])).isSome=Z:=pL.trans (aA λh=>by rw[uN,fA]at h;obtain⟨b,yo,e⟩:=bk.mp h;exact afz B sl (aj (str_inj (bY (bY (wB e)).2).1) yo))
  exact i8 (aj no (e6 I L.aD Y)) (aO (rest _ w I L.aG Y L.aD Y))
 |zero=>
  have ey:=UD F;have hs:sym y=M s:=aj ey hs
  obtain⟨l,ps,e0,_⟩:=iQ B;obtain rfl:j=0:=B.aD.aT _ _ _ _ y L.aC e0 (aj ey L.aI) F.aC;have yes:(bM uN (V.bP [.i ((0:Nat):Int),.s s])).isSome=O:=by
   rw[show bM uN (V.bP [.i ((0:Nat):Int),.s s])=M (.i 1) from rI (f:=λp=>.i 1) (afy F hs)]
   rfl
  refine iN (aj yes (e6 I L.aD Y)) (rJ (jC (aE Y) bW qk) Y ?_);have I2:=I.vv (v':=aH (aH (aH v 13 (.i ((0:Nat)+1:Int))) 7 (.s s)) 15 (.i ((0:Nat)+1+1:Int))) Y Y Y Y
  refine d7 (IL (λp K=>K=s7 (aH (aH (aH v 13 (.i ((0:Nat)+1:Int))) 7 (.s s)) 15 (.i ((0:Nat)+1+1:Int))) w t) (m₀:=0) Y λp K e=>?_);subst e;refine fu (o:=.Lt) (aE Y) (ra (aE L.aG) aa.aC Y aa.aG) BF (n+3) _ ?_;have e0:rK A ins y 0=ins:=Y
  by_cases l1:(ru y.1).2.length=1
  .rw[l1,av (ao Y)];have ei:rK A ins y (0+1)=ins++[s]:=aq (ins++·) (aq WV ((aw ⟨F.aG,l1⟩).trans hs))
   refine Ao (l:=(31,5::cd A)) Y Y Y (aE I2.aI) (I2.aT:w (31,5::cd A)=_) (mF (a6 (aE L.aD) (a6 (aE Y) br)) (by decide:2<=16777216)) (by rw[bc];exact bF zi (ao Y)) (aO (aO (rest _ _ ⟨I2.aG,I2.aD,I2.aJ,I2.aI,(aQ λe=>ax (bY (bS e).2).1 (ao Y)).trans I2.bb,?_,λl h h4 h5=>(aQ h5).trans (I2.aC l h h4 h5)⟩ L.aG Y L.aD Y)))
   rw[ei,dc];exact a4
  .obtain⟨x,hx⟩:=lW (l:=(ru y.1).2) (j:=1) (u4 lt λe=>l1 e.symm);have lx:=(sY B.aC (Gu (k:=1) F lt) xb hx).2.1
   have ei:rK A ins y (0+1)=rK A ins y 0:=(aq (ins++·) (aq WV (av λh=>l1 h.2))).trans (hY _);refine cast (aw (az (show((2:Nat):Int)<(((ru y.1).2.length+1:Nat):Int) from mV.mpr (wZ (u4 lt λe=>l1 e.symm))))).symm ?_
   refine iN (aj (az (uG lx)) (wi (x4 (j:=2) (ra (aE L.aG) aa.aC Y aa.aI) (aE Y) (iO (Lr.trans hx))) (ra (l:=(1,[])) (c:=4) (f:=f1) (ra (l:=(20,[])) (c:=6) (f:=aH F0 37 (.i B.aD.aC.aC.choose)) (aE Y) B.aD.aC.aC.choose_spec Y Y) B.aC.aD Y Y) B.aC.aJ)) (vW (aO (rest _ _ (ak ei I2) L.aG Y L.aD Y)))
inductive Lx(A:aP)(w0:Hp)(y:It)(xs:Vs)(ins:Ss)(j:Nat)(c:gJ)(i:Nat):QA
 |mk {ox:Vs} {v:Mp} {w:Hp} {t:Nat}:jb A w0 ox ins v w->v 12=M (.e (5,[y.1,0]))->v 14=M (.i j)->ox.length<=xs.length+i->(∀x,x∈ox↔x∈xs\/(fin y∈c.2.take i/\x=Dn y))->Lx A w0 y xs ins j c i (s7 v w t)
theorem afB(B:b9 bx)(d3:w0 (31,[3])=M (.d uN))(hy:y∈dO)(I:jb A w0 xs ins v w)(gy:v 12=M (.e (5,[y.1,y.2])))(zx:xs.length<=90000)(zi:ins.length<=1000)(q:∀v' w' t' ox,jb A w0 ox (ins++(ja A y).toList) v' w'->ox.length<=xs.length+91->(∀x,x∈ox↔x∈xs\/((ru y.1).1=A/\x=Dn y))->Q .n (s7 v' w' t')/\Q .c (s7 v' w' t')):WB (n+3) Su Q (s7 v w t):=by
 have aa:=ix B.aC (pW B y hy);refine kU (fu (o:=.NotEq) (ra (aE gy) aa.aC Y aa.aJ) (aE I.aD) (um Y Y)) (λh=>z6 ?_) λh=>aO (rJ (ra (aE gy) aa.aC Y aa.aD) Y (rJ (aE I.aG) Y ?_))
 .have ne:(ru y.1).1≠A:=λe=>x5 h (aq V.s e);have e:ins=ins++(ja A y).toList:=((aq (ins++·) (aq WV (av λh=>ne h.1))).trans (hY _)).symm
  exact(q v w t xs (aj e I) (mR ..) λx=>⟨.inl,λh=>h.resolve_right λh=>ne h.1⟩).2
 .have nm:(ru y.1).1=A:=str_inj (Ac h);have F:LY A w0 y:=⟨B,hy,nm,d3⟩
  have y2:=(pU B hy).1;obtain⟨l,ps,e0,_⟩:=iQ B;rw[y2]at gy;refine sH (m₀:=(ru y.1).2.length) (UC A w0 y xs ins) (.mk (k:=0) (j:=0) (c:=(l,dO)) Y ⟨I.vv Y Y Y Y,gy,by rw[y2];rfl,Y,e0,aj (UD F).symm hy⟩) λm K J=>?_
  cases J with|@mk k j c v w t em L=>?_
  have Y0:=ix B.aC (Gu F (b7 _));have r:RT (s7 v w t) (.m .Lt (.v 13) (.b .Sub (.a (.v 12) 8) (.cI 1))) (decide ((k:Int)<(((ru y.1).2.length+1:Nat):Int)-1)):=fu (o:=.Lt) (aE L.aJ) (jC (o:=.Sub) (ra (aE L.aG) Y0.aC Y Y0.aG) bW vH) BF
  rw[succ_sub]at r;refine⟨_,r,λh=>?_,λh=>?_⟩
  .have lt:=mV.mp (aB h);refine afA F lt L zi λv' w' t' j' c' L'=>?_;cases m with
   |zero=>exact ax (em▸lt) (by rw[sf];exact dI _)
   |succ m=>exact⟨m,jd m,.mk (by rw[<-em,wU];rfl) L'⟩
  .have ge:=km.mp λh'=>of_decide_eq_false h (mV.mpr h');have ek:k=(ru y.1).2.length:=w9 (em▸Nn ..) ge
   subst ek;have yc:fin y∈c.2:=L.aI
   have C:=iB B L.aC;have ei:rK A ins y (ru y.1).2.length=ins++(ja A y).toList:=by
    unfold rK;by_cases c0:(ru y.1).2.length=0
    .rw[aw c0,show ja A y=U from av λh=>by rw[c0]at h;exact dS h.2 Y]
     exact(hY _).symm
    .exact av c0
   refine gw (l:=(34,c.1)) (a7 c.2) (Lx A w0 y xs (ins++(ja A y).toList) j c) (Lw B L.aC L.aD) (λi K J=>by cases J;exact C.1) (.mk (aj ei L.aT) L.aG L.aD (dj _) λx=>⟨.inl,λh=>h.resolve_right λh=>bw h.1⟩) (λi z K hz J=>?_) λK J=>?_
   .cases J with|@mk ox v w t I gy pX zl mx=>?_
    obtain⟨z,jS,rfl⟩:=dA hz;have zm:=bE jS
    have li:=aL (gB (cV.mp jS).1) C.2.2.1;refine dP Y (afw (v:=aH v 17 (.e (5,[z.1,z.2]))) B (C.2.2.2 _ yc) (C.2.2.2 z zm) (Dp B L.aC yc zm) (I.vv Y Y Y Y) gy pX Y (aL zl (aL (jY zx li) (ao Y))) λv' w' akP hv I' Ly Lz=>?_);have J':Lx A w0 y xs (ins++(ja A y).toList) j c (i+1) (s7 v' w' t):=.mk I' ((hv 12 (ao Y)).trans gy) ((hv 14 (ao Y)).trans pX) (aL Ly (fJ zl)) λx=>(Lz x).trans ⟨λh=>?_,λh=>?_⟩
    .exact⟨J',J'⟩
    .rw[take_snoc jS];rcases h with h|⟨e,h⟩
     .exact((mx x).mp h).imp id λh=>⟨cH _ h.1,h.2⟩
     .refine .inr ⟨cZ _ (aj e (.head _)),h.trans ?_⟩;rw[e];exact aq (λj:Nat=>V.bP [.i j,.e (5,[y.1,(ru y.1).2.length])]) (Lq B L.aC yc).symm
    .rw[take_snoc jS]at h;rcases h with h|⟨h,e⟩
     .exact .inl ((mx x).mpr (.inl h))
     .rcases cD.mp h with h|h
      .exact .inl ((mx x).mpr (.inr ⟨h,e⟩))
      .have ez:z=fin y:=(bp.mp h).symm;refine .inr ⟨ez,e.trans ?_⟩;rw[ez];exact aq (λj:Nat=>V.bP [.i j,.e (5,[y.1,(ru y.1).2.length])]) (Lq B L.aC yc)
   .rw[a7,bc]at J;cases J with|@mk ox v w t I gy pX zl mx=>?_
    rw[e7]at mx;exact aO (q v w t ox I (aL zl (eQ C.2.2.1 _)) λx=>(mx x).trans ⟨λh=>h.imp id λh=>⟨nm,h.2⟩,λh=>h.imp id λh=>⟨yc,h.2⟩⟩).1
end
theorem UE{r:Sx}(f g:α->V)(as:List α)(I:Nat->QA)(he:RE K e (.e l))(hl:∀j K,I j K->K.h l=M (.l (as.map λa=>V.bP [f a,g a])))(i0:I 0 K)(step:∀j a K,as[j]?=M a->I j K->WB n b (Fw.lp (I (j+1)) (Nx n r Q)) ((K.eR i (f a)).eR i' (g a)))(fin:∀K,I as.length K->WB n r Q K):WB n (.c (.f (.a [i,i']) (.l e) b .n) r) Q K:=
 d7 (kO (oi (re he (mH (hl 0 K i0) (lV (tg:=.a [i,i']) (as.map λa=>V.bP [f a,g a]) I (λj K J=>⟨_,hl j K J,Y⟩) i0 (λj v K hv J=>by obtain⟨a,ha,rfl⟩:=dA hv;exact⟨_,Y,Y,step j a K ha J⟩) λK J=>aO (fin K (by rwa [bc]at J)))))))
def iL:Ss:=dO.filterMap (ja bD)
def IC(ds:Ss):Ss:=if ds=[]then []else iL
noncomputable def D9(l:Ss):Es:=l.map λA=>(tV A,.e (31,9::cd A))
noncomputable def D4(l:Ss):Es:=l.map λA=>(tV A,.e (31,4::cd A))
def LC(A:aP)(w:Hp):Prop:=∃vs,w (31,4::cd A)=M (.l vs)/\∀v,v∈vs↔∃y∈dO,(ru y.1).1=A/\v=Dn y
def rL(l:Ss)(w:Hp):Prop:=w (31,[2])=M (.d (D9 l))/\(∀A∈l,w (31,9::cd A)=M (.l [tV bD]))/\∀A,A∉l->w (31,9::cd A)=U
section
variable{l:Ss} (hh:rL l w)
def rL.aC:=hh.1
def rL.aD:=hh.2.1
def rL.aG:=hh.2.2
end
def P7(x:Rn):Prop:=b9 bx/\x.u (32,[])=M (.l (bC.map tV))/\(∀k y,x.u (31,k::y)=U)/\∀w t,w (31,[1])=M (.d (D4 bC))->(∀A∈bC,LC A w)->rL iL w->(∀l:Loc,l.1≠31->l.1≠99->w l=x.u l)->x.Q (V.bP [.e (31,[1]),.e (31,[2])]) (hb w) t
section
variable{x:Rn} (hh:P7 x)
def P7.aI:=hh.1
def P7.aD:=hh.2.1
def P7.aC:=hh.2.2.1
def P7.aG:=hh.2.2.2
end
def LD(x:Rn):Prop:=bI (x.n+4) (bJ 39) [.e (20,[]),.e (24,[]),.e (32,[]),.e (53,[])] x.Q (hb x.u) x.t
def r7:Rn:=sU P7 LD
def tD(ds:Ss)(w:Hp):Prop:=w (31,[3])=M (.d uN)/\w (31,[1])=M (.d (D4 ds))/\(∀A∈ds,LC A w)/\rL (IC ds) w/\(∀A,A∉ds->w (31,4::cd A)=U/\w (31,5::cd A)=U)/\∀l:Loc,l.1≠31->l.1≠99->w l=r7.u l
section
variable{ds:Ss} (hh:tD ds w)
def tD.aT:=hh.1
def tD.aI:=hh.2.1
def tD.aG:=hh.2.2.1
def tD.aC:=hh.2.2.2.1
def tD.aJ:=hh.2.2.2.2.1
def tD.aD:=hh.2.2.2.2.2
end
inductive UG(i:Nat):QA
 |mk {v:Mp} {w:Hp} {t:Nat}:tD (bC.take i) w->UG i (s7 v w t)
inductive LG(A:aP)(w0:Hp)(i:Nat):QA
 |mk {xs:Vs} {v:Mp} {w:Hp} {t:Nat}:jb A w0 xs ((dO.take i).filterMap (ja A)) v w->xs.length<=91*i->(∀x,x∈xs↔∃y∈dO.take i,(ru y.1).1=A/\x=Dn y)->LG A w0 i (s7 v w t)
inductive UH(A:aP)(w1:Hp)(l ins:Ss)(t i:Nat):QA
 |mk {v:Mp} {w:Hp}:v 8=M (.i 0)->v 9=M (.s A)->v 10=M (.e (31,4::cd A))->rL (l++ins.take i) w->(∀k:Loc,k.1≠31\/(∀B,k≠(31,9::cd B))/\k≠(31,[2])->w k=w1 k)->UH A w1 l ins t i (s7 v w t)
variable{l:Ss}
section
variable{v:Mp} {w0:Hp}
theorem mK{a b:Nat}{x y:Nl}(h:cQ a b=Z):((31,a::x):Loc)≠(31,b::y):=λe=>by rw[(bY (bS e).2).1,xa]at h;exact cw h
theorem yq{a:Nat}(h:B≠A):((31,a::cd B):Loc)≠(31,a::cd A):=λe=>h (Ad (bY (bS e).2).2)
theorem UI(B:b9 bx):dO.Nodup:=by
 obtain⟨l,ps,_,e,nd,_⟩:=iQ B;rw[e,JL];refine fQ.mpr ⟨λh=>?_,?_⟩
 .obtain⟨q,_,e⟩:=bk.mp h;exact dS (aq dQ e) Y
 .refine md.mpr (alc ?_ nd);exactλne e=>ne (qK (aq dQ e))
theorem Gv(h:ja A y=M s):(ru y.1).1=A/\(ru y.1).2=[s]:=by
 unfold ja at h;by_cases c:(ru y.1).1=A/\(ru y.1).2.length=1
 .rw[aw c]at h;obtain⟨a,ea⟩:=ai0.mp c.2;have h:(ru y.1).2[y.2]?=M s:=h
  rw[ea]at h;have lt:=(cV.mp h).1
  rw[Hm.mp lt]at h;exact⟨c.1,ea.trans (aq (λx=>[x]) (bu h))⟩
 .rw[av c]at h;exact cK h
theorem UJ(B:b9 bx)(hA:A∈bC)(hy:y∈dO)(h:ja A y=M s):A=bD:=by
 have e:=Gv h;have io:=(pW B y hy).1
 obtain⟨p,k⟩:=y;cases p with
 |zero=>have e1:sP=A:=e.1;obtain⟨y',ef,pG⟩:=Go hA;exact ax (ak e1 ((pU B ef).2 A pG).1) B.aC.aC.cF
 |succ q=>
  rcases B.aC.aC.aD _ (sX io)with h|⟨h,_⟩|⟨_,_,h,_⟩
  .exact jZ (h.symm.trans e.2) Y
  .exact e.1.symm.trans h
  .exact jZ (bY (h.symm.trans e.2)).2 Y
theorem afC(B:b9 bx):iL.Nodup:=by
 unfold iL;refine aiS.mpr ((UI B).imp_of_mem λ{a b} ha hb ne x hx x' mL e=>ne ?_);have e1:=Gv hx
 have e2:=Gv mL;have er:ru a.1=ru b.1:=je (e1.1.trans e2.1.symm) (e1.2.trans ((aq (λx=>[x]) e).trans e2.2.symm))
 exact je (Lu B (pW B a ha).1 (pW B b hb).1 er) ((pU B ha).1.trans (pU B hb).1.symm)
theorem LI(B:b9 bx):A∈iL↔(bD,[A])∈gS:=by
 refine⟨λh=>?_,λh=>?_⟩
 .obtain⟨y,hy,e⟩:=pA.mp h;have e:=Gv e
  have io:=(pW B y hy).1;obtain⟨p,k⟩:=y;cases p with
  |zero=>exact ax (show sP=bD from e.1) (ao Y)
  |succ q=>exact aj (je e.1 e.2:ru (q+1)=(bD,[A])) (sX io)
 .obtain⟨q,hq⟩:=kE h;obtain⟨l,ps,_,e,_,lv⟩:=iQ B;have m:(q+1,0)∈dO:=by rw[e];exact .tail _ (dw (f:=λq=>(q+1,0)) ((lv q _ hq).mpr .s))
  refine pA.mpr ⟨(q+1,0),m,?_⟩;unfold ja sym oo;rw[show qx gS (q+1)=(bD,[A]) from Ai hq,show ru (q+1)=(bD,[A]) from Ai hq]
  exact aw ⟨Y,Y⟩
theorem rL.add(I:rL l w)(n:s∉l):rL (l++[s]) (((w.aF (31,9::cd s) (.l [])).aF (31,[2]) (.d (cC (D9 l) (tV s) (.e (31,9::cd s))))).aF (31,9::cd s) (.l ([]++[tV bD]))):=⟨(aQ (mK Y)).trans (a4.trans (aq (λx=>M (af.d x)) ((kW (by
 rw[D9,fA];exactλh=>(bk.mp h).elim λB k=>n (aj (tB k.2) k.1))).trans (dc (f:=λA=>(tV A,V.e (31,9::cd A))) (l₂:=[s])).symm))),λA hA=>by
 by_cases c:A=s
 .rw[c];exact a4
 .exact(aQ (yq c)).trans ((aQ (mK Y)).trans ((aQ (yq c)).trans (I.aD A ((cD.mp hA).resolve_right λh=>c (bp.mp h))))),λA hA=>by
 have c:A≠s:=λc=>hA (cZ _ (aj c (.head _)));exact(aQ (yq c)).trans ((aQ (mK Y)).trans ((aQ (yq c)).trans (I.aG A λh=>hA (cH _ h))))⟩
theorem afD(B:b9 bx)(hA:bC[i]?=M A)(S:tD (bC.take i) w)(v8:v 8=M (.i 0))(v9:v 9=M (.s A))(q:∀v' w' t',tD (bC.take (i+1)) w'->Q .n (s7 v' w' t')):WB (n+3) Sy Q (s7 v w t):=by
 have Am:=bE hA;have nA:=pN yk hA
 obtain⟨f4,f5⟩:=S.aJ A nA;obtain⟨l0,ps,e0,_⟩:=iQ B;refine cj (fw (eB ⟨b7 _,dF (31,4::cd A) Y f4 (dP Y ?_)⟩));rw[iC Y Y];refine cj (fw (eB ⟨b7 _,dF (31,5::cd A) Y (show(w.aF (31,4::cd A) (.l [])) (31,5::cd A)=U from(aQ (mK Y)).trans f5) (dP Y ?_)⟩))
 rw[iC Y Y];have I0:∀v:Mp,v 8=M (.i 0)->v 9=M (.s A)->v 10=M (.e (31,4::cd A))->v 11=M (.e (31,5::cd A))->jb A w [] [] v ((w.aF (31,4::cd A) (.l [])).aF (31,5::cd A) (.l [])):=λv v8 v9 v10 v11=>⟨v8,v9,v10,v11,(aQ (mK Y)).trans a4,a4,λl b h4 h5=>(aQ h5).trans (aQ h4)⟩
 refine gw (l:=(34,l0)) (a7 dO) (LG A w) (Lw (c:=(l0,dO)) B e0 v8) (λk K J=>by cases J;exact(iB B e0).1) (.mk (I0 _ v8 v9 Y Y) (b7 _) λx=>⟨(λh=>bw h),λh=>h.elim λy k=>bw k.1⟩) (λk y K hy J=>?_) λK J=>?_
 .cases J with|@mk xs v w1 t I zl mx=>?_
  obtain⟨y,hz,rfl⟩:=dA hy;have lk:=gc (cV.mp hz).1 (iB B e0).2.2.1
  refine dP Y (afB (v:=aH v 12 (.e (5,[y.1,y.2]))) B S.aT (bE hz) (I.vv Y Y Y Y) Y (aL zl (aL (mQ 91 (gB lk)) (ao Y))) (aL (jF ..) (aL (iG ..) (aL (iB B e0).2.2.1 (ao Y)))) λv' w' t' ox I' Ly Lz=>?_);have J':LG A w (k+1) (s7 v' w' t'):=.mk (by rw[take_snoc hz,D1,CM];exact I') (aL Ly (by rw[qb];exact pz zl _)) λx=>(Lz x).trans ⟨λh=>?_,λh=>?_⟩
  .exact⟨J',J'⟩
  .rw[take_snoc hz];rcases h with h|h
   .exact((mx x).mp h).imp λy k=>⟨cH _ k.1,k.2⟩
   .exact⟨y,cZ _ (.head _),h⟩
  .obtain⟨z,jS,h⟩:=h;rw[take_snoc hz]at jS;rcases cD.mp jS with jS|jS
   .exact .inl ((mx x).mpr ⟨z,jS,h⟩)
   .exact .inr (aj (bp.mp jS) h)
 .rw[a7,bc]at J;cases J with|@mk xs v w1 t I zl mx=>?_
  rw[e7]at I mx;have w1u:∀l:Loc,l.1≠31\/(∀B,l≠(31,9::cd B))/\l≠(31,[2])->w1 l=w1 l:=λb b=>Y
  have f1:∀{a x},a≠4->a≠5->w1 (31,a::x)=w (31,a::x):=λh4 h5=>I.aC _ (show(31:Nat)≠99 by decide) (λe=>h4 (bY (bS e).2).1) λe=>h5 (bY (bS e).2).1
  have i9:rL (IC (bC.take i)) w1:=⟨(f1 (ao Y) (ao Y)).trans S.aC.aC,λA h=>(f1 (ao Y) (ao Y)).trans (S.aC.aD A h),λA h=>(f1 (ao Y) (ao Y)).trans (S.aC.aG A h)⟩;have eN:IC (bC.take i)++dO.filterMap (ja A)=IC (bC.take (i+1)):=by
   unfold IC;rw[take_snoc hA,av (ais _ (A1 _ _))];cases i with
   |zero=>
    obtain rfl:bD=A:=bu ((yp B).symm.trans hA)
    rfl
   |succ i=>
    have ne:bC.take (i+1)≠[]:=λe=>by have:=(V6 (fY i)).trans (yp B);rw[e]at this;exact cK this
    rw[av ne,List.filterMap_eq_nil_iff.mpr λy hy=>?_,hY];cases h:ja A y with
    |none=>rfl
    |some s=>obtain rfl:=UJ B Am hy h;exact ax (bE ((V6 (fY i)).trans (yp B))) nA
  have nd:(IC (bC.take i)++dO.filterMap (ja A)).Nodup:=eN▸(by
   unfold IC
   split
   .exact gh
   .exact afC B)
  refine gw (l:=(31,5::cd A)) ((dO.filterMap (ja A)).map tV) (UH A w1 (IC (bC.take i)) (dO.filterMap (ja A)) t) (aE I.aI) (λk K J=>by cases J with|mk _ _ _ _ f=>exact(f _ (.inr ⟨λB=>mK Y,mK Y⟩)).trans I.aT) (.mk I.aG I.aD I.aJ (by rw[Ea,hY];exact i9) w1u) (λk x K hx J=>?_) λK J=>?_
  .cases J with|@mk v w2 v8 v9 v10 J f=>?_
   obtain⟨s,hs,rfl⟩:=dA hx;obtain⟨y,hy,afF⟩:=pA.mp (bE hs);obtain rfl:=UJ B Am hy afF;have nk:s∉IC (bC.take i)++(dO.filterMap (ja bD)).take k:=λh=>by have nd:=jX.mp nd;exact(cD.mp h).elim (λh=>nd.2.2 s h s (bE hs) Y) (pN nd.2.1 hs)
   have zD:(D9 (IC (bC.take i)++(dO.filterMap (ja bD)).take k)).length<16777216:=by
    rw[D9,bc,dW];refine bF (jY (?_:_<=91) (aL (iG ..) (aL (jF ..) (iB B e0).2.2.1))) (ao Y);unfold IC
    split
    .exact b7 _
    .exact aL (jF ..) (iB B e0).2.2.1
   have no:bM (D9 (IC (bC.take i)++(dO.filterMap (ja bD)).take k)) (tV s)=U:=DX.mp λh=>by
    rw[pL]at h;have h:=aB h
    rw[D9,fA]at h;exact(bk.mp h).elim λB k=>nk (aj (tB k.2) k.1)
   have tn:RT (s7 (aH v 18 (tV s)) w2 t) (.m .NotIn (.v 18) (.v 5)) (!(bM (D9 (IC (bC.take i)++(dO.filterMap (ja bD)).take k)) (tV s)).isSome):=F3 (l:=(31,[2])) (aE Y) (aE Y) J.aC jT;rw[no]at tn;refine dP Y (iN tn (fW (pE (fw (eB ⟨b7 _,dF (31,9::cd s) Y (J.aG s nk) (re (aE Y) (re (aE Y) (rj (l:=(31,[2])) (show((hb w2).aF (31,9::cd s) (.l [])) (31,[2])=_ from(aQ (mK Y)).trans J.aC) jT zD ?_)))⟩)))))
   show WB _ _ _ ⟨_,((hb w2).aF (31,9::cd s) _).aF (31,[2]) _,t⟩;rw[iC Y Y,iC Y Y];have e2:((w2.aF (31,9::cd s) (.l [])).aF (31,[2]) (.d (cC (D9 (IC (bC.take i)++(dO.filterMap (ja bD)).take k)) (tV s) (.e (31,9::cd s))))) (31,[2])=M (.d (cC (D9 (IC (bC.take i)++(dO.filterMap (ja bD)).take k)) (tV s) (.e (31,9::cd s)))):=a4
   have e9:((w2.aF (31,9::cd s) (.l [])).aF (31,[2]) (.d (cC (D9 (IC (bC.take i)++(dO.filterMap (ja bD)).take k)) (tV s) (.e (31,9::cd s))))) (31,9::cd s)=M (.l []):=(aQ (mK Y)).trans a4;refine aO (Ao (l:=(31,9::cd s)) (vs:=[]) Y Y Y (dU (aE Y) (aE Y) (fG (l:=(31,[2])) e2 jT we)) e9 (mF (a6 (aE v8) (a6 (aE v9) br)) (by decide:2<=16777216)) (ao Y) (aO (.mk v8 v9 v10 (by rw[take_snoc hs,<-tW];exact J.add nk) λk h=>?_)))
   have h1:k≠(31,9::cd s):=λe=>h.elim (λh=>h (by rw[e])) λh=>h.1 s e
   exact(aQ h1).trans ((aQ λe=>h.elim (λh=>h (by rw[e])) λh=>h.2 e).trans ((aQ h1).trans (f k h)))
  .rw[bc]at J;cases J with|@mk v w2 v8 v9 v10 J f=>?_
   rw[e7,eN]at J;have f2:∀{a x},a≠9->a≠2->w2 (31,a::x)=w1 (31,a::x):=λh9 h2=>f _ (.inr ⟨λB e=>h9 (bY (bS e).2).1,λe=>h2 (bY (bS e).2).1⟩)
   have l1:w2 (31,[1])=M (.d (D4 (bC.take i))):=(f2 (ao Y) (ao Y)).trans ((f1 (ao Y) (ao Y)).trans S.aI);have zD:(D4 (bC.take i)).length<16777216:=by rw[D4,bc];exact bF (aL (iG ..) (Dh B)) (ao Y)
   refine l4 (l:=(31,[1])) Y Y (aE Y) l1 (mF (a6 (aE v8) (a6 (aE v9) br)) (by decide:2<=16777216)) (aE v10) Y zD (aO (q v _ t ⟨?_,?_,λC hC=>?_,⟨J.aC,J.aD,J.aG⟩,λC hC=>?_,λl h h9=>?_⟩))
   .exact(aQ (mK Y)).trans ((f2 (ao Y) (ao Y)).trans ((f1 (ao Y) (ao Y)).trans S.aT))
   .rw[take_snoc hA];refine a4.trans (aq (λx=>M (af.d x)) ((kW ?_).trans (dc (f:=λA=>(tV A,V.e (31,4::cd A))) (l₂:=[A])).symm));rw[D4,fA];exactλh=>(bk.mp h).elim λB k=>nA (aj (tB k.2) k.1)
   .by_cases c:C=A
    .subst c;exact⟨xs,(aQ (mK Y)).trans ((f2 (ao Y) (ao Y)).trans I.bb),mx⟩
    .rw[take_snoc hA]at hC;obtain⟨vs,hv,k⟩:=S.aG C ((cD.mp hC).resolve_right λh=>c (bp.mp h));exact⟨vs,(aQ (mK Y)).trans ((f2 (ao Y) (ao Y)).trans ((I.aC _ (show(31:Nat)≠99 by decide) (yq c) (mK Y)).trans hv)),k⟩
   .rw[take_snoc hA]at hC;have c:C≠A:=λc=>hC (cZ _ (aj c (.head _)))
    have o:=S.aJ C λh=>hC (cH _ h);exact⟨(aQ (mK Y)).trans ((f2 (ao Y) (ao Y)).trans ((I.aC _ (show(31:Nat)≠99 by decide) (yq c) (mK Y)).trans o.1)),(aQ (mK Y)).trans ((f2 (ao Y) (ao Y)).trans ((I.aC _ (show(31:Nat)≠99 by decide) (mK Y) (yq c)).trans o.2))⟩
   .exact(aQ λe=>h (by rw[e])).trans ((f l (.inl h)).trans ((I.aC l h9 (λe=>h (by rw[e])) λe=>h (by rw[e])).trans (S.aD l h h9)))
end
inductive UK(i:Nat):QA
 |mk {v:Mp} {w:Hp}:w (31,[3])=M (.d ((bC.take i).map λB=>(tV B,.i 1)))->w (31,[1])=M (.d [])->w (31,[2])=M (.d [])->(∀l:Loc,l.1≠31\/(∃a x,3<a/\l=(31,a::x))->w l=r7.u l)->UK i (s7 v w r7.t)
theorem afG(H:P7 r7):LD r7:=by
 have B:=H.aI;refine fP ac2 Y (cj (kP (dF (31,[1]) Y (H.aC _ _) (cj (kP (dF (31,[2]) Y (H.aC 2 []) (cj (kP (dF (31,[3]) Y (H.aC 3 []) ?_)))))))));show WB _ _ _ ⟨m7,(((hb r7.u).aF (31,[1]) (.d [])).aF (31,[2]) (.d [])).aF (31,[3]) (.d []),r7.t⟩;rw[iC Y Y,iC Y Y,iC Y Y,show m7=aU [7,8,9,10,11,12,13,14,15,16,17,18] m7 m7 from gH]
 have zl:∀{i},((bC.take i).map λB=>(tV B,V.i 1)).length<16777216:=by intro j;rw[bc];exact bF (aL (iG ..) (Dh B)) (ao Y)
 have n3:∀{l:Loc}{b:Nat},b<=3->l.1≠31\/(∃a x,3<a/\l=(31,a::x))->l≠(31,[b]):=λhb h e=>by
  subst e;rcases h with h|⟨a,x,h,e⟩
  .exact h Y
  .exact km.mpr hb (ak (bY (bS e).2).1 h)
 refine gw (l:=(32,[])) (bC.map tV) UK (aE Y) (λi K J=>by cases J with|mk _ _ _ f=>exact(f (32,[]) (.inl (ao Y))).trans H.aD) (.mk a4 Y Y λl h=>(aQ (n3 (ao Y) h)).trans ((aQ (n3 (ao Y) h)).trans (aQ (n3 (ao Y) h)))) (λi x K hx J=>?_) λK J=>?_
 .cases J with|@mk v w d3 l1 l2 f=>?_
  obtain⟨A,hA,rfl⟩:=dA hx;refine dP Y (l4 (l:=(31,[3])) Y Y (aE Y) d3 (aE Y) bW jT zl (aO (.mk ?_ l1 l2 λl h=>(aQ (n3 (ao Y) h)).trans (f l h))));rw[take_snoc hA,dc];exact a4.trans (aq (λx=>M (af.d x)) (kW (by rw[fA];exactλh=>(bk.mp h).elim λB k=>pN yk hA (aj (tB k.2) k.1))))
 .rw[bc]at J;cases J with|@mk v w d3 l1 l2 f=>?_
  rw[e7]at d3;refine UE (l:=(32,[])) (λc=>.i 0) V.s bC UG (aE Y) (λi K J=>by cases J with|mk S=>exact(S.aD (32,[]) (ao Y) (ao Y)).trans H.aD) (.mk ⟨d3,l1,(λA h=>bw h),⟨l2,(λA h=>bw h),λA c=>(f _ (.inr ⟨9,_,ao Y,Y⟩)).trans (H.aC _ _)⟩,λA c=>⟨(f _ (.inr ⟨4,_,ao Y,Y⟩)).trans (H.aC _ _),(f _ (.inr ⟨5,_,ao Y,Y⟩)).trans (H.aC _ _)⟩,λl h c=>f l (.inl h)⟩) (λi A K hA J=>?_) λK J=>?_
  .cases J with|@mk v w t S=>?_
   exact An Y Y (afD (v:=aH (aH v 8 (.i 0)) 9 (.s A)) B hA ⟨S.aT,S.aI,S.aG,S.aC,S.aJ,S.aD⟩ Y Y λv' w' t' S'=>.mk S')
  .cases J with|@mk v w t S=>?_
   rw[e7]at S;have ei:IC bC=iL:=av λe=>by have:=yp B;rw[e]at this;exact cK this
   exact jO (mF (a6 (aE Y) (a6 (aE Y) br)) (by decide:2<=16777216)) (H.aG w t S.aI S.aG (aj ei S.aC) S.aD)
theorem afH{x:Rn}(p:P7 x):LD x:=wy afG p
def lD(A:aP):Ss:=FO DR qB A
def Dr(p:Nat)(w:Hp):Prop:=w (6,[p,(ru p).2.length])=M (.d [(.i (stI (p,(ru p).2.length):Nat),.e (52,[p]))])/\w (52,[p])=M (.l ((lD (ru p).1).map .s))
def P8(x:Rn):Prop:=b9 bx/\x.u (31,[1])=M (.d (D4 bC))/\(∀A∈bC,LC A x.u)/\x.u (38,[1])=M (.d (FD bC))/\(∀A∈bC,x.u (39,cd A)=M (.l ((lD A).map .s)))/\(∀y,x.u (6,y)=hL (6,y))/\(∀y,x.u (52,y)=U)/\∀w t,(∀y∈dO,y.1≠0->Dr y.1 w)->(∀l:Loc,l.1≠6->l.1≠52->l.1≠99->w l=x.u l)->x.Q .n (hb w) t
section
variable{x:Rn} (hh:P8 x)
def P8.aD:=hh.1
def P8.aC:=hh.2.1
def P8.aI:=hh.2.2.1
def P8.bj:=hh.2.2.2.1
def P8.bb:=hh.2.2.2.2.1
def P8.aT:=hh.2.2.2.2.2.1
def P8.aJ:=hh.2.2.2.2.2.2.1
def P8.aG:=hh.2.2.2.2.2.2.2
end
def LK(x:Rn):Prop:=bI (x.n+1) (bJ 42) [.e (20,[]),.e (31,[1]),.e (38,[1])] x.Q (hb x.u) x.t
def r8:Rn:=sU P8 LK
noncomputable def m8:Mp:=λi=>([V.e (20,[]),.e (31,[1]),.e (38,[1])]++[])[i]?
abbrev s8(v:Mp)(w:Hp)(t:Nat):AS:=⟨aU [3,4,5,6,7,8] v m8,hb w,t⟩
def LH(dn:Nat->Prop)(w:Hp):Prop:=(∀y∈dO,dn y.1->Dr y.1 w)/\(∀y∈dO,¬dn y.1->w (6,[y.1,(ru y.1).2.length])=M (.d [])/\w (52,[y.1])=U)/\∀l:Loc,l.1≠6->l.1≠52->l.1≠99->w l=r8.u l
section
variable{dn:Nat->Prop} (hh:LH dn w)
def LH.aD:=hh.1
def LH.aG:=hh.2.1
def LH.aC:=hh.2.2
end
def Ds(i:Nat)(vs:Vs)(p:Nat):Prop:=(ru p).1∈bC.take i\/∃y∈dO,y.1=p/\Dn y∈vs
inductive UL(i:Nat):QA
 |mk {v:Mp} {w:Hp} {t:Nat}:LH (Ds i []) w->UL i (s8 v w t)
inductive UM(i:Nat)(A:aP)(vs:Vs)(k:Nat):QA
 |mk {v:Mp} {w:Hp} {t:Nat}:LH (Ds i (vs.take k)) w->v 3=M (tV A)->UM i A vs k (s8 v w t)
inductive Gw(p:Nat)(b:Bool)(v:Mp)(w1:Hp)(t:Nat)(k:Nat):QA
 |mk {v':Mp} {w:Hp}:(∀a,a≠8->v' a=v a)->w (52,[p])=M (.l ((bif b then lD (ru p).1 else(lD (ru p).1).take k).map .s))->(∀l:Loc,l≠(52,[p])->w l=w1 l)->Gw p b v w1 t k (s8 v' w t)
variable{b:Bool}
section
variable{v:Mp}
theorem LM(B:b9 bx)(hA:A∈bC):(lD A).Nodup:=by
 have d:∀{A},(DR A).Nodup:=λ{A}=>by
  unfold DR;by_cases c:A=bD
  .rw[aw c];refine qY (yj gh) λh=>?_;obtain⟨y,hy,e⟩:=pA.mp (qy.mp h);exact ax (Lf B (uZ hy) e) (ao Y)
  .rw[av c,hY];exact yj gh
 exact yj d
theorem UN(B:b9 bx)(h:Lv gS A):A∈bC:=by
 obtain⟨l,ps,_,e,_,lv⟩:=iQ B;cases h with
 |s=>exact bE (yp B)
 |@c r s hr l hs=>
  obtain⟨q,hq⟩:=kE hr;refine qy.mpr (pA.mpr ⟨(q+1,0),by rw[e];exact .tail _ (dw (f:=λq=>(q+1,0)) ((lv q _ hq).mpr l)),?_⟩)
  unfold sym oo;rw[show qx gS (q+1)=r from Ai hq]
  exact hs
theorem UO(B:b9 bx)(hy:y∈dO)(h0:y.1≠0):Lv gS (ru y.1).1:=by
 obtain⟨l,ps,_,e,_,lv⟩:=iQ B;have io:=(pW B y hy).1
 rw[e]at hy;rcases b0.mp hy with rfl|hy
 .exact ax Y h0
 .obtain⟨q,hq,rfl⟩:=bk.mp hy;have hr:gS[q]?=M (ru (q+1)):=wz io
  exact(lv q _ hr).mp hq
theorem afI(io:Io (p,(ru p).2.length))(B:b9 bx){w1:Hp}(hA:(ru p).1∈bC)(v5:v 5=M (.i (stI (p,(ru p).2.length):Nat)))(v6:v 6=M (.e (5,[p,(ru p).2.length])))(d6:w1 (6,[p,(ru p).2.length])=M (.d [(.i (stI (p,(ru p).2.length):Nat),.e (52,[p]))]))(hs:(lD (ru p).1)[k]?=M s)(z:(lD (ru p).1).length<=1000)(J:Gw p b v w1 t k K)(q:∀aZ,Gw p b v w1 t (k+1) aZ->Q .n aZ):WB n Sz Q (K.eR 8 (.s s)):=by
 cases J with|@mk v' w hv pY f=>?_
 have X:=ix B.aC io;refine dP Y ?_;have d6':w (6,[p,(ru p).2.length])=M (.d [(.i (stI (p,(ru p).2.length):Nat),.e (52,[p]))]):=(f _ (bf Y)).trans d6
 have r:RE (s8 (aH v' 8 (.s s)) w t) (.u (.a (.v 6) 14) (.v 5)) (.e (52,[p])):=dU (ra (aE ((hv 6 (ao Y)).trans v6)) X.aC Y X.bb) (aE ((hv 5 (ao Y)).trans v5)) (fG (l:=(6,[p,(ru p).2.length])) d6' Y (aw Y));have ly:∀a,a≠8->aH v' 8 (.s s) a=v a:=λa h=>(av h).trans (hv a h)
 have sm:=bE hs;refine rB (Ag (l:=(52,[p])) (aE Y) r pY) (λni=>?_) λni=>aO (aO (q _ (.mk ly ?_ f)))
 .cases b with
  |true=>exact ax sm ni
  |false=>
   refine Ao (l:=(52,[p])) Y Y Y r pY (aE Y) (by rw[bc];exact bF (aL (iG ..) z) (ao Y)) (aO (aO (q _ (.mk ly ?_ λl h=>(aQ h).trans (f l h)))))
   exact a4.trans (aq (λx=>M (af.l x)) (by show _=NO _ (akx _ _);rw[take_snoc hs,dc];rfl))
 .cases b with
  |true=>exact pY
  |false=>exact ax ni (pN (LM B hA) hs)
theorem LH.put{dn:Nat->Prop}{w2:Hp}(L:LH dn w)(ok:Dr p w2)(f:∀l:Loc,l≠(52,[p])->l≠(6,[p,(ru p).2.length])->l.1≠99->w2 l=w l):LH (λp'=>dn p'\/p'=p) w2:=
 ⟨λy hy h=>by
  by_cases c:y.1=p
  .exact ak c ok
  .have o:=L.aD y hy (h.resolve_right c);exact⟨(f _ (bf Y) (λe=>c (bY (bS e).2).1) (show(6:Nat)≠99 by decide)).trans o.1,(f _ (jQ c) (bf Y) (show(52:Nat)≠99 by decide)).trans o.2⟩,
 λy hy h=>by
  have c:y.1≠p:=λc=>h (.inr c);have o:=L.aG y hy λh'=>h (.inl h')
  exact⟨(f _ (bf Y) (λe=>c (bY (bS e).2).1) (show(6:Nat)≠99 by decide)).trans o.1,(f _ (jQ c) (bf Y) (show(52:Nat)≠99 by decide)).trans o.2⟩,
 λl h6 tE As=>(f l (λe=>tE (by rw[e])) (λe=>h6 (by rw[e])) As).trans (L.aC l h6 tE As)⟩
theorem UP(B:b9 bx)(hA:A∈bC):(lD A).length<=1000:=by
 have d:∀{A},(DR A).length<=92:=λ{A}=>by
  unfold DR ie;rw[dW];refine jY (aL qr (aL (jF ..) (aL (iG ..) ((iQ B).elim λl e=>e.elim λps e=>aL (jF ..) (iB B e.1).2.2.1)))) (?_:_<=1)
  split<;>decide
 unfold lD FO qB;have f:∀{l k:Ss},(l.foldl cX k).length<=k.length+l.length:=λ{l}=>by
  induction l with
  |nil=>exactλ{k}=>dj _
  |cons a l ih=>exactλ{k}=>aL ih (by rw[oE,nU l.length,<-nO];exact pz x6 _)
 refine aL f (aL (jY d (?_:_<=92)) (ao Y))
 split
 .rw[yL,Hd,hY];exact d
 .exact b7 _
theorem afK(H:P8 r8){dn:Nat->Prop}(L:LH dn w)(hy:y∈dO)(hA:(ru y.1).1∈bC)(v3:v 3=M (tV (ru y.1).1))(v5:v 5=M (.i (stI (fin y):Nat)))(v6:v 6=M (.e (5,[y.1,(ru y.1).2.length])))(q:∀v' w' t',LH (λp=>dn p\/p=y.1) w'->v' 3=M (tV (ru y.1).1)->Q .n (s8 v' w' t')):WB n J9 Q (s8 v w t):=by
 have B:=H.aD;have io:Io (y.1,(ru y.1).2.length):=⟨(pW B y hy).1,dj _⟩
 have X:=ix B.aC io;have LN:∀{w},RE (s8 v w t) (.a (.v 6) 14) (.e (6,[y.1,(ru y.1).2.length])):=ra (aE v6) X.aC Y X.bb
 have rest:∀(b:Bool)(w1:Hp),w1 (6,[y.1,(ru y.1).2.length])=M (.d [(.i (stI (fin y):Nat),.e (52,[y.1]))])->w1 (52,[y.1])=M (.l ((bif b then lD (ru y.1).1 else []).map .s))->(∀l:Loc,l≠(52,[y.1])->l≠(6,[y.1,(ru y.1).2.length])->w1 l=w l)->WB n (Sx.dD 1 J9) Q (s8 v w1 t):=λb w1 d6 pY f=>by
  have of:∀{l:Loc},l.1≠6->l.1≠52->l.1≠99->w1 l=r8.u l:=λ{l} h6 tE As=>(f l (λe=>tE (by rw[e])) λe=>h6 (by rw[e])).trans (L.aC l h6 tE As)
  have o9:w1 (38,[1])=M (.d (FD bC)):=(of (l:=(38,[1])) (ao Y) (ao Y) (ao Y)).trans H.bj;refine cj (iu (re (aE Y) ⟨_,lT (l:=(38,[1])) o9,eC (re (aE v3) (eC (fw (eB ⟨b7 _,kC (eB (sr (l:=(38,[1])) o9 jT ?_))⟩))))⟩));rw[show bM (FD bC) (tV (ru y.1).1)=M (.e (39,cd (ru y.1).1)) from rI hA]
  refine dP Y ?_;show WB n _ _ ⟨_,(hb w1).aF (99,[t]) _,t+1⟩;rw[iC Y Y];have nG:∀{w2:Hp},(∀l:Loc,l≠(52,[y.1])->w2 l=(w1.aF (99,[t]) (.l [])) l)->w2 (39,cd (ru y.1).1)=M (.l ((lD (ru y.1).1).map .s)):=λf2=>(f2 _ (bf Y)).trans ((of (l:=(39,cd (ru y.1).1)) (show(39:Nat)≠6 by decide) (show(39:Nat)≠52 by decide) (show(39:Nat)≠99 by decide)).trans (H.bb _ hA))
  refine gw (l:=(39,cd (ru y.1).1)) ((lD (ru y.1).1).map .s) (Gw y.1 b (aH v 7 (.e (39,cd (ru y.1).1))) (w1.aF (99,[t]) (.l [])) (t+1)) (aE Y) (λk K J=>by cases J with|@mk v' w2 _ _ f2=>exact nG (w2:=w2) f2) (.mk (λg g=>Y) (by cases b<;>exact pY) λg g=>Y) (λk s K hs J=>?_) λK J=>?_
  .obtain⟨s,pG,rfl⟩:=dA hs;exact afI (v:=aH v 7 (.e (39,cd (ru y.1).1))) io B hA v5 v6 ((aQ (bf Y)).trans d6:(w1.aF (99,[t]) (.l [])) (6,[y.1,(ru y.1).2.length])=_) pG (UP B hA) J λaZ J'=>J'
  .rw[bc]at J;cases J with|@mk v' w2 hv pY f2=>?_
   have pY:w2 (52,[y.1])=M (.l ((lD (ru y.1).1).map .s)):=by
    cases b with
    |true=>exact pY
    |false=>rw[e7]at pY;exact pY
   exact aO (q v' w2 _ (L.put ⟨(f2 _ (bf Y)).trans d6,pY⟩ λl tE h6 As=>(f2 l tE).trans ((aQ λe=>As (by rw[e])).trans (f l tE h6))) ((hv 3 (ao Y)).trans v3))
 by_cases c:dn y.1
 .have o:=L.aD y hy c;have tn:RT (s8 v w t) (.m .NotIn (.v 5) (.a (.v 6) 14)) (!(bM [(V.i (stI (y.1,(ru y.1).2.length):Nat),V.e (52,[y.1]))] (.i (stI (fin y):Nat))).isSome):=F3 (l:=(6,[y.1,(ru y.1).2.length])) (aE v5) LN o.1 Y
  rw[show bM [(V.i (stI (y.1,(ru y.1).2.length):Nat),V.e (52,[y.1]))] (.i (stI (fin y):Nat))=M (.e (52,[y.1])) from aw Y]at tn
  exact i8 tn (aO (rest O w o.1 o.2 λg g g=>Y))
 .have o:=L.aG y hy c;refine iN (show RT _ _ (!(bM [] (V.i (stI (fin y):Nat))).isSome) from F3 (l:=(6,[y.1,(ru y.1).2.length])) (aE v5) LN o.1 Y) (fW (pE (fw (eB ⟨b7 _,dF (52,[y.1]) Y o.2 ?_⟩))))
  show WE n _ _ ⟨_,(hb w).aF (52,[y.1]) (.l []),t⟩;rw[iC Y Y];refine re LN (re (aE v5) (rj (l:=(6,[y.1,(ru y.1).2.length])) (ds:=[]) ((aQ (bf Y)).trans o.1:(w.aF (52,[y.1]) (.l [])) (6,[y.1,(ru y.1).2.length])=_) Y (ao Y) ?_));show WB n _ _ ⟨_,(hb (w.aF (52,[y.1]) (.l []))).aF (6,[y.1,(ru y.1).2.length]) _,t⟩;rw[iC Y Y];exact aO (rest Z _ a4 a4 λl tE h6=>(aQ h6).trans (aQ tE))
end
theorem afL(H:P8 r8):LK r8:=by
 have B:=H.aD;refine fP ac7 Y ?_;show WB r8.n SD _ ⟨m8,hb r8.u,r8.t⟩;rw[show m8=aU [3,4,5,6,7,8] m8 m8 from gH]
 have e1:∀{dn:Nat->Prop}{w:Hp},LH dn w->w (31,[1])=M (.d (D4 bC)):=λL=>(L.aC (31,[1]) (ao Y) (ao Y) (ao Y)).trans H.aC;have dk:(D4 bC).map (λp=>V.bP [p.1,p.2])=bC.map λA=>V.bP [tV A,.e (31,4::cd A)]:=fA
 refine d7 (kO (aaa (re (aE Y) ⟨(31,[1]),D4 bC,Y,H.aC,lV (tg:=.a [3,4]) (bC.map λA=>V.bP [tV A,.e (31,4::cd A)]) UL (λi K J=>by cases J with|@mk v w t L=>exact⟨_,e1 (w:=w) L,Y,by rw[<-dk,kG]⟩) (.mk ⟨(λy b h=>h.elim (λh=>bw h) λh=>h.elim λb k=>bw k.2.2),λy hy b=>⟨(H.aT _).trans (ix B.aC ⟨(pW B y hy).1,dj _⟩:IX (y.1,(ru y.1).2.length) _).bj,H.aJ _⟩,λb b b b=>Y⟩) (λi x K hx J=>?_) λK J=>?_⟩)))
 .cases J with|@mk v w t L=>?_
  obtain⟨A,hA,rfl⟩:=dA hx;have Am:=bE hA
  obtain⟨vs,hv,mv⟩:=H.aI A Am;refine⟨_,Y,Y,An Y Y ?_⟩;refine d7 (kO (oi (re (aE Y) (mH ((L.aC (31,4::cd A) (show(31:Nat)≠6 by decide) (show(31:Nat)≠52 by decide) (show(31:Nat)≠99 by decide)).trans hv) (lV (tg:=.a [5,6]) vs (UM i A vs) (λk K J=>by cases J with|mk L _=>exact⟨vs,(L.aC (31,4::cd A) (show(31:Nat)≠6 by decide) (show(31:Nat)≠52 by decide) (show(31:Nat)≠99 by decide)).trans hv,Y⟩) (.mk L Y) (λk x K hk J=>?_) λK J=>?_)))))
  .cases J with|@mk v w t L v3=>?_
   obtain⟨y,hy,nm,rfl⟩:=(mv x).mp (bE hk);subst nm;refine⟨_,Y,Y,An Y Y (afK H L hy Am v3 Y Y λv' w' t' L' v3'=>.mk ⟨λz hz h=>L'.aD z hz ?_,λz hz h=>L'.aG z hz ?_,L'.aC⟩ v3')⟩
   .rcases h with h|⟨z',jS,e,h⟩
    .exact .inl (.inl h)
    .rw[take_snoc hk]at h;rcases cD.mp h with h|h
     .exact .inl (.inr ⟨z',jS,e,h⟩)
     .have e2:=KO (bY (bY (wB (bp.mp h))).2).1;exact .inr (e.symm.trans (bY (bS e2).2).1)
   .rintro((h'|⟨z',jS,e,h'⟩)|e)
    .exact h (.inl h')
    .exact h (.inr ⟨z',jS,e,ak (take_snoc hk) (cH _ h')⟩)
    .exact h (.inr ⟨y,hy,e.symm,ak (take_snoc hk) (cZ _ (.head _))⟩)
  .cases J with|@mk v w t L v3=>?_
   rw[e7]at L;have go:∀z∈dO,Ds (i+1) [] z.1↔Ds i vs z.1:=λz hz=>by
    unfold Ds;rw[take_snoc hA];refine⟨λh=>?_,λh=>.inl (h.elim (λh=>cH _ h) λ⟨z',jS,e,h⟩=>?_)⟩
    .rcases h with h|⟨_,_,_,h⟩
     .exact(cD.mp h).imp id λh=>⟨z,hz,Y,(mv _).mpr ⟨z,hz,bp.mp h,Y⟩⟩
     .exact bw h
    .obtain⟨y',ef,nm,e'⟩:=(mv _).mp h;have e2:=(bY (bS (KO (bY (bY (wB e')).2).1)).2).1
     exact cZ _ (bp.mpr (aj e (ak e2 nm)))
   exact aO (aO (.mk ⟨λz hz h=>L.aD z hz ((go z hz).mp h),λz hz h=>L.aG z hz λh'=>h ((go z hz).mpr h'),L.aC⟩))
 .rw[bc]at J;cases J with|@mk v w t L=>?_
  refine aO (aO (H.aG w t (λy hy h0=>L.aD y hy (.inl ?_)) L.aC));rw[e7];exact UN B (UO B hy h0)
theorem afN{x:Rn}(p:P8 x):LK x:=wy afL p
theorem afO{Q:RQ}(B:b9 bx)(q:∀w t,(∀y∈dO,y.1≠0->Dr y.1 w)->Q .n (hb w) t):bI (n+9) (bJ 43) [.e (20,[]),.e (24,[])] Q (hb bx.u) t:=by
 have gm:∀{a f:Nat}{m:Mp}{w:Hp}{t:Nat},Bm 6 a=M f->(aH F0 37 (.i B.aD.aC.aC.choose)) a=U->GM ⟨m,hb w,t⟩ (.e (20,[])) (fD a) (.ref (bJ f)):=λh h'=>kB (c:=6) (l:=(20,[])) B.aD.aC.aC.choose_spec h h';refine fP ac8 Y (cj (i4 (re (aE Y) ⟨_,gm (a:=49) (f:=35) Y Y,rl br (bI.o (ae1 (x:=⟨n+7,bx.u,t,_⟩) ⟨B,B.aG 53 _ Y,λw1 vs t1 nu e1=>?_⟩))⟩)));refine cj (i4 (re (aE Y) ⟨_,gm (a:=50) (f:=36) Y Y,rl (a6 (aE Y) br) (bI.o (ae4 (x:=⟨n+7,mix [53,99] w1 bx.u,t1,_⟩) ⟨B,B.aG 32 _ Y,λw2 e2=>?_⟩))⟩));generalize hu:mix [32] w2 (mix [53,99] w1 bx.u)=u;have o2:∀l:Loc,[32,53,99].contains l.1=Z->u l=bx.u l:=λl h=>by have h:=vf.mp h;rw[<-hu,iw (vf.mpr λq=>h (iT.mpr (ak (bp.mp (iT.mp q)) (.head _)))),iw (vf.mpr λq=>h (iT.mpr (.tail _ (iT.mp q))))]
 have e53:u (53,[])=M (.s vs):=aj hu e1;have qz:u (32,[])=M (.l (bC.map tV)):=aj hu e2
 have fr:∀k y,[29,30,31,32,33,37,38,39,52,53].contains k=O->[32,53,99].contains k=Z->u (k,y)=U:=λk y h h'=>(o2 _ h').trans (B.aG k y h);refine cj (i4 (re (aE Y) ⟨_,gm (a:=51) (f:=40) Y Y,rl (a6 (aE Y) (a6 (aE Y) (a6 (aE Y) br))) (bI.o (afp (n:=n) B ⟨vs,e53,nu⟩ ((o2 _ Y).trans B.b6) (B.aJ.imp λg h=>(o2 _ Y).trans h) qz ⟨fr 37 _ Y Y,fr 37 _ Y Y,fr 38 _ Y Y⟩ (λA=>fr 39 _ Y Y) (λA=>fr 33 _ Y Y) λw3 t3 o9 nG O3=>?_))⟩));have o3:∀l:Loc,cQ l.1 0=Z->tk 0 l=Z->l≠(50,[])->w3 l=u l:=O3.1
 refine fW (Fg (i4 (re (aE Y) ⟨_,gm (a:=52) (f:=39) Y Y,rl (a6 (aE Y) (a6 (aE Y) (a6 (aE Y) br))) (bI.o (afH (x:=⟨n+4,w3,t3,_⟩) ⟨B,(o3 (32,[]) Y Y (bf Y)).trans qz,λk y=>(o3 (31,k::y) Y Y (bf Y)).trans (fr 31 _ Y Y),λw4 t4 l1 lb i9 o4=>⟨_,Y,Y,?_⟩⟩))⟩)));have zD:∀A,(DR A).length<=100:=λA=>by
  unfold DR ie;rw[dW];refine aL (jY (aL qr (aL (jF ..) (iG ..))) (?_:_<=1)) (fJ ((iQ B).elim λl e=>e.elim λps e=>aL (jF ..) (aL (iB B e.1).2.2.1 (ao Y))))
  split<;>decide
 have rM:∀l:Loc,cQ l.1 31=Z->cQ l.1 99=Z->w4 l=w3 l:=λl h h'=>o4 l (λe=>by rw[e]at h;exact cw h) λe=>by rw[e]at h';exact cw h'
 have hi:∀A∈bC,bM (D9 iL) (tV A)=if(bD,[A])∈gS then M (.e (31,9::cd A))else U:=λA b=>by
  by_cases c:(bD,[A])∈gS
  .rw[aw c];exact rI ((LI B).mpr c)
  .rw[av c];refine DX.mp λh=>?_;rw[pL]at h;have h:=aB h
   rw[D9,fA]at h;exact(bk.mp h).elim λC k=>c ((LI B).mp (aj (tB k.2) k.1))
 refine cj (i4 (re (aE Y) ⟨_,gm (a:=53) (f:=41) Y Y,rl (a6 (aE Y) (a6 (aE Y) (a6 (aE Y) br))) (bI.o (aft (n:=n) B ((rM _ Y Y).trans ((o3 (51,[]) Y Y (bf Y)).trans ((o2 _ Y).trans B.bj))) (O3.2.imp λg h=>(rM _ Y Y).trans h) ((rM _ Y Y).trans ((o3 (32,[]) Y Y (bf Y)).trans qz)) ⟨(rM _ Y Y).trans ((o3 (37,[1]) Y Y (bf Y)).trans (fr 37 _ Y Y)),(rM _ Y Y).trans ((o3 (37,[1,0]) Y Y (bf Y)).trans (fr 37 _ Y Y)),(rM _ Y Y).trans ((o3 (38,[1]) Y Y (bf Y)).trans (fr 38 _ Y Y))⟩ (λA=>(rM _ Y Y).trans ((o3 (33,1::cd A) Y Y (bf Y)).trans (fr 33 _ Y Y))) ((rM _ Y Y).trans o9) (λA hA=>(rM _ Y Y).trans (nG A hA)) zD i9.aC hi (λA b h=>i9.aD A ((LI B).mpr h)) λw5 t5 Gq Gp O5=>?_))⟩));have o5:∀l:Loc,cQ l.1 0=Z->tk 1 l=Z->l≠(51,[])->w5 l=w4 l:=O5.1
 exact pK (i4 (re (aE Y) ⟨_,gm (a:=54) (f:=42) Y Y,rl (a6 (aE Y) (a6 (aE Y) br)) (bI.o (afN (x:=⟨n+7,w5,t5,_⟩) ⟨B,(o5 (31,[1]) Y Y (bf Y)).trans l1,λA hA=>(lb A hA).imp λvs h=>⟨(o5 (31,4::cd A) Y Y (bf Y)).trans h.1,h.2⟩,Gq,Gp,λy=>(o5 (6,y) Y Y (bf Y)).trans ((rM _ Y Y).trans ((o3 (6,y) Y Y (bf Y)).trans ((o2 _ Y).trans (B.bb y)))),λy=>(o5 (52,y) Y Y (bf Y)).trans ((rM _ Y Y).trans ((o3 (52,y) Y Y (bf Y)).trans (fr 52 _ Y Y))),λw6 t6 k b=>aO (q w6 t6 k)⟩))⟩))
abbrev tF(c:List It)(y:It)(k v:V):Prop:=Cell gS (bx.c.map (·.2)) c y k v
def P9(x:Rn):Prop:=b9 bx/\∀y∈dO,y.1≠0->Dr y.1 x.u
section
variable{x:Rn} (hh:P9 x)
def P9.aC:=hh.1
def P9.aD:=hh.2
end
def UQ(x:Rn):Prop:=WB (lx.n+11) (Sx.dD 7 Kb) (Rt lx.Q) ⟨pM,hb x.u,x.t⟩
def r9:Rn:=sU P9 UQ
noncomputable abbrev pR:Nl:=[2,20,21,23,25,29,30,34,35,36,40,99]
noncomputable abbrev pV:Nl:=[7,8,9,10,11,12,13,14,15,16,17,18,19,20,21,22,23,24,25,26,27,28,29,30]
abbrev u9:Hp:=mix zR r9.u bx.u
abbrev s9(v:Mp)(w:Hp)(t:Nat):AS:=⟨aU pV v pM,hp (mix pR w u9),t⟩
def pb(c:List It)(k:Nat)(es:Es):Prop:=(es.map (·.1)).Nodup/\∀a v,(a,v)∈es↔∃y∈c.take k,tF c y a v
section
variable{c:List It} (hh:pb c k es)
def pb.aD:=hh.1
def pb.aC:=hh.2
end
variable{x:It} {r:cJ} {b d:V}
section
variable{v:Mp}
theorem yr(hp:y.1<gS.length+1)(h0:y.1≠0):ru y.1∈gS:=by
 obtain⟨p,k⟩:=y;cases p with
 |zero=>exact ax Y h0
 |succ q=>exact sX hp
theorem LO(B:b9 bx)(hp:y.1<gS.length+1)(e:(ru y.1).2=[A]):(y.1=0/\A=bD)\/(y.1≠0/\ru y.1=(bD,[A])):=by
 by_cases h0:y.1=0
 .rw[h0]at e;exact .inl ⟨h0,(bY e).1.symm⟩
 .refine .inr ⟨h0,?_⟩;rcases B.aC.aC.aD _ (yr hp h0)with h|⟨h,_⟩|⟨_,_,h,_⟩
  .exact jZ (h.symm.trans e) Y
  .exact je h e
  .exact jZ (bY (h.symm.trans e)).2 Y
theorem afQ:a∈ie A (kA A).length↔∃y∈dO,sym y=M A/\(ru y.1).2[y.2+1]?=M a:=by
 unfold ie;rw[e7,qy,pA];exact⟨λh=>by obtain⟨y,hy,hs⟩:=h;obtain⟨z,hz,sz,rfl⟩:=nD hy;exact⟨z,hz,sz,hs⟩,λh=>h.elim λy k=>⟨(y.1,y.2+1),sZ k.1 k.2.1,k.2.2⟩⟩
theorem afR(B:b9 bx):a∈ie A (kA A).length↔∃r∈gS,Lv gS r.1/\r.2=[A,a]:=by
 obtain⟨l,ps,_,e,_,lv⟩:=iQ B;rw[afQ];refine⟨λh=>?_,λh=>?_⟩
 .obtain⟨y,hy,hs,ha⟩:=h;have y0:=(pU B hy).1
  have io:=pW B y hy;rw[y0]at ha;have h1:=sY (x:=(y.1,1)) B.aC ⟨io.1,gB (cV.mp ha).1⟩ xb ha
  obtain⟨A',e'⟩:=h1.2.2;have e':(ru y.1).2=[A',a]:=e'
  have hs:(ru y.1).2[y.2]?=M A:=hs;rw[y0,e']at hs;have eA:A'=A:=bu hs
  rw[e]at hy;rcases b0.mp hy with rfl|hy
  .exact jZ (bY e').2 Y
  .obtain⟨q,hq,rfl⟩:=bk.mp hy;have hr:=wz io.1
   have hr:gS[q]?=M (ru (q+1)):=hr;exact⟨_,bE hr,(lv q _ hr).mp hq,aj eA e'⟩
 .obtain⟨r,hr,l,e2⟩:=h;obtain⟨q,hq⟩:=kE hr;refine⟨(q+1,0),by rw[e];exact .tail _ (dw (f:=λq=>(q+1,0)) ((lv q r hq).mpr l)),?_,?_⟩
  .unfold sym oo;rw[show qx gS (q+1)=r from Ai hq,e2];rfl
  .rw[Ai hq,e2];rfl
theorem LP(B:b9 bx):a∈lD A↔Fo gS A a:=by
 have d:∀{A},a∈DR A↔(∃r∈gS,Lv gS r.1/\r.2=[A,a])\/(A=bD/\a=cG):=λ{A}=>by
  unfold DR;rw[cD,afR B];refine⟨λh=>h.imp id λh=>?_,λh=>h.imp id λh=>?_⟩
  .by_cases c:A=bD
   .rw[aw c]at h;exact⟨c,bp.mp h⟩
   .rw[av c]at h;exact bw h
  .rw[aw h.1];exact bp.mpr h.2
 have f:a∈lD A↔a∈DR A\/a∈(qB A).flatMap DR:=⟨K3,λh=>CX h.symm⟩;rw[f,d];unfold Fo qB;have nS:∀{r},r∈gS->r.2=[bD,a]->False:=λh e=>(B.aC.aC.aC _ h bD (ak e Y)).2 Y
 refine⟨λh=>?_,λh=>?_⟩
 .rcases h with(h|h)|h
  .exact .inl h
  .exact .inr ⟨h.2,.inl h.1⟩
  .by_cases c:(bD,[A])∈gS
   .rw[aw c,yL,Hd,hY,d]at h;exact h.elim (λh=>h.elim λr k=>(nS k.1 k.2.2).elim) λh=>.inr ⟨h.2,.inr c⟩
   .rw[av c]at h;exact bw h
 .rcases h with h|⟨h,h'|h'⟩
  .exact .inl (.inl h)
  .exact .inl (.inr ⟨h',h⟩)
  .refine .inr ?_;rw[aw h',yL,Hd,hY,d];exact .inr ⟨Y,h⟩
theorem afS(B:b9 bx)(h:Fo gS bD a):a=cG:=h.elim (λh=>h.elim λr k=>((B.aC.aC.aC _ k.1 bD (ak k.2.2 Y)).2 Y).elim) λh=>h.1
theorem LR(B:b9 bx){P:List It->Prop}(h0:P dO)(hs:∀I s,P I->(∀x∈I,∀y∈I,x.2=y.2)->P (K1 I s))(h:bx.c[j]?=M c):P c.2:=by
 have:∀(m j:Nat)(c:gJ),bx.c[j]?=M c->(∀y∈c.2,y.2<=m)->P c.2:=λm=>by
  induction m with
  |zero=>
   intro j c h le;cases j with
   |zero=>obtain⟨l,ps,e,_⟩:=iQ B;obtain rfl:=bu (e.symm.trans h);exact h0
   |succ j=>obtain⟨y,hy⟩:=qH _ (iB B h).2.1;exact ax (La B h (fY j) hy) (km.mpr (le y hy))
  |succ m ih=>
   intro j c h le;cases j with
   |zero=>obtain⟨l,ps,e,_⟩:=iQ B;obtain rfl:=bu (e.symm.trans h);exact h0
   |succ j=>
    obtain⟨c',gN,s,e,_⟩:=B.aD.aJ _ c (fY j) h;obtain⟨j',hU⟩:=uI gN;obtain⟨y,hy⟩:=qH _ (iB B h).2.1;obtain⟨y',ef,_,e'⟩:=nD (aj e hy);have l':=le y hy
    rw[e']at l';rw[e];exact hs _ s (ih j' c' hU λz hz=>ak (Dp B hU ef hz) (We l')) λx hx y hy=>Dp B hU hy hx
 exact this 1000000 j c h λy hy=>aL ((iB B h).2.2.2 y hy).2 (aL (Ui B.aC ((iB B h).2.2.2 y hy)) (ao Y))
theorem LV(B:b9 bx)(h:bx.c[j]?=M c)(hx:x∈c.2)(hy:y∈c.2)(lt:k<y.2):(ru x.1).2[k]?=(ru y.1).2[k]?:=by
 refine LR B (P:=λI=>∀x∈I,∀y∈I,k<y.2->(ru x.1).2[k]?=(ru y.1).2[k]?) (λx hx y hy lt=>ax (aj (pU B hy).1 lt) (w8 _)) (λI s ih Av x hx y hy lt=>?_) h x hx y hy lt;obtain⟨x',mL,sx,rfl⟩:=nD hx;obtain⟨y',ef,sy,rfl⟩:=nD hy;rcases V7.mp lt with lt|rfl
 .exact ih x' mL y' ef lt
 .exact(aj (Av x' mL y' ef) sx:(ru x'.1).2[y'.2]?=M s).trans (sy:(ru y'.1).2[y'.2]?=M s).symm
theorem afT(B:b9 bx)(h:bx.c[j]?=M c):c.2.Nodup:=LR B (P:=List.Nodup) (UI B) (λI s nd d=>aiS.mpr (nd.imp λ{a b} ne x hx x' mL e=>ne (by
 by_cases c:oo gS a=M s
 .rw[aw c]at hx;by_cases c':oo gS b=M s
  .rw[aw c']at mL;have e:=(bu hx).trans (e.trans (bu mL).symm)
   exact je (bS e).1 (qK (bS e).2)
  .rw[av c']at mL;exact cK mL
 .rw[av c]at hx;exact cK hx))) h
theorem afU(B:b9 bx)(h:bx.c[j]?=M c)(hy:y∈c.2):(y.1,0)∈dO:=LR B (P:=λI=>∀y∈I,(y.1,0)∈dO) (λy hy=>ak (show(y.1,0)=y from je Y (pU B hy).1.symm) hy) (λI s ih a y hy=>(nD hy).elim λz k=>ak k.2.2 (ih z k.1)) h y hy
theorem afV(B:b9 bx)(h:bx.c[j]?=M c)(hx:x∈c.2)(hy:y∈c.2)(hc:tF c.2 x b d){d':V}(gN:tF c.2 y b d'):x=y:=by
 have C:=iB B h;have ix:=C.2.2.2 x hx
 have iy:=C.2.2.2 y hy;have Av:=Dp B h hx hy
 have same:ru x.1=ru y.1->x=y:=λe=>je (Lu B ix.1 iy.1 e) Av.symm;have LX:∀{x y:It},x∈c.2->y∈c.2->x.1=0->x.2=1->y.1=0:=λ{x y} hx hy e1 e2=>AR λh0=>by
  have p:=LV (k:=0) B h hy hx (by rw[e2];exact xb)
  rw[e1]at p;exact(B.aC.aC.aC _ (yr (C.2.2.2 y hy).1 h0) bD (p.trans Y)).2 Y
 have full:∀{x:It},x∈c.2->sym x=U->x.2=(ru x.1).2.length:=λhx e=>w9 (C.2.2.2 _ hx).2 (mN.mp e);have LZ:∀{x:It} {s},x∈c.2->sym x=M s->s∈ts->x.2=1/\s∈lets/\∃A,(ru x.1).2=[A,s]:=λ{x s} hx e ht=>by
  refine sY B.aC (C.2.2.2 x hx) (G7 λe0=>?_) e;cases j with
  |zero=>obtain⟨l,ps,e',_⟩:=iQ B;obtain rfl:=bu (e'.symm.trans h);exact B.aC.aC.aJ s ((pU B hx).2 s e).1 ht
  |succ j=>exact ax e0 (mU (La B h (fY j) hx))
 have mix:∀{x y:It} {s a},x∈c.2->y∈c.2->x.1≠0->sym x=U->Fo gS (ru x.1).1 a->sym y=M s->s∈ts->b=.s a->b=.s s->False:=λ{x y s a} hx hy x0 sx fo sy hs e e'=>by
  have q:=LZ hy sy hs;have l1:(ru x.1).2.length=1:=(full hx sx).symm.trans ((Dp B h hy hx).trans q.1)
  obtain⟨A,eA⟩:=ai0.mp l1;have ea:=str_inj (e.symm.trans e')
  have er:=(LO B (C.2.2.2 x hx).1 eA).resolve_left λw=>x0 w.1;have fe:a=cG:=afS B (by rw[er.2]at fo;exact fo)
  exact ax (aj fe (ak ea q.2.1):cG∈lets) (ao Y)
 rcases hc with⟨e1,e2,_⟩|⟨x0,sx,⟨a,ea,fo⟩,_⟩|⟨s,i,sx,hs,es,_⟩
 .exact je (e1.trans (LX hx hy e1 e2).symm) Av.symm
 .rcases gN with⟨e1,e2,_⟩|⟨y0,sy,_⟩|⟨s,i,sy,hs,es,_⟩
  .exact ax (LX hy hx e1 e2) x0
  .have el:(ru x.1).2=(ru y.1).2:=Wq λk=>by
    by_cases lt:k<y.2
    .exact LV B h hx hy lt
    .rw[mN.mpr (by rw[<-full hx sx,<-Av];exact km.mp lt),mN.mpr (by rw[<-full hy sy];exact km.mp lt)]
   have mx:=yr ix.1 x0;have my:=yr iy.1 y0
   rcases B.aC.aC.aD _ mx with e|⟨_,A,e⟩|⟨A,s,e,_⟩
   .exact same (B.aC.aC.dC _ mx _ my e (el▸e))
   .exact same (((LO B ix.1 e).resolve_left λw=>x0 w.1).2.trans ((LO B iy.1 (el▸e)).resolve_left λw=>y0 w.1).2.symm)
   .exact same (B.aC.aC.b6 _ mx _ my A s e (el▸e))
  .exact(mix hx hy x0 sx fo sy hs ea es).elim
 .rcases gN with⟨e1,e2,_⟩|⟨y0,sy,⟨a,ea,fo⟩,_⟩|⟨s',i',sy,pG,bO,_⟩
  .exact je ((LX hy hx e1 e2).trans e1.symm) Av.symm
  .exact(mix hy hx y0 sy fo sx hs ea es).elim
  .obtain rfl:=str_inj (es.symm.trans bO);obtain⟨l1,_,A,eA⟩:=LZ hx sx hs;obtain⟨l2,_,A',L0⟩:=LZ hy sy hs;have p:=LV (k:=0) B h hx hy (by rw[l2];exact xb)
   rw[eA,L0]at p;obtain rfl:A=A':=bu p;have n0:∀{x:It},(ru x.1).2=[A,s]->x.1≠0:=λe e0=>by rw[e0]at e;exact jZ (bY e).2 Y
   exact same (B.aC.aC.b6 _ (yr ix.1 (n0 eA)) _ (yr iy.1 (n0 L0)) A s eA L0)
end
def Pp(w:Hp):Prop:=∀p,p<gS.length+1->∃g,w (2,[p])=M (.i 1 g)/\(g 57=U\/∃k:Int,g 57=M (.i k))
def RS(j:Nat)(w0:Hp)(es:Es)(N:Nat)(w:Hp):Prop:=w (29,[j])=M (.d es)/\(∃ep,w (29,[j,1])=M (.d ep)/\ep.length<=N)/\es.length<=N/\Pp w/\∀l:Loc,l.1≠2->l.1≠99->l≠(29,[j])->l≠(29,[j,1])->w l=w0 l
section
variable{w0:Hp} (hh:RS j w0 es N w)
def RS.aC:=hh.1
def RS.aJ:=hh.2.1
def RS.aG:=hh.2.2.1
def RS.aI:=hh.2.2.2.1
def RS.aD:=hh.2.2.2.2
end
def l5(j:Nat)(c:gJ)(v:Mp):Prop:=v 7=M (.i j)/\v 8=M (.e (34,c.1))/\v 9=M (.e (29,[j]))/\v 10=M (.e (29,[j,1]))/\v 11=M (.e (30,[j]))
section
variable{v:Mp} (hh:l5 j c v)
def l5.aD:=hh.1
def l5.aG:=hh.2.1
def l5.aC:=hh.2.2.1
def l5.aI:=hh.2.2.2.1
def l5.aJ:=hh.2.2.2.2
end
variable{r:Sx}
section
variable{v:Mp} {w0:Hp}
theorem l5.vv(V:l5 j c v)(h:∀i,i<=11->v' i=v i):l5 j c v':=⟨(h 7 (ao Y)).trans V.aD,(h 8 (ao Y)).trans V.aG,(h 9 (ao Y)).trans V.aC,(h 10 (ao Y)).trans V.aI,(h 11 (ao Y)).trans V.aJ⟩
theorem RS.eH(R:RS j w0 es N w){ep:Es}(hp:w (29,[j,1])=M (.d ep))(zp:ep.length<=N)(no:bM es b=U){o:V}:RS j w0 (es++[(b,d)]) (N+1) ((w.aF (29,[j]) (.d (cC es b d))).aF (29,[j,1]) (.d (cC ep b o))):=by
 have nk:b∉es.map (·.1):=λh=>by have e:=pL (es:=es) (x:=b);rw[no,az h]at e;exact cw e
 have yt:((29,[j]):Loc)≠(29,[j,1]):=λe=>dS (aq (λl:Loc=>l.2.length) e:1=2) Y;exact⟨(aQ yt).trans (a4.trans (aq (λx=>M (af.d x)) (kW nk))),⟨_,a4,yi zp⟩,by rw[dW];exact fJ R.aG,R.aI,λl h2 h9 ha hb=>(aQ hb).trans ((aQ ha).trans (R.aD l h2 h9 ha hb))⟩
theorem afW(B:b9 bx)(io:Io y)(R:RS j w0 es N w)(zN:N<=1000000)(v9:v 9=M (.e (29,[j])))(v10:v 10=M (.e (29,[j,1])))(gy:v 12=M (.e (5,[y.1,y.2])))(pX:v 14=M (.s a))(no:bM es (.s a)=U)(q:∀v' w',(∀i,i≠15->v' i=v i)->RS j w0 (es++[(.s a,.i (-(y.1:Int)))]) (N+1) w'->Q .n (s9 v' w' t)):WB n Ka Q (s9 v w t):=by
 have X:=ix B.aC io;obtain⟨ep,he,zp⟩:=R.aJ;have z7:∀{m:Nat},m<=N->m<16777216:=λh=>bF (aL h zN) (ao Y)
 have r2:∀{v:Mp}{w:Hp},v 12=M (.e (5,[y.1,y.2]))->RE (s9 v w t) (.a (.v 12) 2) (.i y.1):=λe=>ra (aE e) X.aC Y X.aT;refine cj (iu (re (aE v9) ⟨_,lT (l:=(29,[j])) R.aC,rl (a6 (aE pX) br) (vM (l:=(29,[j])) R.aC Y ?_)⟩));rw[no];refine dP Y (i8 (aj (aA (λh:V.n≠.n=>h Y)) (Ps (aE Y))) (l4 (l:=(29,[j])) Y Y (aE v9) R.aC (aE pX) (q9 (r2 gy)) Y (z7 R.aG) ?_));have yt:((29,[j,1]):Loc)≠(29,[j]):=λe=>dS (aq (λl:Loc=>l.2.length) e:2=1) Y
 have R2:=R.eH (b:=.s a) (d:=.i (-(y.1:Int))) (o:=.e (5,[y.1,y.2])) he zp no;refine l4 (l:=(29,[j,1])) (ds:=ep) Y Y (aE v10) ((aQ yt).trans he:(w.aF (29,[j]) _) (29,[j,1])=_) (aE pX) (aE gy) Y (z7 zp) ?_;generalize(w.aF (29,[j]) _).aF (29,[j,1]) _=w2 at R2⊢;obtain⟨g,hg,g57⟩:=R2.aI y.1 io.1;have rb:RE (s9 (aH v 15 .n) w2 t) (.u (.v 1) (.a (.v 12) 2)) (.e (2,[y.1])):=dU (aE Y) (r2 gy) (Pc (l:=(41,[])) B.aC.aI (Gn io.1))
 have go:∀m:Int,R1 (s9 (aH v 15 .n) w2 t) (λo=>yU o (fD 57) O) (.e (2,[y.1])) (.i m)->WB n (.c (.vF (.u (.v 1) (.a (.v 12) 2)) 57 .Add (.cI 1)) .n) (Nx n .n Q) (s9 (aH v 15 .n) w2 t):=λm hm=>fW (IM (re rb ⟨_,hm,re bW ⟨_,xN,su (l:=(2,[y.1])) hg Y (by
  show WB n _ _ ⟨_,(hp (mix pR w2 u9)).aF (2,[y.1]) _,t⟩;rw[iC Y Y];refine aO (aO (q _ _ (λi h=>av h) ⟨R2.aC,R2.aJ,R2.aG,λp iY=>?_,λl h2 h9 ha hb=>(aQ λe=>h2 (by rw[e])).trans (R2.aD l h2 h9 ha hb)⟩))
  by_cases c:p=y.1
  .rw[c];exact⟨_,a4,.inr ⟨_,Y⟩⟩
  .obtain⟨g',h',k'⟩:=R2.aI p iY;exact⟨g',(aQ (jQ c)).trans h',k'⟩)⟩⟩))
 rcases g57 with h|⟨m,h⟩
 .exact go 0 (Pa (l:=(2,[y.1])) hg Y h Y)
 .exact go m (EW (l:=(2,[y.1])) hg Y h)
inductive UR(j:Nat)(w0:Hp)(es:Es)(y:It)(N:Nat)(v:Mp)(t i:Nat):QA
 |mk {v':Mp} {w:Hp}:(∀i,i<=13->v' i=v i)->RS j w0 (es++((lD (ru y.1).1).take i).map λa=>(.s a,.i (-(y.1:Int)))) (N+i) w->UR j w0 es y N v t i (s9 v' w t)
theorem afY(B:b9 bx)(io:Io y)(hA:(ru y.1).1∈bC)(R:RS j w0 es N w)(zN:N<=900000)(v9:v 9=M (.e (29,[j])))(v10:v 10=M (.e (29,[j,1])))(gy:v 12=M (.e (5,[y.1,y.2])))(wF:v 13=M (.e (52,[y.1])))(pY:r9.u (52,[y.1])=M (.l ((lD (ru y.1).1).map .s)))(no:∀a,Fo gS (ru y.1).1 a->bM es (.s a)=U)(q:∀v' w',(∀i,i<=13->v' i=v i)->RS j w0 (es++(lD (ru y.1).1).map λa=>(.s a,.i (-(y.1:Int)))) (N+1000) w'->WB n r Q (s9 v' w' t)):WB n (.c (.f (.v 14) (.l (.v 13)) Ka .n) r) Q (s9 v w t):=by
 have z:=UP B hA;refine gw (l:=(52,[y.1])) ((lD (ru y.1).1).map .s) (UR j w0 es y N v t) (aE wF) (λi K J=>by cases J;exact pY) (.mk (λd d=>Y) (by rw[Ea,List.map_nil,hY];exact R)) (λi a K ha J=>?_) λK J=>?_
 .cases J with|@mk v' w hv R=>?_
  obtain⟨a,tC,rfl⟩:=dA ha;have li:=aL (gB (cV.mp tC).1) z
  have h:∀{i},i<=13->aH v' 14 (.s a) i=v i:=λ{i} le=>(av λe=>by rw[e]at le;exact ax le (ao Y)).trans (hv i le)
  refine dP Y (afW (v:=aH v' 14 (.s a)) B io R (aL (jY zN li) (ao Y)) ((h (ao Y)).trans v9) ((h (ao Y)).trans v10) ((h (ao Y)).trans gy) Y ?_ λTP w' ly R'=>.mk (λi le=>(ly i λe=>by rw[e]at le;exact ax le (ao Y)).trans (h le)) ?_)
  .refine DX.mp λe=>?_;rw[pL,decide_eq_true_iff,dc,fA,cD]at e;rcases e with e|e
   .have k:=pL (es:=es) (x:=.s a);rw[no a ((LP B).mp (bE tC)),az e]at k;exact cw k
   .exact pN (LM B hA) tC ((bk.mp e).elim λb k=>aj (str_inj k.2) k.1)
  .rw[take_snoc tC,dc,<-tW];exact R'
 .rw[bc]at J;cases J with|@mk v' w hv R=>?_
  rw[e7]at R;exact q v' w hv ⟨R.aC,R.aJ.imp λd h=>⟨h.1,aL h.2 (eQ z _)⟩,aL R.aG (eQ z _),R.aI,R.aD⟩
end
def CK(es:Es)(N:Nat)(w:Hp):Prop:=(∃bl,GC es bl N w)/\(∀k,bM bx.es k≠U->bM es k≠U)/\pQ bx.u w
variable(hh:CK es N w)
def CK.aC:=hh.1
def CK.aG:=hh.2.1
def CK.aD:=hh.2.2
variable{ec:Es}
section
variable{v:Mp} {w0:Hp}
theorem pd{a b:Nat}(h:cQ a b=Z):a≠b:=λe=>by rw[e,xa]at h;exact cw h
theorem CK.eq(C:CK ec N w0)(h:∀l:Loc,l.1≠2->l.1≠99->l.1≠29->w l=w0 l):CK ec N w:=by
 obtain⟨bl,G⟩:=C.aC;have e:∀{a y},cQ a 2=Z->cQ a 99=Z->cQ a 29=Z->w (a,y)=w0 (a,y):=λh1 h2 h3=>h _ (pd h1) (pd h2) (pd h3)
 have p:pQ w0 w:=λl L h=>(e Y Y Y).trans h;exact⟨⟨bl,G.cg p (λl ds h z k=>⟨ds,(e Y Y Y).trans h,z,k.nE p λb h=>h⟩) (e Y Y Y) (G.aC.imp λc h=>(e Y Y Y).trans h) (dj _) (G.aD.imp λj0 k j h=>⟨(e Y Y Y).trans (k j h).1,(e Y Y Y).trans (k j h).2⟩)⟩,C.aG,λl L h=>p l L (C.aD l L h)⟩
theorem RS.Aw(R:RS j w0 es N w):∀l:Loc,l.1≠2->l.1≠99->l.1≠29->w l=w0 l:=λl h2 h9 tG=>R.aD l h2 h9 (λe=>tG (by rw[e])) λe=>tG (by rw[e])
theorem RS.tm(R:RS j w0 es N w)(w':Hp):RS j w0 es N (mix [99] w' w):=⟨R.aC,R.aJ,R.aG,R.aI,λl h2 h9 ha hb=>(Dm h9).trans (R.aD l h2 h9 ha hb)⟩
theorem Gy(B:b9 bx)(h:bx.c[j]?=M c)(hy:c.2[k]?=M y)(P:pb c.2 k es)(hc:tF c.2 y b d):bM es b=U:=DX.mp λe=>by rw[pL,decide_eq_true_iff]at e;obtain⟨p,hp,rfl⟩:=bk.mp e;obtain⟨x,hx,mL⟩:=(P.aC p.1 p.2).mp hp;obtain rfl:=afV B h (uZ hx) (bE hy) mL hc;exact(jX.mp (aj (take_snoc hy) ((D6 (k+1) c.2).nodup (afT B h)))).2.2 x hx x (.head _) Y
theorem pb.eH(B:b9 bx)(h:bx.c[j]?=M c)(hy:c.2[k]?=M y)(P:pb c.2 k es)(nd:(bO.map (·.1)).Nodup)(m:∀a v,(a,v)∈bO↔tF c.2 y a v):pb c.2 (k+1) (es++bO):=
 ⟨by
  rw[dc];refine jX.mpr ⟨P.aD,nd,λa ha b hb e=>?_⟩;obtain⟨p,hp,rfl⟩:=bk.mp hb;have k:=pL (es:=es) (x:=p.1)
  rw[Gy B h hy P ((m p.1 p.2).mp hp),az (aj e ha)]at k;exact cw k,
 λa v=>by rw[cD,P.aC,m,take_snoc hy];exact⟨λh=>h.elim (λh=>h.imp λx k=>⟨cH _ k.1,k.2⟩) λh=>⟨y,cZ _ (.head _),h⟩,λh=>h.elim λx k=>(cD.mp k.1).imp (λh=>⟨x,h,k.2⟩) λh=>aj (bp.mp h:x=y) k.2⟩⟩
theorem afZ(B:P9 r9)(h:bx.c[j]?=M c)(hy:c.2[k]?=M y)(C0:CK ec N' w0)(R:RS j w0 es (1000*k) w)(P:pb c.2 k es)(Vr:l5 j c v)(gy:v 12=M (.e (5,[y.1,y.2])))(q:∀v' w' t' bO,l5 j c v'->RS j w0 bO (1000*(k+1)) w'->pb c.2 (k+1) bO->Q .n (s9 v' w' t')):WB (lx.n+11) SE Q (s9 v w t):=by
 have BB:=B.aC;have L:=iB BB h
 have ym:=bE hy;have io:=L.2.2.2 y ym
 have X:=ix BB.aC io;have zk:k<=91:=aL (gB (cV.mp hy).1) L.2.2.1
 have zN:1000*k<=91000:=mQ 1000 zk;have r:∀{v:Mp} {w t a x},v 12=M (.e (5,[y.1,y.2]))->kq 2 a=O->fI y a=M x->RE (s9 v w t) (.a (.v 12) a) x:=λe d h=>ra (aE e) X.aC d h
 have one:∀{b d},(∀a v,tF c.2 y a v↔a=b/\v=d)->pb c.2 (k+1) (es++[(b,d)]):=λe=>P.eH BB h hy (fQ.mpr ⟨(λh=>bw h),gh⟩) λa v=>(bp.trans Prod.ext_iff).trans (e a v).symm;have af0:(∀a v,¬tF c.2 y a v)->pb c.2 (k+1) es:=λe=>aj (hY es) (P.eH BB h hy gh λa v=>⟨λh=>(bw h),λh=>(e a v h).elim⟩)
 have up:RS j w0 es (1000*(k+1)) w:=⟨R.aC,R.aJ.imp λz h=>⟨h.1,aL h.2 (mQ 1000 (jI k))⟩,aL R.aG (mQ 1000 (jI k)),R.aI,R.aD⟩;have L4:RE (s9 v w t) (.a (.v 0) 31) (.s oY):=by obtain⟨bl,G⟩:=(C0.eq R.Aw).aC;exact ra (l:=(20,[])) (c:=6) (f:=aH F0 37 (.i G.aC.choose)) (aE Y) G.aC.choose_spec Y Y
 have tt:RT (s9 v w t) (.m .Eq (.a (.v 12) 8) (.b .Add (.a (.v 12) 13) (.cI 1))) (decide (V.i ((ru y.1).2.length+1:Nat)=.i ((y.2:Int)+1))):=fu (o:=.Eq) (r gy Y X.aG) (jC (r gy Y X.aD) bW qk) (pD Y Y);cases hs:sym y with
 |none=>
  have el:y.2=(ru y.1).2.length:=w9 io.2 (mN.mp hs);refine iN (aj (az (aj el Y:V.i ((ru y.1).2.length+1:Nat)=.i ((y.2:Int)+1))) tt) ?_;refine rA (wj (s':=sP) (r gy Y X.aJ) du) (λe=>?_) λe=>?_
  .have y0:y.1=0:=AR λh0=>(BB.aC.aC.aI _ (yr io.1 h0)).2 e;have y1:y.2=1:=by rw[el,y0];rfl
   have ce:∀a v,tF c.2 y a v↔a=.s cG/\v=.i 0:=λa v=>⟨λh=>by
    rcases h with h|h|⟨s,_,h,_⟩
    .exact h.2.2
    .exact ax y0 h.1
    .exact(cK (hs.symm.trans h)),λh=>.inl ⟨y0,y1,h⟩⟩
   have no:=Gy BB h hy P ((ce _ _).mpr ⟨Y,Y⟩);obtain⟨ep,he,zp⟩:=R.aJ;have z7:∀{m:Nat},m<=1000*k->m<16777216:=λh=>bF (aL h zN) (ao Y)
   have yt:((29,[j,1]):Loc)≠(29,[j]):=λe=>dS (aq (λl:Loc=>l.2.length) e:2=1) Y;refine l4 (l:=(29,[j])) (y:=.s cG) Y Y (aE Vr.aC) R.aC du bW Y (z7 R.aG) (l4 (l:=(29,[j,1])) (y:=.s cG) (ds:=ep) Y Y (aE Vr.aI) ((aQ yt).trans he:(w.aF (29,[j]) _) (29,[j,1])=_) du (aE gy) Y (z7 zp) (aO (aO (aO ?_))));have R2:=R.eH (b:=.s cG) (d:=.i 0) (o:=.e (5,[y.1,y.2])) he zp no
   exact q v _ t _ Vr ⟨R2.aC,R2.aJ.imp λz h=>⟨h.1,aL h.2 (eQ (ao Y) _)⟩,aL R2.aG (eQ (ao Y) _),R2.aI,R2.aD⟩ (one ce)
  .have y0:y.1≠0:=λh0=>e (by rw[h0];rfl)
   have s0:=afU BB h ym;have hA:=UN BB (UO BB s0 y0)
   have la:=B.aD _ s0 y0;have ej:stI (y.1,(ru y.1).2.length)=j:=Lq BB h (aj el ym)
   have kl:bM [(V.i (stI (y.1,(ru y.1).2.length):Nat),V.e (52,[y.1]))] (.i j)=M (.e (52,[y.1])):=aw (aq (λn:Nat=>V.i n) ej);have ce:∀a v,tF c.2 y a v↔(∃s,a=.s s/\Fo gS (ru y.1).1 s)/\v=.i (-(y.1:Int)):=λa v=>⟨λh=>by
    rcases h with h|h|⟨s,_,h,_⟩
    .exact ax h.1 y0
    .exact h.2.2
    .exact(cK (hs.symm.trans h)),λh=>.inr (.inl ⟨y0,hs,h⟩)⟩
   refine iN (aj (az (Y:oY=oY)) (wj (s':=oY) L4 du)) (rJ (dU (r gy Y X.bb) (aE Vr.aD) (fG (l:=(6,[y.1,y.2])) (show r9.u (6,[y.1,y.2])=_ from ak el la.1) Y kl)) Y (aO ?_))
   refine afY (v:=aH v 13 (.e (52,[y.1]))) BB io hA R (aL zN (ao Y)) Vr.aC Vr.aI gy Y la.2 (λa ha=>Gy BB h hy P ((ce _ (.i (-(y.1:Int)))).mpr ⟨⟨a,Y,ha⟩,Y⟩)) λv' w' hv R'=>aO (aO (aO (q v' w' t _ (Vr.vv λi hi=>(hv i (aL hi (ao Y))).trans (av λe=>by rw[e]at hi;exact ax hi (ao Y))) R' (P.eH BB h hy ?_ λa v=>?_))))
   .rw[fA];exact md.mpr ((LM BB hA).imp λne e=>ne (str_inj e))
   .rw[ce,bk];exact⟨λh=>h.elim λs k=>⟨⟨s,(bS k.2).1.symm,(LP BB).mp k.1⟩,(bS k.2).2.symm⟩,λh=>h.1.elim λs k=>⟨s,(LP BB).mpr k.2,by rw[k.1,h.2]⟩⟩
 |some s=>
  have ne:V.i ((ru y.1).2.length+1:Nat)≠.i ((y.2:Int)+1):=λe=>gZ (cV.mp hs).1 (qK (jv (jR e))).symm;refine i8 (aj (aA ne) tt) (rJ (r gy Y X.aD) Y (rJ (x4 (j:=y.2+1) (r gy Y X.aI) (jC (aE Y) bW qk) (iO (Kw io.2 hs))) Y ?_));have ce:∀a v,tF c.2 y a v↔∃i:Nat,s∈ts/\a=.s s/\(bx.c.map (·.2))[i]?=M (K1 c.2 s)/\v=.i i:=λa v=>⟨λh=>by
   rcases h with h|h|⟨s',i,h,ht,ha,hi,hv⟩
   .obtain⟨p,k⟩:=y;obtain rfl:p=0:=h.1;obtain rfl:k=1:=h.2.1;exact cK hs
   .exact fK (hs.symm.trans h.2.1)
   .obtain rfl:=bu (hs.symm.trans h);exact⟨i,ht,ha,hi,hv⟩,λh=>h.elim λi k=>.inr (.inr ⟨s,i,hs,k⟩)⟩
  have t18:RE (s9 (aH (aH v 24 (.i y.2)) 14 (.s s)) w t) (.a (.a (.v 0) 30) 18) (.e (44,[])):=by obtain⟨bl,G⟩:=(C0.eq R.Aw).aC;exact ra (l:=(1,[])) (c:=4) (f:=f1) (ra (l:=(20,[])) (c:=6) (f:=aH F0 37 (.i G.aC.choose)) (aE Y) G.aC.choose_spec Y Y) BB.aC.aD Y Y
  refine rA (wi (l:=(44,[])) (aE Y) t18 BB.aC.aJ) (λsT=>?_) λsT=>aO (aO (aO (q (aH (aH v 24 (.i y.2)) 14 (.s s)) w t es (Vr.vv λi hi=>(av λe=>by rw[e]at hi;exact ax hi (ao Y)).trans (av λe=>by rw[e]at hi;exact ax hi (ao Y))) up (af0 λa v h=>((ce a v).mp h).elim λi k=>sT k.1))))
  obtain⟨bl,G⟩:=(C0.eq R.Aw).aC;have hl0:w (34,c.1)=M (.l (a7 c.2)):=(C0.eq R.Aw).aD _ _ L.1
  have mp:∀{w' w:Hp},hp (mix [99] w' (mix pR w u9))=hp (mix pR (mix [99] w' w) u9):=aq hp (gG Y);refine cj (i4 (re (aE Y) ⟨_,kB (l:=(20,[])) (c:=6) (a:=48) (f:=33) (g:=aH F0 37 (.i G.aC.choose)) G.aC.choose_spec Y Y,rl (a6 (aE Vr.aG) (a6 (aE Y) br)) (bI.o (Up (n:=lx.n+8) (u:=mix pR w u9) (es:=ec) (bl:=bl) (N:=N') BB.aC ⟨G.aC,G.aG,G.aI,G.aT,G.aJ,G.aD⟩ (C0.aG _ (Ak BB h ym (Al hs)).1) L.2.2.2 (aL L.2.2.1 (ao Y)) ym hs hl0 λl w1 hl=>?_))⟩));rw[mp];refine dP Y ?_;obtain⟨c',gN,e'⟩:=(Ak BB h ym (Al hs)).2 (p8 (sZ ym hs));obtain⟨j',hU⟩:=uI gN;have ck:bM (ou bx.c) (kZ (K1 c.2 s))=M (.i j'):=aj e' (Ld BB hU)
  refine cj (iu (re (ra (l:=(20,[])) (c:=6) (f:=aH F0 37 (.i G.aC.choose)) (aE Y) G.aC.choose_spec Y Y) ⟨_,lT (l:=(22,[])) BB.aD.aG,eC (kM (rl (a6 (aE Y) br) (bI.o (wD (n:=lx.n+10) (u:=mix pR (mix [99] w1 w) u9) BB.aC (uH L.2.2.2) (aL (jF ..) (aL L.2.2.1 (ao Y))) (p8 (sZ ym hs)) hl λw2=>rl (a6 (q9 bW) br) (sr (l:=(22,[])) BB.aD.aG (yg (d:=5)).1 ?_)))))⟩));rw[ck,mp];have R2:=(R.tm w1).tm w2
  generalize mix [99] w2 (mix [99] w1 w)=w3 at R2⊢;refine dP Y (iN (aj (az (jH j')) (fu (aE Y) bW E4)) ?_);have no:=Gy BB h hy P ((ce (.s s) (.i j')).mpr ⟨j',sT,Y,(iO hU).trans (aq M e'),Y⟩)
  refine cj (iu (re (aE Vr.aC) ⟨_,lT (l:=(29,[j])) R2.aC,rl (a6 (aE Y) br) (vM (l:=(29,[j])) R2.aC Y ?_)⟩));rw[no];obtain⟨ep,he,zp⟩:=R2.aJ;have z7:∀{m:Nat},m<=1000*k->m<16777216:=λh=>bF (aL h zN) (ao Y)
  have yt:((29,[j,1]):Loc)≠(29,[j]):=λe=>dS (aq (λl:Loc=>l.2.length) e:2=1) Y;have R3:=R2.eH (b:=.s s) (d:=.i j') (o:=.e (5,[y.1,y.2])) he zp no
  refine dP Y (i8 (aj (aA (λh:V.n≠.n=>h Y)) (Ps (aE Y))) (l4 (l:=(29,[j])) Y Y (aE Vr.aC) R2.aC (aE Y) (aE Y) Y (z7 R2.aG) (l4 (l:=(29,[j,1])) (ds:=ep) Y Y (aE Vr.aI) ((aQ yt).trans he:(w3.aF (29,[j]) _) (29,[j,1])=_) (aE Y) (aE gy) Y (z7 zp) (aO (aO (aO (aO (aO ?_))))))));have lt:∀{i m:Nat},i<=11->11<m->i≠m:=λh h' e=>dI _ (gc h' (aj e h))
  refine q (aH (aH (aH (aH (aH v 24 (.i y.2)) 14 (.s s)) 25 (.e (34,l))) 26 (.i j')) 15 .n) _ _ _ (Vr.vv λi hi=>?_) ⟨R3.aC,R3.aJ.imp λz h=>⟨h.1,aL h.2 (eQ (ao Y) _)⟩,aL R3.aG (eQ (ao Y) _),R3.aI,R3.aD⟩ (one λa v=>(ce a v).trans ⟨λh=>?_,λh=>⟨j',sT,h.1,(iO hU).trans (aq M e'),h.2⟩⟩)
  .exact(av (lt hi (ao Y))).trans ((av (lt hi (ao Y))).trans ((av (lt hi (ao Y))).trans ((av (lt hi (ao Y))).trans (av (lt hi (ao Y))))))
  .obtain⟨i,_,ha,hi,hv⟩:=h;obtain⟨c2,L5,e2⟩:=dA hi;obtain rfl:=BB.aD.Dc L5 hU (e2.trans e'.symm);exact⟨ha,hv⟩
end
def Dt(I:List It)(xs:Ss)(es:Es):Prop:=(es.map (·.1)).Nodup/\∀k v,(k,v)∈es↔∃A i,k=.s A/\v=.i (i:Nat)/\A∈xs/\K1 I A≠[]/\(bx.c.map (·.2))[i]?=M (K1 I A)
section
variable{xs:Ss} (hh:Dt I xs es)
def Dt.aD:=hh.1
def Dt.aC:=hh.2
end
def G9(j:Nat)(c:gJ)(w1:Hp)(xs:Ss)(i:Nat)(es:Es)(ec:Es)(N:Nat)(v:Mp)(w:Hp):Prop:=CK ec N w/\l5 j c v/\v 27=M (.e (36,[bx.c.length+j]))/\w (30,[j])=M (.d es)/\Dt c.2 (xs.take i) es/\es.length<=i/\N<=8000000+728*j+4*i/\∀l:Loc,[20,21,34,35,99].contains l.1=Z->l≠(30,[j])->w l=w1 l
section
variable{w1:Hp} {xs:Ss} {v:Mp} (hh:G9 j c w1 xs i es ec N v w)
def G9.aD:=hh.1
def G9.aC:=hh.2.1
def G9.bj:=hh.2.2.1
def G9.bb:=hh.2.2.2.1
def G9.aI:=hh.2.2.2.2.1
def G9.aT:=hh.2.2.2.2.2.1
def G9.aJ:=hh.2.2.2.2.2.2.1
def G9.aG:=hh.2.2.2.2.2.2.2
end
variable{xs:Ss} {w1:Hp}
section
variable{v:Mp}
theorem CK.p30{y:Nl}{o:af}(C:CK ec N w):CK ec N (w.aF (30,y) o):=⟨C.aC.elim λbl G=>⟨bl,G.aC,G.aG,G.aI,G.aT,G.aJ,G.aD.aF⟩,C.aG,C.aD⟩
theorem af4(B:P9 r9)(h:bx.c[j]?=M c)(nd:xs.Nodup)(hx:xs[i]?=M s)(zx:i<=182)(zj:j<=273)(S:G9 j c w1 xs i es ec N v w)(v30:v 30=M (.s s))(q:∀v' w' t' bO uO N',G9 j c w1 xs (i+1) bO uO N' v' w'->Q .n (s9 v' w' t')):WB (lx.n+11) SF Q (s9 v w t):=by
 have BB:=B.aC;have L:=iB BB h
 obtain⟨bl,G⟩:=S.aD.aC;have mp:∀{R:Nl}{w' w:Hp},R.all pR.contains=O->hp (mix R w' (mix pR w u9))=hp (mix pR (mix R w' w) u9):=λh=>aq hp (gG h)
 have zN:N<=16000000:=aL S.aJ (aL (jY (eQ (mQ 728 zj) _) (mQ 4 zx)) (ao Y));refine cj (i4 (re (aE Y) ⟨_,kB (l:=(20,[])) (c:=6) (a:=48) (f:=33) (g:=aH F0 37 (.i G.aC.choose)) G.aC.choose_spec Y Y,rl (a6 (aE S.aC.aG) (a6 (aE v30) br)) (bI.o (Ud (n:=lx.n+8) (u:=mix pR w u9) (es:=ec) (bl:=bl) (N:=N) BB.aC ⟨G.aC,G.aG,G.aI,G.aT,G.aJ,G.aD⟩ L.2.2.2 (aL L.2.2.1 (ao Y)) L.2.1 (S.aD.aD _ _ L.1) zN (λhn y hy=>(nD hy).elim λz k=>ax hn (S.aD.aG _ (Ak BB h k.1 (Al k.2.1)).1)) λg bO gX N' w2 t2 R a b=>?_))⟩));rw[mp Y];refine dP Y ?_;have K2:∀{w3:Hp},CK bO (N+4) (mix [99] w3 (mix dK w2 w)):=λ{w3}=>⟨⟨gX,GC.bN (w:=mix [99] w3 (mix dK w2 w)) ⟨R.aC.aC,R.aC.aG,R.aC.aI,R.aC.aT,R.aC.aJ,R.aC.aD⟩ (λb h=>h) R.aJ⟩,λk h=>R.aG k (S.aD.aG k h),λl L h=>R.aD l L (S.aD.aD l L h)⟩
 have KH:∀{w3:Hp}(l:Loc),[20,21,34,35,99].contains l.1=Z->l≠(30,[j])->(mix [99] w3 (mix dK w2 w)) l=w1 l:=λ{w3} l hl hj=>(Dm λe=>by rw[e]at hl;exact cw hl).trans ((iw hl).trans (S.aG l hl hj))
 have De:N+4<=8000000+728*j+4*(i+1):=by rw[qb,<-nO];exact pz S.aJ 4
 have V2:∀{v':Mp},(∀i,i<=24\/i=27->v' i=v i)->l5 j c v'/\v' 27=M (.e (36,[bx.c.length+j])):=λe=>⟨S.aC.vv λi hi=>e i (.inl (aL hi (ao Y))),(e 27 (.inr Y)).trans S.bj⟩;have vx:∀{m:V} {i},i<=24\/i=27->aH (aH v 25 g) 26 m i=v i:=λ{m} {i} hi=>(av λe=>by rw[e]at hi;exact ax hi (ao Y)).trans (av λe=>by rw[e]at hi;exact ax hi (ao Y))
 have ts:=take_snoc hx;have gt:RE (s9 (aH v 25 g) (mix dK w2 w) t2) (.a (.v 0) 36) (.e (22,[])):=ra (l:=(20,[])) (c:=6) (f:=aH F0 37 (.i R.aC.aC.choose)) (aE Y) R.aC.aC.choose_spec Y Y
 by_cases c0:K1 c.2 s=[]
 .have k0:bM (ou bx.c) (V.bP [])=U:=DX.mp λe=>by rw[pL,decide_eq_true_iff,KW]at e;obtain⟨c',gN,e⟩:=bk.mp e;obtain⟨j',hU⟩:=uI gN;exact(iB BB hU).2.1 (Gk (J:=[]) e)
  refine cj (iu (re gt ⟨_,lT (l:=(22,[])) BB.aD.aG,eC (kM (rl (a6 (aE Y) br) (bI.o (ad2 (n:=lx.n+10) (h:=hp (mix pR (mix dK w2 w) u9)) (a.elim (λq=>q.elim λl q=>.inr ⟨(34,l),q.1,q.2.trans (by rw[c0];rfl)⟩) λq=>.inl q.1) (rl (a6 (q9 bW) br) (sr (l:=(22,[])) BB.aD.aG Y ?_))))))⟩))
  rw[k0];refine dP Y (i8 (show RT _ _ Z from aj (aA (by decide:¬(0:Int)<=-1)) (fu (o:=.GtE) (x:=.i (-1)) (aE Y) bW E4)) (aO (aO (q _ _ _ es bO (N+4) ⟨⟨(K2 (w3:=w2)).aC.elim λbl G=>⟨bl,G.aC,G.aG,G.aI,G.aT,G.aJ,G.aD⟩,(K2 (w3:=w2)).aG,(K2 (w3:=w2)).aD⟩,(V2 λi hi=>vx hi).1,(V2 λi hi=>vx hi).2,S.bb,⟨S.aI.aD,λk v=>(S.aI.aC k v).trans ?_⟩,p9 S.aT,De,λl hl hj=>(iw hl).trans (S.aG l hl hj)⟩))))
  rw[ts];exact⟨λh=>h.imp λA h=>h.imp λi h=>⟨h.1,h.2.1,cH _ h.2.2.1,h.2.2.2⟩,λh=>h.imp λA h=>h.imp λi h=>⟨h.1,h.2.1,(cD.mp h.2.2.1).resolve_right λe=>h.2.2.2.1 (ak (bp.mp e) c0),h.2.2.2⟩⟩
 .obtain⟨l,rfl,hl⟩:=a.resolve_right λq=>c0 q.2;obtain⟨z,hz⟩:=qH _ c0;obtain⟨z,hz,sz,_⟩:=nD hz;obtain⟨c',gN,e'⟩:=(Ak BB h hz (Al sz)).2 c0;obtain⟨j',hU⟩:=uI gN;have ck:bM (ou bx.c) (kZ (K1 c.2 s))=M (.i j'):=aj e' (Ld BB hU)
  refine cj (iu (re gt ⟨_,lT (l:=(22,[])) BB.aD.aG,eC (kM (rl (a6 (aE Y) br) (bI.o (wD (n:=lx.n+10) (u:=mix pR (mix dK w2 w) u9) BB.aC (uH L.2.2.2) (aL (jF ..) (aL L.2.2.1 (ao Y))) c0 hl λw3=>rl (a6 (q9 bW) br) (sr (l:=(22,[])) BB.aD.aG (yg (d:=5)).1 ?_)))))⟩));rw[ck,mp Y];refine dP Y (iN (aj (az (jH j')) (fu (aE Y) bW E4)) (l4 (l:=(30,[j])) Y Y (aE S.aC.aJ) S.bb (aE v30) (aE Y) Y (bF S.aT (bF zx (ao Y))) (aO (aO ?_))));have nk:V.s s∉es.map (·.1):=λhm=>by obtain⟨p,hp,e⟩:=bk.mp hm;obtain⟨A,i',e1,_,hA,_⟩:=(S.aI.aC p.1 p.2).mp hp;exact pN nd hx (aj (str_inj (e1.symm.trans e)) hA)
  refine q _ _ _ (es++[(.s s,.i j')]) bO (N+4) ⟨(K2 (w3:=w3)).p30,(V2 λi hi=>vx hi).1,(V2 λi hi=>vx hi).2,a4.trans (aq (λx=>M (af.d x)) (kW nk)),⟨?_,λk v=>?_⟩,by rw[dW];exact fJ S.aT,De,λl hl hj=>(aQ hj).trans (KH l hl hj)⟩
  .rw[dc];exact qY S.aI.aD nk
  .rw[cD,S.aI.aC,bp,ts];refine⟨λh=>?_,λh=>?_⟩
   .rcases h with h|h
    .exact h.imp λA h=>h.imp λi h=>⟨h.1,h.2.1,cH _ h.2.2.1,h.2.2.2⟩
    .exact⟨s,j',(bS h).1,(bS h).2,cZ _ (.head _),c0,(iO hU).trans (aq M e')⟩
   .obtain⟨A,i',e1,e2,hA,h3⟩:=h;rcases cD.mp hA with hA|hA
    .exact .inl ⟨A,i',e1,e2,hA,h3⟩
    .obtain rfl:=bp.mp hA;obtain⟨c2,L5,e3⟩:=dA h3.2;obtain rfl:=BB.aD.Dc L5 hU (e3.trans e'.symm);exact .inr (je e1 e2)
end
def uP(c:List It):Ss:=dd ((US c).filter λs=>decide (s∈fX gS gS.length))
noncomputable def l7(k i:Nat):Es:=(iW i).map λj=>(.i (j:Nat),.e (k,[j]))
def l8(i:Nat)(ec:Es)(N:Nat)(v:Mp)(w:Hp):Prop:=CK ec N w/\N<=8000000+728*i/\v 7=M (.i i)/\w (23,[])=M (.d (l7 29 i))/\w (25,[])=M (.d (l7 30 i))/\(∃ds,w (40,[])=M (.d ds)/\ds.length<=i)/\(∀j c,j<i->bx.c[j]?=M c->∃es,w (29,[j])=M (.d es)/\pb c.2 c.2.length es)/\(∀j c,j<i->bx.c[j]?=M c->∃es,w (30,[j])=M (.d es)/\Dt c.2 (uP c.2) es)/\(∀j y,i<=j->w (29,j::y)=U/\w (30,j::y)=U)/\(∀j,bx.c.length+i<=j->w (36,[j])=U)/\Pp w
section
variable{v:Mp} (hh:l8 i ec N v w)
def l8.aD:=hh.1
def l8.bj:=hh.2.1
def l8.b6:=hh.2.2.1
def l8.bb:=hh.2.2.2.1
def l8.aI:=hh.2.2.2.2.1
def l8.dC:=hh.2.2.2.2.2.1
def l8.aT:=hh.2.2.2.2.2.2.1
def l8.aG:=hh.2.2.2.2.2.2.2.1
def l8.aC:=hh.2.2.2.2.2.2.2.2.1
def l8.aJ:=hh.2.2.2.2.2.2.2.2.2.1
def l8.cF:=hh.2.2.2.2.2.2.2.2.2.2
end
inductive UT(j:Nat)(c:gJ)(w1:Hp)(i:Nat):QA
 |mk {es ec:Es} {N:Nat} {v:Mp} {w:Hp} {t:Nat}:G9 j c w1 (uP c.2) i es ec N v w->UT j c w1 i (s9 v w t)
variable{ab:Nat} {v0:Mp}
section
variable{v:Mp} {w0:Hp}
theorem UU:cC (l7 k i) (.i (i:Nat)) (.e (k,[i]))=l7 k (i+1):=(kW λh=>by rw[l7,fA]at h;obtain⟨a,ha,e⟩:=bk.mp h;exact gZ (gY.mp ha) (jv (jR e))).trans (by rw[l7,l7,WD,dc];rfl)
theorem UW:(l7 k i).length=i:=by rw[l7,bc,iU]
theorem af5(B:P9 r9)(h:bx.c[j]?=M c)(I:l8 j ec N v0 w0)(af:∀l:Loc,l≠(29,[j])->l≠(29,[j,1])->l≠(30,[j])->w1 l=w0 l)(yu:w1 (30,[j])=M (.d []))(R:RS j w1 es ab w)(P:pb c.2 c.2.length es)(C:CK ec N w)(V:l5 j c v)(q:∀v' w' t' uO N',l8 (j+1) uO N' v' w'->Q .n (s9 v' w' t')):WB (lx.n+11) (Sx.dD 4 Cy) Q (s9 v w t):=by
 have BB:=B.aC;have L:=iB BB h
 have zj:j<=273:=aL (gB (cV.mp h).1) (BB.aD.pO BB.aC);have te:w (36,[bx.c.length+j])=U:=(R.aD (36,_) (pd Y) (pd Y) (bf Y) (bf Y)).trans ((af (36,_) (bf Y) (bf Y) (bf Y)).trans (I.aJ _ (dj _)))
 refine cj (kP (dF (36,[bx.c.length+j]) Y te ?_));show WB _ (Sx.dD 5 Cy) _ ⟨aH (aU pV v pM) 27 (.e (36,[bx.c.length+j])),(hp (mix pR w u9)).aF (36,[bx.c.length+j]) (.d (iA [])),t⟩;rw[bH Y,iC Y Y];generalize hv:aH v 27 (.e (36,[bx.c.length+j]))=v1;have V1:l5 j c v1:=hv▸V.vv λi hi=>av λe=>by rw[e]at hi;exact ax hi (ao Y)
 have L6:v1 27=M (.e (36,[bx.c.length+j])):=aj hv Y;have Df:(US c.2).length<=182:=aL (Uj BB.aC L.2.2.2) (mQ 2 L.2.2.1)
 refine Uk (f:=λxs s=>if decide (s∈fX gS gS.length)=O then cX xs s else xs) BB.aC L.2.2.2 Y Y Y (aE V1.aG) (λb=>C.aD _ _ L.1) (λv' xs s Q ly le q=>?_) (λxs s=>?_) λv' ly=>?_
 .have x9:RE (s9 (aH v' 29 (.s s)) (w.aF (36,[bx.c.length+j]) (.d (iA xs))) t) (.a (.a (.v 0) 30) 19) (.e (45,[])):=by obtain⟨bl,G⟩:=C.aC;exact ra (l:=(1,[])) (c:=4) (f:=f1) (ra (l:=(20,[])) (c:=6) (f:=aH F0 37 (.i G.aC.choose)) (aE Y) G.aC.choose_spec Y Y) BB.aC.aD Y Y
  refine rA (wi (l:=(45,[])) (aE Y) x9 BB.aC.bb) (λsN=>?_) λsN=>?_
  .rw[aw (az sN)]at q;refine l4 (l:=(36,[bx.c.length+j])) (ds:=iA xs) Y Y (aE ((ly 27 (ao Y) (ao Y)).trans L6)) a4 (aE Y) vG Y (by rw[iA,bc];exact bF le (bF Df (ao Y))) (aO (aO ?_))
   rw[Ug,mI];exact q
  .rw[av λe=>sN (aB e)]at q;exact aO (aO q)
 .by_cases sN:decide (s∈fX gS gS.length)=O
  .rw[aw sN];exact x6
  .rw[av sN];exact jI _
 rw[show(US c.2).foldl (λxs s=>if decide (s∈fX gS gS.length)=O then cX xs s else xs) []=uP c.2 from List.foldl_filter.symm]
 generalize h2:w.aF (36,[bx.c.length+j]) (.d (iA (uP c.2)))=w2;have e2:∀l:Loc,l≠(36,[bx.c.length+j])->w2 l=w l:=λl hl=>aj h2 (aQ hl)
 have g36:w2 (36,[bx.c.length+j])=M (.d (iA (uP c.2))):=aj h2 a4;have C2:CK ec N w2:=aj h2 ⟨C.aC.elim λbl G=>⟨bl,G.aC,G.aG,G.aI,G.aT,G.aJ,G.aD.aF⟩,C.aG,C.aD⟩
 have V2:l5 j c v':=V1.vv λi hi=>ly i (λe=>by rw[e]at hi;exact ax hi (ao Y)) λe=>by rw[e]at hi;exact ax hi (ao Y)
 have nd:(uP c.2).Nodup:=yj gh;have zl:(uP c.2).length<=182:=aL qr (aL (GZ ..) Df)
 refine C4 (l:=(36,[bx.c.length+j])) (ks:=uP c.2) (UT j c w2) (aE ((ly 27 (ao Y) (ao Y)).trans L6)) (λi K J=>?_) (.mk (es:=[]) (ec:=ec) (N:=N) ⟨C2,V2,(ly 27 (ao Y) (ao Y)).trans L6,(e2 _ (bf Y)).trans ((R.aD (30,[j]) (pd Y) (pd Y) (bf Y) (bf Y)).trans yu),⟨gh,λk v=>⟨λh=>(bw h),λh=>h.elim λA h=>h.elim λi h=>bw h.2.2.1⟩⟩,dj _,I.bj,λb b b=>Y⟩) (λi s K hx J=>?_) λK J=>?_
 .cases J with|mk S=>exact⟨_,(S.aG (36,[bx.c.length+j]) Y (bf Y)).trans g36,fA⟩
 .cases J with|@mk es ec N v w t S=>?_
  have vv:∀{i},i<=27->aH v 30 (.s s) i=v i:=λ{i} hi=>av λe=>by rw[e]at hi;exact ax hi (ao Y)
  exact dP Y (af4 B h nd hx (aL (gB (cV.mp hx).1) zl) zj ⟨S.aD,S.aC.vv λi hi=>vv (aL hi (ao Y)),(vv (ao Y)).trans S.bj,S.bb,S.aI,S.aT,S.aJ,S.aG⟩ Y λv' w' t' bO uO N' S'=>.mk S')
 .cases J with|@mk bO uO N' v3 w3 t S=>?_
  have e3:∀l:Loc,[20,21,34,35,99].contains l.1=Z->cQ l.1 2=Z->cQ l.1 99=Z->l≠(29,[j])->l≠(29,[j,1])->l≠(30,[j])->l≠(36,[bx.c.length+j])->w3 l=w0 l:=λl hl ha hb h1 h2 h3 h4=>(S.aG l hl h3).trans ((e2 l h4).trans ((R.aD l (pd ha) (pd hb) h1 h2).trans (af l h1 h2 h3)));obtain⟨dp,p40,zp⟩:=I.dC;have z7:∀{m:Nat},m<=j->m<16777216:=λh=>bF (aL h zj) (ao Y)
  refine l4 (l:=(23,[])) (ds:=l7 29 j) Y Y (aE Y) ((e3 (23,[]) Y Y Y (bf Y) (bf Y) (bf Y) (bf Y)).trans I.bb) (aE S.aC.aD) (aE S.aC.aC) Y (z7 (fR UW)) (l4 (l:=(40,[])) (ds:=dp) Y Y (aE Y) ((e3 (40,[]) Y Y Y (bf Y) (bf Y) (bf Y) (bf Y)).trans p40) (aE S.aC.aD) (aE S.aC.aI) Y (z7 zp) (l4 (l:=(25,[])) (ds:=l7 30 j) Y Y (aE Y) ((e3 (25,[]) Y Y Y (bf Y) (bf Y) (bf Y) (bf Y)).trans I.aI) (aE S.aC.aD) (aE S.aC.aJ) Y (z7 (fR UW)) (fW (BS S.aC.aD (re bW ⟨_,xN,dP Y (aO ?_)⟩)))));have hd:∀{k j' y y'},j'≠j->((k,j'::y):Loc)≠(k,j::y'):=λh e=>h (bY (bS e).2).1
  have e9:∀{j' y},j'≠j->w3 (29,j'::y)=w0 (29,j'::y)/\w3 (30,j'::y)=w0 (30,j'::y):=λh=>⟨e3 _ Y Y Y (hd h) (hd h) (bf Y) (bf Y),e3 _ Y Y Y (bf Y) (bf Y) (hd h) (bf Y)⟩;have up:∀{P:Nat->gJ->Prop},(∀j' c,j'<j->bx.c[j']?=M c->P j' c)->P j c->∀j' c,j'<j+1->bx.c[j']?=M c->P j' c:=λh1 h2 j' c' lt h'=>by
   rcases V7.mp lt with lt|rfl
   .exact h1 j' c' lt h'
   .exact aj (bu (h.symm.trans h')) h2
  refine q _ _ t uO N' ⟨⟨S.aD.aC.elim λbl G=>⟨bl,G.aC,G.aG,G.aI,G.aT,G.aJ,G.aD.aF.aF.aF⟩,S.aD.aG,S.aD.aD⟩,aL S.aJ (by rw[qb,<-nO];exact eQ (mQ 4 zl) _),Y,?_,?_,⟨_,aQ (bf Y)|>.trans a4,yi zp⟩,?_,?_,λj' y le=>?_,λj' le=>?_,?_⟩
  .exact aq (λx=>M (jy.Lean.af.d x)) UU
  .exact aq (λx=>M (jy.Lean.af.d x)) UU
  .exact up (λj' c' lt h'=>(I.aT j' c' lt h').imp λes k=>⟨(e9 (gZ lt)).1.trans k.1,k.2⟩) ⟨es,(S.aG (29,[j]) Y (bf Y)).trans ((e2 _ (bf Y)).trans R.aC),P⟩
  .exact up (λj' c' lt h'=>(I.aG j' c' lt h').imp λes k=>⟨(e9 (gZ lt)).2.trans k.1,k.2⟩) ⟨bO,S.bb,aj (e7 (l:=uP c.2)) S.aI⟩
  .have ne:=mU (Wt le);have f:=I.aC j' y (wW le)
   exact⟨(e9 ne).1.trans f.1,(e9 ne).2.trans f.2⟩
  .exact(e3 (36,[j']) Y Y Y (bf Y) (bf Y) (bf Y) (jQ (mU (Wt le)))).trans (I.aJ j' (wW le))
  .exactλp hp=>(R.aI p hp).imp λg k=>⟨(S.aG (2,[p]) Y (bf Y)).trans ((e2 _ (bf Y)).trans k.1),k.2⟩
end
inductive UX(j:Nat)(c:gJ)(w0:Hp)(k:Nat):QA
 |mk {es:Es} {v:Mp} {w:Hp} {t:Nat}:l5 j c v->RS j w0 es (1000*k) w->pb c.2 k es->UX j c w0 k (s9 v w t)
inductive UY(i:Nat):QA
 |mk {ec:Es} {N:Nat} {v:Mp} {w:Hp} {t:Nat}:l8 i ec N v w->UY i (s9 v w t)
section
variable{v:Mp} {w0:Hp}
theorem af8(B:P9 r9)(h:bx.c[j]?=M c)(I:l8 j ec N v w)(v8:v 8=M (.e (34,c.1)))(q:∀v' w' t' uO N',l8 (j+1) uO N' v' w'->Q .n (s9 v' w' t')):WB (lx.n+11) Cy Q (s9 v w t):=by
 have BB:=B.aC;have L:=iB BB h
 have l1:((29,[j]):Loc)≠(29,[j,1]):=λe=>dS (aq (λl:Loc=>l.2.length) e:1=2) Y;refine cj (kP (dF (29,[j]) Y (I.aC j [] (dj _)).1 ?_));refine cj (kP (dF (29,[j,1]) Y (aQ l1.symm|>.trans (I.aC j [1] (dj _)).1) ?_));refine cj (kP (dF (30,[j]) Y (I.aC j [] (dj _)).2 ?_));show WB _ (Sx.dD 3 Cy) _ ⟨aH (aH (aH (aU pV v pM) 9 (.e (29,[j]))) 10 (.e (29,[j,1]))) 11 (.e (30,[j])),(((hp (mix pR w u9)).aF (29,[j]) (.d [])).aF (29,[j,1]) (.d [])).aF (30,[j]) (.d []),t⟩;rw[bH Y,bH Y,bH Y,iC Y Y,iC Y Y,iC Y Y];generalize hv:aH (aH (aH v 9 (.e (29,[j]))) 10 (.e (29,[j,1]))) 11 (.e (30,[j]))=v1;generalize hw:((w.aF (29,[j]) (.d [])).aF (29,[j,1]) (.d [])).aF (30,[j]) (.d [])=w1;have V1:l5 j c v1:=aj hv ⟨I.b6,v8,Y,Y,Y⟩
 have C1:CK ec N w1:=aj hw ⟨I.aD.aC.elim λbl G=>⟨bl,G.aC,G.aG,G.aI,G.aT,G.aJ,G.aD.aF.aF.aF⟩,I.aD.aG,I.aD.aD⟩;have af:∀l:Loc,l≠(29,[j])->l≠(29,[j,1])->l≠(30,[j])->w1 l=w l:=λl a b c=>aj hw ((aQ c).trans ((aQ b).trans (aQ a)))
 have yu:w1 (30,[j])=M (.d []):=aj hw a4;have R1:RS j w1 [] (1000*0) w1:=⟨aj hw ((aQ (bf Y)).trans ((aQ l1).trans a4)),⟨[],aj hw ((aQ (bf Y)).trans a4),b7 _⟩,b7 _,λp hp=>(I.cF p hp).imp λg k=>⟨(af (2,[p]) (bf Y) (bf Y) (bf Y)).trans k.1,k.2⟩,λf f f f f=>Y⟩
 refine gw (l:=(34,c.1)) (a7 c.2) (UX j c w1) (aE V1.aG) (λk K J=>?_) (.mk V1 R1 ⟨gh,λa v=>⟨λh=>(bw h),λh=>h.elim λy k=>(aj (Ea (l:=c.2)) k.1:y∈[])|>λh=>bw h⟩⟩) (λk a K ha J=>?_) λK J=>?_
 .cases J with|mk _ R _=>exact(C1.eq R.Aw).aD _ _ L.1
 .cases J with|@mk es v w t V R P=>?_
  obtain⟨y,hy,rfl⟩:=dA ha;exact dP Y (afZ B h hy C1 R P (V.vv λi hi=>av λe=>by rw[e]at hi;exact ax hi (ao Y)) Y λv' w' t' bO V' R' P'=>.mk V' R' P')
 .rw[a7,bc]at J;cases J with|@mk es v w t V R P=>exact af5 B h I af yu R P (C1.eq R.Aw) V q
theorem af9(B:b9 bx)(h:Pw w):Pp w:=λp hp=>(h p hp).imp λg k=>⟨k.1,.inl ((k.2 57 (.inr (.inr (.inr Y)))).trans (px B.aC hp).aC.2.2.2.2.2.2.2.2.1)⟩
theorem af':(⟨aH pM 7 (.i 0),hp u9,t⟩:AS)=s9 (aH pM 7 (.i 0)) u9 t:=
 ((aq (λm:Mp=>(⟨aH m 7 (.i 0),hp u9,t⟩:AS)) (gH (R:=pV))).trans (aq (λm:Mp=>(⟨m,hp u9,t⟩:AS)) (bH Y))).trans (aq (λu:Hp=>(⟨aU pV (aH pM 7 (.i 0)) pM,hp u,t⟩:AS)) (ry (R:=pR)))
theorem aga(B:P9 r9)(I:l8 bx.c.length ec N v w):o7 gS (bx.c.map (·.2)) (mix pR w u9):=by
 have BB:=B.aC;have S:=BB.aD
 have at':∀{j:Nat}{c:List It},(bx.c.map (·.2))[j]?=M c->∃c':gJ,bx.c[j]?=M c'/\c'.2=c:=λh=>dA h;have K0:∀{I:List It} {x},K1 I x≠[]->∃y∈I,x∈(ru y.1).2:=λh=>(qH _ h).elim λz hz=>(nD hz).elim λy k=>⟨y,k.1,Al k.2.1⟩
 have zc:(bx.c.map (·.2)).length=bx.c.length:=bc ..;refine⟨⟨ak zc (aL (S.pO BB.aC) (ao Y)),?_,λc hc x n=>?_,λj c h0 hj=>?_,?_⟩,?_,ak zc I.bb,ak zc I.aI,λj c hj=>?_,λj c hj=>?_,BB.eO,BB.dC⟩
 .obtain⟨l,ps,h,k⟩:=S.b6;exact⟨ps,iO h,k.1,k.2,λq hq=>GY ((S.aD _ (bE h)).2.2.2 (q+1,0) (.tail _ (dw (f:=λq=>(q+1,0)) hq))).1⟩
 .obtain⟨c',gN,rfl⟩:=bk.mp hc;obtain⟨c2,h2,e⟩:=(S.bj c'.2 x (.inl ⟨dw gN,K0 n⟩)).2 n;exact bk.mpr ⟨c2,h2,e⟩
 .obtain⟨c',gN,rfl⟩:=at' hj;exact⟨(S.aD c' (bE gN)).2.1,(S.aJ j c' h0 gN).elim λc2 k=>⟨c2.2,dw k.1,k.2.imp λx k=>k.1⟩⟩
 .exact md.mpr (V5.mpr λi j hi hj lt e=>gZ lt (S.Dc (mO hi) (mO hj) e))
 .exact I.aD.aC.elim λbl G=>G.aC.imp' V.i λc h=>h
 .obtain⟨c',gN,rfl⟩:=at' hj;exact(I.aT j c' (cV.mp gN).1 gN).imp λes k=>⟨k.1,k.2.aD,λa v=>(k.2.aC a v).trans (by rw[e7])⟩
 .obtain⟨c',gN,rfl⟩:=at' hj;refine(I.aG j c' (cV.mp gN).1 gN).imp λes k=>⟨k.1,k.2.aD,λa v=>(k.2.aC a v).trans ⟨λh=>h.imp λA h=>h.imp λi h=>⟨h.1,h.2.1,?_,h.2.2.2⟩,λh=>h.imp λA h=>h.imp λi h=>⟨h.1,h.2.1,?_,h.2.2.2⟩⟩⟩
  .exact aB (iH.mp (qy.mp h.2.2.1)).2
  .exact qy.mpr (iH.mpr ⟨Uh.mpr (K0 h.2.2.2.1),az h.2.2.1⟩)
theorem c9(B:P9 r9):UQ r9:=by
 have BB:=B.aC;refine eF bW ?_;show WB _ _ _ ⟨aH pM 7 (.i 0),hp u9,r9.t⟩;rw[af'];have S:=BB.aD
 refine gw (l:=(24,[])) (bx.c.map λc=>.e (34,c.1)) UY (aE Y) (λi K J=>by cases J;exact S.aI) (.mk (ec:=bx.es) (N:=bx.N) ⟨⟨⟨bx.bl,S.aC.aC,S.aC.aG,S.aC.aI,S.aC.aT,S.aC.aJ,S.aC.aD⟩,λa h=>h,λa a h=>h⟩,BB.aI,Y,BB.rF,BB.jq,⟨[],BB.cF,b7 _⟩,λa a h=>ax h (w8 _),λa a h=>ax h (w8 _),λj y a=>⟨BB.aG 29 _ Y,BB.aG 30 _ Y⟩,BB.aT,af9 BB S.bb⟩) (λi x K hx J=>?_) λK J=>?_
 .obtain⟨c,hc,rfl⟩:=dA hx;cases J with|@mk ec N v w t I=>?_
  exact dP Y (af8 B hc ⟨I.aD,I.bj,I.b6,I.bb,I.aI,I.dC,I.aT,I.aG,I.aC,I.aJ,I.cF⟩ Y λv' w' t' uO N' I'=>.mk I')
 .rw[bc]at J;cases J with|@mk ec N v w t I=>exact aO (BB.aC.rF (bx.c.map (·.2)) (mix pR w u9) t (aga B I))
end
theorem agb(B:b9 bx):K7 bx:=by
 have L4:RE ⟨pM,hp bx.u,bx.t⟩ (.a (.v 0) 31) (.s oY):=ra (l:=(20,[])) (c:=6) (f:=aH F0 37 (.i B.aD.aC.aC.choose)) (aE Y) B.aD.aC.aC.choose_spec Y Y;refine iN (aj (az (Y:oY=oY)) (wj (s':=oY) L4 du)) (pK (i4 (re (aE Y) ⟨_,kB (l:=(20,[])) (c:=6) (a:=56) (f:=43) (g:=aH F0 37 (.i B.aD.aC.aC.choose)) B.aD.aC.aC.choose_spec Y Y,rl (a6 (aE Y) br) (bI.o ?_)⟩)));show bI (lx.n+2+9) _ _ _ (hp bx.u) bx.t;rw[show hp bx.u=hb bx.u from aq hp ry]
 exact afO (n:=lx.n+2) (t:=bx.t) B λw t la=>aO (wy (x:=⟨0,w,t,λb b b=>True⟩) c9 ⟨B,la⟩)
theorem agc(H:HL):KQ lx:=by
 refine fP ac9 Y ?_;have g:∀{m:Mp}{a:Nat}{x:V},m 0=M (.e (20,[]))->kq 4 a=O->f1 a=M x->RE ⟨m,hL,lx.t⟩ (.a (.a (.v 0) 30) a) x:=λe d k=>ra (c:=4) (f:=f1) (ra (l:=(20,[])) (c:=6) (f:=F0) (aE e) H.aG Y Y) H.aD d k
 refine eF (g Y Y Y) (eF (g Y Y Y) (eF (ra (l:=(20,[])) (c:=6) (f:=F0) (aE Y) H.aG Y Y) (eF (ra (l:=(20,[])) (c:=6) (f:=F0) (aE Y) H.aG Y Y) (cj (kP (dF (40,[]) Y (H.aT 40 _ Y) ?_))))));refine cj (i4 (re (aE Y) ⟨_,kB (l:=(20,[])) (c:=6) (a:=55) (f:=34) (g:=F0) H.aG Y Y,rl br (bI.o ?_)⟩));generalize hu:hL.aF (40,[]) (.d [])=u;show bI (lx.n+6+5) _ _ _ (hL.aF (40,[]) (.d [])) lx.t;have eu:hL.aF (40,[]) (.d [])=hp u:=aj hu (kQ Y)
 have e40:u (40,[])=M (.d []):=aj hu a4;have o:∀l:Loc,l≠(40,[])->u l=hL l:=λl h=>aj hu (aQ h)
 rw[eu];refine aeY (x:=⟨lx.n+6,u,lx.t,_⟩) ⟨H,λy=>o _ (bf Y),(o _ (bf Y)).trans H.aG,(o _ (bf Y)).trans H.aew,(o _ (bf Y)).trans H.aex,λk y h=>?_,λcs es bl N w t' S zN te=>?_⟩
 .have h':=(by decide:∀k∈[24,34,35,36],[24,29,30,31,32,33,34,35,36,37,38,39,40,52,53].contains k=O/\k≠40) k (iT.mp h)
  exact(o _ λe=>h'.2 (aq dQ e)).trans (H.aT k y h'.1)
 .refine mJ (w:=⟨0,λb=>U,0,λb b b=>True,[],fU,[],[],[],0,[]⟩) (P:=b9) (R:=K7) agb (x:=⟨0,mix iR w u,t',λb b b=>True,[],fU,[],es,bl,N,cs⟩) ⟨H,⟨⟨S.aC.aC,S.aC.aG,S.aC.aI,S.aC.aT,S.aC.aJ,S.aC.aD⟩,S.aI,S.aD,S.aG,S.aT,S.b6,S.cF,S.aJ,S.bj,S.bb⟩,zN,te,λy=>o _ (bf Y),(o (23,[]) (bf Y)).trans H.aey,(o (25,[]) (bf Y)).trans H.aez,(o (27,[]) (bf Y)).trans H.aeA,(o (28,[]) (bf Y)).trans H.uF,e40,(o (50,[]) (bf Y)).trans H.dC,(o (51,[]) (bf Y)).trans H.cF,H.aeB.imp λg h=>(o gu (bf Y)).trans h,λk y h=>?_⟩;have h':=(by decide:∀k∈[29,30,31,32,33,37,38,39,52,53],[24,29,30,31,32,33,34,35,36,37,38,39,40,52,53].contains k=O/\k≠40/\iR.contains k=Z) k (iT.mp h)
  exact(iw h'.2.2).trans ((o _ λe=>h'.2.1 (aq dQ e)).trans (H.aT k y h'.1))
theorem age{x:sV}:iP x->KQ x:=mJ agc
def uQ(gs:List cJ):Prop:=nC gs/\(∀s∈fX gs gs.length,s∈fi gs gs.length)/\cG∉fX gs gs.length/\(fX gs gs.length).length<=90/\(fX gs gs.length).Nodup
variable(hh:uQ gs)
def uQ.aC:=hh.1
def uQ.aG:=hh.2.1
def uQ.aJ:=hh.2.2.1
def uQ.aD:=hh.2.2.2.1
def uQ.aI:=hh.2.2.2.2
noncomputable abbrev tR:Nl:=[0,2,5,6,9,10,14,15,16,17,20,21,22,23,24,25,26,27,28,29,30,31,32,33,34,35,36,37,38,39,40,46,47,50,51,52,53,99]
def rN(x:sV):Prop:=uQ x.gs/\GS x.gs f1 x.F x.h/\(∀k y,[5,6,9,10,14,15,16,17,20,21,22,23,24,25,26,27,28,29,30,31,32,33,34,35,36,37,38,39,40,52,53].contains k=O->x.h (k,y)=U)/\(∃g,x.h gu=M (.fz g))/\x.h (50,[])=M (.t 391 #[])/\x.h (51,[])=M (.t 398 #[])/\∀cs u t',o7 x.gs cs u->x.Q (.e (20,[])) (mix tR u x.h) t'
section
variable{x:sV} (hh:rN x)
def rN.aD:=hh.1
def rN.bb:=hh.2.1
def rN.aC:=hh.2.2.1
def rN.aT:=hh.2.2.2.1
def rN.aI:=hh.2.2.2.2.1
def rN.aG:=hh.2.2.2.2.2.1
def rN.aJ:=hh.2.2.2.2.2.2
end
def L7(x:sV):Prop:=bI (x.n+14) (dZ 6) [.e (1,[]),.s oY] x.Q x.h x.t
def tx:sV:=j9 ⟨[],λa a=>U,0,λa=>U,0,λa a a=>True⟩ rN L7
abbrev hT(u:Hp):Hp:=mix tR u tx.h
variable{r:cJ}
theorem UZ(H:nC gs)(h:r∈hP gs):r.2.length<=100:=by
 rcases b0.mp h with rfl|h
 .exact(by decide:1<=100)
 .rcases H.aD r h with e|⟨_,A,e⟩|⟨A,x,e,_⟩<;>rw[e]<;>exact nK rfl
theorem agf(H:nC gs)(h:r∈gs)(ha:a∈r.2):a∈sQ (fX gs gs.length):=by
 have n:∀{A},r.2[0]?=M A->A∈sQ (fX gs gs.length):=λe=>cZ _ (H.aC r h _ e).1;rcases H.aD r h with e|⟨_,A,e⟩|⟨A,x,e,hx⟩<;>rw[e]at ha n
 .exact bw ha
 .exact ak (bp.mp ha) (n Y)
 .rcases b0.mp ha with rfl|ha
  .exact n Y
  .exact cH _ (cH _ (ak (bp.mp ha) (uG hx)))
theorem agg(X:uQ gs):(sQ (fX gs gs.length)).Nodup:=jX.mpr ⟨ao Y,X.aI,λa ha b hb e=>(cD.mp ha).elim (X.aC.aJ b hb<|aj e ·) λh=>X.aJ (aj (bp.mp h) (ak e hb))⟩
theorem agh(T:rN tx):L7 tx:=by
 have G:=T.bb;refine Cg ado (CR (l:=(20,[])) Y (T.aC 20 [] Y)) (fP adi Y ?_);have el:(O^^decide (V.s oY∈[V.s "SLR",V.s "LALR"]))=Z:=by rw[az (show V.s oY∈[V.s "SLR",V.s "LALR"] from .tail _ (.head _))];rfl
 refine d7 (oT (uk (re (aE Y) (fw (rl (a6 du (a6 du br)) ⟨(by decide:2<=16777216),kC ⟨_,in_list (n:=O) a4 ?_ Y,aj el.symm (oV (λe=>cw e) (aO ?_))⟩⟩)))))
 .exactλy h=>(b0.mp h).elim (λe=>ak e Y) λh=>ak (bp.mp h) Y
 show WB _ (Sx.dD 1 z4) _ ⟨_,(tx.h.aF (20,[]) (.i 6 λb=>U)).aF (bz tx.t) (.l [.s "SLR",.s "LALR"]),tx.t+1⟩;rw[CN (bf Y)];refine jo Y (aE Y) Y (jo Y (aE Y) Y (wc (23,[]) Y Y Y (bf Y) (T.aC 23 [] Y) (wc (25,[]) Y Y Y (bf Y) (T.aC 25 [] Y) (jo Y (ra (aE Y) G.aC Y Y) Y (wc (21,[]) Y Y Y (bf Y) (T.aC 21 [] Y) (wc (22,[]) Y Y Y (bf Y) (T.aC 22 [] Y) (jo Y bW Y (jo Y bW Y (jo Y bW Y (CP (26,[]) Y Y Y (bf Y) (T.aC 26 [] Y) (CP (27,[]) Y Y Y (bf Y) (T.aC 27 [] Y) (CP (28,[]) Y Y Y (bf Y) (T.aC 28 [] Y) ?_))))))))))));show WB _ (Sx.dD 14 z4) _ ⟨λi=>([V.e (20,[]),V.e (1,[]),V.s oY]++[V.n])[i]?,Hp.aF _ (20,[]) (.i 6 F0),tx.t+1⟩;rw[kQ (R:=tR) (h:=tx.h) Y,bA Y,bA Y,bA Y,bA Y,bA Y,bA Y,bA Y,bA Y];generalize hu:Hp.aF _ (20,[]) _=u;have Du:u (20,[])=M (.i 6 F0):=aj hu a4
 have eo:∀l:Loc,[20,21,22,23,25,26,27,28,99].contains l.1=Z->u l=tx.h l:=λl h=>by
  have ne:∀{k y},[20,21,22,23,25,26,27,28,99].contains k=O->l≠(k,y):=λh' e=>by rw[e,h']at h;exact cw h
  rw[<-hu,aQ (ne Y),aQ (ne Y),aQ (ne Y),aQ (ne Y),aQ (ne Y),aQ (ne Y),aQ (ne Y),aQ (ne Y),aQ (ne Y)]
 have Ax:u (21,[])=M (.d [])/\u (22,[])=M (.d [])/\u (23,[])=M (.d [])/\u (25,[])=M (.d [])/\u (27,[])=M (.l [])/\u (28,[])=M (.l []):=aj hu ⟨Y,Y,Y,Y,Y,Y⟩;clear hu;have yu:∀{w:Hp}{t:Nat},w (20,[])=M (.i 6 F0)->RE ⟨λi=>([V.e (20,[]),V.e (1,[]),V.s oY]++[V.n])[i]?,hT w,t⟩ (.a (.v 0) 30) (.e (1,[])):=λe=>ra (l:=(20,[])) (c:=6) (f:=F0) (aE Y) e Y Y
 refine pK (i4 (re (yu Du) ⟨_,kB (l:=(1,[])) (c:=4) (a:=43) (f:=30) (g:=f1) G.aC Y Y,rl br (bI.o (ad1 (n:=tx.n+8) (h:=hT u) (gs:=tx.gs) (f:=f1) (F:=tx.F) ⟨G.aC,G.aG,G.aI,G.bb,G.aT,G.aJ,(eo (46,[]) Y).trans G.dC,(eo (47,[]) Y).trans G.cF,G.b6,λp r h=>⟨(G.aD p r h).1,(eo (2,[p]) Y).trans (G.aD p r h).2.1,(G.aD p r h).2.2⟩,G.bj⟩ (λr hr=>UZ T.aD.aC hr) (λy=>⟨(eo (5,y) Y).trans (T.aC 5 y Y),(eo (6,y) Y).trans (T.aC 6 y Y),(eo (9,y) Y).trans (T.aC 9 y Y),(eo (10,y) Y).trans (T.aC 10 y Y)⟩) λu1 t1 J=>?_))⟩));show WB _ (Sx.dD 15 z4) _ ⟨_,mix bR u1 (mix tR u tx.h),t1⟩;rw[gG Y];have P1:∀q r,(hP tx.gs)[q]?=M r->∃g,u1 (2,[q])=M (.i 1 g)/\qs q r.1 r.2 rC (.i 0) g/\g 11=M (.e (5,[q,0])):=λq r h=>(J.aD q r h).imp λg k=>⟨k.1,k.2.1,k.2.2 (.inl (cV.mp h).1)⟩
 have I1:=J.a7;clear J;have X:=T.aD
 have sy:∀r∈tx.gs,∀a∈r.2,a∈sQ (fX tx.gs tx.gs.length):=λr hr a ha=>agf X.aC hr ha;refine pK (i4 (re (yu Du) ⟨_,kB (l:=(1,[])) (c:=4) (a:=26) (f:=28) (g:=f1) G.aC Y Y,rl br (bI.o (ad' (n:=tx.n+10) (h:=hT (mix bR u1 u)) (f:=f1) G.aC G.aG Y G.bb G.aT G.aJ ((eo (46,[]) Y).trans G.dC) (λx=>(eo (14,x) Y).trans (T.aC 14 x Y)) X.aD (λs hs=>⟨X.aG s hs,cZ _ hs,G.bj s (X.aG s hs),λx hx=>?_⟩) (agg X) λL u2 t2 D=>?_))⟩))
 .obtain⟨p,hp,rfl⟩:=bk.mp hx;obtain⟨r,hr,_⟩:=aB (iH.mp hp).2;exact(P1 (p+1) r hr).elim λg k=>⟨p+1,g,r.2,Y,k.1,k.2.1.2.1,sy r (bE hr)⟩
 show WB _ (Sx.dD 16 z4) _ ⟨_,mix [14,46,99] u2 (mix tR (mix bR u1 u) tx.h),t2⟩;rw[gG Y];have pos:0<tx.gs.length:=(bk.mp (qy.mp (X.aG _ X.aC.aT))).elim λr k=>M4 (uZ k.1)
 obtain⟨r0,h0⟩:=lW pos;obtain⟨g0,k0⟩:=P1 1 r0 h0;refine pK (i4 (re (yu Du) ⟨_,kB (l:=(1,[])) (c:=4) (a:=44) (f:=29) (g:=f1) G.aC Y Y,rl br (bI.o (aej (n:=tx.n+10) (h:=hT (mix [14,46,99] u2 (mix bR u1 u))) (f:=f1) G.aC G.aG Y G.aI (by rw[refs,bc,iU];exact aL (fJ X.aC.aG) (ao Y)) (Gn (wZ pos)) k0.1 k0.2.1.1 (X.aC.aI r0 (bE h0)).1 G.aJ (aL X.aD (ao Y)) (ks:=sQ (fX tx.gs tx.gs.length)) (LF:=L) ⟨D.1,D.2⟩ (λe=>jZ e Y) ((eo (47,[]) Y).trans G.cF) (λk x h=>?_) X.aI (λx hx=>?_) λu3 t3=>?_))⟩))
 .rcases b0.mp (iT.mp h)with rfl|h
  .exact(eo (15,x) Y).trans (T.aC 15 x Y)
  rcases b0.mp h with rfl|h
  .exact(eo (16,x) Y).trans (T.aC 16 x Y)
  .obtain rfl:=bp.mp h;exact(eo (17,x) Y).trans (T.aC 17 x Y)
 .obtain⟨i,hi⟩:=kE hx;rw[Wm,nU 1 i]at hi;obtain⟨lt,rfl⟩:=Ky hi;obtain⟨r,hr⟩:=lW (l:=hP tx.gs) (show i+1<(hP tx.gs).length from lt)
  have hg:r∈tx.gs:=bE (i:=i) hr;exact(P1 (i+1) r hr).elim λg k=>⟨i+1,g,r.1,r.2,Y,k.1,k.2.1.1,k.2.1.2.1,(X.aC.aI r hg).1,UZ X.aC (.tail _ hg),sy r hg⟩
 show WB _ (Sx.dD 17 z4) _ ⟨_,mix wR u3 (mix tR (mix [14,46,99] u2 (mix bR u1 u)) tx.h),t3⟩;rw[gG Y];refine pK (i4 (re (aE Y) ⟨_,kB (l:=(20,[])) (c:=6) (a:=45) (f:=44) (g:=F0) Du Y Y,rl br (bI.o (age (x:=⟨tx.gs,tx.F,tx.n,hT (mix wR u3 (mix [14,46,99] u2 (mix bR u1 u))),t3,_⟩) ⟨X.aC,G.aC,G.aI,G.bj,G.aT,G.aJ,G.b6,λp r h=>(G.aD p r h).2.2,λq r j hq hj=>(I1 q r j hq hj).imp λf k=>⟨⟨k.1.aC,k.1.aI,k.1.aT,k.1.aD,k.1.aJ,k.1.aG⟩,k.2⟩,P1,Du,Ax.1,Ax.2.1,Ax.2.2.1,Ax.2.2.2.1,Ax.2.2.2.2.1,Ax.2.2.2.2.2,λk y h=>?_,T.aT.imp λg h=>(eo gu Y).trans h,(eo (50,[]) Y).trans T.aI,(eo (51,[]) Y).trans T.aG,λcs w t' ai=>aO ⟨Y,?_⟩⟩))⟩))
 .have h':=(by decide:∀k∈[24,29,30,31,32,33,34,35,36,37,38,39,40,52,53],tR.contains k=O/\wR.contains k=Z/\[14,46,99].contains k=Z/\bR.contains k=Z/\[20,21,22,23,25,26,27,28,99].contains k=Z/\[5,6,9,10,14,15,16,17,20,21,22,23,24,25,26,27,28,29,30,31,32,33,34,35,36,37,38,39,40,52,53].contains k=O) k (iT.mp h)
  exact(Ar h'.1).trans ((iw h'.2.1).trans ((iw h'.2.2.1).trans ((iw h'.2.2.2.1).trans ((eo _ h'.2.2.2.2.1).trans (T.aC k y h'.2.2.2.2.2)))))
 .show tx.Q (.e (20,[])) (mix lR w (mix tR (mix wR u3 (mix [14,46,99] u2 (mix bR u1 u))) tx.h)) t';rw[gG Y];exact T.aJ cs _ t' ⟨ai.aC,ai.aD,ai.aJ,ai.aG,ai.bj,ai.aI,ai.aT,ai.bb⟩
theorem agi{x:sV}:rN x->L7 x:=mJ agh
variable{b r es:Sx} {xs:Vs}
theorem U3(I:Nat->QA)(he:RL K es xs)(z:xs.length<=16777216)(hl:∀j aZ,I j aZ->aZ.h (bz K.t)=M (.l xs))(i0:I 0 (K.aF (bz K.t) (.l xs) (K.t+1)))(step:∀j v K,xs[j]?=M v->I j K->WB n b (Fw.lp (I (j+1)) (Nx n r Q)) (K.eR i v))(fin:∀K,I xs.length K->WB n r Q K):WB n (.c (.f (.v i) (.l (.t es)) b .n) r) Q K:=
 d7 (kO (oi (fw (rl he ⟨z,kC (mH a4 (lV (tg:=.v i) xs I (λi K J=>⟨xs,hl i K J,Y⟩) i0 step λK J=>aO (fin K J)))⟩))))
theorem U4(I:Nat->QA)(he:RE K e (.i N))(z:N<=1000000)(i0:I 0 K)(step:∀j K,j<N->I j K->WB n b (Fw.lp (I (j+1)) (Nx n r Q)) (K.eR i (.i j)))(fin:∀K,I N K->WB n r Q K):WB n (.c (.f (.v i) (.B e) b .n) r) Q K:=
 d7 (kO (Z9 (re he ⟨N,Y,z,lV (tg:=.v i) ((iW N).map λi:Nat=>.i i) I (λi K J=>by
  unfold I5;rw[kG];by_cases c:i<N
  .rw[aw c,Na c];rfl
  .rw[av c,mN.mpr (by rw[iU];exact km.mp c)];rfl) i0 (λj v K hv J=>(dA hv).elim λa k=>by have lt:=(cV.mp k.1).1;rw[iU]at lt;rw[Na lt]at k;exact aj k.2 (aj (bu k.1) (step j K (aj (bu k.1) lt) J))) λK J=>aO (fin K (by rwa [bc,iU]at J))⟩)))
theorem agj{a b:Nat}:Int.fmod (a:Int) (b:Int)=((a%b:Nat):Int):=Int.fmod_eq_emod_of_nonneg _ (jH b)
theorem agk{a b:Nat}:Int.fdiv (a:Int) (b:Int)=((a/b:Nat):Int):=Int.fdiv_eq_ediv_of_nonneg _ (jH b)
noncomputable def iV(p:Nat):V:=.i p
theorem Gz{a b:Nat}(h:(b:Int)≠0):R2 K (pB .Mod) (.i (a:Nat)) (.i (b:Nat)) (.i (a%b:Nat)):=aj (agj (a:=a) (b:=b)) (Iy h)
theorem U5{a b:Nat}(h:(b:Int)≠0)(z:b<1073741824):R2 K (pB .FloorDiv) (.i (a:Nat)) (.i (b:Nat)) (.i (a/b:Nat)):=aj (agk (a:=a) (b:=b)) (YE h z)
def tH(h:Hp):Prop:=∃ks:Nl,h (60,[])=M (.l (ks.map iV))/\ks.length<=24/\∀k∈ks,k<720720
theorem L8{Q:RQ}(T:tH h)(q:∀(k:Nat) u,k<720720->tH u->Q (.i k) (mix [60] u h) t):bI (n+1) (bJ 7) [.e (60,[])] Q h t:=by
 obtain⟨ks,hk,z,lt⟩:=T;refine fP ac' Y (CD (Fb (fc (aE Y) (rh hk) _ _ ?_)));cases ks with
 |nil=>exact oV (λe=>cw e) (re bW ((ry (R:=[60]) (h:=h)).symm▸q 0 h (by decide) ⟨[],hk,z,lt⟩:Q (.i 0) h t))
 |cons k ks=>
  refine rz Y (iu (re (aE Y) ⟨_,Px hk,rl (a6 bW br) (YR (j:=0) (show(60:Nat)≠0 by decide) hk Y ?_ ?_)⟩))
  .rw[bc];exact aL z (by decide)
  .show Q (iV k) (h.aF (60,[]) _) t;rw[kQ (R:=[60]) Y];exact q k _ (lt k (.head _)) ⟨ks,a4,wW z,λk h=>lt k (.tail _ h)⟩
abbrev Ed:=Nat×aP×Nat
noncomputable def kT(e:Ed):V:=V.bP [.i e.1,.s e.2.1]
noncomputable def jc(T:List Ed):Es:=T.map λe=>(kT e,iV e.2.2)
def Au(T:List Ed)(rc es:Nl):Prop:=(T.map kT).Nodup/\(∀e∈T,e.1<3/\e.2.1∈lets/\e.2.2<3)/\rc.Nodup/\(∀p∈rc,p<3)/\0∈rc/\(∀e∈T,e.1∈rc->e.2.2∈rc)/\(∀p∈rc,p=0\/∃e∈T,e.1∈rc/\e.2.2=p)/\es.Nodup/\(∀p∈es,p∈rc)/\es≠[]/\T.length<=9/\∀P:Nat->Prop,(∀e∈T,e.1∈rc->P e.2.2->P e.1)->∀p∈rc,P p->P 0
section
variable{T:List Ed} {rc es:Nl} (hh:Au T rc es)
def Au.aG:=hh.1
def Au.aC:=hh.2.1
def Au.cF:=hh.2.2.1
def Au.aI:=hh.2.2.2.1
def Au.dC:=hh.2.2.2.2.1
def Au.eO:=hh.2.2.2.2.2.1
def Au.b6:=hh.2.2.2.2.2.2.1
def Au.aJ:=hh.2.2.2.2.2.2.2.1
def Au.aD:=hh.2.2.2.2.2.2.2.2.1
def Au.bb:=hh.2.2.2.2.2.2.2.2.2.1
def Au.aT:=hh.2.2.2.2.2.2.2.2.2.2.1
def Au.bj:=hh.2.2.2.2.2.2.2.2.2.2.2
end
def uR(T:List Ed)(rc es:Nl)(eL:Loc)(w:Hp):Prop:=tH w/\w (61,[])=M (.d (jc T))/\w (64,[])=M (.l (rc.map iV))/\w eL=M (.l (es.map iV))/\eL.1=65
section
variable{T:List Ed} {rc es:Nl} {eL:Loc} (hh:uR T rc es eL w)
def uR.aJ:=hh.1
def uR.aD:=hh.2.1
def uR.aG:=hh.2.2.1
def uR.aI:=hh.2.2.2.1
def uR.aC:=hh.2.2.2.2
end
noncomputable abbrev uS:Nl:=[60,61,63,64,65,99]
def wG(x:Rn):Prop:=tH x.u/\(∀k y,[61,63,64,65].contains k=O->x.u (k,y)=U)/\∀T rc es eL w t,Au T rc es->uR T rc es eL w->x.Q (V.bP [.e (61,[]),.e (64,[]),.e eL]) (mix uS w x.u) t
section
variable{x:Rn} (hh:wG x)
def wG.aD:=hh.1
def wG.aG:=hh.2.1
def wG.aC:=hh.2.2
end
def L9(x:Rn):Prop:=bI (x.n+2) (bJ 8) [.e (60,[])] x.Q x.u x.t
def ig:Rn:=sU wG L9
noncomputable abbrev aV:Nl:=[1,2,3,4,5,6,7]
noncomputable def aM:Mp:=λi=>([V.e (60,[])]++[])[i]?
abbrev jr(v:Mp)(w:Hp)(t:Nat):AS:=⟨aU aV v aM,mix uS w ig.u,t⟩
structure rO(sz i j b:Nat)(v:Mp)(T:List Ed)(w:Hp):Prop where
 bb:tH w
 bj:w (61,[])=M (.d (jc T))
 b6:(T.map kT).Nodup
 aC:∀e∈T,e.1<=i/\(e.1<i\/e.2.1∈lets.take j)/\e.1<sz/\e.2.1∈lets/\e.2.2<sz
 aD:T.length<=3*i+j
 cF:∃es:Nl,w (63,[])=M (.l (es.map iV))/\es.Nodup/\∀p∈es,p<b
 aT:(∀y,w (64,y)=U)/\∀y,w (65,y)=U
 aJ:v 1=M (iV sz)
 aI:v 2=M (.e (61,[]))
 aG:v 3=M (.e (63,[]))
inductive Ma(sz i b t j:Nat):QA
 |mk {v:Mp} {T:List Ed} {w:Hp} {f:Nat}:rO sz i j b v T w->v 4=M (iV i)->v 5=M (iV f)->w (bz t)=M (.l (lets.map .s))->Ma sz i b t j (jr v w (t+1))
inductive Mb(sz i:Nat):QA
 |mk {v:Mp} {T:List Ed} {w:Hp} {t:Nat}:rO sz i 0 i v T w->Mb sz i (jr v w t)
variable{sz b f:Nat} {T:List Ed}
section
variable{v:Mp}
theorem rO.vv(S:rO sz i j b v T w)(h:∀k,k<=3->v' k=v k):rO sz i j b v' T w:=⟨S.bb,S.bj,S.b6,S.aC,S.aD,S.cF,S.aT,(h 1 (ao Y)).trans S.aJ,(h 2 (ao Y)).trans S.aI,(h 3 (ao Y)).trans S.aG⟩
theorem U6{e e':Ed}(h:kT e=kT e'):e.1=e'.1/\e.2.1=e'.2.1:=by have h:=wB h;exact⟨jv (jR (bY h).1),str_inj (bY (bY h).2).1⟩
theorem agl(S:rO sz i j b v T w)(ha:lets[j]?=M a)(lt:i<sz)(z3:sz<=3)(v4:v 4=M (iV i))(v5:v 5=M (iV f))(hk:w (bz t)=M (.l (lets.map .s)))(v6:v 6=M (.s a))(q:∀K,Ma sz i b t (j+1) K->Q .n K):WB n Kc Q (jr v w (t+1)):=by
 have f4:RE (jr v w (t+1)) (.b .Mod (.v 5) (.cI 4)) (iV (f%4)):=jC (aE v5) bW (Gz (b:=4) (ao Y));have nx:∀{v T w},rO sz i (j+1) b v T w->v 4=M (iV i)->v 5=M (iV f)->w (bz t)=M (.l (lets.map .s))->WB n (Sx.dD 1 Kc) Q (jr v w (t+1)):=λ{v T w} S v4 v5 hk=>eF (jC (aE v5) bW (U5 (b:=4) (ao Y) (ao Y))) (dP Y (aO (q _ (.mk (f:=f/4) (S.vv λk h=>av λe=>by rw[e]at h;exact ax h (ao Y)) v4 Y hk))))
 have tj:∀{x},x∈lets.take j->x∈lets.take (j+1):=λh=>ak (take_snoc ha) (cH _ h);refine rB (fu (o:=.NotEq) f4 bW (um Y Y)) (λc=>?_) λc=>aO (nx ⟨S.bb,S.bj,S.b6,λe h=>⟨(S.aC e h).1,(S.aC e h).2.1.imp id tj,(S.aC e h).2.2⟩,p9 S.aD,S.cF,S.aT,S.aJ,S.aI,S.aG⟩ v4 v5 hk);refine Ko (l:=(61,[])) (ds:=jc T) (y:=kT (i,a,0)) (z:=iV (f%4%sz)) Y (aE S.aI) S.bj (mF (a6 (aE v4) (a6 (aE v6) br)) (by decide:2<=16777216)) (jC f4 (aE S.aJ) (Gz λe=>mU (bF (b7 i) lt) (jv e))) Y ?_ (aO ?_)
 .rw[jc,bc];exact bF (aL S.aD (jY (mQ 3 (aL (gB lt) z3)) (gB (cV.mp ha).1))) (by decide:3*3+3<16777216)
 .have nk:kT (i,a,0)∉T.map kT:=λh=>by
   obtain⟨e,he,ek⟩:=bk.mp h;have ek:=U6 ek
   rcases(S.aC e he).2.1 with h|h
   .exact gZ h ek.1
   .exact pN CU ha (aj (show e.2.1=a from ek.2) h)
  rw[kW (by rw[jc,fA];exact nk)]
  have Mc:=akw (f%4) (bF (b7 i) lt);refine nx (T:=T++[(i,a,f%4%sz)]) ⟨S.bb.imp λc h=>h,a4.trans (aq (λx=>M (af.d x)) (dc (l₂:=[(i,a,f%4%sz)])).symm),?_,λe h=>?_,?_,S.cF.imp λc h=>h,S.aT,S.aJ,S.aI,S.aG⟩ v4 v5 ((aQ (bf Y)).trans hk)
  .rw[dc];exact qY S.b6 nk
  .rcases cD.mp h with h|h
   .exact⟨(S.aC e h).1,(S.aC e h).2.1.imp id tj,(S.aC e h).2.2⟩
   .obtain rfl:=bp.mp h;exact⟨dj _,.inr (ak (take_snoc ha) (cZ _ (.head _))),lt,bE ha,Mc⟩
  .rw[dW];exact fJ S.aD
end
theorem o2{x y z:V}{f:aN->aN->gD aN}{Q:QV}(g:R2 K f x y z)(q:Q z K):O2 K f x y Q:=λF A n W s v u T vx vy=>BC T (g F A n W s v u T vx vy) q
section
variable{v:Mp}
theorem agm(S:rO sz i 0 i v T w)(lt:i<sz)(z3:sz<=3)(v4:v 4=M (iV i))(q:∀K,Mb sz (i+1) K->Q .n K):WB (ig.n+1) Ke Q (jr v w t):=by
 refine cj (kM (rl (a6 (aE Y) br) (bI.o (L8 (n:=ig.n) (h:=mix uS w ig.u) (S.bb.imp λc h=>h) λk u c Tp=>?_))));rw[gG Y];refine dP Y ?_;have S:rO sz i 0 i (aH v 5 (.i k)) T (mix [60] u w):=⟨Tp.imp λc h=>h,S.bj,S.b6,S.aC,S.aD,S.cF,S.aT,S.aJ,S.aI,S.aG⟩
 have v4:aH v 5 (.i k) 4=M (iV i):=v4;have v5:aH v 5 (.i k) 5=M (iV k):=Y
 generalize aH v 5 (.i k)=v at S v4 v5⊢;generalize mix [60] u w=w at S⊢;have nx:∀{w},rO sz i 0 (i+1) v T w->WB (ig.n+1) (Sx.dD 2 Ke) Q (jr v w t):=λ{w} S=>by
  refine eF (jC (aE v5) bW (U5 (b:=2) (ao Y) (ao Y))) (dP Y ?_);refine U3 (xs:=lets.map .s) (Ma sz i (i+1) t) (a6 du (a6 du (a6 du br))) (by decide:3<=16777216) (λj K J=>?_) ?_ (λj x K hx J=>?_) λK J=>?_
  .cases J with|mk _ _ _ hk=>exact hk
  .have e:∀{v},AS.aF (jr v w t) (bz t) (.l (lets.map .s)) (t+1)=jr v (w.aF (bz t) (.l (lets.map .s))) (t+1):=aq (λh:Hp=>(⟨_,h,t+1⟩:AS)) (bA Y);exact ak e (.mk (f:=k/2) ⟨S.bb.imp λc h=>h,S.bj,S.b6,S.aC,S.aD,S.cF,S.aT,S.aJ,S.aI,S.aG⟩ v4 Y a4)
  .obtain⟨a,ha,rfl⟩:=dA hx;cases J with|mk S v4 v5 hk=>exact dP Y (agl ⟨S.bb,S.bj,S.b6,S.aC,S.aD,S.cF,S.aT,S.aJ,S.aI,S.aG⟩ ha lt z3 v4 v5 hk Y λK J=>J)
  .cases J with|mk S v4 v5 hk=>exact aO (q _ (.mk ⟨S.bb,S.bj,S.b6,λe h=>⟨p9 (S.aC e h).1,.inl (AY (S.aC e h).1),(S.aC e h).2.2⟩,S.aD,S.cF,S.aT,S.aJ,S.aI,S.aG⟩))
 obtain⟨es,Ay,en,el⟩:=S.cF;refine rA (fu (o:=.Eq) (jC (aE v5) bW (Gz (b:=2) (ao Y))) bW (pD Y Y)) (λc=>?_) λc=>aO (nx ⟨S.bb,S.bj,S.b6,S.aC,S.aD,⟨es,Ay,en,λp h=>qI (el p h)⟩,S.aT,S.aJ,S.aI,S.aG⟩);refine ny (l:=(63,[])) Y Y (aE S.aG) Ay (aE v4) ?_ (aO (nx ⟨S.bb.imp λc h=>h,S.bj,S.b6,S.aC,S.aD,⟨es++[i],a4.trans (aq (λx=>M (af.l x)) (dc (l₂:=[i])).symm),qY en λh=>dI _ (el i h),λp h=>?_⟩,S.aT,S.aJ,S.aI,S.aG⟩))
 .rw[bc];exact bF (oX en λp h=>gY.mpr (el p h)) (by rw[iU];exact gc lt (aL z3 (ao Y)))
 .exact(cD.mp h).elim (λh=>qI (el p h)) λh=>ak (bp.mp h) (jd i)
end
def TF(sz:Nat)(T:List Ed):Prop:=(T.map kT).Nodup/\∀e∈T,e.1<sz/\e.2.1∈lets/\e.2.2<sz
variable(hh:TF sz T)
def TF.aD:=hh.1
def TF.aC:=hh.2
structure Az(sz:Nat)(T:List Ed)(j jl:Nat)(rc:Nl)(v:Mp)(w:Hp):Prop where
 dC:tH w
 aI:w (61,[])=M (.d (jc T))
 uF:∃es:Nl,w (63,[])=M (.l (es.map iV))/\es.Nodup/\∀p∈es,p<sz
 b6:∀y,w (65,y)=U
 aD:w (64,[])=M (.l (rc.map iV))
 aT:rc.Nodup
 bb:∀p∈rc,p<sz
 bj:0∈rc
 jq:∀p∈rc,p=0\/∃e∈T,e.1∈rc/\e.2.2=p
 eO:∀P:Nat->Prop,(∀e∈T,e.1∈rc->P e.2.2->P e.1)->∀p∈rc,P p->P 0
 rF:j<=rc.length
 aJ:∀e∈T,e.1∈rc.take j\/rc[j]?=M e.1/\e.2.1∈lets.take jl->e.2.2∈rc
 aG:v 2=M (.e (61,[]))
 cF:v 3=M (.e (63,[]))
 aC:v 7=M (.e (64,[]))
inductive Me(sz:Nat)(T:List Ed)(j p t jl:Nat):QA
 |mk {v:Mp} {w:Hp} {rc:Nl}:Az sz T j jl rc v w->rc[j]?=M p->v 4=M (iV p)->w (bz t)=M (.l (lets.map .s))->Me sz T j p t jl (jr v w (t+1))
inductive Mf(sz:Nat)(T:List Ed)(j:Nat):QA
 |mk {v:Mp} {w:Hp} {t:Nat} {rc:Nl}:Az sz T j 0 rc v w->Mf sz T j (jr v w t)
variable{jl:Nat} {rc:Nl} {e:Ed}
section
variable{v:Mp}
theorem pZ(F:TF sz T)(h:e∈T):bM (jc T) (kT e)=M (iV e.2.2):=uL (by rw[jc,fA];exact F.aD) (dw (f:=λe=>(kT e,iV e.2.2)) h)
theorem Dv(h1:e.1=p)(h2:e.2.1=a)(h:e∈T):(p,a,e.2.2)∈T:=by obtain⟨x,y,z⟩:=e;obtain rfl:x=p:=h1;obtain rfl:y=a:=h2;exact h
theorem Mg(h:∀q,(p,a,q)∉T):bM (jc T) (kT (p,a,0))=U:=DX.mp λe=>by
 rw[pL,decide_eq_true_iff,jc,fA]at e;obtain⟨x,hx,e⟩:=bk.mp e;have e:=U6 e
 exact h x.2.2 (Dv e.1 e.2 hx)
theorem Mh(G:Az sz T j jl rc v w)(z3:sz<=3):rc.length<=3:=aL (oX G.aT λp h=>gY.mpr (G.bb p h)) (by rw[iU];exact z3)
theorem agn(F:TF sz T)(z3:sz<=3)(G:Az sz T j jl rc v w)(hp:rc[j]?=M p)(ha:lets[jl]?=M a)(v4:v 4=M (iV p))(hk:w (bz t)=M (.l (lets.map .s)))(v6:v 6=M (.s a))(q:∀K,Me sz T j p t (jl+1) K->Q .n K):WB n SG Q (jr v w (t+1)):=by
 have ek:RE (jr v w (t+1)) (.d (.c (.v 4) (.c (.v 6) .n))) (kT (p,a,0)):=mF (a6 (aE v4) (a6 (aE v6) br)) (by decide:2<=16777216)
 have ts:=take_snoc ha;have sM:(∀q,(p,a,q)∈T->q∈rc)->Q .n (jr v w (t+1)):=λh=>q _ (.mk ⟨G.dC,G.aI,G.uF,G.b6,G.aD,G.aT,G.bb,G.bj,G.jq,G.eO,G.rF,λe he h'=>h'.elim (λh'=>G.aJ e he (.inl h')) λh'=>(cD.mp (aj ts h'.2)).elim (λh2=>G.aJ e he (.inr ⟨h'.1,h2⟩)) λh2=>h e.2.2 (Dv (bu (h'.1.symm.trans hp)) (bp.mp h2) he),G.aG,G.cF,G.aC⟩ hp v4 hk)
 by_cases c:∃q,(p,a,q)∈T
 .obtain⟨q',hq⟩:=c;have es:RE (jr v w (t+1)) (.u (.v 2) (.d (.c (.v 4) (.c (.v 6) .n)))) (iV q'):=dU (aE G.aG) ek (fG (l:=(61,[])) G.aI Y (pZ F hq))
  have t1:RT (jr v w (t+1)) (.m .In (.d (.c (.v 4) (.c (.v 6) .n))) (.v 2)) (bM (jc T) (kT (p,a,0))).isSome:=z8 ek (aE G.aG) (l:=(61,[])) G.aI Y;rw[show bM (jc T) (kT (p,a,0))=M (iV q') from pZ F hq]at t1
  have t2:RT (jr v w (t+1)) (.m .NotIn (.u (.v 2) (.d (.c (.v 4) (.c (.v 6) .n)))) (.v 7)) (!decide (iV q'∈rc.map iV)):=CH (l:=(64,[])) es (aE G.aC) G.aD (λy h=>(bk.mp h).elim λx k=>aj k.2 Y) Y;have uq:∀q2,(p,a,q2)∈T->q'=q2:=λq2 h2=>jv (jR (bu ((pZ F hq).symm.trans (pZ F h2))))
  refine d7 (oT (vL (BK t1 (BJ t2 ?_))));by_cases d:iV q'∈rc.map iV
  .rw[az d];exact aO (aO (sM λq2 h2=>aj (uq q2 h2) ((bk.mp d).elim λx k=>aj (jv (jR k.2):x=q') k.1)))
  .rw[aA d];refine ny (l:=(64,[])) Y Y (aE G.aC) G.aD es (by rw[bc];exact bF (Mh G z3) (ao Y)) (aO (aO ?_))
   have lt:=(cV.mp hp).1;refine q _ (.mk (rc:=rc++[q']) ⟨G.dC.imp λb h=>h,G.aI,G.uF,G.b6,a4.trans (aq (λx=>M (af.l x)) (dc (l₂:=[q'])).symm),qY G.aT λh=>d (dw h),λx h=>(cD.mp h).elim (G.bb x) λh=>ak (bp.mp h) (F.aC _ hq).2.2,cH _ G.bj,λx h=>?_,λP cP x h hx=>?_,aL G.rF (dW▸mR ..),λe he h'=>?_,G.aG,G.cF,G.aC⟩ ((AQ lt).trans hp) v4 ((aQ (bf Y)).trans hk))
   .rcases cD.mp h with h|h
    .exact(G.jq x h).imp id λh=>h.imp λe k=>⟨k.1,cH _ k.2.1,k.2.2⟩
    .exact .inr ⟨_,hq,cH _ (bE hp),(bp.mp h).symm⟩
   .have old:=G.eO P λe he h=>cP e he (cH _ h);rcases cD.mp h with h|h
    .exact old x h hx
    .exact old p (bE hp) (cP _ hq (cH _ (bE hp)) (aj (bp.mp h) hx))
   .rw[VY G.rF,AQ lt]at h';rcases h' with h'|h'
    .exact cH _ (G.aJ e he (.inl h'))
    .rcases cD.mp (aj ts h'.2)with h2|h2
     .exact cH _ (G.aJ e he (.inr ⟨h'.1,h2⟩))
     .exact cZ _ (bp.mpr (uq e.2.2 (Dv (bu (h'.1.symm.trans hp)) (bp.mp h2) he)).symm)
 .have t1:RT (jr v w (t+1)) (.m .In (.d (.c (.v 4) (.c (.v 6) .n))) (.v 2)) (bM (jc T) (kT (p,a,0))).isSome:=z8 ek (aE G.aG) (l:=(61,[])) G.aI Y;rw[Mg λq h=>c ⟨q,h⟩]at t1;exact d7 (oT (vL (xI t1 (aO (aO (sM λq h=>ax ⟨q,h⟩ c))))))
theorem ago(F:TF sz T)(z3:sz<=3)(G:Az sz T j 0 rc v w)(hp:rc[j]?=M p)(v4:v 4=M (iV p))(q:∀K,Mf sz T (j+1) K->Q .n K):WB n SH Q (jr v w t):=by
 refine U3 (xs:=lets.map .s) (Me sz T j p t) (a6 du (a6 du (a6 du br))) (by decide:3<=16777216) (λj K J=>?_) ?_ (λjl x K hx J=>?_) λK J=>?_
 .cases J with|mk _ _ _ hk=>exact hk
 .have e:AS.aF (jr v w t) (bz t) (.l (lets.map .s)) (t+1)=jr v (w.aF (bz t) (.l (lets.map .s))) (t+1):=aq (λh:Hp=>(⟨_,h,t+1⟩:AS)) (bA Y);exact ak e (.mk (rc:=rc) ⟨G.dC.imp λb h=>h,G.aI,G.uF,G.b6,G.aD,G.aT,G.bb,G.bj,G.jq,G.eO,G.rF,G.aJ,G.aG,G.cF,G.aC⟩ hp v4 a4)
 .obtain⟨a,ha,rfl⟩:=dA hx;cases J with|mk G hp v4 hk=>exact dP Y (agn F z3 ⟨G.dC,G.aI,G.uF,G.b6,G.aD,G.aT,G.bb,G.bj,G.jq,G.eO,G.rF,G.aJ,G.aG,G.cF,G.aC⟩ hp ha v4 hk Y λK J=>J)
 .cases J with|@mk v w rc G hp v4 hk=>?_
  refine aO (q _ (.mk (rc:=rc) ⟨G.dC,G.aI,G.uF,G.b6,G.aD,G.aT,G.bb,G.bj,G.jq,G.eO,(cV.mp hp).1,λe he h=>?_,G.aG,G.cF,G.aC⟩));rcases h with h|h
  .rw[take_snoc hp]at h;rcases cD.mp h with h|h
   .exact G.aJ e he (.inl h)
   .exact G.aJ e he (.inr ⟨ak (bp.mp h) hp,(F.aC e he).2.1⟩)
  .exact bw h.2
end
section
variable{v:Mp}
theorem agp(h:0<n):(max 0 (min ((-1:Int)+(n:Nat)) (n:Nat))).toNat<n:=by
 cases n with
 |zero=>cases h
 |succ k=>
  rw[show(-1:Int)+((k+1:Nat):Int)=(k:Nat) from(Nt ..).trans (akc (fY k)).symm,ajS (qc.mpr (jI k)),Int.max_eq_right (jH k)]
  exact jd k
theorem agq(P:wG ig)(F:TF sz T)(z9:T.length<=9)(z3:sz<=3)(G:Az sz T 0 0 rc v w):WB (ig.n+1) (Sx.dD 5 Cz) (Rt ig.Q) (jr v w t):=by
 refine TT (l:=(64,[])) 3 (Mf sz T) (aE G.aC) (.mk G) λj K J=>?_;cases J with|@mk v w t rc G=>?_
 refine⟨_,G.aD,bc (f:=iV) (as:=rc)▸G.rF,bc (f:=iV) (as:=rc)▸Mh G z3,λx hx=>?_,λej=>?_⟩
 .obtain⟨p,hp,rfl⟩:=dA hx;exact dP Y (ago F z3 ⟨G.dC,G.aI,G.uF,G.b6,G.aD,G.aT,G.bb,G.bj,G.jq,G.eO,G.rF,G.aJ,G.aG,G.cF,G.aC⟩ hp Y λK J=>J)
 .rw[bc]at ej;have cl:∀e∈T,e.1∈rc->e.2.2∈rc:=λe he h=>G.aJ e he (.inl (by rw[ej,e7];exact h))
  obtain⟨es,Ay,en,el⟩:=G.uF;have r3:∀p∈rc,p<3:=λp h=>gc (G.bb p h) z3
  have au:∀bO:Nl,bO.Nodup->(∀p∈bO,p∈rc)->bO≠[]->Au T rc bO:=λbO a b c=>⟨F.aD,λe h=>⟨gc (F.aC e h).1 z3,(F.aC e h).2.1,gc (F.aC e h).2.2 z3⟩,G.aT,r3,G.bj,cl,G.jq,a,b,c,z9,G.eO⟩;have zE:(es.map iV).length<=3:=by rw[bc];exact aL (oX en λp h=>gY.mpr (el p h)) (by rw[iU];exact z3)
  refine fW (Jo (re (aE G.cF) (mH (l:=(63,[])) Ay (Kj (l:=(65,[])) (es.map iV) (λv=>bif decide (v∈rc.map iV)then M v else U) (.inr ⟨(by decide:(65:Nat)≠0),(by decide:(65:Nat)≠99),G.b6 [],Y⟩) (λys i=>⟨_,Ay,Y⟩) (λx hx ys ai le k=>?_) ?_))))
  .obtain⟨p,hp,rfl⟩:=bk.mp hx;exact Ta (by decide:(65:Nat)≠0) (bF (aL le zE) (by decide)) (wk (l:=(64,[])) (aE Y) (aE G.aC) G.aD (λy h=>(bk.mp h).elim λx k=>k.2▸Y) Y) (aE Y) k
  generalize he:es.filter (λp=>decide (p∈rc))=bO;have fm:∀x∈bO,x∈rc:=he▸λx hx=>aB (p:=x∈rc) (iH.mp hx).2
  have U7:bO.Nodup:=he▸en.sublist yJ;have e1:(es.map iV).filterMap (λv=>bif decide (v∈rc.map iV)then M v else U)=bO.map iV:=by
   rw[<-he];clear he fm U7 Ay en el zE
   induction es with
   |nil=>rfl
   |cons x es ih=>
    rw[nN,G3,ih,Ni];by_cases c:x∈rc
    .rw[az (dw c),az c];rfl
    .have n:iV x∉rc.map iV:=λh=>c ((bk.mp h).elim λy k=>(jv (jR k.2):y=x)▸k.1);rw[aA n,aA c];rfl
  rw[e1];show WB _ (Sx.dD 7 Cz) _ ⟨aH (aU aV v aM) 3 (.e (65,[])),(mix uS w ig.u).aF (65,[]) (.l (bO.map iV)),t⟩;rw[bH Y,bA Y];have r2:RE (jr (aH v 3 (.e (65,[]))) (w.aF (65,[]) (.l (bO.map iV))) t) (.v 2) (.e (61,[])):=aE G.aG
  have r7:RE (jr (aH v 3 (.e (65,[]))) (w.aF (65,[]) (.l (bO.map iV))) t) (.v 7) (.e (64,[])):=aE G.aC;refine CD (xG (eC (re r2 (eC (re r7 (eC (Fb (fc (aE Y) (rh (l:=(65,[])) (vs:=bO.map iV) (show(w.aF (65,[]) (.l (bO.map iV))) (65,[])=_ from a4)) _ _ ?_))))))))
  have W:∀{es eL w'},w' eL=M (.l (es.map iV))->eL.1=65->(∀l:Loc,l.1≠65->w' l=w l)->uR T rc es eL w':=λa b c=>⟨G.dC.imp λks k=>⟨(c _ (pd Y)).trans k.1,k.2⟩,(c _ (pd Y)).trans G.aI,(c _ (pd Y)).trans G.aD,a,b⟩;cases bO with
  |nil=>
   refine oV (λe=>cw e) (zT (re r7 (re (q9 bW) (.inl ⟨(64,[]),rc.map iV,-1,Y,Y,G.aD,?_,dF (65,[1]) Y ?_ (eB ⟨(by decide:3<=16777216),?_⟩)⟩))))
   .rw[bc];exact aL (Mh G z3) (by decide)
   .exact(show(w.aF (65,[]) (.l ([].map iV))) (65,[1])=U from(aQ λe=>A1 _ _ (bS e).2).trans (G.b6 [1]))
   .show ig.Q _ ((mix uS (w.aF (65,[]) (.l ([].map iV))) ig.u).aF (65,[1]) _) t;rw[bA Y,<-Ef];refine P.aC T rc _ (65,[1]) _ t (au _ (G.aT.sublist (List.drop_sublist ..)) (λx hx=>Wi hx) λe=>?_) (W a4 Y λl h=>(aQ λe=>h (by rw[e])).trans (aQ λe=>h (by rw[e])))
    have l1:0<rc.length:=M4 G.bj;rw[List.drop_eq_nil_iff,bc,mW,aw (by decide)]at e
    exact dI _ (bF e (agp l1))
  |cons p ps=>
   refine rz Y (re (aE Y) (eB ⟨(by decide:3<=16777216),P.aC T rc (p::ps) (65,[]) _ t (au _ ?_ ?_ λe=>jZ e Y) (W a4 Y λl h=>aQ λe=>h (by rw[e]))⟩))
   .exact U7
   .exact fm
theorem agr(P:wG ig):L9 ig:=by
 refine fP ada Y ?_;have f:∀{k y},[61,63,64,65].contains k=O->ig.u (k,y)=U:=P.aG _ _
 refine cj (qj (re bW (qj (kM (rl (a6 (aE Y) br) (bI.o (L8 (n:=ig.n) (h:=ig.u) P.aD λk u a Tp=>re bW (o2 (Gz (b:=3) (ao Y)) (o2 qk ?_)))))))));have z3:1+k%3<=3:=eQ (AZ (akw k (ao Y))) 1
 generalize hs:1+k%3=sz at z3;have pG:(1:Int)+(k%3:Nat)=(sz:Nat):=aj hs Y
 have Mc:0<sz:=aj hs (gc xb (mR 1 _));rw[pG];have ex:∀y,mix [60] u ig.u (61,y)=U/\mix [60] u ig.u (63,y)=U:=λy=>⟨f Y,f Y⟩
 refine cj (kP (dF (61,[]) Y (f Y:ig.u (61,[])=U) (cj (fw (eB ⟨b7 _,dF (63,[]) Y (f Y:ig.u (63,[])=U) ?_⟩)))));show WB _ (Sx.dD 3 Cz) _ ⟨aH (aH (aH aM 1 (iV sz)) 2 (.e (61,[]))) 3 (.e (63,[])),((mix [60] u ig.u).aF (61,[]) (.d [])).aF (63,[]) (.l []),ig.t⟩;have eh:((mix [60] u ig.u).aF (61,[]) (.d [])).aF (63,[]) (.l [])=mix uS ((((mix [60] u ig.u)).aF (61,[]) (.d [])).aF (63,[]) (.l [])) ig.u:=by conv=>lhs;rw[ry (R:=uS) (h:=ig.u),gG Y,bA Y,bA Y]
 have em:aH (aH (aH aM 1 (iV sz)) 2 (.e (61,[]))) 3 (.e (63,[]))=aU aV (aH (aH (aH aM 1 (iV sz)) 2 (.e (61,[]))) 3 (.e (63,[]))) aM:=by conv=>lhs;rw[gH (R:=aV) (m:=aM),bH Y,bH Y,bH Y]
 rw[eh,em];generalize hv:aH (aH (aH aM 1 (iV sz)) 2 (.e (61,[]))) 3 (.e (63,[]))=v;generalize hw:((mix [60] u ig.u).aF (61,[]) (.d [])).aF (63,[]) (.l [])=w;have S:rO sz 0 0 0 v [] w:=by subst hv hw;exact⟨Tp.imp λa h=>h,Y,gh,(λe h=>(bw h)),b7 _,⟨[],Y,gh,(λp h=>(bw h))⟩,⟨λy=>f Y,λy=>f Y⟩,Y,Y,Y⟩
 refine U4 (N:=sz) (Mb sz) (aE S.aJ) (aL z3 (ao Y)) (.mk S) (λi K lt J=>?_) λK J=>?_
 .cases J with|mk S=>exact dP Y (agm ⟨S.bb,S.bj,S.b6,S.aC,S.aD,S.cF,S.aT,S.aJ,S.aI,S.aG⟩ lt z3 Y λK J=>J)
 .cases J with|@mk v T w t S=>?_
  have F:TF sz T:=⟨S.b6,λe h=>(S.aC e h).2.2⟩;refine cj (fw (eC (re bW (eB ⟨(by decide:1<=16777216),dF (64,[]) Y (S.aT.1 []) ?_⟩))))
  show WB _ (Sx.dD 5 Cz) _ ⟨aH (aU aV v aM) 7 (.e (64,[])),(mix uS w ig.u).aF (64,[]) (.l ([0].map iV)),t⟩;rw[bH Y,bA Y];refine agq P F (aL S.aD (mQ 3 z3)) z3 ⟨S.bb.imp λa h=>h,S.bj,S.cF,S.aT.2,a4,fQ.mpr ⟨(λh=>(bw h)),gh⟩,λp h=>ak (bp.mp h) Mc,.head _,λp h=>.inl (bp.mp h),λP a p h hp=>aj (bp.mp h) hp,b7 _,λe he h=>?_,S.aI,S.aG,Y⟩;exact(h.elim (λh=>(bw h)) λh=>bw h.2)
end
theorem ags{x:Rn}:wG x->L9 x:=wy agr
inductive RI where
 |z
 |s (p:Nat)
 |e (e:Ed)
def RI.ctorIdx(x:RI):Nat:=RI.rec 0 (λa=>1) (λa=>2) x
structure LawC where
 T:List Ed
 r:Nl
 es:Nl
 eL:Loc
 L:List RI
 l:Nl
 u:Hp
 t:Nat
def tI(x:LawC):Prop:=Au x.T x.r x.es/\uR x.T x.r x.es x.eL x.u/\(∀k y,[0,50,51,60,61,63,64,65,99].contains k=Z->x.u (k,y)=U)/\(∃g,x.u gu=M (.fz g))/\x.u (50,[])=M (.t 391 #[])/\x.u (51,[])=M (.t 398 #[])
section
variable{x:LawC} (hh:tI x)
def tI.aC:=hh.1
def tI.aD:=hh.2.1
def tI.aG:=hh.2.2.1
def tI.aT:=hh.2.2.2.1
def tI.aJ:=hh.2.2.2.2.1
def tI.aI:=hh.2.2.2.2.2
end
noncomputable def qM(x:LawC):Mp:=aH (aH (aH (aH (λi=>([V.e (0,[0])]++[])[i]?) 1 (.e (60,[]))) 2 (.e (61,[]))) 3 (.e (64,[]))) 4 (.e x.eL)
def ph(v:V)(_:Hp)(_:Nat):Prop:=v=.o O
def Mi(x:LawC):Prop:=WB 20 (Sx.dD 2 i7) (Rt ph) ⟨qM x,x.u,x.t⟩
def lq:LawC:=j9 ⟨[],[],[],(0,[]),[],[],λa=>U,0⟩ tI Mi
abbrev HQ:Prop:=tI lq
inductive Co:Nat->Prop
 |e {p:Nat}:p∈lq.es->Co p
 |s {e:Ed}:e∈lq.T->e.1∈lq.r->Co e.2.2->Co e.1
def rQ(x:Rn):Prop:=HQ/\x.u (61,[])=M (.d (jc lq.T))/\x.u (64,[])=M (.l (lq.r.map iV))/\x.u lq.eL=M (.l (lq.es.map iV))/\x.u (69,[])=U/\∀(lv:Nl) w t,lv.Nodup->(∀p,p∈lv↔Co p)->w (69,[])=M (.l (lv.map iV))->x.Q (.e (69,[])) (mix [69] w x.u) t
section
variable{x:Rn} (hh:rQ x)
def rQ.aC:=hh.1
def rQ.aD:=hh.2.1
def rQ.aG:=hh.2.2.1
def rQ.aT:=hh.2.2.2.1
def rQ.aJ:=hh.2.2.2.2.1
def rQ.aI:=hh.2.2.2.2.2
end
def Mj(x:Rn):Prop:=bI (x.n+1) (bJ 9) [.e (61,[]),.e (64,[]),.e lq.eL] x.Q x.u x.t
def AA:Rn:=sU rQ Mj
abbrev yw(v:Mp)(w:Hp)(t:Nat):AS:=⟨aU [3,4,5,6] v λi=>([V.e (61,[]),V.e (64,[]),V.e lq.eL]++[])[i]?,mix [69] w AA.u,t⟩
def yz(lv:Nl)(e:Ed):Prop:=e.1∈lq.r->e.2.2∈lv->e.1∈lv
def tJ(lv:Nl)(v:Mp)(w:Hp):Prop:=v 3=M (.e (69,[]))/\w (69,[])=M (.l (lv.map iV))/\lv.Nodup/\(∀p∈lv,Co p)/\∀p∈lq.es,p∈lv
section
variable{lv:Nl} {v:Mp} (hh:tJ lv v w)
def tJ.aC:=hh.1
def tJ.aG:=hh.2.1
def tJ.aI:=hh.2.2.1
def tJ.aD:=hh.2.2.2.1
def tJ.aJ:=hh.2.2.2.2
end
inductive Mk(k j:Nat):QA
 |mk {lv:Nl} {v:Mp} {w:Hp} {t:Nat}:tJ lv v w->((∀e∈lq.T,yz lv e)\/k+2<=lv.length\/k+1<=lv.length/\∀e∈lq.T.take j,yz lv e)->Mk k j (yw v w t)
inductive U8(k:Nat):QA
 |mk {lv:Nl} {v:Mp} {w:Hp} {t:Nat}:tJ lv v w->((∀e∈lq.T,yz lv e)\/k+1<=lv.length)->U8 k (yw v w t)
theorem U9{e b:Sx}{l:Loc}(as:List Ed)(I:Nat->QA)(he:RE K e (.e l))(hl:∀j K,I j K->K.h l=M (.d (jc as)))(i0:I 0 K)(step:∀j a K,as[j]?=M a->I j K->WB n b (Fw.lp (I (j+1)) (Nx n r Q)) ((K.eR i (iV a.1)).eR i' (.s a.2.1)))(fin:∀K,I as.length K->WB n r Q K):WB n (.c (.f (.a [i,i']) (.l e) b .n) r) Q K:=by
 have ek:(jc as).map (·.1)=as.map kT:=fA;exact d7 (kO (oi (re he (Qg (hl 0 K i0) (lV (tg:=.a [i,i']) (as.map kT) I (λj K J=>⟨_,hl j K J,Y,aj ek Y⟩) i0 (λj v K hv J=>by obtain⟨a,ha,rfl⟩:=dA hv;exact⟨_,Y,Y,step j a K ha J⟩) λK J=>aO (fin K (by rwa [bc]at J)))))))
section
variable{v:Mp} {lv:Nl}
theorem wH(H:HQ)(h:Co p):p∈lq.r:=by
 cases h with
 |e h=>exact H.aC.aD _ h
 |s _ h _=>exact h
theorem U'(H:HQ)(I:tJ lv v w):lv.length<=3:=aL (oX I.aI λp h=>gY.mpr (H.aC.aI p (wH H (I.aD p h)))) (fR iU)
theorem agt(H:rQ AA)(I:tJ lv v w)(he:lq.T[j]?=M e)(C:(∀e∈lq.T,yz lv e)\/k+2<=lv.length\/k+1<=lv.length/\∀e∈lq.T.take j,yz lv e)(v5:v 5=M (iV e.1))(v6:v 6=M (.s e.2.1))(q:∀K,Mk k (j+1) K->Q .n K):WB n SJ Q (yw v w t):=by
 have em:=bE he;have F:TF 3 lq.T:=⟨H.aC.aC.aG,H.aC.aC.aC⟩
 have kv:∀{l:Nl},∀y∈l.map iV,y.cn 7=O:=λy h=>(bk.mp h).elim λx k=>aj k.2 Y;have mem:∀{p l},iV p∈NO iV l↔p∈l:=λ{p l}=>⟨λh=>(bk.mp h).elim λx k=>aj (jv (jR k.2):x=p) k.1,λh=>dw h⟩
 have t1:RT (yw v w t) (.m .In (.v 5) (.v 1)) (decide (iV e.1∈lq.r.map iV)):=wk (l:=(64,[])) (aE v5) (aE Y) H.aG kv Y;have t2:RT (yw v w t) (.m .NotIn (.v 5) (.v 3)) (!decide (iV e.1∈lv.map iV)):=CH (l:=(69,[])) (aE v5) (aE I.aC) I.aG kv Y
 have t3:RT (yw v w t) (.m .In (.u (.v 0) (.d (.c (.v 5) (.c (.v 6) .n)))) (.v 3)) (decide (iV e.2.2∈lv.map iV)):=wk (l:=(69,[])) (dU (aE Y) (mF (a6 (aE v5) (a6 (aE v6) br)) (by decide:2<=16777216)) (fG (l:=(61,[])) H.aD Y (pZ F em))) (aE I.aC) I.aG kv Y
 have no:yz lv e->Q .n (yw v w t):=λc=>q _ (.mk I (C.imp id λC=>C.imp id λC=>⟨C.1,λx hx=>(cD.mp (aj (take_snoc he) hx)).elim (C.2 x) λh=>ak (bp.mp h:x=e) c⟩));refine d7 (oT (vL ?_));by_cases c1:e.1∈lq.r
 .rw[az (mem.mpr c1)]at t1;refine BK t1 ?_;by_cases c2:e.1∈lv
  .rw[az (mem.mpr c2)]at t2;exact xI t2 (aO (aO (no λa a=>c2)))
  .rw[aA λh=>c2 (mem.mp h)]at t2;refine BK t2 ?_;by_cases c3:e.2.2∈lv
   .rw[az (mem.mpr c3)]at t3;refine BJ t3 (ny (l:=(69,[])) Y Y (aE I.aC) I.aG (aE v5) (by rw[bc];exact bF (U' H.aC I) (ao Y)) (aO (aO (q _ (.mk (lv:=lv++[e.1]) ⟨I.aC,a4.trans (aq (λx=>M (af.l x)) (dc (l₂:=[e.1])).symm),qY I.aI c2,λp h=>(cD.mp h).elim (I.aD p) λh=>ak (bp.mp h) (.s em c1 (I.aD _ c3)),λp h=>cH _ (I.aJ p h)⟩ ?_)))))
    rw[dW];rcases C with C|C|C
    .exact ax (C e em c1 c3) c2
    .exact .inr (.inl (p9 C))
    .exact .inr (.inl (fJ C.1))
   .rw[aA λh=>c3 (mem.mp h)]at t3;exact BJ t3 (aO (aO (no λa h=>ax h c3)))
 .rw[aA λh=>c1 (mem.mp h)]at t1;exact xI t1 (aO (aO (no λh=>ax h c1)))
theorem agu(H:rQ AA):Mj AA:=by
 have ze:lq.es.length<=3:=aL (oX H.aC.aC.aJ λp h=>gY.mpr (H.aC.aC.aI p (H.aC.aC.aD p h))) (fR iU);refine fP adb Y (cj (mG Y (rl (a6 (aE Y) br) (QN (l:=lq.eL) H.aT (by rw[bc];exact aL ze (ao Y)) (dF (69,[]) Y H.aJ ?_)))))
 show WB _ (Sx.dD 1 SM) _ ⟨aH (λi=>([V.e (61,[]),V.e (64,[]),V.e lq.eL]++[])[i]?) 3 (.e (69,[])),AA.u.aF (69,[]) (.l (lq.es.map iV)),AA.t⟩;have em:∀{m:Mp}{x:V},aH m 3 x=aU [3,4,5,6] (aH m 3 x) m:=λ{m x}=>(aq (λm':Mp=>aH m' 3 x) (gH (R:=[3,4,5,6]))).trans (bH Y)
 rw[kQ (R:=[69]) Y,em];refine U4 (N:=3) U8 bW (ao Y) (.mk (lv:=lq.es) ⟨Y,a4,H.aC.aC.aJ,λp h=>.e h,λp h=>h⟩ (.inr (List.length_pos_iff.mpr H.aC.aC.bb))) (λk K lt J=>?_) λK J=>?_
 .cases J with|@mk lv v w t I C=>?_
  refine dP Y (U9 (l:=(61,[])) lq.T (Mk k) (aE Y) (λj K J=>by cases J;exact H.aD) (.mk (lv:=lv) ⟨I.aC,I.aG,I.aI,I.aD,I.aJ⟩ (C.imp id λC=>.inr ⟨C,λe h=>bw h⟩)) (λj e K he J=>?_) λK J=>?_)
  .cases J with|mk I C=>exact An Y Y (agt H ⟨I.aC,I.aG,I.aI,I.aD,I.aJ⟩ he C Y Y λK J=>J)
  .cases J with|@mk lv v w t I C=>exact aO (.mk I (C.elim .inl λC=>C.elim .inr λC=>.inl (aj (e7 (l:=lq.T)) C.2)))
 .cases J with|@mk lv v w t I C=>?_
  have cl:∀e∈lq.T,yz lv e:=C.resolve_right λh=>ax (U' H.aC I) (akv.mpr h);exact jO (aE I.aC) (H.aI lv w t I.aI (λp=>⟨I.aD p,λh=>by
   induction h with
   |e h=>exact I.aJ _ h
   |s h1 h2 _ ih=>exact cl _ h1 h2 ih⟩) I.aG)
end
theorem agv{x:Rn}:rQ x->Mj x:=wy agu
noncomputable def sN:aP:="N"
noncomputable def dt(p:Nat):aP:=sN++((toString (p:Int):String):aP)
theorem yA{p:Prop}{x y:RI}(h:x=y)(n:cQ (RI.ctorIdx x) (RI.ctorIdx y)=Z):p:=qR RI.ctorIdx h n
def RI.dT(x:RI):cJ:=RI.rec (dt 0,[]) (λp=>(bD,[dt p])) (λe=>(dt e.2.2,[dt e.1,e.2.1])) x
def RI.gA(x:RI):Loc:=RI.rec (66,[0]) (λp=>(66,[1,p])) (λe=>(66,2::e.1::cd e.2.1)) x
def RI.v(x:RI):V:=V.bP [.s x.dT.1,.e x.gA]
def RI.ok(x:RI):Prop:=RI.rec True (λp=>p∈lq.es) (λe=>e∈lq.T/\e.1∈lq.r) x
def Dw(L:List RI)(w:Hp):Prop:=∀x∈L,w x.gA=M (.l (x.dT.2.map .s))
noncomputable abbrev rR:Nl:=[60,66,67,68,99]
def pj(x:Rn):Prop:=HQ/\tH x.u/\x.u (61,[])=M (.d (jc lq.T))/\x.u (64,[])=M (.l (lq.r.map iV))/\x.u lq.eL=M (.l (lq.es.map iV))/\(∀k y,[66,67,68].contains k=O->x.u (k,y)=U)/\∀(L:List RI) l w t,L.Nodup->(∀y,y∈L↔y.ok)->Dw L w->w (68,l)=M (.l (L.map RI.v))->x.Q (.e (68,l)) (mix rR w x.u) t
section
variable{x:Rn} (hh:pj x)
def pj.aC:=hh.1
def pj.aI:=hh.2.1
def pj.aD:=hh.2.2.1
def pj.aJ:=hh.2.2.2.1
def pj.bb:=hh.2.2.2.2.1
def pj.aG:=hh.2.2.2.2.2.1
def pj.aT:=hh.2.2.2.2.2.2
end
def Ml(x:Rn):Prop:=bI (x.n+2) (bJ 10) [.e (60,[]),.e (61,[]),.e (64,[]),.e lq.eL] x.Q x.u x.t
def iD:Rn:=sU pj Ml
def oz:Mp:=λi=>([V.e (60,[]),V.e (61,[]),V.e (64,[]),V.e lq.eL]++[])[i]?
abbrev wI(v:Mp)(w:Hp)(t:Nat):AS:=⟨aU [4,5,6,7,8,9] v oz,mix rR w iD.u,t⟩
def jU(j:Nat)(F:List RI)(v:Mp)(w:Hp):Prop:=tH w/\v 4=M (.e (68,[0]))/\v 6=M (.e (67,[]))/\w (68,[0])=M (.l [RI.z.v])/\w RI.z.gA=M (.l [])/\w (67,[])=M (.l (F.map RI.v))/\Dw F w/\F.Nodup/\(∀(k:Nat)(y:Nl),w (68,(k+1)::y)=U)/\(∀x:RI,x.ok->x∉F->x≠.z->w x.gA=U)/\(∀x∈F,x.ok/\x≠.z)/\F.length<=j
section
variable{F:List RI} {v:Mp} (hh:jU j F v w)
def jU.bj:=hh.1
def jU.bb:=hh.2.1
def jU.aC:=hh.2.2.1
def jU.dC:=hh.2.2.2.1
def jU.aT:=hh.2.2.2.2.1
def jU.aD:=hh.2.2.2.2.2.1
def jU.b6:=hh.2.2.2.2.2.2.1
def jU.cF:=hh.2.2.2.2.2.2.2.1
def jU.eO:=hh.2.2.2.2.2.2.2.2.1
def jU.aJ:=hh.2.2.2.2.2.2.2.2.2.1
def jU.aI:=hh.2.2.2.2.2.2.2.2.2.2.1
def jU.aG:=hh.2.2.2.2.2.2.2.2.2.2.2
end
variable{x y:RI}
section
variable{v:Mp}
theorem Va(H:HQ){e':Ed}(h:e∈lq.T)(h':e'∈lq.T)(e1:e.1=e'.1)(e2:e.2.1=e'.2.1):e=e':=by
 have F:TF 3 lq.T:=⟨H.aC.aG,H.aC.aC⟩;have a:=pZ F h
 rw[show kT e=kT e' by unfold kT;rw[e1,e2]]at a
 exact je e1 (je e2 (jv (jR (bu (a.symm.trans (pZ F h'))))))
theorem Vb(H:HQ)(hx:x.ok)(hy:y.ok)(h:x.gA=y.gA):x=y:=by
 have h:=(bS h).2;cases x with
 |z=>
  cases y with
  |z=>rfl
  |s q=>exact dS (bY (h:[0]=[1,q])).1 rfl
  |e f=>exact dS (bY (h:[0]=2::f.1::cd f.2.1)).1 rfl
 |s p=>
  cases y with
  |z=>exact dS (bY (h:[1,p]=[0])).1 rfl
  |s q=>exact aq RI.s (bY (bY (h:[1,p]=[1,q])).2).1
  |e f=>exact dS (bY (h:[1,p]=2::f.1::cd f.2.1)).1 rfl
 |e e=>
  cases y with
  |z=>exact dS (bY (h:2::e.1::cd e.2.1=[0])).1 rfl
  |s q=>exact dS (bY (h:2::e.1::cd e.2.1=[1,q])).1 rfl
  |e f=>have k:=bY (bY (h:2::e.1::cd e.2.1=2::f.1::cd f.2.1)).2;exact aq RI.e (Va H hx.1 hy.1 k.1 (Ad k.2))
theorem Vc:∀p<3,kH (bo (toString ((p:Nat):Int)))=O/\sN.length+(bo (toString ((p:Nat):Int))).length<=16777216:=by decide+kernel
theorem wJ{b:Sx}(lt:p<3)(hb:RE K b (iV p)):RE K (.b .Add (.cS sN) (.p .r (.c b .n))) (.s (dt p)):=λn Q q=>qj (re du (mG Y (rl (a6 hb br) (YT (Nb (ao Y) (jH p)) (ake (mV.mpr lt) (ao Y)) (Vc p lt).1 (o2 (YF (Vc p lt).2) q)))))
theorem jU.eH(H:HQ){F:List RI}(I:jU j F v w)(hx:x.ok)(n:x∉F)(xz:x≠.z):jU (j+1) (F++[x]) v ((w.aF x.gA (.l (x.dT.2.map .s))).aF (67,[]) (.l ((F++[x]).map RI.v))):=by
 have l6:∀{y:RI},y.gA.1=66:=λ{y}=>by cases y<;>rfl
 have Vd:∀{y:RI},y.gA≠(67,[]):=λ{y} e=>ax (aq dQ e) (by rw[l6];decide)
 have o:∀{l:Loc},cQ 66 l.1=Z->cQ 67 l.1=Z->((w.aF x.gA (.l (x.dT.2.map .s))).aF (67,[]) (.l ((F++[x]).map RI.v))) l=w l:=λ{l} h h'=>(aQ λe=>by rw[e]at h';exact cw h').trans (aQ λe=>by rw[e,l6]at h;exact cw h)
 have oy:∀{y:RI},y.ok->y≠x->((w.aF x.gA (.l (x.dT.2.map .s))).aF (67,[]) (.l ((F++[x]).map RI.v))) y.gA=w y.gA:=λ{y} hy h=>(aQ Vd).trans (aQ λe=>h (Vb H hy hx e));refine⟨I.bj.imp λks k=>⟨(o Y Y).trans k.1,k.2⟩,I.bb,I.aC,(o Y Y).trans I.dC,(oy (y:=.z) trivial xz.symm).trans I.aT,a4,λy hy=>?_,?_,λk y=>(o Y Y).trans (I.eO k y),λy hy hn hz=>?_,λy hy=>?_,?_⟩
 .rcases cD.mp hy with hy|hy
  .exact(oy (I.aI y hy).1 λe=>n (aj e hy)).trans (I.b6 y hy)
  .rw[bp.mp hy];exact(aQ Vd).trans a4
 .exact jX.mpr ⟨I.cF,fQ.mpr ⟨(λh=>(bw h)),gh⟩,λa ha b hb e=>n (aj (bp.mp hb) (aj e ha))⟩
 .exact(oy hy λe=>hn (aj e (cZ _ (.head _)))).trans (I.aJ y hy (λh=>hn (cH _ h)) hz)
 .exact(cD.mp hy).elim (I.aI y) λh=>ak (bp.mp h) ⟨hx,xz⟩
 .rw[dW];exact fJ I.aG
theorem agw(P:pj iD){F:List RI}(I:jU j F v w)(he:e∈lq.T)(nw:RI.e e∉F)(v5:v 5=M (iV e.1))(v7:v 7=M (.s e.2.1))(q0:e.1∉lq.r->Q .n (wI v w t))(q1:e.1∈lq.r->∀w',jU (j+1) (F++[RI.e e]) v w'->Q .n (wI v w' t))(zj:j<=12):WB n SN Q (wI v w t):=by
 have TF':TF 3 lq.T:=⟨P.aC.aC.aG,P.aC.aC.aC⟩;have r:=P.aC.aC.aC e he
 refine rA (c:=iV e.1∈lq.r.map iV) (wk (l:=(64,[])) (aE v5) (aE Y) P.aJ (λy h=>(bk.mp h).elim λx k=>aj k.2 Y) Y) (λc=>?_) λc=>aO (aO (q0 λh=>c (dw h)));have c:e.1∈lq.r:=(bk.mp c).elim λx k=>aj (jv (jR k.2):x=e.1) k.1
 have fr:=I.aJ (.e e) ⟨he,c⟩ nw (λe=>nomatch e)
 refine pK (iu (re (aE I.aC) ⟨_,II (l:=(67,[])) I.aD,eC (xG (eC (re (wJ r.2.2 (dU (aE Y) (mF (a6 (aE v5) (a6 (aE v7) br)) (by decide:2<=16777216)) (fG (l:=(61,[])) P.aD Y (pZ TF' he)))) (eC (fw (rl (a6 (wJ r.1 (aE v5)) (a6 (aE v7) br)) ⟨(by decide:2<=16777216),dF (RI.e e).gA Y fr (eB ⟨(by decide:2<=16777216),eB ?_⟩)⟩))))))⟩))
 refine Fd (l:=(67,[])) (show(67:Nat)≠0 by decide) (vs:=F.map RI.v) I.aD ?_ ?_
 .rw[bc];exact bF (aL I.aG zj) (ao Y)
 .show WB _ _ _ ⟨_,((mix rR w iD.u).aF (RI.e e).gA (.l ((RI.e e).dT.2.map .s))).aF (67,[]) (.l (F.map RI.v++[(RI.e e).v])),t⟩;rw[bA Y,bA Y,show F.map RI.v++[(RI.e e).v]=(F++[RI.e e]).map RI.v from(dc (l₂:=[RI.e e])).symm]
  exact aO (aO (q1 c _ (I.eH P.aC ⟨he,c⟩ nw λe=>nomatch e)))
end
inductive Ve(j:Nat):QA
 |mk {F:List RI} {v:Mp} {w:Hp} {t:Nat}:jU (3+j) F v w->(∀x,x∈F↔(∃p∈lq.es,x=.s p)\/∃e∈lq.T.take j,e.1∈lq.r/\x=.e e)->Ve j (wI v w t)
def rS(F:List RI)(j:Nat)(L:List RI)(l:Nl)(v:Mp)(w:Hp):Prop:=tH w/\v 4=M (.e (68,l))/\w (68,l)=M (.l (L.map RI.v))/\L.Perm (.z::F.take j)/\v 6=M (.e (67,[]))/\w (67,[])=M (.l (F.map RI.v))/\Dw (.z::F) w/\∀(k:Nat)(y:Nl),j<=k->w (68,(k+1)::y)=U
section
variable{F:List RI} {L:List RI} {l:Nl} {v:Mp} (hh:rS F j L l v w)
def rS.bj:=hh.1
def rS.aD:=hh.2.1
def rS.aC:=hh.2.2.1
def rS.aG:=hh.2.2.2.1
def rS.bb:=hh.2.2.2.2.1
def rS.aJ:=hh.2.2.2.2.2.1
def rS.aI:=hh.2.2.2.2.2.2.1
def rS.aT:=hh.2.2.2.2.2.2.2
end
inductive Mm(F:List RI)(j:Nat):QA
 |mk {L:List RI} {l:Nl} {v:Mp} {w:Hp} {t:Nat}:rS F j L l v w->Mm F j (wI v w t)
variable{F L:List RI} {l:Nl}
section
variable{v:Mp}
theorem qC{o:af}{Q:QV}(c:R.contains 99=O)(q:Q (.e (bz t)) ⟨m,mix R (u.aF (bz t) o) h0,t+1⟩):alloc o Q ⟨m,mix R u h0,t⟩:=kC (show Q _ ⟨m,(mix R u h0).aF (bz t) o,t+1⟩ from aj (bA (l:=bz t) c).symm q)
theorem AB{o:af}{Q:QV}(l:Loc)(r:rg l=O)(c:R.contains l.1=O)(f:(mix R u h0) l=U)(q:Q (.e l) ⟨m,mix R (u.aF l o) h0,t⟩):alloc o Q ⟨m,mix R u h0,t⟩:=dF l r f (show Q _ ⟨m,(mix R u h0).aF l o,t⟩ from aj (bA c).symm q)
theorem AE{l:List α}{a:α}(n:l.Nodup)(h:l[j]?=M a):a∉l.take j:=λm=>(jX.mp (aj (take_snoc h) ((D6 (j+1) l).nodup n))).2.2 a m a (.head _) Y
theorem agy(H:HQ):lq.T.Nodup:=(md.mp H.aC.aG).imp λ{a b} n e=>n (aq kT e)
theorem agz(P:pj iD)(zF:F.length<=12)(G:rS F j L l v w)(hx:F[j]?=M x)(v8:v 8=M x.v)(q:∀K,Mm F (j+1) K->Q .n K):WB (iD.n+1) SO Q (wI v w t):=by
 have zL:L.length<=13:=ak G.aG.length_eq (fJ (aL (iG ..) zF));refine cj (qj (kM (rl (a6 (aE Y) br) (bI.o (L8 (n:=iD.n) (h:=mix rR w iD.u) (G.bj.imp λd h=>h) λk u d Tp=>?_)))));rw[gG Y];refine re (jC (vX (l:=(68,l)) (aE G.aD) G.aC) bW qk) (o2 (Iy (Int.ne_of_gt (Int.lt_add_one_of_le (jH _)))) ?_);refine dP Y ?_;generalize Int.fmod _ _=c;have tn:∀{a b:Nat},a≠b->bz a≠bz b:=λh e=>h (bY (bS e).2).1
 have z7:∀{m:Nat},m<=13->m<=16777216:=λh=>aL h (ao Y);have zl:(L.map RI.v).length<=13:=by rw[bc];exact zL
 have r4:∀{h':Hp}{t':Nat},RE ⟨aU [4,5,6,7,8,9] (aH v 9 (.i c)) oz,h',t'⟩ (.v 4) (.e (68,l)):=aE G.aD;have r9:∀{h':Hp}{t':Nat},RE ⟨aU [4,5,6,7,8,9] (aH v 9 (.i c)) oz,h',t'⟩ (.v 9) (.i c):=aE Y
 have r8:∀{h':Hp}{t':Nat},RE ⟨aU [4,5,6,7,8,9] (aH v 9 (.i c)) oz,h',t'⟩ (.v 8) x.v:=aE v8;have pS:∀(t:Nat){w:Hp}{a b:af},(mix rR ((w.aF (bz t) a).aF (bz (t+1)) b) iD.u) (bz t)=M a:=λt {w a b}=>(aQ (tn (gZ (jd _)))).trans a4
 have Vf:∀(t:Nat){w:Hp}{b:af},(mix rR (w.aF (bz (t+1)) b) iD.u) (bz (t+1))=M b:=λt {w b}=>a4;refine cj (qj (qj (QQ (re r4 (re r9 ⟨(68,l),_,c,Y,Y,G.aC,z7 zl,qC Y (fw (rl (a6 r8 br) ⟨(by decide:1<=16777216),qC Y ?_⟩))⟩)))))
 have z1:((L.map RI.v).take (mW (L.map RI.v).length c)).length<=13:=aL (iG ..) zl;refine FA (pS t) (Vf t) (aL (pz z1 1) (ao Y)) (qC Y (zT (re r4 (re r9 (.inl ⟨(68,l),L.map RI.v,c,Y,Y,G.aC,z7 zl,qC Y ?_⟩)))));refine FA (pS (t+2)) (Vf (t+2)) ?_ (AB (68,[j+1]) Y Y (G.aT j [] (dj _)) ?_)
 .rw[dW];exact aL (jY (pz z1 1) (aL (fR Hc) (aL (Xk ..) zl))) (ao Y)
 .generalize mW (L.map RI.v).length c=m;refine dP Y (aO ?_);have e:(L.map RI.v).take m++[x.v]++(L.map RI.v).drop m=(L.take m++[x]++L.drop m).map RI.v:=by rw[dc,dc,Ee,Ef];rfl
  refine q _ (.mk (L:=L.take m++[x]++L.drop m) (l:=[j+1]) ⟨Tp.imp λd h=>h,Y,a4.trans (aq (λx=>M (af.l x)) e),?_,G.bb,G.aJ,λy hy=>?_,λk y le=>?_⟩)
  .rw[tW,take_snoc hx];refine List.perm_middle.trans ?_;show(x::(L.take m++L.drop m)).Perm _;rw[M6];exact(G.aG.cons x).trans ((List.Perm.swap ..).trans ((List.perm_append_comm (l₁:=[x])).cons _))
  .have n8:y.gA.1=66:=by cases y<;>rfl
   have ne:∀{l:Loc},cQ 66 l.1=Z->y.gA≠l:=λh e=>by rw[<-e,n8]at h;exact cw h
   exact(aQ (ne Y)).trans ((aQ (ne Y)).trans ((aQ (ne Y)).trans ((aQ (ne Y)).trans ((aQ (ne Y)).trans ((iw (by rw[n8];rfl)).trans (G.aI y hy))))))
  .exact(aQ λe=>mU (Wt le) (qK (bY (bS e).2).1)).trans (G.aT k y (wW le))
theorem agA(P:pj iD)(I:jU 0 [] (aH v 6 (.e (67,[]))) (w.aF (67,[]) (.l [])))(f7:w (67,[])=U)(q:∀w',jU 3 (lq.es.map RI.s) (aH v 6 (.e (67,[]))) w'->WB n (Sx.dD 2 FX) (Rt iD.Q) (wI (aH v 6 (.e (67,[]))) w' t)):WB n (Sx.dD 1 FX) (Rt iD.Q) (wI v w t):=by
 have H:=P.aC;have en:=H.aC.aJ
 have ze:lq.es.length<=3:=aL (oX en λp h=>gY.mpr (H.aC.aI p (H.aC.aD p h))) (fR iU);have es:∀{w},mix rR w iD.u lq.eL=M (.l (lq.es.map iV)):=(iw (by rw[H.aD.aC];rfl)).trans P.bb
 refine fW (Jo (re (aE Y) (mH (l:=lq.eL) es (AB (67,[]) Y Y f7 ⟨(67,[]),Y,lq.es.length,λi h τ=>τ=t/\∃w,h=mix rR w iD.u/\jU i ((lq.es.take i).map RI.s) (aH v 6 (.e (67,[]))) w,⟨Y,_,Y,I⟩,λi h τ J=>?_⟩))));obtain⟨rfl,w,rfl,I⟩:=J;cases hp:lq.es[i]? with
 |none=>refine .inl ⟨⟨_,es,kG.trans (aq (Nu iV) hp)⟩,?_⟩;rw[yI (mN.mp hp)]at I;exact dP Y (q w ⟨I.bj,I.bb,I.aC,I.dC,I.aT,I.aD,I.b6,I.cF,I.eO,I.aJ,I.aI,by rw[bc];exact ze⟩)
 |some p=>
  have pm:=bE hp;have p3:=H.aC.aI p (H.aC.aD p pm)
  have n:RI.s p∉(lq.es.take i).map RI.s:=λh=>(bk.mp h).elim λx k=>AE en hp (aj (aq (λy:RI=>(RI.rec 0 id (λa=>0) y:Nat)) k.2:x=p) k.1);refine .inr ⟨iV p,⟨_,es,kG.trans (aq (Nu iV) hp)⟩,(cV.mp hp).1,(by decide:(67:Nat)≠0),QC ?_⟩
  show WE 0 _ _ ⟨_,mix rR w iD.u,_⟩;refine xG (eC (re du (eC (fw (rl (a6 (wJ p3 (aE Y)) br) ⟨(by decide:1<=16777216),AB (RI.s p).gA Y Y (I.aJ (.s p) pm n λe=>yA e Y) (eB ⟨(by decide:2<=16777216),_,I.aD,?_,Y,_,bA Y,?_⟩)⟩)))))
  .rw[bc];exact bF (aL I.aG (gB (cV.mp hp).1)) (bF ze (ao Y))
  .have A:=I.eH H (x:=.s p) pm n λe=>yA e Y;rw[dc (f:=RI.v),show(lq.es.take i).map RI.s++[RI.s p]=(lq.es.take (i+1)).map RI.s by rw[take_snoc hp,dc];rfl]at A
   exact A
theorem agB(P:pj iD):Ml iD:=by
 have H:=P.aC;refine fP ade Y ?_;have f:∀{k y},[66,67,68].contains k=O->iD.u (k,y)=U:=P.aG _ _
 refine cj (fw (eC (xG (eC (re du (eC (fw (eB ⟨b7 _,dF (66,[0]) Y (f Y) (eB ⟨(by decide:2<=16777216),eB ⟨(by decide:1<=16777216),dF (68,[0]) Y (f Y:iD.u (68,[0])=U) ?_⟩⟩)⟩))))))))
 have e0:(bo "N0")=dt 0:=by decide+kernel
 show WB _ (Sx.dD 1 FX) _ ⟨aH oz 4 (.e (68,[0])),(iD.u.aF (66,[0]) (.l [])).aF (68,[0]) (.l [V.bP [.s (bo "N0"),.e (66,[0])]]),iD.t⟩;rw[e0,kQ (R:=rR) (h:=iD.u) Y,bA Y,show aH oz 4 (.e (68,[0]))=aU [4,5,6,7,8,9] (aH oz 4 (.e (68,[0]))) oz from(aq (λm:Mp=>aH m 4 (.e (68,[0]))) gH).trans (bH Y)]
 refine agA P ⟨P.aI.imp λa h=>h,Y,Y,Y,Y,Y,λy h=>(bw h),gh,λk y=>?_,λy hy a hz=>?_,λy h=>(bw h),dj _⟩ (f Y:iD.u (67,[])=U) λw I=>?_
 .exact(aQ (bf Y)).trans ((aQ λe=>yN k (bY (bS e).2).1).trans ((aQ (bf Y)).trans (f Y)))
 .have n8:y.gA.1=66:=by cases y<;>rfl
  exact(aQ λe=>ax (aq dQ e) (by rw[n8];exact(by decide:(66:Nat)≠67))).trans ((aQ λe=>ax (aq dQ e) (by rw[n8];exact(by decide:(66:Nat)≠68))).trans ((aQ λe=>hz (Vb H hy (y:=.z) trivial e)).trans (P.aG y.gA.1 y.gA.2 (by rw[n8];rfl))))
 generalize aH (aH oz 4 (.e (68,[0]))) 6 (.e (67,[]))=v at I⊢;refine U9 (l:=(61,[])) lq.T Ve (aE Y) (λj K J=>by cases J;exact P.aD) (.mk I λx=>⟨λh=>.inl ((bk.mp h).imp λp k=>⟨k.1,k.2.symm⟩),λh=>h.elim (λh=>h.elim λp k=>ak k.2 (dw k.1)) λh=>h.elim λe k=>bw k.1⟩) (λj e K he J=>?_) λK J=>?_
 .cases J with|@mk F v w t I iF=>?_
  have em:=bE he;have zj:j<=9:=aL (gB (cV.mp he).1) H.aC.aT
  have ts:=take_snoc he;have nw:RI.e e∉F:=λh=>((iF _).mp h).elim (λh=>h.elim λp k=>yA k.2 Y) λh=>h.elim λe' k=>AE (agy H) he (ak (aq (λy:RI=>(RI.rec U (λa=>U) M y:Option Ed)) k.2.2|>bu:e=e') k.1)
  refine An Y Y (agw (F:=F) (v:=aH (aH v 5 (iV e.1)) 7 (.s e.2.1)) P ⟨I.bj,I.bb,I.aC,I.dC,I.aT,I.aD,I.b6,I.cF,I.eO,I.aJ,I.aI,I.aG⟩ em nw Y Y (λc=>.mk ⟨I.bj,I.bb,I.aC,I.dC,I.aT,I.aD,I.b6,I.cF,I.eO,I.aJ,I.aI,p9 I.aG⟩ λx=>?_) (λc w' I'=>.mk I' λx=>?_) (eQ zj 3))
  .rw[iF,ts];exact or_congr qf ⟨λh=>h.imp λe' k=>⟨cH _ k.1,k.2⟩,λh=>h.imp λe' k=>⟨(cD.mp k.1).resolve_right λq=>c (aj (bp.mp q:e'=e) k.2.1),k.2⟩⟩
  .rw[cD,bp,iF,ts,or_assoc];refine or_congr qf ⟨λh=>h.elim (λh=>h.imp λe' k=>⟨cH _ k.1,k.2⟩) λh=>⟨e,cZ _ (.head _),c,h⟩,λh=>h.elim λe' k=>(cD.mp k.1).elim (λq=>.inl ⟨e',q,k.2⟩) λq=>.inr (aj (bp.mp q:e'=e) k.2.2)⟩
 .cases J with|@mk F v w t I iF=>?_
  rw[e7]at iF;have zF:F.length<=12:=aL I.aG (eQ H.aC.aT 3)
  refine gw (l:=(67,[])) (F.map RI.v) (Mm F) (aE I.aC) (λj K J=>by cases J with|mk af=>exact af.aJ) (.mk (L:=[.z]) (l:=[0]) ⟨I.bj,I.bb,I.dC,.refl _,I.aC,I.aD,λy hy=>(b0.mp hy).elim (λe=>ak e I.aT) (I.b6 y),λk y a=>I.eO k y⟩) (λj x K hx J=>?_) λK J=>?_
  .obtain⟨x',mL,rfl⟩:=dA hx;cases J with|mk af=>exact dP Y (agz P zF ⟨af.bj,af.aD,af.aC,af.aG,af.bb,af.aJ,af.aI,af.aT⟩ mL Y λK J=>J)
  .rw[bc]at J;cases J with|@mk L l v w t af=>?_
   have p:=af.aG;rw[e7]at p;refine jO (aE af.aD) (P.aT L l w t (p.nodup_iff.mpr (fQ.mpr ⟨λh=>(I.aI _ h).2 Y,I.cF⟩)) (λy=>p.mem_iff.trans ?_) (λy hy=>af.aI y (p.mem_iff.mp hy)) af.aC);rw[b0,iF];cases y with
   |z=>exact⟨λa=>trivial,λa=>.inl Y⟩
   |s p=>exact⟨λh=>h.elim (λh=>yA h Y) λh=>h.elim (λh=>h.elim λq k=>ak (aq (λy:RI=>(RI.rec 0 id (λa=>0) y:Nat)) k.2:p=q) k.1) λh=>h.elim λe k=>(yA k.2.2 Y),λh=>.inr (.inl ⟨p,h,Y⟩)⟩
   |e e=>exact⟨λh=>h.elim (λh=>yA h Y) λh=>h.elim (λh=>h.elim λq k=>(yA k.2 Y)) λh=>h.elim λe' k=>ak (bu (aq (λy:RI=>(RI.rec U (λa=>U) M y:Option Ed)) k.2.2):e=e') ⟨k.1,k.2.1⟩,λh=>.inr (.inr ⟨e,h.1,h.2,Y⟩)⟩
theorem agC{x:Rn}:pj x->Ml x:=wy agB
end
def nH(x:LawC):Prop:=HQ/\x.L.Nodup/\(∀y,y∈x.L↔y.ok)/\Dw x.L x.u/\x.u (68,x.l)=M (.l (x.L.map RI.v))/\x.u (61,[])=M (.d (jc lq.T))/\x.u (64,[])=M (.l (lq.r.map iV))/\x.u lq.eL=M (.l (lq.es.map iV))/\(∀k y,[0,50,51,60,61,63,64,65,66,67,68,99].contains k=Z->x.u (k,y)=U)/\(∃g,x.u gu=M (.fz g))/\x.u (50,[])=M (.t 391 #[])/\x.u (51,[])=M (.t 398 #[])
section
variable{x:LawC} (hh:nH x)
def nH.aC:=hh.1
def nH.aI:=hh.2.1
def nH.aD:=hh.2.2.1
def nH.aJ:=hh.2.2.2.1
def nH.aT:=hh.2.2.2.2.1
def nH.b6:=hh.2.2.2.2.2.1
def nH.cF:=hh.2.2.2.2.2.2.1
def nH.eO:=hh.2.2.2.2.2.2.2.1
def nH.aG:=hh.2.2.2.2.2.2.2.2.1
def nH.dC:=hh.2.2.2.2.2.2.2.2.2.1
def nH.bj:=hh.2.2.2.2.2.2.2.2.2.2.1
def nH.bb:=hh.2.2.2.2.2.2.2.2.2.2.2
end
def dM(x:LawC):Mp:=aH (qM lq) 5 (.e (68,x.l))
def Mn(x:LawC):Prop:=WB 20 (Sx.dD 3 i7) (Rt ph) ⟨dM x,x.u,x.t⟩
def ld:LawC:=j9 ⟨[],[],[],(0,[]),[],[],λa=>U,0⟩ nH Mn
abbrev HD:Prop:=nH ld
abbrev gQ:List cJ:=ld.L.map RI.dT
abbrev nQ:Ss:=fX gQ gQ.length
theorem hV:∀p<3,dt p≠bD/\dt p≠sP/\dt p∉ts/\dt p≠cG/\∀q<3,dt p=dt q->p=q:=by decide+kernel
theorem AF:bD≠sP/\bD∉ts/\bD≠cG:=by decide+kernel
variable{r r':cJ}
theorem Vg{l:Ss}:s∈cX l a↔s∈l\/s=a:=⟨λh=>(K3 (ys:=[a]) h).imp id bp.mp,λh=>CX (l:=[a]) (h.elim .inr λe=>.inl (bp.mpr e))⟩
theorem fT:∀{l:Ss},(s∈ss.foldl j8 l↔s∈l\/s∈ss/\s∉ts)/\(l.Nodup->(ss.foldl j8 l).Nodup):=by
 induction ss with
 |nil=>exact⟨⟨.inl,λh=>h.elim id λh=>bw h.1⟩,id⟩
 |cons a ss ih=>
  intro l;rw[WH];refine⟨ih.1.trans ?_,λn=>ih.2 ?_⟩
  .unfold j8;by_cases c:a∈ts
   .rw[aw c];exact or_congr qf ⟨λh=>⟨.tail _ h.1,h.2⟩,λh=>⟨(b0.mp h.1).resolve_left λe=>h.2 (ak e c),h.2⟩⟩
   .rw[av c,Vg,or_assoc];exact or_congr qf ⟨λh=>h.elim (λe=>⟨aj e (.head _),ak e c⟩) λh=>⟨.tail _ h.1,h.2⟩,λh=>(b0.mp h.1).imp id λe=>⟨e,h.2⟩⟩
  .unfold j8;by_cases c:a∈ts
   .rw[aw c];exact n
   .rw[av c];exact KZ n
theorem fN:∀{rs:List cJ}{l:Ss},(s∈rs.foldl (λl r=>r.2.foldl j8 (cX l r.1)) l↔s∈l\/∃r∈rs,s=r.1\/s∈r.2/\s∉ts)/\(l.Nodup->(rs.foldl (λl r=>r.2.foldl j8 (cX l r.1)) l).Nodup):=λ{rs}=>by
 induction rs with
 |nil=>exact⟨⟨.inl,λh=>h.elim id λh=>h.elim λa h=>bw h.1⟩,id⟩
 |cons r rs ih=>
  intro l;rw[WH];refine⟨ih.1.trans ?_,λn=>ih.2 (fT (s:=s).2 (KZ n))⟩;rw[fT.1,Vg,or_assoc,or_assoc];refine or_congr qf ⟨λh=>?_,λh=>?_⟩
  .rcases h with h|h|⟨r',hr,h⟩
   .exact⟨r,.head _,.inl h⟩
   .exact⟨r,.head _,.inr h⟩
   .exact⟨r',.tail _ hr,h⟩
  .obtain⟨r',hr,h⟩:=h;rcases b0.mp hr with rfl|hr
   .exact h.elim .inl λh=>.inr (.inl h)
   .exact .inr (.inr ⟨r',hr,h⟩)
theorem yB:s∈fX gs gs.length↔∃r∈gs,s=r.1\/s∈r.2/\s∉ts:=by unfold fX;rw[e7,fN.1];exact⟨λh=>h.resolve_left λh=>(bw h),.inr⟩
theorem Dx(H:HQ)(h:p∈lq.r):p<3:=H.aC.aI p h
theorem tK(D:HD)(h:x.ok):x.dT∈gQ:=dw ((D.aD x).mpr h)
theorem rT(D:HD)(h:r∈gQ):∃x:RI,x.ok/\x.dT=r:=(bk.mp h).elim λx k=>⟨x,(D.aD x).mp k.1,k.2⟩
theorem lE(D:HD)(h:x.ok):(x=.z)\/(∃p,x=.s p/\p∈lq.es/\p<3)\/∃e,x=.e e/\e∈lq.T/\e.1∈lq.r/\e.1<3/\e.2.2<3/\e.2.1∈lets:=by
 cases x with
 |z=>exact .inl rfl
 |s p=>exact .inr (.inl ⟨p,Y,h,Dx D.aC (D.aC.aC.aD p h)⟩)
 |e e=>exact .inr (.inr ⟨e,Y,h.1,h.2,Dx D.aC h.2,(D.aC.aC.aC e h.1).2.2,(D.aC.aC.aC e h.1).2.1⟩)
theorem Vh(D:HD)(h:p∈lq.r):dt p∈fi gQ gQ.length:=by
 rcases D.aC.aC.b6 p h with rfl|⟨e,he,h1,rfl⟩
 .exact C8 (tK D (x:=.z) trivial)
 .exact C8 (tK D (x:=.e e) ⟨he,h1⟩)
theorem Mo(D:HD)(h:s∈nQ):(s=bD\/∃p<3,s=dt p)/\s∈fi gQ gQ.length:=by
 obtain⟨r,hr,h⟩:=yB.mp h;obtain⟨x,hx,rfl⟩:=rT D hr;rcases h with rfl|⟨h,hn⟩
 .refine⟨?_,C8 hr⟩;rcases lE D hx with rfl|⟨p,rfl,_⟩|⟨e,rfl,k⟩
  .exact .inr ⟨0,ao Y,Y⟩
  .exact .inl Y
  .exact .inr ⟨e.2.2,k.2.2.2.1,Y⟩
 .rcases lE D hx with rfl|⟨p,rfl,k⟩|⟨e,rfl,k⟩
  .exact bw h
  .obtain rfl:=bp.mp h;exact⟨.inr ⟨p,k.2,Y⟩,Vh D (D.aC.aC.aD p k.1)⟩
  .rcases b0.mp h with rfl|h
   .exact⟨.inr ⟨e.1,k.2.2.1,Y⟩,Vh D k.2.1⟩
   .exact ax (ak (bp.mp h) (uG k.2.2.2.2)) hn
theorem Dy(D:HD){P:aP->Prop}(hS:¬P bD)(hN:∀p<3,¬P (dt p))(h:s∈nQ):¬P s:=(Mo D h).1.elim (λe=>ak e hS) λk=>k.elim λp k=>ak k.2 (hN p k.1)
theorem Dz(D:HD)(hx:x.ok)(hy:y.ok)(h:x.dT.2=y.dT.2):x=y:=by
 have nj:∀{p q},p<3->q<3->dt p=dt q->p=q:=λ{p q} hp hq=>(hV p hp).2.2.2.2 q hq;rcases lE D hx with rfl|⟨p,rfl,k⟩|⟨e,rfl,k⟩<;>rcases lE D hy with rfl|⟨p',rfl,k'⟩|⟨e',rfl,k'⟩
 .rfl
 .exact jZ h Y
 .exact jZ h Y
 .exact jZ h Y
 .exact aq RI.s (nj k.2 k'.2 (bY h).1)
 .exact jZ (bY h).2 Y
 .exact jZ h Y
 .exact jZ (bY h).2 Y
 .exact aq RI.e (Va D.aC k.1 k'.1 (nj k.2.2.1 k'.2.2.1 (bY h).1) (bY (bY h).2).1)
theorem Mq(D:HD):gQ.length<=13:=by
 rw[bc];refine aL (Bn D.aI (k:=RI.z::(lq.es.map RI.s++lq.T.map RI.e)) λx hx=>?_) ?_
 .rcases lE D ((D.aD x).mp hx)with rfl|⟨p,rfl,k⟩|⟨e,rfl,k⟩
  .exact .head _
  .exact .tail _ (cH _ (dw k.1))
  .exact .tail _ (cZ _ (dw k.1))
 .rw[oE,dW,bc,bc];exact fJ (jY (aL (oX D.aC.aC.aJ λp h=>gY.mpr (Dx D.aC (D.aC.aC.aD p h))) (fR iU)) D.aC.aC.aT)
theorem Vi:nQ.Nodup:=(fN (s:=bD)).2 gh
theorem tL(D:HD):uQ gQ:=
 ⟨
  ⟨aL (Mq D) (ao Y),
  λr hr=>by
   obtain⟨x,hx,rfl⟩:=rT D hr;rcases lE D hx with rfl|⟨p,rfl,k⟩|⟨e,rfl,k⟩
   .exact .inl Y
   .exact .inr (.inl ⟨Y,_,Y⟩)
   .exact .inr (.inr ⟨_,_,Y,k.2.2.2.2⟩),
  λs hs=>by obtain⟨r,hr,rfl⟩:=bk.mp (qy.mp hs);exact Dy D (P:=(·∈ts)) AF.2.1 (λp hp=>(hV p hp).2.2.1) (yB.mpr ⟨r,uZ hr,.inl Y⟩),
  λs hs=>Dy D (P:=(·∈ts)) AF.2.1 (λp hp=>(hV p hp).2.2.1) hs,
  λr hr A hA=>by
   obtain⟨x,hx,rfl⟩:=rT D hr;have m:A∈x.dT.2:=bE hA
   rcases lE D hx with rfl|⟨p,rfl,k⟩|⟨e,rfl,k⟩
   .exact cK hA
   .obtain rfl:=bu hA;exact⟨yB.mpr ⟨_,hr,.inr ⟨m,(hV p k.2).2.2.1⟩⟩,(hV p k.2).1⟩
   .obtain rfl:=bu hA;exact⟨yB.mpr ⟨_,hr,.inr ⟨m,(hV e.1 k.2.2.1).2.2.1⟩⟩,(hV e.1 k.2.2.1).1⟩,
  λr hr=>by have m:=yB.mpr ⟨r,hr,.inl Y⟩;exact⟨m,Dy D (P:=(·=sP)) AF.1 (λp hp=>(hV p hp).2.1) m⟩,
  λh=>Dy D (P:=(·=sP)) AF.1 (λp hp=>(hV p hp).2.1) h Y,
  (qH _ D.aC.aC.bb).elim λp h=>yB.mpr ⟨_,tK D (x:=.s p) h,.inl Y⟩,
  md.mpr (D.aI.imp_of_mem λ{a b} ha hb n e=>n (Dz D ((D.aD a).mp ha) ((D.aD b).mp hb) (aq sg e))),
  λr hr r' wt A x e e'=>by obtain⟨y,hy,rfl⟩:=rT D hr;obtain⟨y',ef,rfl⟩:=rT D wt;rw[Dz D hy ef (e.trans e'.symm)],
  λr hr r' wt e e'=>by obtain⟨y,hy,rfl⟩:=rT D hr;obtain⟨y',ef,rfl⟩:=rT D wt;rw[Dz D hy ef (e.trans e'.symm)]⟩,
 λs hs=>(Mo D hs).2,
 λh=>Dy D (P:=(·=cG)) AF.2.2 (λp hp=>(hV p hp).2.2.2.1) h Y,
 aL (Bn (Vi) (k:=bD::(iW 3).map dt) λs hs=>(Mo D hs).1.elim (λe=>aj e (.head _)) λk=>k.elim λp k=>ak k.2 (.tail _ (dw (gY.mpr k.1)))) (by rw[oE,bc];decide),
 Vi⟩
noncomputable def allR:List cJ:=((dt 0,[])::(iW 3).map λp=>(bD,[dt p]))++(iW 3).flatMap λp=>(iW 3).flatMap λq=>lets.map λa=>(dt q,[dt p,a])
theorem DC{D:HD}(h:x.ok):x.dT∈allR:=by
 rcases lE D h with rfl|⟨p,rfl,k⟩|⟨e,rfl,k⟩
 .exact .head _
 .exact cH _ (.tail _ (dw (f:=λp=>(bD,[dt p])) (gY.mpr k.2)))
 .exact cZ _ (wY.mpr ⟨e.1,gY.mpr k.2.2.1,wY.mpr ⟨e.2.2,gY.mpr k.2.2.2.1,dw (f:=λa=>(dt e.2.2,[dt e.1,a])) k.2.2.2.2⟩⟩)
theorem agD:∀r∈allR,∀r'∈allR,lX r.1 r.2=lX r'.1 r'.2->r=r':=by decide+kernel
theorem Mr:∀r∈allR,Ab r.1/\r.1∉ts/\(∀s∈r.2,Ab s/\((s.cps[0]?).any λc=>!zA ⟨#[c]⟩ "'\"")=O/\s≠Ks)/\r.2.length<=9:=by unfold Ab;decide+kernel
theorem agE:∀r∈allR,x7 r.1 r.2/\(vg (r.2.map .str)).showable=O/\(vg (r.2.map .str)).shown.length<=16777216/\(lX r.1 r.2).length<=16777216/\kH (lX r.1 r.2)=O:=by unfold x7;decide+kernel
theorem agF(h:r∈allR):qu r.1 r.2:=by
 have a:=Mr r h;have b:=agE r h
 refine⟨a.1,a.2.1,λs hs=>⟨(a.2.2.1 s hs).1,?_,(a.2.2.1 s hs).2.2⟩,b.1,b.2.1,b.2.2⟩;have c:=(a.2.2.1 s hs).2.1
 cases e:s.cps[0]? with
 |none=>rw[e]at c;exact cw c
 |some d=>rw[e]at c;exact⟨d,Y,aj (Bool.not_eq_true' _) c⟩
structure yC where
 c:List (List It)
 l:Nl
 m:Mp
 u:Hp
 t:Nat
def cY(x:yC):Prop:=HD/\o7 gQ x.c x.u/\x.m 2=M (.e (61,[]))/\x.m 3=M (.e (64,[]))/\x.m 4=M (.e lq.eL)/\x.m 5=M (.e (68,ld.l))/\x.m 9=M (.e (20,[]))/\Dw ld.L x.u/\x.u (68,ld.l)=M (.l (ld.L.map RI.v))/\x.u (61,[])=M (.d (jc lq.T))/\x.u (64,[])=M (.l (lq.r.map iV))/\x.u lq.eL=M (.l (lq.es.map iV))/\∀k y,[69,70,71,72,73,74,75].contains k=O->x.u (k,y)=U
section
variable{x:yC} (hh:cY x)
def cY.aC:=hh.1
def cY.aD:=hh.2.1
def cY.bb:=hh.2.2.1
def cY.eO:=hh.2.2.2.1
def cY.aT:=hh.2.2.2.2.1
def cY.dC:=hh.2.2.2.2.2.1
def cY.cF:=hh.2.2.2.2.2.2.1
def cY.bj:=hh.2.2.2.2.2.2.2.1
def cY.jq:=hh.2.2.2.2.2.2.2.2.1
def cY.aI:=hh.2.2.2.2.2.2.2.2.2.1
def cY.b6:=hh.2.2.2.2.2.2.2.2.2.2.1
def cY.aJ:=hh.2.2.2.2.2.2.2.2.2.2.2.1
def cY.aG:=hh.2.2.2.2.2.2.2.2.2.2.2.2
end
def EPost(x:yC):Prop:=WB 20 (Sx.dD 7 i7) (Rt ph) ⟨x.m,x.u,x.t⟩
def le:yC:=j9 ⟨[],[],λa=>U,λa=>U,0⟩ cY EPost
noncomputable abbrev dR:Nl:=[1,2,3,7,8,12,13,41,42,43,44,45,46,47,48,49,62,99]
abbrev hD(w:Hp):Hp:=mix dR w ld.u
def mD:Mp:=aH (dM ld) 6 (.e (1,[]))
abbrev sD(v:Mp)(w:Hp)(t:Nat):AS:=⟨aU [7,8] v mD,hD w,t⟩
inductive AD(k:Nat):QA
 |mk {F:Nat->Mp} {v:Mp} {w:Hp} {t:Nat}:GA gQ k f0 F (hD w)->(∀j,k<=j->w (62,[j])=U)->AD k (sD v w t)
variable{F:Nat->Mp}
section
variable{v:Mp}
theorem ga0(D:HD)(g:Ti f0 u)(o:∀k y,[2,3,7,8,13].contains k=O->u (k,y)=U):GA gQ 0 f0 F u where
 aC:=g.1
 aD:=g.2.1
 bb:=g.2.2.1
 bj:=g.2.2.2.1
 jq:=⟨[],g.2.2.2.2.1,Y⟩
 aI:=g.2.2.2.2.2.1
 aG:=⟨g.2.2.2.2.2.2.1,λs=>oV (λh=>bw h) (o 13 _ Y)⟩
 cF:=g.2.2.2.2.2.2.2.1
 b6:=g.2.2.2.2.2.2.2.2.1
 aT:=g.2.2.2.2.2.2.2.2.2
 eO:=λp r h=>ax h (w8 p)
 dC:=λp a=>⟨o 2 _ Y,o 3 _ Y,o 7 _ Y⟩
 aJ:=λs=>oV (λh=>bw h) (o 8 _ Y)
theorem agH(D:HD)(G:GA gQ k f0 F (hD w))(wK:∀j,k<=j->w (62,[j])=U)(hx:ld.L[k]?=M x)(v7:v 7=M (.s x.dT.1))(v8:v 8=M (.e x.gA))(q:∀K,AD (k+1) K->Q .n K):WB 20 SP Q (sD v w t):=by
 have xm:=bE hx;have ok:=(D.aD x).mp xm
 have hr:gQ[k]?=M x.dT:=iO hx;have zk:k<=13:=aL (gB (cV.mp hr).1) (Mq D)
 have X:=tL D;have l6:x.gA.1=66:=by cases x<;>rfl
 have hl:hD w x.gA=M (.l (x.dT.2.map .s)):=(iw (by rw[l6];rfl)).trans (D.aJ x xm)
 have z9:=(Mr _ (DC (D:=D) ok)).2.2.2;refine pK (i4 (re (aE Y) ⟨_,kB (l:=(1,[])) (c:=4) (a:=58) (f:=25) (g:=f0) G.aC Y Y,eC (re (aE v7) (eC (mG Y (rl (a6 (aE v8) br) (QN (l:=x.gA) hl (by rw[bc];exact aL z9 (ao Y)) (AB (62,[k]) Y Y (wK k (dj _)) (eB (bI.o (adK (n:=17) (gs:=gQ) (k:=k) (r:=x.dT) (x:=[k]) (f:=f0) (F:=F) (h:=hD (w.aF (62,[k]) (.l (x.dT.2.map .s)))) ⟨G.aC,G.aD,G.bb,G.bj,G.jq,G.aI,G.aG,G.cF,G.b6,G.aT,G.eO,G.dC,G.aJ⟩ hr (agF (DC (D:=D) ok)) ?_ (aL zk (ao Y)) z9 ?_ a4 λF' u t' G'=>?_)))))))))⟩))
 .intro h;obtain⟨r',wt,e⟩:=bk.mp h;obtain⟨y,hy,rfl⟩:=rT D (uZ wt);have e:=agD _ (DC (D:=D) hy) _ (DC (D:=D) ok) (str_inj e)
  exact AE X.aC.bb hr (aj e wt)
 .exact aL (Bn ((fN (s:=bD)).2 gh) λs hs=>yB.mpr ((fN.1.mp hs).elim (λh=>bw h) λh=>h.imp λr k=>⟨uZ k.1,k.2⟩)) X.aD
 .rw[gG Y]at G'⊢;exact aO (q _ (.mk G' λj le=>(aQ (jQ (mU le))).trans (wK j (wW le))))
theorem agI(D:HD)(G:GA gQ gQ.length f0 F (hD w))(q:∀cs u t',o7 gQ cs u->(∀l:Loc,tR.contains l.1=Z->dR.contains l.1=Z->u l=ld.u l)->WB 20 (Sx.dD 7 i7) (Rt ph) ⟨aH (aU [7,8] v mD) 9 (.e (20,[])),u,t'⟩):WB 20 (Sx.dD 5 i7) (Rt ph) (sD v w t):=by
 have X:=tL D;refine pK (i4 (re (aE Y) ⟨_,kB (l:=(1,[])) (c:=4) (a:=59) (f:=26) (g:=f0) G.aC Y Y,rl (a6 du br) (bI.o (adN (n:=17) (h:=hD w) G X.aC.aT X.aC.aG λF' u t' G'=>?_))⟩));rw[gG Y];have o:∀{k y},[0,50,51,60,61,63,64,65,66,67,68,99].contains k=Z->dR.contains k=Z->hD (mix [1,2,3,7,13,41,99] u w) (k,y)=U:=λh h'=>(iw h').trans (D.aG _ _ h)
 refine cj (BN (rl (a6 (aE Y) (a6 du br)) (bI.o (agi (x:=⟨gQ,F',6,hD (mix [1,2,3,7,13,41,99] u w),t',_⟩) ⟨X,⟨G'.aC,G'.aG,G'.aI,G.bj,G.aI.1,G.aG.1,G.cF,G.b6,G.aT,G'.aD,λs hs=>sJ (G.aJ s) hs⟩,λk y h=>?_,D.dC,D.bj,D.bb,λcs u' t2 T=>?_⟩))))
 .have h':=(by decide:∀k∈[5,6,9,10,14,15,16,17,20,21,22,23,24,25,26,27,28,29,30,31,32,33,34,35,36,37,38,39,40,52,53],[0,50,51,60,61,63,64,65,66,67,68,99].contains k=Z/\dR.contains k=Z) k (iT.mp h)
  exact o h'.1 h'.2
 .refine q cs _ t2 ⟨T.aC,T.aD,T.aJ,T.aG,T.bj,T.aI,T.aT,T.bb⟩ λl h1 h2=>(iw h1).trans (iw h2)
theorem agJ(core:cY le->EPost le)(D:HD):Mn ld:=by
 have X:=tL D;refine cj (BN (eC (fw (rl (a6 du (a6 du (a6 du br))) ⟨(by decide:3<=16777216),kC (eB (bI.o (adv (n:=18) (x:=[ld.t]) (h:=ld.u.aF (bz ld.t) (.l (lets.map .s))) a4 (λk y h=>?_) λu g=>?_)))⟩))))
 .have h':=(by decide:∀k∈gR,[0,50,51,60,61,63,64,65,66,67,68,99].contains k=Z/\cQ k 99=Z) k (iT.mp h)
  exact(aQ (bf h'.2)).trans (D.aG k y h'.1)
 .show WB 20 (Sx.dD 4 i7) _ ⟨mD,mix gR u (ld.u.aF (bz ld.t) (.l (lets.map .s))),ld.t+1⟩;have o:∀k y,[2,3,7,8,13].contains k=O->mix gR u (ld.u.aF (bz ld.t) (.l (lets.map .s))) (k,y)=U:=λk y h=>by
   have h':=(by decide:∀k∈[2,3,7,8,13],[0,50,51,60,61,63,64,65,66,67,68,99].contains k=Z/\cQ k 99=Z/\gR.contains k=Z) k (iT.mp h)
   exact(iw h'.2.2).trans ((aQ (bf h'.2.1)).trans (D.aG k y h'.1))
  have G:=ga0 (F:=λa a=>U) (u:=mix gR u (ld.u.aF (bz ld.t) (.l (lets.map .s)))) D ⟨g.1,g.2.1,g.2.2.1,g.2.2.2.1,g.2.2.2.2.1,g.2.2.2.2.2.1,g.2.2.2.2.2.2.1,g.2.2.2.2.2.2.2.1,g.2.2.2.2.2.2.2.2.1,g.2.2.2.2.2.2.2.2.2⟩ o;have e1:mix gR u (ld.u.aF (bz ld.t) (.l (lets.map .s)))=hD (mix gR u (ld.u.aF (bz ld.t) (.l (lets.map .s)))):=by conv=>lhs;rw[kQ (R:=dR) (l:=bz ld.t) Y,gG Y]
  have wK:∀j,mix gR u (ld.u.aF (bz ld.t) (.l (lets.map .s))) (62,[j])=U:=λj=>D.aG 62 [j] Y;rw[e1]at G⊢;generalize mix gR u (ld.u.aF (bz ld.t) (.l (lets.map .s)))=w at G wK⊢;rw[show(⟨mD,hD w,ld.t+1⟩:AS)=sD mD w (ld.t+1) from aq (λm:Mp=>(⟨m,hD w,ld.t+1⟩:AS)) gH]
  refine UE (l:=(68,ld.l)) (λx:RI=>.s x.dT.1) (λx=>.e x.gA) ld.L AD (aE Y) (λj K J=>by cases J;exact D.aT) (.mk G λj a=>wK j) (λj x K hx J=>?_) λK J=>?_
  .cases J with|mk G wK=>exact An Y Y (agH D ⟨G.aC,G.aD,G.bb,G.bj,G.jq,G.aI,G.aG,G.cF,G.b6,G.aT,G.eO,G.dC,G.aJ⟩ wK hx Y Y λK J=>J)
  .rw[show ld.L.length=gQ.length from(bc (f:=RI.dT)).symm]at J
   cases J with|@mk F v w t G wK=>?_
   refine agI D G λcs u t' T o=>mJ (w:=⟨[],[],λa=>U,λa=>U,0⟩) (P:=cY) (R:=EPost) core (x:=⟨cs,[],_,u,t'⟩) ⟨D,T,Y,Y,Y,Y,Y,λx hx=>?_,(o _ Y Y).trans D.aT,(o (61,[]) Y Y).trans D.b6,(o (64,[]) Y Y).trans D.cF,(o _ (by rw[D.aC.aD.aC];rfl) (by rw[D.aC.aD.aC];rfl)).trans D.eO,λk y h=>?_⟩
   .have l6:x.gA.1=66:=by cases x<;>rfl
    exact(o _ (by rw[l6];rfl) (by rw[l6];rfl)).trans (D.aJ x hx)
   .have h':=(by decide:∀k∈[69,70,71,72,73,74,75],[0,50,51,60,61,63,64,65,66,67,68,99].contains k=Z/\tR.contains k=Z/\dR.contains k=Z) k (iT.mp h)
    exact(o _ h'.2.1 h'.2.2).trans (D.aG k y h'.1)
end
def iS(lv:Nl)(p:Nat):Ss:=lets.filter λa=>decide (∃q∈lv,(p,a,q)∈lq.T)
def jt(lv:Nl)(p:Nat):Ss:=iS lv p++if p∈lq.es then [cG]else []
noncomputable def pk(ps:Nl):Es:=ps.map λp=>(iV p,.e (71,[p,1]))
def jD(lv ps:Nl)(m:Mp)(u:Hp):Prop:=cY le/\lv.Nodup/\(∀p,p∈lv↔Co p)/\m 2=M (.e (61,[]))/\m 4=M (.e lq.eL)/\m 5=M (.e (68,ld.l))/\m 9=M (.e (20,[]))/\m 10=M (.e (69,[]))/\m 11=M (.e (70,[]))/\u (69,[])=M (.l (lv.map iV))/\u (70,[])=M (.d (pk ps))/\(∀p∈ps,u (71,[p,1])=M (.l ((jt lv p).map .s)))/\∀l:Loc,[69,70,71,99].contains l.1=Z->u l=le.u l
section
variable{lv ps:Nl} (hh:jD lv ps m u)
def jD.aC:=hh.1
def jD.aI:=hh.2.1
def jD.aD:=hh.2.2.1
def jD.jq:=hh.2.2.2.1
def jD.eO:=hh.2.2.2.2.1
def jD.b6:=hh.2.2.2.2.2.1
def jD.aJ:=hh.2.2.2.2.2.2.1
def jD.bj:=hh.2.2.2.2.2.2.2.1
def jD.aT:=hh.2.2.2.2.2.2.2.2.1
def jD.bb:=hh.2.2.2.2.2.2.2.2.2.1
def jD.dC:=hh.2.2.2.2.2.2.2.2.2.2.1
def jD.cF:=hh.2.2.2.2.2.2.2.2.2.2.2.1
def jD.aG:=hh.2.2.2.2.2.2.2.2.2.2.2.2
end
def DD(x:yC):Prop:=WB 20 (Sx.dD 10 i7) (Rt ph) ⟨x.m,x.u,x.t⟩
def lf:yC:=j9 ⟨[],[],λa=>U,λa=>U,0⟩ (λx=>jD x.l x.l x.m x.u) DD
inductive Ms(lv:Nl)(j:Nat):QA
 |mk {m:Mp} {u:Hp} {t:Nat}:jD lv (lv.take j) m u->(∀p,p∉lv.take j->∀y,u (71,p::y)=U)->Ms lv j ⟨m,u,t⟩
section
variable{lv:Nl}
theorem DG(C:jD lv ps m u)(h:p∈lv):p<3:=Dx C.aC.aC.aC (wH C.aC.aC.aC ((C.aD p).mp h))
theorem agK{g:α->Option V}{v:α}:[v].filterMap g=(g v).toList:=by rw[G3];cases g v<;>rfl
theorem Mt{l:Loc}{Q:QV}{cs:Sx}{tg:Tg}(as:List α)(f:α->V)(g:α->Option V)(rm:oN K l t')(hS:∀ys i,S i (K.h.aF l (.l ys)) (as.map f)[i]?)
 (body:∀a∈as,∀ys ai,ys.length<=as.length->ai (K.h.aF l (.l (ys++(g a).toList))) t'->ur tg (f a) (LB elt cs l ai) ⟨j7 K.m bZ,K.h.aF l (.l ys),t'⟩)(q:Q (.e l) (K.aF l (.l (as.filterMap g)) t')):CQ (.l []) tg bZ (LB elt cs) Q S K:=
 ⟨l,t',rm,l,Y,as.length,λi h τ=>h=K.h.aF l (.l ((as.take i).filterMap g))/\τ=t',⟨Y,Y⟩,λi h τ I=>by
  obtain⟨rfl,rfl⟩:=I;have s:=hS ((as.take i).filterMap g) i
  rw[kG]at s;cases hv:as[i]? with
  |none=>rw[hv]at s;exact .inl ⟨s,aj (yI (mN.mp hv)).symm q⟩
  |some v=>rw[hv]at s;exact .inr ⟨f v,s,(cV.mp hv).1,body v (bE hv) _ _ (aL (jF ..) (iG ..)) ⟨by rw[take_snoc hv,D1,agK],Y⟩⟩⟩
theorem fl1{ls:Ss}{c:aP->Bool}:ls.filterMap (λs=>bif c s then M (V.s s)else U)=(ls.filter c).map .s:=by
 induction ls with
 |nil=>rfl
 |cons s ls ih=>rw[G3,Ni,ih];cases c s<;>rfl
theorem agM(C:jD lv ps m u)(hp:p∈lv){b c d e:Sx}(hb:RE K b (.e (61,[])))(hc:RE K c (iV p))(hd:RE K d (.s a))(he:RE K e (.e (69,[])))(h6:K.h (61,[])=M (.d (jc lq.T)))(h9:K.h (69,[])=M (.l (lv.map iV))):RT K (.m .In (.bV .g b (.c (.d (.c c (.c d .n))) (.c (.cI 9) .n))) e) (decide (∃q∈lv,(p,a,q)∈lq.T)):=by
 have F:TF 3 lq.T:=⟨C.aC.aC.aC.aC.aG,C.aC.aC.aC.aC.aC⟩;have g:RE K (.bV .g b (.c (.d (.c c (.c d .n))) (.c (.cI 9) .n))) ((bM (jc lq.T) (kT (p,a,0))).getD (.i 9)):=λn Q q=>iu (re hb ⟨_,lT (l:=(61,[])) h6,rl (a6 (mF (a6 hc (a6 hd br)) (by decide:2<=16777216)) (a6 bW br)) (sr (l:=(61,[])) h6 Y q)⟩)
 have ek:decide ((bM (jc lq.T) (kT (p,a,0))).getD (.i 9)∈lv.map iV)=decide (∃q∈lv,(p,a,q)∈lq.T):=decide_eq_decide.mpr (by
  by_cases c:∃q,(p,a,q)∈lq.T
  .obtain⟨q,hq⟩:=c;rw[show bM (jc lq.T) (kT (p,a,0))=M (iV q) from pZ F hq]
   refine⟨λh=>(bk.mp h).elim λx k=>⟨q,aj (jv (jR k.2):x=q) k.1,hq⟩,λh=>h.elim λq' k=>bk.mpr ⟨q',k.1,?_⟩⟩;exact(bu ((pZ F k.2).symm.trans (pZ F hq)):iV q'=iV q)
  .rw[Mg λq h=>c ⟨q,h⟩];exact⟨λh=>(bk.mp h).elim λx k=>ax ((jv (jR k.2):x=9)▸DG C k.1) (ao Y),λh=>ax (h.imp λq k=>k.2) c⟩)
 exact ek▸wk g he h9 (λy h=>(bk.mp h).elim λx k=>aj k.2 Y) (by
  by_cases c:∃q,(p,a,q)∈lq.T
  .obtain⟨q,hq⟩:=c;rw[show bM (jc lq.T) (kT (p,a,0))=M (iV q) from pZ F hq];rfl
  .rw[Mg λq h=>c ⟨q,h⟩];rfl)
theorem agN(h:p∉ps):iV p∉(pk ps).map (·.1):=λk=>by rw[pk,fA]at k;exact(bk.mp k).elim λx k=>h (aj (jv (jR k.2):x=p) k.1)
theorem agO{es:Es}{x y y':V}(h:x∉es.map (·.1)):cC (cC es x y) x y'=es++[(x,y')]:=by
 induction es with
 |nil=>exact aw rfl
 |cons e t ih=>have n:¬e.1=x:=λw=>h (aj w (.head _));rw[qX,av n,qX,av n,ih λm=>h (.tail _ m)];rfl
theorem agP(C:jD lv (lv.take j) m u)(f:∀p,p∉lv.take j->∀y,u (71,p::y)=U)(hp:lv[j]?=M p)(oz:m 12=M (iV p))(q:∀K,Ms lv (j+1) K->Q .n K):WB n SQ Q ⟨m,u,t⟩:=by
 have pm:=bE hp;have np:=AE C.aI hp
 have zd:(pk (lv.take j)).length<=3:=by rw[pk,bc];exact aL (iG ..) (aL (oX C.aI λp h=>gY.mpr (DG C h)) (fR iU))
 have e61:u (61,[])=M (.d (jc lq.T)):=(C.aG _ Y).trans C.aC.aI;refine fW (pE (B6 (fw (rl (xs:=lets.map .s) (a6 du (a6 du (a6 du br))) ⟨(by decide:3<=16777216),kC (mH a4 (Mt (l:=(71,[p,0])) lets .s (λa=>bif decide (∃q∈lv,(p,a,q)∈lq.T)then M (.s a)else U) (.inr ⟨(by decide:(71:Nat)≠0),(by decide:(71:Nat)≠99),f p np [0],Y⟩) (λys i=>⟨_,a4,Y⟩) (λa ha ys ai le k=>?_) (re (aE C.aT) (re (aE oz) (rj (l:=(70,[])) C.dC Y (bF zd (ao Y)) (fW ?_))))))⟩))))
 .exact Ta (by decide:(71:Nat)≠0) (bF le (ao Y)) (agM C pm (aE C.jq) (aE oz) (aE Y) (aE C.bj) e61 C.bb) (aE Y) k
 .rw[fl1];show WN n _ _ ⟨m,((u.aF (bz t) (.l (lets.map .s))).aF (71,[p,0]) (.l ((iS lv p).map .s))).aF (70,[]) (.d (cC (pk (lv.take j)) (iV p) (.e (71,[p,0])))),t+1⟩;generalize hw:Hp.aF _ (70,[]) _=w;have w7:w (70,[])=M (.d (cC (pk (lv.take j)) (iV p) (.e (71,[p,0])))):=aj hw a4
  have w0:w (71,[p,0])=M (.l ((iS lv p).map .s)):=aj hw ((aQ (bf Y)).trans a4);have w1:w (71,[p,1])=U:=aj hw ((aQ (bf Y)).trans ((aQ λe=>ax (bY (bY (bS e).2).2).1 (by decide:(1:Nat)≠0)).trans ((aQ (bf Y)).trans (f p np [1]))))
  have wo:∀l:Loc,cQ l.1 70=Z->cQ l.1 99=Z->(l.1=71->∃q y,l.2=q::y/\q≠p)->w l=u l:=λl h1 h2 h3=>aj hw ((aQ (bf h1)).trans ((aQ λe=>by rw[e]at h3;exact(h3 Y).elim λq k=>k.elim λy k=>k.2 (bY k.1).1.symm).trans (aQ (bf h2))))
  clear hw;have w65:w lq.eL=M (.l (lq.es.map iV)):=(wo _ (by rw[C.aC.aC.aC.aD.aC];rfl) (by rw[C.aC.aC.aC.aD.aC];rfl) λe=>ax (C.aC.aC.aC.aD.aC.symm.trans e) (ao Y)).trans ((C.aG _ (by rw[C.aC.aC.aC.aD.aC];rfl)).trans C.aC.aJ)
  have fin:∀{es:Sx}{ys:Ss},iS lv p++ys=jt lv p->RL ⟨m,w,t+1⟩ es (ys.map .s)->ys.length<=1->WE n (.t es) (λy K=>O2 K (pB .Add) (.e (71,[p,0])) y λz K=>WE n (.v 11) (λx K=>WE n (.v 12) (λk K=>SI x k z (λK=>WB n .n Q K) K) K) K) ⟨m,w,t+1⟩:=λ{es ys} e re' z1=>fw (rl re' ⟨by rw[bc];exact aL z1 (ao Y),kC (FA (l:=(71,[p,0])) w0 a4 ?_ (dF (71,[p,1]) Y w1 (re (aE C.aT) (re (aE oz) (rj (l:=(70,[])) w7 Y (bF (yi zd) (ao Y)) (aO ?_))))))⟩)
  .refine pE (qj (re (dU (aE C.aT) (aE oz) (fG (l:=(70,[])) w7 Y we)) (Fb (wk (l:=lq.eL) (aE oz) (aE C.eO) w65 (λy h=>(bk.mp h).elim λx k=>aj k.2 Y) Y _ _ ?_))));by_cases c:p∈lq.es
   .exact rz (az (dw c)) (fin (ys:=[cG]) (by rw[jt,aw c]) (a6 du br) (dj _))
   .exact oV (λe=>c ((bk.mp (aB e)).elim λx k=>aj (jv (jR k.2):x=p) k.1)) (fin (ys:=[]) (by rw[jt,av c]) br (b7 _))
  .rw[bc,bc];exact aL (jY (GZ ..) z1) (by decide:3+1<=16777216)
  .show Q .n ⟨m,((w.aF (bz (t+1)) (.l (ys.map .s))).aF (71,[p,1]) (.l _)).aF (70,[]) _,_⟩;rw[agO (agN np),<-dc,e,show pk (lv.take j)++[(iV p,.e (71,[p,1]))]=pk (lv.take (j+1)) by rw[take_snoc hp,pk,pk,dc];rfl]
   have pq:∀{q:Nat} {y},q≠p->((71,q::y):Loc)≠(71,[p,1]):=λh e=>h (bY (bS e).2).1;refine q _ (.mk ⟨C.aC,C.aI,C.aD,C.jq,C.eO,C.b6,C.aJ,C.bj,C.aT,(wo (69,[]) Y Y λe=>dS e Y).trans C.bb,a4,λx hx=>?_,λl h=>?_⟩ λx hx y=>?_)
   .rw[take_snoc hp]at hx;by_cases c:x=p
    .subst c;exact(aQ (bf Y)).trans a4
    .exact(aQ (bf Y)).trans ((aQ (pq c)).trans ((aQ (bf Y)).trans ((wo _ Y Y λb=>⟨x,_,Y,c⟩).trans (C.cF x ((cD.mp hx).resolve_right λh=>c (bp.mp h))))))
   .have ne:∀{k y},[69,70,71,99].contains k=O->l≠(k,y):=λh' e=>by rw[e,h']at h;exact cw h
    have nb:∀{k},[69,70,71,99].contains k=O->cQ l.1 k=Z:=λh'=>vf.mpr λe=>by rw[Wg e,h']at h;exact cw h
    exact(aQ (ne Y)).trans ((aQ (ne Y)).trans ((aQ (ne Y)).trans ((wo _ (nb Y) (nb Y) λe=>by rw[e]at h;exact cw h).trans (C.aG l h))))
   .rw[take_snoc hp]at hx;have c:x≠p:=λe=>hx (cZ _ (bp.mpr e))
    exact(aQ (bf Y)).trans ((aQ (pq c)).trans ((aQ (bf Y)).trans ((wo _ Y Y λb=>⟨x,_,Y,c⟩).trans (f x (λh=>hx (cH _ h)) y))))
theorem agT(core:jD lf.l lf.l lf.m lf.u->DD lf)(E:cY le):EPost le:=by
 refine cj (kM (rl (a6 (aE E.bb) (a6 (aE E.eO) (a6 (aE E.aT) br))) (bI.o (agv (x:=⟨19,le.u,le.t,_⟩) ⟨E.aC.aC,E.aI,E.b6,E.aJ,E.aG 69 [] Y,λlv w t nd co hv=>?_⟩))));refine cj (kP (dF (70,[]) Y (E.aG 70 [] Y:le.u (70,[])=U) ?_));show WB 20 (Sx.dD 9 i7) _ ⟨aH (aH le.m 10 (.e (69,[]))) 11 (.e (70,[])),(mix [69] w le.u).aF (70,[]) (.d []),t⟩;have C:jD lv (lv.take 0) (aH (aH le.m 10 (.e (69,[]))) 11 (.e (70,[]))) ((mix [69] w le.u).aF (70,[]) (.d [])):=⟨E,nd,co,E.bb,E.aT,E.dC,E.cF,Y,Y,hv,Y,λp h=>(bw h),λl h=>?_⟩
 .refine gw (l:=(69,[])) (lv.map iV) (Ms lv) (aE C.bj) (λj K J=>by cases J with|mk C=>exact C.bb) (.mk C λp a y=>(E.aG 71 (p::y) Y:le.u (71,p::y)=U)) (λj x K hx J=>?_) λK J=>?_
  .obtain⟨p,hp,rfl⟩:=dA hx;cases J with|mk C f=>exact agP (m:=aH _ 12 (iV p)) ⟨C.aC,C.aI,C.aD,C.jq,C.eO,C.b6,C.aJ,C.bj,C.aT,C.bb,C.dC,C.cF,C.aG⟩ f hp Y λK J=>J
  .rw[bc]at J;cases J with|@mk m u t C f=>?_
   rw[e7]at C;exact mJ (w:=⟨[],[],λa=>U,λa=>U,0⟩) (P:=λx:yC=>jD x.l x.l x.m x.u) (R:=DD) core (x:=⟨[],lv,m,u,t⟩) C
 .exact(aQ λe=>by rw[e]at h;exact cw h).trans (iw (vf.mpr λe=>by rw[bp.mp (iT.mp e)]at h;exact cw h))
end
variable{l:Loc} {D:Loc->Prop} {h:fC} {F:Fm} {A:oG} {s:bK} {E:QE}
def jV(x:V):Ew:=(fZ x).1
theorem DH(T:TH W h):∀{vs:Vs},(∀y∈vs,y.cn 7=O)->∀{a7:List aN},bL (VR W D) a7 vs->∃as,Xz h a7 (vs.map jV) as/\ajd (vs.map jV)=O/\Wv (vs.map jV)<=8:=λ{vs}=>by
 induction vs with
 |nil=>exactλa {a7} k=>ak k.oJ ⟨_,.nil,Y,b7 _⟩
 |cons x vs ih=>
  intro kv a7 k;obtain⟨v,r,rfl,vx,al⟩:=k.lK;obtain⟨bs,rb,cb,db⟩:=ih (λy h=>kv y (.tail _ h)) al;have ai:=(uf (D:=D) T x 7 (kv x (.head _))).1
  obtain⟨⟨as,ra⟩,_,ca⟩:=ai.aC v vx;exact⟨_,.cons ra rb,dH.mpr ⟨ca,cb⟩,Ej.mpr ⟨ai.aD,db⟩⟩
theorem Vj:∀{vs:Vs},(∀y∈vs,y.cn 7=O)->yQ (vs.map jV) (vs.map jV)=O:=λ{vs}=>by
 induction vs with
 |nil=>exactλa=>rfl
 |cons x vs ih=>exactλkv=>dH.mpr ⟨(BG (kv x (.head _)) (kv x (.head _))).trans (az Y),ih λy h=>kv y (.tail _ h)⟩
theorem Vk(h1:K.h l=M (.l vs))(h2:K.h l'=M (.l vs))(kv:∀y∈vs,y.cn 7=O):R2 K (mn .Eq) (.e l) (.e l') (.o O):=λF A n W s v u T vx vy=>vx.1▸vy.1▸by
 obtain⟨as,ra,ca,da⟩:=DH T.aC.th kv (T.aC.hM h1);obtain⟨bs,rb,cb,db⟩:=DH T.aC.th kv (T.aC.hM h2);have e:qd (.list (vs.map jV)) (.list (vs.map jV))=O:=Vj kv
 exact aj e (aiY (.list (T.aC.fE h1) Y Y ra) (.list (T.aC.fE h2) Y Y rb) ca cb (bF (eQ (aL (Hi ..) (fJ da)) _) (T.cl (k:=9) (ao Y))) (RV.mC (tk:=s.toks)))
theorem Mu(h1:K.h l=M (.l vs))(h2:K.h l'=M (.l vs))(kv:∀y∈vs,y.cn 7=O):R2 K (mn .NotEq) (.e l) (.e l') (.o Z):=λF A n W s v u T vx vy=>vx.1▸vy.1▸by
 obtain⟨as,ra,ca,da⟩:=DH T.aC.th kv (T.aC.hM h1);obtain⟨bs,rb,cb,db⟩:=DH T.aC.th kv (T.aC.hM h2);have e:(!qd (.list (vs.map jV)) (.list (vs.map jV)))=Z:=aq (!·) (Vj kv)
 exact aj e (aiX (.list (T.aC.fE h1) Y Y ra) (.list (T.aC.fE h2) Y Y rb) ca cb (bF (eQ (aL (Hi ..) (fJ da)) _) (T.cl (k:=9) (ao Y))) (RV.mC (tk:=s.toks)))
def EqT(A:oG)(s:bK)(v u:aN):Prop:=∀(E:QE)(Q:Bool->bK->Prop),Q O s->wpAny Md A (eqBool v u) Q E s
def DQ(A:oG)(s:bK)(W:Wd)(D:Loc->Prop)(es bO:Es):Prop:=es.length=bO.length/\∀e∈es,∃y,bM bO e.1=M y/\∀v u,VR W D v e.2->VR W D u y->EqT A s v u
theorem agV{es:Es}{x y:V}(h:bM es x=M y):∃j,lN es x=M j/\∃e,es[j]?=M e/\e.2=y:=by rw[OA]at h;obtain⟨j,hj,h⟩:=AU.mp h;exact⟨j,hj,DY.mp h⟩
theorem Vl(T:TH W s.heap){nm:String}{a b:aY}{ds kK:List dJ}{k':Nat}{es:Es}{Q:Bool->bK->Prop}(na:(a==qe)=Z)(nb:(b==qe)=Z)
 (ga:s.heap.get? a=M (fV ds k))(gb:s.heap.get? b=M (fV kK k'))(al:bL (DE W D) ds es)(vU:bL (DE W D) kK bO)(nd:(bO.map (·.1)).Nodup)(hr:A.units+8<cLine)(eq:DQ A s W D es bO)(q:Q O s):wpAny Md A (aiy nm a b) Q E s:=by
 unfold aiy GW;simp only[na,nb,yK,if_false];refine aK (bg (aK (bg (aK (tX ga Y (aK (tX gb Y ?_)))))));have s1:ds.toArray.size=es.length:=al.gU
 have s2:kK.toArray.size=bO.length:=vU.gU;rw[av (by rw[s1,s2,eq.1];exactλe=>d8 ((bne_self_eq_false _).symm.trans e))]
 refine aK (rZ ga Y (aK ?_));rw[akY];refine Hg _ (λrest c s'=>s'=s/\c=(U,())/\∀i∈rest,i<es.length) _ ?_ ?_ _ _ ⟨Y,Y,λi h=>?_⟩
 .rintro i rest c s' ⟨rfl,rfl,lt⟩;obtain⟨e,he⟩:=lW (lt i (.head _));obtain⟨d,hd,de⟩:=al.lI he;obtain⟨y,ky,ev⟩:=eq.2 e (bE he);obtain⟨j,kj,e',hj,rfl⟩:=agV ky;obtain⟨d',Cc,Ff⟩:=vU.lI hj;refine aK (tX ga Y ?_);rw[show ds.toArray[i]?=M d from(uY ..).trans hd]
  show wpAny _ _ (holding [d.key,d.val] _>>=_) _ _ _;refine aK (ij (aK ?_));rw[de.aG];refine H2 T gb vU nd de.aC de.aD hr ?_;rw[kj];refine aK (tX gb Y ?_);rw[show kK.toArray[j]?=M d' from(uY ..).trans Cc]
  refine ij (ev _ _ de.aI Ff.aI _ _ ?_);show wpAny _ _ (if(!O)=O then _ else _) _ _ _;refine aK (rZ ga Y ?_);rw[av (λe=>d8 ((bne_self_eq_false _).symm.trans e))];exact bg ⟨Y,Y,λi h=>lt i (.tail _ h)⟩
 .rintro c s' ⟨rfl,rfl,_⟩;exact bg q
 .have h:=List.mem_range'_1.mp h;have e:(ds.toArray.size-0+1-1)/1=es.length:=by rw[Nat.div_one,Nat.add_sub_cancel,Xe,s1]
  exact aj e (aj (sf ((ds.toArray.size-0+1-1)/1)) h.2)
theorem Vm(T:TH W s.heap){a b:aY}{ds kK:List dJ}{k':Nat}{es:Es}{Q:QE}(na:(a==qe)=Z)(nb:(b==qe)=Z)
 (ga:s.heap.get? a=M (fV ds k))(gb:s.heap.get? b=M (fV kK k'))(al:bL (DE W D) ds es)(vU:bL (DE W D) kK bO)(nd:(bO.map (·.1)).Nodup)(hr:A.units+9<cLine)(eq:DQ A.in1 s W D es bO):
 (Q (.bool O) s->wpAny Md A (NG .Eq (.ref a) (.ref b)) Q E s)/\(Q (.bool Z) s->wpAny Md A (NG .NotEq (.ref a) (.ref b)) Q E s):=by
 have ta:s.TypeIs (.ref a) "dict":=⟨_,ga,Y⟩;have tb:s.TypeIs (.ref b) "dict":=⟨_,gb,Y⟩
 have hu:A.units<cLine:=bF (mR _ 9) hr;have Vn:A.in1.units+8<cLine:=hr
 constructor
 .intro q;refine aiW (op:=.Eq) ta tb aiR (mT aiR ta PySem.F.entry_dict_eq ?_ (PySem.F.args_dict_eq_2 _ _)) hu;show wpAny _ _ (MY "__eq__" ⟨[.ref a,.ref b],[]⟩>>=_) _ _ s;refine aK ?_;unfold MY;refine aK (G1 ta ?_);show wpAny _ _ (pure (ik a,ik b)) _ _ s;refine bg (aK (Hf (T:="dict") tb Wa ?_));simp only[Eg,yK,if_false];exact aK (bg (aK (bg (aK (Vl T na nb ga gb al vU nd Vn eq (bg ⟨_,Y,(λx=>xj x Y),q⟩))))))
 .intro q;refine aiW (op:=.NotEq) ta tb aiQ (mT aiQ ta PySem.F.entry_dict_ne ?_ (PySem.F.args_dict_ne_2 _ _)) hu;show wpAny _ _ (MY "__ne__" ⟨[.ref a,.ref b],[]⟩>>=_) _ _ s;refine aK ?_;unfold MY;refine aK (G1 ta ?_);show wpAny _ _ (pure (ik a,ik b)) _ _ s;refine bg (aK (Hf (T:="dict") tb Wa ?_));simp only[Eg,yK,if_false];exact aK (bg (aK (bg (aK (Vl T na nb ga gb al vU nd Vn eq (bg ⟨_,Y,(λx=>xj x Y),q⟩))))))
def DK(es bO:Es):Prop:=es.length=bO.length/\∀e∈es,bM bO e.1=M e.2/\e.2.cn 7=O
theorem DK.dq{es:Es}(k:DK es bO)(T:TH W s.heap)(hr:A.units+8<cLine):DQ A s W D es bO:=⟨k.1,λe he=>⟨e.2,(k.2 e he).1,λv u hv hu=>by have h:=HZ (A:=A) (s:=s) T hv hu (k.2 e he).2 (k.2 e he).2 hr;rw[az Y]at h;exactλE Q q=>h _ _ E Q q⟩⟩
theorem Vo(T:St F A n W K s){es:Es}(h1:K.h l=M (.d es))(h2:K.h l'=M (.d bO))(eq:DQ A.in1 s W (aX K.h) es bO):(∀{Q:QE},Q (.bool O) s->wpAny Md A (NG .Eq (.ref (W.ρ l)) (.ref (W.ρ l'))) Q E s)/\∀{Q:QE},Q (.bool Z) s->wpAny Md A (NG .NotEq (.ref (W.ρ l)) (.ref (W.ρ l'))) Q E s:=by
 have R:=T.aC;have p:=λQ=>Vm (E:=E) (Q:=Q) R.th (R.n7 T.aD (R.dm h1)) (R.n7 T.aD (R.dm h2)) (R.dg h1) (R.dg h2) (R.lQ h1) (R.lQ h2) (R.qh h2) (T.cl (k:=9) (ao Y)) eq
 exact⟨λ{Q}=>(p Q).1,λ{Q}=>(p Q).2⟩
theorem agW{es:Es}(h1:K.h l=M (.d es))(h2:K.h l'=M (.d bO))(k:DK es bO):R2 K (mn .NotEq) (.e l) (.e l') (.o Z):=λF A n W s v u T vx vy=>ak vx.1 (vy.1▸(Vo T h1 h2 (k.dq T.aC.th (T.cl (k:=9) (ao Y)))).2 (RV.mC (tk:=s.toks)))
theorem agX{es:Es}(h1:K.h l=M (.d es))(h2:K.h l'=M (.d bO))(z:es.length=bO.length)(k:∀e∈es,∃m m' fs wL,e.2=.e m/\bM bO e.1=M (.e m')/\K.h m=M (.d fs)/\K.h m'=M (.d wL)/\m.1≠0/\m'.1≠0/\DK fs wL):R2 K (mn .NotEq) (.e l) (.e l') (.o Z):=λF A n W s v u T vx vy=>vx.1▸vy.1▸(Vo T h1 h2 ⟨z,λe he=>by
 obtain⟨m,m',fs,wL,e1,e2,f1,f2,z1,z2,d⟩:=k e he;refine⟨_,e2,λv u hv hu E Q q=>?_⟩;rw[e1]at hv;have ly:=hv.1
 have HY:=hu.1;subst ly HY;by_cases c:m=m'
 .subst c;exact SeqAt.EqAt.same _ _ _ E Q q
 .unfold eqBool;refine ij (Nr (λe=>ax (Hk (eq_of_beq e)) λh=>c (aq dQ (T.aC.aC.aC.aI (m,Z) (m',Z) ⟨z1,hv.2,λe=>cw e⟩ ⟨z2,hu.2,λe=>cw e⟩ h))) λa=>?_);have R:=T.aC
  exact aK ((Vm (A:=A.in1) R.th (R.n7 T.aD (R.dm f1)) (R.n7 T.aD (R.dm f2)) (R.dg f1) (R.dg f2) (R.lQ f1) (R.lQ f2) (R.qh f2) (T.cl (k:=10) (ao Y)) (d.dq R.th (T.cl (k:=10) (ao Y)))).1 (A0 q))⟩).2 (RV.mC (tk:=s.toks))
def rP(r:cJ):Ew:=.tuple [.str r.1,.list ((r.2.map V.s).map jV)]
variable{Q:QV}
section
variable{lx:Loc} {v:aN}
theorem agY:∀{ss jm:Ss},yQ ((ss.map V.s).map jV) ((jm.map V.s).map jV)=decide (ss=jm):=λ{ss}=>by
 induction ss with
 |nil=>intro jm;cases jm with
  |nil=>exact(az Y).symm
  |cons b r=>exact(aA (A1 b r).symm).symm
 |cons a ss ih=>intro jm;cases jm with
  |nil=>exact(aA (A1 a ss)).symm
  |cons b r=>
   show(qd (jV (.s a)) (jV (.s b))&&yQ _ _)=_;rw[ih,show qd (jV (.s a)) (jV (.s b))=decide (V.s a=V.s b) from BG Y Y]
   by_cases e:a=b
   .rw[az (aq V.s e),aj1];exact decide_eq_decide.mpr ⟨λq=>by rw[e,q],λq=>(bY q).2⟩
   .rw[aA λq=>e (str_inj q),WW];exact(aA λq=>e (bY q).1).symm
theorem Mv:qd (rP r) (rP r')=decide (r=r'):=by
 show(qd (jV (.s r.1)) (jV (.s r'.1))&&(yQ ((r.2.map V.s).map jV) ((r'.2.map V.s).map jV)&&O))=_;rw[agY,Bool.and_true,show qd (jV (.s r.1)) (jV (.s r'.1))=decide (V.s r.1=V.s r'.1) from BG Y Y]
 by_cases e:r.1=r'.1
 .rw[az (aq V.s e),aj1];exact decide_eq_decide.mpr ⟨λq=>je e q,λq=>aq sg q⟩
 .rw[aA λq=>e (str_inj q),WW];exact(aA λq=>e (aq dQ q)).symm
theorem Vp(T:St F A n W K s)(hl:K.h lx=M (.l (r.2.map .s)))(vx:VR W (aX K.h) v (V.bP [.s r.1,.e lx])):∃as,HE s.heap v (rP r) as/\(rP r).canLay0=O/\(rP r).depth<=12:=by
 obtain⟨a,ws,rfl,tp,al⟩:=VR.kJ.mp vx;obtain⟨v1,r1,rfl,x1,al⟩:=al.lK;obtain⟨v2,r2,rfl,x2,al⟩:=al.lK;obtain rfl:=al.oJ;obtain⟨t,e1,ok⟩:=x1;have e2:=x2.1
 subst e1 e2;obtain⟨as,ra,ca,da⟩:=DH T.aC.th (vs:=r.2.map .s) (λy h=>(bk.mp h).elim λz k=>aj k.2 Y) (T.aC.hM hl);refine⟨_,.tuple (T.aC.th a _ tp) Y Y (.cons (.str _ _) (.cons (.list (T.aC.fE hl) Y Y ra) .nil)),?_,?_⟩
 .exact dH.mpr ⟨ok,dH.mpr ⟨ca,Y⟩⟩
 .exact aL (fJ (Ej.mpr ⟨b7 _,Ej.mpr ⟨fJ da,b7 _⟩⟩)) (by decide:8+1+1<=12)
theorem agZ(hl:K.h l=M (.l (L.map RI.v)))(R:∀y∈L,K.h y.gA=M (.l (y.dT.2.map .s)))(hx:K.h lx=M (.l (r.2.map .s)))(hj:L[j]?=M x)(e:x.dT=r)(no:∀i y,i<j->L[i]?=M y->y.dT≠r)(z:L.length<=1000)(q:Q (.i j) K):OL n (.builtin "list.index") [.e l,V.bP [.s r.1,.e lx]] Q K:=xJ (j5 _) λF A W s v u T vx vy=>vx.1▸by
 have al:=T.aC.hM hl;obtain⟨bs,rb,cb,db⟩:=Vp T hx vy;have item:∀{w:aN}{y:RI},y∈L->VR W (aX K.h) w y.v->NA A.in1 s w u (decide (y.dT=r))/\decide (∃as,HE s.heap w (rP r) as)=decide (y.dT=r):=λ{w y} hy vw=>by
  obtain⟨as,ra,ca,da⟩:=Vp (r:=y.dT) T (R y hy) vw;refine⟨Mv▸ajq _ _ A.in1 s _ _ _ _ ra rb ca cb ?_,decide_eq_decide.mpr ⟨λh=>?_,λh=>h▸⟨as,ra⟩⟩⟩
  .exact bF (eQ (aL (Hi ..) da) _) (T.cl (k:=13) (ao Y):A.units+1+12<cLine)
  .obtain⟨bs',rb'⟩:=h;have q:=(Reads.unique ra _ _ rb').1
   have q2:=Mv (r:=y.dT) (r':=r);rw[q,Mv,az Y]at q2;exact aB q2.symm
 have at_:∀{i:Nat}(hi:i<(T.aC.a7 hl).size),∃y,L[i]?=M y/\VR W (aX K.h) (T.aC.a7 hl)[i] y.v:=λ{i} hi=>by
  obtain⟨b,hb,vb⟩:=al.xl (i:=i) (a:=(T.aC.a7 hl)[i]) (by rw[tU];exact aiJ hi)
  obtain⟨y,hy,rfl⟩:=dA hb;exact⟨y,hy,vb⟩
 have ln:(T.aC.a7 hl).size=L.length:=(T.aC.lP hl).trans (bc _);have lj:=(cV.mp hj).1
 have f:∀{i:Nat}(hi:i<(T.aC.a7 hl).size){y:RI},L[i]?=M y->decide (∃as,HE s.heap (T.aC.a7 hl)[i] (rP r) as)=decide (y.dT=r):=λ{i} hi {y} hy=>(at_ hi).elim λy' k=>(bu (k.1.symm.trans hy))▸(item (bE k.1) k.2).2;refine NM aiD ⟨_,T.aC.fE hl,Y⟩ PySem.F.entry_list_index (PySem.F.args_list_index_2 _ _) (SeqAt.list_indexAt (W.ρ l) (T.aC.a7 hl) (T.aC.xy hl) U #[] u (λw=>decide (∃as,HE s.heap w (rP r) as)) j (ln▸lj) ?_ ((f (ln▸lj) hj).trans (az e)) λm hm lm=>?_) ⟨T.aC.fE hl,λw hw=>?_,T.ku (x:=.i j) (s.toks+1) ⟨_,Y⟩ q⟩
 .exact Nb (mV.mpr (gc lj z)) (ao Y)
 .obtain⟨y,hy,_⟩:=at_ hm;exact(f hm hy).trans (aA (no m y lm hy))
 .obtain⟨i,hi,rfl⟩:=Array.mem_iff_getElem.mp hw;obtain⟨y,hy,vw⟩:=at_ hi;have I:=item (bE hy) vw
  exact I.2▸I.1
end
variable{s x:aP} {y:It} {c:List It} {y':RI}
theorem ag1(D:HD)(h:Lv gQ s):∀p<3,s=dt p->Co p:=by
 induction h with
 |s=>exactλp hp e=>ax e.symm (hV p hp).1
 |c hr l hs ih=>
  intro p hp e;subst e;obtain⟨x,hx,rfl⟩:=rT D hr;rcases lE D hx with rfl|⟨p',rfl,k⟩|⟨e,rfl,k⟩
  .exact cK hs
  .exact aj ((hV p' k.2).2.2.2.2 p hp (bu hs)) (.e k.1)
  .exact aj ((hV e.1 k.2.2.1).2.2.2.2 p hp (bu hs)) (.s k.1 k.2.1 (ih e.2.2 k.2.2.2.1 Y))
theorem tN(D:HD)(hp:p<3):Lv gQ (dt p)↔Co p:=⟨λh=>ag1 D h p hp Y,λh=>by
 induction h with
 |e h=>exact .c (tK D (x:=.s _) h) .s rfl
 |@s e h1 h2 _ ih=>exact .c (tK D (x:=.e e) ⟨h1,h2⟩) (ih (D.aC.aC.aC e h1).2.2) Y⟩
theorem GB(H:HQ):Co 0:=(qH _ H.aC.bb).elim λp h=>H.aC.bj Co (λe h1 h2 h3=>.s h1 h2 h3) p (H.aC.aD p h) (.e h)
theorem DI:z∈KG gQ I x↔∃y∈I,oo gQ y=M x/\z=(y.1,y.2+1):=by
 unfold KG;rw[pA];refine exists_congr λy=>and_congr qf ?_;by_cases c:oo gQ y=M x
 .rw[aw c];exact⟨λh=>⟨c,(bu h).symm⟩,λh=>aq M h.2.symm⟩
 .rw[av c];exact⟨λh=>(cK h),λh=>ax h.1 c⟩
inductive Kd where
 |z
 |s
 |n (p:Nat)
 |l (p:Nat) (a:aP)
def Kd.ctorIdx(x:Kd):Nat:=Kd.rec 0 1 (λa=>2) (λa a=>3) x
theorem wN{p:Prop}{x y:Kd}(h:x=y)(n:cQ (Kd.ctorIdx x) (Kd.ctorIdx y)=Z):p:=qR Kd.ctorIdx h n
def I0:List It:=(le.c[(0:Nat)]?).getD []
def Kd.st(k:Kd):List It:=Kd.rec I0 (KG gQ I0 bD) (λp=>KG gQ I0 (dt p)) (λp a=>KG gQ (KG gQ I0 (dt p)) a) k
def Kd.ok(k:Kd):Prop:=Kd.rec True True (λp=>Co p) (λp a=>∃q,(p,a,q)∈lq.T/\p∈lq.r/\Co q) k
theorem AG(E:cY le):∃ps:Nl,le.c[(0:Nat)]?=M (JL ps)/\I0=JL ps/\ps.Nodup/\(∀(q:Nat)(r:cJ),gQ[q]?=M r->(q∈ps↔Lv gQ r.1))/\∀q∈ps,q<gQ.length:=E.aD.aC.aI.imp λps k=>⟨k.1,by unfold I0;rw[k.1];rfl,k.2⟩
theorem Vq(h:gQ[q]?=M r):qx gQ (q+1)=r:=by unfold qx;rw[show(hP gQ)[q+1]?=gQ[q]? from Y,h];rfl
theorem yD(E:cY le):y∈I0↔y=(0,0)\/∃q r,gQ[q]?=M r/\Lv gQ r.1/\y=(q+1,0):=by
 obtain⟨ps,_,e,_,h,lt⟩:=AG E;rw[e,JL,b0,bk];refine or_congr qf ⟨λk=>?_,λk=>?_⟩
 .obtain⟨q,hq,rfl⟩:=k;obtain⟨r,hr⟩:=lW (lt q hq);exact⟨q,r,hr,(h q r hr).mp hq,Y⟩
 .obtain⟨q,r,hr,l,rfl⟩:=k;exact⟨q,(h q r hr).mpr l,Y⟩
theorem AH(h:gQ[q]?=M r):oo gQ (q+1,k)=r.2[k]?:=by unfold oo;rw[Vq h]
theorem lF(E:cY le):z∈KG gQ I0 s↔(s=bD/\z=(0,1))\/∃q x,ld.L[q]?=M x/\Lv gQ x.dT.1/\x.dT.2[0]?=M s/\z=(q+1,1):=by
 rw[DI];refine⟨λh=>?_,λh=>?_⟩
 .obtain⟨y,hy,hs,rfl⟩:=h;rcases(yD E).mp hy with rfl|⟨q,r,hr,l,rfl⟩
  .exact .inl ⟨(bu hs).symm,Y⟩
  .obtain⟨x,hx,rfl⟩:=dA hr;exact .inr ⟨q,x,hx,l,(AH hr).symm.trans hs,Y⟩
 .rcases h with⟨rfl,rfl⟩|⟨q,x,hx,l,hs,rfl⟩
  .exact⟨(0,0),(yD E).mpr (.inl Y),Y,Y⟩
  .exact⟨(q+1,0),(yD E).mpr (.inr ⟨q,_,iO hx,l,Y⟩),(AH (iO hx)).trans hs,Y⟩
theorem tO(E:cY le):z∈KG gQ (KG gQ I0 s) a↔∃q x,ld.L[q]?=M x/\Lv gQ x.dT.1/\x.dT.2[0]?=M s/\x.dT.2[1]?=M a/\z=(q+1,2):=by
 rw[DI];refine⟨λh=>?_,λh=>?_⟩
 .obtain⟨y,hy,hs,rfl⟩:=h;rcases(lF E).mp hy with⟨_,rfl⟩|⟨q,x,hx,l,h0,rfl⟩
  .exact cK hs
  .exact⟨q,x,hx,l,h0,(AH (iO hx)).symm.trans hs,Y⟩
 .obtain⟨q,x,hx,l,h0,h1,rfl⟩:=h;exact⟨(q+1,1),(lF E).mpr (.inr ⟨q,x,hx,l,h0,Y⟩),(AH (iO hx)).trans h1,Y⟩
theorem oA(E:cY le){x:RI}(h:ld.L[q]?=M x):x.ok:=(E.aC.aD x).mp (bE h)
theorem GD(E:cY le){x:RI}(h:x.ok):∃q:Nat,ld.L[q]?=M x:=kE ((E.aC.aD x).mpr h)
theorem Vt(E:cY le)(h:z∈KG gQ I0 s):s=bD\/∃p,s=dt p/\p<3/\Co p:=by
 rcases(lF E).mp h with⟨e,_⟩|⟨q,x,hx,l,h0,_⟩
 .exact .inl e
 .rcases lE E.aC (oA E hx)with rfl|⟨p,rfl,k⟩|⟨e,rfl,k⟩
  .exact cK h0
  .exact .inr ⟨p,(bu h0).symm,k.2,.e k.1⟩
  .exact .inr ⟨e.1,(bu h0).symm,k.2.2.1,.s k.1 k.2.1 ((tN E.aC k.2.2.2.1).mp l)⟩
theorem ag2(E:cY le)(hp:p<3)(h:z∈KG gQ (KG gQ I0 (dt p)) a):∃q,(p,a,q)∈lq.T/\p∈lq.r/\Co q:=by
 obtain⟨q,x,hx,l,h0,h1,_⟩:=(tO E).mp h;rcases lE E.aC (oA E hx)with rfl|⟨p,rfl,k⟩|⟨e,rfl,k⟩
 .exact cK h0
 .exact cK h1
 .have ep:=(hV e.1 k.2.2.1).2.2.2.2 p hp (bu h0);exact⟨e.2.2,Dv ep (bu h1) k.1,aj ep k.2.1,(tN E.aC k.2.2.2.1).mp l⟩
theorem ju(E:cY le)(h:Co p):p<3:=Dx E.aC.aC (wH E.aC.aC h)
theorem Kd.ne(E:cY le){k:Kd}(h:k.ok):k.st≠[]:=by
 cases k with
 |z=>exact p8 ((yD E).mpr (.inl Y))
 |s=>exact p8 ((lF E).mpr (.inl ⟨Y,Y⟩))
 |n p=>
  cases h with
  |e h=>obtain⟨q,hq⟩:=GD E (x:=.s p) h;exact p8 ((lF E).mpr (.inr ⟨q,_,hq,.s,Y,Y⟩))
  |@s e h1 h2 h3=>obtain⟨q,hq⟩:=GD E (x:=.e e) ⟨h1,h2⟩;exact p8 ((lF E).mpr (.inr ⟨q,_,hq,(tN E.aC (ju E h3)).mpr h3,Y,Y⟩))
 |l p a=>obtain⟨q,h1,h2,h3⟩:=h;obtain⟨i,hi⟩:=GD E (x:=.e (p,a,q)) ⟨h1,h2⟩;exact p8 ((tO E).mpr ⟨i,_,hi,(tN E.aC (ju E h3)).mpr h3,Y,Y,Y⟩)
theorem Kd.up(h:Kd.ok (.l p a)):Kd.ok (.n p):=h.elim λq k=>.s (e:=(p,a,q)) k.1 k.2.1 k.2.2
theorem Kd.in(E:cY le){k:Kd}(h:k.ok):k.st∈le.c:=by
 have i0:I0∈le.c:=(AG E).elim λps k=>ak k.2.1 (bE k.1);cases k with
 |z=>exact i0
 |s=>exact E.aD.aC.aC _ i0 _ (Kd.ne E (k:=.s) trivial)
 |n p=>exact E.aD.aC.aC _ i0 _ (Kd.ne E (k:=.n p) h)
 |l p a=>exact E.aD.aC.aC _ (E.aD.aC.aC _ i0 _ (Kd.ne E (k:=.n p) (Kd.up h))) _ (Kd.ne E (k:=.l p a) h)
variable{k k':Kd}
theorem Vu(E:cY le){x:RI}(h:x.ok)(i:Nat):x.dT.2[i+2]?=U:=by rcases lE E.aC h with rfl|⟨p,rfl,_⟩|⟨e,rfl,_⟩<;>rfl
theorem ag3(E:cY le):∀n,∀c∈le.c,(∃y∈c,y.2<=n)->∃k:Kd,k.ok/\c=k.st:=λn=>by
 have z0:∀c,le.c[(0:Nat)]?=M c->∃k:Kd,k.ok/\c=k.st:=λc h=>⟨.z,trivial,by show c=I0;unfold I0;rw[h];rfl⟩
 induction n with
 |zero=>
  intro c hc hy;obtain⟨j,hj⟩:=kE hc;cases j with
  |zero=>exact z0 c hj
  |succ j=>obtain⟨_,c',_,x,rfl⟩:=E.aD.aC.aD _ c (fY j) hj;obtain⟨y,hy,l⟩:=hy;obtain⟨y',_,_,rfl⟩:=DI.mp hy;exact ax l (ajf _)
 |succ n ih=>
  intro c hc hy;obtain⟨j,hj⟩:=kE hc;cases j with
  |zero=>exact z0 c hj
  |succ j=>
   obtain⟨_,c',gN,x,rfl⟩:=E.aD.aC.aD _ c (fY j) hj;obtain⟨y,hy,l⟩:=hy;obtain⟨y',ef,hs,rfl⟩:=DI.mp hy;obtain⟨k',Kz,rfl⟩:=ih c' gN ⟨y',ef,We l⟩;cases k' with
   |z=>
    rcases Vt E hy with rfl|⟨p,rfl,_,co⟩
    .exact⟨.s,trivial,Y⟩
    .exact⟨.n p,co,Y⟩
   |s=>
    obtain⟨q,x',hx,_,h0,_⟩:=(tO E).mp hy;rcases lE E.aC (oA E hx)with rfl|⟨p,rfl,k⟩|⟨e,rfl,k⟩
    .exact cK h0
    .exact ax (bu h0) (hV p k.2).1
    .exact ax (bu h0) (hV e.1 k.2.2.1).1
   |n p=>exact⟨.l p x,ag2 E (ju E Kz) hy,Y⟩
   |l p a=>obtain⟨q,x',hx,_,_,_,rfl⟩:=(tO E).mp ef;exact cK (((AH (iO hx)).trans (Vu E (oA E hx) 0)).symm.trans hs)
theorem cls(E:cY le)(h:c∈le.c):∃k:Kd,k.ok/\c=k.st:=by
 have ne:c≠[]:=by
  obtain⟨j,hj⟩:=kE h;cases j with
  |zero=>obtain⟨ps,e,_⟩:=AG E;obtain rfl:=bu (e.symm.trans hj);exactλe=>jZ e rfl
  |succ j=>exact(E.aD.aC.aD _ c (fY j) hj).1
 obtain⟨y,hy⟩:=qH _ ne;exact ag3 E y.2 c h ⟨y,hy,dj _⟩
def Kd.lv(k:Kd):Nat:=Kd.rec 0 1 (λa=>1) (λa a=>2) k
theorem Vw(E:cY le)(h:y∈k.st):y.2=k.lv:=by
 cases k with
 |z=>rcases(yD E).mp h with rfl|⟨_,_,_,_,rfl⟩<;>rfl
 |s=>rcases(lF E).mp h with⟨_,rfl⟩|⟨_,_,_,_,_,rfl⟩<;>rfl
 |n p=>rcases(lF E).mp h with⟨_,rfl⟩|⟨_,_,_,_,_,rfl⟩<;>rfl
 |l p a=>obtain⟨_,_,_,_,_,_,rfl⟩:=(tO E).mp h;rfl
theorem ag4(E:cY le)(h:k.ok)(h':k'.ok)(e:k.st=k'.st):k=k':=by
 obtain⟨y,hy⟩:=qH _ (Kd.ne E h);have ef:=e▸hy
 have l:=(Vw E hy).symm.trans (Vw E ef);have sn:∀{p},p<3->KG gQ I0 bD≠KG gQ I0 (dt p):=λ{p} hp e=>by
  have m:((0,1):It)∈KG gQ I0 bD:=(lF E).mpr (.inl ⟨Y,Y⟩);rw[e]at m;rcases(lF E).mp m with⟨e,_⟩|⟨q,x,_,_,_,e⟩
  .exact(hV p hp).1 e
  .exact dS (bS e).1 Y
 have ni:∀{p p':Nat},p<3->p'<3->dt p=dt p'->p=p':=λ{p p'} h h' e=>(hV p h).2.2.2.2 p' h' e;have same:∀{q q' d d':Nat}{x x':RI},ld.L[q]?=M x->ld.L[q']?=M x'->((q+1,d):It)=(q'+1,d')->x=x':=λh h' e=>by obtain rfl:=qK (bS e).1;exact bu (h.symm.trans h')
 cases k with
 |z=>
  cases k' with
  |z=>rfl
  |s=>exact dS (l:0=1) rfl
  |n p=>exact dS (l:0=1) rfl
  |l p a=>exact dS (l:0=2) rfl
 |s=>
  cases k' with
  |z=>exact dS (l:1=0) rfl
  |s=>rfl
  |n p=>exact ax e (sn (ju E h'))
  |l p a=>exact dS (l:1=2) rfl
 |n p=>
  cases k' with
  |z=>exact dS (l:1=0) rfl
  |s=>exact ax e.symm (sn (ju E h))
  |n p'=>
   rcases(lF E).mp hy with⟨e,_⟩|⟨q,x,hx,_,h0,rfl⟩
   .exact ax e (hV p (ju E h)).1
   .rcases(lF E).mp ef with⟨e,_⟩|⟨q',x',mL,_,Mw,e⟩
    .exact ax e (hV p' (ju E h')).1
    .obtain rfl:=same hx mL e;exact aq Kd.n (ni (ju E h) (ju E h') (bu (h0.symm.trans Mw)))
  |l p a=>exact dS (l:1=2) rfl
 |l p a=>
  cases k' with
  |z=>exact dS (l:2=0) rfl
  |s=>exact dS (l:2=1) rfl
  |n p'=>exact dS (l:2=1) rfl
  |l p' a'=>obtain⟨q,x,hx,_,h0,h1,rfl⟩:=(tO E).mp hy;obtain⟨q',x',mL,_,Mw,h1',e⟩:=(tO E).mp ef;obtain rfl:=same hx mL e;obtain rfl:=bu (h1.symm.trans h1');rw[ni (ju E (Kd.up h)) (ju E (Kd.up h')) (bu (h0.symm.trans Mw))]
def dG(k:Kd):Nat:=@Bc _ ⟨0⟩ λj=>le.c[j]?=M k.st
def nR(x:RI):Nat:=@Bc _ ⟨0⟩ λj=>ld.L[j]?=M x
variable{es:Es} {b:V}
section
variable{lv:Nl}
theorem uT(E:cY le)(h:k.ok):le.c[dG k]?=M k.st:=A5 (p:=λj=>le.c[j]?=M k.st) (kE (Kd.in E h))
theorem AI(E:cY le){x:RI}(h:x.ok):ld.L[nR x]?=M x:=A5 (p:=λj=>ld.L[j]?=M x) (GD E h)
theorem Vx{l:List α}{a:α}(n:l.Nodup)(h:l[i]?=M a)(h':l[j]?=M a):i=j:=(Nc (cV.mp h).1 n).mp (h.trans h'.symm)
theorem AJ(E:cY le)(h:k.ok)(e:le.c[j]?=M k.st):j=dG k:=Vx E.aD.aC.aG e (uT E h)
theorem GF(E:cY le){x:RI}(e:ld.L[j]?=M x):j=nR x:=Vx E.aC.aI e (AI E (oA E e))
theorem DM(E:cY le):dG .z=0:=(AJ E (k:=.z) trivial ((AG E).elim λps k=>k.1.trans (aq M k.2.1.symm))).symm
theorem AK(co:∀p,p∈lv↔Co p):a∈iS lv p↔a∈lets/\∃q,Co q/\(p,a,q)∈lq.T:=iH.trans (and_congr qf (decide_eq_true_iff.trans (exists_congr λq=>and_congr (co q) qf)))
theorem GG(E:cY le)(co:∀p,p∈lv↔Co p)(hp:Co p):Fo gQ (dt p) a↔a∈jt lv p:=by
 have p3:=ju E hp;unfold Fo jt;rw[cD,AK co];refine or_congr ⟨λh=>?_,λh=>?_⟩ ?_
 .obtain⟨r,hr,l,e2⟩:=h;obtain⟨x,hx,rfl⟩:=rT E.aC hr;rcases lE E.aC hx with rfl|⟨p',rfl,k⟩|⟨e,rfl,k⟩
  .exact jZ e2 Y
  .exact jZ (bY e2).2 Y
  .have ep:=(hV e.1 k.2.2.1).2.2.2.2 p p3 (bY e2).1;have ea:e.2.1=a:=(bY (bY e2).2).1
   exact⟨aj ea k.2.2.2.2,e.2.2,(tN E.aC k.2.2.2.1).mp l,Dv ep ea k.1⟩
 .obtain⟨_,q,cq,hT⟩:=h;exact⟨_,tK E.aC (x:=.e (p,a,q)) ⟨hT,wH E.aC.aC hp⟩,(tN E.aC (ju E cq)).mpr cq,Y⟩
 .have iff:(bD,[dt p])∈gQ↔p∈lq.es:=⟨λh=>by
   obtain⟨x,hx,e⟩:=rT E.aC h;rcases lE E.aC hx with rfl|⟨p',rfl,k⟩|⟨e',rfl,k⟩
   .exact jZ (bS e).2 Y
   .exact aj ((hV p' k.2).2.2.2.2 p p3 (bY (bS e).2).1) k.1
   .exact(jZ (bY (bS e).2).2 Y),λh=>tK E.aC (x:=.s p) h⟩
  by_cases c:p∈lq.es
  .rw[aw c];exact⟨λh=>bp.mpr h.1,λh=>⟨bp.mp h,.inr (iff.mpr c)⟩⟩
  .rw[av c];exact⟨λh=>h.2.elim (λe=>ax e (hV p p3).1) λh=>ax (iff.mp h) c,λh=>bw h⟩
abbrev CL(k:Kd)(b d:V):Prop:=∃y∈k.st,Cell gQ le.c k.st y b d
theorem ag6(E:cY le){x:RI}(h:x.ok)(h0:x.dT.2[0]?=M s):s∉ts:=λm=>(tL E.aC).aC.aJ s ((tL E.aC).aC.aC _ (tK E.aC h) s h0).1 m
theorem AL(h:ld.L[q]?=M y'):qx gQ (q+1)=y'.dT:=Vq (iO h)
theorem qD{x:RI}{k:Nat}(h:ld.L[q]?=M x):oo gQ (q+1,k)=x.dT.2[k]?:=AH (iO h)
theorem ag7(E:cY le)(co:∀p,p∈lv↔Co p):CL .z b d↔∃a∈jt lv 0,b=.s a/\d=.i (-((nR .z+1:Nat):Int)):=by
 have nz:=AI E (x:=.z) trivial;have l0:Lv gQ (dt 0):=(tN E.aC (ao Y)).mpr (GB E.aC.aC)
 refine⟨λh=>?_,λh=>?_⟩
 .obtain⟨y,hy,h⟩:=h;rcases(yD E).mp hy with rfl|⟨q,r,hr,l,rfl⟩
  .rcases h with h|h|⟨a,i,hs,ht,_⟩
   .exact dS h.2.1 Y
   .exact ax Y h.1
   .exact ax (ak (bu hs) ht) AF.2.1
  .obtain⟨x,hx,rfl⟩:=dA hr;rcases h with h|⟨_,hs,⟨a,rfl,fo⟩,rfl⟩|⟨a,i,hs,ht,_⟩
   .exact dS h.1 Y
   .have h0:=(qD hx).symm.trans hs;rcases lE E.aC (oA E hx)with rfl|⟨p,rfl,k⟩|⟨e,rfl,k⟩
    .obtain rfl:=GF E hx;rw[AL nz]at fo;exact⟨a,(GG E co (GB E.aC.aC)).mp fo,Y,Y⟩
    .exact fK h0
    .exact fK h0
   .exact ax ht (ag6 E (oA E hx) ((qD hx).symm.trans hs))
 .obtain⟨a,ha,rfl,rfl⟩:=h;refine⟨(nR .z+1,0),(yD E).mpr (.inr ⟨_,_,iO nz,l0,Y⟩),.inr (.inl ⟨yN _,qD nz,⟨a,Y,?_⟩,Y⟩)⟩;rw[AL nz];exact(GG E co (GB E.aC.aC)).mpr ha
theorem Mx(E:cY le):CL .s b d↔b=.s cG/\d=.i 0:=by
 refine⟨λh=>?_,λh=>⟨(0,1),(lF E).mpr (.inl ⟨Y,Y⟩),.inl ⟨Y,Y,h⟩⟩⟩;obtain⟨y,hy,h⟩:=h;rcases(lF E).mp hy with⟨_,rfl⟩|⟨q,x,hx,_,h0,rfl⟩
 .rcases h with h|h|⟨a,i,hs,_⟩
  .exact h.2.2
  .exact ax Y h.1
  .exact cK hs
 .exact ax Y (((tL E.aC).aC.aC _ (tK E.aC (oA E hx)) bD h0).2)
theorem ag8(E:cY le)(co:∀p,p∈lv↔Co p)(hT:(p,s,q)∈lq.T)(hp:p∈lq.r)(hq:Co q):CL (.l p s) b d↔∃a∈jt lv q,b=.s a/\d=.i (-((nR (.e (p,s,q))+1:Nat):Int)):=by
 have nz:=AI E (x:=.e (p,s,q)) ⟨hT,hp⟩;have lq':Lv gQ (dt q):=(tN E.aC (ju E hq)).mpr hq
 refine⟨λh=>?_,λh=>?_⟩
 .obtain⟨y,hy,h⟩:=h;obtain⟨i,x,hx,_,h0,h1,rfl⟩:=(tO E).mp hy;obtain rfl:x=.e (p,s,q):=Dz E.aC (oA E hx) ⟨hT,hp⟩ (by
   rcases lE E.aC (oA E hx)with rfl|⟨p',rfl,k⟩|⟨e,rfl,k⟩
   .exact cK h0
   .exact cK h1
   .show [dt e.1,e.2.1]=[dt p,s];rw[bu h0,bu h1])
  obtain rfl:=GF E hx;rcases h with h|⟨_,_,⟨a,rfl,fo⟩,rfl⟩|⟨a,i,hs,_⟩
  .exact dS h.1 Y
  .rw[AL nz]at fo;exact⟨a,(GG E co hq).mp fo,Y,Y⟩
  .exact cK ((qD hx).symm.trans hs)
 .obtain⟨a,ha,rfl,rfl⟩:=h;refine⟨_,(tO E).mpr ⟨_,_,nz,lq',Y,Y,Y⟩,.inr (.inl ⟨yN _,qD nz,⟨a,Y,?_⟩,Y⟩)⟩;rw[AL nz];exact(GG E co hq).mpr ha
theorem AM(E:cY le)(co:∀p,p∈lv↔Co p)(hp:Co p):CL (.n p) b d↔(p∈lq.es/\b=.s cG/\d=.i (-((nR (.s p)+1:Nat):Int)))\/∃a∈iS lv p,b=.s a/\d=.i (dG (.l p a):Nat):=by
 have p3:=ju E hp;refine⟨λh=>?_,λh=>?_⟩
 .obtain⟨y,hy,h⟩:=h;rcases(lF E).mp hy with⟨e,_⟩|⟨q,x,hx,l,h0,rfl⟩
  .exact ax e (hV p p3).1
  .rcases lE E.aC (oA E hx)with rfl|⟨p',rfl,k⟩|⟨e,rfl,k⟩
   .exact cK h0
   .obtain rfl:=(hV p' k.2).2.2.2.2 p p3 (bu h0);rcases h with h|⟨_,_,⟨a,rfl,fo⟩,rfl⟩|⟨a,i,hs,_⟩
    .exact dS h.1 Y
    .rw[AL hx]at fo;have ea:a=cG:=fo.elim (λh=>h.elim λr k=>ax Y ((tL E.aC).aC.aC r k.1 bD (ak k.2.2 Y)).2) λh=>h.1
     exact .inl ⟨k.1,aq V.s ea,by rw[GF E hx]⟩
    .exact cK ((qD hx).symm.trans hs)
   .obtain rfl:=(hV e.1 k.2.2.1).2.2.2.2 p p3 (bu h0);have cq:=(tN E.aC k.2.2.2.1).mp l
    rcases h with h|⟨_,hs,_⟩|⟨a,i,hs,_,rfl,hi,rfl⟩
    .exact dS h.1 Y
    .exact fK ((qD hx).symm.trans hs)
    .obtain rfl:=bu ((qD hx).symm.trans hs);exact .inr ⟨e.2.1,(AK co).mpr ⟨k.2.2.2.2,e.2.2,cq,k.1⟩,Y,by rw[AJ E (k:=.l e.1 e.2.1) ⟨e.2.2,k.1,k.2.1,cq⟩ hi]⟩
 .rcases h with⟨he,rfl,rfl⟩|⟨a,ha,rfl,rfl⟩
  .have nz:=AI E (x:=.s p) he;refine⟨_,(lF E).mpr (.inr ⟨_,_,nz,.s,Y,Y⟩),.inr (.inl ⟨yN _,qD nz,⟨_,Y,?_⟩,Y⟩)⟩;rw[AL nz];exact .inr ⟨Y,.inl Y⟩
  .obtain⟨hl,q,cq,hT⟩:=(AK co).mp ha;have rc:=wH E.aC.aC hp
   have nz:=AI E (x:=.e (p,a,q)) ⟨hT,rc⟩;exact⟨_,(lF E).mpr (.inr ⟨_,_,nz,(tN E.aC (ju E cq)).mpr cq,Y,Y⟩),.inr (.inr ⟨a,_,qD nz,uG hl,Y,uT E (k:=.l p a) ⟨q,hT,rc,cq⟩,Y⟩)⟩
theorem ag'(E:cY le){k v:V}:(∃A i,k=.s A/\v=.i (i:Nat)/\A∈nQ/\KG gQ I0 A≠[]/\le.c[i]?=M (KG gQ I0 A))↔(k=.s bD/\v=.i (dG .s:Nat))\/∃p,Co p/\k=.s (dt p)/\v=.i (dG (.n p):Nat):=by
 refine⟨λh=>?_,λh=>?_⟩
 .obtain⟨A,i,rfl,rfl,_,ne,hi⟩:=h;obtain⟨y,hy⟩:=qH _ ne;rcases Vt E hy with rfl|⟨p,rfl,_,cp⟩
  .exact .inl ⟨Y,by rw[AJ E (k:=.s) trivial hi]⟩
  .exact .inr ⟨p,cp,Y,by rw[AJ E (k:=.n p) cp hi]⟩
 .rcases h with⟨rfl,rfl⟩|⟨p,cp,rfl,rfl⟩
  .exact⟨_,_,Y,Y,(tL E.aC).aC.aT,Kd.ne E (k:=.s) trivial,uT E (k:=.s) trivial⟩
  .have ne:=Kd.ne E (k:=.n p) cp;refine⟨_,_,Y,Y,?_,ne,uT E (k:=.n p) cp⟩;obtain⟨y,hy⟩:=qH _ ne;rcases(lF E).mp hy with⟨e,_⟩|⟨q,x,hx,_,h0,_⟩
   .exact ax e (hV p (ju E cp)).1
   .exact((tL E.aC).aC.aC _ (tK E.aC (oA E hx)) _ h0).1
theorem aha(E:cY le)(h:k.ok)(n:k≠.z)(hA:s∈nQ):KG gQ k.st s=[]:=by
 refine AR λne=>?_;obtain⟨y,hy⟩:=qH _ ne;obtain⟨y',ef,hs,_⟩:=DI.mp hy;have two:∀{q:Nat}{x:RI},ld.L[q]?=M x->x.dT.2[1]?=M s->False:=λ{q x} hx h1=>by
  rcases lE E.aC (oA E hx)with rfl|⟨p,rfl,_⟩|⟨e,rfl,k⟩
  .exact cK h1
  .exact cK h1
  .exact(tL E.aC).aC.aJ s hA (aj (bu h1) (uG k.2.2.2.2))
 have one:∀{A:aP},y'∈KG gQ I0 A->False:=λ{A} h=>by
  rcases(lF E).mp h with⟨_,rfl⟩|⟨q,x,hx,_,_,rfl⟩
  .exact cK hs
  .exact two hx ((qD hx).symm.trans hs)
 cases k with
 |z=>exact n rfl
 |s=>exact one ef
 |n p=>exact one ef
 |l p a=>obtain⟨q,x,hx,_,_,_,rfl⟩:=(tO E).mp ef;exact cK (((qD hx).trans (Vu E (oA E hx) 0)).symm.trans hs)
end
theorem ahb:∀(p:aP)(l:Ss),risingS p l=O->(p::l).Pairwise (λa b=>a.cps.toList<=b.cps.toList):=by
 intro p l
 induction l generalizing p with
 |nil=>exactλc=>V9 _ _
 |cons x r ih=>
  intro h;have h:(!Spec.ltCps x.cps.toList p.cps.toList&&risingS x r)=O:=h
  rw[ajD,ltCps_eq]at h;have ih:=ih x h.2
  have px:p.cps.toList<=x.cps.toList:=by simpa using h.1
  refine List.pairwise_cons.mpr ⟨λy hy=>?_,ih⟩;rcases b0.mp hy with rfl|hy
  .exact px
  .exact List.le_trans px (List.rel_of_pairwise_cons ih hy)
theorem Vy{a b:Ss}(p:a.Perm b)(ha:HA a=O)(hb:HA b=O):a=b:=by
 have pw:∀l:Ss,HA l=O->l.Pairwise (λa b=>a.cps.toList<=b.cps.toList):=λl h=>by
  cases l with
  |nil=>exact .nil
  |cons x r=>exact ahb x r h
 exact p.eq_of_pairwise (λx y c c h1 h2=>by have:=List.le_antisymm h1 h2;cases x;cases y;exact aq Str.mk (aju.mp this)) (pw a ha) (pw b hb)
theorem ahc{a b:List Int}(p:a.Perm b)(ha:a.Pairwise (·<=·))(hb:b.Pairwise (·<=·)):a=b:=p.eq_of_pairwise (λc c c c h1 h2=>ajT h1 h2) ha hb
theorem Vz:∀{l:Vs},(∀k∈l,∃s,k=.s s)->∃ss:Ss,l=ss.map .s:=λ{l}=>by
 induction l with
 |nil=>exactλa=>⟨[],Y⟩
 |cons k l ih=>intro h;obtain⟨s,rfl⟩:=h k (.head _);obtain⟨ss,rfl⟩:=ih λk hk=>h k (.tail _ hk);exact⟨s::ss,Y⟩
variable{k:Nat}
theorem ahd:((l7 k n).map (·.1)).Nodup:=by rw[l7,fA];exact md.mpr (Ww.imp λne e=>ne (jv (jR e)))
theorem My(h:j<n):bM (l7 k n) (.i (j:Nat))=M (.e (k,[j])):=uL ahd (dw (f:=λj:Nat=>(V.i j,V.e (k,[j]))) (gY.mpr h))
abbrev HF:Prop:=jD lf.l lf.l lf.m lf.u
theorem tQ(C:HF)(h:[69,70,71,99].contains l.1=Z):lf.u l=le.u l:=C.aG l h
theorem ahe(E:cY le):0<le.c.length:=(AG E).elim λps k=>(cV.mp k.1).1
theorem GH(E:cY le):∃es,le.u (30,[0])=M (.d es)/\(es.map (·.1)).Nodup/\(∀k v,(k,v)∈es↔(k=.s bD/\v=.i (dG .s:Nat))\/∃p,Co p/\k=.s (dt p)/\v=.i (dG (.n p):Nat)):=by have h0:le.c[(0:Nat)]?=M I0:=(AG E).elim λps k=>k.1.trans (aq M k.2.1.symm);exact(E.aD.aI 0 _ h0).imp λes k=>⟨k.1,k.2.1,λx v=>(k.2.2 x v).trans (ag' E)⟩
theorem ahf(E:cY le){lv:Nl}(co:∀p,p∈lv↔Co p)(nd:lv.Nodup)(n1:(es.map (·.1)).Nodup)(h:∀k v,(k,v)∈es↔(k=.s bD/\v=.i (dG .s:Nat))\/∃p,Co p/\k=.s (dt p)/\v=.i (dG (.n p):Nat)):∃ss:Ss,es.map (·.1)=ss.map .s/\ss.Perm (bD::lv.map dt):=by
 obtain⟨ss,e⟩:=Vz (l:=es.map (·.1)) λk hk=>by
  obtain⟨q,hq,rfl⟩:=bk.mp hk;rcases(h q.1 q.2).mp hq with k|⟨p,_,k,_⟩
  .exact⟨_,k.1⟩
  .exact⟨_,k⟩
 refine⟨ss,e,(MZ (l₁:=ss) ?_ ?_).mpr λs=>?_⟩
 .rw[e]at n1;exact(md.mp n1).imp λne e=>ne (aq V.s e)
 .refine fQ.mpr ⟨λh=>(bk.mp h).elim λp k=>(hV p (ju E ((co p).mp k.1))).1 k.2,md.mpr (nd.imp_of_mem λ{a b} ha hb ne e=>ne ((hV a (ju E ((co a).mp ha))).2.2.2.2 b (ju E ((co b).mp hb)) e))⟩
 .have m:s∈ss↔V.s s∈es.map (·.1):=by rw[e];exact⟨λh=>dw h,λh=>(bk.mp h).elim λx k=>aj (str_inj k.2) k.1⟩
  rw[m,bk,b0,bk];refine⟨λh'=>?_,λh'=>?_⟩
  .obtain⟨q,hq,e⟩:=h';rcases(h q.1 q.2).mp hq with k|⟨p,cp,k,_⟩
   .exact .inl (str_inj (e.symm.trans k.1))
   .exact .inr ⟨p,(co p).mpr cp,(str_inj (e.symm.trans k)).symm⟩
  .rcases h' with rfl|⟨p,hp,rfl⟩
   .exact⟨(_,_),(h _ _).mpr (.inl ⟨Y,Y⟩),Y⟩
   .exact⟨(_,_),(h _ _).mpr (.inr ⟨p,(co p).mp hp,Y,Y⟩),Y⟩
theorem ahg(C:HF)(q:∀w t,(∀l:Loc,l.1≠99->w l=lf.u l)->WB 20 (Sx.dD 12 i7) (Rt ph) ⟨aH lf.m 14 (.e (30,[0])),w,t⟩):DD lf:=by
 have E:=C.aC;have yE:∃c,lf.u (20,[])=M (.i 6 (aH F0 37 c)):=E.aD.aD.imp λc h=>(C.aG _ Y).trans h
 have GJ:lf.u (25,[])=M (.d (l7 30 le.c.length)):=(C.aG _ Y).trans E.aD.aG;obtain⟨es,mM,nd,me⟩:=GH E;have mM:=(tQ C Y:lf.u (30,[0])=_).trans mM
 obtain⟨ss,e1,p1⟩:=ahf E C.aD C.aI nd me;have zl:lf.l.length<=3:=aL (oX C.aI λp h=>gY.mpr (DG C h)) (fR iU)
 have z1:(bD::lf.l.map dt).length<=4:=by rw[oE,bc];exact fJ zl
 refine eF (dU (ra (l:=(20,[])) (aE C.aJ) yE.choose_spec Y Y) bW (fG (l:=(25,[])) GJ Y (My (j:=0) (ahe E)))) ?_;show WB 20 (Sx.dD 11 i7) _ ⟨aH lf.m 14 (.e (30,[0])),lf.u,lf.t⟩;refine d7 (oT (uk (mG Y (rl (a6 (aE Y) br) (Q2 (l:=(30,[0])) mM e1 (ak p1.length_eq (bF z1 (ao Y))) λs1 q1 o1=>kC (mG Y (eC (qj (fw (rl (a6 (x:=.s bD) du br) ⟨(by decide:1<=16777216),kC (B6 (re (aE C.bj) (mH (l:=(69,[])) C.bb ?_)))⟩))))))))))
 refine Mt (l:=bz (lf.t+1+1)) lf.l iV (λp=>M (.s (dt p))) (.inl ⟨Y,Y⟩) (λys i=>⟨_,C.bb,Y⟩) (λp hp ys ai le k=>?_) ?_
 .exact F5 Aa (bF (aL le zl) (ao Y)) (wJ (DG C hp) (aE Y)) k
 .have tn:∀{a b:Nat},a≠b->bz a≠bz b:=λh e=>h (bY (bS e).2).1;have t1:∀{a:Nat}(d:Nat),bz a≠bz (a+d+1):=λ{a} d=>tn (gZ (AY (mR a d)))
  rw[show(lf.l.filterMap λp=>M (V.s (dt p)))=(lf.l.map dt).map .s from(congrFun M7 _).trans fA.symm]
  generalize hw:((lf.u.aF (bz lf.t) (.l (s1.map .s))).aF (bz (lf.t+1)) (.l [.s bD])).aF (bz (lf.t+1+1)) (.l ((lf.l.map dt).map .s))=w;have w0:w (bz lf.t)=M (.l (s1.map .s)):=aj hw ((aQ (t1 1)).trans ((aQ (t1 0)).trans a4))
  have w1:w (bz (lf.t+1))=M (.l [.s bD]):=aj hw ((aQ (t1 0)).trans a4);have w2:w (bz (lf.t+1+1))=M (.l ((lf.l.map dt).map .s)):=aj hw a4
  have wo:∀l:Loc,l.1≠99->w l=lf.u l:=λl h=>aj hw ((aQ λe=>h (aq dQ e)).trans ((aQ λe=>h (aq dQ e)).trans (aQ λe=>h (aq dQ e))));show O2 ⟨aH lf.m 14 (.e (30,[0])),((lf.u.aF (bz lf.t) (.l (s1.map .s))).aF (bz (lf.t+1)) (.l [.s bD])).aF (bz (lf.t+1+1)) (.l ((lf.l.map dt).map .s)),lf.t+1+1+1⟩ _ (.e (bz (lf.t+1))) (.e (bz (lf.t+1+1))) _;rw[hw];refine FA w1 w2 (by rw[bc,bc];exact aL (eQ zl 1) (ao Y)) (kC (eB (QM (ss:=bD::lf.l.map dt) a4 (bF z1 (ao Y)) λs2 q2 o2=>kC ?_)))
  obtain rfl:=Vy (q1.trans (p1.trans q2.symm)) o1 o2;refine⟨Z,Mu (vs:=s1.map .s) ?_ a4 (λy h=>(bk.mp h).elim λx k=>aj k.2 Y),oV (λe=>cw e) (aO (q _ _ λl h=>?_))⟩
  .exact(aQ (t1 3)).trans ((aQ (t1 2)).trans w0)
  .exact(aQ λe=>h (aq dQ e)).trans ((aQ λe=>h (aq dQ e)).trans (wo l h))
variable{x:RI} {a bs:Sx}
theorem Mz(C:HF)(h:x.ok)(m5:m 5=M (.e (68,ld.l)))(wo:∀l:Loc,l.1=66\/l.1=68->w l=lf.u l)(ha:RE ⟨m,w,t⟩ a (.s x.dT.1))(hb:RL ⟨m,w,t⟩ bs (x.dT.2.map .s))(q:Q (.i (nR x:Nat)) ⟨m,w.aF (bz t) (.l (x.dT.2.map .s)),t+1⟩):WE n (.bV .n (.v 5) (.c (.d (.c a (.c (.t bs) .n))) .n)) Q ⟨m,w,t⟩:=by
 have E:=C.aC;have z2:x.dT.2.length<=9:=(Mr _ (DC (D:=E.aC) h)).2.2.2
 have u6:∀{y:RI},lf.u y.gA=le.u y.gA:=λ{y}=>tQ C (by cases y<;>rfl)
 have hl:w (68,ld.l)=M (.l (ld.L.map RI.v)):=(wo _ (.inr Y)).trans ((tQ C Y).trans E.jq);have hr:∀y∈ld.L,w y.gA=M (.l (y.dT.2.map .s)):=λy hy=>(wo _ (.inl (by cases y<;>rfl))).trans (u6.trans (E.bj y hy))
 have l9:∀{y:RI},y.gA≠bz t:=λ{y} e=>by have e:=aq dQ e;cases y<;>exact ax e (by decide:(66:Nat)≠99)
 refine iu (re (aE m5) ⟨_,YM (l:=(68,ld.l)) hl,eC (xG (eC (re ha (eC (fw (rl hb ⟨by rw[bc];exact aL z2 (ao Y),kC (eB ⟨(by decide:2<=16777216),eB (agZ (r:=x.dT) (lx:=bz t) (l:=(68,ld.l)) (L:=ld.L) (x:=x) hl (λy hy=>(aQ l9).trans (hr y hy)) a4 (AI E h) Y (λi y lt hy e=>?_) ?_ q)⟩)⟩))))))⟩)
 .have yx:y=x:=Dz E.aC (oA E hy) h (aq sg e);exact gZ lt (GF E (aj yx hy))
 .exact aL (ak (bc (f:=RI.dT) (as:=ld.L)).symm (Mq E.aC)) (ao Y)
theorem VA:(-1:Int)-(n:Nat)=-((n+1:Nat):Int):=by rw[ajM,Int.neg_add,Nt];rfl
theorem ahh(C:HF)(o:∀l:Loc,l.1≠99->w l=lf.u l)(m5:m 5=M (.e (68,ld.l))){F:QF}(q:∀w t,(∀l:Loc,l.1≠99->w l=lf.u l)->WB n (Sx.dD 13 i7) F ⟨aH m 15 (.i (-((nR .z+1:Nat):Int))),w,t⟩):WB n (Sx.dD 12 i7) F ⟨m,w,t⟩:=by
 have e0:(bo "N0")=dt 0:=by decide+kernel
 have h0:RE ⟨m,w,t⟩ (.cS "N0") (.s RI.z.dT.1):=aj (show V.s (bo "N0")=.s RI.z.dT.1 from aq V.s e0) du
 refine cj (qj (re (q9 bW) (Mz C (x:=.z) trivial m5 (λl h=>o l (h.elim (λe=>by rw[e];decide) λe=>by rw[e];decide)) h0 br (o2 vH ?_))))
 rw[VA];exact q _ _ λl h=>(aQ λe=>h (aq dQ e)).trans (o l h)
theorem ahi{tg:Tg}(as:List α)(f ky val:α->V)(nd:(as.map ky).Nodup)(rm:oN K l t')(hS:∀es i,S i (K.h.aF l (.d es)) (as.map f)[i]?)
 (body:∀a∈as,∀es ai,es.length<=as.length->ai (K.h.aF l (.d (cC es (ky a) (val a)))) t'->ur tg (f a) (DB ek ev l ai) ⟨j7 K.m bZ,K.h.aF l (.d es),t'⟩)(q:Q (.e l) (K.aF l (.d (as.map λa=>(ky a,val a))) t')):CQ (.d []) tg bZ (DB ek ev) Q S K:=
 ⟨l,t',rm,l,Y,as.length,λi h τ=>h=K.h.aF l (.d ((as.take i).map λa=>(ky a,val a)))/\τ=t',⟨Y,Y⟩,λi h τ I=>by
  obtain⟨rfl,rfl⟩:=I;have s:=hS ((as.take i).map λa=>(ky a,val a)) i
  rw[kG]at s;cases hv:as[i]? with
  |none=>rw[hv]at s;exact .inl ⟨s,aj (yI (mN.mp hv)).symm q⟩
  |some v=>
   rw[hv]at s;refine .inr ⟨f v,s,(cV.mp hv).1,body v (bE hv) _ _ (by rw[bc];exact iG ..) ⟨?_,Y⟩⟩
   rw[kW λh=>?_,take_snoc hv,dc];rfl;rw[fA]at h;exact AE nd (iO hv) (aj Ee h)⟩
theorem GK{lv:Nl}:(jt lv p).Nodup:=by
 unfold jt iS;refine jX.mpr ⟨CU.sublist yJ,?_,λa ha b hb e=>?_⟩
 .by_cases c:p∈lq.es
  .rw[aw c];exact fQ.mpr ⟨(λh=>(bw h)),gh⟩
  .rw[av c];exact gh
 .by_cases c:p∈lq.es
  .rw[aw c]at hb;exact ax (aj (bp.mp hb) (aj e (iH.mp ha).1):cG∈lets) (ao Y)
  .rw[av c]at hb;exact bw hb
theorem MA{lv:Nl}:(jt lv p).length<=4:=by
 unfold jt iS;rw[dW];refine jY (GZ ..) (?_:_<=1);by_cases c:p∈lq.es
 .rw[aw c];exact dj _
 .rw[av c];exact b7 _
theorem AN(E:cY le){k:Kd}(h:k.ok)(h':k'.ok)(n:k≠k'):dG k≠dG k':=λe=>n (ag4 E h h' (bu ((uT E h).symm.trans (ak e (uT E h')))))
section
variable{lv:Nl}
theorem MB(C:HF)(hp:p∈lf.l):bM (pk lf.l) (iV p)=M (.e (71,[p,1])):=uL (by rw[pk,fA];exact md.mpr (C.aI.imp λne e=>ne (jv (jR e)))) (dw (f:=λp=>(iV p,V.e (71,[p,1]))) hp)
theorem VB(C:HF)(hp:p∈lf.l){c dv:Sx}(o:∀l:Loc,[70,71].contains l.1=O->w l=lf.u l)(CV:m 11=M (.e (70,[])))(hc:RE ⟨m,w,t⟩ c (iV p))(rl:rg l=O)(fr:w l=U)(VC:l.1=73)(hd:∀es a,RE ⟨aH (j7 m bZ) 1 (.s a),w.aF l (.d es),t⟩ dv d)(q:Q (.e l) ⟨m,w.aF l (.d ((jt lf.l p).map λa=>(.s a,d))),t⟩):WE n (.EJ (.v 1) dv (.v 1) (.u (.v 11) c) bZ) Q ⟨m,w,t⟩:=by
 have h70:w (70,[])=M (.d (pk lf.l)):=(o _ Y).trans C.dC;have VD:w (71,[p,1])=M (.l ((jt lf.l p).map .s)):=(o _ Y).trans (C.cF p hp)
 refine aaA (re (dU (aE CV) hc (fG (l:=(70,[])) h70 Y (MB C hp))) (mH (l:=(71,[p,1])) VD (ahi (l:=l) (jt lf.l p) .s .s (λb=>d) (md.mpr (GK.imp λne e=>ne (str_inj e))) (.inr ⟨F4 rl,by rw[VC];decide,fr,Y⟩) (λes i=>⟨_,(aQ λe=>ax ((aq dQ e).trans VC) (by decide:(71:Nat)≠73)).trans VD,Y⟩) (λa ha es ai le k=>?_) q)))
 exact re (aE Y) (re (hd es a) ⟨es,a4,Y,bF (aL le MA) (ao Y),aj mI.symm k⟩)
theorem VE(E:cY le)(n1:(es.map (·.1)).Nodup)(h:∀k v,(k,v)∈es↔(k=.s bD/\v=.i (dG .s:Nat))\/∃p,Co p/\k=.s (dt p)/\v=.i (dG (.n p):Nat)):bM es (.s bD)=M (.i (dG .s:Nat)):=uL n1 ((h _ _).mpr (.inl ⟨Y,Y⟩))
theorem ahk(E:cY le)(n1:(es.map (·.1)).Nodup)(h:∀k v,(k,v)∈es↔(k=.s bD/\v=.i (dG .s:Nat))\/∃p,Co p/\k=.s (dt p)/\v=.i (dG (.n p):Nat))(hp:Co p):bM es (.s (dt p))=M (.i (dG (.n p):Nat)):=uL n1 ((h _ _).mpr (.inr ⟨p,hp,Y,Y⟩))
theorem MC(E:cY le):dG .s≠0:=λe=>AN E (k:=.s) (k':=.z) trivial trivial (λe=>wN e Y) (e.trans (DM E).symm)
end
variable{F:QF}
theorem ahl(C:HF)(o:∀l:Loc,l.1≠99->w l=lf.u l)(CV:m 11=M (.e (70,[])))(MD:m 14=M (.e (30,[0]))){d0:V}(m15:m 15=M d0)(q:∀w',w'=(((w.aF (72,[]) (.d [])).aF (73,[0]) (.d ((jt lf.l 0).map λa=>(.s a,d0)))).aF (73,[dG .s]) (.d [(.s cG,.i 0)])).aF (72,[]) (.d [(.i 0,.e (73,[0])),(.i (dG .s:Nat),.e (73,[dG .s]))])->WB n (Sx.dD 14 i7) F ⟨aH m 16 (.e (72,[])),w',t⟩):WB n (Sx.dD 13 i7) F ⟨m,w,t⟩:=by
 have E:=C.aC;obtain⟨es,mM,nd,me⟩:=GH E;have mM:w (30,[0])=M (.d es):=(o _ (ao Y)).trans ((tQ C Y).trans mM)
 have f:∀{k y},[72,73,74].contains k=O->[69,70,71,99].contains k=Z->cQ k 99=Z->w (k,y)=U:=λh h1 h2=>(o _ (pd h2)).trans ((tQ C h1).trans (E.aG _ _ (by
  rcases b0.mp (iT.mp h)with rfl|h
  .rfl
  rcases b0.mp h with rfl|h
  .rfl
  .rw[bp.mp h];rfl)))
 have in0:0∈lf.l:=(C.aD 0).mpr (GB E.aC.aC);refine cj (Jz (FH (FH Jy)) (dF (72,[]) Y (f Y Y Y) (FG (re bW (VB (l:=(73,[0])) (d:=d0) C in0 (λl h=>?_) CV bW Y (f Y Y Y) Y (λes a=>aE m15) ?_)))))
 .have h':=(by decide:∀k∈[70,71],cQ k 72=Z/\cQ k 99=Z) l.1 (iT.mp h)
  exact(aQ (bf h'.1)).trans (o l (pd h'.2))
 .refine FG (re (dU (aE MD) du (fG (l:=(30,[0])) mM Y (VE E nd me))) (Jz (FH Jy) (dF (73,[dG .s]) Y ?_ (FG (re du (re bW (Jx ⟨_,Y,a4,?_,?_,Jx ⟨(72,[]),Y,Y,?_,?_,?_⟩⟩)))))))
  .exact(aQ (jQ (MC E))).trans ((aQ (bf Y)).trans (f Y Y Y))
  .exactλe h=>ak (bp.mp h) Y
  .exact(by decide:1<=16777216)
  .exactλe h=>(b0.mp h).elim (λe=>ak e Y) λh=>ak (bp.mp h) Y
  .exact(by decide:2<=16777216)
  .show WB n (Sx.dD 14 i7) F ⟨aH m 16 (.e (72,[])),(((((w.aF (72,[]) (.d [])).aF (73,[0]) (.d ((jt lf.l 0).map λa=>(.s a,d0)))).aF (73,[dG .s]) (.d [])).aF (73,[dG .s]) (.d [(.s cG,.i 0)])).aF (72,[]) (.d [(.i 0,.e (73,[0]))])).aF (72,[]) (.d (cC [(.i 0,.e (73,[0]))] (.i (dG .s:Nat)) (.e (73,[dG .s])))),t⟩;rw[mI,mI,kW λh=>MC E (jv (jR (bp.mp h)))];exact q _ Y
def iE(j:Nat):List Kd:=.z::.s::(lf.l.take j).flatMap λp=>.n p::(iS lf.l p).map (.l p)
noncomputable abbrev ME:Nl:=[12,13,18,19,20,21]
noncomputable abbrev DN:Nl:=[72,73,74,99]
def DO:Mp:=aH (aH (aH (aH lf.m 14 (.e (30,[0]))) 15 (.i (-((nR .z+1:Nat):Int)))) 16 (.e (72,[]))) 17 (.e (74,[]))
abbrev hW(w:Hp):Hp:=mix DN w lf.u
abbrev sW(v:Mp)(w:Hp)(t:Nat):AS:=⟨aU ME v DO,hW w,t⟩
def kI(k:Kd):V:=.i (dG k:Nat)
def kL(k:Kd):Loc:=(73,[dG k])
def oB(ws:List Kd):Es:=ws.map λk=>(kI k,.e (kL k))
def jE(ws:List Kd)(G:Kd->V->V->Prop)(w:Hp):Prop:=w (72,[])=M (.d (oB ws))/\w (74,[])=M (.l (ws.map kI))/\(∀k∈ws,∃es,w (kL k)=M (.d es)/\(es.map (·.1)).Nodup/\∀b d,(b,d)∈es↔G k b d)/\∀i,(∀k∈ws,dG k≠i)->w (73,[i])=U
section
variable{ws:List Kd} {G:Kd->V->V->Prop} (hh:jE ws G w)
def jE.aI:=hh.1
def jE.aC:=hh.2.1
def jE.aD:=hh.2.2.1
def jE.aG:=hh.2.2.2
end
theorem wO(C:HF){k:Kd}(h:k∈iE j):k.ok:=by
 rcases b0.mp h with rfl|h
 .trivial
 rcases b0.mp h with rfl|h
 .trivial
 obtain⟨p,hp,h⟩:=wY.mp h;have cp:=(C.aD p).mp (uZ hp)
 rcases b0.mp h with rfl|h
 .exact cp
 .obtain⟨a,ha,rfl⟩:=bk.mp h;obtain⟨_,q,cq,hT⟩:=(AK C.aD).mp ha;exact⟨q,hT,wH C.aC.aC.aC cp,cq⟩
theorem MF(C:HF){k:Kd}(h:k.ok):k∈iE lf.l.length:=by
 unfold iE;rw[e7];cases k with
 |z=>exact .head _
 |s=>exact .tail _ (.head _)
 |n p=>exact .tail _ (.tail _ (wY.mpr ⟨p,(C.aD p).mpr h,.head _⟩))
 |l p a=>obtain⟨q,hT,hr,cq⟩:=id h;exact .tail _ (.tail _ (wY.mpr ⟨p,(C.aD p).mpr (Kd.up h),.tail _ (dw (f:=Kd.l p) ((AK C.aD).mpr ⟨(C.aC.aC.aC.aC.aC _ hT).2.1,q,cq,hT⟩))⟩))
theorem GL(C:HF):(iE j).Nodup:=by
 have nj:(lf.l.take j).Nodup:=C.aI.sublist (D6 ..);have mm:∀{k:Kd},k∈(lf.l.take j).flatMap (λp=>.n p::(iS lf.l p).map (.l p))->k≠.z/\k≠.s:=λ{k} h=>by
  obtain⟨p,_,h⟩:=wY.mp h;rcases b0.mp h with rfl|h
  .exact⟨(λe=>(wN e Y)),λe=>(wN e Y)⟩
  .obtain⟨a,_,rfl⟩:=bk.mp h;exact⟨(λe=>(wN e Y)),λe=>(wN e Y)⟩
 refine fQ.mpr ⟨λh=>?_,fQ.mpr ⟨λh=>(mm h).2 Y,?_⟩⟩
 .exact(b0.mp h).elim (λe=>(wN e Y)) λh=>(mm h).1 Y
 .have pl:∀{k:Kd} {p},k∈(Kd.n p::(iS lf.l p).map (.l p))->(Kd.rec 0 0 id (λp c=>p) k:Nat)=p:=λ{k p} h=>by
   rcases b0.mp h with rfl|h
   .rfl
   .obtain⟨a,_,rfl⟩:=bk.mp h
    rfl
  generalize lf.l.take j=l at nj;clear mm
  induction l with
  |nil=>exact gh
  |cons p l ih=>have nj:=fQ.mp nj;rw[yL];refine jX.mpr ⟨fQ.mpr ⟨λh=>(bk.mp h).elim λa k=>(wN k.2 Y),md.mpr ((CU.sublist yJ).imp λne e=>ne (aq (λk:Kd=>(Kd.rec bD bD (λc=>bD) (λc a=>a) k:aP)) e))⟩,ih nj.2,λa ha b hb e=>?_⟩;obtain⟨p',iY,hb⟩:=wY.mp hb;exact nj.1 (ak ((pl ha).symm.trans (ak e (pl hb)):p=p') iY)
theorem aho(C:HF)(mM:w (30,[0])=M (.d es))(kS:bM es (.s bD)=M (.i (dG .s:Nat)))(MD:m 14=M (.e (30,[0])))(f:w (74,[])=U)(q:WB n (Sx.dD 15 i7) F ⟨aH m 17 (.e (74,[])),w.aF (74,[]) (.l ((iE 0).map λk=>.i (dG k:Nat))),t⟩):WB n (Sx.dD 14 i7) F ⟨m,w,t⟩:=by
 have e:(iE 0).map (λk=>V.i (dG k:Nat))=[.i 0,.i (dG .s:Nat)]:=by show [V.i (dG .z:Nat),V.i (dG .s:Nat)]=_;rw[DM C.aC];rfl
 rw[e]at q;exact cj (fw (rl (a6 bW (a6 (dU (aE MD) du (fG (l:=(30,[0])) mM Y kS)) br)) ⟨(by decide:2<=16777216),dF (74,[]) Y f q⟩))
def jW(j p k:Nat):List Kd:=(iE j++[.n p])++((iS lf.l p).take k).map (.l p)
def EN(p:Nat)(ls:Ss)(b d:V):Prop:=(p∈lq.es/\b=.s cG/\d=.i (-((nR (.s p)+1:Nat):Int)))\/∃a∈ls,b=.s a/\d=kI (.l p a)
def yF(p:Nat)(ls:Ss)(k:Kd)(b d:V):Prop:=(k=.n p/\EN p ls b d)\/k≠.n p/\CL k b d
variable{k:Kd} {a:aP} {ws:List Kd} {G G':Kd->V->V->Prop} {ls:Ss}
theorem GN(E:cY le)(h:k.ok)(h':k'.ok)(n:k≠k'):kL k≠kL k':=jQ (AN E h h' n)
theorem ahp(E:cY le)(h:k.ok)(h':k'.ok)(e:kI k=kI k'):k=k':=AR λn=>AN E h h' n (jv (jR e))
theorem ahq:k∈ws->(kI k,V.e (kL k))∈oB ws:=λh=>dw (f:=λk=>(kI k,V.e (kL k))) h
theorem VF(E:cY le)(ok:∀k∈ws,k.ok)(n:ws.Nodup):((oB ws).map (·.1)).Nodup:=by rw[oB,fA];exact md.mpr (n.imp_of_mem λha hb ne e=>ne (ahp E (ok _ ha) (ok _ hb) e))
theorem VG(E:cY le)(ok:∀k∈ws,k.ok)(n:ws.Nodup)(h:k∈ws):bM (oB ws) (kI k)=M (.e (kL k)):=uL (VF E ok n) (ahq h)
theorem jE.eH(E:cY le)(ok:∀k'∈ws++[k],k'.ok)(n:(ws++[k]).Nodup)(VH:w' (72,[])=M (.d (cC (oB ws) (kI k) (.e (kL k)))))(st:w' (74,[])=M (.l (ws.map kI++[kI k])))(r:∀k'∈ws++[k],∃es,w' (kL k')=M (.d es)/\(es.map (·.1)).Nodup/\∀b d,(b,d)∈es↔G' k' b d)(f:∀i,(∀k'∈ws++[k],dG k'≠i)->w' (73,[i])=U):jE (ws++[k]) G' w':=by
 have d:=VF E ok n;rw[oB,dc,dc]at d;have nk:kI k∉(oB ws).map (·.1):=λh=>(jX.mp d).2.2 _ h _ (.head _) Y
 rw[kW nk]at VH;exact⟨by rw[VH,oB,oB,dc];rfl,by rw[st,dc];rfl,r,f⟩
theorem ahr(h:(iS lf.l p)[i]?=M a):jW j p (i+1)=jW j p i++[.l p a]:=by unfold jW;rw[take_snoc h,dc,<-tW];rfl
theorem VI(h:lf.l[j]?=M p):iE (j+1)=jW j p (iS lf.l p).length:=by unfold iE jW;rw[take_snoc h,D3,e7,tW];exact aq (λx=>Kd.z::Kd.s::(_++x)) (hY _)
theorem MG(h:lf.l[j]?=M p):(jW j p i).Sublist (iE (j+1)):=by rw[VI h];unfold jW;rw[e7];exact((D6 ..).map _).append_left _
theorem VJ(C:HF)(h:lf.l[j]?=M p):(jW j p i).Nodup:=(GL C).sublist (MG h)
theorem VK(C:HF)(h:lf.l[j]?=M p):∀k∈jW j p i,k.ok:=λk hk=>wO C ((MG h).subset hk)
theorem MH:Kd.n p∈jW j p i:=cH _ (cZ _ (.head _))
theorem DT(C:HF):(iE j).length<=14:=by
 have h:∀l:Nl,(l.flatMap λp=>Kd.n p::(iS lf.l p).map (.l p)).length<=4*l.length:=λl=>by
  induction l with
  |nil=>exact dj _
  |cons p l ih=>rw[yL,dW,oE,bc,oE,qb,nU];exact jY ih (fJ (GZ ..))
 exact pz (aL (h _) (mQ 4 (aL (iG ..) (aL (oX C.aI λp h=>gY.mpr (DG C h)) (fR iU))))) 2
theorem ahs(C:HF)(h:lf.l[j]?=M p):(jW j p i).length<=14:=aL (MG h).length_le (DT C)
theorem GO(n:k≠.n p):yF p ls k b d↔CL k b d:=⟨λh=>h.elim (λh=>ax h.1 n) λh=>h.2,λh=>.inr ⟨n,h⟩⟩
theorem GP:yF p ls (.n p) b d↔EN p ls b d:=⟨λh=>h.elim (λh=>h.2) λh=>ax Y h.1,λh=>.inl ⟨Y,h⟩⟩
theorem aht(C:HF)(cp:Co p):yF p (iS lf.l p) k b d↔CL k b d:=⟨λh=>h.elim (λh=>ak h.1 ((AM C.aC C.aD cp).mpr h.2)) λh=>h.2,λh=>(Classical.em (k=.n p)).elim (λe=>.inl ⟨e,(AM C.aC C.aD cp).mp (aj e h)⟩) λn=>.inr ⟨n,h⟩⟩
theorem jE.imp(L:jE ws G w)(h:∀k∈ws,∀b d,G k b d↔G' k b d):jE ws G' w:=⟨L.aI,L.aC,λk hk=>(L.aD k hk).imp λes e=>⟨e.1,e.2.1,λb d=>(e.2.2 b d).trans (h k hk b d)⟩,L.aG⟩
def uU(p:Nat)(v:Mp):Prop:=v 12=M (iV p)/\v 18=M (kI (.n p))/\v 19=M (.e (29,[dG (.n p)]))
section
variable{v:Mp} (hh:uU p v)
def uU.aC:=hh.1
def uU.aG:=hh.2.1
def uU.aD:=hh.2.2
end
inductive MI(j p k:Nat):QA
 |mk {v:Mp} {w:Hp} {t:Nat}:uU p v->jE (jW j p k) (yF p ((iS lf.l p).take k)) w->MI j p k (sW v w t)
structure qE where
 j:Nat
 p:Nat
 k:Nat
 q:Nat
 a:aP
 v:Mp
 w:Hp
 t:Nat
def qF(x:qE):Prop:=HF/\lf.l[x.j]?=M x.p/\(iS lf.l x.p)[x.k]?=M x.a/\Co x.q/\(x.p,x.a,x.q)∈lq.T/\uU x.p x.v/\x.v 13=M (.s x.a)/\jE (jW x.j x.p x.k) (yF x.p ((iS lf.l x.p).take x.k)) x.w
section
variable{x:qE} (hh:qF x)
def qF.bj:=hh.1
def qF.aC:=hh.2.1
def qF.aI:=hh.2.2.1
def qF.aT:=hh.2.2.2.1
def qF.aJ:=hh.2.2.2.2.1
def qF.aD:=hh.2.2.2.2.2.1
def qF.aG:=hh.2.2.2.2.2.2.1
def qF.bb:=hh.2.2.2.2.2.2.2
end
def MJ(x:qE):Prop:=∀G,WB 20 SR (Fw.lp (MI x.j x.p (x.k+1)) G) (sW x.v x.w x.t)
def gq:qE:=j9 ⟨0,0,0,0,lA,λa=>U,λa=>U,0⟩ qF MJ
abbrev tT:Kd:=.l gq.p gq.a
abbrev uV:Kd:=.n gq.p
abbrev gkd:V:=.i (-((nR (.e (gq.p,gq.a,gq.q))+1:Nat):Int))
variable{k:Nat}
section
variable{v:Mp}
theorem ahv:-(1+((n:Nat):Int))=-((n+1:Nat):Int):=by rw[ajM,Nt]
theorem ahw{a:Sx}(h:RE K a (.i (1+(n:Nat)))):RE K (.q a) (.i (-((n+1:Nat):Int))):=aj (ahv (n:=n)) (q9 h)
theorem VL{h:Hp}{ds:Es}{y z:V}{ai:QA}(rl:R.contains l.1=O)(hl:(mix R u h) l=M (.d ds))(kx:y.cn 7=O)(hz:ds.length<16777216)(q:ai ⟨m,mix R (u.aF l (.d (cC ds y z))) h,t⟩):SI (.e l) y z ai ⟨m,mix R u h,t⟩:=rj hl kx hz (by show ai ⟨m,(mix R u h).aF l _,t⟩;rw[bA rl];exact q)
theorem MK(C:HF)(k:Kd)(h:k.ok):∃es,lf.u (29,[dG k])=M (.d es)/\(es.map (·.1)).Nodup/\∀b d,(b,d)∈es↔CL k b d:=(C.aC.aD.bj _ _ (uT C.aC h)).imp λes e=>⟨(tQ C Y).trans e.1,e.2⟩
theorem ahx(h:b∉es.map (·.1)){b' d':V}:(b',d')∈cC es b d↔(b',d')∈es\/b'=b/\d'=d:=by rw[kW h,cD,bp];exact or_congr qf ⟨λe=>bS e,λe=>aj e.1 (aj e.2 Y)⟩
theorem ahy(n:(es.map (·.1)).Nodup):((cC es b d).map (·.1)).Nodup:=by
 rw[H8];by_cases c:b∈es.map (·.1)
 .rw[aw c];exact n
 .rw[av c];exact jX.mpr ⟨n,fQ.mpr ⟨(λh=>bw h),.nil⟩,λa ha b' hb e=>c (aj (bp.mp hb) (aj e ha))⟩
theorem ahz(X:qF gq):MJ gq:=λG=>by
 have C:=X.bj;have E:=C.aC
 have cp:=(C.aD _).mp (bE X.aC);have pm:=bE X.aC
 have rc:=wH E.aC.aC cp;have am:=bE X.aI
 have al:gq.a∈lets:=(iH.mp am).1;have ok:RI.ok (.e (gq.p,gq.a,gq.q)):=⟨X.aJ,rc⟩
 have kn:uV.ok:=cp;have kl:tT.ok:=⟨_,X.aJ,rc,X.aT⟩
 have F:TF 3 lq.T:=⟨E.aC.aC.aC.aG,E.aC.aC.aC.aC⟩;have VM:=ahr (j:=gq.j) X.aI
 have nd:=VJ (i:=gq.k+1) C X.aC;have yG:=VK (i:=gq.k+1) C X.aC
 rw[VM]at nd yG;obtain⟨cs,tG,nc,mc⟩:=MK C uV kn;have kc:bM cs (.s gq.a)=M (kI tT):=uL nc ((mc _ _).mpr ((AM E C.aD cp).mpr (.inr ⟨_,am,Y,Y⟩)))
 refine rB (fu (aE X.aG) du (um Y Y)) (λg=>?_) λ(e:V.s gq.a=V.s cG)=>ax (aj (str_inj e) al:cG∈lets) (ao Y);refine eF (dU (aE C.jq) (mF (a6 (aE X.aD.aC) (a6 (aE X.aG) br)) (by decide:2<=16777216)) (fG (l:=(61,[])) ((C.aG _ Y).trans E.aI) Y (pZ F X.aJ))) ?_
 refine cj (qj (re bW (Mz C (x:=.e (gq.p,gq.a,gq.q)) ok C.b6 (λl h=>h.elim (λe=>iw (by rw[e];rfl)) λe=>iw (by rw[e];rfl)) (wJ (ju E X.aT) (aE Y)) (a6 (wJ (ju E cp) (aE X.aD.aC)) (a6 (aE X.aG) br)) (o2 qk ?_))))
 show WB 20 _ _ ⟨aH (aH (aU ME gq.v DO) 20 (iV gq.q)) 21 (.i (1+(nR (.e (gq.p,gq.a,gq.q)):Nat))),(mix DN gq.w lf.u).aF (bz gq.t) _,gq.t+1⟩;rw[bH Y,bH Y,bA Y];generalize hv:aH (aH gq.v 20 _) 21 _=v;have Vv:uU gq.p v:=aj hv ⟨X.aD.aC,X.aD.aG,X.aD.aD⟩
 have wF:v 13=M (.s gq.a):=aj hv X.aG;have v20:v 20=M (iV gq.q):=aj hv Y
 have v21:v 21=M (.i (1+(nR (.e (gq.p,gq.a,gq.q)):Nat))):=aj hv Y;clear hv;generalize hw:gq.w.aF (bz gq.t) _=w;have L:jE (jW gq.j gq.p gq.k) (yF gq.p ((iS lf.l gq.p).take gq.k)) w:=aj hw ⟨X.bb.aI,X.bb.aC,X.bb.aD,X.bb.aG⟩
 clear hw;obtain⟨rs,r73,rn,rm⟩:=L.aD uV MH;have rk:∀e∈rs,e.1=.s cG\/∃a∈(iS lf.l gq.p).take gq.k,e.1=.s a:=λe he=>(GP.mp ((rm e.1 e.2).mp he)).imp (λh=>h.2.1) λh=>h.imp λa h=>⟨h.1,h.2.1⟩
 have kn':V.s gq.a∉rs.map (·.1):=λh=>by
  obtain⟨e,he,ea⟩:=bk.mp h;rcases rk e he with e1|⟨a',tC,e1⟩
  .exact ax (aj (str_inj (ea.symm.trans e1)) al:cG∈lets) (ao Y)
  .exact AE (CU.sublist yJ) X.aI (ak (str_inj (ea.symm.trans e1)) tC)
 have zr:rs.length<=4:=by
  rw[<-bc (f:=λe:V×V=>e.1)];refine Bn (k:=(cG::lets).map .s) rn λx hx=>?_;obtain⟨e,he,rfl⟩:=bk.mp hx;rcases rk e he with e1|⟨a',tC,e1⟩
  .exact ak e1 (.head _)
  .exact ak e1 (.tail _ (dw (iH.mp (uZ tC)).1))
 have nk:tT≠uV:=λe=>wN e Y;have DU:∀k∈jW gq.j gq.p gq.k,k≠tT:=λk h e=>(jX.mp nd).2.2 k h k (ak e (.head _)) Y
 have ML:=λk h=>yG k (cH _ h);have ndw:=(jX.mp nd).1
 have zw:=ahs (i:=gq.k) C X.aC;have MM:∀{m:Mp}{h:Hp}{t:Nat},m 19=M (.e (29,[dG uV]))->m 13=M (.s gq.a)->h (29,[dG uV])=M (.d cs)->RE ⟨m,h,t⟩ (.u (.v 19) (.v 13)) (kI tT):=λh1 h2 h3=>dU (aE h1) (aE h2) (fG (l:=(29,[dG uV])) h3 Y kc)
 refine Ko (l:=kL uV) Y (dU (aE Y) (aE Vv.aG) (fG (l:=(72,[])) L.aI Y (VG E ML ndw MH))) r73 (aE wF) (MM Vv.aD wF tG) Y (bF zr (ao Y)) ?_;refine fW (pE (VB C ((C.aD _).mpr X.aT) (l:=kL tT) (d:=gkd) (λl h=>iw (by
  rcases b0.mp (iT.mp h)with e|h
  .rw[e];rfl
  .rw[bp.mp h];rfl)) C.aT (aE v20) Y ((aQ (GN E kl kn nk)).trans (L.aG _ λk h e=>AN E (ML k h) kl (DU k h) e)) Y (λes a=>ahw (aE v21)) ?_))
 rw[bA Y];refine re (aE Y) (re (MM Vv.aD wF tG) (VL (l:=(72,[])) Y L.aI Y ?_ ?_))
 .rw[oB,bc];exact bF zw (ao Y)
 refine ny (l:=(74,[])) Y Y (aE Y) L.aC (MM Vv.aD wF tG) ?_ (aO (aO (.mk Vv ?_)))
 .rw[bc];exact bF zw (ao Y)
 rw[VM];have o:∀k∈jW gq.j gq.p gq.k++[tT],k≠tT->kL k≠kL tT:=λk h n=>GN E (yG k h) kl n
 refine jE.eH E yG nd (vZ (bf Y)) a4 (λk' DV=>?_) λi hi=>?_
 .by_cases c:k'=tT
  .subst c;refine⟨_,a4,?_,λb d=>?_⟩
   .rw[fA];exact md.mpr (GK.imp λne e=>ne (str_inj e))
   .exact bk.trans (((exists_congr λa=>and_congr qf ⟨λe=>⟨(bS e).1.symm,(bS e).2.symm⟩,λe=>je e.1.symm e.2.symm⟩).trans (ag8 E C.aD X.aJ rc X.aT).symm).trans (GO nk).symm)
  .have hw:=(cD.mp DV).resolve_right λh=>c (bp.mp h);by_cases c':k'=uV
   .subst c';refine⟨_,(aQ (o _ DV c)).trans a4,ahy rn,λb d=>?_⟩;rw[ahx kn',rm,GP,GP,EN,EN,take_snoc X.aI,or_assoc];refine or_congr qf ⟨λh=>h.elim (λh=>h.imp λa h=>⟨cH _ h.1,h.2⟩) λh=>⟨_,cZ _ (.head _),h⟩,λh=>h.elim λa h=>(cD.mp h.1).imp (λm=>⟨a,m,h.2⟩) λm=>show b=V.s gq.a/\d=kI (.l gq.p gq.a) from aj (bp.mp m:a=gq.a) h.2⟩
   .exact(L.aD k' hw).imp λes e=>⟨(aQ (o _ DV c)).trans ((aQ (GN E (ML _ hw) kn c')).trans e.1),e.2.1,λb d=>(e.2.2 b d).trans ((GO c').trans (GO c').symm)⟩
 .exact(aQ (jQ (hi _ (cZ _ (.head _))).symm)).trans ((aQ (jQ (hi _ (cH _ MH)).symm)).trans (L.aG i λk h=>hi k (cH _ h)))
end
inductive AO(j:Nat):QA
 |mk {v:Mp} {w:Hp} {t:Nat}:jE (iE j) CL w->AO j (sW v w t)
def rU(x:qE):Prop:=HF/\lf.l[x.j]?=M x.p/\x.v 12=M (iV x.p)/\jE (iE x.j) CL x.w
section
variable{x:qE} (hh:rU x)
def rU.aD:=hh.1
def rU.aC:=hh.2.1
def rU.aG:=hh.2.2.1
def rU.aI:=hh.2.2.2
end
def MN(x:qE):Prop:=∀G,WB 20 CA (Fw.lp (AO (x.j+1)) G) (sW x.v x.w x.t)
def hq:qE:=j9 ⟨0,0,0,0,lA,λa=>U,λa=>U,0⟩ rU MN
abbrev lG:Kd:=.n hq.p
def yH:Es:=if hq.p∈lq.es then [(.s cG,.i (-((nR (.s hq.p)+1:Nat):Int)))]else []
variable{G:QF}
section
variable{v:Mp}
theorem ahE(X:rU hq)(V1:uU hq.p v)(gy:v 12=M (iV hq.p))(L:jE (jW hq.j hq.p 0) (yF hq.p []) w):WB 20 (Sx.dD 5 CA) (Fw.lp (AO (hq.j+1)) G) (sW v w t):=by
 have C:=X.aD;have E:=C.aC
 have pm:=bE X.aC;have cp:=(C.aD _).mp pm
 have rc:=wH E.aC.aC cp;have big:∀{k:Nat},(iS lf.l hq.p).length<=k->(iS lf.l hq.p).take k=iS lf.l hq.p:=λh=>yI h
 refine gw (l:=(71,[hq.p,1])) ((jt lf.l hq.p).map .s) (MI hq.j hq.p) (dU (aE C.aT) (aE gy) (fG (l:=(70,[])) C.dC Y (MB C pm))) (λj K J=>by cases J;exact C.cF _ pm) (.mk V1 L) (λk x K hx J=>?_) λK J=>?_
 .obtain⟨a,ha,rfl⟩:=dA hx;cases J with|@mk v w t V1 L=>?_
  refine dP Y ?_;rcases Nat.lt_or_ge k (iS lf.l hq.p).length with lt|ge
  .rw[jt,AQ lt]at ha;obtain⟨_,q,cq,hT⟩:=(AK C.aD).mp (bE ha);exact mJ (w:=⟨0,0,0,0,lA,λf=>U,λf=>U,0⟩) (P:=qF) (R:=MJ) ahz (x:=⟨hq.j,hq.p,k,q,a,aH v 13 (.s a),w,t⟩) ⟨C,X.aC,ha,cq,hT,⟨V1.aC,V1.aG,V1.aD⟩,Y,L⟩ _
  .rw[jt,aiI ge]at ha;have e:a=cG:=by
    by_cases c:hq.p∈lq.es
    .rw[aw c]at ha;exact bp.mp (bE ha)
    .rw[av c]at ha;exact cK ha
   refine Tj (fu (aE Y) du (um Y Y)) (aq V.s e) (aO (.mk ⟨V1.aC,V1.aG,V1.aD⟩ ?_));rw[jW,big (p9 ge)];rw[jW,big ge]at L;exact L
 .cases J with|@mk v w t V1 L=>?_
  have z:(iS lf.l hq.p).length<=((jt lf.l hq.p).map V.s).length:=by rw[bc,jt,dW];exact mR _ _
  rw[jW,big z]at L;refine aO (.mk ?_);rw[VI X.aC,jW,e7];exact L.imp λk hk b d=>aht C cp
theorem ahF(X:rU hq){cs:Es}(nc:(cs.map (·.1)).Nodup)(mc:∀b d,(b,d)∈cs↔CL lG b d):∃ss:Ss,cs.map (·.1)=ss.map .s/\ss.Perm (jt lf.l hq.p):=by
 have C:=X.aD;have cp:=(C.aD _).mp (bE X.aC)
 have m:∀b,b∈cs.map (·.1)↔∃a∈jt lf.l hq.p,b=.s a:=λb=>⟨λh=>by
  obtain⟨e,he,rfl⟩:=bk.mp h;rcases(AM C.aC C.aD cp).mp ((mc e.1 e.2).mp he)with⟨c,e1,_⟩|⟨a,ha,e1,_⟩
  .exact⟨_,cZ _ (by rw[aw c];exact .head _),e1⟩
  .exact⟨a,cH _ ha,e1⟩,λh=>by
  obtain⟨a,ha,rfl⟩:=h;have go:∀{d},CL lG (.s a) d->V.s a∈cs.map (·.1):=λh=>dw (f:=(·.1)) ((mc _ _).mpr h)
  rcases cD.mp ha with ha|ha
  .exact go ((AM C.aC C.aD cp).mpr (.inr ⟨a,ha,Y,Y⟩))
  .by_cases c:hq.p∈lq.es
   .rw[aw c]at ha;exact go ((AM C.aC C.aD cp).mpr (.inl ⟨c,aq V.s (bp.mp ha),Y⟩))
   .rw[av c]at ha;exact bw ha⟩
 obtain⟨ss,e⟩:=Vz (l:=cs.map (·.1)) λk hk=>((m k).mp hk).imp λa h=>h.2;rw[e]at nc;refine⟨ss,e,(MZ ((md.mp nc).imp λne e=>ne (aq V.s e)) GK).mpr λs=>?_⟩;have m:=m (.s s)
 rw[e]at m;exact⟨λh=>(m.mp (dw h)).elim λa k=>ak (str_inj k.2) k.1,λh=>(bk.mp (m.mpr ⟨s,h,Y⟩)).elim λx k=>aj (str_inj k.2) k.1⟩
end
section
variable{v:Mp}
theorem ahG:R2 K (pB .Sub) (.i (-1)) (.i (n:Nat)) (.i (-((n+1:Nat):Int))):=by rw[<-VA];exact vH
theorem ahH:(b,d)∈yH↔EN hq.p [] b d:=by
 unfold yH EN;by_cases c:hq.p∈lq.es
 .rw[aw c];exact⟨λh=>.inl ⟨c,bS (bp.mp h)⟩,λh=>h.elim (λh=>bp.mpr (je h.2.1 h.2.2)) λh=>h.elim λa h=>ax h.1 qJ⟩
 .rw[av c];exact⟨λh=>ax h qJ,λh=>h.elim (λh=>ax h.1 c) λh=>h.elim λa h=>ax h.1 qJ⟩
theorem ahI:(yH.map (·.1)).Nodup:=by
 unfold yH;by_cases c:hq.p∈lq.es
 .rw[aw c];exact fQ.mpr ⟨qJ,.nil⟩
 .rw[av c];exact .nil
theorem ahJ(X:rU hq)(V1:uU hq.p v)(L:jE (iE hq.j) CL w')(e72:w (72,[])=w' (72,[]))(MO:∀i,w (73,[i])=w' (73,[i]))(e74:w (74,[])=M (.l ((iE hq.j).map kI++[kI lG]))):WB 20 (Sx.dD 4 CA) (Fw.lp (AO (hq.j+1)) G) (sW v w t):=by
 have C:=X.aD;have E:=C.aC
 have cp:=(C.aD _).mp (bE X.aC);have kn:lG.ok:=cp
 have e0:jW hq.j hq.p 0=iE hq.j++[lG]:=hY _;have nd:=VJ (i:=0) C X.aC
 have yG:=VK (i:=0) C X.aC;rw[e0]at nd yG;have DU:∀k∈iE hq.j,k≠lG:=λk h e=>(jX.mp nd).2.2 k h k (aj e (.head _)) Y
 have KL:∀k∈iE hq.j,kL k≠kL lG:=λk h=>GN E (wO C h) kn (DU k h);have zd:(oB (iE hq.j)).length<16777216:=by rw[oB,bc];exact bF (DT C) (ao Y)
 have fr:w (kL lG)=U:=(MO _).trans (L.aG _ λk h e=>AN E (wO C h) kn (DU k h) e);have fin:∀{u:Hp} {t},u (kL lG)=M (.d yH)->(∀i,(73,[i])≠kL lG->u (73,[i])=w (73,[i]))->u (72,[])=w (72,[])->u (74,[])=w (74,[])->SI (.e (72,[])) (kI lG) (.e (kL lG)) (WB 20 (Sx.dD 5 CA) (Fw.lp (AO (hq.j+1)) G)) (sW v u t):=λ{u t} h0 h1 h2 h3=>VL (l:=(72,[])) Y (h2.trans (e72.trans L.aI)) Y zd (ahE X V1 V1.aC (e0▸jE.eH E yG nd a4 ((aQ (bf Y)).trans (h3.trans e74)) (λk' DV=>by
  rcases cD.mp DV with hk|hk
  .exact(L.aD k' hk).imp λes e=>⟨(aQ (bf Y)).trans ((h1 _ (KL k' hk)).trans ((MO _).trans e.1)),e.2.1,λb d=>(e.2.2 b d).trans (GO (DU k' hk)).symm⟩
  .rw[bp.mp hk];exact⟨_,(aQ (bf Y)).trans h0,ahI,λb d=>ahH.trans GP.symm⟩) λi hi=>(aQ (bf Y)).trans ((h1 i (jQ (hi _ (cZ _ (.head _))).symm)).trans ((MO i).trans (L.aG i λk h=>hi k (cH _ h))))))
 refine fW (pE (Fb (wk (l:=lq.eL) (aE V1.aC) (aE C.eO) ((iw (by rw[E.aC.aC.aD.aC];rfl)).trans ((C.aG _ (by rw[E.aC.aC.aD.aC];rfl)).trans E.aJ)) (λy h=>(bk.mp h).elim λx k=>aj k.2 Y) Y _ _ ?_)))
 by_cases c:hq.p∈lq.es
 .have eD:yH=[(.s cG,.i (-((nR (.s hq.p)+1:Nat):Int)))]:=aw c;refine rz (az (dw c)) (Jz (FH Jy) (AB (kL lG) Y Y fr (FG (re du (qj (re (q9 bW) (Mz C (x:=.s hq.p) c C.b6 (λl h=>h.elim (λe=>iw (by rw[e];rfl)) λe=>iw (by rw[e];rfl)) du (a6 (wJ (ju E cp) (aE V1.aC)) br) (o2 ahG (Jx ⟨kL lG,Y,a4,λe h=>ak (bp.mp h) Y,(by decide:1<=16777216),?_⟩)))))))))
  show WE 20 _ _ ⟨_,((mix DN _ lf.u).aF (bz t) _).aF (kL lG) _,_⟩;rw[bA Y,bA Y];exact re (aE Y) (re (aE V1.aG) (fin (ak eD a4) (λi h=>(aQ h).trans ((aQ (bf Y)).trans (aQ h))) Y Y))
 .have eD:yH=[]:=av c;exact oV (λe=>c ((bk.mp (aB e)).elim λx k=>aj (jv (jR k.2):x=hq.p) k.1)) (kP (AB (kL lG) Y Y fr (re (aE Y) (re (aE V1.aG) (fin (aj eD a4) (λi h=>aQ h) Y Y)))))
end
section
variable{v:Mp}
theorem MP(E:cY le){k:Kd}(h:k.ok):dG k<le.c.length:=(cV.mp (uT E h)).1
theorem ahM(X:rU hq):MN hq:=λG=>by
 have C:=X.aD;have E:=C.aC
 have pm:=bE X.aC;have cp:=(C.aD _).mp pm
 have kn:lG.ok:=cp;obtain⟨es,mM,nd,me⟩:=GH E;obtain⟨cs,tG,nc,mc⟩:=MK C lG kn;obtain⟨ss,e1,p1⟩:=ahF X nc mc;have yE:∃c,lf.u (20,[])=M (.i 6 (aH F0 37 c)):=E.aD.aD.imp λc h=>(C.aG _ Y).trans h
 refine eF (dU (aE Y) (wJ (ju E cp) (aE X.aG)) (fG (l:=(30,[0])) ((tQ C Y).trans mM) Y (ahk E nd me cp))) ?_;refine dP Y ?_;refine ny (l:=(74,[])) Y Y (aE Y) X.aI.aC (aE Y) (by rw[bc];exact bF (DT C) (ao Y)) ?_
 refine eF (dU (ra (l:=(20,[])) (aE C.aJ) yE.choose_spec Y Y) (aE Y) (fG (l:=(23,[])) ((C.aG _ Y).trans E.aD.aJ) Y (My (MP E kn)))) ?_;refine dP Y ?_;refine d7 (oT (uk (mG Y (rl (a6 (aE Y) br) (Q2 (l:=(29,[dG lG])) tG e1 (ak p1.length_eq (bF MA (ao Y))) λs1 q1 o1=>qC Y (mG Y (rl (a6 (dU (aE C.aT) (aE X.aG) (fG (l:=(70,[])) C.dC Y (MB C pm))) br) (QM (l:=(71,[hq.p,1])) (C.cF _ pm) (bF MA (ao Y)) λs2 q2 o2=>qC Y ?_))))))));obtain rfl:=Vy (q1.trans (p1.trans q2.symm)) o1 o2;exact⟨Z,Mu (vs:=s1.map .s) ((aQ λe=>Nj _ (bY (bS e).2).1.symm).trans a4) a4 (λy h=>(bk.mp h).elim λx k=>aj k.2 Y),oV (λe=>cw e) (aO (ahJ X ⟨X.aG,Y,Y⟩ X.aI Y (λi=>Y) ((aQ (bf Y)).trans (vZ (bf Y)))))⟩
theorem ahN(C:HF)(L:jE (iE 0) CL w)(q:∀v w t,jE (iE lf.l.length) CL w->WB 20 (Sx.dD 16 i7) (Rt ph) (sW v w t)):WB 20 (Sx.dD 15 i7) (Rt ph) (sW v w t):=by
 refine gw (l:=(69,[])) (lf.l.map iV) AO (aE C.bj) (λj K J=>by cases J;exact C.bb) (.mk L) (λj x K hx J=>?_) λK J=>?_
 .obtain⟨p,hp,rfl⟩:=dA hx;cases J with|@mk v w t L=>?_
  exact dP Y (mJ (w:=⟨0,0,0,0,lA,λa=>U,λa=>U,0⟩) (P:=rU) (R:=MN) ahM (x:=⟨j,p,0,0,lA,aH v 12 (iV p),w,t⟩) ⟨C,hp,Y,L⟩ _)
 .rw[bc]at J;cases J with|mk L=>exact q _ _ _ L
end
abbrev qG:List Kd:=iE lf.l.length
def uW(x:qE):Prop:=HF/\jE qG CL x.w
section
variable{x:qE} (hh:uW x)
def uW.aD:=hh.1
def uW.aC:=hh.2
end
def MQ(x:qE):Prop:=WB 20 (Sx.dD 16 i7) (Rt ph) (sW x.v x.w x.t)
def iq:qE:=j9 ⟨0,0,0,0,lA,λa=>U,λa=>U,0⟩ uW MQ
inductive VN(j:Nat):QA
 |mk {v:Mp} {w:Hp} {t:Nat}:(∀l:Loc,l.1≠99->w l=iq.w l)->w (bz (iq.t+2))=M (.l ((qG.map kI).drop 1))->iq.t+2<t->VN j (sW v w t)
section
variable{v:Mp}
theorem VO(C:HF):(qG.map dG).Perm (iW le.c.length):=by
 have E:=C.aC;refine(MZ (md.mpr ((GL C).imp_of_mem λha hb n=>AN E (wO C ha) (wO C hb) n)) Ww).mpr λj=>⟨λh=>?_,λh=>?_⟩
 .obtain⟨k,hk,rfl⟩:=bk.mp h;exact gY.mpr (MP E (wO C hk))
 .obtain⟨c,hc⟩:=lW (gY.mp h);obtain⟨k,ok,rfl⟩:=cls E (bE hc);exact ak (AJ E ok hc) (dw (MF C ok))
theorem MR(C:HF):qG.length=le.c.length:=by have e:=(VO C).length_eq;rw[bc,iU]at e;exact e
theorem ahO{k:Kd}(h:CL k b d):d.cn 7=O:=h.elim λy h=>h.2.elim (λh=>ak h.2.2.2 Y) λh=>h.elim (λh=>ak h.2.2.2 Y) λh=>h.elim λa h=>h.elim λi h=>ak h.2.2.2.2 Y
theorem VP(n:(es.map (·.1)).Nodup):es.Nodup:=(md.mp n).imp λne e=>ne (aq dQ e)
theorem ahP(n:(es.map (·.1)).Nodup)(n':(bO.map (·.1)).Nodup)(h:∀b d,(b,d)∈es↔(b,d)∈bO)(k:∀b d,(b,d)∈es->d.cn 7=O):DK es bO:=⟨((MZ (VP n) (VP n')).mpr λe=>h e.1 e.2).length_eq,λe he=>⟨uL n' ((h _ _).mp he),k _ _ he⟩⟩
theorem yE(C:HF):∃c,lf.u (20,[])=M (.i 6 (aH F0 37 c)):=C.aC.aD.aD.imp λc h=>(C.aG _ Y).trans h
theorem GJ(C:HF):lf.u (25,[])=M (.d (l7 30 le.c.length)):=(C.aG _ Y).trans C.aC.aD.aG
theorem ahQ(X:uW iq)(o:w (74,[])=iq.w (74,[])):WB 20 (Sx.dD 18 i7) (Rt ph) (sW v w t):=by
 have C:=X.aD;have f:=(yE C).choose_spec
 refine CD (Q5 (JA (E3 (re (CG (ra (l:=(20,[])) (aE C.aJ) f Y Y) λn Q q=>Zj (l:=(25,[])) (GJ C) q) (re (vX (l:=(74,[])) (aE Y) (o.trans X.aC.aC)) ⟨_,pD Y Y,_,mE,?_⟩)))));rw[show(l7 30 le.c.length).length=le.c.length from(bc ..).trans iU,bc,MR C,az Y]
 refine rz Y (JA (E3 (re (ra (l:=(20,[])) (aE C.aJ) f Y Y) (fw (rl br ⟨b7 _,qC Y ⟨_,Vk (l:=(27,[])) ((C.aG _ Y).trans C.aC.aD.aT) a4 (λy h=>ax h qJ),_,mE,rz Y (Q6 (E3 (re (ra (l:=(20,[])) (aE C.aJ) f Y Y) (fw (rl br ⟨b7 _,qC Y ⟨_,Vk (l:=(28,[])) ((C.aG _ Y).trans C.aC.aD.bb) a4 (λy h=>ax h qJ),Y⟩⟩)))))⟩⟩)))))
theorem ahR(X:uW iq)(o:∀l:Loc,l.1≠99->w l=iq.w l):WB 20 (Sx.dD 17 i7) (Rt ph) (sW v w (iq.t+2)):=by
 have C:=X.aD;have E:=C.aC
 have st:=(o (74,[]) (ao Y)).trans X.aC.aC;refine d7 (kO (oi (zT (re (aE Y) (re bW (.inl ⟨(74,[]),_,1,Y,Y,st,by rw[bc];exact aL (DT C) (ao Y),qC Y (mH (l:=bz (iq.t+2)) a4 ?_)⟩))))))
 rw[KJ (n:=(qG.map kI).length) (fJ (b7 _))];refine lV (tg:=.v 18) ((qG.map kI).drop 1) VN (λi K J=>by cases J with|mk _ h=>exact⟨_,h,Y⟩) (.mk (λl h=>(aQ λe=>h (aq dQ e)).trans (o l h)) a4 (jd _)) (λj x K hx J=>?_) λK J=>?_
 .cases J with|@mk v w t o h lt=>?_
  obtain⟨k,hk,rfl⟩:=bk.mp (show x∈qG.tail.map kI from bE hx)
  have ok:k.ok:=wO C (List.mem_of_mem_tail hk);have mM:lf.u (30,[dG k])=M (.d []):=(C.aG _ Y).trans ((E.aD.aI _ _ (uT E ok)).elim λes e=>e.1.trans (aq (λx=>M (af.d x)) (List.eq_nil_iff_forall_not_mem.mpr λa h=>((e.2.2 a.1 a.2).mp h).elim λA h=>h.elim λi h=>h.2.2.2.1 (aha E ok (λc=>(fQ.mp (GL C)).1 (aj c hk)) h.2.2.1))))
  refine dP Y (Kr (uk (re (dU (ra (l:=(20,[])) (aE C.aJ) (yE C).choose_spec Y Y) (aE Y) (fG (l:=(25,[])) (GJ C) Y (My (MP E ok)))) (kP (qC Y ⟨Z,agW (l:=(30,[dG k])) mM a4 ⟨Y,λe h=>ax h qJ⟩,Y,aO (.mk (λl h=>(aQ λe=>h (aq dQ e)).trans (o l h)) ((aQ λe=>gZ lt (bY (bS e).2).1).trans h) (qI lt))⟩)))))
 .cases J with|mk o=>exact aO (ahQ X (o (74,[]) (ao Y)))
end
section
variable{v:Mp}
theorem ahS(X:uW iq)(o:∀l:Loc,l.1≠99->w l=iq.w l):∀e∈l7 29 le.c.length,∃m m' fs wL,e.2=.e m/\bM (oB qG) e.1=M (.e m')/\hW w m=M (.d fs)/\hW w m'=M (.d wL)/\m.1≠0/\m'.1≠0/\DK fs wL:=λe he=>by
 have C:=X.aD;have E:=C.aC
 obtain⟨j,hj,rfl⟩:=bk.mp he;obtain⟨c,hc⟩:=lW (gY.mp hj);obtain⟨k,ok,rfl⟩:=cls E (bE hc);obtain rfl:=AJ E ok hc;obtain⟨fs,tG,n1,m1⟩:=MK C k ok;obtain⟨wL,h73,n2,m2⟩:=X.aC.aD k (MF C ok);exact⟨(29,[dG k]),kL k,fs,wL,Y,VG E (λk h=>wO C h) (GL C) (MF C ok),tG,(o (kL k) (by decide:(73:Nat)≠99)).trans h73,(by decide:(29:Nat)≠0),(by decide:(73:Nat)≠0),ahP n1 n2 (λb d=>(m1 b d).trans (m2 b d).symm) λb d h=>ahO ((m1 b d).mp h)⟩
theorem ahU(X:uW iq):MQ iq:=by
 have C:=X.aD;have E:=C.aC
 have f:=(yE C).choose_spec;have e1:qG.map kI=(qG.map λk=>((dG k:Nat):Int)).map .i:=fA.symm
 have z:=bF (DT (j:=lf.l.length) C) (by decide:14<64)
 refine d7 (oT (vL (vK (uk (mG Y (rl (a6 (aE Y) br) (aaG (l:=(74,[])) (X.aC.aC.trans (aq (λx=>M (af.l x)) e1)) (by rw[bc];exact z) λjs p1 o1=>qC Y (aa5 (re (vX (l:=(74,[])) (aE Y) X.aC.aC) ⟨_,Y,by rw[bc];exact aL (gB z) (ao Y),qC Y ⟨Z,?_,?_⟩⟩)))))))))
 .have e2:js=(iW (qG.map kI).length).map (λi:Nat=>(i:Int)):=ahc (p1.trans (by rw[bc,MR C];exact aj (fA (f:=dG) (g:=λi:Nat=>(i:Int))) ((VO C).map _))) o1 (md.mpr (List.pairwise_le_range.imp λh=>qc.mpr h))
  rw[e2];exact Mu (vs:=((iW (qG.map kI).length).map λi:Nat=>(i:Int)).map .i) (vZ λe=>Nj _ (bY (bS e).2).1.symm) (a4.trans (aq (λx=>M (af.l x)) fA.symm)) λy h=>(bk.mp h).elim λx k=>aj k.2 Y
 .refine rz Y (vK (uk (re (ra (l:=(20,[])) (aE C.aJ) f Y Y) (re (aE Y) ⟨Z,agX (l:=(23,[])) (l':=(72,[])) ((C.aG _ Y).trans E.aD.aJ) X.aC.aI ?_ (ahS (w:=(iq.w.aF (bz iq.t) _).aF (bz (iq.t+1)) _) X λl h=>(aQ λe=>h (aq dQ e)).trans (aQ λe=>h (aq dQ e))),rz Y (ID (oV (λe=>cw e) (aO (ahR X ?_))))⟩))))
  .rw[oB,bc,bc,iU,MR C]
  .exactλl h=>(aQ λe=>h (aq dQ e)).trans (aQ λe=>h (aq dQ e))
end
section
variable{v:Mp}
theorem ahV{h:Hp}(o:∀l:Loc,R.contains l.1=Z->w l=h l):w=mix R w h:=funext λl=>by
 unfold mix;cases e:R.contains l.1
 .exact o l e
 .rfl
theorem ahW(C:HF):DD lf:=ahg C λw t o=>by
 have E:=C.aC;obtain⟨es,mM,nd,me⟩:=GH E;have mM:=(tQ C Y:lf.u (30,[0])=_).trans mM
 refine ahh (m:=aH lf.m 14 (.e (30,[0]))) C o C.b6 λw t o=>ahl C o C.aT Y Y λw' hw=>aho C (es:=es) ?_ (VE E nd me) Y ?_ ?_
 .rw[hw];exact(o _ (by decide:(30:Nat)≠99)).trans mM
 .rw[hw];exact(o _ (by decide:(74:Nat)≠99)).trans ((tQ C Y).trans (E.aG _ _ Y))
 .have f:∀i,w (73,[i])=U:=λi=>(o _ (by decide:(73:Nat)≠99)).trans ((tQ C Y).trans (E.aG _ _ Y))
  have ne:((73,[0]):Loc)≠kL .s:=jQ (MC E).symm;have z0:kL .z=(73,[0]):=aq (λi=>((73,[i]):Loc)) (DM E)
  have w2:∀i,((73,[i]):Loc)≠(73,[0])->((73,[i]):Loc)≠kL .s->w' (73,[i])=U:=λi h1 h2=>ak hw ((aQ (bf Y)).trans ((aQ h2).trans ((aQ h1).trans ((aQ (bf Y)).trans (f i)))));have L:jE (iE 0) CL (w'.aF (74,[]) (.l ((iE 0).map kI))):=⟨(aQ (bf Y)).trans (by rw[hw,a4];show _=M (af.d [(kI .z,.e (kL .z)),(kI .s,.e (kL .s))]);rw[z0,kI,DM E];rfl),a4,λk hk=>?_,λi hi=>(aQ (bf Y)).trans (w2 i (jQ λe=>hi .z (.head _) ((DM E).trans e.symm)) (jQ λe=>hi .s (.tail _ (.head _)) e.symm))⟩
  .have e:(⟨aH (aH (aH (aH lf.m 14 (.e (30,[0]))) 15 (.i (-((nR .z+1:Nat):Int)))) 16 (.e (72,[]))) 17 (.e (74,[])),w'.aF (74,[]) (.l ((iE 0).map kI)),t⟩:AS)=sW DO (w'.aF (74,[]) (.l ((iE 0).map kI))) t:=by
    show _=(⟨aU ME DO DO,mix DN (w'.aF (74,[]) (.l ((iE 0).map kI))) lf.u,t⟩:AS);rw[<-gH,<-ahV λl h=>?_];rfl;have q:∀{k y},DN.contains k=O->l≠(k,y):=λh' e=>by rw[e,h']at h;exact cw h
    rw[hw];exact(aQ (q Y)).trans ((aQ (q Y)).trans ((aQ (q Y)).trans ((aQ (q Y)).trans ((aQ (q Y)).trans (o l λe=>by rw[e]at h;exact cw h)))))
   exact ak e (ahN C L λv w t L=>mJ (w:=⟨0,0,0,0,lA,λc=>U,λc=>U,0⟩) (P:=uW) (R:=MQ) ahU (x:=⟨0,0,0,0,lA,v,w,t⟩) ⟨C,L⟩)
  .rcases b0.mp hk with rfl|hk
   .rw[z0];exact⟨_,(aQ (bf Y)).trans (ak hw ((aQ (bf Y)).trans ((aQ ne).trans a4))),by rw[fA];exact md.mpr (GK.imp λne e=>ne (str_inj e)),λb d=>bk.trans ((exists_congr λa=>and_congr qf ⟨λe=>⟨(bS e).1.symm,(bS e).2.symm⟩,λe=>je e.1.symm e.2.symm⟩).trans (ag7 E C.aD).symm)⟩
   .obtain rfl:k=.s:=bp.mp hk;exact⟨[(.s cG,.i 0)],(aQ (bf Y)).trans (ak hw (vZ (bf Y))),fQ.mpr ⟨qJ,.nil⟩,λb d=>bp.trans ⟨λe=>(Mx E).mpr (bS e),λh=>je ((Mx E).mp h).1 ((Mx E).mp h).2⟩⟩
end
noncomputable def g0:Gx:=⟨[],[]⟩
def pv:Hp:=λl=>if l=(0,[0])then M (.l (lH.map .i))else if l=gu then M (.fz g0)else if l=(50,[])then M (.t 391 #[])else if l=(51,[])then M (.t 398 #[])else U
theorem GQ{L:Nl}(s:R.all L.contains=O)(h:L.contains k=Z):R.contains k=Z:=vf.mpr λe=>d8 (h.symm.trans (qa.mp s k (iT.mp e)))
theorem ahX(H:HQ):Mi lq:=by
 have fr:∀{k y},[0,50,51,60,61,63,64,65,99].contains k=Z->lq.u (k,y)=U:=λh=>H.aG _ _ h;refine cj (kM (rl (a6 (aE Y) (a6 (aE Y) (a6 (aE Y) (a6 (aE Y) br)))) (bI.o (agC (x:=⟨18,lq.u,lq.t,_⟩) ⟨H,H.aD.aJ,H.aD.aD,H.aD.aG,H.aD.aI,λk y h=>?_,λL l w t nd ok ri hl=>?_⟩))))
 .exact H.aG k y ((by decide:∀k∈[66,67,68],[0,50,51,60,61,63,64,65,99].contains k=Z) k (iT.mp h))
 .refine mJ (w:=⟨[],[],[],(0,[]),[],[],λa=>U,0⟩) (P:=nH) (R:=Mn) (agJ (agT ahW)) (x:=⟨[],[],[],(0,[]),L,l,mix rR w lq.u,t⟩) ⟨H,nd,ok,λx hx=>?_,hl,H.aD.aD,H.aD.aG,(iw (by rw[H.aD.aC];rfl)).trans H.aD.aI,λk y h=>?_,H.aT,H.aJ,H.aI⟩
  .have e:=ri x hx;cases x<;>exact e
  .exact(iw (GQ Y h)).trans (fr (GQ (L:=[0,50,51,60,61,63,64,65,66,67,68,99]) Y h))
theorem ahY:mW n 24<=24:=Int.toNat_le.mpr (Int.max_le.mpr ⟨ao Y,Int.min_le_left _ _⟩)
theorem ahZ{i:Int}:R2 K (pB .Mod) (.i i) (.i 720720) (iV (i.fmod 720720).toNat):=by rw[iV,ajm (ai6 i (ao Y))];exact Iy (ao Y)
theorem ah0(tp:tH u)(fr:∀k y,[0,50,51,60,99].contains k=Z->u (k,y)=U)(fz:∃g,u gu=M (.fz g))(t50:u (50,[])=M (.t 391 #[]))(t51:u (51,[])=M (.t 398 #[])):WB 20 (Sx.dD 1 i7) (Rt ph) ⟨aH (λi=>([V.e (0,[0])]++[])[i]?) 1 (.e (60,[])),u,t⟩:=
 fW (Fg (kM (rl (a6 (aE Y) br) (bI.o (ags (x:=⟨18,u,t,_⟩) ⟨tp,λk y h=>fr k y ((by decide:∀k∈[61,63,64,65],[0,50,51,60,99].contains k=Z) k (iT.mp h)),λT rc es eL w t au wa=>⟨_,Y,Y,mJ (w:=⟨[],[],[],(0,[]),[],[],λa=>U,0⟩) (P:=tI) (R:=Mi) ahX (x:=⟨T,rc,es,eL,[],[],mix uS w u,t⟩) ⟨au,⟨wa.aJ,wa.aD,wa.aG,(Ar (by rw[wa.aC];rfl)).trans wa.aI,wa.aC⟩,λk y h=>(iw (GQ Y h)).trans (fr k y (GQ (L:=[0,50,51,60,61,63,64,65,99]) Y h)),fz,t50,t51⟩⟩⟩)))))
theorem ah3(z:lH.length<=63):WB 20 i7 (Rt ph) ⟨λi=>([V.e (0,[0])]++[])[i]?,pv,0⟩:=by
 have fm:∀i:Int,0<=i.fmod 720720/\i.fmod 720720<720720:=λi=>⟨ai6 i (ao Y),Int.fmod_lt_of_pos i (ao Y)⟩;have zl:(lH.map V.i).length<=63:=by rw[bc];exact z
 refine fW (Jo (QQ (re (aE Y) (re bW ⟨(0,[0]),_,24,Y,Y,(aw Y:pv (0,[0])=M (.l (lH.map .i))),aL zl (ao Y),kC ?_⟩))));show IB Z ⟨_,pv.aF (bz 0) (.l ((lH.map V.i).take (mW (lH.map V.i).length 24))),1⟩ (.e (bz 0)) _;rw[<-Ee];generalize hc:mW (lH.map V.i).length 24=c;have VQ:c<=24:=aj hc ahY
 refine mH (l:=bz 0) (vs:=(lH.take c).map .i) (a4 (h:=pv) (l:=bz 0) (o:=.l ((lH.take c).map .i))) (Mt (l:=(60,[])) (lH.take c) .i (λi=>M (iV (i.fmod 720720).toNat)) (.inr ⟨(by decide:(60:Nat)≠0),(by decide:(60:Nat)≠99),Y,Y⟩) (λys i=>⟨_,vZ (h:=pv) (l':=bz 0) (ob:=.l ((lH.take c).map .i)) (bf Y),Y⟩) (λa ha ys ai le k=>?_) ?_)
 .refine F5 (by decide:(60:Nat)≠0) (bF (aL le (aL (M' ..) VQ)) (ao Y)) (jC (aE Y) bW ahZ) k
 .rw[show(lH.take c).filterMap (λi=>M (iV (i.fmod 720720).toNat))=((lH.take c).map λi:Int=>(i.fmod 720720).toNat).map iV by rw[fA];exact congrFun M7 _]
  refine ah0 (u:=(pv.aF (bz 0) (.l ((lH.take c).map .i))).aF (60,[]) (.l (((lH.take c).map λi:Int=>(i.fmod 720720).toNat).map iV))) ⟨_,a4,?_,λk hk=>?_⟩ (λk y h=>?_) ⟨g0,Y⟩ Y Y
  .rw[bc];exact aL (M' ..) VQ
  .obtain⟨i,_,rfl⟩:=bk.mp hk;exact mV.mp (by rw[ajm (fm i).1];exact(fm i).2)
  .have ne:∀{k' y'},[0,50,51,60,99].contains k'=O->((k,y):Loc)≠(k',y'):=λh' e=>by rw[(bS e).1,h']at h;exact cw h
   exact(aQ (ne Y)).trans ((aQ (ne Y)).trans ((av (ne Y)).trans ((av (ne Y)).trans ((av (ne Y)).trans (av (ne Y))))))
def wA:Loc×Bool->aY:=λp=>if p.1=(50,[])then 391 else if p.1=(51,[])then 398 else a0
noncomputable abbrev nA:List (aY×bh):=[(391,lL #[]),(398,lL #[])]
theorem ah4(P:jw):(K0 P).lookup 391=U/\(K0 P).lookup 398=U:=⟨by kernel_rfl,by kernel_rfl⟩
variable{s:bK} {b:aY} {news:List (aY×bh)}
section
variable{o:bh}
theorem VS(e:pv l=M ob):l=(0,[0])/\ob=.l (lH.map .i)\/l=gu/\ob=.fz g0\/l=(50,[])/\ob=.t 391 #[]\/l=(51,[])/\ob=.t 398 #[]:=by
 unfold pv at e;by_cases c:l=(0,[0])
 .rw[aw c]at e;exact .inl ⟨c,(bu e).symm⟩
 rw[av c]at e;by_cases c:l=gu
 .rw[aw c]at e;exact .inr (.inl ⟨c,(bu e).symm⟩)
 rw[av c]at e;by_cases c:l=(50,[])
 .rw[aw c]at e;exact .inr (.inr (.inl ⟨c,(bu e).symm⟩))
 rw[av c]at e;by_cases c:l=(51,[])
 .rw[aw c]at e;exact .inr (.inr (.inr ⟨c,(bu e).symm⟩))
 rw[av c]at e;exact cK e
theorem ah5(aa:xi w0 s.heap)(ha:s.heap.get? a0=M (listOf oI.toArray 0)):a0≠391/\a0≠398:=
 have k:∀{x},s.heap.get? x=M (oF .none #[])->a0≠x:=λh e=>by have q:=aq Xv (bu ((e▸ha).symm.trans h));exact xj (q:(.type "list":aN)=.none) Y
 ⟨k aa.2.1,k aa.2.2.1⟩
theorem MS(aa:xi w0 s.heap)(ha:s.heap.get? a0=M (listOf oI.toArray 0)):ai.In s.heap:=λb o e=>by
 have e:(K0 w0.params++[(a0,listOf oI.toArray 0)]).lookup b=M o:=e;rw[G4]at e;cases q:(K0 w0.params).lookup b with
 |none=>
  rw[q,Nm,tY]at e;by_cases c:b=a0
  .rw[c,beq_self_eq_true]at e;exact ak c (ha.trans e)
  .rw[beq_eq_false_iff_ne.mpr c]at e;exact cK e
 |some o'=>rw[q,ajz]at e;exact aa.1 _ _ (q.trans e)
theorem ah6(n:a0≠391/\a0≠398)(e:ai.lookup b=M o):b∉[391,398]:=λm=>by
 have e:(K0 w0.params++[(a0,listOf oI.toArray 0)]).lookup b=M o:=e;rw[G4]at e;have k:=ah4 w0.params
 rcases b0.mp m with rfl|m
 .rw[k.1,Nm,tY,beq_eq_false_iff_ne.mpr n.1.symm]at e;exact cK e
 .rw[bp.mp m,k.2,Nm,tY,beq_eq_false_iff_ne.mpr n.2.symm]at e;exact cK e
theorem K_a(n:a0≠391/\a0≠398)(aa:xi w0 s.heap)(ha:s.heap.get? a0=M (listOf oI.toArray 0)):ai.lookup a0=M (listOf oI.toArray 0):=by
 show(K0 w0.params++[(a0,listOf oI.toArray 0)]).lookup a0=_;rw[G4];cases q:(K0 w0.params).lookup a0 with
 |none=>rw[Nm,tY,beq_self_eq_true]
 |some o=>rw[ajz,<-aa.1 _ _ q,ha]
theorem ah8{vs:List aN}{xs:List Int}(h:Er vs xs):bL (VR W D) vs (xs.map .i):=QL h
theorem ah9(n:a0≠391/\a0≠398)(aa:xi w0 s.heap)(ha:s.heap.get? a0=M (listOf oI.toArray 0))(hI:Er oI lH)(zx:lH.length<=63)(nd:(news.map (·.1)).Nodup)(m:∀p∈nA,p∈news):HR g0 ⟨wA,news⟩ pv where
 aC l o e:=by
  rcases VS e with⟨rfl,rfl⟩|⟨rfl,rfl⟩|⟨rfl,rfl⟩|⟨rfl,rfl⟩
  .exact⟨oI.toArray,0,(aw Y).mpr (K_a n aa ha),ah8 hI,by rw[bc];exact aL zx (ao Y)⟩
  .exact Y
  .exact⟨(by decide:(50:Nat)≠0),Y,m _ (.head _)⟩
  .exact⟨(by decide:(51:Nat)≠0),Y,m _ (.tail _ (.head _))⟩
 aG:=nd
 aJ l h:=(av λe=>by rw[show l=(50,[]) from e]at h;exact dS h Y).trans (av λe=>by rw[show l=(51,[]) from e]at h;exact dS h Y)
 aD:=⟨λp h=>(bw h),λg' h=>by have e:M (af.fz g0)=M (.fz g'):=h;cases e;rfl⟩
 aI p q:=by
  have at_:∀{p:Loc×Bool},Own pv p->(p=((50,[]),Z)\/p=((51,[]),Z)):=λ{p} o=>by
   obtain⟨ob,e⟩:=aiz.mp o.2.1;have b:∀{c},pv p.1=M (.t c #[])->p.2=Z:=λ{c} e=>by
    cases h:p.2 with
    |false=>rfl
    |true=>exact(o.2.2 h).elim λc h=>h.elim λf h=>vq (h.symm.trans e) Y
   rcases VS e with⟨c,_⟩|⟨c,_⟩|⟨c,rfl⟩|⟨c,rfl⟩
   .exact ax (aq dQ c) o.1
   .exact ax (aq dQ c) o.1
   .exact .inl (je c (b e))
   .exact .inr (je c (b e))
  intro hp hq e;rcases at_ hp with rfl|rfl<;>rcases at_ hq with rfl|rfl
  .rfl
  .exact dS (e:(391:Nat)=398) Y
  .exact dS (e:(398:Nat)=391) Y
  .rfl
end
variable{s':bK} {F:Fm}
theorem ah'(aa:xi w0 s.heap)(ha:s.heap.get? a0=M (listOf oI.toArray 0))(hF:F.h₀=nW s.heap [391,398])(R:aW F W' aZ s')(E:Ext F.bT ⟨wA,news⟩ pv W' aZ.h):OldK s.heap s'.heap:=by
 have tab:∀{l P},l.1≠0->nY (pv l)->wA (l,Z)=P->∃ws,s'.heap.get? P=M (lL ws):=λ{l P} l0 it e=>by
  obtain⟨a,ws,h⟩:=E.aJ l it;have o:OR W' (aX aZ.h) l (.t a ws):=R.aC.aC.aC l _ h
  have ad:W'.ρ l=P:=((E.aC l (it.elim λa h=>h.elim λws h=>mu h)).2.2 Z).trans e;exact⟨ws,aj ad (R.aC.aD _ o.2.2).1⟩
 obtain⟨w1,t1⟩:=tab (l:=(50,[])) (P:=391) (by decide:(50:Nat)≠0) ⟨_,_,Y⟩ Y
 obtain⟨w2,t2⟩:=tab (l:=(51,[])) (P:=398) (by decide:(51:Nat)≠0) ⟨_,_,Y⟩ Y
 have c1:isCodeTable s.heap 391:=(aj' (S6.aC s.heap (MS aa ha)) aa.2.1).isCodeTable;have c2:isCodeTable s.heap 398:=(aj' (S7.aC s.heap (MS aa ha)) aa.2.2.1).isCodeTable
 have kp:∀{b o},b≠391->b≠398->s.heap.get? b=M o->s'.heap.get? b=M o:=λn1 n2 e=>R.fr.keep _ _ (ak hF (A6 _ e λm=>(b0.mp m).elim n1 λm=>n2 (bp.mp m)));refine⟨λb o e=>?_,λb o e=>?_⟩<;>by_cases e1:b=391
 .subst e1;obtain rfl:=bu (aa.2.1.symm.trans e);exact .inr (.inl ⟨c1,Y,#[],w1,Y,by rw[t1,aji]⟩)
 .by_cases e2:b=398
  .subst e2;obtain rfl:=bu (aa.2.2.1.symm.trans e);exact .inr (.inl ⟨c2,Y,#[],w2,Y,by rw[t2,aji]⟩)
  .exact .inl (kp e1 e2 e)
 .exact⟨_,ak e1 t1⟩
 .by_cases e2:b=398
  .exact⟨_,ak e2 t2⟩
  .exact⟨_,kp e1 e2 e⟩
theorem MT{L:aY}{m:aP->Option aN}{as:List aY}(H:h.Ns L m)(n:L∉as):(nW h as).Ns L m:=H.elim λo H=>H.elim λes H=>H.elim λep H=>⟨o,es,ep,A6 _ H.1 n,H.2⟩
theorem aia:Bk p0:=λs pp loose mg mb R T aa ha hI zx hg VT fin=>by
 have n:=ah5 aa ha;have DW:=MS aa ha
 obtain⟨fd,fo,body,pn,dv,ok,xT,ck⟩:=adf;have nd:=ok.y8
 have bn:(pn.zip ([.ref a0]++dv)).map (·.1)=pn:=by rw[Nf];rw[ok.aD];exact fR (nU ..)
 have C0:=Rr ok.aC;obtain⟨mc,l1,l2⟩:=T.nolimit;have T':TopRead pp loose mg mb (nW s.heap [391,398]):=⟨MT T.g (by decide),MT T.b (by decide),⟨mc,MT l1 (by decide),l2⟩,T.builtins,T.free⟩
 refine Rm T.nolimit (DW _ _ ok.bb) (ok.b6.trans (aq akt ok.aI)) (codeRec_of DW ok.cF) (by decide) (ok.aI▸ok.eO s [.ref a0] DW Y)
  (λn x hx=>(nd.2 _ (bn▸dw hx)).imp id λz=>⟨z.1,(B8 ((C0 n).2.2.2 _ (.inl z.2))).elim λa e=>e▸Y⟩) (C0 0).2.2.1 (λh₁ tk cells sE rx NC Y'=>?_) ok.dC ok.bj ok.aG
 obtain⟨L',sG⟩:∃L',L'=s.heap.objs.size:=⟨_,Y⟩;rw[<-sG]at sE NC Y'⊢;have C:=C0 (L'+1)
 have cm:=Q8 Y';have xR:∀p∈cells,L'+1<=p.1:=λp hp=>(bk.mp (cm.1▸dw (f:=dQ) hp:p.1∈_)).elim λq hq=>hq.2▸C.2.1 q hq.1
 have MU:∀p∈nA,s.heap.get? p.1=M p.2/\p.1∈[391,398]:=λp hp=>by
  rcases b0.mp hp with rfl|hp
  .exact⟨aa.2.1,.head _⟩
  .rw[bp.mp hp];exact⟨aa.2.2.1,.tail _ (.head _)⟩
 have VU:∀p∈nA,p.1<L':=λp hp=>sG▸d9 (MU p hp).1;have JD:((cells++nA).map (·.1)).Nodup:=by
  rw[dc,jX];refine⟨by rw[cm.1];exact C.1,by decide,λx hx y hy e=>?_⟩
  obtain⟨p,hp,rfl⟩:=bk.mp hx;obtain⟨q,hq,rfl⟩:=bk.mp hy;exact dI _ (bF (xR p hp) (qI (e▸VU q hq)))
 have sm:∀b,b∉[391,398]->∀o,s.heap.get? b=M o->(nW s.heap [391,398]).get? b=M o:=λb n o e=>A6 _ e n;have Kg:ai.In (nW s.heap [391,398]):=λb o e=>sm b (ah6 n e) o (DW b o e)
 have keep:∀b o,(nW s.heap [391,398]).get? b=M o->h₁.get? b=M o:=λb o e=>rx b o (NN _ e);have N:ub (nW s.heap [391,398]) L' h₁ (cells++nA):=λp hp=>(cD.mp hp).elim (λhp=>have z:=NC p hp;⟨z.1,z.2.1,by
  cases q:(nW s.heap [391,398]).get? p.1 with
  |none=>rfl
  |some o=>exact cK (z.2.2.symm.trans (NN _ q))⟩) λhp=>⟨rx _ _ (MU p hp).1,gZ (VU p hp),Nz _ (MU p hp).2⟩
 have H:=ah9 (news:=cells++nA) n aa ha hI zx JD λp hp=>cZ _ hp;have St0:St (B9.fm ⟨fd.qualname,fd.scope,bJ 11,fd.code,nV (L'+1) fd.scope.names []⟩ (nW s.heap [391,398]) L' [] g0) (callerA.deeper (xh fd.qualname fd.scope L' (bJ 11) fd.code)) 20 ⟨wA,cells++nA⟩ ⟨λi=>([V.e (0,[0])]++[])[i]?,pv,0⟩ {s with heap:=h₁,toks:=tk}:=by
  refine⟨⟨λd=>⟨[],Y,aiZ Y,λe he=>bw he⟩,ok.aG,(by decide:callerA.depth+1+2*20<=600),by rw[ai2];decide,Y,⟨pp,loose,mg,mb,T'⟩,?_,Y⟩,⟨N,H,λk d=>Y,Kg,DW.keeps rx,hg,VT,λb o e=>cK e⟩,⟨_,⟨sE,keep,?_⟩,ok.Ro C.2.2.2 Y Y cm.2 (λp hp=>cH _ hp) Y (bL.vt (bL.gE ⟨Y,λe=>fK e⟩ .gO) (xT _ _))⟩,λy hy=>?_,λy y' a e e'=>?_,λp hp=>bw hp⟩
  .exact(GV.mp aa.2.2.2).elim λo e=>⟨o,sm _ (by decide) o e⟩
  .exact fR ((Ny ..).trans sG.symm)
  .exact(B8 (C.2.2.2 y (.inl (lookup_mem hy)))).elim λa ea=>(cm.2 _ _ (lookup_mem ea)).elim λo q=>⟨a,o,_,ea,cH _ q.1,q.2⟩
  .exact Ru C.1 e e'
 refine wm (ah3 zx _ _ _ _ body St0 ⟨Jg ok.aC,λe=>fK e⟩ ck) λfl s' p=>p.cA λW' aZ g' R' e' fr q=>?_;cases g' with
 |n=>exact HO (q:V.n=.o O) rfl
 |b=>exact q.elim
 |c=>exact q.elim
 |r x=>obtain⟨v,rfl,vx⟩:∃v,fl=.ret v/\VR W' (aX aZ.h) v x:=fr;obtain rfl:x=.o O:=q;obtain rfl:v=.bool O:=vx;exact fin s' (ah' aa ha Y R' e') (R'.aC.bb.trans VT.symm) R'.aC.bj
theorem aic(p:oH×Bh×aY×List aN×List Int):Bk p:=AR λh=>(A5 (p:=λp=>¬Bk p) ⟨p,h⟩:¬Bk p0) aia
theorem aid{R:WRecords}{cl:aP->Option aY}{P:jw}{ord:List dJ->List dJ}:∀(xs:List Int)(s:bK),∃vs tk,NY R cl P ord (xs.map .int) s=M (vs,{s with toks:=tk})/\Er vs xs:=λxs=>by
 induction xs with
 |nil=>exactλs=>⟨[],s.toks,Y,.nil⟩
 |cons x xs ih=>
  intro s;obtain⟨vs,tk,e,h⟩:=ih {s with toks:=s.toks+1}
  exact⟨_::vs,tk,by rw[nN,NY,layW];dsimp only;rw[e],.cons _ _ h⟩
theorem ofPys_ints(xs:List Int):ofPys (xs.map aka)=xs.map aki:=by
 induction xs with
 |nil=>rfl
 |cons x r ih=>exact aq (aki x::·) ih
end jy.Lean
set_option tactic.hygienic true
theorem PySem.Challenge.cw_qq0001_01_holds : PySem.Challenge.rw_qq0001_01.Holds := by
 refine holds_law jy.Lean.XA λaie=>?_;have hw:uX.row.toRowW.promised:=by w_witness2
 refine⟨aie,hw,open_anyG (r:=uX.row.toRowW) (q:=jy.Lean.qV) (loose:=jy.Lean.Ez) (YP:=jy.Lean.xi) (run:=λf vs=>akd f vs) (tree:=λvs=>do match<-nsGet mainNs uX.row.name with
  |some f=>do ret (<-akd f vs)
  |none=>unsupported "claim.caller:no-such-global") jy.Lean.XJ (λw s e=>⟨Frag.in_of (jy.Lean.XG _) (bS e).1,(bS (bS e).2).1,(bS (bS (bS e).2).2).1,(bS (bS (bS e).2).2).2⟩) (λw h h' x k=>⟨Frag.In.keeps x.1 k,k _ _ x.2.1,k _ _ x.2.2.1,(GV.mp x.2.2.2).elim λo e=>by rw[k _ _ e];rfl⟩)
  (λs e=>xl_of s (dH.mp e).1) XL.keeps (λs e=>recFacts_of (dH.mp e).2) (by rfl) (by kernel_rfl) ⟨rfl,rfl,rfl,rfl,rfl,by decide+kernel⟩ hw ?_ ?_ ?_⟩
 .exactλvs w s mg f Q E hg hf h=>aK (wpAny_nsGet hg (by rw[hf];exact aK (jy.Lean.wm h λa a x=>bg x)))
 .intro w s hg G n hn;obtain rfl:=bp.mp (show n∈[uX.row.name] from hn)
  exact pinned_of_view (d:=jy.Lean.dL) (kwd:=[]) hg G (by kernel_rfl) (by kernel_rfl) (by kernel_rfl)
 .intro w MV a8 mg mb G aa args vals as aif aih L low;have T:=topRead_of G.T
  have hf:mg uX.row.name=M (.ref 460):=mg_of aa.1 T.g (by kernel_rfl)
  refine⟨_,hf,?_⟩;have hrd:=L.reads
  have hwl:=L.well;have hlo:=L.low low
  wrow_args aif aih hrd hwl hlo
  rename_i xs _ _ _ _ _ _ _ _ _ _ _ _ _ _ _ _ zx _;obtain⟨ord,_,hl⟩:=L.laid;rw[show ofPy (vg (NO aka xs))=.list (xs.map .int) from congrArg WData.list (jy.Lean.ofPys_ints xs)]at hl
  obtain⟨vs,tk,e,hI⟩:=jy.Lean.aid (R:=uX.row.toRowW.records) (cl:=classAt MV.heap) (P:=w.params) (ord:=ord) xs MV;rw[NY,layW,e]at hl;dsimp only at hl;rw[NY]at hl;injection hl with hl
  injection hl with yh hl2
  injection yh with yh
  injection yh with yh
  have ha:a8.heap.get? MV.heap.objs.size=M (PySem.W.listOf vs.toArray 0):=by rw[<-hl2];exact jG _ rfl
  rw[yh]at ha;exact enter_call (jy.Lean.aic ⟨w,_,_,vs,xs⟩ _ _ _ _ _ _ T aa ha hI (show xs.length<=63 by omega) L.gens rfl λs' ai o g=>⟨.inl ⟨.bool O,.bool O,[],rfl,λa=>rfl,.bool O,by kernel_rfl,λa=>⟨gh,λa h=>jy.Lean.bw h⟩⟩,ai,o,.of_eq g⟩)
