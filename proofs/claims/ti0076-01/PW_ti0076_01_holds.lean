import PyProof.Rows.All
import Wide.All
import OpenK.AllK
import Wide.FinOn
import KE.KLam
import PyProof.ExcFactsAll.ValueError
import PyProof.ExcAttrAll.ValueError
import KE.KSortTup
import Lean
import PySem.Challenge.RW_ti0076_01
set_option Elab.async false
set_option maxRecDepth 100000
set_option maxHeartbeats 0
set_option linter.unusedVariables false
set_option linter.unusedSimpArgs false
set_option linter.unusedSectionVars false
set_option genSizeOf false
set_option compiler.extract_closed false
set_option genInjectivity false
set_option bootstrap.genMatcherCode false
set_option tactic.hygienic false
open Array renaming toList_push->qgt,toList_append->qgR,getElem?_toList->aN,length_toList->MK,forIn_toList->qh0
open Bool renaming false->qg,true->qe,and_eq_true_iff->z0,false_eq_true->FN,and_eq_true->jT,eq_iff_iff->k9,and_true->aO,true_and->Rs,or_false->qhg,not_eq_true->qhi,and_false->bK,false_ne_true->jy,not_eq_true'->F1,or_eq_true->qhD,eq_false_iff->qhQ,not_not->cU
open Classical renaming not_not->bP,byContradiction->MQ,not_forall->qjc
open Eq renaming symm->qgl,trans->RM
open Except renaming ok->Z1
open ForInStep renaming yield->Cl
open Int renaming lt_trans->aE,not_lt->Ci,le_trans->aQ,natCast_nonneg->Cj,ofNat_lt->wW,ofNat_le->RO,max_eq_right->qin,ofNat_inj->cV,ofNat_sub->cY,toNat_of_nonneg->cZ
open List renaming lookup_cons->Al,mem_cons_self->zB,mem_cons_of_mem->zI,range->zx,cons_append->Q5,map_append->jQ,nodup_append->BJ,any_eq_true->C0,mem_map->qG,append_nil->jF,map_cons->z7,forIn_cons->C1,append_assoc->jq,length_append->zw,length_map->qH,toArray->v5,nodup_cons->k7,not_mem_nil->AH,nodup_nil->vy,mem_singleton->zE,range'->Ca,range'_succ->Q7,range_eq_range'->Q8,take_of_length_le->FO,getElem?_eq_getElem->kh,getElem_mem->Q9,take_add_one->qgx,length_take->Ra,append_eq_nil_iff->Rc,cons_ne_nil->JM,length_cons->vV,mem_cons->jJ,all_eq_true->wS,mem_range->jG,rec->BL,replicate->zS,getElem?_append_left->Ri,getElem?_eq_some_iff->kF,reverse_cons->Rj,replicate_succ->qgO,mem_append->zT,mem_iff_getElem->Rk,mem_of_getElem?->wT,getElem?_set_ne->MC,pairwise_iff_getElem->FR,foldl->aL,foldl_cons->HB,flatten_cons->qgQ,ext_getElem?->qgY,getElem?_map->wU,any_map->JQ,find?_cons->AI,any_cons->FS,length_range->Ck,drop_zero->JS,take_length->MG,take->qg5,drop->JU,length_drop->aW,size_toArray->JV,countP_map->bI,drop_of_length_le->JW,getElem?_set_self->bJ,length_set->wo,drop_eq_getElem_cons->MN,take_succ_cons->qhs,drop_eq_nil_iff->bO,contains_iff_mem->qhv,mem_filter->MR,lookup_append->Rz,getElem?_append_right->J4,getElem?_replicate->qhy,foldl_append->F3,nil_append->MV,getElem_map->J5,filterMap_cons_none->bY,filterMap_cons_some->RC,find?_append->bZ,find?_eq_none->b9,mem_of_find?_eq_some->cA,find?_some->qhE,map_reverse->qhG,mem_append_left->kH,mem_append_right->wV,pairwise_singleton->MY,pairwise_cons->wq,getD_eq_getElem?_getD->BN,isPrefixOf_iff_prefix->cK,mem_flatMap->kU,drop_left->MZ,take_append_drop->cM,getElem?_of_mem->RF,length_pos_iff->qh4,take_left->cN,length_eq_zero_iff->cP,filter_congr->RH,map_nil->qh7,range_succ->qh9,filter_cons_of_neg->qib,map_map->wX,drop_suffix->J8,flatMap_cons->M1,length_filter_le->F5,suffix_refl->J9,suffix_cons->qii,map_inj_left->Ka,set_append_right->qim,filter_cons->cQ,getElem?_set->qio,map_set->qip,getElem?_inj->qiq,mem_or_eq_of_mem_set->cR,length_replicate->RP,length_eq_one_iff->RQ,range'_eq_map_range->qis,map_congr_left->RT,countP_cons->cW,any_eq_false->cX,replicate_succ'->qiv,countP_mono_left->qiw,pairwise_map->RU,map_id'->c9
open List.Pairwise renaming nil->bT
open List.Perm renaming cons_inv->qje
open List.Sublist renaming nodup->qiC,map->qiD,append->qiE,refl->qgy
open List.cons renaming injEq->qjh,inj->qix
open Nat renaming add_comm->Hu,lt_irrefl->j7,lt_or_ge->JJ,le_antisymm->Mq,le_trans->qu,le_add_right->Ba,add_right_comm->qgp,add_assoc->EA,succ_mul->Z6,le_of_eq->BK,lt_add_of_pos_right->Mt,succ_pos->DN,zero_add->Mu,not_lt->k8,le_add_left->Rf,ne_of_lt->kR,ne_of_gt->FP,lt_of_le_of_ne->aA,blt->z3,beq->zQ,le_refl->qU,eq_of_beq_eq_true->wn,lt_of_lt_of_le->jH,rec->qgK,beq_refl->qgL,ne_of_beq_eq_false->aJ,blt_eq->kE,lt_or_gt_of_ne->qgP,not_le->Rl,mul_le_mul->EG,not_lt_zero->Rm,lt_of_succ_lt_succ->Rn,lt_trichotomy->Ro,sub_le->HF,sub_zero->JT,min_le_right->MH,le_total->Rt,min_eq_left->AJ,min_eq_right->Bd,lt_of_not_le->FY,zero_le->zN,succ_le_succ->Ao,le_of_lt->va,add_le_add_left->F4,le_of_lt_succ->MX,succ_inj->qhR,le_succ->DU,le_succ_of_le->HN,lt_succ_of_lt->qhZ,lt_of_le_of_lt->AK,le_of_not_lt->Cm,lt_trans->C7,le_zero->RG,add_le_add_right->qh6,mul_le_mul_right->DV,lt_or_eq_of_le->qh8,succ_sub->qia,sub_eq_zero_of_le->qic,not_le_of_lt->RI,le_max_left->qid,le_max_right->qie,max_eq_left->qif,max_eq_right->RJ,lt_succ_self->M0,lt_succ_of_le->qig,le_of_succ_le_succ->qih,ble->RK,le_of_ble_eq_true->kJ,le_of_succ_le->Bf,sub_self->HP,le_of_not_le->RS,succ_lt_succ->qir,add_le_add->AL,mul_le_mul_left->F7
open Nat.succ renaming inj->F6
open Ne renaming symm->DO
open Option renaming none->qb,some->qa,map_eq_some_iff->My,isSome_iff_exists->aG,isNone_iff_eq_none->qg6,isSome_none->qht,map->qiu
open Option.some renaming inj->zc
open Or renaming inl->J7,inr->HO
open PUnit renaming unit->Z4
open Prod renaming fst->Q3,snd->qgj,ext->qh5
open Prod.mk renaming injEq->aH
open PyProof.Rows renaming intBits_le->qiN,add_int->qiP,add_str->qiQ,mul_int->qiR,sub_int->qiS,floordiv_int->qiT,mod_int'->qiU,lt_int->qiV,lt_str->qiW,gt_int->qiX,is_none_none->qiY,is_none_ne->qiZ,isnot_none_none->qi0,isnot_none_ne->qi1,subscriptTail->aT,tail_any->HE,loadName_read->qi2,neg_int->qi3,len_str->qi5,ClsAt->HJ,StrsAre->C3,assignInOrder_nil->qhq,assignInOrder_cons->qhr,risingS->qjf,kind_sorted->qhS,plain_sorted->qhT,entry_sorted->qhU,seqObj->jA,slot_list_sort->qhW,entry_list_sort->qhX,keyKind_strs->qhY,ksk_end->cH,ksk_rest->cJ,get?_update_seq->RD,listUpdate_at->RE,listItems_at->qh1,seqEpoch_at->qh2,size_push'->qh3
open PySem renaming Expr->qA,Str->qf,Pos->qT,Keyword->Ht,stack->Ew,Shared->qk,Thread->FM,Flow->A8,table->vg,leftWithCleanup->Mo,runN->BI,denote->wm,Result->AF,Sem->zr,Frame->Mp,model->qp,Model->A9,Value->qh,wp_iff_reach->qgm,Env->q0,Stmt->z6,execs->jS,exec->Hv,wpAny->qq,wpAny_pure->qB,Tok->An,mkInt->Hw,standAt->wQ,Obj->zk,Program->zm,World->qK,Around->zh,Addr->qj,intKind->jL,wpAny_bind->qm,wpAny_standAt->jM,stored->Mr,sizeLine->vH,dictSet->Z3,wpAny_dictSet_pairs->qgo,intKind_is->Ez,holding->B9,wpAny_mkInt->Ms,wpAny_holding->zV,evalPairs_nil->qgq,evalPairs_cons->qgr,subDict->Z5,wpAny_alloc->Q6,wpAny_rule->JK,isSubtype_type->qgu,sysModules->Cb,mergeMapping->qgv,wpAny_specialOf->Z7,wpAny_dictEntries->Z8,wpAny_dictEpoch->qgw,wpAny_onRaise->Z9,wpAny_mkText->aB,Arguments->Hy,Scope->vh,Params->zC,DictEntry->Cc,mainNs->C2,moduleCode->qgz,newBodyFrame->qgA,OsState->vW,treeTable->EB,blockStart->qgC,assignStores->Hz,swappedStores->EC,assignEach->Mx,evalEachOpt->qgD,evalEach->aD,constValue->qgE,eval->zR,arm_eval_Dict->qgF,swapsWithSole->Cd,table_eq_tree->Rg,sizeLine_eq->Cf,mainGlobals->kT,builtinsNs->vi,importedModules->qgH,Operator->aI,CmpOp->MA,seqIndex?->HA,clipAt->jU,ask->EE,NameKind->DP,Comprehension->vk,constantsAlone->qgM,foldedForSure->qgN,IsL->Ch,codeAmong->EF,binaryOp->JO,typeIs_int->qgT,call_meets->HC,cLine->EH,valueAt->Bc,compareOp->EJ,strKind_is->DQ,wpAny_inSet_of->qgZ,wpAny_notInSet_of->qg0,truthy->aP,getItem->MD,subscripted->aR,operate->aS,typeIs_str->JR,slot_list_getitem->aU,IsPart->Rr,sliceRange->qg2,clipAt_cast->qg3,sliceRange_one->qg4,newFields->aX,wpAny_newObj_type->HG,wpAny_getItem_list_slice->qg7,isTrue->HH,backTo->HI,starEach->DR,wpAny_BinOp->qg8,arm_eval_Subscript->aY,arm_eval_Slice->aZ,wpAny_mono->EK,arm_allTrue_cons->qg9,keeperOf->MJ,wpAny_load->bC,evalArgs->bD,callWith->bG,callMarked->qha,backToKw->FT,keywordEach->FU,rangeSize_one->qhc,call_type_of->qhe,wpAny_list_append_plain->qhf,call_meetsIn->ML,meets_dict_get_default->qhh,getMethod->JX,typeLookup->JY,getMethod_builtin->FX,attributeBase->qhj,methodCall->qhk,methodCallForm->qhl,pyNext->MM,pyIter->JZ,wpAny_pyIter_list->qhm,letOwnedTupleGo->Ru,bindName->bM,wpAny_bindName->qhp,assignInOrder->bN,arm_assign_Name->Rv,unpackItems->Rw,foldedIterable->qhu,foldedSetIterable->Rx,noteFrame->MO,theTreesLotGoes->Ry,codeAny->C4,codeAny_of_tree->J0,wpAny_noted->MP,wpAny_of_eq->FZ,relabel->HK,cellsFrom->kG,closureFor->RA,cellOf->bQ,newEnv->J2,pushCells->MS,newFunctionEnv->F2,wpAny_layCells->qhw,cellsFrom_ok->qhx,pushCells_keeps->J3,name_of_addr->qhz,compPost->MU,comprehension->bU,TriplesOk->bV,rawInt->C5,wpAny_nsGet->bW,firstAsync->qhA,wpAny_execs_nil->bX,wpAny_execs_cons->qhB,interactive->qhC,forTurn->RB,wpAny_release->qhF,evalThenUse->qhH,FuncData->J6,wpAny_seqItems->qhI,bindL->MW,wpAny_newFunctionEnv_cells->qhJ,codeAny_func->qhK,wpAny_call->qhL,typeLookup_type->HL,builtinLookup_eq_fast->HM,Builtin->cC,wpAny_call_entry->qhP,checkCount->qhV,wpAny_newList->cG,callerA->RV
open PySem.AfterImport renaming of_importEnds->qiJ,unique->qiK
open PySem.Around renaming under->qil
open PySem.AutoListH renaming list___mul___list_int_3->qiO,list_insert_list_int_val_1->qja
open PySem.Builtin renaming packed->qiG,flatEntries->qiH
open PySem.Builtin.List renaming listFitsIndex->aM,listTooLong->qgS
open PySem.Builtin.Range renaming rangeSize->bH,small->qhd
open PySem.Builtin.Str renaming tooLong->jN,strSliceIndices->ME,glued->qit
open PySem.Code renaming builtin->Rb
open PySem.Ctx renaming of->AG
open PySem.Data renaming fields->qij
open PySem.DictEntry renaming refKey->qjb
open PySem.ExcName renaming means->qji
open PySem.Flow renaming ret->qgn,next->Ey
open PySem.FuncBody renaming stmts->qjg
open PySem.IsL renaming new->JP
open PySem.IsRange renaming new->qhb
open PySem.IsiPair renaming bool_bool->qi6,int_bool->qi7,str_bool->qi8,NoneType_bool->qi9
open PySem.Manifest renaming BuiltinName->qiF,builtinsNames->qiI
open PySem.NameKind renaming cell->F0,free->J1
open PySem.Obj renaming data_mapDictKeys->qgs,putName_eq->qhn,putNameByArray->qho,mapSeq->vz
open PySem.Pin renaming globalOf_eq->qgJ
open PySem.PylongRoom renaming of->qiM
open PySem.Sem renaming wp->j6,wp_iff_runs->Z0,pure->Q4,wp_bind'->vU,wp_mono->Am,finPost->JG
open PySem.SeqAt renaming EqAt->HD,RcNeAt->Rp
open PySem.SeqAt.EqAt renaming same->qgU
open PySem.SeqAt.RcAt renaming lists->qgV,lists_lengths->qgW,tuples->qgX
open PySem.Shared renaming eq_of_forget_eq->qgk,asleep_of_life->qgI
open PySem.Sre renaming inSet->C6,Seen->DS,M->cF,forSearch->qhO,ops->RL
open PySem.Sre.M renaming runFor->qhM,say->qhN
open PySem.Sre.M.admitted renaming match_1->qjd
open PySem.Sre.inSet renaming match_1->RN
open PySem.Step.go renaming injEq->qiB
open PySem.Str renaming ofString->wR,length->aV
open PySem.Txt renaming charAt->JN,upper->Cg,lower->zp,join->aK
open PySem.Value renaming str->JH,ref->Hx,int->Mv,type->EI,bool->qg1,none->qik
open PySem.Value.type renaming inj->BM
open PySem.W renaming segRun->JF,through->Z2,behindTheImports->aC,SharedT->Mw,fencedOpening->qgB,absHeap->Bb,segRunT->FQ,segRun_of->aF,alive->ED,absHeap_at->Mz,abs_get->Rh,absHeap_size->Ce,kas_sort->MB,less->Kb,layAllW->RW
open PySem.W.SharedT renaming abs->qiL
open PySem.W.WShape renaming hasItems->qiy,has->dA
open PySem.W.WTm renaming holds->qiz
open PySem.World renaming withFollow_self->qgG
open PySem.evalArgs renaming match_1->qi4
namespace Mine.Internal
open PySem
theorem x1a1 {A:Sort _}{p:A->Prop}{C:Prop}(h:∃a,p a)(k:∀a,p a->C):C:=h.elim λa h=>k a h
theorem x0a2 {p q:Prop}{C:Prop}(h:p/\q)(k:p->q->C):C:=k h.1 h.2
theorem x2a1 {A B:Sort _}{p:A->B->Prop}{C:Prop}(h:∃a b,p a b)(k:∀a b,p a b->C):C:=h.elim λa h=>h.elim λb h=>k a b h
theorem x1a2 {A:Sort _}{p q:A->Prop}{C:Prop}(h:∃a,p a/\q a)(k:∀a,p a->q a->C):C:=h.elim λa h=>k a h.1 h.2
theorem x0a3 {p q r:Prop}{C:Prop}(h:p/\q/\r)(k:p->q->r->C):C:=k h.1 h.2.1 h.2.2
theorem x3a1 {A B D:Sort _}{p:A->B->D->Prop}{C:Prop}(h:∃a b c,p a b c)(k:∀a b c,p a b c->C):C:=h.elim λa h=>h.elim λb h=>h.elim λc h=>k a b c h
theorem x2a2 {A B:Sort _}{p q:A->B->Prop}{C:Prop}(h:∃a b,p a b/\q a b)(k:∀a b,p a b->q a b->C):C:=h.elim λa h=>h.elim λb h=>k a b h.1 h.2
theorem x1a3 {A:Sort _}{p q r:A->Prop}{C:Prop}(h:∃a,p a/\q a/\r a)(k:∀a,p a->q a->r a->C):C:=h.elim λa h=>k a h.1 h.2.1 h.2.2
theorem x0a4 {p q r s:Prop}{C:Prop}(h:p/\q/\r/\s)(k:p->q->r->s->C):C:=k h.1 h.2.1 h.2.2.1 h.2.2.2
theorem x4a1 {A B D E:Sort _}{p:A->B->D->E->Prop}{C:Prop}(h:∃a b c d,p a b c d)(k:∀a b c d,p a b c d->C):C:=h.elim λa h=>h.elim λb h=>h.elim λc h=>h.elim λd h=>k a b c d h
theorem x3a2 {A B D:Sort _}{p q:A->B->D->Prop}{C:Prop}(h:∃a b c,p a b c/\q a b c)(k:∀a b c,p a b c->q a b c->C):C:=h.elim λa h=>h.elim λb h=>h.elim λc h=>k a b c h.1 h.2
theorem x2a3 {A B:Sort _}{p q r:A->B->Prop}{C:Prop}(h:∃a b,p a b/\q a b/\r a b)(k:∀a b,p a b->q a b->r a b->C):C:=h.elim λa h=>h.elim λb h=>k a b h.1 h.2.1 h.2.2
theorem x1a4 {A:Sort _}{p q r s:A->Prop}{C:Prop}(h:∃a,p a/\q a/\r a/\s a)(k:∀a,p a->q a->r a->s a->C):C:=h.elim λa h=>k a h.1 h.2.1 h.2.2.1 h.2.2.2
theorem x0a5 {p q r s t:Prop}{C:Prop}(h:p/\q/\r/\s/\t)(k:p->q->r->s->t->C):C:=k h.1 h.2.1 h.2.2.1 h.2.2.2.1 h.2.2.2.2
theorem x4a2 {A B D E:Sort _}{p q:A->B->D->E->Prop}{C:Prop}(h:∃a b c d,p a b c d/\q a b c d)(k:∀a b c d,p a b c d->q a b c d->C):C:=h.elim λa h=>h.elim λb h=>h.elim λc h=>h.elim λd h=>k a b c d h.1 h.2
theorem x3a3 {A B D:Sort _}{p q r:A->B->D->Prop}{C:Prop}(h:∃a b c,p a b c/\q a b c/\r a b c)(k:∀a b c,p a b c->q a b c->r a b c->C):C:=h.elim λa h=>h.elim λb h=>h.elim λc h=>k a b c h.1 h.2.1 h.2.2
theorem x2a4 {A B:Sort _}{p q r s:A->B->Prop}{C:Prop}(h:∃a b,p a b/\q a b/\r a b/\s a b)(k:∀a b,p a b->q a b->r a b->s a b->C):C:=h.elim λa h=>h.elim λb h=>k a b h.1 h.2.1 h.2.2.1 h.2.2.2
theorem x1a5 {A:Sort _}{p q r s t:A->Prop}{C:Prop}(h:∃a,p a/\q a/\r a/\s a/\t a)(k:∀a,p a->q a->r a->s a->t a->C):C:=h.elim λa h=>k a h.1 h.2.1 h.2.2.1 h.2.2.2.1 h.2.2.2.2
theorem x0a6 {p q r s t u:Prop}{C:Prop}(h:p/\q/\r/\s/\t/\u)(k:p->q->r->s->t->u->C):C:=k h.1 h.2.1 h.2.2.1 h.2.2.2.1 h.2.2.2.2.1 h.2.2.2.2.2
theorem x4a3 {A B D E:Sort _}{p q r:A->B->D->E->Prop}{C:Prop}(h:∃a b c d,p a b c d/\q a b c d/\r a b c d)(k:∀a b c d,p a b c d->q a b c d->r a b c d->C):C:=h.elim λa h=>h.elim λb h=>h.elim λc h=>h.elim λd h=>k a b c d h.1 h.2.1 h.2.2
theorem x3a4 {A B D:Sort _}{p q r s:A->B->D->Prop}{C:Prop}(h:∃a b c,p a b c/\q a b c/\r a b c/\s a b c)(k:∀a b c,p a b c->q a b c->r a b c->s a b c->C):C:=h.elim λa h=>h.elim λb h=>h.elim λc h=>k a b c h.1 h.2.1 h.2.2.1 h.2.2.2
theorem x2a5 {A B:Sort _}{p q r s t:A->B->Prop}{C:Prop}(h:∃a b,p a b/\q a b/\r a b/\s a b/\t a b)(k:∀a b,p a b->q a b->r a b->s a b->t a b->C):C:=h.elim λa h=>h.elim λb h=>k a b h.1 h.2.1 h.2.2.1 h.2.2.2.1 h.2.2.2.2
theorem x0a7 {p q r s t u v:Prop}{C:Prop}(h:p/\q/\r/\s/\t/\u/\v)(k:p->q->r->s->t->u->v->C):C:=k h.1 h.2.1 h.2.2.1 h.2.2.2.1 h.2.2.2.2.1 h.2.2.2.2.2.1 h.2.2.2.2.2.2
theorem x7a1 {A B D E F G H:Sort _}{p:A->B->D->E->F->G->H->Prop}{C:Prop}(h:∃a b c d e f g,p a b c d e f g)(k:∀a b c d e f g,p a b c d e f g->C):C:=h.elim λa h=>h.elim λb h=>h.elim λc h=>h.elim λd h=>h.elim λe h=>h.elim λf h=>h.elim λg h=>k a b c d e f g h
theorem x4a4 {A B D E:Sort _}{p q r s:A->B->D->E->Prop}{C:Prop}(h:∃a b c d,p a b c d/\q a b c d/\r a b c d/\s a b c d)(k:∀a b c d,p a b c d->q a b c d->r a b c d->s a b c d->C):C:=h.elim λa h=>h.elim λb h=>h.elim λc h=>h.elim λd h=>k a b c d h.1 h.2.1 h.2.2.1 h.2.2.2
theorem x3a5 {A B D:Sort _}{p q r s t:A->B->D->Prop}{C:Prop}(h:∃a b c,p a b c/\q a b c/\r a b c/\s a b c/\t a b c)(k:∀a b c,p a b c->q a b c->r a b c->s a b c->t a b c->C):C:=h.elim λa h=>h.elim λb h=>h.elim λc h=>k a b c h.1 h.2.1 h.2.2.1 h.2.2.2.1 h.2.2.2.2
theorem x2a6 {A B:Sort _}{p q r s t u:A->B->Prop}{C:Prop}(h:∃a b,p a b/\q a b/\r a b/\s a b/\t a b/\u a b)(k:∀a b,p a b->q a b->r a b->s a b->t a b->u a b->C):C:=h.elim λa h=>h.elim λb h=>k a b h.1 h.2.1 h.2.2.1 h.2.2.2.1 h.2.2.2.2.1 h.2.2.2.2.2
theorem x0a8 {p q r s t u v w:Prop}{C:Prop}(h:p/\q/\r/\s/\t/\u/\v/\w)(k:p->q->r->s->t->u->v->w->C):C:=k h.1 h.2.1 h.2.2.1 h.2.2.2.1 h.2.2.2.2.1 h.2.2.2.2.2.1 h.2.2.2.2.2.2.1 h.2.2.2.2.2.2.2
theorem x4a5 {A B D E:Sort _}{p q r s t:A->B->D->E->Prop}{C:Prop}(h:∃a b c d,p a b c d/\q a b c d/\r a b c d/\s a b c d/\t a b c d)(k:∀a b c d,p a b c d->q a b c d->r a b c d->s a b c d->t a b c d->C):C:=h.elim λa h=>h.elim λb h=>h.elim λc h=>h.elim λd h=>k a b c d h.1 h.2.1 h.2.2.1 h.2.2.2.1 h.2.2.2.2
theorem x3a6 {A B D:Sort _}{p q r s t u:A->B->D->Prop}{C:Prop}(h:∃a b c,p a b c/\q a b c/\r a b c/\s a b c/\t a b c/\u a b c)(k:∀a b c,p a b c->q a b c->r a b c->s a b c->t a b c->u a b c->C):C:=h.elim λa h=>h.elim λb h=>h.elim λc h=>k a b c h.1 h.2.1 h.2.2.1 h.2.2.2.1 h.2.2.2.2.1 h.2.2.2.2.2
theorem x2a7 {A B:Sort _}{p q r s t u v:A->B->Prop}{C:Prop}(h:∃a b,p a b/\q a b/\r a b/\s a b/\t a b/\u a b/\v a b)(k:∀a b,p a b->q a b->r a b->s a b->t a b->u a b->v a b->C):C:=h.elim λa h=>h.elim λb h=>k a b h.1 h.2.1 h.2.2.1 h.2.2.2.1 h.2.2.2.2.1 h.2.2.2.2.2.1 h.2.2.2.2.2.2
theorem x3a7 {A B D:Sort _}{p q r s t u v:A->B->D->Prop}{C:Prop}(h:∃a b c,p a b c/\q a b c/\r a b c/\s a b c/\t a b c/\u a b c/\v a b c)(k:∀a b c,p a b c->q a b c->r a b c->s a b c->t a b c->u a b c->v a b c->C):C:=h.elim λa h=>h.elim λb h=>h.elim λc h=>k a b c h.1 h.2.1 h.2.2.1 h.2.2.2.1 h.2.2.2.2.1 h.2.2.2.2.2.1 h.2.2.2.2.2.2
theorem x2a8 {A B:Sort _}{p q r s t u v w:A->B->Prop}{C:Prop}(h:∃a b,p a b/\q a b/\r a b/\s a b/\t a b/\u a b/\v a b/\w a b)(k:∀a b,p a b->q a b->r a b->s a b->t a b->u a b->v a b->w a b->C):C:=h.elim λa h=>h.elim λb h=>k a b h.1 h.2.1 h.2.2.1 h.2.2.2.1 h.2.2.2.2.1 h.2.2.2.2.2.1 h.2.2.2.2.2.2.1 h.2.2.2.2.2.2.2
theorem x11a1 {A B D E F G H I J K L:Sort _}{p:A->B->D->E->F->G->H->I->J->K->L->Prop}{C:Prop}(h:∃a b c d e f g i j l m,p a b c d e f g i j l m)(k:∀a b c d e f g i j l m,p a b c d e f g i j l m->C):C:=h.elim λa h=>h.elim λb h=>h.elim λc h=>h.elim λd h=>h.elim λe h=>h.elim λf h=>h.elim λg h=>h.elim λi h=>h.elim λj h=>h.elim λl h=>h.elim λm h=>k a b c d e f g i j l m h
theorem x3a10 {A B D:Sort _}{p q r s t u v w x y:A->B->D->Prop}{C:Prop}(h:∃a b c,p a b c/\q a b c/\r a b c/\s a b c/\t a b c/\u a b c/\v a b c/\w a b c/\x a b c/\y a b c)(k:∀a b c,p a b c->q a b c->r a b c->s a b c->t a b c->u a b c->v a b c->w a b c->x a b c->y a b c->C):C:=h.elim λa h=>h.elim λb h=>h.elim λc h=>k a b c h.1 h.2.1 h.2.2.1 h.2.2.2.1 h.2.2.2.2.1 h.2.2.2.2.2.1 h.2.2.2.2.2.2.1 h.2.2.2.2.2.2.2.1 h.2.2.2.2.2.2.2.2.1 h.2.2.2.2.2.2.2.2.2
theorem x2a12 {A B:Sort _}{p q r s t u v w x y z P:A->B->Prop}{C:Prop}(h:∃a b,p a b/\q a b/\r a b/\s a b/\t a b/\u a b/\v a b/\w a b/\x a b/\y a b/\z a b/\P a b)(k:∀a b,p a b->q a b->r a b->s a b->t a b->u a b->v a b->w a b->x a b->y a b->z a b->P a b->C):C:=h.elim λa h=>h.elim λb h=>k a b h.1 h.2.1 h.2.2.1 h.2.2.2.1 h.2.2.2.2.1 h.2.2.2.2.2.1 h.2.2.2.2.2.2.1 h.2.2.2.2.2.2.2.1 h.2.2.2.2.2.2.2.2.1 h.2.2.2.2.2.2.2.2.2.1 h.2.2.2.2.2.2.2.2.2.2.1 h.2.2.2.2.2.2.2.2.2.2.2
theorem x10a5 {A B D E F G H I J K:Sort _}{p q r s t:A->B->D->E->F->G->H->I->J->K->Prop}{C:Prop}(h:∃a b c d e f g i j l,p a b c d e f g i j l/\q a b c d e f g i j l/\r a b c d e f g i j l/\s a b c d e f g i j l/\t a b c d e f g i j l)(k:∀a b c d e f g i j l,p a b c d e f g i j l->q a b c d e f g i j l->r a b c d e f g i j l->s a b c d e f g i j l->t a b c d e f g i j l->C):C:=h.elim λa h=>h.elim λb h=>h.elim λc h=>h.elim λd h=>h.elim λe h=>h.elim λf h=>h.elim λg h=>h.elim λi h=>h.elim λj h=>h.elim λl h=>k a b c d e f g i j l h.1 h.2.1 h.2.2.1 h.2.2.2.1 h.2.2.2.2
theorem x4a11 {A B D E:Sort _}{p q r s t u v w x y z:A->B->D->E->Prop}{C:Prop}(h:∃a b c d,p a b c d/\q a b c d/\r a b c d/\s a b c d/\t a b c d/\u a b c d/\v a b c d/\w a b c d/\x a b c d/\y a b c d/\z a b c d)(k:∀a b c d,p a b c d->q a b c d->r a b c d->s a b c d->t a b c d->u a b c d->v a b c d->w a b c d->x a b c d->y a b c d->z a b c d->C):C:=h.elim λa h=>h.elim λb h=>h.elim λc h=>h.elim λd h=>k a b c d h.1 h.2.1 h.2.2.1 h.2.2.2.1 h.2.2.2.2.1 h.2.2.2.2.2.1 h.2.2.2.2.2.2.1 h.2.2.2.2.2.2.2.1 h.2.2.2.2.2.2.2.2.1 h.2.2.2.2.2.2.2.2.2.1 h.2.2.2.2.2.2.2.2.2.2
theorem x4a22 {A B D E:Sort _}{p q r s t u v w x y z P Q R S T U V W X Y Z:A->B->D->E->Prop}{C:Prop}(h:∃a b c d,p a b c d/\q a b c d/\r a b c d/\s a b c d/\t a b c d/\u a b c d/\v a b c d/\w a b c d/\x a b c d/\y a b c d/\z a b c d/\P a b c d/\Q a b c d/\R a b c d/\S a b c d/\T a b c d/\U a b c d/\V a b c d/\W a b c d/\X a b c d/\Y a b c d/\Z a b c d)(k:∀a b c d,p a b c d->q a b c d->r a b c d->s a b c d->t a b c d->u a b c d->v a b c d->w a b c d->x a b c d->y a b c d->z a b c d->P a b c d->Q a b c d->R a b c d->S a b c d->T a b c d->U a b c d->V a b c d->W a b c d->X a b c d->Y a b c d->Z a b c d->C):C:=h.elim λa h=>h.elim λb h=>h.elim λc h=>h.elim λd h=>k a b c d h.1 h.2.1 h.2.2.1 h.2.2.2.1 h.2.2.2.2.1 h.2.2.2.2.2.1 h.2.2.2.2.2.2.1 h.2.2.2.2.2.2.2.1 h.2.2.2.2.2.2.2.2.1 h.2.2.2.2.2.2.2.2.2.1 h.2.2.2.2.2.2.2.2.2.2.1 h.2.2.2.2.2.2.2.2.2.2.2.1 h.2.2.2.2.2.2.2.2.2.2.2.2.1 h.2.2.2.2.2.2.2.2.2.2.2.2.2.1 h.2.2.2.2.2.2.2.2.2.2.2.2.2.2.1 h.2.2.2.2.2.2.2.2.2.2.2.2.2.2.2.1 h.2.2.2.2.2.2.2.2.2.2.2.2.2.2.2.2.1 h.2.2.2.2.2.2.2.2.2.2.2.2.2.2.2.2.2.1 h.2.2.2.2.2.2.2.2.2.2.2.2.2.2.2.2.2.2.1 h.2.2.2.2.2.2.2.2.2.2.2.2.2.2.2.2.2.2.2.1 h.2.2.2.2.2.2.2.2.2.2.2.2.2.2.2.2.2.2.2.2.1 h.2.2.2.2.2.2.2.2.2.2.2.2.2.2.2.2.2.2.2.2.2
theorem y2a1 {A B:Sort _}{p:A->B->Prop}(a:A)(b:B)(h1:p a b):∃a b,p a b:=⟨a,b,h1⟩
theorem y1a2 {A:Sort _}{p q:A->Prop}(a:A)(h1:p a)(h2:q a):∃a,p a/\q a:=⟨a,h1,h2⟩
theorem y0a3 {p q r:Prop}(h1:p)(h2:q)(h3:r):p/\q/\r:=⟨h1,h2,h3⟩
theorem y3a1 {A B D:Sort _}{p:A->B->D->Prop}(a:A)(b:B)(c:D)(h1:p a b c):∃a b c,p a b c:=⟨a,b,c,h1⟩
theorem y2a2 {A B:Sort _}{p q:A->B->Prop}(a:A)(b:B)(h1:p a b)(h2:q a b):∃a b,p a b/\q a b:=⟨a,b,h1,h2⟩
theorem y1a3 {A:Sort _}{p q r:A->Prop}(a:A)(h1:p a)(h2:q a)(h3:r a):∃a,p a/\q a/\r a:=⟨a,h1,h2,h3⟩
theorem y0a4 {p q r s:Prop}(h1:p)(h2:q)(h3:r)(h4:s):p/\q/\r/\s:=⟨h1,h2,h3,h4⟩
theorem y3a2 {A B D:Sort _}{p q:A->B->D->Prop}(a:A)(b:B)(c:D)(h1:p a b c)(h2:q a b c):∃a b c,p a b c/\q a b c:=⟨a,b,c,h1,h2⟩
theorem y2a3 {A B:Sort _}{p q r:A->B->Prop}(a:A)(b:B)(h1:p a b)(h2:q a b)(h3:r a b):∃a b,p a b/\q a b/\r a b:=⟨a,b,h1,h2,h3⟩
theorem y1a4 {A:Sort _}{p q r s:A->Prop}(a:A)(h1:p a)(h2:q a)(h3:r a)(h4:s a):∃a,p a/\q a/\r a/\s a:=⟨a,h1,h2,h3,h4⟩
theorem y0a5 {p q r s t:Prop}(h1:p)(h2:q)(h3:r)(h4:s)(h5:t):p/\q/\r/\s/\t:=⟨h1,h2,h3,h4,h5⟩
theorem y4a2 {A B D E:Sort _}{p q:A->B->D->E->Prop}(a:A)(b:B)(c:D)(d:E)(h1:p a b c d)(h2:q a b c d):∃a b c d,p a b c d/\q a b c d:=⟨a,b,c,d,h1,h2⟩
theorem y3a3 {A B D:Sort _}{p q r:A->B->D->Prop}(a:A)(b:B)(c:D)(h1:p a b c)(h2:q a b c)(h3:r a b c):∃a b c,p a b c/\q a b c/\r a b c:=⟨a,b,c,h1,h2,h3⟩
theorem y2a4 {A B:Sort _}{p q r s:A->B->Prop}(a:A)(b:B)(h1:p a b)(h2:q a b)(h3:r a b)(h4:s a b):∃a b,p a b/\q a b/\r a b/\s a b:=⟨a,b,h1,h2,h3,h4⟩
theorem y0a6 {p q r s t u:Prop}(h1:p)(h2:q)(h3:r)(h4:s)(h5:t)(h6:u):p/\q/\r/\s/\t/\u:=⟨h1,h2,h3,h4,h5,h6⟩
theorem y3a4 {A B D:Sort _}{p q r s:A->B->D->Prop}(a:A)(b:B)(c:D)(h1:p a b c)(h2:q a b c)(h3:r a b c)(h4:s a b c):∃a b c,p a b c/\q a b c/\r a b c/\s a b c:=⟨a,b,c,h1,h2,h3,h4⟩
theorem y2a5 {A B:Sort _}{p q r s t:A->B->Prop}(a:A)(b:B)(h1:p a b)(h2:q a b)(h3:r a b)(h4:s a b)(h5:t a b):∃a b,p a b/\q a b/\r a b/\s a b/\t a b:=⟨a,b,h1,h2,h3,h4,h5⟩
theorem y4a4 {A B D E:Sort _}{p q r s:A->B->D->E->Prop}(a:A)(b:B)(c:D)(d:E)(h1:p a b c d)(h2:q a b c d)(h3:r a b c d)(h4:s a b c d):∃a b c d,p a b c d/\q a b c d/\r a b c d/\s a b c d:=⟨a,b,c,d,h1,h2,h3,h4⟩
theorem y3a5 {A B D:Sort _}{p q r s t:A->B->D->Prop}(a:A)(b:B)(c:D)(h1:p a b c)(h2:q a b c)(h3:r a b c)(h4:s a b c)(h5:t a b c):∃a b c,p a b c/\q a b c/\r a b c/\s a b c/\t a b c:=⟨a,b,c,h1,h2,h3,h4,h5⟩
theorem y0a8 {p q r s t u v w:Prop}(h1:p)(h2:q)(h3:r)(h4:s)(h5:t)(h6:u)(h7:v)(h8:w):p/\q/\r/\s/\t/\u/\v/\w:=⟨h1,h2,h3,h4,h5,h6,h7,h8⟩
theorem y4a5 {A B D E:Sort _}{p q r s t:A->B->D->E->Prop}(a:A)(b:B)(c:D)(d:E)(h1:p a b c d)(h2:q a b c d)(h3:r a b c d)(h4:s a b c d)(h5:t a b c d):∃a b c d,p a b c d/\q a b c d/\r a b c d/\s a b c d/\t a b c d:=⟨a,b,c,d,h1,h2,h3,h4,h5⟩
theorem y2a7 {A B:Sort _}{p q r s t u v:A->B->Prop}(a:A)(b:B)(h1:p a b)(h2:q a b)(h3:r a b)(h4:s a b)(h5:t a b)(h6:u a b)(h7:v a b):∃a b,p a b/\q a b/\r a b/\s a b/\t a b/\u a b/\v a b:=⟨a,b,h1,h2,h3,h4,h5,h6,h7⟩
theorem y2a8 {A B:Sort _}{p q r s t u v w:A->B->Prop}(a:A)(b:B)(h1:p a b)(h2:q a b)(h3:r a b)(h4:s a b)(h5:t a b)(h6:u a b)(h7:v a b)(h8:w a b):∃a b,p a b/\q a b/\r a b/\s a b/\t a b/\u a b/\v a b/\w a b:=⟨a,b,h1,h2,h3,h4,h5,h6,h7,h8⟩
theorem y4a8 {A B D E:Sort _}{p q r s t u v w:A->B->D->E->Prop}(a:A)(b:B)(c:D)(d:E)(h1:p a b c d)(h2:q a b c d)(h3:r a b c d)(h4:s a b c d)(h5:t a b c d)(h6:u a b c d)(h7:v a b c d)(h8:w a b c d):∃a b c d,p a b c d/\q a b c d/\r a b c d/\s a b c d/\t a b c d/\u a b c d/\v a b c d/\w a b c d:=⟨a,b,c,d,h1,h2,h3,h4,h5,h6,h7,h8⟩
theorem y0a12 {p q r s t u v w x y z P:Prop}(h1:p)(h2:q)(h3:r)(h4:s)(h5:t)(h6:u)(h7:v)(h8:w)(h9:x)(h10:y)(h11:z)(h12:P):p/\q/\r/\s/\t/\u/\v/\w/\x/\y/\z/\P:=⟨h1,h2,h3,h4,h5,h6,h7,h8,h9,h10,h11,h12⟩
theorem y3a10 {A B D:Sort _}{p q r s t u v w x y:A->B->D->Prop}(a:A)(b:B)(c:D)(h1:p a b c)(h2:q a b c)(h3:r a b c)(h4:s a b c)(h5:t a b c)(h6:u a b c)(h7:v a b c)(h8:w a b c)(h9:x a b c)(h10:y a b c):∃a b c,p a b c/\q a b c/\r a b c/\s a b c/\t a b c/\u a b c/\v a b c/\w a b c/\x a b c/\y a b c:=⟨a,b,c,h1,h2,h3,h4,h5,h6,h7,h8,h9,h10⟩
theorem y10a5 {A B D E F G H I J K:Sort _}{p q r s t:A->B->D->E->F->G->H->I->J->K->Prop}(a:A)(b:B)(c:D)(d:E)(e:F)(f:G)(g:H)(i:I)(j:J)(l:K)(h1:p a b c d e f g i j l)(h2:q a b c d e f g i j l)(h3:r a b c d e f g i j l)(h4:s a b c d e f g i j l)(h5:t a b c d e f g i j l):∃a b c d e f g i j l,p a b c d e f g i j l/\q a b c d e f g i j l/\r a b c d e f g i j l/\s a b c d e f g i j l/\t a b c d e f g i j l:=⟨a,b,c,d,e,f,g,i,j,l,h1,h2,h3,h4,h5⟩
theorem y4a11 {A B D E:Sort _}{p q r s t u v w x y z:A->B->D->E->Prop}(a:A)(b:B)(c:D)(d:E)(h1:p a b c d)(h2:q a b c d)(h3:r a b c d)(h4:s a b c d)(h5:t a b c d)(h6:u a b c d)(h7:v a b c d)(h8:w a b c d)(h9:x a b c d)(h10:y a b c d)(h11:z a b c d):∃a b c d,p a b c d/\q a b c d/\r a b c d/\s a b c d/\t a b c d/\u a b c d/\v a b c d/\w a b c d/\x a b c d/\y a b c d/\z a b c d:=⟨a,b,c,d,h1,h2,h3,h4,h5,h6,h7,h8,h9,h10,h11⟩
@[elab_as_elim] theorem rwT {α:Sort _}{a b:α}{p:α->Prop}(h:a=b)(x:p b):p a:=h▸x
@[elab_as_elim] theorem rwS {α:Sort _}{a b:α}{p:α->Prop}(h:b=a)(x:p b):p a:=h▸x
theorem nn {α:Type}{a:α}{P:Prop}(h:qb=qa a):P:=nomatch h
theorem ff {P:Prop}(h:qg=qe):P:=nomatch h
theorem sj {α:Type}{x:Option α}{a b:α}(h:x=qa a)(g:x=qa b):a=b:=zc (h.symm.trans g)
theorem sn {α:Type}{x:Option α}{a:α}{P:Prop}(h:x=qa a)(g:x=qb):P:=nomatch h.symm.trans g
theorem sq {α β:Type}{a c:α}{b d:β}{P:Prop}(h:qa (a,b)=qa (c,d))(k:a=c->b=d->P):P:=k (congrArg Q3 (zc h)) (congrArg qgj (zc h))
theorem inC {α:Type}{P:α->Prop}{a:α}{l:List α}(h:P a)(r:∀x∈l,P x):∀x∈a :: l,P x:=List.forall_mem_cons.mpr ⟨h,r⟩
theorem A2 {α:Type}{P:α->Prop}:∀x∈([]:List α),P x:=λ_ h=>nomatch h
set_option tactic.hygienic true in
theorem Ni {α β:Type} [BEq α] [LawfulBEq α]{k:α}{v:β}:∀{l:List (α×β)},l.lookup k=qa v->(k,v)∈l
 | (a,x) :: r,h=>by
  rw[Al] at h
  split at h
  ·rename_i e;cases h;rw[eq_of_beq e];exact zB ..
  ·exact zI _ (Ni h)
theorem iQ {α β:Type}{f:α->β}{x:Option α}{b:β}(h:x.map f=qa b):∃a,x=qa a/\qa (f a)=qa b:=by cases x with | none=>cases h | some a=>exact⟨a,rfl,h⟩
noncomputable def xv {γ:Type}(e:qA)(n:qf->γ)(t:List qA->γ)(d:List (Option qA)->List qA->qT->γ)(c:PySem.Const->γ)(l:qA->List qA->List Ht->γ)(s:qA->qA->γ)(a:qA->qf->γ)(g z y:γ):γ :=
 match e with
 | .Name x _=>n x
 | .Tuple es _ _=>t es
 | .Dict ks vs p=>d ks vs p
 | .Constant k _ _=>c k
 | .Call f es ks _=>l f es ks
 | .Subscript o i _=>s o i
 | .Attribute o x _=>a o x
 | .ListComp ..=>g
 | .SetComp ..=>g
 | .DictComp ..=>g
 | .Slice ..=>z
 | _=>y
noncomputable def xn {γ:Type}(e:qA)(f:qf->γ)(y:γ):γ:=xv e f (λ_=>y) (λ_ _ _=>y) (λ_=>y) (λ_ _ _=>y) (λ_ _=>y) (λ_ _=>y) y y y
noncomputable def xt {γ:Type}(e:qA)(f:List qA->γ)(y:γ):γ:=xv e (λ_=>y) f (λ_ _ _=>y) (λ_=>y) (λ_ _ _=>y) (λ_ _=>y) (λ_ _=>y) y y y
noncomputable def xd {γ:Type}(e:qA)(f:List (Option qA)->List qA->qT->γ)(y:γ):γ:=xv e (λ_=>y) (λ_=>y) f (λ_=>y) (λ_ _ _=>y) (λ_ _=>y) (λ_ _=>y) y y y
noncomputable def xc {γ:Type}(e:qA)(f:PySem.Const->γ)(y:γ):γ:=xv e (λ_=>y) (λ_=>y) (λ_ _ _=>y) f (λ_ _ _=>y) (λ_ _=>y) (λ_ _=>y) y y y
noncomputable def Zq {α:Type}(l:List α):Bool:=match l with | []=>qe | _=>qg
noncomputable def bnd {α β γ:Type}(x:Option (α×β))(f:α->β->Option γ):Option γ:=match x with | some (a,b)=>f a b | none=>qb
noncomputable def bn1 {α γ:Type}(x:Option α)(f:α->Option γ):Option γ:=match x with | some a=>f a | none=>qb
noncomputable def bnT {β γ:Type}(x:Option (Bool×β))(f g:β->Option γ):Option γ:=match x with | some (qe,s)=>f s | some (qg,s)=>g s | none=>qb
section
variable {α β γ:Type}{r:γ}{P:Prop}
theorem b2 {x:Option (α×β)}{f:α->β->Option γ}(e:bnd x f=qa r)(k:∀a b,x=qa (a,b)->f a b=qa r->P):P:=by
 cases x with
 | none=>exact nn e
 | some p=>exact k p.1 p.2 rfl e
theorem b1 {x:Option α}{f:α->Option γ}(e:bn1 x f=qa r)(k:∀a,x=qa a->f a=qa r->P):P:=by
 cases x with
 | none=>exact nn e
 | some p=>exact k p rfl e
theorem bt {x:Option (Bool×β)}{f g:β->Option γ}(e:bnT x f g=qa r)
  (k:∀s,x=qa (qe,s)->f s=qa r->P) (l:∀s,x=qa (qg,s)->g s=qa r->P):P:=by
 cases x with
 | none=>exact nn e
 | some p=>cases p with | mk b s=>cases b with
  | false=>exact l s rfl e
  | true=>exact k s rfl e
theorem bi {c:Prop} [Decidable c]{t:Option γ}(e:(if c then t else qb)=qa r)(k:c->t=qa r->P):P :=
 if h:c then k h ((if_pos h).symm.trans e) else nn ((if_neg h).symm.trans e)
theorem bn {c:Prop} [Decidable c]{t:Option γ}(e:(if c then qb else t)=qa r)(k:¬c->t=qa r->P):P :=
 if h:c then nn ((if_pos h).symm.trans e) else k h ((if_neg h).symm.trans e)
theorem Ox {c:Prop} [Decidable c]{t e:Option γ}(h:(if c then t else e)=qa r)(k:c->t=qa r->P)(l:¬c->e=qa r->P):P :=
 if q:c then k q ((if_pos q).symm.trans h) else l q ((if_neg q).symm.trans h)
end
section
variable {α β γ:Type}
theorem z8 {x:Option (α×β)}{a:α}{b:β}{f:α->β->Option γ}{r:Option γ}(h:x=qa (a,b))(e:f a b=r):bnd x f=r:=h▸e
theorem qZ {x:Option α}{a:α}{f:α->Option γ}{r:Option γ}(h:x=qa a)(e:f a=r):bn1 x f=r:=h▸e
theorem D5 {x:Option (Bool×β)}{c:Bool}{b:β}{f g:β->Option γ}{r:Option γ}(h:x=qa (c,b))(e:(if c then f b else g b)=r):bnT x f g=r:=by subst h;cases c <;> exact e
end
def OP (k:String)(n:Nat)(s:List Lean.Syntax):List Lean.Syntax:=.node .none k.toName (s.take n).reverse.toArray :: s.drop n
def rS (a s:List Lean.Syntax)(c:Nat)(r:String):List Lean.Syntax :=
 if c=39 then .atom .none r :: s else if c=64 then (Lean.mkIdent r.toName).raw :: s else if c=37 then a.getD r.toNat! .missing :: s
 else if r = "" then OP "null" (c - 48) s else if c=48 then OP r 1 s else OP ("Lean.Parser.T" ++ r) (c - 48) s
def Wm (a:List Lean.Syntax):List String->List Lean.Syntax->Lean.Syntax
 | [],s=>s.headD .missing
 | t :: ts,s=>Wm a ts (rS a s t.front.toNat (String.ofList (t.toList.drop 1)))
def vb (s:String)(a:List Lean.Syntax):Lean.Syntax:=Wm a (s.splitOn " ") []
def LD (s:String):Lean.Syntax:=Lean.mkIdent s.toName
def En (a:List Lean.Syntax):Lean.Syntax:=.node .none `null a.toArray
def D3 {α β:Type}(f:α->β->β)(t:β):List α->β
 | x :: r=>f x (D3 f t r)
 | []=>t
def Mf (v:String)(n:Nat)(t:Lean.Syntax)(f:Lean.Syntax->Lean.Syntax->Lean.Syntax):Lean.Syntax:=D3 (λk=>f (LD (v++k.repr ++ "a" ++ (n - k).repr))) t (zx n).reverse
def fZ:List Lean.Syntax->Lean.Syntax:=D3 (λr s=>vb "'( 'first '| 'refine %0 %1 '.. 1erm.ellipsis 1 2erm.app '? '_ 2erm.syntheticHole 2 2erm.app 2actic.refine 1 1actic.tacticSeq1Indented 1actic.tacticSeq 2 '| 'refine %0 %1 '? '_ 2erm.syntheticHole 2 2erm.app 2actic.refine 1 1actic.tacticSeq1Indented 1actic.tacticSeq 2 '| 'rewrite 0 1actic.optConfig '[ %2 1 '] 3actic.rwRuleSeq 0 4actic.rewriteSeq 1 1actic.tacticSeq1Indented 1actic.tacticSeq 2 3 2actic.first '; %3 3 1actic.tacticSeq1Indented 1actic.tacticSeq ') 3actic.paren" [LD (if r[0].getNumArgs=0 then "rwT" else "rwS"),r[1],r,s]) (vb "'try 'with_reducible 'rfl 1actic.tacticRfl 1 1actic.tacticSeq1Indented 1actic.tacticSeq 2actic.withReducible 1 1actic.tacticSeq1Indented 1actic.tacticSeq 2actic.tacticTry_" [])
def qbA (x a:Lean.Syntax):List String->Lean.Syntax:=D3 (λn s=>vb "'first '| 'induction 0 %0 2actic.elimTarget 1 'using %1 2 0 %2 1 5actic.induction 1 1actic.tacticSeq1Indented 1actic.tacticSeq 2 '| %3 1 1actic.tacticSeq1Indented 1actic.tacticSeq 2 2 2actic.first" [x,LD (n ++ "On"),a,s]) (vb "'cases 0 '@ %0 2erm.explicit 2actic.elimTarget 1 0 %1 1 4actic.cases" [x,a])
def UK (s:Lean.Syntax):Lean.Syntax:=s.rewriteBottomUp λx=>x.setInfo .none
def So (m d:Lean.Syntax):Lean.MacroM Lean.Syntax:=if d.getPos?.isNone then Lean.Macro.throwUnsupported else return .node .none `Lean.Parser.Command.declaration #[UK m,UK d]
def Zr (p e:Lean.Syntax):Lean.MacroM Lean.Syntax :=
 let a:=p[0].getSepArgs.toList
 let q:=a.headD .missing
 let l:=q[1].getSepArgs.toList
 let n:=l.length
 let t:=vb "'rcases 0 %0 2actic.elimTarget 1 'with '( %1 0 2actic.rcasesPatLo ') 3actic.rcasesPat.paren 1 1actic.rcasesPatMed 0 2actic.rcasesPatLo 2 3actic.rcases" [e,p]
 let c:=if e.isIdent then e else LD "zz"
 if a.length=1 then if n=0\/q.getKind≠`Lean.Parser.Tactic.rcasesPat.tuple then Lean.Macro.throwUnsupported else
  let b:=D3 (λp r=>vb "'( %0 ') 3actic.rcasesPat.paren 1actic.rintroPat.one" [p] :: r) [] l
  return Mf "x" n (D3 (λj t=>Mf "x" (j+2) t (λi t=>vb "'first '| 'refine %0 %1 '? '_ 2erm.syntheticHole 2 2erm.app 2actic.refine '; 'try 'clear %2 1 2actic.clear 1 1actic.tacticSeq1Indented 1actic.tacticSeq 2actic.tacticTry_ '; 'rintro %3 0 3actic.rintro '; 'obtain '⟨ %4 '⟩ 3actic.rcasesPat.tuple 1 1actic.rcasesPatMed 1 0 ':= @zq 1 2 4actic.obtain 7 1actic.tacticSeq1Indented 1actic.tacticSeq 2 '| %5 1 1actic.tacticSeq1Indented 1actic.tacticSeq 2 2 2actic.first" [i,e,c,En (b.take (j+1)++[vb "@zq 1actic.rcasesPat.one 1actic.rintroPat.one" []]),En (q[1].getArgs.toList.drop (2 * j+2)),t])) t (zx (n - 2)).reverse) (λi t=>vb "'first '| 'refine %0 %1 '? '_ 2erm.syntheticHole 2 2erm.app 2actic.refine '; 'try 'clear %2 1 2actic.clear 1 1actic.tacticSeq1Indented 1actic.tacticSeq 2actic.tacticTry_ '; 'rintro %3 0 3actic.rintro 5 1actic.tacticSeq1Indented 1actic.tacticSeq 2 '| %4 1 1actic.tacticSeq1Indented 1actic.tacticSeq 2 2 2actic.first" [i,e,c,En b,t])
 else return vb "'first '| 'refine @Or.elim %0 '? '_ 2erm.syntheticHole '? '_ 2erm.syntheticHole 3 2erm.app 2actic.refine '; 'rotate_left 0 2actic.rotateLeft '; 'try 'clear %1 1 2actic.clear 1 1actic.tacticSeq1Indented 1actic.tacticSeq 2actic.tacticTry_ '; %3 '; 'rotate_right 0 2actic.rotateRight '; 'try 'clear %1 1 2actic.clear 1 1actic.tacticSeq1Indented 1actic.tacticSeq 2actic.tacticTry_ '; 'rintro '( %2 1 1actic.rcasesPatMed 0 2actic.rcasesPatLo ') 3actic.rcasesPat.paren 1actic.rintroPat.one 1 0 3actic.rintro = 1actic.tacticSeq1Indented 1actic.tacticSeq 2 '| %4 1 1actic.tacticSeq1Indented 1actic.tacticSeq 2 2 2actic.first" [e,c,q,vb "'rintro '( %0 1actic.rcasesPatMed 0 2actic.rcasesPatLo ') 3actic.rcasesPat.paren 1actic.rintroPat.one 1 0 3actic.rintro" [En (p[0].getArgs.toList.drop 2)],t]
def qaD (s:Lean.Syntax):Lean.MacroM Lean.Syntax :=
 let k:=s.getArgs.toList.map λp =>
  let l:=if p[0].getKind=`Lean.Parser.Tactic.rcasesPat.paren then p[0][1] else vb "%0 1 1actic.rcasesPatMed 0 2actic.rcasesPatLo" [p[0]]
  if l[0][0].getNumArgs > 1\/l[0][0][0][1].getNumArgs > 0 then (qe,vb "'( 'rintro @zq 1actic.rcasesPat.one 1actic.rintroPat.one 1 0 3actic.rintro '; 'rcases 0 @zq 2actic.elimTarget 1 'with %0 2 3actic.rcases 3 1actic.tacticSeq1Indented 1actic.tacticSeq ') 3actic.paren" [l]) else (qg,vb "'rintro %0 1 0 3actic.rintro" [p])
 if k.any (·.1) then return D3 (λt r=>vb "'( %0 '; %1 3 1actic.tacticSeq1Indented 1actic.tacticSeq ') 3actic.paren" [t.2,r]) (vb "'skip 1actic.skip" []) k else Lean.Macro.throwUnsupported
def qfc (e:Lean.Syntax):Lean.MacroM Lean.Syntax:=if e.getKind=`Lean.Parser.Term.anonymousCtor then
  let l:=e[1].getSepArgs.toList
  let n:=l.length
  return Mf "y" n (D3 (λj t=>if (l.take (j+1)).any λx=>(x.find? λy=>y.getKind=`Lean.Parser.Term.syntheticHole).isSome then t else
   Mf "y" (j+2) t (λi t=>vb "'first '| 'refine %0 %1 2erm.app 2actic.refine '; 'refine '⟨ %2 '⟩ 3erm.anonymousCtor 2actic.refine 3 1actic.tacticSeq1Indented 1actic.tacticSeq 2 '| %3 1 1actic.tacticSeq1Indented 1actic.tacticSeq 2 2 2actic.first" [i,En (l.take (j+1)++[vb "'? '_ 2erm.syntheticHole" []]),En (e[1].getArgs.toList.drop (2 * j+2)),t])) (vb "'refine '( @ 0hygieneInfo 2erm.hygienicLParen %0 ') 3erm.paren 2actic.refine" [e]) (zx (n - 2)).reverse) (λi t=>vb "'first '| 'refine %0 %1 2erm.app 2actic.refine 1 1actic.tacticSeq1Indented 1actic.tacticSeq 2 '| %2 1 1actic.tacticSeq1Indented 1actic.tacticSeq 2 2 2actic.first" [i,En l,t]) else Lean.Macro.throwUnsupported
end Mine.Internal
section
open Mine.Internal
local macro_rules
 | `(tactic| obtain $p:rcasesPatMed:=$e:term)=>Zr p e
local macro_rules
 | `(tactic| rcases $e:term with $p:rcasesPatLo)=>Zr p.raw[0] e
local macro_rules
 | `(tactic| rintro $ps*)=>qaD (En (ps.raw.toList))
local macro_rules
 | `(tactic| refine $e)=>qfc e
local macro_rules
 | `(tactic| cases $x:ident)=>return vb "'first '| 'obtain @rfl 1actic.rcasesPat.one 1 1actic.rcasesPatMed 1 0 ':= @Option.some.inj %0 1 2erm.app 1 2 4actic.obtain '; 'try 'clear %0 1 2actic.clear 1 1actic.tacticSeq1Indented 1actic.tacticSeq 2actic.tacticTry_ 3 1actic.tacticSeq1Indented 1actic.tacticSeq 2 '| 'refine @sq %0 '? '_ 2erm.syntheticHole 2 2erm.app 2actic.refine '; 'try 'clear %0 1 2actic.clear 1 1actic.tacticSeq1Indented 1actic.tacticSeq 2actic.tacticTry_ '; 'rintro '( @rfl 1actic.rcasesPat.one 1 1actic.rcasesPatMed 0 2actic.rcasesPatLo ') 3actic.rcasesPat.paren 1actic.rintroPat.one '( @rfl 1actic.rcasesPat.one 1 1actic.rcasesPatMed 0 2actic.rcasesPatLo ') 3actic.rcasesPat.paren 1actic.rintroPat.one 2 0 3actic.rintro 5 1actic.tacticSeq1Indented 1actic.tacticSeq 2 '| 'exact @nn %0 1 2erm.app 2actic.exact 1 1actic.tacticSeq1Indented 1actic.tacticSeq 2 '| 'exact @ff %0 1 2erm.app 2actic.exact 1 1actic.tacticSeq1Indented 1actic.tacticSeq 2 '| 'rcases 0 %0 2actic.elimTarget 1 'with '( '⟨ 0 '⟩ 3actic.rcasesPat.tuple 1 1actic.rcasesPatMed 0 2actic.rcasesPatLo ') 3actic.rcasesPat.paren 1 1actic.rcasesPatMed 0 2actic.rcasesPatLo 2 3actic.rcases 1 1actic.tacticSeq1Indented 1actic.tacticSeq 2 '| 'cases 0 '@ %0 2erm.explicit 2actic.elimTarget 1 0 0 4actic.cases 1 1actic.tacticSeq1Indented 1actic.tacticSeq 2 6 2actic.first" [x]
 | `(tactic| cases $x:ident $a:inductionAlts)=>return qbA x a ("Option.cases List.cases V.cases Or.cases Nat.casesAux Bool.cases AObj.cases Value.cases Expr.cases Prod.cases Stmt.cases Fl.cases Comprehension.cases It.cases NameKind.cases Const.cases E.cases S.cases Obj.cases Keyword.cases Str.cases Flow.cases Decidable.cases".splitOn " ")
local macro_rules
 | `(tactic| show $t)=>return vb "'first '| 'refine '( @ 0hygieneInfo 2erm.hygienicLParen '? '_ 2erm.syntheticHole ': %0 1 ') 5erm.typeAscription 2actic.refine 1 1actic.tacticSeq1Indented 1actic.tacticSeq 2 '| 'change %0 0 3actic.change 1 1actic.tacticSeq1Indented 1actic.tacticSeq 2 2 2actic.first" [t]
local macro_rules
 | `(tactic| rw[$rs,*])=>return fZ rs.getElems.raw.toList
local macro_rules
 | `(command| $m:declModifiers $d:theorem)=>So m d
 | `(command| $m:declModifiers $d:definition)=>So m d
namespace Mine.Internal
open PySem PySem.W PyProof.Rows
section
open PySem.Calls
theorem qeZ (he:endAt 0 t=qa g):∃c q,t=⟨.pure (.done g),c,q,[]⟩:=by
 obtain⟨cur,code,pos,Ew⟩:=t
 cases Ew with
 | cons a r=>exact nn he
 | nil =>
  cases cur with
  | pure fin=>cases fin with
   | done f=>obtain rfl:=zc he;refine⟨code,pos,rfl⟩
   | again c=>exact nn he
  | _=>exact nn he
theorem Xe:∀(n:Nat)(s:qk)(t:FM)(f:A8)(s':qk)(c:Code)(q:qT),
  JF vg p w Mn ann 0 n s t=qa (f,s',c,q)->(⟨.pure (.done f),c,q,[]⟩:FM).calm=qe->Mo s'.gens=qg ->
  ∃m,BI (wm vg) p w m s t=.halted (.done f) s'/\∀k s₁ t₁,BI (wm vg) p w k s t=.running s₁ t₁->t₁.calm=qe
 | 0=>@λ_ _ _ _ _ _ h _ _=>by simp[JF] at h
 | n+1=>@λs t f s' c q h hc hl=>by
  unfold JF at h
  cases he:endAt 0 t with
  | some g =>
   rw[he] at h
   obtain⟨rfl,rfl,rfl,rfl⟩:g=f/\s=s'/\t.code=c/\t.pos=q:=by simpa using h
   obtain⟨code,pos,rfl⟩:=qeZ he
   have e:step (wm vg) p w s ⟨.pure (.done g),code,pos,[]⟩=.halt (.done g) s:=by
    exact if_neg (by simpa using hl)
   refine⟨1,by simp only[BI,e],?_⟩
   intro k s₁ t₁ hk
   cases k with
   | zero=>simp only[BI,Run.running.injEq] at hk;obtain⟨_,rfl⟩:=hk;exact hc
   | succ k=>simp only[BI,e] at hk;cases hk
  | none =>
   rw[he] at h
   cases hk:stepOk Mn ann t with
   | false=>rw[hk] at h;cases h
   | true =>
    rw[hk] at h
    cases hs:step (wm vg) p w s t with
    | halt o s₂=>rw[hs] at h;cases h
    | go s₂ BE =>
     rw[hs] at h
     obtain⟨m,h1,h2⟩:=Xe n s₂ BE f s' c q h hc hl
     refine⟨m+1,by simp only[BI,hs];exact h1,?_⟩
     intro k s₁ t₁ hk'
     cases k with
     | zero =>
      simp only[BI,Run.running.injEq] at hk'
      obtain⟨_,rfl⟩:=hk'
      exact(z0.mp hk).1
     | succ k=>simp only[BI,hs] at hk';exact h2 k s₁ t₁ hk'
noncomputable def nk:AF->zr Fin
 | .ok .next=>.pure (.done .next)
 | _=>.unsupported "x"
noncomputable abbrev nf (q:qT):Mp:=.ret nk qb qg [] (.builtin "claim.caller" {}) q []
noncomputable def fin (x:zr A8):zr Fin:=x.bind λf=>.pure (.done f)
theorem Ql:Mo #[]=qg:=by kernel_rfl
theorem Zz
  (h:JF vg p w Mn ann 0 n s t=qa (f,s',c',q')) (hc:(⟨.pure (.done f),c',q',[]⟩:FM).calm=qe) (hg:s'.gens=#[]) :
  Runs (qp p w) ⟨t.code,qb,qb,[],qb⟩ t.pos t.cur t.stack s (.ret (.ok f)) s':=by
 have hl:Mo s'.gens=qg:=by rw[hg];exact Ql
 obtain⟨m,h1,h2⟩:=Xe n s t f s' c' q' h hc hl
 obtain⟨s'',h3,h4⟩:=runN_calm_runNI (wm vg) p w h1 h2
 have:s'=s'':=(qgk (s₁:=s'') (s₂:=s') h4.symm hg).symm
 subst this
 obtain⟨cur,code,pos,Ew⟩:=t
 exact((halts_iff (M:=qp p w) (r:=.ok f)).mp ⟨m,h3⟩).1
noncomputable def Uq (M:A9)(Γ:Ctx)(p:qT)(t:zr Fin)(fs:List Mp)(s:qk)(e:End)(s':qk):Prop:=match fs,e,t with
 | [.ret k h g l c₁ p₁ kp],.ret r',_=>∃r s₁,Runs M (Γ.over [.ret k h g l c₁ p₁ kp]) p t [] s (.ret r) s₁/\Runs M (Γ.goto c₁) p₁ (k r) [] s₁ (.ret r') s'
 | [],_,.pure (.done f)=>s'=s
 | [],_,.unsupported _=>False
 | _,_,_=>True
theorem VB (h:Runs M Γ p t fs s e s'):Uq M Γ p t fs s e s':=by
 apply Runs.casesOn (motive:=λΓ p t fs s e s' _=>Uq M Γ p t fs s e s') h
 case done=>intros;rfl
 case segRet =>
  intro _ _ _ _ _ _ _ _ _ _ fs _ _ _ e _ a b
  cases fs with
  | nil=>cases e with
   | ret=>refine⟨_,_,a,b⟩
   | susp=>trivial
  | cons=>trivial
 case segSuspOut=>intro _ _ _ F fs;intros;cases F <;> cases fs <;> trivial
 case segSuspGen=>intro _ _ _ F fs _ _ _ _ _ _ _ _ _ _ _ _ _ _ e _ q;intros;cases F <;> cases fs <;> first | trivial | cases q
 all_goals intros;trivial
theorem Y5
  (h:JF vg p w Mn ann 0 n s ⟨fin x,c,pos,[nf q]⟩=qa (.next,s',c',q')) (hc:(⟨.pure (.done .next),c',q',[]⟩:FM).calm=qe) (hg:s'.gens=#[]) :
  j6 (qp p w) (AG c [nf q]) x (λa _ s₁=>a=.next/\s₁=s') (λ_ _ _=>False) pos s:=by
 have r:=Zz h hc hg
 dsimp only at r
 obtain⟨r₁,s₁,ha,hb⟩:=VB r
 have e:r₁=.ok .next/\s₁=s':=by
  have hc:=VB hb
  cases r₁ with
  | error e=>exact hc.elim
  | ok f=>cases f with
   | next=>refine⟨rfl,qgl hc⟩
   | _=>exact hc.elim
 obtain⟨rfl,rfl⟩:=e
 have hw:=(Z0 (qp p w) (AG c [nf q]) (fin x) (λr s₂=>r=.ok .next/\s₂=s₁) pos s).mpr ⟨_,_,ha,rfl,rfl⟩
 have hw':j6 (qp p w) (AG c [nf q]) (x >>= λf=>(Q4 (.done f):zr Fin)) _ _ pos s:=hw
 rw[vU] at hw'
 refine Am _ _ x (λa p₁ s₂ h=>?_) (λe _ _ h=>by simp at h) pos s hw'
 have h':(Z1 a:AF)=.ok .next/\s₂=s₁:=h
 refine⟨by injection h'.1,h'.2⟩
theorem qaI
  (h:JF vg p w Mn ann 0 n s ⟨fin x,c,pos,[]⟩=qa (.next,s',c',q')) (hc:(⟨.pure (.done .next),c',q',[]⟩:FM).calm=qe) (hg:s'.gens=#[]) :
  j6 (qp p w) ⟨c,qb,qb,[],qb⟩ x (λa _ s₁=>a=.next/\s₁=s') (λ_ _ _=>False) pos s:=by
 have r:=Zz h hc hg
 dsimp only at r
 have hw:=(Z0 (qp p w) ⟨c,qb,qb,[],qb⟩ (fin x) (λr s₂=>r=.ok .next/\s₂=s') pos s).mpr ⟨_,_,r,rfl,rfl⟩
 have hw':j6 (qp p w) ⟨c,qb,qb,[],qb⟩ (x >>= λf=>(Q4 (.done f):zr Fin)) _ _ pos s:=hw
 rw[vU] at hw'
 refine Am _ _ x (λa p₁ s₂ h=>?_) (λe _ _ h=>by simp at h) pos s hw'
 have h':(Z1 a:AF)=.ok .next/\s₂=s':=h
 refine⟨by injection h'.1,h'.2⟩
theorem T6:∀{n:Nat}{s:qk}{t:FM}{o:Outcome}{s':qk},BI den p w n s t=.halted o s' ->
  ∃m s₂ BE,BI den p w m s t=.running s₂ BE/\step den p w s₂ BE=.halt o s'
 | 0,_,_,_,_=>@λh=>by cases h
 | n+1,s,t,o,s'=>@λh=>by
  simp only[BI] at h
  cases hs:step den p w s t with
  | go s₁ t₁ =>
   simp only[hs] at h
   obtain⟨m,s₂,BE,h1,h2⟩:=T6 h
   refine⟨m+1,s₂,BE,by simp only[BI,hs];exact h1,h2⟩
  | halt o₁ s₁ =>
   simp only[hs] at h
   injection h with e1 e2
   subst e1 e2
   refine⟨0,s,t,rfl,hs⟩
noncomputable def IH:Step->Bool
 | .halt (.done _) _=>qe
 | _=>qg
theorem dI [Decidable c](h:IH a=qg)(k:IH b=qg):IH (if c then a else b)=qg:=by
 by_cases hc:c
 ·rw[if_pos hc];exact h
 ·rw[if_neg hc];exact k
theorem qfZ {s:qk}{code:Code}{pos:qT}{Ew:List Mp}:∀(cur:zr Fin),
  (IH (step den p w s ⟨cur,code,pos,Ew⟩)=qg)\/Z2 ⟨cur,code,pos,Ew⟩=qe:=by
 intro cur
 cases cur with
 | pure fn =>
  cases fn with
  | done g =>
   cases Ew with
   | nil=>exact .inr rfl
   | cons F r=>cases F <;> exact .inl rfl
  | again c=>exact .inl rfl
 | raise e =>
  cases Ew with
  | nil=>exact .inl (dI rfl rfl)
  | cons F r=>cases F <;> exact .inl rfl
 | finish e=>exact .inl (dI rfl rfl)
 | update a x f k=>exact .inl (dI rfl rfl)
 | choose a x k=>exact .inl (dI rfl rfl)
 | load a x k=>refine .inl ?_;delta step;dsimp only;generalize s.heap.get? a=o;cases o <;> rfl
 | genState g k=>refine .inl ?_;delta step;dsimp only;generalize s.gens[g]?=o;cases o <;> rfl
 | resume g r l k =>
  refine .inl ?_;delta step;dsimp only;generalize s.gens[g]?=o
  cases o with
  | none=>rfl
  | some x=>cases x with
   | fresh c=>cases r with
    | send v=>cases v <;> rfl
    | throw e=>rfl
   | _=>rfl
 | yield v g l k=>refine .inl ?_;delta step;dsimp only;generalize splitAtGen Ew=o;cases o <;> rfl
 | _=>exact .inl rfl
theorem Jp {s s':qk}{t:FM}{f:A8}(h:step den p w s t=.halt (.done f) s'):s'=s/\Z2 t=qe :=
 ⟨step_halt_same den p w s s' t _ h,(qfZ t.cur).elim (λk=>nomatch ((congrArg IH h).symm.trans k)) id⟩
theorem qab {t:zr Fin}{R:AF->qk->Prop}{pos:qT}{s:qk}(hz:s.asleep)
  (h:j6 (qp p w) ⟨c,qb,qb,[],qb⟩ t (JG (qp p w) ⟨c,qb,qb,[],qb⟩ λr s'=>(∃f,r=.ok f)/\R r s'/\s'.gens=#[]) (λ_ _ _=>False) pos s) :
  ∃m r s' t',R r s'/\s'.gens=#[]/\schedN (wm vg) p w m (.single s ⟨t,c,pos,[]⟩)=.running (.single s' t')/\Z2 t'=qe/\s'.heap.life=s.heap.life:=by
 have h':=Am (qp p w) ⟨c,qb,qb,[],qb⟩ t (post':=JG (qp p w) ⟨c,qb,qb,[],qb⟩ λr s'=>((∃f,r=.ok f)/\R r s'/\s'.gens=#[])/\Mo s'.gens=qg)
  (exc':=λe _ s'=>((∃f,(.error e:AF)=.ok f)/\R (.error e) s'/\s'.gens=#[])/\Mo s'.gens=qg) ?_ (λ_ _ _ h=>h.elim) pos s h
 ·obtain⟨n,r,s',hn,⟨⟨f,rfl⟩,hR,hg⟩⟩:=(wp_iff_halts (M:=qp p w) t (λr s'=>(∃f,r=.ok f)/\R r s'/\s'.gens=#[]) pos s).mp h'
  obtain⟨s'',hr,hf,hc⟩:=runNI_real (wm vg) p w hn (outcomeOf_ends (.ok f))
  have e:s''=s':=qgk hf hg
  subst e
  have zy:∀k s₂,BI (wm vg) p w k s ⟨t,c,pos,[]⟩≠.halted (.unsupported "lifetime:generator-with-cleanup-left-suspended") s₂:=by
   intro k s₂ hk
   have a:=runN_mono (wm vg) p w n k s ⟨t,c,pos,[]⟩ _ s'' hr
   have b:=runN_mono (wm vg) p w k n s ⟨t,c,pos,[]⟩ _ s₂ hk
   rw[Hu,b] at a
   injection a with a1 _
   cases a1
  obtain⟨m,s₂,BE,h1,h2⟩:=T6 hr
  obtain⟨rfl,ht⟩:=Jp h2
  refine⟨m,_,s'',BE,hR,hg,?_,ht,runN_life (wm vg) p w hr⟩
  rw[schedN_eq_runN (wm vg) p w s _ hz ⟨hc,zy⟩ m,h1]
  rfl
 ·intro a p' s' h
  cases a with
  | done f=>refine⟨h,by have h2:=h;simp only[JG] at h2;rw[h2.2.2];exact Ql⟩
  | again c' =>
   obtain⟨hq,hw⟩:=h
   refine⟨hq,?_⟩
   obtain⟨r,s₂,hr,hx⟩:=hw
   refine⟨r,s₂,hr,hx,by rw[hx.2.2];exact Ql⟩
theorem qeq (h:(qp p w).step s t=.go s₁ t₁):s₁.heap.life=s.heap.life:=by
 have h':stepI (wm vg) p w s t=.go s₁ t₁:=h
 unfold stepI at h'
 by_cases hl:t.loud=qe
 ·simp[hl] at h'
 ·simp only[hl,FN,if_false] at h'
  have e:=stepK_forget (wm vg) p w s t
  rw[h'] at e
  cases hs:step (wm vg) p w s t with
  | halt o s₂=>rw[hs] at e;cases e
  | go s₂ BE =>
   rw[hs] at e
   simp only[Step.forget,qiB] at e
   have e1:=(Shared.forget_eq e.1).1
   rw[e1]
   exact step_life (wm vg) p w s s₂ t BE hs
theorem gO {base:List Mp} {s t c q pre s' e}(h:Reach (qp p w) base s t c q pre s' e):s'.heap.life=s.heap.life:=by
 induction h with
 | exit=>rfl
 | step hs _ ih=>rw[ih];exact qeq hs
theorem qeD {base:List Mp}{x:zr qh}{Q:qh->qk->Prop}{pos:qT}{s:qk}
  (h:j6 (qp p w) (AG c base) x (λa _ s'=>Q a s') (λ_ _ _=>False) pos s) :
  j6 (qp p w) (AG c base) x (λa _ s'=>Q a s'/\s'.heap.life=s.heap.life) (λ_ _ _=>False) pos s:=by
 have h1:j6 (qp p w) (AG c base) (x >>= λv=>(Q4 (.done (.ret v)):zr Fin)) (JG (qp p w) (AG c base) λr s'=>∃v,r=.ok (.ret v)/\Q v s') (λe _ s'=>∃v,(.error e:AF)=.ok (.ret v)/\Q v s') pos s:=by
  rw[vU]
  exact Am _ _ x (λa _ s' hq=>⟨a,rfl,hq⟩) (λ_ _ _ e=>e.elim) pos s h
 obtain⟨r,s',hr,v,rfl,hq⟩:=(qgm (M:=qp p w) (base:=base) (c:=c) _ (λr s'=>∃v,r=.ok (.ret v)/\Q v s') pos s).mp h1
 have h2:=(qgm (M:=qp p w) (base:=base) (c:=c) _ (λr s'=>∃v,r=.ok (.ret v)/\Q v s'/\s'.heap.life=s.heap.life) pos s).mpr ⟨_,s',hr,v,rfl,hq,gO hr⟩
 rw[vU] at h2
 refine Am _ _ x (λa p₁ s₂ h=>?_) (λe _ _ h=>?_) pos s h2
 ·obtain⟨v',e,hq',hl⟩:∃v',(Z1 (qgn a):AF)=.ok (.ret v')/\Q v' s₂/\s₂.heap.life=s.heap.life:=h
  cases e
  refine⟨hq',hl⟩
 ·obtain⟨v',e',_⟩:=h
  cases e'
theorem Zp {env:q0}{E:qh->qT->qk->Prop}:∀(l:List z6)(pos:qT)(s:qk),
  j6 M Γ (jS l env) (λa p s'=>a=.next/\j6 M Γ (jS r env) Q E p s') E pos s->j6 M Γ (jS (l++r) env) Q E pos s
 | []=>@λpos s h=>by
  have h':Ey=Ey/\j6 M Γ (jS r env) Q E pos s:=h
  exact h'.2
 | st :: l=>@λpos s h=>by
  have e:∀l,jS (st :: l) env=(Hv st env >>= λf=>match f with | .next=>jS l env | f=>pure f):=λ_=>rfl
  rw[e,vU] at h
  rw[Q5,e,vU]
  refine Am M Γ _ (λa p₁ s₁ h=>?_) (λ_ _ _ e=>e) pos s h
  cases a with
  | next=>exact Zp l p₁ s₁ h
  | brk=>have h':Flow.brk=Ey/\_:=h;cases h'.1
  | cont=>have h':Flow.cont=Ey/\_:=h;cases h'.1
  | ret v=>have h':qgn v=Ey/\_:=h;cases h'.1
noncomputable def cI:PySem.Const->Option Int | .int i=>qa i | _=>qb
noncomputable def cT:PySem.Const->Option qf | .str x=>qa x | _=>qb
noncomputable def kI:Option qA->Option Int | some e=>xc e cI qb | none=>qb
noncomputable def vT (e:qA):Option qf:=xc e cT qb
noncomputable def I0:List (Option qA)->List qA->Option (List (Int×qf))
 | [],[]=>qa []
 | k :: ks,v :: vs=>bn1 (kI k) λi=>bn1 (vT v) λx=>(I0 ks vs).map ((i,x) :: ·)
 | _,_=>qb
theorem qfO (h:kI k=qa i):∃a b,k=qa (.Constant (.int i) a b):=by
 cases k with
 | none=>exact nn h
 | some e=>cases e with
  | Constant c a b=>cases c with
   | int j=>cases h;refine⟨a,b,rfl⟩
   | _=>exact nn h
  | _=>exact nn h
theorem xH (h:vT e=qa x):∃a b,e=.Constant (.str x) a b:=by
 cases e with
 | Constant c a b=>cases c with
  | str j=>cases h;refine⟨a,b,rfl⟩
  | _=>exact nn h
 | _=>exact nn h
theorem qdK {E:qh->qk->Prop} [Decidable c](h:c)(k:qq M A x Q E s):qq M A (if c then x else y) Q E s:=(if_pos h).symm▸k
theorem Hp {E:qh->qk->Prop} [Decidable c](h:¬c)(k:qq M A y Q E s):qq M A (if c then x else y) Q E s:=(if_neg h).symm▸k
theorem tG {E:qh->qk->Prop}(e:a=b)(h:Q b s):qq M A (pure a) Q E s:=qB (e▸h)
inductive wC {α:Type}(val:α->An->qh):List (Int×qh)->List (Int×α)->Prop
 | nil:wC val [] []
 | cons {k:Int} {x:α} {t:An} {vs:List (Int×qh)} {ks:List (Int×α)}:wC val vs ks->wC val ((k,val x t) :: vs) ((k,x) :: ks)
noncomputable abbrev G0:=wC JH
section
variable {α:Type}{val:α->An->qh}{vs qW:List (Int×qh)}{ks ks':List (Int×α)}
theorem wC.keys (h:wC val vs ks):vs.map (·.1)=ks.map (·.1):=by
 induction h with
 | nil=>rfl
 | cons _ ih=>exact congrArg (List.cons _) ih
theorem wC.append (h:wC val vs ks)(h':wC val qW ks'):wC val (vs++qW) (ks++ks'):=by
 induction h with
 | nil=>exact h'
 | cons _ ih=>exact .cons ih
theorem wC.length (h:wC val vs ks):vs.length=ks.length:=by
 induction h with
 | nil=>rfl
 | cons _ ih=>exact congrArg (· + 1) ih
end
noncomputable def kz {α:Type}(mk:α->zr qh)(pos:qT)(kx:Int×α):zr qh×zr qh:=(Hw kx.1,do let y <-mk kx.2;wQ pos;pure y)
noncomputable def items {α:Type}(mk:α->zr qh)(pos:qT)(ks:List (Int×α)):List (Option (zr qh)×zr qh):=ks.map λkx=>(qa (kz mk pos kx).1,(kz mk pos kx).2)
noncomputable def AS (h h':Heap):Prop:=∀b o,h.get? b=qa o->h'.get? b=qa o
theorem AS.trans (x:AS a b)(y:AS b c):AS a c:=λ_ _ e=>y _ _ (x _ _ e)
theorem Oq (ha:qd.get? a=qb)(k:AS qd h)(s:Heap.SameBut a h h'):AS qd h':=λb o e =>
 (s.2 b λz=>nn (ha.symm.trans (z▸e))).trans (k b o e)
theorem QW (h:Heap):h.get? h.objs.size=qb:=by
 cases e:h.get? h.objs.size with
 | none=>rfl
 | some o=>exact absurd (Heap.lt_size e) (j7 _)
theorem XO (h:Heap)(o:zk):(h.push o).objs.size=h.objs.size+1:=by obtain⟨os,l⟩:=h;simp[Heap.push]
noncomputable def wt (n:Nat)(h:Heap):Prop:=∀b,n<=b->b < h.objs.size->∃o,h.get? b=qa o
theorem wt.sub (l:wt n h)(k:AS h h')(hs:h'.objs.size=h.objs.size+1)(hd:∃o,h'.get? h.objs.size=qa o):wt n h':=λb h1 h2 =>
 (JJ b h.objs.size).elim (λq=>(l b h1 q).imp λ_ ho=>k _ _ ho) λq=>Mq (Nat.lt_succ_iff.mp (Nat.lt_of_lt_of_eq h2 hs)) q▸hd
theorem wt.but (l:wt n h)(hs:Heap.SameBut d h h')(hd:∃o,h'.get? d=qa o):wt n h':=λb h1 h2=>by
 by_cases hb:b=d
 ·exact hb▸hd
 ·exact(l b h1 (hs.1▸h2)).imp λ_ ho=>(hs.2 b hb).trans ho
theorem Zn {x:α}{done ks:List (Int×α)}(h:((done++(k,x) :: ks).map (·.1)).Nodup):k∉done.map (·.1):=λhm=>by
 rw[jQ,BJ] at h
 exact h.2.2 k hm k (.head _) rfl
section
variable {qc:zm}{w:qK}{A:zh}{E:qh->qk->Prop}{α:Type}{mk:α->zr qh}{val:α->An->qh}{pos:qT}
noncomputable def Dr (qc:zm)(w:qK)(mk:α->zr qh)(val:α->An->qh):Prop :=
 ∀{A:zh} {E:qh->qk->Prop} {Q:qh->qk->Prop} (x:α) (s:qk),Q (val x s.toks) { s with toks:=s.toks+1 }->qq (qp qc w) A (mk x) Q E s
structure DT (qc:zm)(w:qK)(val:α->An->qh)(d:qj)(qd:Heap)(n:Nat)(done:List (Int×α))(ql:List (Int×qh))(h:Heap):Prop where
 told:wC val ql done
 dict:h.DictOf (jL qc w) d ql
 kept:AS qd h
 size:h.objs.size=n
theorem DictOf.here {h:Heap}(x:h.DictOf (jL qc w) a vs):∃o,h.get? a=qa o:=x.imp λ_ x=>x.elim λ_ x=>x.elim λ_ x=>x.1
theorem LA {β:Type}{Q:β->qk->Prop}{v:β}(s:qk){a b:Nat}(e:a=b)(h:Q v { s with toks:=a }):Q v { s with toks:=b }:=e▸h
theorem VN (hm:Dr qc w mk val)(h:Q (val kx.2 s.toks) { s with toks:=s.toks+1 }):qq (qp qc w) A (kz mk pos kx).2 Q E s :=
 qm (hm kx.2 s (qm (jM (qB h))))
theorem uL {k:Int}{v:qh}(h:k∉ql.map (·.1)):Mr ql k v=ql++[(k,v)]:=if_neg λq =>
 (by obtain⟨_,hk,he⟩:=C0.mp q;exact h (qG.mpr ⟨_,hk,of_decide_eq_true he⟩))
theorem qcI {s:qk}(x:DT qc w val d qd n done ql s.heap)(hd0:qd.get? d=qb){k:Int}{a:α}{t t':An}(hnew:k∉done.map (·.1))(hl:done.length<=vH)
  {Q:Unit->qk->Prop} (hQ:∀h',DT qc w val d qd n (done++[(k,a)]) (ql++[(k,val a t')]) h'->Q () { s with heap:=h',toks:=s.toks+1 }):qq (qp qc w) A (Z3 d (.int k t) (val a t')) Q E s :=
 qgo (Ez qc w k t) x.dict (λh' hd' hs=>hQ h' ⟨x.told.append (.cons .nil),uL (x.told.keys▸hnew)▸hd',Oq hd0 x.kept hs,hs.1.trans x.size⟩) (x.told.length▸hl)
theorem qeN (hm:Dr qc w mk val){d:qj}{qd:Heap}(hd0:qd.get? d=qb){n:Nat}{Q:PUnit->qk->Prop}{body:zr qh×zr qh->PUnit->zr (ForInStep PUnit)}
  (hb:∀x u,body x u=(do let kv <-x.1;let vv <-B9 [kv] x.2;B9 [kv,vv] (Z3 d kv vv);pure (.yield ⟨⟩))) :
  ∀(ks done:List (Int×α)) (ql:List (Int×qh)) (s:qk),DT qc w val d qd n done ql s.heap->((done++ks).map (·.1)).Nodup->(done++ks).length<=vH ->
  (∀h' jK,DT qc w val d qd n (done++ks) jK h'->Q ⟨⟩ { s with heap:=h',toks:=s.toks+3 * ks.length })->qq (qp qc w) A (forIn (ks.map (kz mk pos)) Z4 body) Q E s:=λks=>by
 induction ks with
 | nil=>exact λdone ql s x _ _ hQ=>qB (hQ s.heap ql ((jF done).symm▸x))
 | cons y ks ih =>
  intro done ql s x jE hl hQ
  obtain⟨k,a⟩:=y
  rw[z7,C1,hb]
  have e:done++(k,a) :: ks=done++[(k,a)]++ks:=(jq done [(k,a)] ks).symm
  refine qm (qm (Ms (qm (zV (VN hm (qm (zV (qcI (s:={ s with toks:=s.toks+1+1 }) (a:=a) x hd0 (Zn jE) (qu (zw▸Ba ..) hl) λh' x'=>qB ?_))))))))
  exact ih (done++[(k,a)]) _ _ x' (e▸jE) (e▸hl) λh'' jK y=>LA (s:={ s with heap:=h'' }) (qgp s.toks 3 (3 * ks.length)).symm (hQ h'' jK (e.symm▸y))
theorem UB (hm:Dr qc w mk val):∀(ks:List (Int×α)){s:qk}{Q:List (qh×qh)->qk->Prop},(∀vs kvs,Carries (jL qc w) vs kvs->wC val kvs ks->vs.length=ks.length->Q vs { s with toks:=s.toks+2 * ks.length }) ->
  qq (qp qc w) A (evalPairs (ks.map (kz mk pos))) Q E s
 | [],_,_=>@λh=>qgq (h [] [] trivial .nil rfl)
 | (k,a) :: ks,s,_=>@λh=>qgr (k:=Hw k) (Ms (VN (kx:=(k,a)) hm (UB hm ks λvs kvs h1 h2 h3 =>
   LA s (qgp s.toks 2 (2 * ks.length)).symm (h ((.int k s.toks,val a (s.toks+1)) :: vs) ((k,val a (s.toks+1)) :: kvs) ⟨Ez qc w k s.toks,rfl,h1⟩ (.cons h2) (congrArg (· + 1) h3)))))
theorem VQ (hm:Dr qc w mk val){ks:List (Int×α)}{s:qk}{Q:qj->qk->Prop}(jE:(ks.map (·.1)).Nodup)(zu:ks.length<=vH)
  (hQ:∀h' vs,DT qc w val s.heap.objs.size s.heap (s.heap.objs.size+1) ks vs h'->Q s.heap.objs.size { s with heap:=h',toks:=s.toks+3 * ks.length }):qq (qp qc w) A (Z5 (ks.map (kz mk pos))) Q E s:=by
 have hk:AS s.heap (s.heap.push { cls:=.type "dict", data:=.dict #[] }):=λb o e=>Heap.get?_push_of_some _ e
 by_cases h:ks.length<=15
 ·refine wpAny_subDict (knd:=jL qc w) (qH (kz mk pos)▸h) (UB hm ks λvs kvs h1 h2 h3=>⟨kvs,h1,Heap.DictOf.new _,λh' hd hs=>?_⟩)
  refine LA (s:={ s with heap:=h' }) (qgl ?_) (hQ h' kvs ⟨h2,merged_nil_of_nodup kvs (h2.keys▸jE)▸hd,Oq (QW _) hk hs,hs.1.trans (XO ..)⟩)
  show s.toks+2 * ks.length+vs.length=_
  rw[h3,EA,<-Z6]
 ·refine qm (Q6 (qm (zV (Hp (qH (kz mk pos)▸h) (qm (JK (qm ?_)))))))
  exact qeN hm (QW _) (λ_ _=>rfl) ks [] [] _ ⟨.nil,Heap.DictOf.new _,hk,XO ..⟩ jE zu λh' vs x=>qB (qB (hQ h' vs x))
theorem qbY (BH:(jL qc w).is k key=qe)(hm:s.heap.DictOf (jL qc w) d kvs)(hnew:k∉kvs.map (·.1))
  (zu:kvs.length<=vH) (hQ:∀h',h'.DictOf (jL qc w) d (kvs++[(k,v)])->Heap.SameBut d s.heap h'->Q () { s with heap:=h' }):qq (qp qc w) A (dictPut d ((jL qc w).hash k) key v) Q E s:=by
 obtain⟨o,⟨es⟩,ep,ho,hc,hd,hk,hp,hn⟩:=hm
 have hnone:(v5 es).findIdx? (λe=>(jL qc w).is k e.key)=qb:=by
  rw[List.findIdx?_toArray,hp.findIdx k,List.findIdx?_eq_none_iff]
  exact λkv hkv=>decide_eq_false λe=>hnew (qG.mpr ⟨kv,hkv,e⟩)
 refine qm (wpAny_dictFind_of BH ho hd hk (hnone▸wpAny_updateDictKeys (hz:=qu (BK hp.length) zu) ho hd (hQ _ ⟨_,_,ep+1,Heap.get?_update_self _ ho (Obj.isFreed_of_dict (qgs hd _)),
   hc.mapDictKeys _,qgs hd _,hk.push BH _,?_,?_⟩ (Heap.SameBut.update ..))))
 ·rw[qgt];exact hp.append BH ((jL qc w).hash k) v
 ·rw[jQ,BJ]
  refine⟨hn,k7.mpr ⟨AH,vy⟩,λa ha b hb e=>hnew (by have hb:b=k:=zE.mp hb;exact hb▸e▸ha)⟩
theorem Zm {f:Nat->PUnit->zr (ForInStep PUnit)}{I:Nat->Heap->Prop}{N:Nat}{s:qk}{Q:PUnit->qk->Prop}
  (step:∀i h,i < N->I i h->∀{Q':ForInStep PUnit->qk->Prop},(∀h',I (i+1) h'->Q' (.yield ⟨⟩) { s with heap:=h' })->qq (qp qc w) A (f i ⟨⟩) Q' E { s with heap:=h }) (fin:∀h',I N h'->Q ⟨⟩ { s with heap:=h' }) :
  ∀n i h,i+n=N->I i h->qq (qp qc w) A (forIn (Ca i n) Z4 f) Q E { s with heap:=h }
 | 0=>@λi h e x=>qB (fin h (e▸x))
 | n+1=>@λi h e x=>by
  rw[Q7,C1]
  exact qm (step i h (e▸Mt (DN n)) x λh' x'=>Zm step fin n (i+1) h' ((Nat.succ_add_eq_add_succ i n).trans e) x')
theorem qfR:isSubtype (.type "dict") (.type "dict")=pure qe:=by rw[qgu];kernel_rfl
structure MI (qc:zm)(w:qK)(d o:qj)(oo:zk)(kvs kQ:List (Int×qh))(qd:Heap)(i:Nat)(h:Heap):Prop where
 dict:h.DictOf (jL qc w) d (kvs++kQ.take i)
 obj:h.get? o=qa oo
 same:Heap.SameBut d qd h
theorem yZ {s:qk}{Q:Unit->qk->Prop}(hdo:d≠o)(hoS:(o == Cb)=qg)(zy:kvs≠[])
  (hd:s.heap.DictOf (jL qc w) d kvs) (ho:s.heap.DictOf (jL qc w) o kQ) (jE:((kvs++kQ).map (·.1)).Nodup) (zu:kvs.length+kQ.length<=vH)
  (hQ:∀h',h'.DictOf (jL qc w) d (kvs++kQ)->Heap.SameBut d s.heap h'->Q () { s with heap:=h' }):qq (qp qc w) A (qgv d (.ref o) qg) Q E s:=by
 have hT:=ho.typeIs
 obtain⟨oo,⟨eso⟩,epo,hoo,-,hdo',hko,hpo,-⟩:=ho
 obtain⟨od,⟨esd⟩,epd,hod,-,hdd,-,hpd,-⟩:=id hd
 have jh:eso.length=kQ.length:=hpo.length
 refine qm (m:=isInstance (.ref o) (.type "dict")) (wpAny_isInstance (b:=qe) hT qfR (qm (Z7 hT F.slot_dict_iter.lookup (qm (tG (beq_self_eq_true _) ?_)))))
 refine Hp (by rw[hoS];decide) (qm (Z8 hod hdd (Hp (λq=>?_) (qm (Z8 hoo hdo' (qm (qgw hoo hdo' (qm ?_))))))))
 ·cases esd with
  | nil=>cases hpd;exact zy rfl
  | cons=>cases q
 rw[Q8]
 refine Zm (I:=MI qc w d o oo kvs kQ s.heap) (N:=eso.length) (λi h hi x Q' k=>?_) (λh' x=>qB (hQ h' (FO (BK jh.symm)▸x.dict) x.same)) _ 0 s.heap (Mu _) ⟨by rw[List.take_zero,jF];exact hd,hoo,Heap.SameBut.refl _ _⟩
 obtain⟨kj,vj,hm⟩:∃kj vj,kQ[i]?=qa (kj,vj):=⟨_,_,kh (jh▸hi)⟩
 obtain⟨BH,hv⟩:=hpo.get? (kh hi) hm
 obtain⟨k',h1,h2⟩:=hko eso[i] (List.mem_toArray.mpr (Q9 hi))
 have htk:kvs++kQ.take (i+1)=kvs++kQ.take i++[(kj,vj)]:=by rw[qgx,hm,jq];rfl
 have hn2:((kvs++kQ.take i++[(kj,vj)]).map (·.1)).Nodup:=htk▸qiC (qiD _ (qiE (qgy _) (List.take_sublist ..))) jE
 cases (jL qc w).inj _ _ _ h1 BH
 have put:∀{Q':Unit->qk->Prop},(∀kC,MI qc w d o oo kvs kQ s.heap (i+1) kC->Q' () { s with heap:=kC })->qq (qp qc w) A (dictPut d eso[i].hash eso[i].key eso[i].val) Q' E { s with heap:=h }:=λhq=>by
  rw[h2,hv]
  exact qbY h1 x.dict (Zn (ks:=[]) hn2) (by rw[zw,Ra];lia) λkC CZ Eu=>hq kC ⟨htk▸CZ,(Eu.2 o (DO hdo)).trans x.obj,x.same.trans Eu⟩
 refine qm (Z8 x.obj hdo' ?_)
 rw[(List.getElem?_toArray ..).trans (kh hi)]
 exact qm (zV (put λkC y=>qm (qgw y.obj hdo' (Hp (by rw[bne_self_eq_false];decide) (qB (k kC y))))))
inductive Dw (qc:zm)(w:qK)(val:α->An->qh)(s:qk):Option qj->List (Int×α)->Nat->Heap->Prop
 | none:Dw qc w val s qb [] 0 s.heap
 | some {done:List (Int×α)} {f:Nat} {ql:List (Int×qh)} {h:Heap} (zy:done≠[]) (x:DT qc w val s.heap.objs.size s.heap (s.heap.objs.size+(f+1)) done ql h) (l:wt s.heap.objs.size h):Dw qc w val s (qa s.heap.objs.size) done (f+1) h
noncomputable def Wu (run:List (zr qh×zr qh))(main:Option qj):zr (Option qj):=if run.isEmpty=qe then pure main else match main with
   | none=>do
    let d <-Z5 run
    pure (qa d)
   | some d=>do
    let sub <-B9 [Hx d] (Z5 run)
    (B9 [Hx d,Hx sub] (qgv d (Hx sub) qg)).onRaise λx=>do
      let _ <-B9 [Hx d,x] (runValue (Rb "proto.let_go" { }))
      pure ()
    pure (qa d)
theorem XW (h:b≠[]):a++b≠[]:=λe=>h (Rc.mp e).2
theorem VL (hm:Dr qc w mk val){s:qk}{main:Option qj}{done ks:List (Int×α)}{f:Nat}{h:Heap}{Q:Option qj->qk->Prop}(hks:ks≠[])(a:Dw qc w val s main done f h)(jE:((done++ks).map (·.1)).Nodup)(zu:(done++ks).length<=vH)(hlow:Cb < s.heap.objs.size)
  (hQ:∀h',Dw qc w val s (qa s.heap.objs.size) (done++ks) (f+1) h'->Q (qa s.heap.objs.size) { s with heap:=h',toks:=s.toks+3 * (done++ks).length }) :
  qq (qp qc w) A (Wu (ks.map (kz mk pos)) main) Q E { s with heap:=h,toks:=s.toks+3 * done.length }:=by
 have hnd2:(ks.map (·.1)).Nodup:=by rw[jQ,BJ] at jE;exact jE.2.1
 refine Hp (λq=>hks (List.map_eq_nil_iff.mp (List.isEmpty_iff.mp q))) ?_
 cases a with
 | none=>exact qm (VQ (s:={ s with toks:=s.toks+3 * ([]:List (Int×α)).length }) hm hnd2 zu λh' vs x=>qB (hQ h' (.some hks x (wt.sub (λb h1 h2=>absurd h2 (k8.mpr h1)) x.kept x.size (DictOf.here x.dict)))))
 | @some _ f ql _ zy x l =>
  rw[zw] at zu
  have qQ:Cb < h.objs.size:=x.size▸Nat.lt_add_right _ hlow
  refine qm (zV (VQ (s:={ s with heap:=h,toks:=s.toks+3 * done.length }) hm hnd2 (qu (Rf ..) zu) λh' vs y=>?_))
  refine qm (Z9 (zV (yZ (x.size▸kR (Mt (DN f))) (beq_eq_false_iff_ne.mpr (FP qQ)) (λq=>by subst q;cases x.told;exact zy rfl) (Heap.DictOf.keep x.dict y.kept) y.dict
   (by rw[jQ,x.told.keys,y.told.keys,<-jQ];exact jE) (by rw[x.told.length,y.told.length];exact zu) λkC CZ Eu=>qB ?_)))
  exact LA (s:={ s with heap:=kC }) ((congrArg (s.toks + ·) ((congrArg (3 * ·) zw).trans (Nat.mul_add ..))).trans (EA ..).symm)
   (hQ kC (.some (XW hks) ⟨x.told.append y.told,CZ,Oq (QW _) (x.kept.trans y.kept) Eu,Eu.1.trans (y.size.trans (congrArg (· + 1) x.size))⟩ ((l.sub y.kept y.size (DictOf.here y.dict)).but Eu (DictOf.here CZ))))
noncomputable abbrev Run:=List (zr qh×zr qh)
theorem Og {body:Option (zr qh)×zr qh->Option qj×Run->zr (ForInStep (Option qj×Run))}(hm:Dr qc w mk val)(jE:(ks.map (·.1)).Nodup)(zu:ks.length<=vH)(hlow:Cb < s.heap.objs.size)
  (hb:∀(kx:Int×α) (st:Option qj×Run),body (qa (kz mk pos kx).1,(kz mk pos kx).2) st=if ((st.2++[kz mk pos kx]).length == 17)=qe then (do let m <-Wu (st.2++[kz mk pos kx]) st.1;pure (.yield (m,[]))) else pure (.yield (st.1,st.2++[kz mk pos kx])))
  (hQ:∀main done pend f h,ks=done++pend->pend.length < 17->done.length=17 * f->Dw qc w val s main done f h->Q (main,pend.map (kz mk pos)) { s with heap:=h,toks:=s.toks+3 * done.length }) :
  ∀(rest:List (Int×α)) (main:Option qj) (done pend:List (Int×α)) (f:Nat) (h:Heap),ks=done++pend++rest->pend.length < 17->done.length=17 * f->Dw qc w val s main done f h ->
   qq (qp qc w) A (forIn (items mk pos rest) (main,pend.map (kz mk pos)) body) Q E { s with heap:=h,toks:=s.toks+3 * done.length }
 | []=>@λmain done pend f h e hl hd a=>qB (hQ main done pend f h (e.trans (jF _)) hl hd a)
 | kx :: rest=>@λmain done pend f h e hl hd a=>by
  have er:pend.map (kz mk pos)++[kz mk pos kx]=(pend++[kx]).map (kz mk pos):=(jQ (l₂:=[kx])).symm
  have e2:ks=done++(pend++[kx])++rest:=by rw[e,jq,jq,jq];rfl
  rw[items,z7,C1,hb,er,qH,zw]
  by_cases h17:(pend.length+1 == 17)=qe
  ·refine qm (qdK h17 (qm (VL hm (XW (JM _ _)) a ?_ ?_ hlow λh' a'=>qB ?_)))
   ·rw[e2,jQ,BJ] at jE;exact jE.1
   ·rw[e2,zw] at zu;exact qu (Ba ..) zu
   ·exact Og hm jE zu hlow hb hQ rest (qa s.heap.objs.size) (done++(pend++[kx])) [] (f+1) h' (e2.trans (congrArg (·++rest) (jF _).symm)) (DN _) (by rw[zw,zw,hd];exact congrArg (17 * f + ·) (eq_of_beq h17)) a'
  ·refine qm (Hp h17 (qB ?_))
   exact Og hm jE zu hlow hb hQ rest main done (pend++[kx]) f h (e2.trans (by rw[jq])) (by rw[zw];exact aA hl λq=>h17 (beq_iff_eq.mpr q)) hd a
theorem Dw.done {done:List (Int×α)}{f:Nat}{h:Heap}(a:Dw qc w val s main done f h)(zy:done≠[]) :
  main=Option.some s.heap.objs.size/\wt s.heap.objs.size h/\∃ql,DT qc w val s.heap.objs.size s.heap (s.heap.objs.size+f) done ql h:=by
 cases a with
 | none=>exact absurd rfl zy
 | some _ x l=>refine⟨rfl,l,_,x⟩
theorem Yv (hm:Dr qc w mk val){s:qk}{Q:qh->qk->Prop}(jE:(ks.map (·.1)).Nodup)(zy:ks≠[])(zu:ks.length<=vH)(hlow:Cb < s.heap.objs.size)
  (hQ:∀h' vs,wC val vs ks->h'.DictOf (jL qc w) s.heap.objs.size vs->AS s.heap h'->wt s.heap.objs.size h'->h'.objs.size=s.heap.objs.size+(ks.length+16) / 17->Q (.ref s.heap.objs.size) { s with heap:=h',toks:=s.toks+3 * ks.length }) :
  qq (qp qc w) A (dictDisplay (items mk pos ks)) Q E s:=by
 refine qm (Og hm jE zu hlow (λ_ _=>rfl) (λmain done pend f h e hl hd a=>?_) ks qb [] [] 0 s.heap rfl (DN _) rfl .none)
 have fin:∀{f h},Dw qc w val s (qa s.heap.objs.size) ks f h->f=(ks.length+16) / 17->Q (.ref s.heap.objs.size) { s with heap:=h,toks:=s.toks+3 * ks.length }:=λa hf =>
  let ⟨_,l,ql,x⟩:=a.done zy
  hQ _ ql x.told x.dict x.kept l (hf▸x.size)
 cases pend with
 | nil =>
  rw[jF] at e
  subst e
  obtain⟨rfl,-⟩:=a.done zy
  exact qm (qB (qB (fin a (by rw[hd,Nat.mul_add_div (by decide)];rfl))))
 | cons kx pend =>
  refine qm (VL hm (JM _ _) a (e▸jE) (e▸zu) hlow λh' a'=>qB ?_)
  rw[<-e] at a' ⊢
  exact fin a' (by rw[e,zw,vV] at *;lia)
end
theorem sW (qc:zm)(w:qK):Dr qc w mkText JH:=λ_ _ h=>aB h
theorem oM (qc:zm)(w:qK):Dr qc w Hw Mv:=λ_ _ h=>Ms h
end
@[irreducible] noncomputable def pw:zm:=PySem.Challenge.pw_ti0076_01
noncomputable def ix (i:Nat):z6:=match pw.main.body[i]? with | some s=>s | none=>.Pass ⟨0,0,0,0⟩
noncomputable def sv {γ:Type}(s:z6)(c:List z6->γ)(f:Hy->List z6->vh->γ)(a:List qA->qA->qT->γ)(y:γ):γ:=match s with | .ClassDef _ _ _ b ..=>c b | .FunctionDef _ p b _ _ _ sc ..=>f p b sc | .Assign t v p=>a t v p | _=>y
noncomputable def cB (s:z6):List z6:=sv s (λb=>b) (λ_ _ _=>[]) (λ_ _ _=>[]) []
noncomputable def cx (i j:Nat):z6:=match (cB (ix i))[j]? with | some s=>s | none=>.Pass ⟨0,0,0,0⟩
noncomputable def Qi:Hy:=⟨[],[],qb,[],[],qb,[]⟩
noncomputable def Qv:vh:=⟨.function,[],qg,qg,[]⟩
noncomputable def fP (s:z6):Hy:=sv s (λ_=>Qi) (λa _ _=>a) (λ_ _ _=>Qi) Qi
noncomputable def fB (s:z6):List z6:=sv s (λ_=>[]) (λ_ b _=>b) (λ_ _ _=>[]) []
noncomputable def fS (s:z6):vh:=sv s (λ_=>Qv) (λ_ _ sc=>sc) (λ_ _ _=>Qv) Qv
@[reducible] noncomputable def zn (P:zC)(s:String)(n:Nat)(v:qh):Cc:=⟨PyData.keyHash P (wR s),.str (wR s) n,v⟩
@[reducible] noncomputable def jI (s:String)(n:Nat):qh:=.str (wR s) n
noncomputable def Lx (a b:String)(s:z6)(c:qh)(g:qj)(d k m e:qh):zk :=
 ⟨c,qb,.func { name:=wR a,qualname:=wR b,params:=fP s,body:=.stmts (fB s),scope:=fS s,globals:=g,closure:=[],defaults:=d,kwdefaults:=k,doc:=.none,pyModule:=m,annotations:=qb,code:=e,closureTuple:=.none,builtins:=0 },#[]⟩
@[reducible] noncomputable def AR (x:List qh):zk:=⟨.type "tuple", qb,.seq x.toArray 0,#[]⟩
@[reducible] noncomputable def CJ:zk:=AR []
@[reducible] noncomputable def Lr:zk:=⟨.none,qb,.fields #[],#[]⟩
noncomputable def Ad (l:List Cc)(n:Nat):zk:=⟨.type "dict", qb,.dict l.toArray n,#[]⟩
noncomputable def Hm (l:List qh)(n:Nat):zk:=⟨.type "list", qb,.seq l.toArray n,#[]⟩
noncomputable def Jl:Nat->List Int->List qh
 | _,[]=>[]
 | t,v :: r=>.int v t :: Jl (t+1) r
noncomputable def X6 (l:List Int):List qh:=l.map λv=>.int v 0
noncomputable def K7:Nat->List String->List qh
 | _,[]=>[]
 | t,v :: r=>jI v t :: K7 (t+1) r
noncomputable def Zb (P:zC):Nat->List (String×qiF)->List Cc
 | _,[]=>[]
 | t,v :: r=>zn P v.1 t (bootValue v.2 v.1) :: Zb P (t+1) r
noncomputable def ZK (P:zC):Nat->List String->List qh->List Cc
 | t,v :: r,x :: s=>zn P v t x :: ZK P (t+1) r s
 | _,_,_=>[]
noncomputable def Fy (P:zC)(l:List (String×Nat×Nat)):List Cc:=l.map λx=>zn P x.1 x.2.1 (.ref x.2.2)
noncomputable def Li (c:Int)(l:List (Int×Nat)):zk:=⟨.none,qb,.fields (l.flatMap λx=>[.int x.1 0,.int c 0,.ref x.2]).toArray,#[]⟩
noncomputable def tE (l:List (Int×Nat)):Array (Int×qh):=(l.map λx=>(x.1,.int x.1 x.2)).toArray
noncomputable def Os (l:List Cc):qh:=qiG (qiH l.toArray)
noncomputable def G6 (q:String)(t n:Nat)(f:String)(v:qh):zk:=⟨.type "getset_descriptor", qb,.fields #[jI q t,.ref n,.builtin f,v],#[]⟩
noncomputable def Ih (n q:String)(t:Nat)(ln ac kw fl:Int)(a:Nat)(lo:Bool)(g:Int)(b:Nat)(v c d:qh)(u:Nat):zk :=
 ⟨.type "code", qb,.fields #[jI n t,jI q (t+1),jI "/claim/cut.py" (t+2),.int ln 0,.int ac 0,.int 0 0,.int kw 0,.int fl 0,.ref a,.bool lo,.int g 0,.ref b,.none,v,c,d,.int u 0,.int ln 0,jI "/claim/cut.py" (u+1)],#[]⟩
noncomputable def DB (b t:Nat)(n q:String)(s:z6)(ln ac kw fl:Int)(d k m:qh):List zk :=
 [CJ,Lr,Lx n q s .none 0 .none .none .none .none,Ih n q t ln ac kw fl b qe 276 (b+1) .none .none (.ref (b+2)) (t+3),Lx n q s (.type "function") 3 d k m (.ref (b+3))]
noncomputable def kM (b t:Nat)(n q:String)(s:z6)(ln ac kw fl:Int)(d k m:qh)(vs:List String):List zk :=
 [CJ,Lr,AR (K7 (t+3) vs),CJ,Lx n q s .none 0 .none .none .none .none,Ih n q t ln ac kw fl b qe 276 (b+1) (.ref (b+2)) (.ref (b+3)) (.ref (b+4)) (t+3+vs.length),Lx n q s (.type "function") 3 d k m (.ref (b+5))]
noncomputable def KW:List zk->Nat->zk
 | [],_=>Lr
 | x :: _,0=>x
 | _ :: l,i+1=>KW l i
noncomputable def GK (f:Nat->zk)(n:Nat):Nat->Nat->Nat->BT
 | 0,_,_=>.nil
 | k+1,a,s=>bif z3 a n then .node (f a) (GK f n k (a+s) (s+s)) (GK f n k (a+s+s) (s+s)) else .nil
noncomputable def Ul (P:zC):List Cc:=[zn P "__module__" 189 (jI "_frozen_importlib" 186),zn P "__firstlineno__" 190 (.int 971 187),zn P "__doc__" 191 (.builtin "_frozen_importlib.BuiltinImporter.__doc__:str#opaque"),zn P "_ORIGIN" 192 (jI "built-in" 188),zn P "find_spec" 193 (.builtin "_frozen_importlib.BuiltinImporter.find_spec#opaque"),zn P "create_module" 194 (.builtin "_frozen_importlib.BuiltinImporter.create_module#opaque"),zn P "exec_module" 195 (.builtin "_frozen_importlib.BuiltinImporter.exec_module#opaque"),zn P "get_code" 196 (.builtin "_frozen_importlib.BuiltinImporter.get_code#opaque"),zn P "get_source" 197 (.builtin "_frozen_importlib.BuiltinImporter.get_source#opaque"),zn P "is_package" 198 (.builtin "_frozen_importlib.BuiltinImporter.is_package#opaque"),zn P "load_module" 199 (.builtin "_frozen_importlib.BuiltinImporter.load_module#opaque")]++Fy P [("__static_attributes__", 200,15),("__dict__", 202,16),("__weakref__", 204,17)]
noncomputable def Uh (P:zC):List Cc:=[zn P "__module__" 227 (jI "_frozen_importlib" 217),zn P "__firstlineno__" 228 (.int 562 218),zn P "__doc__" 229 (.builtin "_frozen_importlib.ModuleSpec.__doc__:str#opaque"),zn P "__init__" 230 (.builtin "_frozen_importlib.ModuleSpec.__init__#opaque"),zn P "__repr__" 231 (.builtin "_frozen_importlib.ModuleSpec.__repr__#opaque"),zn P "__eq__" 232 (.builtin "_frozen_importlib.ModuleSpec.__eq__#opaque"),zn P "cached" 233 (.builtin "_frozen_importlib.ModuleSpec.cached#opaque"),zn P "parent" 234 (.builtin "_frozen_importlib.ModuleSpec.parent#opaque"),zn P "has_location" 235 (.builtin "_frozen_importlib.ModuleSpec.has_location#opaque")]++Fy P [("__static_attributes__", 236,23),("__dict__", 238,24),("__weakref__", 240,25)]++[zn P "__hash__" 241 .none]
noncomputable def TL (P:zC)(l:List qh):List Cc:=[zn P "__name__" 247 (jI "_sre" 246),zn P "__doc__" 248 .none,zn P "__package__" 250 (jI "" 249)]++ZK P 251 ["__loader__", "__spec__", "compile", "template", "getcodesize", "ascii_iscased", "unicode_iscased", "ascii_tolower", "unicode_tolower"] l++[zn P "MAGIC" 261 (.int 20230612 260),zn P "CODESIZE" 263 (.int 4 262),zn P "MAXREPEAT" 265 (.int 4294967295 264),zn P "MAXGROUPS" 267 (.int 1073741823 266),zn P "copyright" 269 (jI " SRE 2.2.2 Copyright (c) 1997-2002 by Secret Labs AB " 268)]
@[reducible] noncomputable def Vx:List qh:=Jl 334 [173,847,6150,6155,6156,6157,8203,8204,8205,8288,65279]
@[reducible] noncomputable def ZL:List qh:=Jl 350 [65024,65025,65026,65027,65028,65029,65030,65031,65032,65033,65034,65035,65036,65037,65038,65039]
noncomputable def Pb (P:zC)(n:String)(t:Nat)(l:List Cc):zk:=Ad (zn P "__name__" 165 (jI n t) :: [zn P "__doc__" 166 .none,zn P "__package__" 167 .none,zn P "__loader__" 168 (.builtin "__main__.__loader__#opaque"),zn P "__spec__" 169 .none,zn P "__annotations__" 170 (.ref 6),zn P "__builtins__" 171 (.ref 4),zn P "__file__" 173 (jI "/claim/cut.py" 172),zn P "__cached__" 174 .none,zn P "_sre" 275 (.ref 12)]++l) (l.length+10)
noncomputable def V5 (P:zC):List Cc:=Fy P [("_wall", 288,38),("insort_right", 303,47),("bisect_right", 317,56),("bisect_left", 331,65),("b1_set", 393,73),("in_table_b1", 400,83)]
noncomputable def eJ (P:zC):List zk:=[Ad (zn P "__name__" 1 (jI "builtins" 160) :: Zb P 2 qiI.tail) 159,Ad (Fy P [("builtins", 162,4),("__main__", 163,5),("_sre", 244,12)]) 3,⟨.none,qb,.dict ([zn P "\x69mport.loaded._sre" 183 (.bool qe)]++Fy P [("class._frozen_importlib.BuiltinImporter", 185,14),("watched.\x69mport", 206,18),("class._frozen_importlib.ModuleSpec", 216,22)]++[zn P "sys.modules.booked-epoch" 245 (.int 3 0),zn P "\x69mport.later-laid._sre" 270 (.bool qe),zn P "watched.library" 272 (.ref 27),zn P "watched.library-objects" 0 (.str (⟨#[12]⟩:qf) 0),zn P "watched.library-deep._sre" 273 (.str (⟨#[4,0,0,11,4,0,0,11,4,0,0,3,4,0,0,11,8,4,100,105,99,116,2]⟩:qf) 0)]).toArray 9,#[]⟩,Pb P "__main__" 164 [],⟨(.type "module"),(qa 0),.plain,#[]⟩,⟨(.type "module"),(qa 3),.plain,#[]⟩,Ad ([]) 0,CJ,Lr,Ih "<module>" "<module>" 176 1 0 0 0 7 qg 175 8 .none .none .none 179,⟨(.type "frame"),qb,.plain,#[(qa (.ref 9)),(qa (.ref 3)),(qa (.ref 3)),qb,(qa (jI "__main__" 164)),qb,(qa (.ref 0))]⟩,Ad (TL P [(.builtin "off-the-table:_sre.__loader__:shared#opaque"),(.builtin "off-the-table:_sre.__spec__:shared#opaque"),(.builtin "_sre.compile"),(.builtin "off-the-table:_sre.template:shared#opaque"),(.builtin "off-the-table:_sre.getcodesize:shared#opaque"),(.builtin "off-the-table:_sre.ascii_iscased:shared#opaque"),(.builtin "off-the-table:_sre.unicode_iscased:shared#opaque"),(.builtin "off-the-table:_sre.ascii_tolower:shared#opaque"),(.builtin "off-the-table:_sre.unicode_tolower:shared#opaque")]) 17,⟨(.type "module"),(qa 11),.plain,#[]⟩,Ad (Ul P) 14,⟨(.type "type"),qb,.cls ⟨(wR "BuiltinImporter"),[(.type "object")],[(.ref 14),(.type "object")],13,(wR "BuiltinImporter"),qe,[],[],qg,qb,qg⟩,#[]⟩,CJ,G6 "__dict__" 201 14 "function.__dict__" (.builtin "function.__dict__#set"),G6 "__weakref__" 203 14 "ExceptionGroup.__weakref__" .none,⟨.none,qb,.seq #[(.int 13 0),(Os (Ul P)),(.bool qe),(.bool qe),(jI "" 205),(.int 21 0),(Os (Uh P)),(.bool qe),(.bool qe),(jI "" 242)] 1,#[]⟩,Hm [] 0,Ad ([zn P "name" 208 (jI "_sre" 207),zn P "loader" 209 (.ref 14),zn P "origin" 210 (jI "built-in" 184),zn P "loader_state" 211 .none,zn P "submodule_search_locations" 212 .none,zn P "_uninitialized_submodules" 213 (.ref 19),zn P "_set_fileattr" 214 (.bool qg),zn P "_cached" 215 .none,zn P "_initializing" 243 (.bool qg)]) 9,Ad (Uh P) 13,⟨(.type "type"),qb,.cls ⟨(wR "ModuleSpec"),[(.type "object")],[(.ref 22),(.type "object")],21,(wR "ModuleSpec"),qe,[],[],qg,qb,qg⟩,#[]⟩,AR (K7 219 ["_cached", "_set_fileattr", "_uninitialized_submodules", "loader", "loader_state", "name", "origin", "submodule_search_locations"]),G6 "__dict__" 237 22 "function.__dict__" (.builtin "function.__dict__#set"),G6 "__weakref__" 239 22 "ExceptionGroup.__weakref__" .none,⟨(.ref 22),(qa 20),.plain,#[]⟩,⟨.none,qb,.seq #[(.int 11 0),(Os (TL P [(.ref 14),(.ref 26),(.builtin "_sre.compile"),(.builtin "_sre.template"),(.builtin "_sre.getcodesize"),(.builtin "_sre.ascii_iscased"),(.builtin "_sre.unicode_iscased"),(.builtin "_sre.ascii_tolower"),(.builtin "_sre.unicode_tolower")])),(.bool qe),(.bool qg),(jI "_sre" 271)] 0,#[]⟩]
@[reducible] noncomputable def sM:qh:=(jI "__main__" 164)
@[reducible] noncomputable def Pz:qh:=(jI "cpy313.bisect" 289)
@[reducible] noncomputable def QP:qh:=(jI "cpy313.stringprep" 332)
@[reducible] noncomputable def wi:qh:=(jI "cpy313.wsgiref.headers" 2367)
@[reducible] noncomputable def DD:qh:=(jI "law_ti0076_01" 2586)
noncomputable def TI (P:zC):List Cc:=[zn P "__firstlineno__" 2440 (.int 67 2439)]++Fy P [("__init__", 2450,161),("_convert_string_type", 2460,168),("__len__", 2467,175),("__setitem__", 2476,182),("__delitem__", 2482,187),("__getitem__", 2490,194),("__contains__", 2498,201),("get_all", 2506,208),("get", 2517,216),("keys", 2523,221),("values", 2529,226),("items", 2536,233),("__repr__", 2543,240),("__str__", 2549,245),("__bytes__", 2556,252),("setdefault", 2566,259),("add_header", 2576,266),("__static_attributes__", 2578,267)]
noncomputable def lV (P:zC)(led:Bool):List zk:=[CJ,Li 0 [(2,37),(6,46),(12,55),(32,64),(54,82)],Ih "<module>" "<module>" 277 1 0 0 0 28 qg 276 29 .none .none .none 280,⟨(.type "frame"),qb,.plain,#[(qa (.ref 30)),(qa (.ref 3)),(qa (.ref 3)),qb,(qa (jI "__main__" 164)),qb,(qa (.ref 0))]⟩]++(kM 32 282 "_wall" "_wall" (ix 1) 2 1 0 3 .none .none sM ["k"]++([AR [(.int 0 291),.none],Ad ([zn P "key" 292 .none]) 1]++(kM 41 293 "insort_right" "insort_right" (ix 3) 6 4 1 3 (.ref 39) (.ref 40) Pz ["a", "x", "lo", "hi", "key"]++([AR [(.int 0 304),.none],Ad ([zn P "key" 305 .none]) 1]++(kM 50 306 "bisect_right" "bisect_right" (ix 4) 12 4 1 3 (.ref 48) (.ref 49) Pz ["a", "x", "lo", "hi", "key", "mid"]++([AR [(.int 0 318),.none],Ad ([zn P "key" 319 .none]) 1]++(kM 59 320 "bisect_left" "bisect_left" (ix 5) 32 4 1 3 (.ref 57) (.ref 58) Pz ["a", "x", "lo", "hi", "key", "mid"]++([Hm Vx 0,⟨(.type "range"),qb,.fields #[(.int 65024 345),(.int 65040 346),(.int 1 347)],#[]⟩,Hm ZL 18,⟨(.type "range_iterator"),qb,.fields #[(.int 65040 0),(.int 0 0),(.int 1 0)],#[]⟩,CJ,⟨(.type "StopIteration"),qb,.fields #[(.ref 70),.none,.none,.none,(.bool qg),.none],#[]⟩,Hm (Vx++ZL) 0,⟨(.type "set"),qb,.set (tE [(65024,350),(65025,351),(65026,352),(65027,353),(65028,354),(65029,355),(6150,336),(65030,356),(65031,357),(65032,358),(65033,359),(6155,337),(6156,338),(6157,339),(8203,340),(8204,341),(8205,342),(65034,360),(65035,361),(65036,362),(65037,363),(65038,364),(65039,365),(173,334),(847,335),(8288,343),(65279,344)]) 29 ⟨127,#[0,1,2,3,4,5,6,7,8,9,10,11,12,13,14,15,16,17,18,19,20,21,22,45,79,96,127],#[],0,led,2,qe⟩,#[]⟩,⟨(.type "list_iterator"),qb,.fields #[.none,(.int 27 0)],#[]⟩,CJ,⟨(.type "StopIteration"),qb,.fields #[(.ref 75),.none,.none,.none,(.bool qg),.none],#[]⟩]++(kM 77 394 "in_table_b1" "in_table_b1" (ix 8) 54 1 0 3 .none .none QP ["code"])))))))))
noncomputable def qcm (P:zC):List zk:=kM 123 2352 "map_table_b3" "map_table_b3" (ix 10) 57 1 0 3 .none .none QP ["code", "r"]++(kM 130 2360 "in_table_c11" "in_table_c11" (ix 11) 62 1 0 3 .none .none QP ["code"]++([Hm (Jl 2372 [14,10,4,1,1,22,0,31,16,127,0,13,7,22,0,31,16,127,0,1]) 0,Ad ([]) 0,AR [.none],AR (X6 [14,10,4,1,1,22,0,31,16,127,0,13,7,22,0,31,16,127,0,1]),⟨(.type "re.Pattern"),qb,.fields #[(.str (⟨#[91,92,120,48,48,45,92,120,49,70,92,120,55,70,93]⟩:qf) 2370),(.int 32 2393),(.int 0 0),.none,.none,(.ref 140),(.int 0 0)],#[]⟩,Hm (Jl 2398 [14,14,4,1,1,9,4294966783,0,0,2147483648,0,0,0,0,0,13,11,9,4294966783,0,0,2147483648,0,0,0,0,0,1]) 0,Ad ([]) 0,AR [.none],AR (X6 [14,14,4,1,1,9,4294966783,0,0,2147483648,0,0,0,0,0,13,11,9,4294966783,0,0,2147483648,0,0,0,0,0,1]),⟨(.type "re.Pattern"),qb,.fields #[(.str (⟨#[91,92,120,48,48,45,92,120,48,56,92,120,48,65,45,92,120,49,70,92,120,55,70,93]⟩:qf) 2396),(.int 32 2427),(.int 0 0),.none,.none,(.ref 145),(.int 0 0)],#[]⟩,CJ,⟨(.type "builtin_function_or_method"),qb,.fields #[(.builtin "type.__prepare__"),(.type "type")],#[]⟩,Ad ([zn P "__module__" 2436 (jI "cpy313.wsgiref.headers" 2367),zn P "__qualname__" 2438 (jI "Headers" 2437)]++TI P) 21,CJ,Li 4 [(69,160),(79,167),(87,174),(90,181),(94,186),(98,193),(101,200),(104,207),(107,215),(114,220),(117,225),(120,232),(123,239),(126,244),(129,251),(132,258),(140,265)],Ih "Headers" "Headers" 2431 67 0 0 0 150 qg 276 151 .none .none .none 2434,⟨(.type "frame"),qb,.plain,#[(qa (.ref 152)),(qa (.ref 3)),(qa (.ref 149)),qb,(qa (jI "cpy313.wsgiref.headers" 2367)),qb,(qa (.ref 0))]⟩,AR [.none]]++(kM 155 2441 "__init__" "Headers.__init__" (cx 15 0) 69 2 0 3 (.ref 154) .none wi ["self", "headers", "k", "v"]++(kM 162 2451 "_convert_string_type" "Headers._convert_string_type" (cx 15 1) 79 2 1 3 .none .none wi ["self", "value", "name", "regex"]++(kM 169 2461 "__len__" "Headers.__len__" (cx 15 2) 87 1 0 3 .none .none wi ["self"]++(kM 176 2468 "__setitem__" "Headers.__setitem__" (cx 15 3) 90 3 0 3 .none .none wi ["self", "name", "val"]++(DB 183 2477 "__delitem__" "Headers.__delitem__" (cx 15 4) 94 2 0 3 .none .none wi++(kM 188 2483 "__getitem__" "Headers.__getitem__" (cx 15 5) 98 2 0 3 .none .none wi ["self", "name"]++(kM 195 2491 "__contains__" "Headers.__contains__" (cx 15 6) 101 2 0 3 .none .none wi ["self", "name"]++(kM 202 2499 "get_all" "Headers.get_all" (cx 15 7) 104 2 0 3 .none .none wi ["self", "name"]++([AR [.none]]++(kM 210 2507 "get" "Headers.get" (cx 15 8) 107 3 0 3 (.ref 209) .none wi ["self", "name", "default", "k", "v"]++(DB 217 2518 "keys" "Headers.keys" (cx 15 9) 114 1 0 3 .none .none wi++(DB 222 2524 "values" "Headers.values" (cx 15 10) 117 1 0 3 .none .none wi++(kM 227 2530 "items" "Headers.items" (cx 15 11) 120 1 0 3 .none .none wi ["self"]++(kM 234 2537 "__repr__" "Headers.__repr__" (cx 15 12) 123 1 0 3 .none .none wi ["self"]++(DB 241 2544 "__str__" "Headers.__str__" (cx 15 13) 126 1 0 3 .none .none wi++(kM 246 2550 "__bytes__" "Headers.__bytes__" (cx 15 14) 129 1 0 3 .none .none wi ["self"]++(kM 253 2557 "setdefault" "Headers.setdefault" (cx 15 15) 132 3 0 3 .none .none wi ["self", "name", "value", "result"]++(kM 260 2567 "add_header" "Headers.add_header" (cx 15 16) 140 3 0 11 .none .none wi ["self", "_name", "_value", "_params"]++([AR (K7 2577 ["_headers"]),Ad (zn P "__module__" 2436 (jI "cpy313.wsgiref.headers" 2367) :: TI P++[zn P "__dict__" 2580 (.ref 270),zn P "__weakref__" 2582 (.ref 271),zn P "__doc__" 2583 .none]) 4,⟨(.type "type"),qb,.cls ⟨(wR "Headers"),[(.type "object")],[(.ref 269),(.type "object")],268,(wR "Headers"),qe,[],[],qg,qb,qg⟩,#[qb,qb,(qa (jI "Headers" 2429)),(qa (jI "Headers" 2437)),(qa (.builtin "object.__new__")),(qa (.bool qe))]⟩,G6 "__dict__" 2579 269 "function.__dict__" (.builtin "function.__dict__#set"),G6 "__weakref__" 2581 269 "ExceptionGroup.__weakref__" .none,⟨(.type "super"),qb,.fields #[(.ref 269),(.ref 269),(.ref 269)],#[]⟩,⟨(.type "builtin_function_or_method"),qb,.fields #[(.builtin "object.__init_subclass__"),(.ref 269)],#[]⟩]++(kM 274 2588 "_law_drawn" "_law_drawn" (ix 17) 143 1 0 3 .none .none DD ["number", "words", "squares", "gaps", "nothings", "kind", "turn", "word", "style", "code"]++(kM 281 2604 "_law_fold" "_law_fold" (ix 18) 160 1 0 3 .none .none DD ["sign"]++(kM 288 2611 "_law_size" "_law_size" (ix 19) 162 1 0 3 .none .none DD ["reading"]++(kM 295 2618 "_law_begun" "_law_begun" (ix 20) 164 3 0 3 .none .none DD ["folds", "rest", "start"]++(DB 302 2627 "_law_search" "_law_search" (ix 21) 166 2 0 3 .none .none DD++(DB 307 2633 "_law_least" "_law_least" (ix 22) 191 1 0 3 .none .none DD++(DB 312 2639 "_law_shown" "_law_shown" (ix 23) 214 3 0 3 .none .none DD++(DB 317 2645 "_law_found" "_law_found" (ix 24) 222 4 0 3 .none .none DD++(DB 322 2651 "law" "law" (ix 25) 232 1 0 3 .none .none DD))))))))))))))))))))))))))))))
noncomputable def YC:List (Int×Nat):=[(2,37),(6,46),(12,55),(32,64),(54,82)]
noncomputable def lG:List (Int×Nat):=[(57,128),(62,135),(67,152),(143,279),(160,286),(162,293),(164,300),(166,305),(191,310),(214,315),(222,320),(232,325)]
noncomputable def Tz (P:zC)(i:Nat):zk:=KW (eJ P) i
noncomputable def ID (P:zC)(led:Bool)(i:Nat):zk:=bif zQ i 3 then Pb P "cpy313.stringprep" 332 (V5 P) else bif zQ i 29 then Li 0 YC else bif z3 i 28 then Tz P i else KW (lV P led) (i - 28)
noncomputable def W4 (P:zC)(led:Bool)(D:Nat->zk)(i:Nat):zk:=bif z3 i 84 then ID P led i else D i
noncomputable def jY (P:zC)(led:Bool)(D:Nat->zk)(i:Nat):zk:=bif zQ i 3 then Pb P "law_ti0076_01" 2586 (V5 P++Fy P [("b3_exceptions", 2351,84),("map_table_b3", 2359,129),("in_table_c11", 2366,136),("_name_disallowed_re", 2394,141),("_value_disallowed_re", 2428,146),("Headers", 2585,269),("_law_drawn", 2603,280),("_law_fold", 2610,287),("_law_size", 2617,294),("_law_begun", 2626,301),("_law_search", 2632,306),("_law_least", 2638,311),("_law_shown", 2644,316),("_law_found", 2650,321),("law", 2656,326)]) else bif zQ i 29 then Li 0 (YC++lG) else bif z3 i 123 then W4 P led D i else KW (qcm P) (i - 123)
noncomputable def TS (P:zC)(led:Bool):BT:=GK (Tz P) 28 9 0 1
noncomputable def TA (P:zC)(led:Bool):BT:=GK (ID P led) 84 9 0 1
noncomputable def TB (P:zC)(led:Bool)(D:Nat->zk):BT:=GK (W4 P led D) 123 9 0 1
noncomputable def TF (P:zC)(led:Bool)(D:Nat->zk):BT:=GK (jY P led D) 327 9 0 1
noncomputable def Yu:Nat:=276
noncomputable def qbH:Nat:=282
noncomputable def Pm:Nat:=401
noncomputable def NH:Nat:=2351
noncomputable def qeg:Nat:=2657
noncomputable def nS:Nat:=28
noncomputable def nA:Nat:=84
noncomputable def nB:Nat:=123
noncomputable def nF:Nat:=327
section
open PySem.Calls
noncomputable def env:q0:={ scope:=pw.main.scope,locals:=C2,globals:=C2,cells:=[],code:=.ref 30,frame:=qa 31 }
@[irreducible] noncomputable def body:List z6:=aC pw
noncomputable def ww (w:qK)(b1 b2:Bool):qK:=(w.withFollow "set-order" b1).withFollow "special-get-raises" b2
noncomputable def cd:Code:=.body body env
noncomputable def caller:Code:=.builtin "claim.caller" {}
noncomputable def Ea:qT:=default
noncomputable def pre:zr A8:=do
 let code <-qgz pw.main
 let frame <-qgA code C2 C2
 match code == .ref 30&&zQ frame 31 with
 | true=>pure .next
 | false=>unsupported "x"
noncomputable def TP (P:zC):BT:=((TS P qg).ins 28 (ID P qg 28)).ins 29 ⟨.none,qb,.fields #[],#[]⟩ |>.ins 30 (ID P qg 30) |>.ins 31 (ID P qg 31)
noncomputable def BQ (P:zC)(os:vW):Mw:=⟨TP P,32,{},#[],{},qbH,os⟩
noncomputable def L2 (P:zC)(os:vW):Mw:=⟨TS P qg,nS,{},#[],{},Yu,os⟩
noncomputable def AZ (P:zC)(led:Bool)(os:vW):Mw:=⟨TA P led,nA,{},#[],{},Pm,os⟩
noncomputable def Oy (P:zC)(led:Bool)(D:Nat->zk)(os:vW):Mw:=⟨TB P led D,nB,{},#[],{},NH,os⟩
noncomputable def stF (P:zC)(led:Bool)(D:Nat->zk)(os:vW):Mw:=⟨TF P led D,nF,{},#[],{},qeg,os⟩
theorem gM (w:qK):(qgB EB pw w 900).map (λs=>(s.heap,s.gens,s.drawn,s.toks))=qa (Bb (TS w.params qg) nS {},#[],{},Yu):=by
 unfold qgB
 rw[PySem.W.Fast.te10274390034422433532,PySem.W.Fast.te14364793385576792824,PySem.W.Fast.te1435165496053646825]
 kernel_rfl
theorem xN (w:qK)(os:vW):FQ EB pw w 0 qb 0 20 (L2 w.params os) ⟨fin pre,caller,Ea,[]⟩=qa (.next,BQ w.params os,caller,Ea):=by
 unfold fin pre
 rw[PySem.W.Fast.te10110043849684766642,PySem.W.Fast.te14364793385576792824,PySem.W.Fast.te17154629097778926822,PySem.W.Fast.te12822647523644345616]
 kernel_rfl
noncomputable def x1:zr A8:=do qgC body env;jS (body.take 8) env
theorem qaY (w:qK)(os:vW)(p q:qT):FQ EB pw (ww w qg qg) 0 qb 0 1300 (BQ w.params os) ⟨fin x1,cd,p,[nf q]⟩=qa (.next,AZ w.params qe os,caller,q):=by
 unfold fin x1
 rw[PySem.W.Fast.te10110043849684766642,PySem.W.Fast.te14364793385576792824,PySem.W.Fast.te12563942051412417395,PySem.W.Fast.te1066825118222455980]
 kernel_rfl
theorem iW (w:qK)(os:vW)(p q:qT):FQ EB pw (ww w qg qe) 0 qb 0 1300 (BQ w.params os) ⟨fin x1,cd,p,[nf q]⟩=qa (.next,AZ w.params qe os,caller,q):=by
 unfold fin x1
 rw[PySem.W.Fast.te10110043849684766642,PySem.W.Fast.te14364793385576792824,PySem.W.Fast.te12563942051412417395,PySem.W.Fast.te1066825118222455980]
 kernel_rfl
theorem pT (w:qK)(os:vW)(p q:qT):FQ EB pw (ww w qe qg) 0 qb 0 1300 (BQ w.params os) ⟨fin x1,cd,p,[nf q]⟩=qa (.next,AZ w.params qg os,caller,q):=by
 unfold fin x1
 rw[PySem.W.Fast.te10110043849684766642,PySem.W.Fast.te14364793385576792824,PySem.W.Fast.te12563942051412417395,PySem.W.Fast.te1066825118222455980]
 kernel_rfl
theorem rU (w:qK)(os:vW)(p q:qT):FQ EB pw (ww w qe qe) 0 qb 0 1300 (BQ w.params os) ⟨fin x1,cd,p,[nf q]⟩=qa (.next,AZ w.params qg os,caller,q):=by
 unfold fin x1
 rw[PySem.W.Fast.te10110043849684766642,PySem.W.Fast.te14364793385576792824,PySem.W.Fast.te12563942051412417395,PySem.W.Fast.te1066825118222455980]
 kernel_rfl
noncomputable def Ge (s:z6):List qA:=sv s (λ_=>[]) (λ_ _ _=>[]) (λts _ _=>ts) []
noncomputable def dV (s:z6):qA:=sv s (λ_=>.Constant .none 0 ⟨0,0,0,0⟩) (λ_ _ _=>.Constant .none 0 ⟨0,0,0,0⟩) (λ_ v _=>v) (.Constant .none 0 ⟨0,0,0,0⟩)
@[irreducible] noncomputable def zU:z6:=match body.drop 8 with | s :: _=>s | []=>.Pass ⟨0,0,0,0⟩
noncomputable def LK (v:qh):zr A8:=do
 let f <-(do Hz env v (<-EC (Ge zU) (dV zU) env) ((Mx (Ge zU) env).map (·.2)))
 match f with
 | .next=>jS (body.drop 9) env
 | f=>pure f
theorem kB (w:qK)(os:vW)(led:Bool)(D:Nat->zk)(p q:qT):FQ EB pw w 0 qb 0 2000 (Oy w.params led D os) ⟨fin (LK (.ref nA)),cd,p,[nf q]⟩=qa (.next,stF w.params led D os,caller,q):=by
 unfold fin LK
 rw[PySem.W.Fast.te10110043849684766642,PySem.W.Fast.te14364793385576792824,PySem.W.Fast.te12563942051412417395,PySem.W.Fast.te2470068587113613483,PySem.W.Fast.te4016559146275205325,PySem.W.Fast.te15628205474173192105]
 kernel_rfl
theorem UP {env:q0}:∀{ks:List (Option qA)}{vs:List qA}{kx:List (Int×qf)},I0 ks vs=qa kx ->
  (qgD ks env).zip ((aD vs env).map λv=>do let x <-v;wQ pos;pure x)=items mkText pos kx
 | [],[],_=>@λh=>by cases h;rfl
 | [],_ :: _,_=>@λh=>nn h
 | _ :: _,[],_=>@λh=>nn h
 | k :: ks,v :: vs,kx=>@λh=>by
  refine b1 h λi hi h=>b1 h λx hx h=>?_
  obtain⟨a,b,rfl⟩:=qfO hi
  obtain⟨c,d,rfl⟩:=xH hx
  obtain⟨r,hr,rfl⟩:=My.mp h
  exact congrArg ((qa (qgE env (.int i)),(do let x <-qgE env (.str x);wQ pos;pure x)) :: ·) (UP hr)
theorem pB {E:qh->qk->Prop}{env:q0}
  (hc:I0 ks vs=qa kx) (jE:(kx.map (·.1)).Nodup) (zy:kx≠[]) (zu:kx.length<=vH) (hlow:Cb < s.heap.objs.size)
  (hQ:∀h' vs,G0 vs kx->h'.DictOf (jL qc w) s.heap.objs.size vs->AS s.heap h'->wt s.heap.objs.size h'->h'.objs.size=s.heap.objs.size+(kx.length+16) / 17->Q (.ref s.heap.objs.size) { s with heap:=h',toks:=s.toks+3 * kx.length }) :
  qq (qp qc w) A (zR (.Dict ks vs pos) env) Q E s:=by
 rw[qgF,UP hc]
 exact qm (jM (Yv (sW qc w) jE zy zu hlow hQ))
noncomputable def KV (env:q0)(rest:List z6)(ts:List qA)(e:qA)(v:qh):zr A8:=do
 let f <-(do Hz env v (<-EC ts e env) ((Mx ts env).map (·.2)))
 match f with
 | .next=>jS rest env
 | f=>pure f
theorem pG {env:q0}{E:qh->qT->qk->Prop}
  (h:j6 M Γ (zR (.Dict ks vs p2) env) (λv p s'=>j6 M Γ (KV env rest ts (.Dict ks vs p2) v) Q E p s') E p3 s) :
  j6 M Γ (jS (.Assign ts (.Dict ks vs p2) p3 :: rest) env) Q E pos s:=by
 have e:Cd ts (.Dict ks vs p2) p3.line env=pure qg:=by
  cases ts with
  | nil=>rfl
  | cons t r=>cases r <;> rfl
 show j6 M Γ (Hv (.Assign ts (.Dict ks vs p2) p3) env >>= λf=>match f with | .next=>jS rest env | f=>pure f) Q E pos s
 rw[vU]
 show j6 M Γ (wQ p3 >>= λ_=>Cd ts (.Dict ks vs p2) p3.line env >>= λb=>_) _ E pos s
 rw[vU]
 show j6 M Γ (Cd ts (.Dict ks vs p2) p3.line env >>= λb=>_) _ E p3 s
 rw[e]
 show j6 M Γ (zR (.Dict ks vs p2) env >>= λv=>_) _ E p3 s
 rw[vU]
 refine Am M Γ _ (λv p' s' hv=>?_) (λ_ _ _ h=>h) p3 s h
 unfold KV at hv
 rw[vU] at hv
 exact hv
noncomputable def dK (e:qA):List (Option qA):=xd e (λks _ _=>ks) []
noncomputable def dW (e:qA):List qA:=xd e (λ_ vs _=>vs) []
noncomputable def dP (e:qA):qT:=xd e (λ_ _ p=>p) ⟨0,0,0,0⟩
noncomputable def sP (s:z6):qT:=sv s (λ_=>⟨0,0,0,0⟩) (λ_ _ _=>⟨0,0,0,0⟩) (λ_ _ p=>p) ⟨0,0,0,0⟩
theorem qdi:zU=.Assign (Ge zU) (.Dict (dK (dV zU)) (dW (dV zU)) (dP (dV zU))) (sP zU):=by kernel_rfl
theorem Qm:dV zU=.Dict (dK (dV zU)) (dW (dV zU)) (dP (dV zU)):=by kernel_rfl
theorem qdQ:body=body.take 8++(zU :: body.drop 9):=by kernel_rfl
noncomputable def b3:List (Int×qf):=match I0 (dK (dV zU)) (dW (dV zU)) with | some l=>l | none=>[]
theorem qf8:I0 (dK (dV zU)) (dW (dV zU))=qa b3:=by kernel_rfl
noncomputable def GE:List (Int×qf)->Bool
 | []=>qe
 | a :: r=>(match r with | []=>qe | b :: _=>decide (a.1 < b.1))&&GE r
theorem qea (h:GE (a :: b :: l)=qe):a.1 < b.1/\GE (b :: l)=qe :=
 let q:=(jT (decide (a.1 < b.1)) _).mp h;⟨of_decide_eq_true q.1,q.2⟩
theorem GV:b3.length=650:=by kernel_rfl
theorem qam:GE b3=qe:=by kernel_rfl
theorem Uk:∀{l:List (Int×qf)}{a:Int×qf},GE (a :: l)=qe->∀b∈l,a.1 < b.1
 | [],_=>@λ_ b h=>by cases h
 | c :: l,a=>@λh b hb=>by
  have h:=qea h
  rcases jJ.mp hb with rfl | hb
  ·exact h.1
  ·exact aE h.1 (Uk h.2 b hb)
theorem UH:∀{l:List (Int×qf)},GE l=qe->(l.map (·.1)).Nodup
 | [],_=>vy
 | a :: l,h=>by
  rw[z7,k7]
  refine⟨λhm=>?_,UH ((jT _ _).mp h).2⟩
  obtain⟨b,hb,e⟩:=qG.mp hm
  exact absurd e (Int.ne_of_gt (Uk h b hb))
theorem kA (w:qK)(os:vW)(p q:qT):FQ EB pw w 0 qb 0 1300 (BQ w.params os) ⟨fin x1,cd,p,[nf q]⟩=qa (.next,AZ w.params (!w.params.followText "set-order") os,caller,q):=by
 have e:ww w (w.params.followText "set-order") (w.params.followText "special-get-raises")=w:=by unfold ww;rw[qgG,qgG]
 have h:=λb1 b2=>(show FQ EB pw (ww w b1 b2) 0 qb 0 1300 (BQ w.params os) ⟨fin x1,cd,p,[nf q]⟩=qa (.next,AZ w.params (!b1) os,caller,q) by
  cases b1 <;> cases b2
  ·exact qaY w os p q
  ·exact iW w os p q
  ·exact pT w os p q
  ·exact rU w os p q)
 have:=h (w.params.followText "set-order") (w.params.followText "special-get-raises")
 rw[e] at this
 exact this
theorem NV (q:qT):(⟨.pure (.done .next),caller,q,[]⟩:FM).calm=qe:=by rfl
theorem qgf (w:qK)(os:vW):j6 (qp pw w) ⟨caller,qb,qb,[],qb⟩ pre (λa _ s₁=>a=.next/\s₁=(BQ w.params os).abs) (λ_ _ _=>False) Ea (L2 w.params os).abs :=
 qaI (aF (by rw[Rg];exact xN w os)) (NV _) rfl
theorem wA (w:qK)(os:vW)(p q:qT):j6 (qp pw w) (AG cd [nf q]) x1 (λa _ s₁=>a=.next/\s₁=(AZ w.params (!w.params.followText "set-order") os).abs) (λ_ _ _=>False) p (BQ w.params os).abs :=
 Y5 (aF (by rw[Rg];exact kA w os p q)) (NV _) rfl
theorem wB (w:qK)(os:vW)(led:Bool)(D:Nat->zk)(p q:qT):j6 (qp pw w) (AG cd [nf q]) (LK (.ref nA)) (λa _ s₁=>a=.next/\s₁=(stF w.params led D os).abs) (λ_ _ _=>False) p (Oy w.params led D os).abs :=
 Y5 (aF (by rw[Rg];exact kB w os led D p q)) (NV _) rfl
theorem qfP (P:zC)(led:Bool)(D:Nat->zk):(zx 84).map (λi=>(TB P led D).get i)=(zx 84).map (λi=>(TA P led).get i):=by kernel_rfl
theorem pU (P:zC)(led:Bool):(zx 84).map (λi=>((TA P led).get i).bind ED)=(zx 84).map (λi=>(TA P led).get i):=by kernel_rfl
theorem rN (P:zC)(led:Bool):(zx 84).all (λi=>((TA P led).get i).isSome)=qe:=by kernel_rfl
theorem Y4 (P:zC)(led:Bool)(D:Nat->zk):(zx 39).map (λi=>(TB P led D).get (84+i))=(zx 39).map (λi=>qa (D (84+i))):=by kernel_rfl
theorem Of (hk:AS (Bb (TA P led) nA {}) h')(hn:h'.objs.size=nB)(hl:h'.life={}) :
  h'=Bb (TB P led (λi=>(h'.objs[i]?).getD default)) nB {}:=by
 generalize hD:(λi:Nat=>(h'.objs[i]?).getD default)=D
 have e:h'.objs=(Bb (TB P led D) nB {}).objs:=by
  apply Array.ext_getElem?
  intro i
  rw[Mz]
  by_cases hi:i < nB
  ·rw[if_pos hi]
   by_cases h84:i < 84
   ·have g1:(TB P led D).get i=(TA P led).get i:=by
     have:=congrArg (λl=>l[i]?) (qfP P led D)
     simpa [h84] using this
    have g2:((TA P led).get i).bind ED=(TA P led).get i:=by
     have:=congrArg (λl=>l[i]?) (pU P led)
     simpa [h84] using this
    have g3:((TA P led).get i).isSome=qe:=by
     have:=wS.mp (rN P led) i (jG.mpr h84)
     exact this
    obtain⟨o,ho⟩:=aG.mp g3
    rw[ho] at g2
    rw[g1,ho]
    have:=Rh (life:={}) (n:=nA) h84 ho
    rw[show ED o=qa o from g2] at this
    have hh:=hk _ _ this
    unfold Heap.get? at hh
    cases q:h'.objs[i]? with
    | none=>rw[q] at hh;cases hh
    | some o' =>
     rw[q] at hh
     obtain⟨c,d,dt,sl⟩:=o'
     cases dt <;> first | (cases hh;rfl) | cases hh
   ·have h123:i - 84 < 39:=by have:nB=123:=rfl;lia
    have g1:(TB P led D).get i=qa (D i):=by
     have:=congrArg (λl=>l[i - 84]?) (Y4 P led D)
     rw[show i=84+(i - 84) by lia]
     simpa [h123] using this
    rw[g1,<-hD]
    have:i < h'.objs.size:=by lia
    simp[this]
  ·rw[if_neg hi]
   exact Array.getElem?_eq_none (by lia)
 obtain⟨os,l⟩:=h'
 have hl':l={}:=hl
 subst hl'
 exact congrArg (λx=>Heap.mk x {}) e
noncomputable def RR (w:qK)(os:vW)(s':qk):Prop :=
 ∃D vs,s'=(stF w.params (!w.params.followText "set-order") D os).abs/\G0 vs b3/\(Bb (TB w.params (!w.params.followText "set-order") D) nB {}).DictOf (jL pw w) nA vs/\wt nA (Bb (TB w.params (!w.params.followText "set-order") D) nB {})
noncomputable def WQ (Γ:Ctx):zh:={ handled:=Γ.handled,depth:=frameCount Γ.below+Γ.code.weight,frames:=qb,guards:=qb,units:=Γ.units }
theorem t8 (Γ:Ctx):Γ.In (WQ Γ):=⟨rfl,qU _,λ_ h=>(nomatch h),λ_ h=>(nomatch h),qU _⟩
theorem yX (w:qK)(os:vW)(p q:qT):j6 (qp pw w) (AG cd [nf q]) (zR (dV zU) env) (λv _ s'=>v=.ref nA/\∃D vs,s'=(Oy w.params (!w.params.followText "set-order") D os).abs/\G0 vs b3/\(Bb (TB w.params (!w.params.followText "set-order") D) nB {}).DictOf (jL pw w) nA vs/\wt nA (Bb (TB w.params (!w.params.followText "set-order") D) nB {})) (λ_ _ _=>False) p (AZ w.params (!w.params.followText "set-order") os).abs:=by
 generalize hled:(!w.params.followText "set-order")=led
 have zu:(AZ w.params led os).abs.heap.objs.size=nA:=Ce _ _ _
 have h0:qq (qp pw w) (WQ (AG cd [nf q])) (zR (dV zU) env) (λv s'=>∃h' vs,v=.ref nA/\s'={ (AZ w.params led os).abs with heap:=h',toks:=Pm+3 * b3.length }/\G0 vs b3/\h'.DictOf (jL pw w) nA vs/\AS (AZ w.params led os).abs.heap h'/\wt nA h'/\h'.objs.size=nA+(b3.length+16) / 17)
   (λ_ _=>False) (AZ w.params led os).abs:=by
  rw[show zR (dV zU) env=zR (.Dict (dK (dV zU)) (dW (dV zU)) (dP (dV zU))) env from congrArg (zR · env) Qm]
  refine pB qf8 (UH qam) (by intro h;have:=GV;rw[h] at this;cases this) (by rw[GV,Cf];lia) ?_ λh' vs h1 h2 h3 hv h4=>?_
  ·rw[zu];decide
  ·rw[zu] at h2 h4 hv ⊢
   refine⟨h',vs,rfl,rfl,h1,h2,h3,hv,h4⟩
 refine Am _ _ _ (λv p' s' h=>?_) (λ_ _ _ h=>h) p _ (qeD (h0 _ p (t8 _)))
 obtain⟨⟨h',vs,rfl,rfl,h1,h2,h3,hv,h4⟩,hl⟩:=h
 refine⟨rfl,λi=>(h'.objs[i]?).getD default,vs,?_,h1,?_,?_⟩
 ·have:=Of (P:=w.params) (led:=led) h3 (by rw[h4,GV];rfl) hl
  have e:Pm+3 * b3.length=NH:=by rw[GV];rfl
  rw[e]
  exact congrArg (λh=>(⟨h,#[],{},NH,os⟩:qk)) this
 ·have:=Of (P:=w.params) (led:=led) h3 (by rw[h4,GV];rfl) hl
  rw[<-this]
  exact h2
 ·have:=Of (P:=w.params) (led:=led) h3 (by rw[h4,GV];rfl) hl
  rw[<-this]
  exact hv
theorem fA (w:qK)(os:vW)(p q:qT):j6 (qp pw w) (AG cd [nf q]) (jS (zU :: body.drop 9) env) (λa _ s'=>a=.next/\RR w os s') (λ_ _ _=>False) p (AZ w.params (!w.params.followText "set-order") os).abs:=by
 rw[show jS (zU :: body.drop 9) env=jS (.Assign (Ge zU) (.Dict (dK (dV zU)) (dW (dV zU)) (dP (dV zU))) (sP zU) :: body.drop 9) env from congrArg (λx=>jS (x :: body.drop 9) env) qdi]
 refine pG ?_
 rw[show zR (.Dict (dK (dV zU)) (dW (dV zU)) (dP (dV zU))) env=zR (dV zU) env from (congrArg (zR · env) Qm).symm]
 refine Am _ _ _ (λv p' s' h=>?_) (λ_ _ _ h=>h) _ _ (yX w os _ q)
 obtain⟨rfl,D,vs,rfl,h1,h2⟩:=h
 rw[show KV env (body.drop 9) (Ge zU) (.Dict (dK (dV zU)) (dW (dV zU)) (dP (dV zU))) (.ref nA)=LK (.ref nA) from congrArg (λe=>KV env (body.drop 9) (Ge zU) e (.ref nA)) Qm.symm]
 exact Am _ _ _ (λa _ s' h=>⟨h.1,D,vs,h.2,h1,h2⟩) (λ_ _ _ h=>h) _ _ (wB w os _ D p' q)
theorem qfb (b:List z6)(e:q0):wm vg (.body b e)=(qgC b e >>= λ_=>(jS b e).onRaise (leaving e) >>= λf=>(Q4 (.done f):zr Fin)):=rfl
theorem RR.gens {w os s'}(h:RR w os s'):s'.gens=#[]:=by obtain⟨D,vs,rfl,_⟩:=h;rfl
theorem fQ (w:qK)(os:vW)(p q:qT):j6 (qp pw w) (AG cd [nf q]) (wm vg (.body body env)) (JG (qp pw w) (AG cd [nf q]) λr s'=>r=.ok .next/\RR w os s') (λe _ s'=>(.error e:AF)=.ok .next/\RR w os s') p (BQ w.params os).abs:=by
 rw[qfb,vU]
 have h1:=wA w os p q
 unfold x1 at h1
 rw[vU] at h1
 refine Am _ _ _ (λu p' s' h=>?_) (λ_ _ _ h=>h.elim) _ _ h1
 rw[vU,Sem.wp_onRaise]
 rw[show jS body env=jS (body.take 8++(zU :: body.drop 9)) env from congrArg (jS · env) qdQ]
 refine Zp _ _ _ ?_
 refine Am _ _ _ (λa p₂ s₂ h=>?_) (λ_ _ _ h=>h.elim) _ _ h
 obtain⟨rfl,rfl⟩:=h
 refine⟨rfl,?_⟩
 refine Am _ _ _ (λa p₃ s₃ h=>?_) (λ_ _ _ h=>h.elim) _ _ (fA w os p₂ q)
 obtain⟨rfl,h⟩:=h
 refine⟨rfl,h⟩
theorem qe1 (p:zm):(topStub p).cur=(qgz p.main >>= λcode=>qgA code C2 C2 >>= λframe=>PySem.run (.body (aC p) { scope:=p.main.scope,locals:=C2,globals:=C2,cells:=[],code,frame:=qa frame }) >>= λ_=>(ret .none:zr Fin)):=rfl
theorem f9:({ scope:=pw.main.scope,locals:=C2,globals:=C2,cells:=[],code:=.ref 30,frame:=qa 31 }:q0)=env:=rfl
theorem qcX:aC pw=body:=by unfold body;rfl
theorem qaZ (w:qK)(os:vW):j6 (qp pw w) ⟨caller,qb,qb,[],qb⟩ (topStub pw).cur (JG (qp pw w) ⟨caller,qb,qb,[],qb⟩ λr s'=>(∃f,r=.ok f)/\RR w os s'/\s'.gens=#[]) (λ_ _ _=>False) Ea (L2 w.params os).abs:=by
 rw[qe1,vU]
 have h1:=qgf w os
 unfold pre at h1
 rw[vU] at h1
 refine Am _ _ _ (λcode p' s' h=>?_) (λ_ _ _ h=>h.elim) _ _ h1
 rw[vU] at h ⊢
 refine Am _ _ _ (λframe p₂ s₂ hh=>?_) (λ_ _ _ h=>h.elim) _ _ h
 cases hb:(code == .ref 30&&zQ frame 31) with
 | false=>rw[hb] at hh;exact hh.elim
 | true =>
  rw[hb] at hh
  obtain⟨hc,hf⟩:=z0.mp hb
  have hc:=eq_of_beq hc
  have hf:=wn hf
  subst hc hf
  have h':Ey=.next/\s₂=(BQ w.params os).abs:=hh
  obtain⟨_,rfl⟩:=h'
  rw[f9,qcX,vU]
  have hw:=fQ w os p₂ p₂
  obtain⟨r,s',hr,rfl,hR⟩:=(Z0 (qp pw w) (AG cd [nf p₂]) _ (λr s'=>r=.ok .next/\RR w os s') p₂ _).mp hw
  refine⟨.ok .next,s',hr,?_⟩
  refine⟨⟨_,rfl⟩,hR,hR.gens⟩
noncomputable abbrev H0 (P:zC):Heap:=Bb (TS P qg) nS {}
noncomputable abbrev H1 (P:zC)(led:Bool)(D:Nat->zk):Heap:=Bb (TF P led D) nF {}
theorem IP (P:zC)(led:Bool)(D:Nat->zk):(H1 P led D).isNs kT=qe:=by kernel_rfl
theorem Ki (P:zC)(led:Bool)(D:Nat->zk):(H1 P led D).isNs vi=qe:=by kernel_rfl
theorem UZ (P:zC)(led:Bool)(D:Nat->zk):(H1 P led D).bltView=bltViewBooted:=by kernel_rfl
theorem fC (P:zC)(led:Bool)(D:Nat->zk):(H1 P led D).accountedOkI (qgH pw.main.body)=qe:=by
 rw[PySem.W.Fast.te14722251495701143533,PySem.W.Fast.te5923862056798008813];kernel_rfl
theorem qcd (P:zC)(led:Bool)(D:Nat->zk):(H1 P led D).bmainOk=qe:=by rw[PySem.W.Fast.te5244371056499926238];kernel_rfl
theorem qaH (P:zC)(led:Bool)(D:Nat->zk):staticsOk (qgH pw.main.body) (H0 P) (H1 P led D)=qe:=by
 rw[PySem.W.Fast.te5923862056798008813];kernel_rfl
theorem pY (P:zC)(led:Bool)(D:Nat->zk):namesBound pw (H1 P led D)=qe:=by kernel_rfl
theorem i6 (P:zC)(led:Bool)(D:Nat->zk):laidKept (H0 P) (H1 P led D)=qe:=by kernel_rfl
theorem nE (P:zC)(led:Bool)(D:Nat->zk):(zx 28).map (λi=>if zQ i 3 then qb else (TF P led D).get i)=(zx 28).map (λi=>if zQ i 3 then qb else (TS P qg).get i):=by kernel_rfl
theorem dO (hb:b≠3)(h:(H0 P).get? b=qa o):(H1 P led D).get? b=qa o:=by
 have qQ:b < 28:=by
  have:=Heap.lt_size h
  rw[Ce] at this
  exact this
 have e:=congrArg (λl=>l[b]?) (nE P led D)
 have zy:zQ b 3=qg:=by
  cases q:zQ b 3 with
  | false=>rfl
  | true=>exact absurd (wn q) hb
 have e':(TF P led D).get b=(TS P qg).get b:=by
  simpa [qQ,hb] using e
 have h2:b < nF:=jH qQ (by decide)
 unfold Heap.get? at h ⊢
 rw[Mz,if_pos (show b < nS from qQ)] at h
 rewrite [Mz,if_pos h2,e']
 exact h
theorem behind (w:qK):(∃s,AfterRun (opening pw) w s)/\∀s,AfterRun (opening pw) w s->∃s₀,fenceModules? pw s=qa s₀/\s₀.gens=#[]/\∃s₁ os,TopRan pw w s₀ s₁/\s₁.asleep/\RR w os s₁:=by
 have h:=gM w
 rw[<-Rg] at h
 obtain⟨s₀,h1,h2⟩:=My.mp h
 obtain⟨s,h4,h5⟩:=Option.bind_eq_some_iff.mp h1
 have A:=qiJ h4
 refine⟨⟨s,A⟩,λs' hs'=>?_⟩
 obtain rfl:s'=s:=qiK hs' A
 have z:s₀.asleep:=qgI (fence_lifeW h5) A.life
 obtain⟨hp,gs,dr,tk,os⟩:=s₀
 simp only[aH] at h2
 obtain⟨rfl,rfl,rfl,rfl⟩:=h2
 refine⟨_,h5,rfl,?_⟩
 have hh:=qab (p:=pw) (w:=w) (s:=(L2 w.params os).abs) (R:=λ_ s'=>RR w os s') z (qaZ w os)
 obtain⟨m,r,s₁,t',hR,hg,hs,ht,hl⟩:=hh
 refine⟨s₁,os,?_,qgI hl z,hR⟩
 obtain⟨D,vs,rfl,hv1,hv2⟩:=hR
 generalize (!w.params.followText "set-order")=led at *
 refine(⟨⟨m,t',hs,ht⟩,rfl,Shared.rest_eq rfl,λb o hb hn=>dO (λe=>hn (.inl e)) hb,Heap.accountedI_of_ok (fC w.params led D),statics_of_ok (qaH w.params led D),Pin.keysAreStrs_of (IP w.params led D),
  λx hx=>(Pin.builtinOf_eq (Ki w.params led D) x).trans (Heap.of_bltView (Ki w.params led D) (UZ w.params led D) x hx),?_,λg hg=>?_,names_of_bound (pY w.params led D),laid_of_kept (i6 w.params led D)⟩)
 ·obtain⟨bm,ob,a,_,c,d,f,_⟩:=Heap.bmainOk_spec (qcd w.params led D)
  refine⟨bm,ob,(qgJ (IP w.params led D) _).trans a,c,d,f⟩
 ·exact absurd hg (by simp[stF,qiL])
end
noncomputable section
inductive V where
 | none | bool (b:Bool) | int (i:Int) | str (s:qf) | ref (n:Nat) | val (v:qh)
 deriving DecidableEq
inductive Tg where
 | var (i:Nat) | tup (is:List Nat)
mutual
inductive E where
 | bad
 | none | bool (b:Bool) | int (i:Int) | str (s:qf)
 | var (i:Nat) | glob (v:qh)
 | and (es:List E) | or (es:List E) | neg (e:E)
 | bin (op:aI) (a b:E)
 | cmp (op:MA) (a b:E)
 | ite (c a b:E)
 | list (es:List E) | tuple (es:List E)
 | dconst (es:List (Int×Int))
 | sconst (es:List (qf×Int))
 | lcomp (n:Nat) (elt:E) (t:Tg) (iter:E) (ifs:List E) (rest:List Gn)
 | dcomp (n:Nat) (k v:E) (t:Tg) (iter:E) (ifs:List E) (rest:List Gn)
 | lam (body:E)
 | call (f:E) (args:List E) (kn:List qf) (kv:List E)
 | meth (o:E) (name:qf) (args:List E) (kn:List qf) (kv:List E)
 | attr (o:E) (name:qf)
 | idx (o i:E)
 | slice (o lo hi st:E)
inductive Gn where
 | mk (t:Tg) (iter:E) (ifs:List E)
end
inductive B7 where
 | var (i:Nat) | tup (is:List Nat) | sub (o i:E) | attr (o:E) (name:qf)
inductive S where
 | bad
 | expr (e:E) | ret (e:E)
 | assign (t:B7) (e:E)
 | ifs (c:E) (a b:List S)
 | for_ (t:Tg) (it:E) (body:List S)
 | while_ (c:E) (body:List S)
set_option genInjectivity true in
inductive AObj where
 | list (vs:List V) | tuple (vs:List V)
 | idict (es:List (Int×V)) | sdict (es:List (qf×V))
 | sset (es:List qf)
 | range (a b:Int)
 | inst (c:qj) (d:Nat) | ns (es:List (qf×V))
 | lam (body:E)
 | view (k:Nat) (d:Nat)
noncomputable abbrev qi:=List AObj
noncomputable abbrev qx:=List (Option V)
structure qE where
 fn:qj->List V->List (qf×V)->qi->Option (V×qi)
 lam:E->V->qi->Option (V×qi)
 vmeth:qj->qf->List V->qi->Option (V×qi)
 vin:qj->V->Option Bool
 cls:qj->qf->Option qj
 iattr:qj->qf->Bool
noncomputable def qy {α:Type}(l:List α)(i:Nat):Option α:=qgK (motive:=λ_=>List α->Option α) (λl=>BL (motive:=λ_=>Option α) qb (λx _ _=>qa x) l) (λ_ ih l=>BL (motive:=λ_=>Option α) qb (λ_ r _=>ih r) l) i l
@[simp] theorem za:∀(i:Nat)(l:List α),qy l i=l[i]?
 | 0,[]=>rfl
 | 0,x :: l=>rfl
 | i+1,[]=>rfl
 | i+1,x :: l=>za i l
noncomputable def CB {α:Type}(x:α)(l:List α)(i:Nat):List α:=qgK (motive:=λ_=>List α->List α) (λl=>BL (motive:=λ_=>List α) [] (λ_ r _=>x :: r) l) (λ_ ih l=>BL (motive:=λ_=>List α) [] (λy r _=>y :: ih r) l) i l
@[simp] theorem A3 (x:α):∀(i:Nat)(l:List α),CB x l i=l.set i x
 | 0,[]=>rfl
 | 0,y :: l=>rfl
 | i+1,[]=>rfl
 | i+1,y :: l=>congrArg (y :: ·) (A3 x i l)
noncomputable def IC (a:List Nat):List Nat->Bool:=BL (motive:=λ_=>List Nat->Bool) (λb=>BL (motive:=λ_=>Bool) qe (λ_ _ _=>qg) b) (λx _ ih b=>BL (motive:=λ_=>Bool) qg (λy r _=>cond (zQ x y) (ih r) qg) b) a
theorem Sa:∀a b:List Nat,IC a b=qe->a=b
 | [],[],_=>rfl
 | [],_ :: _,h=>nomatch h
 | _ :: _,[],h=>nomatch h
 | x :: a,y :: b,h=>by
  have h:cond (zQ x y) (IC a b) qg=qe:=h
  cases e:zQ x y with
  | true=>rw[e] at h;rw[wn e,Sa a b h]
  | false=>rw[e] at h;cases h
theorem QX:∀a:List Nat,IC a a=qe
 | []=>rfl
 | x :: a=>by
  show cond (zQ x x) (IC a a) qg=qe
  rw[qgL,QX a];rfl
noncomputable def Jc (a:List Nat):List Nat->Bool:=BL (motive:=λ_=>List Nat->Bool) (λb=>BL (motive:=λ_=>Bool) qg (λ_ _ _=>qe) b) (λx _ ih b=>BL (motive:=λ_=>Bool) qg (λy r _=>cond (zQ x y) (ih r) (z3 x y)) b) a
theorem YY:∀a b:List Nat,Jc a b=decide (a < b)
 | [],[]=>rfl
 | [],y :: b=>rfl
 | x :: a,[]=>rfl
 | x :: a,y :: b=>by
  show cond (zQ x y) (Jc a b) (z3 x y)=_
  rw[YY a b]
  cases h:zQ x y with
  | true=>have:=wn h;subst this;simp
  | false =>
   have:=aJ h
   rw[k9,decide_eq_true_eq,List.cons_lt_cons_iff,cond_false,kE]
   refine⟨.inl,λh=>h.resolve_right λh=>this h.1⟩
noncomputable def ze (a b:qf):Bool:=IC a.cps.toList b.cps.toList
@[simp] theorem wZ (a b:qf):ze a b=(a == b):=by
 cases h:ze a b with
 | true =>
  obtain⟨⟨a⟩⟩:=a;obtain⟨⟨b⟩⟩:=b
  rw[show a=b from Sa a b h];exact(beq_self_eq_true _).symm
 | false=>exact(beq_eq_false_iff_ne.mpr λe=>by subst e;rw[show ze a a=qe from QX _] at h;cases h).symm
theorem vG {a b:qf}(h:ze a b=qe):a=b:=eq_of_beq ((wZ a b).symm.trans h)
noncomputable def wj (a b:qf):Bool:=Jc a.cps.toList b.cps.toList
theorem GJ (a b:qf):wj a b=decide (a.cps.toList < b.cps.toList):=YY ..
noncomputable def Hf:V->V->Bool
 | .none,.none=>qe
 | .bool a,.bool b=>a == b
 | .int a,.int b=>decide (a=b)
 | .str a,.str b=>ze a b
 | .ref a,.ref b=>zQ a b
 | .val a,.val b=>decide (a=b)
 | _,_=>qg
theorem mG {a b:V}(h:Hf a b=qe):a=b:=by
 cases a with
 | none=>cases b with | none=>rfl | _=>exact ff h
 | bool _=>cases b with | bool _=>exact congrArg V.bool (eq_of_beq h) | _=>exact ff h
 | int _=>cases b with | int _=>exact congrArg V.int (of_decide_eq_true h) | _=>exact ff h
 | str _=>cases b with | str _=>exact congrArg V.str (vG h) | _=>exact ff h
 | ref _=>cases b with | ref _=>exact congrArg V.ref (wn h) | _=>exact ff h
 | val _=>cases b with | val _=>exact congrArg V.val (of_decide_eq_true h) | _=>exact ff h
theorem tZ:∀a:V,Hf a a=qe
 | .none=>rfl
 | .bool _=>beq_self_eq_true _
 | .int _=>decide_eq_true rfl
 | .str a=>QX a.cps.toList
 | .ref _=>qgL _
 | .val _=>decide_eq_true rfl
noncomputable def GI (a:List V):List V->Bool:=BL (motive:=λ_=>List V->Bool) (λb=>BL (motive:=λ_=>Bool) qe (λ_ _ _=>qg) b) (λx _ ih b=>BL (motive:=λ_=>Bool) qg (λy r _=>cond (Hf x y) (ih r) qg) b) a
theorem TQ:∀{a b:List V},GI a b=qe->a=b
 | [],[],_=>rfl
 | [],_ :: _,h=>nomatch h
 | _ :: _,[],h=>nomatch h
 | x :: a,y :: b,h=>by
  have h:cond (Hf x y) (GI a b) qg=qe:=h
  cases e:Hf x y with
  | true=>rw[e] at h;rw[mG e,TQ h]
  | false=>rw[e] at h;cases h
theorem Ua:∀a:List V,GI a a=qe
 | []=>rfl
 | x :: a=>by
  show cond (Hf x x) (GI a a) qg=qe
  rw[tZ,Ua a];rfl
section
variable {γ:Type}
noncomputable def vI (v:V)(f:Int->Option γ):Option γ:=match v with | .int i=>f i | _=>qb
noncomputable def vS (v:V)(f:qf->Option γ):Option γ:=match v with | .str s=>f s | _=>qb
noncomputable def vB (v:V)(f:Bool->Option γ):Option γ:=match v with | .bool s=>f s | _=>qb
noncomputable def vR (v:V)(f:Nat->Option γ):Option γ:=match v with | .ref i=>f i | _=>qb
noncomputable def a0 (l:List V)(x:Option γ):Option γ:=match l with | []=>x | _=>qb
noncomputable def a1 (l:List V)(f:V->Option γ):Option γ:=match l with | [v]=>f v | _=>qb
noncomputable def a2 (l:List V)(f:V->V->Option γ):Option γ:=match l with | [v,w]=>f v w | _=>qb
noncomputable def oL (σ:qi)(i:Nat)(f:List V->Option γ):Option γ:=match qy σ i with | some (.list xs)=>f xs | _=>qb
noncomputable def oS (σ:qi)(i:Nat)(f:List (qf×V)->Option γ):Option γ:=match qy σ i with | some (.sdict xs)=>f xs | _=>qb
noncomputable def oI (σ:qi)(i:Nat)(f:List (Int×V)->Option γ):Option γ:=match qy σ i with | some (.idict xs)=>f xs | _=>qb
noncomputable def oN (σ:qi)(i:Nat)(f:List (qf×V)->Option γ):Option γ:=match qy σ i with | some (.ns xs)=>f xs | _=>qb
noncomputable def oC (σ:qi)(i:Nat)(f:qj->Nat->Option γ):Option γ:=match qy σ i with | some (.inst c d)=>f c d | _=>qb
variable {r:γ}{P:Prop}{σ:qi}
theorem QG {f:Int->Option γ}(e:vI v f=qa r):∃i,v=.int i/\f i=qa r:=by cases v with | int i=>refine⟨i,rfl,e⟩ | _=>exact nn e
theorem NU {f:qf->Option γ}(e:vS v f=qa r):∃i,v=.str i/\f i=qa r:=by cases v with | str i=>refine⟨i,rfl,e⟩ | _=>exact nn e
theorem SW {f:Bool->Option γ}(e:vB v f=qa r):∃i,v=.bool i/\f i=qa r:=by cases v with | bool i=>refine⟨i,rfl,e⟩ | _=>exact nn e
theorem x9 {f:Nat->Option γ}(e:vR v f=qa r):∃i,v=.ref i/\f i=qa r:=by cases v with | ref i=>refine⟨i,rfl,e⟩ | _=>exact nn e
theorem Vj (e:a0 l x=qa r):l=[]/\x=qa r:=match l,e with | [],e=>⟨rfl,e⟩ | _ :: _,e=>nn e
theorem pN {f:V->Option γ}(e:a1 l f=qa r):∃v,l=[v]/\f v=qa r:=by
 cases l with | nil=>exact nn e | cons v l=>cases l with | nil=>refine⟨v,rfl,e⟩ | cons=>exact nn e
theorem qa6 {f:V->V->Option γ}(e:a2 l f=qa r):∃v w,l=[v,w]/\f v w=qa r:=by
 cases l with | nil=>exact nn e | cons v l=>cases l with | nil=>exact nn e | cons w l=>cases l with | nil=>refine⟨v,w,rfl,e⟩ | cons=>exact nn e
theorem AO {f:List V->Option γ}(e:oL σ i f=qa r)(k:∀xs,σ[i]?=qa (.list xs)->f xs=qa r->P):P:=by
 unfold oL at e;rw[za] at e;generalize σ[i]?=x at e k;cases x with | none=>exact nn e | some o=>cases o with | list xs=>exact k xs rfl e | _=>exact nn e
theorem vQ {f:List V->Option γ} {xs}(h:σ[i]?=qa (.list xs)):oL σ i f=f xs:=by unfold oL;rw[za,h]
theorem HT {f:List (qf×V)->Option γ}(e:oS σ i f=qa r)(k:∀xs,σ[i]?=qa (.sdict xs)->f xs=qa r->P):P:=by
 unfold oS at e;rw[za] at e;generalize σ[i]?=x at e k;cases x with | none=>exact nn e | some o=>cases o with | sdict xs=>exact k xs rfl e | _=>exact nn e
theorem IO {f:List (qf×V)->Option γ} {xs}(h:σ[i]?=qa (.sdict xs)):oS σ i f=f xs:=by unfold oS;rw[za,h]
theorem qcN {f:List (Int×V)->Option γ}(e:oI σ i f=qa r)(k:∀xs,σ[i]?=qa (.idict xs)->f xs=qa r->P):P:=by
 unfold oI at e;rw[za] at e;generalize σ[i]?=x at e k;cases x with | none=>exact nn e | some o=>cases o with | idict xs=>exact k xs rfl e | _=>exact nn e
theorem pO {f:List (Int×V)->Option γ} {xs}(h:σ[i]?=qa (.idict xs)):oI σ i f=f xs:=by unfold oI;rw[za,h]
theorem Qw {f:List (qf×V)->Option γ}(e:oN σ i f=qa r)(k:∀xs,σ[i]?=qa (.ns xs)->f xs=qa r->P):P:=by
 unfold oN at e;rw[za] at e;generalize σ[i]?=x at e k;cases x with | none=>exact nn e | some o=>cases o with | ns xs=>exact k xs rfl e | _=>exact nn e
theorem Oc {f:List (qf×V)->Option γ} {xs}(h:σ[i]?=qa (.ns xs)):oN σ i f=f xs:=by unfold oN;rw[za,h]
theorem VH {f:qj->Nat->Option γ}(e:oC σ i f=qa r)(k:∀c d,σ[i]?=qa (.inst c d)->f c d=qa r->P):P:=by
 unfold oC at e;rw[za] at e;generalize σ[i]?=x at e k;cases x with | none=>exact nn e | some o=>cases o with | inst c d=>exact k c d rfl e | _=>exact nn e
theorem Xv {f:qj->Nat->Option γ} {c d}(h:σ[i]?=qa (.inst c d)):oC σ i f=f c d:=by unfold oC;rw[za,h]
end
noncomputable def z5 (m:qx)(i:Nat):Option V:=match qy m i with | some o=>o | none=>qb
theorem Hl (m:qx)(i:Nat):z5 m i=(m[i]?).join:=by unfold z5;rw[za];cases m[i]? with | none=>rfl | some o=>cases o <;> rfl
noncomputable def small (n:Nat):Bool:=decide (n<=1000000)
noncomputable def zM (o:AObj)(σ:qi):Option (V×qi):=qa (.ref σ.length,σ++[o])
inductive It where
 | list (id:Nat) | range (a b:Int) | str (s:qf)
noncomputable def Ar (a b:Int):List V:=(zx (b - a).toNat).map λ(k:Nat)=>V.int (a+(k:Int))
noncomputable def Dp (s:qf):List V:=s.cps.toList.map λc=>V.str ⟨#[c]⟩
noncomputable def jX (σ:qi):It->Option (List V)
 | .list id=>oL σ id λvs=>if small vs.length then qa vs else qb
 | .range a b=>if decide (-1000000<=a)&&decide (a<=1000000)&&decide (-1000000<=b)&&decide (b<=1000000) then qa (Ar a b) else qb
 | .str s=>if small s.length then qa (Dp s) else qb
noncomputable def U3 (id:Nat):AObj->Option It
 | .list _=>qa (.list id)
 | .range a b=>qa (.range a b)
 | _=>qb
noncomputable def vu (σ:qi):V->Option It
 | .str s=>qa (.str s)
 | .ref id=>bn1 (qy σ id) (U3 id)
 | _=>qb
noncomputable def w8 (σ:qi)(it:It)(all:List V):Bool :=
 match it with
 | .list id=>match qy σ id with
  | some (.list vs)=>cond (small vs.length) (GI vs all) qg
  | _=>qg
 | _=>qe
noncomputable def wc {α:Type}(it:It)(all:List V)(f:V->qi->α->Option (α×qi)):List V->qi->α->Option (α×qi)
 | [],σ,a=>if w8 σ it all then qa (a,σ) else qb
 | x :: xs,σ,a=>if w8 σ it all then bnd (f x σ a) λa σ=>wc it all f xs σ a else qb
noncomputable def BX {α:Type}(xs:List α)(n:Nat):List α:=(zS n xs).flatten
noncomputable def EQ (i:Int):Bool:=decide (i.natAbs < 1099511627776)
noncomputable def Hq {α:Type}(f:Int->Int->Option α)(a b:V):Option α:=vI a λa=>vI b λb=>f a b
noncomputable def TV (σ:qi)(a b:V):Option (V×qi) :=
 match a with
 | .int a=>vI b λb=>qa (.int (a+b),σ)
 | .str a=>vS b λb=>if small (a.length+b.length) then qa (.str (a++b),σ) else qb
 | .ref i=>vR b λj=>oL σ i λxs=>oL σ j λys=>if small (xs.length+ys.length) then zM (.list (xs++ys)) σ else qb
 | _=>qb
noncomputable def Xu (σ:qi)(a b:V):Option (V×qi) :=
 vI b λn=>match a with
 | .int a=>if EQ a&&EQ n then qa (.int (a * n),σ) else qb
 | .ref i=>oL σ i λxs=>if decide (0<=n)&&decide (n<=1000)&&decide (xs.length<=1000) then zM (.list (BX xs n.toNat)) σ else qb
 | _=>qb
noncomputable def Dx (σ:qi)(op:aI)(a b:V):Option (V×qi) :=
 match op with
 | .Add=>TV σ a b
 | .Sub=>Hq (λa b=>qa (.int (a - b),σ)) a b
 | .Mult=>Xu σ a b
 | .FloorDiv=>Hq (λa b=>if b == 0 then qb else qa (.int (a.fdiv b),σ)) a b
 | .Mod=>Hq (λa b=>if b == 0 then qb else qa (.int (a.fmod b),σ)) a b
 | _=>qb
noncomputable def Cq (f:V->V->Option Bool):List V->List V->Option Bool
 | [],[]=>qa qe
 | x :: xs,y :: ys=>bn1 (f x y) λa=>bn1 (Cq f xs ys) λb=>qa (a&&b)
 | _,_=>qb
noncomputable def U6 (f:V->V->Option Bool)(a b:AObj):Option Bool :=
 match a with
 | .list xs=>(match b with | .list ys=>if xs.length=ys.length then (if small xs.length then Cq f xs ys else qb) else qa qg | _=>qb)
 | .tuple xs=>(match b with | .tuple ys=>if xs.length=ys.length then (if small xs.length then Cq f xs ys else qb) else qb | _=>qb)
 | _=>qb
noncomputable def KT (σ:qi)(f:V->V->Option Bool)(i j:Nat):Option Bool :=
 bn1 (qy σ i) λa=>bn1 (qy σ j) λb=>U6 f a b
noncomputable def JE (r:Nat->Nat->Option Bool)(a b:V):Option Bool :=
 match a with
 | .none=>(match b with | .none=>qa qe | _=>qb)
 | .bool a=>vB b λb=>qa (a == b)
 | .int a=>vI b λb=>qa (a == b)
 | .str a=>vS b λb=>qa (ze a b)
 | .ref i=>vR b λj=>r i j
 | .val _=>qb
noncomputable def vc (σ:qi):Nat->V->V->Option Bool
 | 0=>JE λ_ _=>qb
 | n+1=>JE (KT σ (vc σ n))
noncomputable def BY (σ:qi)(x:V):List V->Option (List Bool)
 | []=>qa []
 | y :: ys=>bn1 (vc σ 3 y x) λa=>bn1 (BY σ x ys) λl=>qa (a :: l)
noncomputable def EP:V->V->Option Bool
 | .none,.none=>qa qe
 | .val (.type v),.val (.type w)=>qa (v == w)
 | .val (.type _),.none=>qa qg
 | .val (.ref _),.none=>qa qg
 | .val _,.none=>qb
 | _,.none=>qa qg
 | _,_=>qb
noncomputable def UL (σ:qi)(x:V):AObj->Option Bool
 | .list ys=>if small ys.length then bn1 (BY σ x ys) λl=>qa (l.any id) else qb
 | .sdict es=>vS x λs=>qa (es.any λe=>ze e.1 s)
 | .sset es=>vS x λs=>qa (es.any λe=>ze e s)
 | _=>qb
noncomputable def Ei (O:qE)(σ:qi)(x:V):V->Option Bool
 | .ref i=>bn1 (qy σ i) (UL σ x)
 | .val (.ref a)=>O.vin a x
 | _=>qb
noncomputable def Do (a b:V):Option Bool :=
 match a with
 | .int a=>vI b λb=>qa (decide (a < b))
 | .str a=>vS b λb=>qa (wj a b)
 | _=>qb
noncomputable def DY (O:qE)(σ:qi)(op:MA)(a b:V):Option Bool :=
 match op with
 | .Lt=>Do a b
 | .LtE=>qb
 | .Gt=>Hq (λa b=>qa (decide (a > b))) a b
 | .GtE=>qb
 | .Eq=>vc σ 4 a b
 | .NotEq=>bn1 (vc σ 4 a b) λb=>qa (!b)
 | .Is=>EP a b
 | .IsNot=>bn1 (EP a b) λb=>qa (!b)
 | .In=>Ei O σ a b
 | .NotIn=>bn1 (Ei O σ a b) λb=>qa (!b)
noncomputable def Eb (σ:qi):V->Option Bool
 | .bool b=>qa b
 | .none=>qa qg
 | _=>qb
noncomputable def A0 (i:Int):Bool:=decide (-4611686018427387904<=i)&&decide (i < 4611686018427387904)
noncomputable def CE {α:Type}(xs:List α)(k:Int):Option α :=
 if A0 k&&small xs.length then bn1 (HA k xs.length) (qy xs) else qb
noncomputable def jP (es:List (qf×V))(s:qf):Option V:=(es.find? λe=>ze e.1 s).map (·.2)
noncomputable def D7 (es:List (Int×V))(s:Int):Option V:=(es.find? λe=>e.1 == s).map (·.2)
noncomputable def wy (es:List (qf×V))(s:qf)(v:V):List (qf×V) :=
 if es.any (λe=>ze e.1 s) then es.map (λe=>if ze e.1 s then (e.1,v) else e) else es++[(s,v)]
noncomputable def E5 (i:V):AObj->Option V
 | .list xs=>vI i (CE xs)
 | .tuple xs=>vI i (CE xs)
 | .sdict es=>vS i (jP es)
 | _=>qb
noncomputable def Di (σ:qi)(o i:V):Option V :=
 match o with
 | .str s=>vI i λk=>if A0 k then bn1 (JN s k) λc=>qa (V.str ⟨#[c]⟩) else qb
 | .ref a=>bn1 (qy σ a) (E5 i)
 | _=>qb
theorem Gd {a:Nat}{o:AObj}(h:σ[a]?=qa o):Di σ (.ref a) i=E5 i o:=by
 show bn1 (qy σ a) _=_;rw[za,h];rfl
noncomputable def w9 {α:Type}(xs:List α)(lo hi st:Option Int):Option (List α) :=
 match st with
 | none=>qa ((xs.drop (lo.elim 0 (jU xs.length))).take (hi.elim xs.length (jU xs.length) - lo.elim 0 (jU xs.length)))
 | some _=>qb
noncomputable def Dl:V->Option (Option Int)
 | .none=>qa qb
 | .int i=>if A0 i then qa (qa i) else qb
 | _=>qb
noncomputable def Gq (σ:qi)(o lo hi st:V):Option (V×qi) :=
 bn1 (Dl lo) λlo=>bn1 (Dl hi) λhi=>bn1 (Dl st) λst =>
 match o with
 | .str s=>if small s.length&&st.isNone then bn1 (w9 s.cps.toList lo hi st) λxs=>qa (V.str ⟨xs.toArray⟩,σ) else qb
 | .ref a=>oL σ a λxs=>if small xs.length then bn1 (w9 xs lo hi st) λys=>zM (.list ys) σ else qb
 | _=>qb
noncomputable def Sm (s:qf):Option Int:=match s.cps.toList with | [c]=>qa (c:Int) | _=>qb
noncomputable def Fs:List V->Option (List qf)
 | []=>qa []
 | v :: r=>vS v λs=>bn1 (Fs r) λl=>qa (s :: l)
noncomputable def Hb:List V->Option (List Int)
 | []=>qa []
 | v :: r=>vI v λs=>bn1 (Hb r) λl=>qa (s :: l)
noncomputable def wM {α:Type}(lt:α->α->Bool)(x:α):List α->List α
 | []=>[x]
 | y :: r=>cond (lt x y) (x :: y :: r) (y :: wM lt x r)
noncomputable def H2 {α:Type}(lt:α->α->Bool):List α->List α
 | []=>[]
 | x :: r=>wM lt x (H2 lt r)
noncomputable def DC (a b:Int):Bool:=decide (a < b)
noncomputable def Bu:List qf->List qf:=H2 wj
noncomputable def Gb:List Int->List Int:=H2 DC
noncomputable def Hk (vs:List V):Option (List V) :=
 match Fs vs with
 | some ss=>qa ((Bu ss).map V.str)
 | none=>bn1 (Hb vs) λns=>qa ((Gb ns).map V.int)
noncomputable def KE (σ:qi)(o:AObj):Option (List V) :=
 match o with
 | .list vs=>if decide (vs.length<=63) then Hk vs else qb
 | .view k d=>if zQ k 0 then oS σ d λes=>if decide (es.length<=63) then qa ((Bu (es.map (·.1))).map V.str) else qb else qb
 | _=>qb
noncomputable def CC {α:Type}(EE:Nat->Nat->Option Bool):KasT α->Option α
 | .ret a=>qa a
 | .ask i j k=>bn1 (EE i j) λb=>CC EE (k b)
noncomputable def Kx (ks:List qf)(i j:Nat):Option Bool:=bn1 (qy ks i) λa=>bn1 (qy ks j) λb=>qa (wj a b)
noncomputable def CO (ks:List qf):Option (Array Nat):=if decide (ks.length < 2) then qa (v5 (zx ks.length)) else CC (Kx ks) (MB ks.length)
noncomputable def Ef (vs:List V):List Nat->Option (List V)
 | []=>qa []
 | i :: r=>bn1 (qy vs i) λv=>bn1 (Ef vs r) λl=>qa (v :: l)
noncomputable def Tn (σ:qi):V->Option V
 | .str _=>qa (.val (.type "str"))
 | .ref i=>oL σ i λ_=>qa (.val (.type "list"))
 | _=>qb
noncomputable abbrev BF:=qi->List V->Option (V×qi)
noncomputable def Kl:BF:=λσ args=>a1 args λv=>match v with
 | .str s=>if small s.length then qa (.int s.length,σ) else qb
 | .ref i=>oL σ i λxs=>if small xs.length then qa (.int xs.length,σ) else qb
 | _=>qb
noncomputable def Pa:BF:=λσ args=>a1 args λv=>vI v λi=>if decide (0<=i)&&decide (i < 1114112) then qa (.str ⟨#[i.toNat]⟩,σ) else qb
noncomputable def PD:BF:=λσ args=>a1 args λv=>vS v λs=>bn1 (Sm s) λn=>qa (.int n,σ)
noncomputable def TR:V->Option Bool
 | .bool _=>qa qe
 | .str _ | .int _ | .none=>qa qg
 | _=>qb
noncomputable def V8:V->Bool
 | .val (.type s)=>s == "bool"
 | _=>qg
noncomputable def Oz:BF:=λσ args=>a2 args λv t=>if V8 t then bn1 (TR v) λb=>qa (.bool b,σ) else qb
noncomputable def Ln:BF:=λσ args=>a1 args λv=>vR v λi=>bn1 (qy σ i) λo=>bn1 (KE σ o) λws=>zM (.list ws) σ
noncomputable def Qz:BF:=λσ args=>a2 args λa b=>vI a λa=>vI b λb=>qa (.int (if b < a then b else a),σ)
noncomputable def Ya:List (String×BF):=[("len", Kl),("chr", Pa),("ord", PD),("isinstance", Oz),("min", Qz),("sorted", Ln)]
noncomputable def Im (σ:qi)(id:String)(args:List V):Option (V×qi):=bn1 (Ya.lookup id) λf=>f σ args
noncomputable def NE:BF:=λσ args=>match args with
 | [v]=>vI v λb=>zM (.range 0 b) σ
 | [v,w]=>vI v λa=>vI w λb=>zM (.range a b) σ
 | _=>qb
noncomputable def Uv (σ:qi)(o:AObj):Option (List V) :=
 match o with
 | .range a b=>jX σ (.range a b)
 | .view k d=>if zQ k 1 then oS σ d λes=>if small es.length then qa (es.map (·.2)) else qb else qb
 | _=>qb
noncomputable def KR:BF:=λσ args=>a1 args λv=>vR v λi=>bn1 (qy σ i) λo=>bn1 (Uv σ o) λvs=>zM (.list vs) σ
noncomputable def No:BF:=λσ args=>a0 args (zM (.sset []) σ)
noncomputable def GP:qf:=⟨#[84,114,117,101]⟩
noncomputable def Gu:qf:=⟨#[70,97,108,115,101]⟩
noncomputable def Qy:BF:=λσ args=>a1 args λv=>vB v λb=>qa (.str (cond b GP Gu),σ)
noncomputable def NR:BF:=λσ args=>a1 args λv=>bn1 (Tn σ v) λt=>qa (t,σ)
noncomputable def Ud:List (String×BF):=[("range", NE),("list", KR),("type", NR),("set", No),("str", Qy)]
noncomputable def NP (σ:qi)(id:String)(args:List V):Option (V×qi):=bn1 (Ud.lookup id) λf=>f σ args
noncomputable def Fm {γ:Type}(l:List (qf×V))(x:Option γ):Option γ:=match l with | []=>x | _=>qb
theorem GT {r:γ}(e:Fm l x=qa r):l=[]/\x=qa r:=match l,e with | [],e=>⟨rfl,e⟩ | _ :: _,e=>nn e
noncomputable def Wj (O:qE)(σ:qi)(v:V):AObj->Option (V×qi)
 | .lam b=>O.lam b v σ
 | _=>qb
noncomputable def oF (σ:qi){γ:Type}(i:Nat)(f:E->Option γ):Option γ:=match qy σ i with | some (.lam b)=>f b | _=>qb
theorem Qk {r:γ}{P:Prop}{i:Nat}{f:E->Option γ}(e:oF σ i f=qa r)(k:∀b,σ[i]?=qa (.lam b)->f b=qa r->P):P:=by
 unfold oF at e;rw[za] at e;generalize σ[i]?=x at e k;cases x with | none=>exact nn e | some o=>cases o with | lam b=>exact k b rfl e | _=>exact nn e
theorem ZY {f:E->Option γ}(h:σ[i]?=qa (.lam b)):oF σ i f=f b:=by unfold oF;rw[za,h]
noncomputable def Bz (O:qE)(j:Nat):List V->qi->Option (List qf×qi)
 | [],σ=>qa ([],σ)
 | x :: r,σ=>oF σ j λb=>bnd (O.lam b x σ) λv σ=>vS v λs=>bnd (Bz O j r σ) λks σ=>qa (s :: ks,σ)
noncomputable def k1 {γ:Type}(l:List (qf×V))(f:qf->V->Option γ):Option γ:=match l with | [x]=>f x.1 x.2 | _=>qb
theorem rD {f:qf->V->Option γ}{r:γ}(e:k1 l f=qa r):∃k v,l=[(k,v)]/\f k v=qa r:=by
 cases l with | nil=>exact nn e | cons x l=>cases l with | nil=>refine⟨x.1,x.2,rfl,e⟩ | cons=>exact nn e
noncomputable def ky:qf:=⟨#[107,101,121]⟩
noncomputable def T0 (O:qE)(σ:qi)(id:String)(args:List V)(kw:List (qf×V)):Option (V×qi) :=
 a1 args λv=>k1 kw λk f=>vR v λi=>vR f λj=>oL σ i λvs=>oF σ j λb =>
  if ze k ky&&id == "sorted" && decide (vs.length<=63) then
   bnd (Bz O j vs σ) λks σ=>bn1 (CO ks) λp=>if decide (p.size=vs.length) then bn1 (Ef vs p.toList) λws=>zM (.list ws) σ else qb
  else qb
noncomputable def vP (O:qE)(args:List V)(kw:List (qf×V))(σ:qi):qh->Option (V×qi)
 | .ref a=>O.fn a args kw σ
 | .builtin id=>(match kw with | []=>Im σ id args | _=>T0 O σ id args kw)
 | .type id=>Fm kw (NP σ id args)
 | _=>qb
noncomputable def apply (O:qE)(f:V)(args:List V)(kw:List (qf×V))(σ:qi):Option (V×qi) :=
 match f with
 | .val u=>vP O args kw σ u
 | .ref i=>a1 args λv=>Fm kw (bn1 (qy σ i) (Wj O σ v))
 | _=>qb
noncomputable def Ij {α:Type}(xs:List α)(k:Nat)(v:α):List α:=xs.take k++v :: xs.drop k
noncomputable abbrev MF:=qi->V->List V->Option (V×qi)
noncomputable def Qp:MF:=λσ o args=>vS o λs=>a0 args (if jN (Cg s).length then qb else qa (.str (Cg s),σ))
noncomputable def GQ:MF:=λσ o args=>vS o λs=>a0 args (if jN (zp s).length then qb else qa (.str (zp s),σ))
noncomputable def O4:MF:=λσ o args=>vS o λs=>a1 args λv=>vR v λi=>oL σ i λvs=>bn1 (Fs vs) λss =>
 if decide ((ss.map (·.length)).sum+ss.length * s.length<=16777216) then qa (.str (aK s ss),σ) else qb
noncomputable def OQ:MF:=λσ o args=>vR o λi=>a1 args λv=>oL σ i λxs=>if small xs.length then qa (.none,CB (.list (xs++[v])) σ i) else qb
noncomputable def Qf:MF:=λσ o args=>vR o λi=>a2 args λk v=>vI k λk=>oL σ i λxs=>if small xs.length&&A0 k&&decide (0<=k) then qa (.none,CB (.list (Ij xs k.toNat v)) σ i) else qb
noncomputable def Oo:MF:=λσ o args=>vR o λi=>a1 args λv=>oL σ i λxs=>if small xs.length then bn1 (BY σ v xs) λl=>bn1 (l.findIdx? λb=>b) λn=>qa (.int n,σ) else qb
noncomputable def Qd:MF:=λσ o args=>vR o λi=>a1 args λv=>oL σ i λxs=>if small xs.length then bn1 (BY σ v xs) λl=>qa (.int (l.countP λb=>b),σ) else qb
noncomputable def E0:MF:=λσ o args=>vR o λi=>a2 args λk d=>match k with
 | .str s=>oS σ i λes=>qa ((jP es s).getD d,σ)
 | .int s=>oI σ i λes=>qa ((D7 es s).getD d,σ)
 | _=>qb
noncomputable def G7 (k:Nat):MF:=λσ o args=>vR o λi=>a0 args (oS σ i λ_=>zM (.view k i) σ)
noncomputable def oT (σ:qi){γ:Type}(i:Nat)(f:List qf->Option γ):Option γ:=match qy σ i with | some (.sset b)=>f b | _=>qb
theorem fR {r:γ}{P:Prop}{i:Nat}{f:List qf->Option γ}(e:oT σ i f=qa r)(k:∀b,σ[i]?=qa (.sset b)->f b=qa r->P):P:=by
 unfold oT at e;rw[za] at e;generalize σ[i]?=x at e k;cases x with | none=>exact nn e | some o=>cases o with | sset b=>exact k b rfl e | _=>exact nn e
theorem mQ {b:List qf}{f:List qf->Option γ}(h:σ[i]?=qa (.sset b)):oT σ i f=f b:=by unfold oT;rw[za,h]
noncomputable def Dv (es:List qf)(s:qf):List qf:=if es.any λe=>ze e s then es else es++[s]
noncomputable def M3:MF:=λσ o args=>vR o λi=>a1 args λv=>vS v λs=>oT σ i λes=>if decide (es.length<=4000) then qa (.none,CB (.sset (Dv es s)) σ i) else qb
inductive Mk where
 | bi (id:String) (f:MF) | fn (a:qj) | vm (a:qj) (name:qf)
noncomputable def D6:qf:=⟨#[117,112,112,101,114]⟩
noncomputable def wG:qf:=⟨#[108,111,119,101,114]⟩
noncomputable def ES:qf:=⟨#[105,110,100,101,120]⟩
noncomputable def I8:qf:=⟨#[106,111,105,110]⟩
noncomputable def DH:qf:=⟨#[97,112,112,101,110,100]⟩
noncomputable def Jy:qf:=⟨#[105,110,115,101,114,116]⟩
noncomputable def HS:qf:=⟨#[99,111,117,110,116]⟩
noncomputable def vn:qf:=⟨#[103,101,116]⟩
noncomputable def Bl:qf:=⟨#[107,101,121,115]⟩
noncomputable def Ix:qf:=⟨#[118,97,108,117,101,115]⟩
noncomputable def IY:qf:=⟨#[97,100,100]⟩
noncomputable abbrev MT:=List (qf×String×MF)
noncomputable def Ld:MT:=[(D6, "str.upper", Qp),(wG, "str.lower", GQ),(I8, "str.join", O4)]
noncomputable def Dz:MT:=[(DH, "list.append", OQ),(Jy, "list.insert", Qf),(ES, "list.index", Oo),(HS, "list.count", Qd)]
noncomputable def Fo:MT:=[(vn, "dict.get", E0),(Bl, "dict.keys", G7 0),(Ix, "dict.values", G7 1)]
noncomputable def Lu:MT:=[(IY, "set.add", M3)]
noncomputable def vE (name:qf):MT->Option Mk
 | []=>qb
 | x :: r=>cond (ze name x.1) (qa (.bi x.2.1 x.2.2)) (vE name r)
noncomputable def T7 (O:qE)(σ:qi)(name:qf):AObj->Option Mk
 | .list _=>vE name Dz
 | .sdict _=>vE name Fo
 | .idict _=>vE name [(vn, "dict.get", E0)]
 | .sset _=>vE name Lu
 | .inst c d=>oN σ d λes=>if (jP es name).isNone then bn1 (O.cls c name) λa=>qa (.fn a) else qb
 | _=>qb
noncomputable def Cy (O:qE)(σ:qi)(o:V)(name:qf):Option Mk :=
 match o with
 | .str _=>vE name Ld
 | .val u=>(match u with | .ref a=>qa (.vm a name) | _=>qb)
 | .ref i=>bn1 (qy σ i) (T7 O σ name)
 | _=>qb
noncomputable def IK (O:qE)(σ:qi)(mk:Mk)(o:V)(args:List V)(kw:List (qf×V)):Option (V×qi) :=
 match mk with
 | .bi _ f=>Fm kw (f σ o args)
 | .fn f=>O.fn f (o :: args) kw σ
 | .vm a name=>Fm kw (O.vmeth a name args σ)
noncomputable def H6 (O:qE)(σ:qi)(o:V)(name:qf):Option V :=
 vR o λi=>oC σ i λc d=>oN σ d λes=>if O.iattr c name then bn1 (jP es name) λv=>vR v λn=>qa (.ref n) else qb
noncomputable def put (m:qx)(i:Nat)(v:V):Option qx:=if i < m.length then qa (m.set i (qa v)) else qb
noncomputable def kg:List Nat->List V->qx->Option qx
 | [],[],m=>qa m
 | i :: is,v :: vs,m=>bn1 (put m i v) λm=>kg is vs m
 | _,_,_=>qb
noncomputable def qbS:AObj->Option (List V)
 | .list vs=>if small vs.length then qa vs else qb
 | .tuple vs=>if small vs.length then qa vs else qb
 | _=>qb
noncomputable def Aq (σ:qi)(v:V):Option (List V):=vR v λi=>bn1 (qy σ i) qbS
noncomputable def AP (σ:qi)(t:Tg)(v:V)(m:qx):Option qx :=
 match t with
 | .var i=>put m i v
 | .tup is=>bn1 (Aq σ v) λvs=>kg is vs m
noncomputable def Er (m:qx)(i:Nat)(v:V):Option qx:=if i < m.length&&(z5 m i).isNone then qa (m.set i (qa v)) else qb
noncomputable def Jf:List Nat->List V->qx->Option qx
 | [],[],m=>qa m
 | i :: is,v :: vs,m=>bn1 (Er m i v) λm=>Jf is vs m
 | _,_,_=>qb
noncomputable def GB (σ:qi)(t:Tg)(v:V)(m:qx):Option qx :=
 match t with
 | .var i=>Er m i v
 | .tup is=>bn1 (Aq σ v) λvs=>Jf is vs m
noncomputable def qaM (σ:qi)(a:Nat)(i v:V):AObj->Option qi
 | .sdict es=>vS i λs=>if small es.length then qa (CB (.sdict (wy es s v)) σ a) else qb
 | _=>qb
noncomputable def M9 (σ:qi)(o i v:V):Option qi:=vR o λa=>bn1 (qy σ a) (qaM σ a i v)
noncomputable def II (O:qE)(σ:qi)(o:V)(name:qf)(v:V):Option qi :=
 vR o λi=>oC σ i λc d=>oN σ d λes=>if O.iattr c name&&decide (es.length<=5) then qa (CB (.ns (wy es name v)) σ d) else qb
noncomputable def Ae {α:Type} [BEq α]:List α->Bool
 | []=>qe
 | x :: r=>!r.contains x&&Ae r
noncomputable def FE (l:List (V×V)):Option (List (qf×V)) :=
 l.foldl (λql e=>bn1 ql λes=>vS e.1 λs=>qa (wy es s e.2)) (qa [])
mutual
noncomputable def ev (O:qE):E->qx->qi->Option (V×qi)
 | .bad,_,_=>qb
 | .none,_,σ=>qa (.none,σ)
 | .bool b,_,σ=>qa (.bool b,σ)
 | .int i,_,σ=>qa (.int i,σ)
 | .str s,_,σ=>qa (.str s,σ)
 | .var i,m,σ=>bn1 (z5 m i) λv=>qa (v,σ)
 | .glob v,_,σ=>qa (.val v,σ)
 | .and es,m,σ=>evAnd O es m σ
 | .or _,_,_=>qb
 | .neg e,m,σ=>bnd (ev O e m σ) λv σ=>vI v λi=>qa (.int (-i),σ)
 | .bin op a b,m,σ=>bnd (ev O a m σ) λx σ=>bnd (ev O b m σ) λy σ=>Dx σ op x y
 | .cmp op a b,m,σ=>bnd (ev O a m σ) λx σ=>bnd (ev O b m σ) λy σ=>bn1 (DY O σ op x y) λc=>qa (.bool c,σ)
 | .ite c a b,m,σ=>bnT (tst O c m σ (λ_=>ev O c m σ)) (λσ=>ev O a m σ) λσ=>ev O b m σ
 | .list es,m,σ=>bnd (evs O es m σ) λvs σ=>if small vs.length then zM (.list vs) σ else qb
 | .tuple es,m,σ=>bnd (evs O es m σ) λvs σ=>if small vs.length then zM (.tuple vs) σ else qb
 | .dconst es,m,σ=>zM (.idict (es.map λe=>(e.1,V.int e.2))) σ
 | .sconst es,m,σ=>zM (.sdict (es.map λe=>(e.1,V.int e.2))) σ
 | .lcomp n elt t iter ifs rest,m,σ=>bnd (ev O iter m σ) λv σ=>bn1 (vu σ v) λit=>bn1 (jX σ it) λitems =>
   bnd (wc it items (λx σ ql=>bn1 (GB σ t x (m++zS n qb)) λm'=>bnT (tsts O ifs m' σ)
     (λσ=>gens O rest (λm σ ql=>bnd (ev O elt m σ) λv σ=>if small ql.length then qa (ql++[(v,.none)],σ) else qb) m' σ ql) λσ=>qa (ql,σ)) items σ ([]:List (V×V)))
    λql σ=>zM (.list (ql.map (·.1))) σ
 | .dcomp n k w t iter ifs rest,m,σ=>bnd (ev O iter m σ) λv σ=>bn1 (vu σ v) λit=>bn1 (jX σ it) λitems =>
   bnd (wc it items (λx σ ql=>bn1 (GB σ t x (m++zS n qb)) λm'=>bnT (tsts O ifs m' σ)
     (λσ=>gens O rest (λm σ ql=>bnd (ev O k m σ) λkv σ=>bnd (ev O w m σ) λwv σ=>vS kv λx=>if small ql.length then qa (ql++[(.str x,wv)],σ) else qb) m' σ ql) λσ=>qa (ql,σ)) items σ ([]:List (V×V)))
    λql σ=>bn1 (FE ql) λes=>zM (.sdict es) σ
 | .lam b,_,σ=>zM (.lam b) σ
 | .call f args kn kv,m,σ=>bnd (ev O f m σ) λfv σ=>bnd (evs O args m σ) λvs σ=>bnd (evs O kv m σ) λks σ=>apply O fv vs (kn.zip ks) σ
 | .meth o name args kn kv,m,σ=>bnd (ev O o m σ) λov σ=>bn1 (Cy O σ ov name) λmk=>bnd (evs O args m σ) λvs σ=>bnd (evs O kv m σ) λks σ=>IK O σ mk ov vs (kn.zip ks)
 | .attr o name,m,σ=>bnd (ev O o m σ) λov σ=>bn1 (H6 O σ ov name) λv=>qa (v,σ)
 | .idx o i,m,σ=>bnd (ev O o m σ) λov σ=>bnd (ev O i m σ) λiv σ=>bn1 (Di σ ov iv) λv=>qa (v,σ)
 | .slice o lo hi st,m,σ=>bnd (ev O o m σ) λov σ=>bnd (ev O lo m σ) λl σ=>bnd (ev O hi m σ) λh σ=>bnd (ev O st m σ) λs σ=>Gq σ ov l h s
noncomputable def tst (O:qE):E->qx->qi->(Unit->Option (V×qi))->Option (Bool×qi)
 | .and es,m,σ,_=>tAnd O es m σ
 | .or es,m,σ,_=>tOr O es m σ
 | .ite _ _ _,_,_,_=>qb
 | _,_,_,whole=>bnd (whole ()) λv σ=>bn1 (Eb σ v) λb=>qa (b,σ)
noncomputable def tAnd (O:qE):List E->qx->qi->Option (Bool×qi)
 | [],_,σ=>qa (qe,σ)
 | e :: es,m,σ=>bnT (tst O e m σ (λ_=>ev O e m σ)) (λσ=>tAnd O es m σ) λσ=>qa (qg,σ)
noncomputable def tOr (O:qE):List E->qx->qi->Option (Bool×qi)
 | [],_,σ=>qa (qg,σ)
 | e :: es,m,σ=>bnT (tst O e m σ (λ_=>ev O e m σ)) (λσ=>qa (qe,σ)) λσ=>tOr O es m σ
noncomputable def evAnd (O:qE):List E->qx->qi->Option (V×qi)
 | [],_,_=>qb
 | [e],m,σ=>ev O e m σ
 | e :: es,m,σ=>bnd (ev O e m σ) λv σ=>bn1 (Eb σ v) λb=>cond b (evAnd O es m σ) (qa (v,σ))
noncomputable def evs (O:qE):List E->qx->qi->Option (List V×qi)
 | [],_,σ=>qa ([],σ)
 | e :: es,m,σ=>bnd (ev O e m σ) λv σ=>bnd (evs O es m σ) λvs σ=>qa (v :: vs,σ)
noncomputable def tsts (O:qE):List E->qx->qi->Option (Bool×qi)
 | [],_,σ=>qa (qe,σ)
 | e :: es,m,σ=>bnT (tst O e m σ (λ_=>ev O e m σ)) (λσ=>tsts O es m σ) λσ=>qa (qg,σ)
noncomputable def gens (O:qE):List Gn->(qx->qi->List (V×V)->Option (List (V×V)×qi))->qx->qi->List (V×V)->Option (List (V×V)×qi)
 | [],leaf,m,σ,ql=>leaf m σ ql
 | .mk t iter ifs :: rest,leaf,m,σ,ql=>bnd (ev O iter m σ) λv σ=>bn1 (vu σ v) λit=>bn1 (jX σ it) λitems =>
   wc it items (λx σ ql=>bn1 (GB σ t x m) λm'=>bnT (tsts O ifs m' σ) (λσ=>gens O rest leaf m' σ ql) λσ=>qa (ql,σ)) items σ ql
end
noncomputable abbrev Fg:=qx->qi->List (V×V)->Option (List (V×V)×qi)
noncomputable def wa (O:qE)(tg:Tg)(ifs:List E)(rest:List Gn)(leaf:Fg)(m:qx)(x:V)(σ:qi)(ql:List (V×V)):Option (List (V×V)×qi) :=
 bn1 (GB σ tg x m) λm'=>bnT (tsts O ifs m' σ) (λσ=>gens O rest leaf m' σ ql) λσ=>qa (ql,σ)
noncomputable def Fb (O:qE)(elt:E):Fg:=λm σ ql=>bnd (ev O elt m σ) λv σ=>if small ql.length then qa (ql++[(v,.none)],σ) else qb
noncomputable def Kk (O:qE)(k w:E):Fg:=λm σ ql=>bnd (ev O k m σ) λkv σ=>bnd (ev O w m σ) λwv σ=>vS kv λx=>if small ql.length then qa (ql++[(.str x,wv)],σ) else qb
section
variable {O:qE}{m:qx}{σ:qi}{P:Prop}{r:V×qi}{wh:Unit->Option (V×qi)}{es args kv:List E}{kn:List qf}{a b c f lo hi st o:E}{name:qf}
theorem oY (e:ev O (.var i) m σ=qa r)(k:∀v,z5 m i=qa v->qa (v,σ)=qa r->P):P:=b1 (x:=z5 m i) (f:=λv=>qa (v,σ)) e k
theorem eH (e:ev O (.and es) m σ=qa r):evAnd O es m σ=qa r:=e
theorem qcp (e:ev O (.neg a) m σ=qa r)(k:∀i σ₁,ev O a m σ=qa (.int i,σ₁)->qa (V.int (-i),σ₁)=qa r->P):P :=
 b2 (x:=ev O a m σ) (f:=λv σ=>vI v λi=>qa (V.int (-i),σ)) e λv σ₁ e1 e=>by
  obtain⟨i,rfl,e⟩:=QG e
  exact k i σ₁ e1 e
theorem qbh (e:ev O (.bin op a b) m σ=qa r)(k:∀x σ₁,ev O a m σ=qa (x,σ₁)->∀y σ₂,ev O b m σ₁=qa (y,σ₂)->Dx σ₂ op x y=qa r->P):P :=
 b2 (x:=ev O a m σ) (f:=λx σ=>bnd (ev O b m σ) λy σ=>Dx σ op x y) e λx σ₁ e1 e=>b2 e (k x σ₁ e1)
theorem Y6 (e:ev O (.cmp op a b) m σ=qa r)(k:∀x σ₁,ev O a m σ=qa (x,σ₁)->∀y σ₂,ev O b m σ₁=qa (y,σ₂)->∀c,DY O σ₂ op x y=qa c->qa (V.bool c,σ₂)=qa r->P):P :=
 b2 (x:=ev O a m σ) (f:=λx σ=>bnd (ev O b m σ) λy σ=>bn1 (DY O σ op x y) λc=>qa (V.bool c,σ)) e λx σ₁ e1 e=>b2 e λy σ₂ e2 e=>b1 e (k x σ₁ e1 y σ₂ e2)
theorem qfG (e:ev O (.ite c a b) m σ=qa r)(k:∀σ₁,tst O c m σ (λ_=>ev O c m σ)=qa (qe,σ₁)->ev O a m σ₁=qa r->P)(l:∀σ₁,tst O c m σ (λ_=>ev O c m σ)=qa (qg,σ₁)->ev O b m σ₁=qa r->P):P :=
 bt (f:=λσ=>ev O a m σ) (g:=λσ=>ev O b m σ) e k l
theorem gL (e:ev O (.list es) m σ=qa r)(k:∀vs σ₁,evs O es m σ=qa (vs,σ₁)->small vs.length=qe->zM (.list vs) σ₁=qa r->P):P :=
 b2 (x:=evs O es m σ) (f:=λvs σ=>if small vs.length then zM (.list vs) σ else qb) e λvs σ₁ e1 e=>bi e (k vs σ₁ e1)
theorem qet (e:ev O (.tuple es) m σ=qa r)(k:∀vs σ₁,evs O es m σ=qa (vs,σ₁)->small vs.length=qe->zM (.tuple vs) σ₁=qa r->P):P :=
 b2 (x:=evs O es m σ) (f:=λvs σ=>if small vs.length then zM (.tuple vs) σ else qb) e λvs σ₁ e1 e=>bi e (k vs σ₁ e1)
theorem yW (e:ev O (.call f args kn kv) m σ=qa r)(k:∀fv σ₁,ev O f m σ=qa (fv,σ₁)->∀vs σ₂,evs O args m σ₁=qa (vs,σ₂)->∀ks kO,evs O kv m σ₂=qa (ks,kO)->apply O fv vs (kn.zip ks) kO=qa r->P):P :=
 b2 (x:=ev O f m σ) (f:=λfv σ=>bnd (evs O args m σ) λvs σ=>bnd (evs O kv m σ) λks σ=>apply O fv vs (kn.zip ks) σ) e λfv σ₁ e1 e=>b2 e λvs σ₂ e2 e=>b2 e (k fv σ₁ e1 vs σ₂ e2)
theorem qfe (e:ev O (.meth o name args kn kv) m σ=qa r)(k:∀ov σ₁,ev O o m σ=qa (ov,σ₁)->∀mk,Cy O σ₁ ov name=qa mk->∀vs σ₂,evs O args m σ₁=qa (vs,σ₂)->∀ks kO,evs O kv m σ₂=qa (ks,kO) ->
  IK O kO mk ov vs (kn.zip ks)=qa r->P):P :=
 b2 (x:=ev O o m σ) (f:=λov σ=>bn1 (Cy O σ ov name) λmk=>bnd (evs O args m σ) λvs σ=>bnd (evs O kv m σ) λks σ=>IK O σ mk ov vs (kn.zip ks)) e
  λov σ₁ e1 e=>b1 e λmk e0 e=>b2 e λvs σ₂ e2 e=>b2 e (k ov σ₁ e1 mk e0 vs σ₂ e2)
theorem qap (e:ev O (.attr o name) m σ=qa r)(k:∀ov σ₁,ev O o m σ=qa (ov,σ₁)->∀v,H6 O σ₁ ov name=qa v->qa (v,σ₁)=qa r->P):P :=
 b2 (x:=ev O o m σ) (f:=λov σ=>bn1 (H6 O σ ov name) λv=>qa (v,σ)) e λov σ₁ e1 e=>b1 e (k ov σ₁ e1)
theorem sD (e:ev O (.idx o a) m σ=qa r)(k:∀ov σ₁,ev O o m σ=qa (ov,σ₁)->∀iv σ₂,ev O a m σ₁=qa (iv,σ₂)->∀v,Di σ₂ ov iv=qa v->qa (v,σ₂)=qa r->P):P :=
 b2 (x:=ev O o m σ) (f:=λov σ=>bnd (ev O a m σ) λiv σ=>bn1 (Di σ ov iv) λv=>qa (v,σ)) e λov σ₁ e1 e=>b2 e λiv σ₂ e2 e=>b1 e (k ov σ₁ e1 iv σ₂ e2)
theorem nR (e:ev O (.slice o lo hi st) m σ=qa r)(k:∀ov σ₁,ev O o m σ=qa (ov,σ₁)->∀l σ₂,ev O lo m σ₁=qa (l,σ₂)->∀h kO,ev O hi m σ₂=qa (h,kO)->∀t σ₄,ev O st m kO=qa (t,σ₄) ->
  Gq σ₄ ov l h t=qa r->P):P :=
 b2 (x:=ev O o m σ) (f:=λov σ=>bnd (ev O lo m σ) λl σ=>bnd (ev O hi m σ) λh σ=>bnd (ev O st m σ) λs σ=>Gq σ ov l h s) e
  λov σ₁ e1 e=>b2 e λl σ₂ e2 e=>b2 e λh kO e3 e=>b2 e (k ov σ₁ e1 l σ₂ e2 h kO e3)
theorem iN (e:ev O (.lcomp n a t b es rest) m σ=qa r)(k:∀v σ₁,ev O b m σ=qa (v,σ₁)->∀it,vu σ₁ v=qa it->∀items,jX σ₁ it=qa items->∀ql σ₂,
  wc it items (wa O t es rest (Fb O a) (m++zS n qb)) items σ₁ []=qa (ql,σ₂)->zM (.list (ql.map (·.1))) σ₂=qa r->P):P :=
 b2 (x:=ev O b m σ) (f:=λv σ=>bn1 (vu σ v) λit=>bn1 (jX σ it) λitems=>bnd (wc it items (wa O t es rest (Fb O a) (m++zS n qb)) items σ []) λ(ql:List (V×V)) σ=>zM (.list (ql.map λx:V×V=>x.1)) σ) e
  λv σ₁ e1 e=>b1 e λit e2 e=>b1 e λitems e3 e=>b2 e (k v σ₁ e1 it e2 items e3)
theorem qct (e:ev O (.dcomp n c a t b es rest) m σ=qa r)(k:∀v σ₁,ev O b m σ=qa (v,σ₁)->∀it,vu σ₁ v=qa it->∀items,jX σ₁ it=qa items->∀ql σ₂,
  wc it items (wa O t es rest (Kk O c a) (m++zS n qb)) items σ₁ []=qa (ql,σ₂)->∀es,FE ql=qa es->zM (.sdict es) σ₂=qa r->P):P :=
 b2 (x:=ev O b m σ) (f:=λv σ=>bn1 (vu σ v) λit=>bn1 (jX σ it) λitems=>bnd (wc it items (wa O t es rest (Kk O c a) (m++zS n qb)) items σ []) λql σ=>bn1 (FE ql) λes=>zM (.sdict es) σ) e
  λv σ₁ e1 e=>b1 e λit e2 e=>b1 e λitems e3 e=>b2 e λql σ₂ e4 e=>b1 e (k v σ₁ e1 it e2 items e3 ql σ₂ e4)
noncomputable abbrev PP (wh:Unit->Option (V×qi)):Option (Bool×qi):=bnd (wh ()) λv σ=>bn1 (Eb σ v) λb=>qa (b,σ)
variable {q:Bool×qi}
theorem Zo (e:PP wh=qa q)(k:∀v σ₁,wh ()=qa (v,σ₁)->∀b,Eb σ₁ v=qa b->qa (b,σ₁)=qa q->P):P :=
 b2 e λv σ₁ e1 e=>b1 e (k v σ₁ e1)
theorem lS (e:tst O (.and es) m σ wh=qa q):tAnd O es m σ=qa q:=e
theorem dM (e:tst O (.or es) m σ wh=qa q):tOr O es m σ=qa q:=e
theorem rT (e:tAnd O [] m σ=qa q):qa (qe,σ)=qa q:=e
theorem qf5 (e:tOr O [] m σ=qa q):qa (qg,σ)=qa q:=e
theorem sR (e:tAnd O (a :: es) m σ=qa q)(k:∀σ₁,tst O a m σ (λ_=>ev O a m σ)=qa (qe,σ₁)->tAnd O es m σ₁=qa q->P)(l:∀σ₁,tst O a m σ (λ_=>ev O a m σ)=qa (qg,σ₁)->qa (qg,σ₁)=qa q->P):P :=
 bt (f:=λσ=>tAnd O es m σ) (g:=λσ=>qa (qg,σ)) e k l
theorem qcP (e:tOr O (a :: es) m σ=qa q)(k:∀σ₁,tst O a m σ (λ_=>ev O a m σ)=qa (qe,σ₁)->qa (qe,σ₁)=qa q->P)(l:∀σ₁,tst O a m σ (λ_=>ev O a m σ)=qa (qg,σ₁)->tOr O es m σ₁=qa q->P):P :=
 bt (f:=λσ=>qa (qe,σ)) (g:=λσ=>tOr O es m σ) e k l
theorem qck (e:tsts O (a :: es) m σ=qa q)(k:∀σ₁,tst O a m σ (λ_=>ev O a m σ)=qa (qe,σ₁)->tsts O es m σ₁=qa q->P)(l:∀σ₁,tst O a m σ (λ_=>ev O a m σ)=qa (qg,σ₁)->qa (qg,σ₁)=qa q->P):P :=
 bt (f:=λσ=>tsts O es m σ) (g:=λσ=>qa (qg,σ)) e k l
theorem qeh (e:tsts O [] m σ=qa q):qa (qe,σ)=qa q:=e
theorem WY {q:List V×qi}(e:evs O [] m σ=qa q):qa ([],σ)=qa q:=e
theorem Pi {q:List V×qi}(e:evs O (a :: es) m σ=qa q)(k:∀v σ₁,ev O a m σ=qa (v,σ₁)->∀vs σ₂,evs O es m σ₁=qa (vs,σ₂)->qa (v :: vs,σ₂)=qa q->P):P :=
 b2 (x:=ev O a m σ) (f:=λv σ=>bnd (evs O es m σ) λvs σ=>qa (v :: vs,σ)) e λv σ₁ e1 e=>b2 e (k v σ₁ e1)
theorem qbl (e:evAnd O [a] m σ=qa r):ev O a m σ=qa r:=e
theorem yD (e:evAnd O (a :: b :: es) m σ=qa r)(k:∀v σ₁,ev O a m σ=qa (v,σ₁)->Eb σ₁ v=qa qe->evAnd O (b :: es) m σ₁=qa r->P)(l:∀v σ₁,ev O a m σ=qa (v,σ₁)->Eb σ₁ v=qa qg->qa (v,σ₁)=qa r->P):P :=
 b2 (x:=ev O a m σ) (f:=λv σ=>bn1 (Eb σ v) λc=>cond c (evAnd O (b :: es) m σ) (qa (v,σ))) e λv σ₁ e1 e=>b1 e λc=>match c with
  | true=>k v σ₁ e1
  | false=>l v σ₁ e1
variable {q:List (V×V)×qi}{ql:List (V×V)}{leaf:Fg}
theorem qaA (e:gens O [] leaf m σ ql=qa q):leaf m σ ql=qa q:=e
theorem qdR (e:gens O (.mk t iter ifs :: rest) leaf m σ ql=qa q)(k:∀v σ₁,ev O iter m σ=qa (v,σ₁)->∀it,vu σ₁ v=qa it->∀items,jX σ₁ it=qa items ->
  wc it items (wa O t ifs rest leaf m) items σ₁ ql=qa q->P):P :=
 b2 (x:=ev O iter m σ) (f:=λv σ=>bn1 (vu σ v) λit=>bn1 (jX σ it) λitems=>wc it items (wa O t ifs rest leaf m) items σ ql) e λv σ₁ e1 e=>b1 e λit e2 e=>b1 e (k v σ₁ e1 it e2)
end
section
variable {γ:Type}
end
theorem Wq (σ:qi)(args:List V):Im σ "len" args=Kl σ args:=by kernel_rfl
theorem G1 (h:σ[t]?=qa (.list vs))(hs:small vs.length=qe):w8 σ (.list t) vs=qe:=by
 unfold w8;dsimp only;rw[za,h];dsimp only;rw[hs,Ua];rfl
theorem IX (h:σ[t]?=qa (.list vs))(hs:small vs.length=qe):jX σ (.list t)=qa vs:=by
 show oL σ t _=_;rw[vQ h,if_pos hs]
theorem KU (qd:jX Hs it=qa all)(h:w8 σ it all=qe):jX σ it=qa all:=by
 cases it with
 | list id =>
  unfold w8 at h
  dsimp only at h
  rw[za] at h
  cases hx:σ[id]? with
  | none=>rw[hx] at h;cases h
  | some o =>
   rw[hx] at h
   cases o with
   | list vs =>
    have h:cond (small vs.length) (GI vs all) qg=qe:=h
    cases hs:small vs.length with
    | true=>rw[hs] at h;rw[<-TQ h];exact IX hx hs
    | false=>rw[hs] at h;cases h
   | _=>cases h
 | range a b=>exact qd
 | str s=>exact qd
end
noncomputable section
inductive Fl where
 | next | ret (v:V)
noncomputable abbrev XR:=Option (Fl×qx×qi)
noncomputable def As (x:XR)(f:qx->qi->XR):XR:=match x with | some (.next,m,σ)=>f m σ | some (.ret v,m,σ)=>qa (.ret v,m,σ) | none=>qb
theorem bF {r:Fl×qx×qi}{P:Prop}(e:As x f=qa r)(k:∀m σ,x=qa (.next,m,σ)->f m σ=qa r->P)(l:∀v m σ,x=qa (.ret v,m,σ)->qa (.ret v,m,σ)=qa r->P):P:=by
 cases x with
 | none=>exact nn e
 | some p=>cases p with | mk fl p=>cases fl with
  | next=>exact k p.1 p.2 rfl e
  | ret v=>exact l v p.1 p.2 rfl e
noncomputable def Fe (t:qx->qi->Option (Bool×qi))(b:qx->qi->XR):Nat->qx->qi->XR
 | 0,_,_=>qb
 | n+1,m,σ=>bnT (t m σ) (λσ=>As (b m σ) λm σ=>Fe t b n m σ) λσ=>qa (.next,m,σ)
noncomputable def wP (it:It)(all:List V)(f:V->qx->qi->XR):List V->qx->qi->XR
 | [],m,σ=>if w8 σ it all then qa (.next,m,σ) else qb
 | x :: xs,m,σ=>if w8 σ it all then As (f x m σ) λm σ=>wP it all f xs m σ else qb
noncomputable def Cu (O:qE)(t:B7)(v:V)(m:qx)(σ:qi):Option (qx×qi) :=
 match t with
 | .var i=>bn1 (put m i v) λm=>qa (m,σ)
 | .tup is=>bn1 (Aq σ v) λvs=>bn1 (kg is vs m) λm=>qa (m,σ)
 | .sub o i=>bnd (ev O o m σ) λov σ=>bnd (ev O i m σ) λiv σ=>bn1 (M9 σ ov iv v) λσ=>qa (m,σ)
 | .attr o name=>bnd (ev O o m σ) λov σ=>bn1 (II O σ ov name v) λσ=>qa (m,σ)
noncomputable def B8:Nat:=1000000
mutual
noncomputable def ex (O:qE):S->qx->qi->XR
 | .bad,_,_=>qb
 | .expr e,m,σ=>bnd (ev O e m σ) λ_ σ=>qa (.next,m,σ)
 | .ret e,m,σ=>bnd (ev O e m σ) λv σ=>qa (.ret v,m,σ)
 | .assign t e,m,σ=>bnd (ev O e m σ) λv σ=>bnd (Cu O t v m σ) λm σ=>qa (.next,m,σ)
 | .ifs c a b,m,σ=>bnT (tst O c m σ (λ_=>ev O c m σ)) (λσ=>exs O a m σ) λσ=>exs O b m σ
 | .for_ t it body,m,σ=>bnd (ev O it m σ) λv σ=>bn1 (vu σ v) λit=>bn1 (jX σ it) λitems =>
   wP it items (λx m σ=>bn1 (AP σ t x m) λm=>exs O body m σ) items m σ
 | .while_ c body,m,σ=>Fe (λm σ=>tst O c m σ (λ_=>ev O c m σ)) (λm σ=>exs O body m σ) B8 m σ
noncomputable def exs (O:qE):List S->qx->qi->XR
 | [],m,σ=>qa (.next,m,σ)
 | s :: r,m,σ=>As (ex O s m σ) λm σ=>exs O r m σ
end
section
variable {O:qE}{m:qx}{σ:qi}{P:Prop}{r:Fl×qx×qi}{a c:E}{ss ts:List S}{s:S}{t:B7}
theorem Id (e:ex O (.expr a) m σ=qa r)(k:∀v σ₁,ev O a m σ=qa (v,σ₁)->qa (Fl.next,m,σ₁)=qa r->P):P:=b2 (x:=ev O a m σ) (f:=λ_ σ=>qa (Fl.next,m,σ)) e k
theorem KO (e:ex O (.ret a) m σ=qa r)(k:∀v σ₁,ev O a m σ=qa (v,σ₁)->qa (Fl.ret v,m,σ₁)=qa r->P):P:=b2 (x:=ev O a m σ) (f:=λv σ=>qa (Fl.ret v,m,σ)) e k
theorem zX (e:ex O (.assign t a) m σ=qa r)(k:∀v σ₁,ev O a m σ=qa (v,σ₁)->∀kP σ₂,Cu O t v m σ₁=qa (kP,σ₂)->qa (Fl.next,kP,σ₂)=qa r->P):P :=
 b2 (x:=ev O a m σ) (f:=λv σ=>bnd (Cu O t v m σ) λm σ=>qa (Fl.next,m,σ)) e λv σ₁ e1 e=>b2 e (k v σ₁ e1)
theorem uY (e:ex O (.ifs c ss ts) m σ=qa r)(k:∀σ₁,tst O c m σ (λ_=>ev O c m σ)=qa (qe,σ₁)->exs O ss m σ₁=qa r->P)(l:∀σ₁,tst O c m σ (λ_=>ev O c m σ)=qa (qg,σ₁)->exs O ts m σ₁=qa r->P):P :=
 bt (f:=λσ=>exs O ss m σ) (g:=λσ=>exs O ts m σ) e k l
theorem Go {t:Tg}(e:ex O (.for_ t a ss) m σ=qa r)
  (l:∀v σ₁,ev O a m σ=qa (v,σ₁)->∀it,vu σ₁ v=qa it->∀items,jX σ₁ it=qa items->wP it items (λx m σ=>bn1 (AP σ t x m) λm=>exs O ss m σ) items m σ₁=qa r->P):P :=
 b2 (x:=ev O a m σ) (f:=λv σ=>bn1 (vu σ v) λit=>bn1 (jX σ it) λitems=>wP it items (λx m σ=>bn1 (AP σ t x m) λm=>exs O ss m σ) items m σ) e λv σ₁ e1 e=>b1 e λit e2 e=>b1 e (l v σ₁ e1 it e2)
theorem Ip (e:ex O (.while_ c ss) m σ=qa r):Fe (λm σ=>tst O c m σ (λ_=>ev O c m σ)) (λm σ=>exs O ss m σ) B8 m σ=qa r:=e
theorem nG (e:exs O [] m σ=qa r):qa (.next,m,σ)=qa r:=e
theorem qey (e:exs O (s :: ss) m σ=qa r)(k:∀kP σ₁,ex O s m σ=qa (.next,kP,σ₁)->exs O ss kP σ₁=qa r->P)(l:∀v kP σ₁,ex O s m σ=qa (.ret v,kP,σ₁)->qa (.ret v,kP,σ₁)=qa r->P):P :=
 bF (f:=λm σ=>exs O ss m σ) e k l
end
noncomputable abbrev zg:=List (qf×DP)
noncomputable def j3:List qf->qf->Option Nat
 | [],_=>qb
 | y :: r,x=>match j3 r x with
  | some i=>qa (i+1)
  | none=>if y == x then qa 0 else qb
noncomputable def QH:DP->Bool
 | .local | .cell=>qe
 | _=>qg
theorem qbK (h:QH k=qe):k=.local\/k=.cell:=by
 cases k with
 | «local» => exact .inl rfl
 | cell=>exact .inr rfl
 | _=>exact ff h
noncomputable def zA (k:zg):List qf:=(k.filter λx=>QH x.2).map (·.1)
noncomputable def DL (k:zg):Bool:=decide (2<=k.length)||(k.lookup ("self" : qf)).isSome
noncomputable def Ta (o:Option DP):Bool:=match o with | some .cell | some .free=>qe | _=>qg
theorem uU (h:Ta o=qe):o=qa .cell\/o=qa .free:=by
 cases o with
 | none=>exact nomatch h
 | some k=>cases k with
  | cell=>exact .inl rfl
  | free=>exact .inr rfl
  | _=>exact nomatch h
noncomputable def DM (sc:vh)(outer:zg):Bool :=
 sc.kind == .function&&!sc.isGenerator&&!sc.isCoroutine&&Ae (sc.names.map (·.1))&&DL outer &&
 sc.names.all λx=>match x.2 with
  | .local | .cell | .globalImplicit=>qe
  | .free=>Ta (outer.lookup x.1)
  | _=>qg
noncomputable def Ay (k:zg)(Γ:List qf)(x:qf):Option Nat :=
 match k.lookup x with
 | some .local | some .cell=>j3 Γ x
 | _=>qb
noncomputable def Tl {γ:Type}(e:qA)(f:qf->Option γ):Option γ:=xn e f qb
theorem Nr {r:γ}(h:Tl e f=qa r):∃x p,e=.Name x p/\f x=qa r:=by
 cases e with | Name x p=>refine⟨x,p,rfl,h⟩ | _=>exact nn h
noncomputable def AW (k:zg)(Γ:List qf):List qA->Option (List Nat)
 | []=>qa []
 | e :: r=>Tl e λx=>bn1 (Ay k Γ x) λi=>bn1 (AW k Γ r) λis=>qa (i :: is)
noncomputable def we (k:zg)(Γ:List qf)(e:qA):Option Tg :=
 xv e (λx=>bn1 (Ay k Γ x) λi=>qa (.var i)) (λes=>if es.length<=100 then bn1 (AW k Γ es) λis=>qa (.tup is) else qb) (λ_ _ _=>qb) (λ_=>qb) (λ_ _ _=>qb) (λ_ _=>qb) (λ_ _=>qb) qb qb qb
noncomputable def HU (e:qA):Bool :=
 xv e (λ_=>qe) (λ_=>qe) (λ_ _ _=>qe) (λ_=>qe) (λf es ks=>cond (Zq es&&Zq ks) (xn f (λid=>!(id == ("super" : qf))) qe) qe) (λ_ _=>qe) (λ_ _=>qe) qe qe qe
noncomputable def CD:List Ht->Option (List qf)
 | []=>qa []
 | ⟨qa n,_,_⟩ :: r=>bn1 (CD r) λl=>qa (n :: l)
 | _=>qb
noncomputable def GY {γ:Type}(e:qA)(f:Int->Option γ):Option γ:=xc e (λc=>match c with | .int k=>f k | _=>qb) qb
theorem O6 {r:γ}(h:GY e f=qa r):∃k a b,e=.Constant (.int k) a b/\f k=qa r:=by
 cases e with
 | Constant c a b=>cases c with | int k=>refine⟨k,a,b,rfl,h⟩ | _=>exact nn h
 | _=>exact nn h
noncomputable def GO:List (Option qA)->List qA->Option (List (Int×Int))
 | [],[]=>qa []
 | some k :: ks,v :: vs=>GY k λk=>GY v λv=>bn1 (GO ks vs) λl=>qa ((k,v) :: l)
 | _,_=>qb
noncomputable def YW {γ:Type}(e:qA)(f:qf->Option γ):Option γ:=xc e (λc=>match c with | .str k=>f k | _=>qb) qb
theorem qdd {r:γ}(h:YW e f=qa r):∃k a b,e=.Constant (.str k) a b/\f k=qa r:=by
 cases e with
 | Constant c a b=>cases c with | str k=>refine⟨k,a,b,rfl,h⟩ | _=>exact nn h
 | _=>exact nn h
noncomputable def Iw:List (Option qA)->List qA->Option (List (qf×Int))
 | [],[]=>qa []
 | [qa k],[v]=>YW k λk=>GY v λv=>qa [(k,v)]
 | _,_=>qb
noncomputable def QD (e:qA):Bool:=xn e (λ_=>qe) qg
noncomputable def Ct (x:qf)(Γ:List qf):E:=if x == ("__classdict__" : qf) then .bad else match j3 Γ x with | some i=>.var i | none=>.bad
noncomputable def Iy (G:qf->Option qh)(k:zg)(Γ:List qf)(x:qf):E:=if x == ("__debug__" : qf) then .bool qe else match k.lookup x with
  | some .local=>Ct x Γ
  | some .cell=>Ct x Γ
  | some .free=>Ct x Γ
  | some .globalImplicit=>match G x with | some v=>.glob v | none=>.bad
  | _=>.bad
noncomputable def QM:Hy->Option qf
 | ⟨[],[⟨p,_,_⟩],qb,[],[],qb,[]⟩=>qa p
 | _=>qb
noncomputable def qff:DP->Bool
 | .local | .globalImplicit=>qe
 | _=>qg
noncomputable def Ju (sc:vh)(k:zg)(p:qf):Bool:=DL k&&!DL sc.names&&sc.kind == .function&&!sc.isGenerator&&!sc.isCoroutine&&Ae (sc.names.map (·.1))&&sc.names.lookup p == qa .local &&
    sc.names.all (λx=>qff x.2)
noncomputable def qeB:Const->E
 | .none=>.none
 | .bool b=>.bool b
 | .int i=>.int i
 | .str s=>.str s
 | _=>.bad
noncomputable def bE {α:Type}(x:Option α)(f:α->E):E:=match x with | some a=>f a | none=>.bad
noncomputable def iE (c:Bool)(e:E):E:=cond c e .bad
noncomputable def dE (x:Option (List (qf×Int)))(e:E):E:=match x with | some es=>.sconst es | none=>e
section
variable {O:qE}{m:qx}{σ:qi}{r:V×qi}{P:Prop}
theorem DW (e:ev O (bE x f) m σ=qa r)(k:∀a,x=qa a->ev O (f a) m σ=qa r->P):P:=by cases x with | none=>exact nn e | some a=>exact k a rfl e
theorem Fx {c:Bool}(e:ev O (iE c a) m σ=qa r)(k:c=qe->ev O a m σ=qa r->P):P:=by cases c with | true=>exact k rfl e | false=>exact nn e
end
mutual
noncomputable def cE (G:qf->Option qh):qA->zg->List qf->E
 | .Constant c _ _,_,_=>qeB c
 | .Name x _,k,Γ=>Iy G k Γ x
 | .BoolOp .And es _,k,Γ=>.and (cEs G es k Γ)
 | .BoolOp .Or es _,k,Γ=>.or (cEs G es k Γ)
 | .UnaryOp .USub e _,k,Γ=>.neg (cE G e k Γ)
 | .BinOp a op b _,k,Γ=>.bin op (cE G a k Γ) (cE G b k Γ)
 | .Compare a [op] [b] _,k,Γ=>.cmp op (cE G a k Γ) (cE G b k Γ)
 | .IfExp c a b _,k,Γ=>.ite (cE G c k Γ) (cE G a k Γ) (cE G b k Γ)
 | .List es _,k,Γ=>.list (cEs G es k Γ)
 | .Tuple es _ _,k,Γ=>.tuple (cEs G es k Γ)
 | .Dict ks vs _,k,Γ=>dE (Iw ks vs) (bE (GO ks vs) λes=>iE (Ae (es.map (·.1))&&!es.isEmpty&&decide (es.length<=1000)) (.dconst es))
 | .ListComp elt (⟨t,iter,ifs,a⟩ :: gs) sc _,k,Γ =>
  iE (DM sc k&&a == 0) (bE (we sc.names (Γ++zA sc.names) t) λt=>bE (cGs G gs sc.names (Γ++zA sc.names)) λgs =>
   .lcomp (zA sc.names).length (cE G elt sc.names (Γ++zA sc.names)) t (cE G iter k Γ) (cEs G ifs sc.names (Γ++zA sc.names)) gs)
 | .DictComp kk w (⟨t,iter,ifs,a⟩ :: gs) sc _,k,Γ =>
  iE (DM sc k&&a == 0) (bE (we sc.names (Γ++zA sc.names) t) λt=>bE (cGs G gs sc.names (Γ++zA sc.names)) λgs =>
   .dcomp (zA sc.names).length (cE G kk sc.names (Γ++zA sc.names)) (cE G w sc.names (Γ++zA sc.names)) t (cE G iter k Γ) (cEs G ifs sc.names (Γ++zA sc.names)) gs)
 | .Lambda args body sc _,k,_=>bE (QM args) λp=>iE (Ju sc k p) (.lam (cE G body sc.names [p]))
 | .Call (.Attribute o name apos) args kws pos,k,Γ =>
  iE (HU o&&apos.endLine == pos.line&&decide (args.length+kws.length < 20)) (bE (CD kws) λkn=>.meth (cE G o k Γ) name (cEs G args k Γ) kn (cKs G kws k Γ))
 | .Call f args kws _,k,Γ=>iE (decide (args.length+kws.length < 10)) (bE (CD kws) λkn=>.call (cE G f k Γ) (cEs G args k Γ) kn (cKs G kws k Γ))
 | .Attribute o name _,k,Γ=>iE (QD o) (.attr (cE G o k Γ) name)
 | .Subscript o (.Slice lo hi st _) _,k,Γ=>.slice (cE G o k Γ) (cO G lo k Γ) (cO G hi k Γ) (cO G st k Γ)
 | .Subscript o i _,k,Γ=>.idx (cE G o k Γ) (cE G i k Γ)
 | _,_,_=>.bad
noncomputable def cEs (G:qf->Option qh):List qA->zg->List qf->List E
 | [],_,_=>[]
 | e :: r,k,Γ=>cE G e k Γ :: cEs G r k Γ
noncomputable def cO (G:qf->Option qh):Option qA->zg->List qf->E
 | none,_,_=>.none
 | some e,k,Γ=>cE G e k Γ
noncomputable def cKs (G:qf->Option qh):List Ht->zg->List qf->List E
 | [],_,_=>[]
 | ⟨_,v,_⟩ :: r,k,Γ=>cE G v k Γ :: cKs G r k Γ
noncomputable def cGs (G:qf->Option qh):List vk->zg->List qf->Option (List Gn)
 | [],_,_=>qa []
 | ⟨t,iter,ifs,a⟩ :: r,k,Γ=>bn1 (we k Γ t) λt=>bn1 (cGs G r k Γ) λgs=>if a == 0 then qa (.mk t (cE G iter k Γ) (cEs G ifs k Γ) :: gs) else qb
end
noncomputable def H7 (e:qA):Bool:=xv e (λ_=>qe) (λ_=>qe) (λ_ _ _=>qe) (λ_=>qe) (λ_ _ _=>qe) (λ_ _=>qe) (λ_ _=>qe) qe qg qe
noncomputable def Ga (e:qA):Bool:=xv e (λ_=>qg) (λ_=>qg) (λ_ _ _=>qg) (λ_=>qg) (λ_ _ _=>qg) (λ_ _=>qg) (λ_ _=>qg) qe qg qg
noncomputable def Cv (G:qf->Option qh)(k:zg)(Γ:List qf)(e:qA):Option B7 :=
 xv e (λx=>bn1 (Ay k Γ x) λi=>qa (.var i)) (λes=>bn1 (AW k Γ es) λis=>if Ae is then qa (.tup is) else qb) (λ_ _ _=>qb) (λ_=>qb) (λ_ _ _=>qb)
  (λo i=>if H7 i then qa (.sub (cE G o k Γ) (cE G i k Γ)) else qb) (λo name=>if QD o then qa (.attr (cE G o k Γ) name) else qb) qb qb qb
noncomputable def Gm (a b:qA):Bool:=xt a (λ_=>xt b (λvs=>!(vs.all (qgM 8))||vs.all (qgN 8)) qe) qe
noncomputable def bS {α:Type}(x:Option α)(f:α->S):S:=match x with | some a=>f a | none=>.bad
noncomputable def iS (c:Bool)(e:S):S:=cond c e .bad
section
variable {O:qE}{m:qx}{σ:qi}{r:Fl×qx×qi}{P:Prop}
theorem Uw (e:ex O (bS x f) m σ=qa r)(k:∀a,x=qa a->ex O (f a) m σ=qa r->P):P:=by cases x with | none=>exact nn e | some a=>exact k a rfl e
theorem Ys {c:Bool}{a:S}(e:ex O (iS c a) m σ=qa r)(k:c=qe->ex O a m σ=qa r->P):P:=by cases c with | true=>exact k rfl e | false=>exact nn e
end
mutual
noncomputable def cS (G:qf->Option qh):z6->zg->List qf->S
 | .Expr e _,k,Γ=>iS (!Ga e) (.expr (cE G e k Γ))
 | .Return (qa e) _,k,Γ=>.ret (cE G e k Γ)
 | .Return qb _,_,_=>.ret .none
 | .Assign [t] v _,k,Γ=>bS (Cv G k Γ t) λtg=>iS (Gm t v) (.assign tg (cE G v k Γ))
 | .If c a b _,k,Γ=>.ifs (cE G c k Γ) (cSs G a k Γ) (cSs G b k Γ)
 | .For t it body [] _,k,Γ=>bS (we k Γ t) λt=>.for_ t (cE G it k Γ) (cSs G body k Γ)
 | .While c body [] _,k,Γ=>.while_ (cE G c k Γ) (cSs G body k Γ)
 | _,_,_=>.bad
noncomputable def cSs (G:qf->Option qh):List z6->zg->List qf->List S
 | [],_,_=>[]
 | s :: r,k,Γ=>cS G s k Γ :: cSs G r k Γ
end
end
inductive qz (ρ:List qj):V->qh->Prop
 | none:qz ρ .none .none
 | bool (b:Bool):qz ρ (.bool b) (.bool b)
 | int (i:Int) (t:An):qz ρ (.int i) (.int i t)
 | str (s:qf) (t:An):qz ρ (.str s) (.str s t)
 | ref {n:Nat} {a:qj}:ρ[n]?=qa a->qz ρ (.ref n) (.ref a)
 | val (v:qh):qz ρ (.val v) v
inductive qL (ρ:List qj):List V->List qh->Prop
 | nil:qL ρ [] []
 | cons {v v' vs qW}:qz ρ v v'->qL ρ vs qW->qL ρ (v :: vs) (v' :: qW)
inductive zt {κ:Type}(ρ:List qj):List (κ×V)->List (κ×qh)->Prop
 | nil:zt ρ [] []
 | cons {k:κ} {v v' es es'}:qz ρ v v'->zt ρ es es'->zt ρ ((k,v) :: es) ((k,v') :: es')
theorem DX {ρ qr:List qj}(h:∃l,qr=ρ++l){n:Nat}{a:qj}(e:ρ[n]?=qa a):qr[n]?=qa a:=by
 obtain⟨l,rfl⟩:=h
 rw[Ri (kF.mp e).1];exact e
theorem qz.mono {ρ qr:List qj}(h:∃l,qr=ρ++l) {v v'}(r:qz ρ v v'):qz qr v v':=by
 cases r with
 | none=>exact .none
 | bool _=>exact .bool _
 | int _ _=>exact .int _ _
 | str _ _=>exact .str _ _
 | ref e=>exact .ref (DX h e)
 | val _=>exact .val _
theorem qL.mono (h:∃l,qr=ρ++l) {vs qW}(r:qL ρ vs qW):qL qr vs qW:=by
 induction r with
 | nil=>exact .nil
 | cons a _ ih=>exact .cons (a.mono h) ih
theorem zt.mono (h:∃l,qr=ρ++l) {es'}(r:zt ρ es es'):zt qr es es':=by
 induction r with
 | nil=>exact .nil
 | cons a _ ih=>exact .cons (a.mono h) ih
theorem qL.length {vs qW}(r:qL ρ vs qW):qW.length=vs.length:=by
 induction r with
 | nil=>rfl
 | cons _ _ ih=>exact congrArg (· + 1) ih
theorem qL.get {vs qW}(r:qL ρ vs qW):∀{i:Nat}{v:V},vs[i]?=qa v->∃v',qW[i]?=qa v'/\qz ρ v v':=by
 induction r with
 | nil=>exact λh=>nn h
 | cons a _ ih=>exact λ{i v} h=>match i,h with
  | 0,h=>⟨_,rfl,zc h▸a⟩
  | _+1,h=>ih h
theorem qL.append {vs qW ws ws'}(r:qL ρ vs qW)(h:qL ρ ws ws'):qL ρ (vs++ws) (qW++ws'):=by
 induction r with
 | nil=>exact h
 | cons a _ ih=>exact .cons a ih
theorem qL.snoc {vs qW v v'}(r:qL ρ vs qW)(h:qz ρ v v'):qL ρ (vs++[v]) (qW++[v']):=r.append (.cons h .nil)
theorem qL.take {vs qW}(n:Nat)(r:qL ρ vs qW):qL ρ (vs.take n) (qW.take n):=by
 induction r generalizing n with
 | nil=>cases n <;> exact .nil
 | cons a _ ih=>cases n with
  | zero=>exact .nil
  | succ n=>exact .cons a (ih n)
theorem qL.drop {vs qW}(n:Nat)(r:qL ρ vs qW):qL ρ (vs.drop n) (qW.drop n):=by
 induction r generalizing n with
 | nil=>cases n <;> exact .nil
 | cons a b ih=>cases n with
  | zero=>exact .cons a b
  | succ n=>exact ih n
theorem qL.reverse {vs qW}(r:qL ρ vs qW):qL ρ vs.reverse qW.reverse:=by
 induction r with
 | nil=>exact .nil
 | cons a _ ih=>rw[Rj,Rj];exact ih.snoc a
theorem qL.mul {vs qW}(r:qL ρ vs qW):∀n:Nat,qL ρ (BX vs n) (BX qW n)
 | 0=>by simpa [BX] using qL.nil
 | n+1=>by
  have:=r.append (r.mul n)
  simpa [BX,qgO] using this
noncomputable def CY (o:zk):Prop:=o.cls=.type "code" /\ ∃vs,o.data=.fields vs
noncomputable def Bi (h h':Heap):Prop:=∀b o,h.get? b=qa o->CY o->h'.get? b=qa o
noncomputable def kc (h:Heap)(v:qh)(q:qf):Prop:=∃c o vs t,v=.ref c/\h.get? c=qa o/\o.cls=.type "code" /\ o.data=.fields vs/\vs[1]?=qa (.str q t)
theorem kc.keep {v q}(x:kc h v q)(k:Bi h h'):kc h' v q :=
 (by obtain⟨c,o,vs,t,e,ho,hc,hd,r⟩:=x;refine⟨c,o,vs,t,e,k _ _ ho ⟨hc,_,hd⟩,hc,hd,r⟩)
theorem kc.rec {v q}(x:kc h v q):h.CodeRec v q:=(by obtain⟨c,o,vs,t,e,ho,hc,hd,r⟩:=x;refine⟨c,o,vs,t,e,ho,hd,r⟩)
theorem Bi.of (k:∀b o,h.get? b=qa o->h'.get? b=qa o):Bi h h':=λb o e _=>k b o e
theorem Bi.but (s:Heap.ExtBut a h h')(ha:h.get? a=qa o)(hn:¬CY o):Bi h h':=λb o' e hf=>by
 by_cases hb:b=a
 ·subst hb;obtain rfl:=sj ha e;exact(hn hf).elim
 ·exact s b o' hb e
section
variable (qc:zm)(w:qK)(qd:Heap)(G:qf->Option qh)(tabs:List (qj×qj))
noncomputable def vD (h:Heap)(ρ:List qj)(a:qj):AObj->Prop
 | .list vs=>∃items n,Ch h a items n/\qL ρ vs items.toList
 | .tuple vs=>∃items n,h.get? a=qa { cls:=.type "tuple", dict:=qb,data:=.seq items n,slots:=#[] }/\qL ρ vs items.toList
 | .idict es=>∃kvs,h.DictOf (jL qc w) a kvs/\zt ρ es kvs
 | .sdict es=>∃kvs,h.DictOf (strKind qc w) a kvs/\zt ρ es kvs
 | .sset es=>h.SetOf (strKind qc w) a (λk=>es.any λe=>e == k) es.length
 | .range x y=>∃t u v,IsRange h a x y 1 t u v
 | .inst c d=>∃da o,ρ[d]?=qa da/\h.get? a=qa o/\o.cls=.ref c/\o.dict=qa da/\∀c,o.data≠.cls c
 | .ns es=>∃ms,h.Ns1 a ms/\(∀x v,jP es x=qa v->∃v',ms x=qa v'/\qz ρ v v')/\(∀x,jP es x=qb->ms x=qb)
 | .lam b=>∃o fd body p,h.get? a=qa o/\o.cls=.type "function" /\ o.data=.func fd/\fd.body=.expr body/\fd.globals=kT/\fd.builtins=vi /\
   fd.closure=[]/\fd.defaults=.none/\fd.kwdefaults=.none/\kc h fd.code fd.qualname/\DL fd.scope.names=qg /\
   fd.params.posonlyargs=[]/\fd.params.args.map (·.arg)=[p]/\fd.params.vararg=qb/\fd.params.kwonlyargs=[]/\fd.params.kwarg=qb /\
   fd.scope.kind=.function/\fd.scope.isGenerator=qg/\fd.scope.isCoroutine=qg/\fd.scope.names.lookup p=qa .local /\
   (∀x∈fd.scope.names,x.2=.local\/x.2=.globalImplicit)/\cE G body fd.scope.names [p]=b
 | .view k d=>∃da o,ρ[d]?=qa da/\h.get? a=qa o/\o.data=.fields #[.ref da]/\o.dict=qb /\
   o.cls=.type (match k with | 0 => "dict_keys" | 1 => "dict_values" | _ => "dict_items")
noncomputable def w6 (h:Heap):Prop:=∀b o,qd.get? b=qa o->(∀x∈tabs,b≠x.2)->h.get? b=qa o
noncomputable def Ab:qj:=328
structure vl (h:Heap)(ρ:List qj):Prop where
 above:qd.objs.size<=Ab
 out:Ab∉ρ
 at_:∃o es n,h.get? Ab=qa o/\o.cls=.type "frame" /\ o.data=.dict es n
structure qt (h:Heap)(ρ:List qj)(σ:qi):Prop where
 top:vl qd h ρ
 old:w6 qd tabs h
 len:ρ.length=σ.length
 nodup:ρ.Nodup
 above:∀a∈ρ,qd.objs.size<=a
 tab:∀x∈tabs,∃ps,h.IsCode x.1 x.2 ps/\h.TableAt x.1 x.2 ps/\(∃A5 kQ,qd.TableAt x.1 x.2 A5/\ps=A5++kQ)/\∀q pos v,kc qd (.ref x.1) q->EF pos ps.toList=qa v->kc h v (q ++ ".<locals>." ++ "<lambda>")
 objs:∀(i:Nat) (o:AObj),σ[i]?=qa o->∃a,ρ[i]?=qa a/\vD qc w G h ρ a o
noncomputable def CS (h':Heap)(b:qj)(o:zk):Prop:=(o.cls≠.type "frame" -> h'.get? b=qa o)/\∃sl,h'.get? b=qa { o with slots:=sl }
structure qY (W:qj->Prop)(ρ:List qj)(h:Heap)(qr:List qj)(h':Heap):Prop where
 pre:∃l,qr=ρ++l/\∀a∈l,h.get? a=qb
 keep:∀b o,qd.objs.size<=b->b∉ρ->¬W b->h.get? b=qa o->CS h' b o
 there:∀b o,h.get? b=qa o->∃o',h'.get? b=qa o'
noncomputable def vr:qj->Prop:=λ_=>False
end
section
variable {qc:zm}{w:qK}{qd:Heap}{G:qf->Option qh}
theorem CK {o:zk}(h:o.cls=.type T)(hn:T ≠ "frame"):o.cls≠.type "frame" := λe=>hn (BM (h.symm.trans e))
theorem CS.of (e:h'.get? b=qa o):CS h' b o:=⟨λ_=>e,o.slots,e⟩
theorem CS.trans (x:CS BC b o)(y:∀o',BC.get? b=qa o'->CS kC b o'):CS kC b o:=by
 obtain⟨x1,sl,x2⟩:=x
 obtain⟨y1,sl',y2⟩:=y _ x2
 refine⟨λhc=>(y _ (x1 hc)).1 hc,sl',y2⟩
theorem vl.keeps (T:vl qd h ρ)(k:∀b o,h.get? b=qa o->h'.get? b=qa o):vl qd h' ρ :=
 ⟨T.above,T.out,(by obtain⟨o,es,n,e,r⟩:=T.at_;refine⟨o,es,n,k _ _ e,r⟩)⟩
theorem vl.ne (T:vl qd h ρ)(ha:h.get? a=qb):a≠Ab:=by
 rintro rfl;obtain⟨o,_,_,e,_⟩:=T.at_;exact sn e ha
theorem vl.nef (T:vl qd h ρ) {vs}(ha:h.get? a=qa c)(hv:c.data=.fields vs):a≠Ab:=by
 rintro rfl;obtain⟨o,es,n,e,_,r⟩:=T.at_;rw[ha] at e;cases e;rw[hv] at r;cases r
theorem vl.nec (T:vl qd h ρ)(ha:h.get? a=qa c)(hv:c.cls≠.type "frame"):a≠Ab:=by
 rintro rfl;obtain⟨o,es,n,e,r,_⟩:=T.at_;obtain rfl:=sj ha e;exact hv r
theorem vl.nev (T:vl qd h ρ) {v}(ha:h.get? a=qa c)(hv:c.data=.cell v):a≠Ab:=by
 rintro rfl;obtain⟨o,es,n,e,_,r⟩:=T.at_;rw[ha] at e;cases e;rw[hv] at r;cases r
theorem vl.other (T:vl qd h ρ)(zy:a≠Ab)(k:∀b o,b≠a->h.get? b=qa o->h'.get? b=qa o):vl qd h' ρ :=
 ⟨T.above,T.out,(by obtain⟨o,es,n,e,r⟩:=T.at_;refine⟨o,es,n,k _ _ (DO zy) e,r⟩)⟩
theorem vl.snoc (T:vl qd h ρ)(zy:a≠Ab):vl qd h (ρ++[a]) :=
 ⟨T.above,λhm=>(zT.mp hm).elim T.out λq=>zy (zE.mp q).symm,T.at_⟩
theorem qY.ext (x:qY qd W ρ h qr h'):∃l,qr=ρ++l:=(by obtain⟨l,e,_⟩:=x.pre;refine⟨l,e⟩)
theorem qY.refl (ρ:List qj)(h:Heap):qY qd W ρ h ρ h:=⟨⟨[],by simp,by simp⟩,λ_ _ _ _ _ e=>.of e,λ_ o e=>⟨o,e⟩⟩
theorem qY.notin (x:qY qd W ρ h qr h')(hb:b∉ρ)(hl:h.get? b=qa o):b∉qr:=by
 obtain⟨l,rfl,hf⟩:=x.pre
 intro hm
 rcases zT.mp hm with h1 | h1
 ·exact hb h1
 ·have:=hf b h1
  exact sn hl this
theorem qY.trans (x:qY qd W ρ h ρ₁ BC)(y:qY qd W ρ₁ BC ρ₂ kC):qY qd W ρ h ρ₂ kC:=by
 refine⟨?_,λb o h0 hb hw e=>(x.keep b o h0 hb hw e).trans λo' e'=>y.keep b o' h0 (x.notin hb e) hw e',λb o e=>(by obtain⟨o',e'⟩:=x.there b o e;exact y.there b o' e')⟩
 obtain⟨l,rfl,hf⟩:=x.pre
 obtain⟨l',rfl,hf'⟩:=y.pre
 refine⟨l++l',by simp,λa ha=>?_⟩
 rcases zT.mp ha with h1 | h1
 ·exact hf a h1
 ·have h2:=hf' a h1
  cases e:h.get? a with
  | none=>rfl
  | some o =>
   obtain⟨o',e'⟩:=x.there a o e
   exact sn e' h2
theorem qY.weaken (x:qY qd W ρ h qr h')(hw:∀b,W b->W' b):qY qd W' ρ h qr h' :=
 ⟨x.pre,λb o h0 hb hn e=>x.keep b o h0 hb (λc=>hn (hw b c)) e,x.there⟩
theorem Heap.DictOf.at' {κ:Type} [DecidableEq κ]{knd:KeyKind qc w κ}{h h':Heap}{a:qj}{kvs:List (κ×qh)}(x:h.DictOf knd a kvs)(e:h'.get? a=h.get? a):h'.DictOf knd a kvs :=
 (by obtain⟨o,es,ep,ho,r⟩:=x;refine⟨o,es,ep,e.trans ho,r⟩)
theorem Heap.SetOf.at' {κ:Type} [DecidableEq κ]{knd:KeyKind qc w κ}{h h':Heap}{a:qj}{S:κ->Bool}{n:Nat}(x:h.SetOf knd a S n)(e:h'.get? a=h.get? a):h'.SetOf knd a S n :=
 (by obtain⟨o,es,ep,t,ho,r⟩:=x;refine⟨o,es,ep,t,e.trans ho,r⟩)
theorem vD.mono {h h':Heap}{ρ qr:List qj}{a:qj}{o:AObj}(x:vD qc w G h ρ a o)(e:h'.get? a=h.get? a)(kf:Bi h h')(p:∃l,qr=ρ++l):vD qc w G h' qr a o:=by
 cases o with
 | list vs=>obtain⟨items,n,hl,r⟩:=x;refine⟨items,n,e.trans hl,r.mono p⟩
 | tuple vs=>obtain⟨items,n,hl,r⟩:=x;refine⟨items,n,e.trans hl,r.mono p⟩
 | idict es=>obtain⟨kvs,hd,r⟩:=x;refine⟨kvs,Heap.DictOf.at' hd e,r.mono p⟩
 | sdict es=>obtain⟨kvs,hd,r⟩:=x;refine⟨kvs,Heap.DictOf.at' hd e,r.mono p⟩
 | sset es=>exact Heap.SetOf.at' x e
 | range i j=>obtain⟨t,u,v,hr⟩:=x;refine⟨t,u,v,by unfold IsRange at hr ⊢;exact e.trans hr⟩
 | inst c d=>obtain⟨da,o,hd,ho,r⟩:=x;refine⟨da,o,DX p hd,e.trans ho,r⟩
 | ns es =>
  obtain⟨ms,hn,h5,h6⟩:=x
  refine⟨ms,hn.at (λo ho=>e.trans ho),λy v hy=>(by obtain⟨v',e1,e2⟩:=h5 y v hy;refine⟨v',e1,e2.mono p⟩),h6⟩
 | lam b=>obtain⟨o,fd,body,q,ho,r1,r2,r3,r4,r5,r6,r7,r8,r9,r⟩:=x;refine⟨o,fd,body,q,e.trans ho,r1,r2,r3,r4,r5,r6,r7,r8,r9.keep kf,r⟩
 | view k d=>obtain⟨da,o,hd,ho,r⟩:=x;refine⟨da,o,DX p hd,e.trans ho,r⟩
set_option tactic.hygienic true in
theorem vD.get (x:vD qc w G h ρ a o):∃c,h.get? a=qa c/\¬CY c:=by
 cases o with
 | list vs=>obtain⟨items,n,hl,r⟩:=x;refine⟨_,hl,λf=>by cases f.2;rename_i e;cases e⟩
 | tuple vs=>obtain⟨items,n,hl,r⟩:=x;refine⟨_,hl,λf=>by cases f.2;rename_i e;cases e⟩
 | idict es=>obtain⟨kvs,⟨o,es,ep,ho,r,hd,_⟩,_⟩:=x;refine⟨_,ho,λf=>by obtain⟨_,vs,e⟩:=f;rw[hd] at e;cases e⟩
 | sdict es=>obtain⟨kvs,⟨o,es,ep,ho,r,hd,_⟩,_⟩:=x;refine⟨_,ho,λf=>by obtain⟨_,vs,e⟩:=f;rw[hd] at e;cases e⟩
 | sset es=>obtain⟨o,es,ep,t,ho,r,hd,_⟩:=x;refine⟨_,ho,λf=>by obtain⟨_,vs,e⟩:=f;rw[hd] at e;cases e⟩
 | range i j=>obtain⟨t,u,v,hr⟩:=x;refine⟨_,hr,λf=>absurd (BM f.1) (by decide)⟩
 | inst c d=>obtain⟨da,o,hd,ho,h1,_⟩:=x;refine⟨_,ho,λf=>by have:=h1.symm.trans f.1;cases this⟩
 | ns es=>obtain⟨ms,⟨o,ents,ep,ho,h1,_⟩,_⟩:=x;refine⟨_,ho,λf=>by obtain⟨_,vs,e⟩:=f;rw[h1] at e;cases e⟩
 | lam b=>obtain⟨o,fd,body,q,ho,h1,_⟩:=x;refine⟨_,ho,λf=>absurd (BM (h1.symm.trans f.1)) (by decide)⟩
 | view k d =>
  obtain⟨da,o,hd,ho,h1,h2,h3⟩:=x
  refine⟨_,ho,λf=>?_⟩
  have:=f.1;rw[h3] at this
  injection this with this
  split at this <;> exact absurd this (by decide)
section
variable {tabs:List (qj×qj)}
theorem qt.at (I:qt qc w qd G tabs h ρ σ){i:Nat}{o:AObj}{a:qj}(e:σ[i]?=qa o)(ea:ρ[i]?=qa a):vD qc w G h ρ a o:=by
 obtain⟨a',h1,h2⟩:=I.objs i o e
 obtain rfl:=sj ea h1;exact h2
theorem Hn (k:∀b o,b < qd.objs.size->h.get? b=qa o->h'.get? b=qa o)(kf:Bi h h')
  (qQ:∀x∈tabs,x.1 < qd.objs.size/\x.2 < qd.objs.size)
  (t:∀x∈tabs,∃ps,h.IsCode x.1 x.2 ps/\h.TableAt x.1 x.2 ps/\(∃A5 kQ,qd.TableAt x.1 x.2 A5/\ps=A5++kQ)/\∀q pos v,kc qd (.ref x.1) q->EF pos ps.toList=qa v->kc h v (q ++ ".<locals>." ++ "<lambda>")) :
  ∀x∈tabs,∃ps,h'.IsCode x.1 x.2 ps/\h'.TableAt x.1 x.2 ps/\(∃A5 kQ,qd.TableAt x.1 x.2 A5/\ps=A5++kQ)/\∀q pos v,kc qd (.ref x.1) q->EF pos ps.toList=qa v->kc h' v (q ++ ".<locals>." ++ "<lambda>"):=λx hx=>by
 obtain⟨ps,h1,h2,hp,h3⟩:=t x hx
 obtain⟨hc,hP⟩:=qQ x hx
 refine⟨ps,?_,?_,hp,λq pos v hq e=>(h3 q pos v hq e).keep kf⟩
 ·obtain⟨o,vs,file,tf,flags,tg,Ei,text,tt,op,a,r1,r2,r3,r4,r5,r6,b,r⟩:=h1
  refine⟨o,vs,file,tf,flags,tg,Ei,text,tt,op,k _ _ hc a,r1,r2,r3,r4,r5,r6,k _ _ hP b,r⟩
 ·obtain⟨⟨o,vs,a,r⟩,b⟩:=h2
  refine⟨⟨o,vs,k _ _ hc a,r⟩,k _ _ hP b⟩
theorem qt.keeps (qQ:∀x∈tabs,x.1 < qd.objs.size/\x.2 < qd.objs.size)(I:qt qc w qd G tabs h ρ σ)
  (k:∀b o,h.get? b=qa o->h'.get? b=qa o):qt qc w qd G tabs h' ρ σ where
 top:=I.top.keeps k
 old:=λb o e n=>k _ _ (I.old b o e n)
 len:=I.len
 nodup:=I.nodup
 above:=I.above
 tab:=Hn (λb o _ e=>k b o e) (.of k) qQ I.tab
 objs:=λi o e=>by
  obtain⟨a,ha,hx⟩:=I.objs i o e
  obtain⟨c,hc,_⟩:=hx.get
  refine⟨a,ha,hx.mono ((k _ _ hc).trans hc.symm) (.of k) ⟨[],by simp⟩⟩
theorem qt.here (I:qt qc w qd G tabs h ρ σ)(ha:a∈ρ):∃o,h.get? a=qa o:=by
 obtain⟨i,hi,rfl⟩:=Rk.mp ha
 have hi':i < σ.length:=I.len▸hi
 obtain⟨a,e,x⟩:=I.objs i σ[i] (by simp[hi'])
 obtain⟨c,hc,_⟩:=x.get
 rw[kh hi] at e;cases e
 refine⟨c,hc⟩
theorem qt.alloc {h h':Heap}{ρ:List qj}{σ:qi}(qQ:∀x∈tabs,x.1 < qd.objs.size/\x.2 < qd.objs.size)(I:qt qc w qd G tabs h ρ σ)
  (k:∀b o,h.get? b=qa o->h'.get? b=qa o) {a:qj} {ao:AObj} (ha:a∉ρ) (hb:qd.objs.size<=a) (zy:a≠Ab)
  (x:vD qc w G h' (ρ++[a]) a ao):qt qc w qd G tabs h' (ρ++[a]) (σ++[ao]) where
 top:=(I.top.keeps k).snoc zy
 old:=λb o e n=>k _ _ (I.old b o e n)
 len:=by simp[I.len]
 nodup:=BJ.mpr ⟨I.nodup,by simp,λx hx y hy e=>by simp at hy;subst hy;subst e;exact ha hx⟩
 above:=λb hb'=>by
  rcases zT.mp hb' with h1 | h1
  ·exact I.above b h1
  ·simp at h1;subst h1;exact hb
 tab:=Hn (λb o _ e=>k b o e) (.of k) qQ I.tab
 objs:=λi o e=>by
  by_cases hi:i < σ.length
  ·rw[Ri hi] at e
   obtain⟨a',ha',hx⟩:=I.objs i o e
   obtain⟨c,hc,_⟩:=hx.get
   refine⟨a',DX ⟨[a],rfl⟩ ha',hx.mono ((k _ _ hc).trans hc.symm) (.of k) ⟨[a],rfl⟩⟩
  ·have hi':i=σ.length:=by
    have:=(kF.mp e).1
    simp at this;lia
   subst hi'
   simp at e;subst e
   refine⟨a,by rw[<-I.len];simp,x⟩
theorem qt.upd (qQ:∀x∈tabs,x.1 < qd.objs.size/\x.2 < qd.objs.size)(I:qt qc w qd G tabs h ρ σ)
  (ea:ρ[i]?=qa a) (hs:Heap.SameBut a h h') (x:vD qc w G h' ρ a ao):qt qc w qd G tabs h' ρ (σ.set i ao):=by
 have hi:i < σ.length:=I.len▸(kF.mp ea).1
 have ham:a∈ρ:=wT ea
 obtain⟨a₀,e₀,Aj⟩:=I.objs i σ[i] (by simp[hi])
 obtain rfl:=sj ea e₀
 obtain⟨c,hc,hf⟩:=Aj.get
 have kf:Bi h h':=.but hs.extBut hc hf
 refine⟨I.top.other (a:=a) (λe=>I.top.out (e▸ham)) (λb o hb e=>(hs.2 b hb).trans e),λb o e n=>(hs.2 b (kR (jH (Heap.lt_size e) (I.above a ham)))).trans (I.old b o e n),by simp[I.len],I.nodup,I.above,
  Hn (λb o hb e=>(hs.2 b (kR (jH hb (I.above a ham)))).trans e) kf qQ I.tab,λj o e=>?_⟩
 by_cases hj:j=i
 ·subst hj
  simp[hi] at e;subst e
  refine⟨a,ea,x⟩
 ·rw[MC (DO hj)] at e
  obtain⟨b,hb,y⟩:=I.objs j o e
  refine⟨b,hb,y.mono (hs.2 b ?_) kf ⟨[],by simp⟩⟩
  rintro rfl
  have h1:=(kF.mp ea)
  have h2:=(kF.mp hb)
  obtain⟨l1,e1⟩:=h1
  obtain⟨l2,e2⟩:=h2
  have np:=FR.mp I.nodup
  rcases qgP hj with h | h
  ·exact np _ _ l2 l1 h (e2.trans e1.symm)
  ·exact np _ _ l1 l2 h (e1.trans e2.symm)
theorem qt.own (qQ:∀x∈tabs,x.1 < qd.objs.size/\x.2 < qd.objs.size)(I:qt qc w qd G tabs h ρ σ)
  (ha:a∉ρ) (hb:qd.objs.size<=a) (hc:h.get? a=qa c) (hf:¬CY c) (hs:Heap.SameBut a h h') (hx:a=Ab->∃o' es n,h'.get? a=qa o'/\o'.cls=c.cls/\o'.data=.dict es n):qt qc w qd G tabs h' ρ σ:=by
 have kf:Bi h h':=.but hs.extBut hc hf
 have htop:vl qd h' ρ:=by
  by_cases hat:a=Ab
  ·subst hat
   obtain⟨o,_,_,e,r,_⟩:=I.top.at_
   obtain rfl:=sj hc e
   obtain⟨o',es,n,e',r',d'⟩:=hx rfl
   refine⟨I.top.above,I.top.out,o',es,n,e',r'.trans r,d'⟩
  ·exact I.top.other hat λb o hb e=>(hs.2 b hb).trans e
 refine⟨htop,λb o e n=>(hs.2 b (kR (jH (Heap.lt_size e) hb))).trans (I.old b o e n),I.len,I.nodup,I.above,
  Hn (λb o hb' e=>(hs.2 b (kR (jH hb' hb))).trans e) kf qQ I.tab,λj o e=>?_⟩
 obtain⟨b,hb',y⟩:=I.objs j o e
 refine⟨b,hb',y.mono (hs.2 b (by rintro rfl;exact ha (wT hb'))) kf ⟨[],by simp⟩⟩
theorem qY.keeps (k:∀b o,h.get? b=qa o->h'.get? b=qa o):qY qd W ρ h ρ h' :=
 ⟨⟨[],by simp,by simp⟩,λb o _ _ _ e=>.of (k b o e),λb o e=>⟨o,k b o e⟩⟩
theorem qY.alloc (k:∀b o,h.get? b=qa o->h'.get? b=qa o)(ha:h.get? a=qb):qY qd W ρ h (ρ++[a]) h' :=
 ⟨⟨[a],rfl,by simpa using ha⟩,λb o _ _ _ e=>.of (k b o e),λb o e=>⟨o,k b o e⟩⟩
theorem qY.upd (hs:Heap.SameBut a h h')(ha:a∈ρ)(hx:∃o,h'.get? a=qa o):qY qd W ρ h ρ h' :=
 ⟨⟨[],by simp,by simp⟩,λb o _ hb _ e=>.of ((hs.2 b (by rintro rfl;exact hb ha)).trans e),λb o e=>by
  by_cases hb:b=a
  ·subst hb;exact hx
  ·refine⟨o,(hs.2 b hb).trans e⟩⟩
theorem qY.own (hs:Heap.SameBut a h h')(ha:W a)(hx:∃o,h'.get? a=qa o):qY qd W ρ h ρ h' :=
 ⟨⟨[],by simp,by simp⟩,λb o _ _ hw e=>.of ((hs.2 b (by rintro rfl;exact hw ha)).trans e),λb o e=>by
  by_cases hb:b=a
  ·subst hb;exact hx
  ·refine⟨o,(hs.2 b hb).trans e⟩⟩
theorem B0 (h:Heap):h.get? h.objs.size=qb:=by
 cases e:h.get? h.objs.size with
 | none=>rfl
 | some o=>exact absurd (Heap.lt_size e) (j7 _)
end
end
structure zf (d:Nat)(A:zh):Prop where
 handled:A.handled=qb
 depth:A.depth+10 * d<=800
 units:A.units+60 * d<=9000
 frame:∃env l,A.frames=qa (env :: l)/\env.scope.isGenerator=qg/\env.scope.isCoroutine=qg/\env.builtins=vi/\env.globals=kT
 top:10<=d->∃env,A.frames=qa [env]/\env.frame=qa Ab/\env.scope.kind≠.module
structure FK (d:Nat)(A:zh):Prop where
 handled:A.handled=qb
 depth:A.depth+10 * d<=805
 units:A.units+60 * d<=9030
 frame:∃env l,A.frames=qa (env :: l)/\env.scope.isGenerator=qg/\env.scope.isCoroutine=qg/\env.builtins=vi/\env.globals=kT
theorem zf.toL (r:zf d A):FK d A:=⟨r.handled,by have:=r.depth;lia,by have:=r.units;lia,r.frame⟩
theorem zf.in2 (r:zf d A):FK d A.in1.in1:=⟨r.handled,by have:=r.depth;show A.depth+10 * d<=805;lia,by have:=r.units;show A.units+1+1+60 * d<=9030;lia,r.frame⟩
theorem FK.room (r:FK (d+2) A)(h:d+1 < 10):zf (d+1) A:=⟨r.handled,by have:=r.depth;lia,by have:=r.units;lia,r.frame,λq=>absurd q (Rl.mpr h)⟩
structure qS (qc:zm)(qd:Heap)(G:qf->Option qh)(tabs:List (qj×qj)):Prop where
 size:∀h,w6 qd tabs h->qd.objs.size<=h.objs.size
 tlt:∀x∈tabs,x.1 < qd.objs.size/\x.2 < qd.objs.size
 tnd:(tabs.map (·.2)).Nodup
 bmod:∀h,w6 qd tabs h->∃mg bm o,h.Ns kT mg/\mg "__builtins__" = qa (.ref bm)/\bm≠vi/\h.get? bm=qa o/\o.cls=.type "module" /\ o.dict=qa vi/\o.data=.plain
 noLimit:∀h,w6 qd tabs h->h.NoLimit
 noSeer:∀h,w6 qd tabs h->h.NoSeer
 tree:qc.given.tree=qb
 glob:∀h,w6 qd tabs h->∃mg mb,h.Ns kT mg/\h.Ns vi mb/\∀x v,G x=qa v->mg x=qa v\/(mg x=qb/\mb x=qa v)
section
variable {qc:zm}{w:qK}{qd:Heap}{G:qf->Option qh}{tabs:List (qj×qj)}{d:Nat}{A:zh}{Ex:qh->qk->Prop}{s:qk}
 {ρ:List qj} {σ σ':qi} {v:V} {Q:qh->qk->Prop}
noncomputable def zd (qc:zm)(w:qK)(qd:Heap)(G:qf->Option qh)(tabs:List (qj×qj))(Q:qh->qk->Prop)(ρ:List qj)(s:qk)(v:V)(σ':qi):Prop :=
 ∀v' qr h' tk,qY qd vr ρ s.heap qr h'->qt qc w qd G tabs h' qr σ'->qz qr v v'->Q v' { s with heap:=h',toks:=tk }
theorem zd.of (e:qa (a,τ)=qa (v,σ'))(R:zd qc w qd G tabs Q ρ s v σ'):zd qc w qd G tabs Q ρ s a τ:=by cases e;exact R
theorem zd.same (R:zd qc w qd G tabs Q ρ s v σ)(I:qt qc w qd G tabs s.heap ρ σ)(r:qz ρ v v')(tk:Nat):Q v' { s with toks:=tk } :=
 R v' ρ s.heap tk (qY.refl ..) I r
theorem zd.new (B:qS qc qd G tabs)(R:zd qc w qd G tabs Q ρ s (.ref σ.length) (σ++[ao]))(I:qt qc w qd G tabs s.heap ρ σ)(k:∀b o,s.heap.get? b=qa o->h'.get? b=qa o)
  (ha:s.heap.get? a=qb) (hb:qd.objs.size<=a) (x:vD qc w G h' (ρ++[a]) a ao) (tk:Nat):Q (.ref a) { s with heap:=h',toks:=tk } :=
 R _ (ρ++[a]) h' tk (.alloc k ha) (I.alloc B.tlt k (λhm=>by obtain⟨o,ho⟩:=I.here hm;rw[ha] at ho;cases ho) hb (I.top.ne ha) x) (.ref (by rw[<-I.len];simp))
theorem zd.push (B:qS qc qd G tabs)(R:zd qc w qd G tabs Q ρ s (.ref σ.length) (σ++[ao]))(I:qt qc w qd G tabs s.heap ρ σ)
  (x:vD qc w G (s.heap.push o) (ρ++[s.heap.objs.size]) s.heap.objs.size ao) (tk:Nat):Q (.ref s.heap.objs.size) { s with heap:=s.heap.push o,toks:=tk } :=
 R.new B I (λb o' e=>Heap.get?_push_of_some o e) (B0 _) (B.size _ I.old) x tk
theorem qt.list (I:qt qc w qd G tabs s.heap ρ σ){i:Nat}(e:σ[i]?=qa (.list xs))(ea:ρ[i]?=qa a) :
  ∃items n,Ch s.heap a items n/\qL ρ xs items.toList/\items.size=xs.length:=by
 obtain⟨items,n,h1,h2⟩:=I.at e ea
 refine⟨items,n,h1,h2,by rw[<-h2.length];simp⟩
theorem vZ (h:small n=qe):n<=1000000:=of_decide_eq_true h
theorem LU (h:A0 i=qe):-4611686018427387904<=i/\i < 4611686018427387904:=by
 simpa [A0] using h
theorem qbX [Decidable a] [Decidable b] [Decidable c]{P:Prop}(h:(decide a&&decide b&&decide c)=qe)(k:a->b->c->P):P :=
 have h1:=z0.mp h
 have h2:=z0.mp h1.1
 k (of_decide_eq_true h2.1) (of_decide_eq_true h2.2) (of_decide_eq_true h1.2)
theorem m8 (B:qS qc qd G tabs)(r:zf d A)(I:qt qc w qd G tabs s.heap ρ σ):PylongRoom (qp qc w) A s:=by
 obtain⟨env,l,hf,h1,h2,h3,h4⟩:=r.frame
 refine qiM (B.noLimit _ I.old) ?_ (SeerAt.of (B.noSeer _ I.old) B.tree hf h1 h2 h3 h4)
 have:=r.depth
 show A.depth+100 < 1000
 lia
theorem eC (ha:EQ a=qe):IntMulOk a b :=
 .of_left (qu (qiN (k:=40) (by simpa [EQ] using ha)) (by decide))
theorem qz.int_inv (r:qz ρ (.int i) v'):∃t,v'=.int i t:=by cases r;refine⟨_,rfl⟩
theorem qz.str_inv (r:qz ρ (.str i) v'):∃t,v'=.str i t:=by cases r;refine⟨_,rfl⟩
theorem qz.bool_inv (r:qz ρ (.bool i) v'):v'=.bool i:=by cases r;rfl
theorem qz.none_inv (r:qz ρ .none v'):v'=.none:=by cases r;rfl
theorem qz.val_inv {v v':qh}(r:qz ρ (.val v) v'):v'=v:=by cases r;rfl
theorem qz.ref_inv (r:qz ρ (.ref n) v'):∃a,ρ[n]?=qa a/\v'=.ref a:=by cases r;refine⟨_,by assumption,rfl⟩
theorem Vt (items:Array qh):∀(n:Nat)(ql:Array qh),(aL (λx1 x2=>x1++x2) ql (zS n items)).toList=ql.toList++BX items.toList n
 | 0,ql=>by simp[BX]
 | n+1,ql=>by
  have:=Vt items n (ql++items)
  simp only[qgO,HB,this,BX,qgQ,qgR,jq]
theorem p9 {items:Array qh}(hl:Ch s.heap l items k)(hlo:0<=x)(hhi:x<=1000)(zu:items.size<=1000)
  (h:∀its:Array qh,its.toList=BX items.toList x.toNat->Q (.ref s.heap.objs.size) { s with heap:=s.heap.push { cls:=.type "list", data:=.seq its } }) :
  qq (qp qc w) A (JO .Mult (.ref l) (.int x u)) Q Ex s:=by
 have hm:items.size * x.toNat<=1000 * 1000:=EG zu (by lia)
 have hfit:¬(!aM x)=qe:=by simp[aM];lia
 have hlong:¬qgS (items.size * x.toNat)=qe:=by simp[qgS,vH];lia
 have hq:=h (aL (λx1 x2=>x1++x2) #[] (zS (if items.isEmpty=qe then 0 else x.toNat) items)) (by
  rw[Vt]
  by_cases he:items.isEmpty=qe
  ·have:items=#[]:=by simpa using he
   subst this
   simp[BX]
  ·simp[he])
 exact wpAny_binaryOp_repeat_ref (T := "list") (U := "int") (by decide) ⟨_,hl,rfl⟩ (λs'=>qgT s' x u) noFill_list_mul F.fills_int_mul F.slot_int_rmul repeat_list F.slot_int_index.lookup
  (HC F.slot_int_rmul (qgT s x u) F.entry_int_rmul (F.args_int_rmul_2 _ _) (int___rmul___int_list x u l items k)
   ⟨hl,rfl,⟨_,hl,rfl⟩,HC F.slot_list_mul ⟨_,hl,rfl⟩ F.entry_list_mul (F.args_list_mul_2 _ _)
    (qiO l items k x u hfit (by lia) hlong) ⟨hl,hq⟩⟩)
theorem vC (rb:qz ρ b b')(e:vI b f=qa r):∃i t,b'=.int i t/\f i=qa r:=by
 obtain⟨i,rfl,e⟩:=QG e;obtain⟨t,h⟩:=rb.int_inv;refine⟨i,t,h,e⟩
theorem Aa (rb:qz ρ b b')(e:vS b f=qa r):∃i t,b'=.str i t/\f i=qa r:=by
 obtain⟨i,rfl,e⟩:=NU e;obtain⟨t,h⟩:=rb.str_inv;refine⟨i,t,h,e⟩
theorem ZM (rb:qz ρ b b')(e:vB b f=qa r):∃i,b'=.bool i/\f i=qa r:=by
 obtain⟨i,rfl,e⟩:=SW e;refine⟨i,rb.bool_inv,e⟩
theorem vM (rb:qz ρ b b')(e:vR b f=qa r):∃i a,b'=.ref a/\ρ[i]?=qa a/\f i=qa r:=by
 obtain⟨i,rfl,e⟩:=x9 e;obtain⟨a,h1,h⟩:=rb.ref_inv;refine⟨i,a,h,h1,e⟩
theorem OU (e:Hq f a b=qa r)(ra:qz ρ a a')(rb:qz ρ b b')
  (k:∀x y t u,f x y=qa r->qq (qp qc w) A (JO op (.int x t) (.int y u)) Q Ex s):qq (qp qc w) A (JO op a' b') Q Ex s:=by
 obtain⟨x,t,rfl,e⟩:=vC ra e
 obtain⟨y,u,rfl,e⟩:=vC rb e
 exact k x y t u e
theorem xD (B:qS qc qd G tabs)(I:qt qc w qd G tabs s.heap ρ σ){a b:V}(ra:qz ρ a a')(rb:qz ρ b b')
  (e:TV σ a b=qa (v,σ')) (R:zd qc w qd G tabs Q ρ s v σ'):qq (qp qc w) A (JO .Add a' b') Q Ex s:=by
 cases a with
 | int x =>
  obtain⟨t,rfl⟩:=ra.int_inv
  obtain⟨y,u,rfl,e⟩:=vC rb e
  exact qiP ((R.of e).same I (.int _ _) _)
 | str x =>
  obtain⟨t,rfl⟩:=ra.str_inv
  obtain⟨y,u,rfl,e⟩:=Aa rb e
  exact bi e λhc e=>qiQ (λt' tk=>(R.of e).same I (.str _ _) _) (qu (vZ hc) (by decide))
 | ref i =>
  obtain⟨a1,ha,rfl⟩:=ra.ref_inv
  obtain⟨j,b1,rfl,hb,e⟩:=vM rb e
  refine AO e λxs h1 e=>AO e λys h2 e=>bi e λhc e=>?_
  obtain⟨it1,n1,l1,r1,z1⟩:=I.list h1 ha
  obtain⟨it2,n2,l2,r2,z2⟩:=I.list h2 hb
  exact P.add_list l1 l2 ((R.of e).push B I ⟨_,0,JP _ _,by rw[qgR];exact(r1.append r2).mono ⟨_,rfl⟩⟩ _) (by rw[z1,z2];exact qu (vZ hc) (by decide))
 | _=>exact nn e
theorem hV (B:qS qc qd G tabs)(I:qt qc w qd G tabs s.heap ρ σ){a b:V}(ra:qz ρ a a')(rb:qz ρ b b')
  (e:Xu σ a b=qa (v,σ')) (R:zd qc w qd G tabs Q ρ s v σ'):qq (qp qc w) A (JO .Mult a' b') Q Ex s:=by
 obtain⟨n,u,rfl,e⟩:=vC rb e
 cases a with
 | int x =>
  obtain⟨t,rfl⟩:=ra.int_inv
  exact bi e λhc e=>qiR ((R.of e).same I (.int _ _) _) (eC (z0.mp hc).1)
 | ref i =>
  obtain⟨a1,ha,rfl⟩:=ra.ref_inv
  refine AO e λxs h1 e=>bi e λhc e=>qbX hc λc1 c2 c3=>?_
  obtain⟨items,k,l1,r1,z1⟩:=I.list h1 ha
  exact p9 l1 c1 c2 (z1▸c3) λits hi=>(R.of e).push B I ⟨_,0,JP _ _,hi▸(r1.mul _).mono ⟨_,rfl⟩⟩ _
 | _=>exact nn e
theorem VI (B:qS qc qd G tabs)(r:zf d A)(I:qt qc w qd G tabs s.heap ρ σ)(ra:qz ρ a a')(rb:qz ρ b b')
  (e:Dx σ op a b=qa (v,σ')) (R:zd qc w qd G tabs Q ρ s v σ'):qq (qp qc w) A (JO op a' b') Q Ex s:=by
 cases op with
 | Add=>exact xD B I ra rb e R
 | Mult=>exact hV B I ra rb e R
 | Sub=>exact OU e ra rb λx y t u e=>qiS ((R.of e).same I (.int _ _) _)
 | FloorDiv=>exact OU e ra rb λx y t u e=>bn e λhc e=>qiT (by simpa using hc) ((R.of e).same I (.int _ _) _) (.inr (m8 B r I))
 | Mod=>exact OU e ra rb λx y t u e=>bn e λhc e=>qiU (by simpa using hc) ((R.of e).same I (.int _ _) _)
 | _=>exact nn e
end
section
open PySem.SeqAt
section
variable {qc:zm}{w:qK}{qd:Heap}{G:qf->Option qh}{tabs:List (qj×qj)}{d:Nat}{A:zh}{Ex:qh->qk->Prop}{s:qk}
 {ρ:List qj} {σ σ':qi} {v:V} {Q:qh->qk->Prop}
theorem qt.tuple (I:qt qc w qd G tabs s.heap ρ σ){i:Nat}(e:σ[i]?=qa (.tuple xs))(ea:ρ[i]?=qa a) :
  ∃items,s.heap.IsTuple a items/\qL ρ xs items.toList/\items.size=xs.length:=by
 obtain⟨items,n,h1,h2⟩:=I.at e ea
 refine⟨items,⟨_,h1,rfl,n,rfl⟩,h2,by rw[<-h2.length];simp⟩
theorem Np {xs:List V}{items:Array qh}(r:qL ρ xs items.toList){i:Nat}{x:V}(e:xs[i]?=qa x):∃x',items[i]?=qa x'/\qz ρ x x':=by
 obtain⟨x',h1,h2⟩:=r.get e
 refine⟨x',aN▸h1,h2⟩
theorem QR (hf:∀x b,f x x=qa b->b=qe):∀(l:List V)(b:Bool),Cq f l l=qa b->b=qe
 | [],b,h=>by cases h;rfl
 | x :: xs,b,h=>b1 h λa h1 h=>b1 h λc h2 h=>by cases h;rw[hf x a h1,QR hf xs c h2];rfl
theorem Se {c:Bool}{P:Prop}(h:KT σ f i j=qa c)
  (k1:∀xs ys,σ[i]?=qa (.list xs)->σ[j]?=qa (.list ys)->xs.length=ys.length->small xs.length=qe->Cq f xs ys=qa c->P)
  (k2:∀xs ys,σ[i]?=qa (.list xs)->σ[j]?=qa (.list ys)->xs.length≠ys.length->c=qg->P)
  (k3:∀xs ys,σ[i]?=qa (.tuple xs)->σ[j]?=qa (.tuple ys)->xs.length=ys.length->small xs.length=qe->Cq f xs ys=qa c->P):P:=by
 have h:bn1 (qy σ i) (λa=>bn1 (qy σ j) λb=>U6 f a b)=qa c:=h
 refine b1 h λa h1 h=>b1 h λb h2 h=>?_
 rw[za] at h1 h2
 cases a with
 | list xs=>cases b with
  | list ys=>exact Ox h (λhl h=>bi h (k1 xs ys h1 h2 hl)) λhl h=>k2 xs ys h1 h2 hl (zc h).symm
  | _=>exact nn h
 | tuple xs=>cases b with
  | tuple ys=>exact bi h λhl h=>bi h (k3 xs ys h1 h2 hl)
  | _=>exact nn h
 | _=>exact nn h
theorem Sq (hr:∀i b,r i i=qa b->b=qe)(a:V)(b:Bool)(h:JE r a a=qa b):b=qe:=by
 cases a with
 | none=>cases h;rfl
 | bool x=>exact zc h▸beq_self_eq_true x
 | int x=>exact zc h▸beq_self_eq_true x
 | str x=>exact zc h▸(wZ x x).trans (beq_self_eq_true x)
 | ref i=>exact hr i b h
 | val c=>exact nn h
theorem Gi (h1:x=qa a)(h2:x=qa b):a=b:=zc (h1.symm.trans h2)
theorem P9 (σ:qi):∀(n:Nat)(a:V)(r:Bool),vc σ n a a=qa r->r=qe
 | 0,a,r,h=>Sq (λ_ _ h=>nn h) a r h
 | n+1,a,r,h=>Sq (λi b h=>Se h
   (λxs ys h1 h2 _ _ h=>QR (P9 σ n) xs b (by rw[AObj.list.inj (Gi h2 h1)] at h;exact h)) (λxs ys h1 h2 hl _=>absurd (by rw[AObj.list.inj (Gi h2 h1)]) hl)
   (λxs ys h1 h2 _ _ h=>QR (P9 σ n) xs b (by rw[AObj.tuple.inj (Gi h2 h1)] at h;exact h))) a r h
theorem qe8 {P:qh->qh->Bool->Prop}{f:V->V->Option Bool}(hp:∀x y x' y' b,qz ρ x x'->qz ρ y y'->f x y=qa b->P x' y' b)
 (r1:qL ρ xs l1):∀{ys:List V} {l2:List qh} {c:Bool},qL ρ ys l2->Cq f xs ys=qa c ->
  l1.length=l2.length/\∃fl:List Bool,fl.length=l1.length/\c=fl.all id/\∀(j:Nat) (k1:j < l1.length) (k2:j < l2.length),P l1[j] l2[j] (fl.getD j qg):=by
 induction r1 with
 | nil =>
  intro ys l2 c r2 h
  cases r2 with
  | nil=>cases h;refine⟨rfl,[],rfl,rfl,λ_ h=>absurd h (Rm _)⟩
  | cons=>exact nn h
 | cons a b ih =>
  intro ys l2 c r2 h
  cases r2 with
  | nil=>exact nn h
  | cons a' b' =>
   refine b1 h λu h1 h=>b1 h λv h2 h=>?_
   cases h
   obtain⟨e0,fl,e1,e2,e3⟩:=ih b' h2
   refine⟨congrArg (· + 1) e0,u :: fl,congrArg (· + 1) e1,by rw[e2];rfl,λj=>?_⟩
   cases j with
   | zero=>exact λ_ _=>hp _ _ _ _ _ a a' h1
   | succ j=>exact λk1 k2=>e3 j (Rn k1) (Rn k2)
theorem yH (fl:List Bool):(zx fl.length).all (λj=>fl.getD j qg)=fl.all id:=by
 rw[k9]
 simp only[wS,jG,id]
 constructor
 ·intro h x hx
  obtain⟨i,hi,rfl⟩:=Rk.mp hx
  have:=h i hi
  simpa [hi] using this
 ·intro h i hi
  have:=h fl[i] (Q9 hi)
  simpa [hi] using this
theorem YX {P:qh->qh->Bool->Prop}{f:V->V->Option Bool}(hp:∀x y x' y' b,qz ρ x x'->qz ρ y y'->f x y=qa b->P x' y' b)
  {xs ys:List V} {l1 l2:Array qh} {c:Bool} (r1:qL ρ xs l1.toList) (r2:qL ρ ys l2.toList) (h:Cq f xs ys=qa c) :
  l1.size=l2.size/\∃g:Nat->Bool,(zx l1.size).all g=c/\∀(j:Nat) (k1:j < l1.size) (k2:j < l2.size),P l1[j] l2[j] (g j):=by
 obtain⟨e0,fl,e1,e2,e3⟩:=qe8 hp r1 r2 h
 refine⟨e0,(fl.getD · qg),by rw[e2,<-yH,e1];rfl,e3⟩
theorem SH (I:qt qc w qd G tabs s.heap ρ σ){n:Nat}{i j:Nat}{l m:qj}{c:Bool}{P:Bool->Prop}(hl:ρ[i]?=qa l)(hm:ρ[j]?=qa m)(ih:∀x y x' y' b,qz ρ x x'->qz ρ y y'->vc σ n x y=qa b->HD A.in1 s x' y' b)
  (h:KT σ (vc σ n) i j=qa c)
  (k1:∀it1 it2 g,s.heap.IsList l it1->s.heap.IsList m it2->it1.size=it2.size->it1.size<=1000000->(∀k (k1:k < it1.size) (k2:k < it2.size),HD A.in1 s it1[k] it2[k] (g k))->P ((zx it1.size).all g))
  (k2:∀it1 it2,s.heap.IsList l it1->s.heap.IsList m it2->it1.size≠it2.size->P qg)
  (k3:∀it1 it2 g,s.heap.IsTuple l it1->s.heap.IsTuple m it2->it1.size=it2.size->it1.size<=1000000->(∀k (k1:k < it1.size) (k2:k < it2.size),HD A.in1 s it1[k] it2[k] (g k))->P ((zx (min it1.size it2.size)).all g&&it1.size == it2.size)):P c :=
 Se h (λxs ys h1 h2 _ hs h=>by
   obtain⟨it1,n1,l1,r1,z1⟩:=I.list h1 hl
   obtain⟨it2,n2,l2,r2,z2⟩:=I.list h2 hm
   obtain⟨e,g,rfl,hg⟩:=YX ih r1 r2 h
   exact k1 it1 it2 g l1.isList l2.isList e (z1▸vZ hs) hg)
  (λxs ys h1 h2 zy hc=>by
   obtain⟨it1,n1,l1,r1,z1⟩:=I.list h1 hl
   obtain⟨it2,n2,l2,r2,z2⟩:=I.list h2 hm
   exact hc▸k2 it1 it2 l1.isList l2.isList (z1▸z2▸zy))
  λxs ys h1 h2 _ hs h=>by
   obtain⟨it1,l1,r1,z1⟩:=I.tuple h1 hl
   obtain⟨it2,l2,r2,z2⟩:=I.tuple h2 hm
   obtain⟨e,g,rfl,hg⟩:=YX ih r1 r2 h
   have:=k3 it1 it2 g l1 l2 e (z1▸vZ hs) hg
   rw[<-e,Nat.min_self,beq_self_eq_true,aO] at this
   exact this
theorem X0 (ra:qz ρ a a')(rb:qz ρ b b')(h:JE r a b=qa c)
  (k:∀i j l m,ρ[i]?=qa l->ρ[j]?=qa m->r i j=qa c->HD A s (.ref l) (.ref m) c):HD A s a' b' c:=by
 cases a with
 | none =>
  obtain rfl:=ra.none_inv
  cases b with
  | none=>obtain rfl:=rb.none_inv;cases h;exact qgU _
  | _=>exact nn h
 | bool x=>obtain rfl:=ra.bool_inv;obtain⟨y,rfl,h⟩:=ZM rb h;cases h;exact EqAt.bool_bool _ _
 | int x=>obtain⟨t,rfl⟩:=ra.int_inv;obtain⟨y,u,rfl,h⟩:=vC rb h;cases h;exact EqAt.int_int _ _ _ _
 | str x=>obtain⟨t,rfl⟩:=ra.str_inv;obtain⟨y,u,rfl,h⟩:=Aa rb h;rw[wZ] at h;cases h;exact EqAt.str_str _ _ _ _
 | ref i=>obtain⟨l,hl,rfl⟩:=ra.ref_inv;obtain⟨j,m,rfl,hm,h⟩:=vM rb h;exact k i j l m hl hm h
 | val v=>exact nn h
theorem Yc (I:qt qc w qd G tabs s.heap ρ σ)(n:Nat):∀(A:zh)(a b:V)(a' b':qh)(r:Bool),A.units+n < EH->qz ρ a a'->qz ρ b b'->vc σ n a b=qa r->HD A s a' b' r:=by
 induction n with
 | zero =>
  intro A a b a' b' r hu ra rb h
  exact X0 ra rb (r:=λ_ _=>qb) h λ_ _ _ _ _ _ h=>nn h
 | succ n ih =>
  intro A a b a' b' r hu ra rb h
  refine X0 ra rb (r:=KT σ (vc σ n)) h λi j l m hl hm h=>?_
  by_cases hlm:l=m
  ·subst hlm
   have hij:i=j:=by
    obtain⟨l1,e1⟩:=kF.mp hl
    obtain⟨l2,e2⟩:=kF.mp hm
    have np:=FR.mp I.nodup
    rcases Ro i j with h | h | h
    ·exact absurd (e1.trans e2.symm) (np _ _ l1 l2 h)
    ·exact h
    ·exact absurd (e2.trans e1.symm) (np _ _ l2 l1 h)
   subst hij
   rw[P9 σ (n+1) (.ref i) r h]
   exact qgU _
  ·refine EqAt.of_refs hlm (SH I hl hm (A:=A) (λx y x' y' b rx ry h=>ih A.in1 x y x' y' b (by simp;lia) rx ry h) h ?_ ?_ ?_)
   ·exact λit1 it2 g l1 l2 e z hg=>qgV l1 l2 e (by lia) hg
   ·exact λit1 it2 l1 l2 e=>qgW l1 l2 (by simpa using e) (by lia)
   ·exact λit1 it2 g l1 l2 e z hg=>qgX l1 l2 (by lia) hg
theorem ZF (nd:ρ.Nodup){i j:Nat}(hi:ρ[i]?=qa a)(hj:ρ[j]?=qa a):i=j:=by
 obtain⟨l1,e1⟩:=kF.mp hi
 obtain⟨l2,e2⟩:=kF.mp hj
 have np:=FR.mp nd
 rcases Ro i j with h | h | h
 ·exact absurd (e1.trans e2.symm) (np _ _ l1 l2 h)
 ·exact h
 ·exact absurd (e2.trans e1.symm) (np _ _ l2 l1 h)
noncomputable def V.isVal:V->Bool
 | .val _=>qe
 | _=>qg
theorem qz.inj {y:qh}(nd:ρ.Nodup)(a:qz ρ v y)(b:qz ρ u y)(hv:v.isVal=qg)(hu:u.isVal=qg):v=u:=by
 cases u with
 | val=>exact ff hu.symm
 | none=>obtain rfl:=b.none_inv;cases a with | none=>rfl | val=>exact ff hv.symm
 | bool _=>obtain rfl:=b.bool_inv;cases a with | bool=>rfl | val=>exact ff hv.symm
 | int _=>obtain⟨t,rfl⟩:=b.int_inv;cases a with | int=>rfl | val=>exact ff hv.symm
 | str _=>obtain⟨t,rfl⟩:=b.str_inv;cases a with | str=>rfl | val=>exact ff hv.symm
 | ref _ =>
  obtain⟨t,hb,rfl⟩:=b.ref_inv
  cases a with
  | ref ha=>rw[ZF nd ha hb]
  | val=>exact ff hv.symm
theorem WM (h:vc σ n a b=qa r):a.isVal=qg:=by
 cases n <;> (cases a with | val=>exact nn h | _=>rfl)
theorem QV:∀{ys:List V}{fl:List Bool},BY σ x ys=qa fl->fl.length=ys.length
 | [],fl,h=>by cases h;rfl
 | y :: ys,fl,h=>b1 h λa _ h=>b1 h λl h2 h=>by cases h;exact congrArg (· + 1) (QV h2)
noncomputable def wu:List qh->List Bool->qh->Bool
 | i :: is,b :: bs,y=>if i=y then b else wu is bs y
 | _,_,_=>qg
theorem V0 {items:List qh}(nd:ρ.Nodup)(r:qL ρ ys items):∀{fl:List Bool},BY σ x ys=qa fl ->
  ∀(j:Nat) (y':qh),items[j]?=qa y'->∃(y:V) (b:Bool),qz ρ y y'/\vc σ 3 y x=qa b/\fl[j]?=qa b/\wu items fl y'=b:=by
 induction r with
 | nil=>exact λ_ j y' e=>nn e
 | @cons z z' ys is hz r ih =>
  intro fl h
  refine b1 h λa h1 h=>b1 h λl h2 h=>?_
  cases h
  intro j y' e
  by_cases hzy:z'=y'
  ·subst hzy
   have hf:wu (z' :: is) (a :: l) z'=a:=if_pos rfl
   cases j with
   | zero=>refine⟨z,a,hz,h1,rfl,hf⟩
   | succ j =>
    obtain⟨y,b,q1,q2,q3,q4⟩:=ih h2 j z' e
    have:y=z:=qz.inj nd q1 hz (WM q2) (WM h1)
    subst this
    refine⟨y,a,hz,h1,(Gi q2 h1)▸q3,hf⟩
  ·have hf:wu (z' :: is) (a :: l) y'=wu is l y':=if_neg hzy
   cases j with
   | zero=>exact absurd (zc e) hzy
   | succ j =>
    obtain⟨y,b,q1,q2,q3,q4⟩:=ih h2 j y' e
    refine⟨y,b,q1,q2,q3,hf.trans q4⟩
theorem NF (I:qt qc w qd G tabs s.heap ρ σ)(rx:qz ρ x x'){ys:List V}{items:Array qh}{fl:List Bool}(r:qL ρ ys items.toList)(h:BY σ x ys=qa fl) :
  (∀(A:zh),A.units+3 < EH->∀y',y'∈items->HD A s y' x' (wu items.toList fl y'))/\items.toList.map (wu items.toList fl)=fl:=by
 refine⟨λA hu y' hy=>?_,?_⟩
 ·obtain⟨j,hj,rfl⟩:=Array.mem_iff_getElem.mp hy
  obtain⟨y,b,q1,q2,q3,q4⟩:=V0 I.nodup r h j items[j] (by simp[hj])
  rw[q4]
  exact Yc I 3 A y x _ _ b hu q1 rx q2
 ·apply qgY
  intro j
  rw[wU]
  by_cases hj:j < items.size
  ·obtain⟨y,b,q1,q2,q3,q4⟩:=V0 I.nodup r h j items[j] (by simp[hj])
   simp[hj,q3,q4]
  ·have h1:items.toList[j]?=qb:=by simp;lia
   have h2:fl[j]?=qb:=by
    have e1:=QV h;have e2:=r.length
    simp at e2 ⊢;lia
   rw[h1,h2];rfl
theorem TK (a b:String):(EI a == EI b)=(a == b):=by
 by_cases h:a=b
 ·subst h;simp
 ·rw[beq_eq_false_iff_ne.mpr h,beq_eq_false_iff_ne.mpr (λe=>h (BM e))]
theorem qew (l:List α)(f:α->Bool):(l.map f).any id=l.any f:=by simp[JQ]
theorem TX {κ:Type} [DecidableEq κ]{p:κ->κ->Bool}(hp:∀a b,p a b=decide (a=b)){es:List (κ×V)}{kvs:List (κ×qh)}(r:zt ρ es kvs)(x:κ):(∀v,(es.find? λe=>p e.1 x).map (·.2)=qa v->∃v',Bc kvs x=qa v'/\qz ρ v v') /\
  ((es.find? λe=>p e.1 x).map (·.2)=qb->Bc kvs x=qb):=by
 induction r with
 | nil=>refine⟨λ_ h=>nn h,λ_=>rfl⟩
 | @cons k v v' es es' h r ih =>
  unfold Bc at *
  simp only[AI,hp]
  by_cases hk:k=x
  ·rw[decide_eq_true hk];refine⟨λu e=>⟨v',rfl,zc e▸h⟩,λe=>nn e.symm⟩
  ·rw[decide_eq_false hk];simp only[hp] at ih;exact ih
theorem FF (a b:qf):ze a b=decide (a=b):=by rw[wZ,k9,beq_iff_eq,decide_eq_true_eq]
theorem Um {es:List (qf×V)}{kvs:List (qf×qh)}(r:zt ρ es kvs)(x:qf):(∀v,jP es x=qa v->∃v',Bc kvs x=qa v'/\qz ρ v v')/\(jP es x=qb->Bc kvs x=qb):=TX FF r x
theorem y4 {es:List (Int×V)}{kvs:List (Int×qh)}(r:zt ρ es kvs)(x:Int):(∀v,D7 es x=qa v->∃v',Bc kvs x=qa v'/\qz ρ v v')/\(D7 es x=qb->Bc kvs x=qb):=TX (p:=λa b=>a == b) (λa b=>rfl) r x
theorem g9 (r:zt ρ es kvs)(x:qf):(Bc kvs x).isSome=es.any λe=>ze e.1 x:=by
 induction r with
 | nil=>rfl
 | @cons k v v' es es' h r ih =>
  unfold Bc at *
  simp only[AI,FS]
  rw[FF]
  by_cases hk:k=x
  ·rw[decide_eq_true hk];rfl
  ·rw[decide_eq_false hk];exact ih
noncomputable def E3 (qc:zm)(w:qK)(qd:Heap)(tabs:List (qj×qj))(d:Nat)(O:qE):Prop :=
 ∀(a:qj) (x:V) (c:Bool) (x':qh) (A:zh) (s:qk) (ρ:List qj) (Q:qh->qk->Prop) (Ex:qh->qk->Prop),O.vin a x=qa c->qz ρ x x'->zf d A->w6 qd tabs s.heap ->
  ((∀tk,Q (.bool c) { s with toks:=tk })->qq (qp qc w) A (EJ .In x' (.ref a)) Q Ex s) /\
  ((∀tk,Q (.bool (!c)) { s with toks:=tk })->qq (qp qc w) A (EJ .NotIn x' (.ref a)) Q Ex s)
theorem qt.above' (I:qt qc w qd G tabs s.heap ρ σ){i:Nat}(e:ρ[i]?=qa a):qd.objs.size<=a:=I.above a (wT e)
theorem R0 {O:qE}(B:qS qc qd G tabs)(hB:2<=qd.objs.size)(r:zf d A)(vo:E3 qc w qd tabs d O)(I:qt qc w qd G tabs s.heap ρ σ){x c:V}(rx:qz ρ x x')(rc:qz ρ c c')
  (e:Ei O σ x c=qa b):((∀tk,Q (.bool b) { s with toks:=tk })->qq (qp qc w) A (EJ .In x' c') Q Ex s) /\
  ((∀tk,Q (.bool (!b)) { s with toks:=tk })->qq (qp qc w) A (EJ .NotIn x' c') Q Ex s):=by
 cases c with
 | ref i =>
  obtain⟨a,ha,rfl⟩:=rc.ref_inv
  have hsys:(a == Cb)=qg:=beq_eq_false_iff_ne.mpr (FP (jH (jH (by decide) hB) (I.above' ha)))
  refine b1 (x:=qy σ i) (f:=UL σ x) e λo h1 e=>?_
  rw[za] at h1
  cases o with
  | list ys =>
   refine bi e λ_ e=>b1 e λfl hf e=>?_
   cases e
   obtain⟨items,n,l1,r1,z1⟩:=I.list h1 ha
   obtain⟨q1,q2⟩:=NF I rx r1 hf
   have hany:items.any (wu items.toList fl)=fl.any id:=by
    conv=>rhs;rw[<-q2]
    rw[qew,Array.any_toList]
   have hc:A.in1.units+3 < EH:=by have:=r.units;simp[EH];lia
   refine⟨λh=>in_listAt _ l1.isList (λy hy=>q1 _ hc y hy) (hany▸h s.toks),λh=>notIn_listAt _ l1.isList (λy hy=>q1 _ hc y hy) (hany▸h s.toks)⟩
  | sdict es =>
   obtain⟨x,t,rfl,e⟩:=Aa rx e
   cases e
   obtain⟨kvs,hd,hr⟩:=I.at h1 ha
   have hs:=g9 hr x
   refine⟨λh=>wpAny_in_of (knd:=strKind qc w) (k:=x) (DQ qc w x t) hsys hd.mapOf (hs▸h _),λh=>wpAny_notIn_of (knd:=strKind qc w) (k:=x) (DQ qc w x t) hsys hd.mapOf (hs▸h _)⟩
  | sset es =>
   obtain⟨x,t,rfl,e⟩:=Aa rx e
   cases e
   have hd:=I.at h1 ha
   have hs:(es.any λe=>ze e x)=es.any λe=>e == x:=by simp only[wZ]
   refine⟨λh=>qgZ (knd:=strKind qc w) (k:=x) (DQ qc w x t) rfl hd (hs▸h _),λh=>qg0 (knd:=strKind qc w) (k:=x) (DQ qc w x t) rfl hd (hs▸h _)⟩
  | _=>exact nn e
 | val u =>
  obtain rfl:=rc.val_inv
  cases c' with
  | ref a=>exact vo _ _ _ _ _ _ ρ _ _ e rx r I.old
  | _=>exact nn e
 | _=>exact nn e
theorem Xz (I:qt qc w qd G tabs s.heap ρ σ)(n:Nat)(hu:A.units+n < EH)(ra:qz ρ a a')(rb:qz ρ b b')(h:vc σ n a b=qa c) :
  RcAt A s a' b' c/\Rp A s a' b' (!c):=by
 have key:∀r:Nat->Nat->Option Bool,JE r a b=qa c->(∀i j l m,ρ[i]?=qa l->ρ[j]?=qa m->r i j=qa c->RcAt A s (.ref l) (.ref m) c/\Rp A s (.ref l) (.ref m) (!c))->RcAt A s a' b' c/\Rp A s a' b' (!c):=λr h k=>by
  cases a with
  | none =>
   obtain rfl:=ra.none_inv
   cases b with
   | none=>obtain rfl:=rb.none_inv;cases h;refine⟨RcAt.none_none,RcNeAt.none_none⟩
   | _=>exact nn h
  | bool x=>obtain rfl:=ra.bool_inv;obtain⟨y,rfl,h⟩:=ZM rb h;cases h;refine⟨RcAt.bool_bool _ _,RcNeAt.bool_bool _ _⟩
  | int x=>obtain⟨t,rfl⟩:=ra.int_inv;obtain⟨y,u,rfl,h⟩:=vC rb h;cases h;refine⟨RcAt.int_int _ _ _ _,RcNeAt.int_int _ _ _ _⟩
  | str x=>obtain⟨t,rfl⟩:=ra.str_inv;obtain⟨y,u,rfl,h⟩:=Aa rb h;rw[wZ] at h;cases h;refine⟨RcAt.str_str _ _ _ _,RcNeAt.str_str _ _ _ _⟩
  | ref i=>obtain⟨l,hl,rfl⟩:=ra.ref_inv;obtain⟨j,m,rfl,hm,h⟩:=vM rb h;exact k i j l m hl hm h
  | val v=>exact nn h
 cases n with
 | zero=>exact key _ h λ_ _ _ _ _ _ h=>nn h
 | succ n =>
  refine key _ h λi j l m hl hm h=>SH I hl hm (A:=A) (P:=λc=>RcAt A s (.ref l) (.ref m) c/\Rp A s (.ref l) (.ref m) (!c))
   (λx y x' y' b rx ry h=>Yc I n A.in1 x y x' y' b (by simp;lia) rx ry h) h ?_ ?_ ?_
  ·exact λit1 it2 g l1 l2 e z hg=>⟨qgV l1 l2 e (by lia) hg,RcNeAt.lists l1 l2 e (by lia) hg⟩
  ·exact λit1 it2 l1 l2 e=>⟨qgW l1 l2 (by simpa using e) (by lia),RcNeAt.lists_lengths l1 l2 (by simpa using e) (by lia)⟩
  ·exact λit1 it2 g l1 l2 e z hg=>⟨qgX l1 l2 (by lia) hg,RcNeAt.tuples l1 l2 (by lia) hg⟩
theorem qdk (e:Hq f a b=qa r)(ra:qz ρ a a')(rb:qz ρ b b')
  (k:∀x y t u,f x y=qa r->qq (qp qc w) A (EJ op (.int x t) (.int y u)) Q Ex s):qq (qp qc w) A (EJ op a' b') Q Ex s:=by
 obtain⟨x,t,rfl,e⟩:=vC ra e
 obtain⟨y,u,rfl,e⟩:=vC rb e
 exact k x y t u e
theorem Zk {c:Bool}{P:qh->qh->Bool->Prop}(ra:qz ρ a a')(rb:qz ρ b b')(e:EP a b=qa c)(k1:P .none .none qe)(k2:∀x y,P (.type x) (.type y) (x == y))(k3:∀x,x≠.none->P x .none qg):P a' b' c:=by
 cases b with
 | none =>
  obtain rfl:=rb.none_inv
  cases a with
  | none=>obtain rfl:=ra.none_inv;cases e;exact k1
  | val u=>obtain rfl:=ra.val_inv;cases a' with | type x=>cases e;exact k3 _ nofun | ref x=>cases e;exact k3 _ nofun | _=>exact nn e
  | bool _=>obtain rfl:=ra.bool_inv;cases e;exact k3 _ nofun
  | int _=>obtain⟨t,rfl⟩:=ra.int_inv;cases e;exact k3 _ nofun
  | str _=>obtain⟨t,rfl⟩:=ra.str_inv;cases e;exact k3 _ nofun
  | ref _=>obtain⟨t,_,rfl⟩:=ra.ref_inv;cases e;exact k3 _ nofun
 | val u =>
  obtain rfl:=rb.val_inv
  cases a with
  | val y =>
   obtain rfl:=ra.val_inv
   cases a' with
   | type y=>cases b' with | type u=>cases e;exact k2 _ _ | _=>exact nn e
   | _=>exact nn e
  | _=>exact nn e
 | _=>cases a with
  | val u=>cases u <;> exact nn e
  | _=>exact nn e
theorem Yk (B:qS qc qd G tabs)(hB:2<=qd.objs.size)(r:zf d A)(vo:E3 qc w qd tabs d O)(I:qt qc w qd G tabs s.heap ρ σ){a b:V}{a' b':qh}{c:Bool}(ra:qz ρ a a')(rb:qz ρ b b')
  (e:DY O σ op a b=qa c) (h:∀tk,Q (.bool c) { s with toks:=tk }):qq (qp qc w) A (EJ op a' b') Q Ex s:=by
 have h':Q (.bool c) s:=h s.toks
 have hu:A.units+4 < EH:=by have:=r.units;simp[EH];lia
 cases op with
 | Lt =>
  cases a with
  | int x=>obtain⟨t,rfl⟩:=ra.int_inv;obtain⟨y,u,rfl,e⟩:=vC rb e;cases e;exact qiV h'
  | str x=>obtain⟨t,rfl⟩:=ra.str_inv;obtain⟨y,u,rfl,e⟩:=Aa rb e;rw[GJ] at e;cases e;exact qiW h'
  | _=>exact nn e
 | LtE=>exact nn e
 | Gt=>exact qdk e ra rb λx y t u e=>by cases e;exact qiX h'
 | GtE=>exact nn e
 | Eq=>exact(Xz I 4 hu ra rb e).1 qc w Ex Q h'
 | NotEq=>exact b1 (x:=vc σ 4 a b) (f:=λb=>qa (!b)) e λb' hc e=>by cases e;exact(Xz I 4 hu ra rb hc).2 qc w Ex Q h'
 | Is =>
  exact Zk (P:=λa' b' c=>Q (.bool c) s->qq (qp qc w) A (EJ .Is a' b') Q Ex s) ra rb e (λh'=>qiY h')
   (λx y h'=>qB (a:=qg1 (EI _ == EI _)) (by rw[TK];exact h')) (λx hx h'=>qiZ hx h') h'
 | IsNot =>
  exact b1 (x:=EP a b) (f:=λb=>qa (!b)) e λb' hc e=>Zk (P:=λa' b' c=>Q (.bool (!c)) s->qq (qp qc w) A (EJ .IsNot a' b') Q Ex s) ra rb hc (λh'=>qi0 h')
   (λx y h'=>qB (a:=qg1 (!(EI _ == EI _))) (by rw[TK];exact h')) (λx hx h'=>qi1 hx h') (by cases e;exact h')
 | In=>exact(R0 B hB r vo I ra rb e).1 h
 | NotIn=>exact b1 (x:=Ei O σ a b) (f:=λb=>qa (!b)) e λb' hc e=>by cases e;exact(R0 B hB r vo I ra rb hc).2 h
theorem ON (r:qz ρ v v')(e:Eb σ v=qa b)(h:Qb b s):qq M A (aP v') Qb Ex s:=by
 cases v with
 | bool c=>obtain rfl:=r.bool_inv;cases e;exact λ_ _ _=>h
 | none=>obtain rfl:=r.none_inv;cases e;exact λ_ _ _=>h
 | _=>exact nn e
theorem qd8 (h:HA k n=qa j):(0<=k/\k.toNat=j)\/(k < 0/\-(n:Int)<=k/\(k+n).toNat=j):=by
 unfold HA at h
 by_cases hk:k < 0
 ·rw[if_pos hk] at h
  exact bi h λhc h=>by cases h;exact .inr ⟨hk,Int.neg_le_of_neg_le (by have:=of_decide_eq_true (z0.mp hc).1;lia),rfl⟩
 ·rw[if_neg hk] at h
  exact bi h λ_ h=>by cases h;exact .inl ⟨Ci.mp hk,rfl⟩
theorem qac {items:Array qh}(hl:s.heap.IsList l items)(hk:A0 k=qe)(hj:HA k items.size=qa j)(hx:items[j]?=qa x)
  (h:Q x s):qq (qp qc w) A (MD (.ref l) (.int k t)) Q Ex s:=by
 obtain⟨k1,k2⟩:=LU hk
 rcases qd8 hj with ⟨h0,h2⟩ | ⟨h0,h4,h5⟩
 ·exact wpAny_getItem_list hl h0 (aE k2 (by decide)) (by rw[h2];exact hx) h
 ·exact wpAny_getItem_list_neg hl h0 h4 (aQ (by decide) k1) (by rw[h5];exact hx) h
theorem UM {k:Int}{v:α}{P:Prop}(e:CE xs k=qa v)(h:∀j,A0 k=qe->small xs.length=qe->HA k xs.length=qa j->xs[j]?=qa v->P):P :=
 bi e λhc e=>b1 e λj hj hx=>h j (z0.mp hc).1 (z0.mp hc).2 hj ((za j xs).symm.trans hx)
theorem qa2 (I:qt qc w qd G tabs s.heap ρ σ){o' i':qh}(ro:qz ρ o o')(ri:qz ρ i i')(e:Di σ o i=qa v)
  (h:∀v' tk,qz ρ v v'->Q v' { s with toks:=tk }) {value slice:qA} (hs:∀m,aR slice qg o' i'=aS m (MD o' i')\/True) (hns:aR slice qg o' i'=aS [o',i'] (MD o' i')) :
  qq (qp qc w) A (aT value slice o' i') Q Ex s:=by
 cases o with
 | str x =>
  obtain⟨t,rfl⟩:=ro.str_inv
  obtain⟨k,u,rfl,e⟩:=vC ri e
  refine bi e λhk e=>b1 e λc hc e=>?_
  cases e
  exact HE (JR _ _ _) F.slot_str_getitem.lookup (P.getItem_str (by obtain⟨k1,k2⟩:=LU hk;simp;lia) hc (h _ _ (.str _ _))) hns
 | ref a =>
  obtain⟨l,hl,rfl⟩:=ro.ref_inv
  refine b1 (x:=qy σ a) (f:=E5 i) e λob h1 e=>?_
  rw[za] at h1
  cases ob with
  | list xs =>
   obtain⟨k,u,rfl,e⟩:=vC ri e
   refine UM e λj hk hs hj hx=>?_
   obtain⟨items,n,l1,r1,z1⟩:=I.list h1 hl
   obtain⟨x',g1,w1⟩:=Np r1 hx
   exact HE l1.isList.typeIs aU.lookup (qac l1.isList hk (z1.symm▸hj) g1 (h _ _ w1)) hns
  | tuple xs =>
   obtain⟨k,u,rfl,e⟩:=vC ri e
   refine UM e λj hk hs hj hx=>?_
   obtain⟨k1,k2⟩:=LU hk
   obtain⟨items,n,l1,r1⟩:=I.at h1 hl
   have z1:items.size=xs.length:=r1.length
   obtain⟨x',g1,w1⟩:=Np r1 hx
   exact HE (T := "tuple") ⟨_,l1,rfl⟩ F.slot_tuple_getitem.lookup (P.getItem_tuple l1 (aQ (by decide) k1) (aE k2 (by decide)) (z1.symm▸hj) g1 (h _ _ w1)) hns
  | sdict es =>
   obtain⟨x,u,rfl,e⟩:=Aa ri e
   obtain⟨kvs,hd,hr⟩:=I.at h1 hl
   obtain⟨v',g1,w1⟩:=(Um hr x).1 _ e
   exact HE hd.mapOf.typeIs slot_dict_getitem.lookup (wpAny_getItem_of (knd:=strKind qc w) (k:=x) (DQ qc w x u) hd.mapOf g1 (h _ _ w1)) hns
  | _=>exact nn e
 | _=>exact nn e
theorem Ng (r:qz ρ x x')(e:Dl x=qa k):Rr x' k/\∀i,k=qa i->A0 i=qe:=by
 cases x with
 | none=>cases e;obtain rfl:=r.none_inv;refine⟨.none,λ_ h=>nn h⟩
 | int i =>
  obtain⟨t,rfl⟩:=r.int_inv
  refine bi e λhi e=>?_
  cases e;refine⟨.int _ _,λ_ h=>zc h▸hi⟩
 | _=>exact nn e
theorem W0 (xs:List α)(lo hi:Option Int):w9 xs lo hi qb=qa ((xs.drop (lo.elim 0 (jU xs.length))).take (hi.elim xs.length (jU xs.length) - lo.elim 0 (jU xs.length))):=by
 unfold w9;rfl
theorem YM {items:Array qh}(r:qL ρ xs items.toList){lo hi st:Option Int}(e:w9 xs lo hi st=qa ys) :
  qL ρ ys (slicePick items lo hi st).toList/\st≠qa 0:=by
 have z:items.size=xs.length:=by rw[<-r.length];simp
 cases st with
 | none =>
  rw[<-zc e]
  refine⟨?_,by simp⟩
  rw[slicePick_plain,z]
  exact(r.drop _).take _
 | some k=>exact nn e
theorem qcA (x:qf)(lo hi:Option Int):(ME lo hi 1 x.length).filterMap (x.cps[·]?) =
  (x.cps.toList.drop (lo.elim 0 (jU x.cps.toList.length))).take (hi.elim x.cps.toList.length (jU x.cps.toList.length) - lo.elim 0 (jU x.cps.toList.length)):=by
 have e:ME lo hi 1 x.length=qg2 (((lo.elim 0 (jU x.length):Nat):Int)) (((hi.elim x.length (jU x.length):Nat):Int)) 1:=by
  cases lo <;> cases hi <;> simp[ME,qg3]
 have hl:x.cps.toList.length=x.length:=by simp[aV]
 rw[e,hl,qg4,pick_run]
theorem S9 (p:Rr v' k):∃q:Option (Int×An),v'=partValue q/\q.map (·.1)=k:=by
 cases p with
 | none=>refine⟨qb,rfl,rfl⟩
 | int i t=>refine⟨qa (i,t),rfl,rfl⟩
theorem qbk (n:Nat)(i:Int):jU n i<=n:=Int.toNat_le.mpr (Int.max_le.mpr ⟨Cj n,Int.min_le_right _ _⟩)
theorem KY (h:b - a=n)(hb:b<=n)(hn:¬n=0):a=0/\b=n:=by
 have e:b=n:=Mq hb (h▸HF b a)
 subst e
 refine⟨Nat.eq_zero_of_not_pos λp=>kR (Nat.sub_lt (Nat.pos_of_ne_zero hn) p) h,rfl⟩
set_option tactic.hygienic true in
theorem gA {a:qj}{l' u':qh}{lo hi:Option Int}(hs:s.heap.IsSliceOf a l' u' .none)(p1:Rr l' lo)(p2:Rr u' hi)(hx:x.length<=vH)
  (h:∀t' tk,Q (.str ⟨((x.cps.toList.drop (lo.elim 0 (jU x.cps.toList.length))).take (hi.elim x.cps.toList.length (jU x.cps.toList.length) - lo.elim 0 (jU x.cps.toList.length))).toArray⟩ t') { s with toks:=tk }) :
  qq (qp qc w) A (MD (.str x t) (.ref a)) Q Ex s:=by
 obtain⟨l,rfl,rfl⟩:=S9 p1
 obtain⟨u,rfl,rfl⟩:=S9 p2
 refine wpAny_getItem_str_slice (l:=l) (u:=u) (st:=qb) hs rfl ?_
 have hl:x.cps.toList.length=x.length:=by simp[aV]
 have e1:=qcA x (l.map (·.1)) (u.map (·.1))
 unfold sliceMade slicePicked
 simp only[Option.map_none,Option.getD_none]
 split
 ·rename_i hc
  simp only[beq_self_eq_true,Rs,beq_iff_eq] at hc
  have e:ME (l.map (·.1)) (u.map (·.1)) 1 x.length=qg2 ((((l.map (·.1)).elim 0 (jU x.length):Nat):Int)) ((((u.map (·.1)).elim x.length (jU x.length):Nat):Int)) 1:=by
   cases l <;> cases u <;> simp[ME,qg3]
  rw[e,qg4] at hc
  simp only[qH,Ck] at hc
  have hu:(u.map (·.1)).elim x.length (jU x.length)<=x.length:=by
   cases u with
   | none=>simp
   | some u=>exact qbk _ _
  have:=h t s.toks
  rw[hl] at this
  by_cases hz:x.length=0
  ·have hx0:x=⟨#[]⟩:=by
    obtain⟨c⟩:=x
    simp[aV] at hz
    rw[hz]
   subst hx0
   simp at this
   exact this
  ·have ha:(l.map (·.1)).elim 0 (jU x.length)=0:=(KY hc hu hz).1
   have hb:(u.map (·.1)).elim x.length (jU x.length)=x.length:=(KY hc hu hz).2
   rw[ha,hb] at this
   simp only[JS,JT] at this
   rw[<-hl,MG] at this
   exact this
 ·rw[e1]
  refine⟨?_,h _ _⟩
  have:(qg5 ((u.map (·.1)).elim x.cps.toList.length (jU x.cps.toList.length) - (l.map (·.1)).elim 0 (jU x.cps.toList.length)) (JU ((l.map (·.1)).elim 0 (jU x.cps.toList.length)) x.cps.toList)).length<=x.cps.toList.length:=by
   rw[Ra,aW];exact qu (MH _ _) (HF _ _)
  show (v5 _).size<=vH
  rw[JV]
  exact qu this (hl▸hx)
theorem ZV (B:qS qc qd G tabs)(I:qt qc w qd G tabs s.heap ρ σ){o lo hi st:V}(ro:qz ρ o o')(rl:qz ρ lo l')(ru:qz ρ hi u')(rs:qz ρ st s')
  (e:Gq σ o lo hi st=qa (v,σ')) (R:zd qc w qd G tabs Q ρ s v σ')
  (hns:∀a,∃ops,aR slice qg o' (.ref a)=aS ops (MD o' (.ref a))) :
  qq (qp qc w) A (aX "slice" [l',u',s']) (λi s₁=>qq (qp qc w) A (aT value slice o' i) Q Ex s₁) Ex s:=by
 refine b1 e λlo' e1 e=>b1 e λhi' e2 e=>b1 e λst' e3 e=>?_
 obtain⟨p1,q1⟩:=Ng rl e1
 obtain⟨p2,q2⟩:=Ng ru e2
 obtain⟨p3,q3⟩:=Ng rs e3
 have hk:∀b o,s.heap.get? b=qa o->(s.heap.push { cls:=.type "slice", data:=.fields #[l',u',s'] }).get? b=qa o:=λb o e=>Heap.get?_push_of_some _ e
 have I':qt qc w qd G tabs (s.heap.push { cls:=.type "slice", data:=.fields #[l',u',s'] }) ρ σ:=I.keeps B.tlt hk
 unfold aX
 refine HG ?_ (by size_fits)
 have R':zd qc w qd G tabs Q ρ { s with heap:=s.heap.push { cls:=.type "slice", data:=.fields #[l',u',s'] } } v σ':=λv' qr h' tk a b c=>R v' qr h' tk ((qY.keeps hk).trans a) b c
 cases o with
 | str x =>
  obtain⟨t,rfl⟩:=ro.str_inv
  refine bi e λhsm e=>?_
  simp only[jT,qg6] at hsm
  obtain⟨hsm,rfl⟩:=hsm
  rw[W0] at e
  have R':=R'.of e
  have hs0:s'=.none:=by cases p3;rfl
  subst hs0
  exact HE (JR _ _ _) F.slot_str_getitem.lookup (gA (.new ..) p1 p2 (qu (vZ hsm) (by decide)) λt' tk=>R'.same I' (.str _ _) _) (hns _).choose_spec
 | ref a =>
  obtain⟨l,hl,rfl⟩:=ro.ref_inv
  refine AO e λxs h1 e=>bi e λhsm e=>b1 e λys hy e=>?_
  obtain⟨items,n,l1,r1,z1⟩:=I'.list (s:={ s with heap:=s.heap.push { cls:=.type "slice", data:=.fields #[l',u',s'] } }) h1 hl
  obtain⟨r2,n0⟩:=YM r1 hy
  exact HE l1.isList.typeIs aU.lookup (qg7 l1.isList (.new ..) p1 p2 p3 n0 ((R'.of e).push B I' ⟨_,0,JP _ _,r2.mono ⟨_,rfl⟩⟩ _) (z1▸qu (vZ hsm) (by decide))) (hns _).choose_spec
 | _=>exact nn e
end
noncomputable def Da (k:zg)(x:qf):Prop:=k.lookup x=qa .cell\/k.lookup x=qa .free
structure EnvS (qd:Heap)(tabs:List (qj×qj))(env:q0)(k:zg):Prop where
 kind:env.scope.kind=.function
 glob:env.globals=kT
 blt:env.builtins=vi
 loc:∀x,k.lookup x=qa .local->env.kindOf x=qa .local
 fre:∀x,Da k x->env.kindOf x=qa .cell\/env.kindOf x=qa .free
 cel:∀x,k.lookup x=qa .cell->env.kindOf x=qa .cell
 glo:∀x,k.lookup x=qa .globalImplicit->env.kindOf x=qa .globalImplicit
 code:DL k=qe->∃x∈tabs,env.code=.ref x.1/\∃q,kc qd (.ref x.1) q/\env.qual=q ++ ".<locals>."
 labove:qd.objs.size<=env.locals
 inj:∀x y c,Da k x->Da k y->env.cells.lookup x=qa c->env.cells.lookup y=qa c->x=y
noncomputable def o3 (env:q0)(k:zg)(Γ:List qf)(m:qx)(ρ:List qj)(h:Heap):Prop :=
 ∃mm,h.Ns env.locals mm/\∀x i v,k.lookup x=qa .local->j3 Γ x=qa i->z5 m i=qa v->∃v',mm x=qa v'/\qz ρ v v'
noncomputable def nD (qd:Heap)(env:q0)(k:zg)(Γ:List qf)(m:qx)(ρ:List qj)(h:Heap):Prop :=
 ∀x,Da k x->∃c,env.cells.lookup x=qa c/\qd.objs.size<=c/\c∉ρ/\∃cv,h.IsCell c cv/\∀i v,j3 Γ x=qa i->z5 m i=qa v->∃v',cv=qa v'/\qz ρ v v'
structure zi (qd:Heap)(tabs:List (qj×qj))(env:q0)(k:zg)(Γ:List qf)(m:qx)(ρ:List qj)(h:Heap):Prop extends EnvS qd tabs env k where
 len:m.length=Γ.length
 lnotin:env.locals∉ρ
 locals:o3 env k Γ m ρ h
 cells:nD qd env k Γ m ρ h
noncomputable def vd (env:q0)(k:zg):qj->Prop:=λb=>b=env.locals\/∃x,k.lookup x=qa .cell/\env.cells.lookup x=qa b
noncomputable def kZ (env:q0)(k:zg):qj->Prop:=λb=>b=env.locals\/∃x,Da k x/\env.cells.lookup x=qa b
theorem vd.all {env:q0}(h:vd env k b):kZ env k b:=h.imp id λ⟨x,a,e⟩=>⟨x,.inl a,e⟩
section
variable {qc:zm}{w:qK}{qd:Heap}{G:qf->Option qh}{tabs:List (qj×qj)}{d:Nat}{A:zh}{Ex:qh->qk->Prop}{s:qk}
 {ρ qr:List qj} {σ σ':qi} {v:V} {Q:qh->qk->Prop} {env:q0} {k:zg} {Γ:List qf} {m:qx} {h h':Heap}
theorem Heap.Ns.same {mm}(n:h.Ns a mm)(e:∀o,h.get? a=qa o->CS h' a o):h'.Ns a mm :=
 (by obtain⟨o,es,ep,ho,hd,r⟩:=n;obtain⟨sl,hs⟩:=(e o ho).2;refine⟨_,es,ep,hs,hd,r⟩)
theorem Heap.Ns.at0 {mm}(n:h.Ns a mm)(e:∀o,h.get? a=qa o->h'.get? a=qa o):h'.Ns a mm :=
 (by obtain⟨o,es,ep,ho,r⟩:=n;refine⟨o,es,ep,e _ ho,r⟩)
theorem Heap.IsCell.same {cv}(n:h.IsCell a cv)(e:∀o,h.get? a=qa o->CS h' a o):h'.IsCell a cv :=
 (by obtain⟨o,ho,hd⟩:=n;obtain⟨sl,hs⟩:=(e o ho).2;refine⟨_,hs,hd⟩)
theorem Heap.IsCell.at0 {cv}(n:h.IsCell a cv)(e:∀o,h.get? a=qa o->h'.get? a=qa o):h'.IsCell a cv :=
 (by obtain⟨o,ho,r⟩:=n;refine⟨o,e _ ho,r⟩)
theorem zi.stepW (X:zi qd tabs env k Γ m ρ h)(S:qY qd W ρ h qr h')(hw:∀b,kZ env k b->¬W b):zi qd tabs env k Γ m qr h' where
 toEnvS:=X.toEnvS
 len:=X.len
 lnotin:=(by obtain⟨mm,⟨o,_,_,ho,_⟩,_⟩:=X.locals;exact S.notin X.lnotin ho)
 locals:=(by obtain⟨mm,hn,hv⟩:=X.locals;refine⟨mm,Heap.Ns.same hn λo e=>S.keep _ o X.labove X.lnotin (hw _ (.inl rfl)) e,λx i v h1 h2 h3=>(by obtain⟨v',a,b⟩:=hv x i v h1 h2 h3;refine⟨v',a,b.mono S.ext⟩)⟩)
 cells:=λx hx=>(by obtain⟨c,h1,h2,h3,cv,h4,h5⟩:=X.cells x hx;refine⟨c,h1,h2,((by obtain⟨o,ho,_⟩:=h4;exact S.notin h3 ho)),cv,Heap.IsCell.same h4 λo e=>S.keep _ o h2 h3 (hw _ (.inr ⟨x,hx,h1⟩)) e,λi v e1 e2=>(by obtain⟨v',a,b⟩:=h5 i v e1 e2;refine⟨v',a,b.mono S.ext⟩)⟩)
theorem zi.step (X:zi qd tabs env k Γ m ρ h)(S:qY qd vr ρ h qr h'):zi qd tabs env k Γ m qr h':=X.stepW S λ_ _ f=>f
set_option tactic.hygienic true in
theorem qcB (e:ev O (Ct x Γ) m σ=qa (v,σ')):(x == ("__classdict__" : qf))=qg:=by
 unfold Ct at e
 split at e
 ·exact nn e
 ·rename_i h;exact eq_false_of_ne_true h
set_option tactic.hygienic true in
theorem ZN {x:qf}{P:Prop}(e:ev O (Ct x Γ) m σ=qa (v,σ'))(k:∀i,j3 Γ x=qa i->z5 m i=qa v->σ'=σ->P):P:=by
 unfold Ct at e
 split at e
 ·exact nn e
 ·split at e
  ·rename_i i hi
   exact oY e λu hv e=>k i hi (by cases e;exact hv) (by cases e;rfl)
  ·exact nn e
theorem qcj (B:qS qc qd G tabs)(X:zi qd tabs env k Γ m ρ s.heap)(I:qt qc w qd G tabs s.heap ρ σ){x:qf}{pos:qT}
  (e:ev O (cE G (.Name x pos) k Γ) m σ=qa (v,σ')) (R:zd qc w qd G tabs Q ρ s v σ'):qq (qp qc w) A (zR (.Name x pos) env) Q Ex s:=by
 rw[arm_eval_Name]
 refine qm (jM ?_)
 have e:ev O (Iy G k Γ x) m σ=qa (v,σ'):=e
 unfold Iy at e
 by_cases hd:(x == ("__debug__" : qf))=qe
 ·rw[if_pos hd] at e ⊢
  exact qm (JK (qB ((R.of e).same I (.bool _) s.toks)))
 ·rw[if_neg hd] at e ⊢
  have cell:Da k x->ev O (Ct x Γ) m σ=qa (v,σ')->qq (qp qc w) A (loadName env x) Q Ex s:=λhk e=>ZN e λi hi hv hσ=>by
   obtain⟨c,h1,h2,h3,cv,h4,h5⟩:=X.cells x hk
   obtain⟨v',rfl,r⟩:=h5 i v hi hv
   rcases X.fre x hk with hf | hf
   ·exact wpAny_loadName_cell X.kind hf h1 h4 ((hσ▸R).same I r s.toks)
   ·exact wpAny_loadName_free X.kind hf h1 h4 ((hσ▸R).same I r s.toks) (qcB e)
  cases hk:k.lookup x with
  | none=>rw[hk] at e;exact nn e
  | some kd =>
  rw[hk] at e
  cases kd with
  | «local» =>
   refine ZN e λi hi hv hσ=>?_
   obtain⟨mm,hns,hm⟩:=X.locals
   obtain⟨v',a,r⟩:=hm x i v hk hi hv
   exact wpAny_loadName_local X.kind (X.loc x hk) hns a ((hσ▸R).same I r s.toks)
  | cell=>exact cell (.inl hk) e
  | free=>exact cell (.inr hk) e
  | globalImplicit =>
   cases hg:G x with
   | none=>rw[hg] at e;exact nn e
   | some g =>
    rw[hg] at e
    have R:=R.of e
    obtain⟨mg,mb,n1,n2,hgv⟩:=B.glob _ I.old
    rw[qi2 X.kind (X.glo x hk)]
    rcases hgv x g hg with h1 | ⟨h1,h2⟩
    ·exact Calls.loadGlobal_global (by rw[X.glob];exact n1) h1 (R.same I (.val _) s.toks)
    ·exact Calls.loadGlobal_builtin (by rw[X.glob];exact n1) h1 (by rw[X.blt];exact n2) h2 (R.same I (.val _) s.toks)
  | _=>exact nn e
end
section
variable (qc:zm)(w:qK)(qd:Heap)(G:qf->Option qh)(tabs:List (qj×qj))(d:Nat)(O:qE)
noncomputable def Hg (Q:List qh->qk->Prop)(ρ:List qj)(s:qk)(vs:List V)(σ':qi):Prop :=
 ∀qW qr h' tk,qY qd vr ρ s.heap qr h'->qt qc w qd G tabs h' qr σ'->qL qr vs qW->Q qW { s with heap:=h',toks:=tk }
noncomputable def CF (Q:Bool->qk->Prop)(ρ:List qj)(s:qk)(b:Bool)(σ':qi):Prop :=
 ∀qr h' tk,qY qd vr ρ s.heap qr h'->qt qc w qd G tabs h' qr σ'->Q b { s with heap:=h',toks:=tk }
variable {qc w qd G tabs} in
theorem CF.of (e:qa (c,τ)=qa (b,σ'))(R:CF qc w qd G tabs Q ρ s b σ'):CF qc w qd G tabs Q ρ s c τ:=by cases e;exact R
noncomputable def SE (e:qA)(k:zg)(Γ:List qf):Prop :=
 ∀{A:zh} {s:qk} {ρ:List qj} {m:qx} {σ:qi} {v:V} {σ':qi} {Q:qh->qk->Prop} {Ex:qh->qk->Prop} {env:q0},
  zf d A->zi qd tabs env k Γ m ρ s.heap->qt qc w qd G tabs s.heap ρ σ->ev O (cE G e k Γ) m σ=qa (v,σ')->zd qc w qd G tabs Q ρ s v σ'->qq (qp qc w) A (zR e env) Q Ex s
noncomputable def ST (e:qA)(k:zg)(Γ:List qf):Prop :=
 ∀{A:zh} {s:qk} {ρ:List qj} {m:qx} {σ:qi} {b:Bool} {σ':qi} {Q:Bool->qk->Prop} {Ex:qh->qk->Prop} {env:q0},
  zf d A->zi qd tabs env k Γ m ρ s.heap->qt qc w qd G tabs s.heap ρ σ->tst O (cE G e k Γ) m σ (λ_=>ev O (cE G e k Γ) m σ)=qa (b,σ')->CF qc w qd G tabs Q ρ s b σ' ->
   qq (qp qc w) A (HH e env (zR e env)) Q Ex s
noncomputable def C9 (es:List qA)(k:zg)(Γ:List qf):Prop :=
 ∀{A:zh} {s:qk} {ρ:List qj} {m:qx} {σ:qi} {vs:List V} {σ':qi} {Q:List qh->qk->Prop} {Ex:qh->qk->Prop} {env:q0} {pos:qT},
  zf d A->zi qd tabs env k Γ m ρ s.heap->qt qc w qd G tabs s.heap ρ σ->evs O (cEs G es k Γ) m σ=qa (vs,σ')->Hg qc w qd G tabs Q ρ s vs σ' ->
   qq (qp qc w) A (spliced (HI pos (DR es env))) Q Ex s
end
section
variable {qc:zm}{w:qK}{qd:Heap}{G:qf->Option qh}{tabs:List (qj×qj)}{d:Nat}{O:qE}{k:zg}{Γ:List qf}
theorem yP (B:qS qc qd G tabs)(x:qf)(pos:qT):SE qc w qd G tabs d O (.Name x pos) k Γ :=
 λ{A s ρ m σ v σ' Q Ex env} r X I e R=>qcj B X I e R
theorem qar (c:Const)(n:Nat)(pos:qT):SE qc w qd G tabs d O (.Constant c n pos) k Γ:=λ{A s ρ m σ v σ' Q Ex env} r X I e R=>by
 rw[arm_eval_Constant]
 cases c with
 | none=>exact qB ((R.of e).same I .none s.toks)
 | bool b=>exact qB ((R.of e).same I (.bool _) s.toks)
 | int i=>exact Ms ((R.of e).same I (.int _ _) _)
 | str x=>exact aB ((R.of e).same I (.str _ _) _)
 | _=>exact nn e
theorem qa3 (B:qS qc qd G tabs)(ha:SE qc w qd G tabs d O a k Γ)(hb:SE qc w qd G tabs d O b k Γ)(op:aI)(pos:qT) :
  SE qc w qd G tabs d O (.BinOp a op b pos) k Γ:=λr X I e R=>qbh (op:=op) (a:=cE G a k Γ) (b:=cE G b k Γ) e λx σ₁ e1 y σ₂ e2 e =>
   qg8 (ha r X I e1 λa' zj h1 qV S1 I1 r1=>hb r (X.step S1) I1 e2 λb' zv h2 zl S2 I2 r2 =>
    VI B r I2 (r1.mono S2.ext) r2 e λv' ρ3 h3 tk3 S3 I3 r3=>R v' ρ3 h3 tk3 (S1.trans (S2.trans S3)) I3 r3)
theorem Ic (e:ev O (cE G b k Γ) m σ=qa r) (es n p):b≠.Set es n p:=λh=>by
 subst h;exact nn e
theorem Tt (h:∀es n p,b≠.Set es n p):behindInMarks op b=qg:=by
 cases b <;> first | rfl | exact absurd rfl (h _ _ _)
theorem qcT (B:qS qc qd G tabs)(hB:2<=qd.objs.size)(vo:E3 qc w qd tabs d O)(ha:SE qc w qd G tabs d O a k Γ)(hb:SE qc w qd G tabs d O b k Γ)(op:MA)(pos:qT) :
  SE qc w qd G tabs d O (.Compare a [op] [b] pos) k Γ:=λr X I e R=>Y6 (op:=op) (a:=cE G a k Γ) (b:=cE G b k Γ) e λx σ₁ e1 y σ₂ e2 c e3 e =>
   wpAny_Compare1 (ha r X I e1 λa' zj h1 qV S1 I1 r1=>hb r (X.step S1) I1 e2 λb' zv h2 zl S2 I2 r2 =>
    Yk B hB r vo I2 (r1.mono S2.ext) r2 e3 λtk=>(R.of e) _ zv h2 tk (S1.trans S2) I2 (.bool _)) (Tt (Ic e2))
theorem nC (B:qS qc qd G tabs)(hB:2<=qd.objs.size)(vo:E3 qc w qd tabs d O)(ha:SE qc w qd G tabs d O a k Γ)(hb:SE qc w qd G tabs d O b k Γ)(op:MA)(pos:qT) :
  ST qc w qd G tabs d O (.Compare a [op] [b] pos) k Γ:=λ{A s ρ m σ bb σ' Q Ex env} r X I e R=>Zo (wh:=λ_=>ev O (.cmp op (cE G a k Γ) (cE G b k Γ)) m σ) e λu kO e0 b' hb' e=>Y6 (op:=op) (a:=cE G a k Γ) (b:=cE G b k Γ) e0 λx σ₁ e1 y σ₂ e2 c e3 e0 =>
   wpAny_isTrue_Compare1 (ha r X I e1 λa' zj h1 qV S1 I1 r1=>hb r (X.step S1) I1 e2 λb' zv h2 zl S2 I2 r2 =>
      Yk B hB r vo I2 (r1.mono S2.ext) r2 e3 λtk=>λ_ _ _=>(R.of (show qa (c,σ₂)=qa (bb,σ') by cases e0;cases hb';exact e)) zv h2 tk (S1.trans S2) I2) (Tt (Ic e2))
theorem yO (he:SE qc w qd G tabs d O e k Γ)(hi:∀env whole,HH e env whole=(do let v <-whole;wQ e.pos;B9 [v] (aP v)))
  (ht:∀m σ wh,tst O (cE G e k Γ) m σ wh=PP wh):ST qc w qd G tabs d O e k Γ:=λr X I e' R=>by
 rw[hi]
 exact Zo ((ht ..).symm.trans e') λv σ₁ e1 b e2 e=>qm (he r X I e1 λa' zj h1 qV S1 I1 r1=>qm (jM (zV (ON r1 e2 ((R.of e) zj h1 qV S1 I1)))))
theorem qd4 (ha:SE qc w qd G tabs d O a k Γ)(pos:qT):SE qc w qd G tabs d O (.UnaryOp .USub a pos) k Γ:=λr X I e R=>by
 rw[arm_eval_UnaryOp]
 refine qcp (a:=cE G a k Γ) e λi σ₁ e1 e=>qm (ha r X I e1 λa' zj h1 qV S1 I1 r1=>qm (jM (zV ?_)))
 obtain⟨t,rfl⟩:=r1.int_inv
 exact qi3 ((R.of e) _ zj h1 _ S1 I1 (.int _ _))
theorem m6 (hc:ST qc w qd G tabs d O c k Γ)(ha:SE qc w qd G tabs d O a k Γ)(hb:SE qc w qd G tabs d O b k Γ)(pos:qT) :
  SE qc w qd G tabs d O (.IfExp c a b pos) k Γ:=λr X I e R=>by
 rw[arm_eval_IfExp]
 exact qfG (c:=cE G c k Γ) (a:=cE G a k Γ) (b:=cE G b k Γ) e
  (λσ₁ e1 e=>qm (hc r X I e1 λzj h1 qV S1 I1=>ha r (X.step S1) I1 e λv' zv h2 zl S2 I2 r2=>R v' zv h2 zl (S1.trans S2) I2 r2))
  λσ₁ e1 e=>qm (hc r X I e1 λzj h1 qV S1 I1=>hb r (X.step S1) I1 e λv' zv h2 zl S2 I2 r2=>R v' zv h2 zl (S1.trans S2) I2 r2)
theorem iK (pos:qT):ST qc w qd G tabs d O (.IfExp c a b pos) k Γ:=λr X I e R=>nn e
theorem qb6 (h:cE G e k Γ=.bad):SE qc w qd G tabs d O e k Γ:=λr X I e' R=>by
 rw[h] at e';exact nn e'
theorem qdl (h:cE G e k Γ=.bad):ST qc w qd G tabs d O e k Γ:=λr X I e' R=>by
 rw[h] at e';exact nn e'
theorem qbs:C9 qc w qd G tabs d O [] k Γ:=λ{A s ρ m σ v σ' Q Ex env pos} r X I e R=>by
 cases WY e
 exact qB (R [] ρ s.heap s.toks (.refl ..) I .nil)
theorem Vf (h:ev O (cE G e k Γ) m σ=qa r)(rest:List qA)(env:q0):DR (e :: rest) env=(qg,zR e env) :: DR rest env:=by
 cases e <;> first | rfl | exact nn h
theorem Hg.of {ρ s Q}(e:qa (a,τ)=qa (vs,σ'))(R:Hg qc w qd G tabs Q ρ s vs σ'):Hg qc w qd G tabs Q ρ s a τ:=by cases e;exact R
theorem qem (ha:SE qc w qd G tabs d O a k Γ)(hs:C9 qc w qd G tabs d O es k Γ):C9 qc w qd G tabs d O (a :: es) k Γ:=λr X I e R =>
 Pi (a:=cE G a k Γ) (es:=cEs G es k Γ) e λx σ₁ e1 xs σ₂ e2 e=>by
  rw[Vf e1]
  exact Calls.spliced_cons (ha r X I e1 λa' zj h1 qV S1 I1 r1=>hs r (X.step S1) I1 e2 λqW zv h2 zl S2 I2 r2=>(R.of e) _ zv h2 zl (S1.trans S2) I2 (.cons (r1.mono S2.ext) r2))
theorem Ur {ρ}(h:small vs.length=qe)(r:qL ρ vs qW):qW.length<=vH:=by
 rw[r.length];exact qu (vZ h) (by decide)
theorem zd.step {ρ qr s v σ'}(R:zd qc w qd G tabs Q ρ s v σ')(S:qY qd vr ρ s.heap qr h):zd qc w qd G tabs Q qr { s with heap:=h,toks:=tk } v σ' :=
 λv' zv h2 zl S2 I2 r2=>R v' zv h2 zl (S.trans S2) I2 r2
theorem tL (B:qS qc qd G tabs)(hs:C9 qc w qd G tabs d O es k Γ)(pos:qT):SE qc w qd G tabs d O (.List es pos) k Γ:=λr X I e R=>by
 rw[arm_eval_List]
 exact gL (es:=cEs G es k Γ) e λxs σ₁ e1 hsm e=>qm (jM (qm (hs r X I e1 λqW zj h1 qV S1 I1 r1 =>
  HG (((R.of e).step S1).push B I1 ⟨qW.toArray,0,JP _ _,r1.mono ⟨_,rfl⟩⟩ qV) (Ur hsm r1))))
theorem qe7 (B:qS qc qd G tabs)(hs:C9 qc w qd G tabs d O es k Γ)(n:Nat)(pos:qT):SE qc w qd G tabs d O (.Tuple es n pos) k Γ:=λr X I e R=>by
 rw[arm_eval_Tuple]
 exact qet (es:=cEs G es k Γ) e λxs σ₁ e1 hsm e=>qm (jM (qm (hs r X I e1 λqW zj h1 qV S1 I1 r1 =>
  HG (((R.of e).step S1).push B I1 ⟨qW.toArray,0,Heap.get?_push_size _ rfl,r1.mono ⟨_,rfl⟩⟩ qV) (Ur hsm r1))))
theorem Yj (hns:∀l u st p,b≠.Slice l u st p)(pos:qT):cE G (.Subscript a b pos) k Γ=.idx (cE G a k Γ) (cE G b k Γ):=by
 cases b <;> first | rfl | exact absurd rfl (hns _ _ _ _)
theorem qbV (ha:SE qc w qd G tabs d O a k Γ)(hb:SE qc w qd G tabs d O b k Γ)(hns:∀l u st p,b≠.Slice l u st p)(pos:qT):SE qc w qd G tabs d O (.Subscript a b pos) k Γ:=λr X I e R =>
 sD (Yj hns pos▸e) λx σ₁ e1 y σ₂ e2 u e3 e =>
  Subscript_ (ha r X I e1 λa' zj h1 qV S1 I1 r1=>hb r (X.step S1) I1 e2 λb' zv h2 zl S2 I2 r2 =>
     qa2 I2 (r1.mono S2.ext) r2 e3 (λv' tk r3=>(R.of e) v' zv h2 tk (S1.trans S2) I2 r3) (λ_=>.inr trivial) (by
   cases b <;> first | rfl | exact absurd rfl (hns _ _ _ _)))
end
section
variable (qc:zm)(w:qK)(qd:Heap)(G:qf->Option qh)(tabs:List (qj×qj))(d:Nat)(O:qE)
noncomputable def SO (o:Option qA)(k:zg)(Γ:List qf):Prop :=
 ∀{A:zh} {s:qk} {ρ:List qj} {m:qx} {σ:qi} {v:V} {σ':qi} {Q:qh->qk->Prop} {Ex:qh->qk->Prop} {env:q0},
  zf d A->zi qd tabs env k Γ m ρ s.heap->qt qc w qd G tabs s.heap ρ σ->ev O (cO G o k Γ) m σ=qa (v,σ')->zd qc w qd G tabs Q ρ s v σ'->qq (qp qc w) A (valueOrNone (evalOpt o env)) Q Ex s
noncomputable def Jq (es:List qA)(k:zg)(Γ:List qf):Prop :=
 ∀{A:zh} {s:qk} {ρ:List qj} {m:qx} {σ:qi} {v:V} {σ':qi} {Q:qh->qk->Prop} {Ex:qh->qk->Prop} {env:q0} {pos:qT},
  zf d A->zi qd tabs env k Γ m ρ s.heap->qt qc w qd G tabs s.heap ρ σ->evAnd O (cEs G es k Γ) m σ=qa (v,σ')->zd qc w qd G tabs Q ρ s v σ'->qq (qp qc w) A (boolOp pos .And (aD es env)) Q Ex s
noncomputable def Iu (es:List qA)(k:zg)(Γ:List qf):Prop :=
 ∀{A:zh} {s:qk} {ρ:List qj} {m:qx} {σ:qi} {b:Bool} {σ':qi} {Q:Bool->qk->Prop} {Ex:qh->qk->Prop} {env:q0},
  zf d A->zi qd tabs env k Γ m ρ s.heap->qt qc w qd G tabs s.heap ρ σ->tAnd O (cEs G es k Γ) m σ=qa (b,σ')->CF qc w qd G tabs Q ρ s b σ'->qq (qp qc w) A (allTrue .And es env) Q Ex s
noncomputable def Ir (es:List qA)(k:zg)(Γ:List qf):Prop :=
 ∀{A:zh} {s:qk} {ρ:List qj} {m:qx} {σ:qi} {b:Bool} {σ':qi} {Q:Bool->qk->Prop} {Ex:qh->qk->Prop} {env:q0},
  zf d A->zi qd tabs env k Γ m ρ s.heap->qt qc w qd G tabs s.heap ρ σ->tOr O (cEs G es k Γ) m σ=qa (b,σ')->CF qc w qd G tabs Q ρ s b σ'->qq (qp qc w) A (allTrue .Or es env) Q Ex s
end
section
variable {qc:zm}{w:qK}{qd:Heap}{G:qf->Option qh}{tabs:List (qj×qj)}{d:Nat}{O:qE}{k:zg}{Γ:List qf}
theorem HY:SO qc w qd G tabs d O qb k Γ:=λ{A s ρ m σ v σ' Q Ex env} r X I e R=>qB ((R.of e).same I .none s.toks)
theorem Te (h:SE qc w qd G tabs d O e k Γ):SO qc w qd G tabs d O (qa e) k Γ:=λr X I e' R=>h r X I e' R
theorem dS (B:qS qc qd G tabs){lo hi st:Option qA}(ho:SE qc w qd G tabs d O o k Γ)(hl:SO qc w qd G tabs d O lo k Γ)(hh:SO qc w qd G tabs d O hi k Γ)(hs:SO qc w qd G tabs d O st k Γ)(sp pos:qT) :
  SE qc w qd G tabs d O (.Subscript o (.Slice lo hi st sp) pos) k Γ:=λ{A s ρ m σ v σ' Q Ex env} r X I e R=>by
 rw[aY]
 refine nR (o:=cE G o k Γ) (lo:=cO G lo k Γ) (hi:=cO G hi k Γ) (st:=cO G st k Γ) e λov σ₁ e1 l σ₂ e2 h kO e3 t σ₄ e4 e =>
  qm (ho r X I e1 λo' zj h1 qV S1 I1 r1=>qm (zV ?_))
 rw[aZ]
 refine qm (hl r (X.step S1) I1 e2 λl' zv h2 zl S2 I2 r2=>qm (zV (hh r ((X.step S1).step S2) I2 e3 λu' ρ3 h3 tk3 S3 I3 r3 =>
  qm (zV (hs r (((X.step S1).step S2).step S3) I3 e4 λs' ρ4 h4 tk4 S4 I4 r4=>?_)))))
 exact EK (ZV (s:={ s with heap:=h4,toks:=tk4 }) (A:=A) (Ex:=Ex) (value:=o) (slice:=.Slice lo hi st sp) B I4 (((r1.mono S2.ext).mono S3.ext).mono S4.ext) ((r2.mono S3.ext).mono S4.ext) (r3.mono S4.ext) r4 e
  (Q:=Q) (R.step (S1.trans (S2.trans (S3.trans S4)))) (λa=>by cases st <;> refine⟨_,rfl⟩)) (λi s₁ hq=>qm (jM hq)) λ_ _ x=>x
theorem uM (h:SE qc w qd G tabs d O e k Γ):Jq qc w qd G tabs d O [e] k Γ:=λr X I e' R=>h r X I (qbl e') R
theorem qaJ (h:SE qc w qd G tabs d O e k Γ)(hs:Jq qc w qd G tabs d O (f :: es) k Γ):Jq qc w qd G tabs d O (e :: f :: es) k Γ:=λr X I e' R =>
 yD (a:=cE G e k Γ) (b:=cE G f k Γ) (es:=cEs G es k Γ) e'
  (λx σ₁ e1 e2 e'=>qm (h r X I e1 λa' zj h1 qV S1 I1 r1=>qm (jM (qm (zV (ON r1 e2 (hs r (X.step S1) I1 e' (R.step S1))))))))
  λx σ₁ e1 e2 e'=>qm (h r X I e1 λa' zj h1 qV S1 I1 r1=>qm (jM (qm (zV (ON r1 e2 (qB ((R.of e') _ zj h1 qV S1 I1 r1)))))))
theorem CF.step {ρ qr s v σ'}(R:CF qc w qd G tabs Q ρ s v σ')(S:qY qd vr ρ s.heap qr h):CF qc w qd G tabs Q qr { s with heap:=h,toks:=tk } v σ' :=
 λzv h2 zl S2 I2=>R zv h2 zl (S.trans S2) I2
theorem l7:Iu qc w qd G tabs d O [] k Γ:=λ{A s ρ m σ b σ' Q Ex env} r X I e R=>qB ((R.of (rT e)) ρ s.heap s.toks (.refl ..) I)
theorem m5:Ir qc w qd G tabs d O [] k Γ:=λ{A s ρ m σ b σ' Q Ex env} r X I e R=>qB ((R.of (qf5 e)) ρ s.heap s.toks (.refl ..) I)
theorem qdb (h:ST qc w qd G tabs d O e k Γ)(hs:Iu qc w qd G tabs d O es k Γ):Iu qc w qd G tabs d O (e :: es) k Γ:=λr X I e' R=>by
 rw[qg9]
 exact sR (a:=cE G e k Γ) (es:=cEs G es k Γ) e' (λσ₁ e1 e'=>qm (h r X I e1 λzj h1 qV S1 I1=>hs r (X.step S1) I1 e' (R.step S1)))
  λσ₁ e1 e'=>qm (h r X I e1 λzj h1 qV S1 I1=>qB ((R.of e') zj h1 qV S1 I1))
theorem qaE (h:ST qc w qd G tabs d O e k Γ)(hs:Ir qc w qd G tabs d O es k Γ):Ir qc w qd G tabs d O (e :: es) k Γ:=λr X I e' R=>by
 rw[qg9]
 exact qcP (a:=cE G e k Γ) (es:=cEs G es k Γ) e' (λσ₁ e1 e'=>qm (h r X I e1 λzj h1 qV S1 I1=>qB ((R.of e') zj h1 qV S1 I1)))
  λσ₁ e1 e'=>qm (h r X I e1 λzj h1 qV S1 I1=>hs r (X.step S1) I1 e' (R.step S1))
theorem qe0 (h:Jq qc w qd G tabs d O es k Γ)(pos:qT):SE qc w qd G tabs d O (.BoolOp .And es pos) k Γ:=λr X I e R=>h r X I (eH (es:=cEs G es k Γ) e) R
theorem qfW (pos:qT):SE qc w qd G tabs d O (.BoolOp .Or es pos) k Γ:=λr X I e R=>nn e
theorem qeE (h:Iu qc w qd G tabs d O es k Γ)(pos:qT):ST qc w qd G tabs d O (.BoolOp .And es pos) k Γ:=λr X I e R=>h r X I (lS (es:=cEs G es k Γ) e) R
theorem qbj (h:Ir qc w qd G tabs d O es k Γ)(pos:qT):ST qc w qd G tabs d O (.BoolOp .Or es pos) k Γ:=λr X I e R=>h r X I (dM (es:=cEs G es k Γ) e) R
end
noncomputable def Av (M:A9)(A:zh)(Ex:qh->qk->Prop)(f:qh)(s:qk):Prop:=∀Q:Keeper->qk->Prop,(∀k,Q k s)->qq M A (MJ f) Q Ex s
section
variable {M:A9}{A:zh}{Ex:qh->qk->Prop}{s:qk}
theorem Iv (id:String):Av M A Ex (.builtin id) s:=λQ h=>by unfold MJ;exact qB (h _)
theorem uB (id:String):Av M A Ex (.type id) s:=λQ h=>by unfold MJ;exact qB (h _)
theorem ZX (ho:s.heap.get? a=qa o)(hd:o.data=.func fd):Av M A Ex (.ref a) s:=λQ h=>by
 unfold MJ
 refine qm (bC ho ?_)
 rw[hd]
 exact qB (h _)
theorem Vu (e:x=y)(h:qq M A y Q Ex s):qq M A x Q Ex s:=e▸h
theorem Us (h:qq M A a Q Ex s)(k:qq M A b Q Ex s):qq M A (@ite _ c i a b) Q Ex s:=by
 by_cases hc:c
 ·rw[if_pos hc];exact h
 ·rw[if_neg hc];exact k
theorem Nc
  (h1:args.any (·.1)=qg) (h2:kws.any (·.1.isNone)=qg)
  (h:qq M A (bD f qe args kws) (λa s₁=>Av M A Ex f s₁/\qq M A (call f (first++a.pos) a.kw) Q Ex s₁) Ex s) :
  qq M A (bG pos f first args kws) Q Ex s:=by
 unfold bG
 refine qm (zV (EK h (λa s₁ BC=>qm (jM ?_)) λ_ _ x=>x))
 generalize hst:(args.any (·.1)||kws.any (·.1.isNone))=b
 obtain rfl:qg=b:=by rw[<-hst,h1,h2];rfl
 obtain⟨hk,hc⟩:=BC
 have tail:∀{t:zr qh},qq M A t Q Ex s₁->qq M A (t >>= λr=>B9 [r] point >>= λ_=>pure r) Q Ex s₁ :=
  λht=>qm (EK ht (λr s₂ hr=>qm (zV (wpAny_point (qB hr)))) λ_ _ x=>x)
 refine qm (hk _ λk=>?_)
 have marked:∀mk,qq M A (qha mk f (first++a.pos) a.kw) Q Ex s₁:=λmk=>by
  unfold qha;exact Calls.wpAny_keep hc
 cases k with
 | frame=>exact Us (tail hc) (tail (marked _))
 | boundFrame=>exact Us (tail hc) (tail (marked _))
 | machine=>exact tail hc
 | caller=>exact tail (wpAny_operating hc)
end
section
variable {qc:zm}{w:qK}{qd:Heap}{G:qf->Option qh}{tabs:List (qj×qj)}{d:Nat}{O:qE}{k:zg}{Γ:List qf}
noncomputable def D2 (qc:zm)(w:qK)(qd:Heap)(G:qf->Option qh)(tabs:List (qj×qj))(d:Nat)(O:qE)(ks:List Ht)(k:zg)(Γ:List qf):Prop :=
 ∀{A:zh} {s:qk} {ρ:List qj} {m:qx} {σ:qi} {vs:List V} {σ':qi} {Q:List qh->qk->Prop} {Ex:qh->qk->Prop} {env:q0} {pos:qT},
  zf d A->zi qd tabs env k Γ m ρ s.heap->qt qc w qd G tabs s.heap ρ σ->evs O (cKs G ks k Γ) m σ=qa (vs,σ')->Hg qc w qd G tabs Q ρ s vs σ' ->
   qq (qp qc w) A (evalAll ((FT pos (FU ks env)).map (·.2))) Q Ex s
theorem nT:D2 qc w qd G tabs d O [] k Γ:=λ{A s ρ m σ v σ' Q Ex env pos} r X I e R=>by
 cases WY e
 exact qB (R [] ρ s.heap s.toks (.refl ..) I .nil)
theorem m7 (ha:SE qc w qd G tabs d O a k Γ)(hs:D2 qc w qd G tabs d O es k Γ):D2 qc w qd G tabs d O (⟨n,a,p⟩ :: es) k Γ :=
 λr X I e R=>Pi (a:=cE G a k Γ) (es:=cKs G es k Γ) e λx σ₁ e1 xs σ₂ e2 e =>
  qm (qm (ha r X I e1 λa' zj h1 qV S1 I1 r1=>qm (jM (qB
   (qm (zV (hs r (X.step S1) I1 e2 λqW zv h2 zl S2 I2 r2=>qB ((R.of e) _ zv h2 zl (S1.trans S2) I2 (.cons (r1.mono S2.ext) r2)))))))))
theorem Ig:∀{es:List qA}{m:qx}{σ:qi}{r:List V×qi},evs O (cEs G es k Γ) m σ=qa r->∀(env:q0)(pos:qT),(HI pos (DR es env)).any (·.1)=qg
 | [],_,_,_=>@λ_ _ _=>rfl
 | e :: es,_,_,_=>@λh env pos=>Pi (a:=cE G e k Γ) (es:=cEs G es k Γ) h λx σ₁ e1 xs σ₂ e2 _=>by
  rw[Vf e1];exact Ig e2 env pos
theorem Lw:∀{ks:List Ht}{kn:List qf},CD ks=qa kn->∀(env:q0)(pos:qT),
  (FT pos (FU ks env)).any (·.1.isNone)=qg/\(FT pos (FU ks env)).all (·.1.isSome)=qe/\(FT pos (FU ks env)).filterMap (·.1)=kn/\kn.length=ks.length
 | [],_=>@λh _ _=>by cases h;refine⟨rfl,rfl,rfl,rfl⟩
 | ⟨qb,_,_⟩ :: _,_=>@λh _ _=>nn h
 | ⟨qa n,_,_⟩ :: ks,_=>@λh env pos=>b1 (x:=CD ks) (f:=λl=>qa (n :: l)) h λr hr e=>by
  cases e
  obtain⟨a1,a2,a3,a4⟩:=Lw hr env pos
  refine⟨a1,a2,congrArg (n :: ·) a3,congrArg (· + 1) a4⟩
theorem LR:∀(kn:List qf){vs:List V}{qW:List qh},qL ρ vs qW->zt ρ (kn.zip vs) (kn.zip qW)
 | [],_,_,_=>.nil
 | _ :: _,_,_,.nil=>.nil
 | n :: kn,_,_,.cons a b=>.cons a (LR kn b)
theorem tC (h:T.any (·.1)=qg):@qi4 (λ_ _=>α) qe T f g=g qe T:=by
 cases T with
 | nil=>rfl
 | cons a l=>obtain⟨b,x⟩:=a;cases b with
  | true=>exact ff h.symm
  | false=>rfl
theorem Xt {env:q0}(hs:C9 qc w qd G tabs d O es k Γ)(hk:D2 qc w qd G tabs d O ks k Γ)(hn:CD ks=qa kn)
  (r:zf d A) (X:zi qd tabs env k Γ m ρ s.heap) (I:qt qc w qd G tabs s.heap ρ σ) (e1:evs O (cEs G es k Γ) m σ=qa (vs,σ₁)) (e2:evs O (cKs G ks k Γ) m σ₁=qa (ws,σ₂))
  (h:∀qW kw' qr h' tk,qY qd vr ρ s.heap qr h'->qt qc w qd G tabs h' qr σ₂->qL qr vs qW->zt qr (kn.zip ws) kw'->Q ⟨qW,kw'⟩ { s with heap:=h',toks:=tk }) :
  qq (qp qc w) A (bD f qe (HI pos (DR es env)) (FT pos (FU ks env))) Q Ex s:=by
 obtain⟨n1,n2,n3,n4⟩:=Lw hn env pos
 have hst:=Ig e1 env pos
 have key:=λ(K:List qh->qk->Prop) (hK:Hg qc w qd G tabs K ρ s vs σ₁)=>hs (Ex:=Ex) (env:=env) (pos:=pos) r X I e1 hK
 unfold bD
 generalize HI pos (DR es env)=T at key hst ⊢
 dsimp only
 refine Vu (tC hst) ?_
 ·refine qm (key _ λqW zj h1 qV S1 I1 r1=>qm (qB ?_))
  refine zV (Vu (if_pos n2) ?_)
  refine qm (hk r (X.step S1) I1 e2 λws' zv h2 zl S2 I2 r2=>?_)
  rw[n3]
  exact qm (qB (qB (h qW _ zv h2 zl (S1.trans S2) I2 (r1.mono S2.ext) (LR kn r2))))
end
section
variable {qc:zm}{w:qK}{qd:Heap}{G:qf->Option qh}{tabs:List (qj×qj)}{d:Nat}{A:zh}{Ex:qh->qk->Prop}{s:qk}
 {ρ:List qj} {σ σ':qi} {v:V} {Q:qh->qk->Prop}
theorem qcC (I:qt qc w qd G tabs s.heap ρ σ)(R:zd qc w qd G tabs Q ρ s (.int x.length) σ)(hx:(x.length:Int) < 2 ^ 63) :
  qq (qp qc w) A (call (.builtin "len") [.str x t]) Q Ex s:=qi5 (by lia) (R.same I (.int _ _) _)
theorem qdB {i:Nat}{a:qj}(e:σ[i]?=qa (.list xs))(ea:ρ[i]?=qa a)(hs:small xs.length=qe)(I:qt qc w qd G tabs s.heap ρ σ)(R:zd qc w qd G tabs Q ρ s (.int xs.length) σ) :
  qq (qp qc w) A (call (.builtin "len") [.ref a]) Q Ex s:=by
 obtain⟨items,n,l1,r1,z1⟩:=I.list e ea
 have:=vZ hs
 refine Calls.call_len_list l1.isList (by lia) ?_
 rw[z1]
 exact R.same I (.int _ _) _
theorem p7 (B:qS qc qd G tabs)(r:zf d A)(I:qt qc w qd G tabs s.heap ρ σ)(R:zd qc w qd G tabs Q ρ s (.int (if y < x then y else x)) σ) :
  qq (qp qc w) A (call (.builtin "min") [.int x t,.int y u]) Q Ex s:=by
 refine min_two_ints r.handled λh' tk k=>?_
 have:qz ρ (.int (if y < x then y else x)) (if y < x then .int y u else .int x t):=by
  by_cases h:y < x
  ·rw[if_pos h,if_pos h];exact .int _ _
  ·rw[if_neg h,if_neg h];exact .int _ _
 exact R _ ρ h' tk (.keeps k) (I.keeps B.tlt k) this
theorem qfI (I:qt qc w qd G tabs s.heap ρ σ)(R:zd qc w qd G tabs Q ρ s (.str ⟨#[i.toNat]⟩) σ)(h0:0<=i)(h1:i < 1114112) :
  qq (qp qc w) A (call (.builtin "chr") [.int i t]) Q Ex s:=P.chr_of_int (by simp;lia) (R.same I (.str _ _) _)
theorem dD (I:qt qc w qd G tabs s.heap ρ σ)(e:Sm x=qa n)(R:zd qc w qd G tabs Q ρ s (.int n) σ) :
  qq (qp qc w) A (call (.builtin "ord") [.str x t]) Q Ex s:=by
 obtain⟨⟨l⟩⟩:=x
 match l,e with
 | [c],e=>rw[<-zc e] at R;exact P.ord_of_char (R.same I (.int _ _) _)
 | [],e=>exact nn e
 | _ :: _ :: _,e=>exact nn e
theorem mX (B:qS qc qd G tabs)(I:qt qc w qd G tabs s.heap ρ σ)(R:zd qc w qd G tabs Q ρ s (.ref σ.length) (σ++[.range 0 b])) :
  qq (qp qc w) A (call (.type "range") [.int b t]) Q Ex s:=call_range_1 (R.push B I ⟨_,_,_,qhb ..⟩ _)
theorem oG (B:qS qc qd G tabs)(I:qt qc w qd G tabs s.heap ρ σ)(R:zd qc w qd G tabs Q ρ s (.ref σ.length) (σ++[.range a b])) :
  qq (qp qc w) A (call (.type "range") [.int a t,.int b u]) Q Ex s:=call_range_2 (R.push B I ⟨_,_,_,qhb ..⟩ _)
theorem YQ:∀(n:Nat){ql:List qh}{i₀:Nat},ql.length=n->(∀(i:Nat)(v:qh),ql[i]?=qa v->∃t,v=.int (a+((i₀+i:Nat):Int)) t) ->
  qL ρ ((Ca i₀ n).map λ(k:Nat)=>V.int (a+(k:Int))) ql
 | 0,[],i₀=>@λ_ _=>by simpa using qL.nil
 | n+1,v :: ql,i₀=>@λhl h=>by
  rw[Q7,z7]
  obtain⟨t,rfl⟩:=h 0 v rfl
  rw[show i₀+0=i₀ from rfl]
  refine .cons (.int _ _) (YQ n (by simpa using hl) λi v hv=>?_)
  obtain⟨t,rfl⟩:=h (i+1) v (by simpa using hv)
  refine⟨t,by rw[show i₀+1+i=i₀+(i+1) by lia]⟩
 | 0,_ :: _,_=>@λhl _=>by simp at hl
 | _+1,[],_=>@λhl _=>by simp at hl
theorem qan {a b:Int}{i:Nat}(B:qS qc qd G tabs)(rm:zf d A)(I:qt qc w qd G tabs s.heap ρ σ)(e:σ[i]?=qa (.range a b))(ea:ρ[i]?=qa r)
  (hv:jX σ (.range a b)=qa vs) (R:zd qc w qd G tabs Q ρ s (.ref σ.length) (σ++[.list vs])):qq (qp qc w) A (call (.type "list") [.ref r]) Q Ex s:=by
 obtain⟨t,u,v,hr⟩:=I.at e ea
 refine bi (t:=qa (Ar a b)) hv λhc hv=>?_
 ·cases hv
  simp only[jT,decide_eq_true_eq] at hc
  have zu:bH a b 1=((b - a).toNat:Int):=by rw[qhc];split <;> lia
  have hsmall:qhd a b 1=qe:=small_one (by lia) (by lia) (by lia) (by lia)
  refine call_list_range (n:=(b - a).toNat) rm.handled hr hsmall zu (by lia) λh' tk jK c' hk hg hi=>?_
  obtain⟨hn,hv⟩:=hi
  refine R.new B I hk (B0 _) (B.size _ I.old) ⟨jK,c',hg,?_⟩ tk
  unfold Ar
  rw[Q8]
  refine YQ _ (by simpa using hn) λi v hv'=>?_
  obtain⟨t,ht⟩:=hv i v (by simpa using hv')
  refine⟨t,by rw[ht];simp⟩
theorem zt.vals {es:List (κ×V)}{kvs:List (κ×qh)}(r:zt ρ es kvs):qL ρ (es.map (·.2)) (kvs.map (·.2))/\kvs.length=es.length/\kvs.map (·.1)=es.map (·.1):=by
 induction r with
 | nil=>refine⟨.nil,rfl,rfl⟩
 | cons a _ ih=>obtain⟨i1,i2,i3⟩:=ih;refine⟨.cons a i1,congrArg (· + 1) i2,congrArg (_ :: ·) i3⟩
theorem pE {h:Heap}(led:Bool):(h.push { cls:=.type "set", dict:=qb,data:=.set #[] 0 (.fresh 0 0 led) }).SetOf (strKind qc w) h.objs.size (λk=>([]:List qf).any λe=>e == k) 0 :=
 ⟨_,#[],0,_,Heap.get?_push_size _ rfl,⟨rfl,rfl,rfl⟩,rfl,λe he=>(by simp at he),λk=>(by simp),by decide,by rfl,rfl⟩
theorem lY {i dI:Nat}(B:qS qc qd G tabs)(rm:zf d A)(I:qt qc w qd G tabs s.heap ρ σ)(e:σ[i]?=qa (.view 1 dI))(ea:ρ[i]?=qa r)(he:σ[dI]?=qa (.sdict es))
  (hs:small es.length=qe) (R:zd qc w qd G tabs Q ρ s (.ref σ.length) (σ++[.list (es.map (·.2))])):qq (qp qc w) A (call (.type "list") [.ref r]) Q Ex s:=by
 obtain⟨da,o,hd,ho,hdat,hdi,A7⟩:=I.at e ea
 obtain⟨kvs,hD,hr⟩:=I.at he hd
 obtain⟨ep,hat⟩:=hD.dictAt
 have hl:kvs.length=es.length:=hr.vals.2.1
 have:=vZ hs
 refine kdl_call (kdl_values (knd:=strKind qc w) (kvs:=kvs) (ep:=ep)) rm.handled ⟨⟨o,ho,A7,hdat⟩,hat⟩ (by rw[hl,Cf];lia) λh' tk jK c' hk hD' hi=>?_
 refine R.new B I hk (B0 _) (B.size _ I.old) ⟨jK,c',hD',?_⟩ tk
 rw[kdl_vals_eq jK.toList (by rw[MK];exact hi.1) λj u hu=>hi.2 j u (by rw[<-aN];exact hu)]
 exact hr.vals.1.mono ⟨_,rfl⟩
theorem p8 (B:qS qc qd G tabs)(I:qt qc w qd G tabs s.heap ρ σ)(R:zd qc w qd G tabs Q ρ s (.ref σ.length) (σ++[.sset []])):qq (qp qc w) A (call (.type "set") []) Q Ex s :=
 call_set_0 λled=>R.push B I (pE led) s.toks
theorem uZ (I:qt qc w qd G tabs s.heap ρ σ)(R:zd qc w qd G tabs Q ρ s (.str (cond b GP Gu)) σ):qq (qp qc w) A (call (.type "str") [.bool b]) Q Ex s:=by
 refine P.str_of_bool ?_
 have:(if b then ("True" : qf) else "False")=cond b GP Gu:=by cases b <;> decide
 rw[this]
 exact R.same I (.str _ _) _
theorem uX (I:qt qc w qd G tabs s.heap ρ σ)(rx:qz ρ x x')(R:zd qc w qd G tabs Q ρ s (.bool b) σ)
  (e:TR x=qa b) :
  qq (qp qc w) A (call (.builtin "isinstance") [x',.type "bool"]) Q Ex s:=by
 cases x with
 | bool c=>obtain rfl:=rx.bool_inv;cases e;exact qi6 (R.same I (.bool _) s.toks)
 | int c=>obtain⟨t,rfl⟩:=rx.int_inv;cases e;exact qi7 (R.same I (.bool _) _)
 | str c=>obtain⟨t,rfl⟩:=rx.str_inv;cases e;exact qi8 (R.same I (.bool _) _)
 | none=>obtain rfl:=rx.none_inv;cases e;exact qi9 (R.same I (.bool _) _)
 | ref n=>cases e
 | val c=>cases e
theorem iY (I:qt qc w qd G tabs s.heap ρ σ)(rx:qz ρ x x')(e:Tn σ x=qa t)(R:zd qc w qd G tabs Q ρ s t σ) :
  qq (qp qc w) A (call (.type "type") [x']) Q Ex s:=by
 cases x with
 | str c=>obtain⟨t,rfl⟩:=rx.str_inv;cases e;exact qhe (JR _ _ _) (by decide) (R.same I (.val _) s.toks)
 | ref i =>
  obtain⟨a,ha,rfl⟩:=rx.ref_inv
  refine AO e λxs h1 e=>?_
  cases e
  obtain⟨items,n,l1,r1,z1⟩:=I.list h1 ha
  exact qhe l1.isList.typeIs (by decide) (R.same I (.val _) s.toks)
 | _=>exact nn e
theorem zd.upd (B:qS qc qd G tabs)(R:zd qc w qd G tabs Q ρ s v (σ.set i ao))(I:qt qc w qd G tabs s.heap ρ σ)(ea:ρ[i]?=qa a)
  (hs:Heap.SameBut a s.heap h') (x:vD qc w G h' ρ a ao) (r:qz ρ v v') (tk:Nat):Q v' { s with heap:=h',toks:=tk } :=
 R v' ρ h' tk (.upd hs (wT ea) ((by obtain⟨o,ho,_⟩:=x.get;refine⟨o,ho⟩))) (I.upd B.tlt ea hs x) r
theorem qb3 (B:qS qc qd G tabs)(I:qt qc w qd G tabs s.heap ρ σ)(e:σ[i]?=qa (.list xs))(ea:ρ[i]?=qa a)(hs:small xs.length=qe)
  (rx:qz ρ x x') (R:zd qc w qd G tabs Q ρ s .none (σ.set i (.list (xs++[x])))):qq (qp qc w) A (call (.builtin "list.append") [.ref a,x']) Q Ex s:=by
 obtain⟨items,n,l1,r1,z1⟩:=I.list e ea
 have:=vZ hs
 refine qhf ⟨n,l1⟩ (λh' hp hs'=>?_) (by unfold vH;lia)
 obtain⟨n',hp⟩:=hp
 exact R.upd B I ea hs' ⟨_,n',hp,by simpa using r1.snoc rx⟩ .none s.toks
theorem qcG (B:qS qc qd G tabs)(I:qt qc w qd G tabs s.heap ρ σ)(e:σ[i]?=qa (.sset es))(ea:ρ[i]?=qa a)(hs:es.length<=4000)
  (R:zd qc w qd G tabs Q ρ s .none (σ.set i (.sset (Dv es x)))):qq (qp qc w) A (call (.builtin "set.add") [.ref a,.str x t]) Q Ex s:=by
 have hS:s.heap.SetOf (strKind qc w) a (λk=>es.any λe=>e == k) es.length:=I.at e ea
 refine call_set_add (knd:=strKind qc w) (key:=.str x t) (k:=x) (DQ qc w x t) rfl hS (by show es.length+1 < 4096;lia) λh' hb hS'=>?_
 refine R.upd B I ea hb ?_ .none (s.toks+1)
 show h'.SetOf (strKind qc w) a (λk=>(Dv es x).any λe=>e == k) (Dv es x).length
 have q:(es.any λe=>ze e x)=es.any λe=>e == x:=by congr 1;funext e;exact wZ e x
 cases h:es.any λe=>e == x with
 | true =>
  have ha:Dv es x=es:=if_pos (q.trans h)
  rw[ha]
  have h2:(λk'=>(es.any λe=>e == k')||decide (k'=x))=λk=>es.any λe=>e == k:=by
   funext k
   by_cases hk:k=x
   ·subst hk;rw[h];rfl
   ·rw[decide_eq_false hk,qhg]
  rw[h2,h] at hS'
  exact hS'
 | false =>
  have ha:Dv es x=es++[x]:=if_neg (by rw[q,h];decide)
  rw[ha]
  have h2:(λk'=>(es.any λe=>e == k')||decide (k'=x))=λk=>(es++[x]).any λe=>e == k:=by
   funext k
   rw[List.any_append]
   congr 1
   by_cases hk:k=x
   ·subst hk;simp
   ·rw[decide_eq_false hk];simp[DO hk]
  rw[h2,h] at hS'
  rw[zw]
  exact hS'
theorem yK (I:qt qc w qd G tabs s.heap ρ σ)(h:jN (Cg x).length=qg)(R:zd qc w qd G tabs Q ρ s (.str (Cg x)) σ) :
  qq (qp qc w) A (call (.builtin "str.upper") [.str x t]) Q Ex s :=
 HC F.slot_str_upper (JR _ _ _) F.entry_str_upper (F.args_str_upper_1 _) (gives_str_upper x t h).meets ⟨fit_le h,R.same I (.str _ _) _⟩
theorem qaQ (I:qt qc w qd G tabs s.heap ρ σ)(h:jN (zp x).length=qg)(R:zd qc w qd G tabs Q ρ s (.str (zp x)) σ) :
  qq (qp qc w) A (call (.builtin "str.lower") [.str x t]) Q Ex s :=
 HC F.slot_str_lower (JR _ _ _) F.entry_str_lower (F.args_str_lower_1 _) (gives_str_lower x t h).meets ⟨fit_le h,R.same I (.str _ _) _⟩
theorem qat {xs:List V}{i:Nat}{a:qj}(r:zf d A)(I:qt qc w qd G tabs s.heap ρ σ)(e:σ[i]?=qa (.list xs))(ea:ρ[i]?=qa a)
  (rx:qz ρ x x') (hf:BY σ x xs=qa fl) (R:zd qc w qd G tabs Q ρ s (.int (fl.countP λb=>b)) σ):qq (qp qc w) A (call (.builtin "list.count") [.ref a,x']) Q Ex s:=by
 obtain⟨items,n,l1,r1,z1⟩:=I.list e ea
 obtain⟨q1,q2⟩:=NF I rx r1 hf
 have hu:=r.units
 have hc:fl.countP (λb=>b)=items.toList.countP (wu items.toList fl):=by
  conv=>lhs;rw[<-q2]
  rw[bI];rfl
 rw[hc] at R
 refine HC F.slot_list_count ⟨_,l1,rfl⟩ F.entry_list_count (F.args_list_count_2 _ _) (list_countAt a items n qb #[] x' (wu items.toList fl)) ⟨l1,λy hy=>q1 _ (by simp[EH];lia) y hy,R.same I (.int _ _) _⟩
theorem qc0 {xs:List V}{i:Nat}{a:qj}(r:zf d A)(I:qt qc w qd G tabs s.heap ρ σ)(e:σ[i]?=qa (.list xs))(ea:ρ[i]?=qa a)
  (hs:small xs.length=qe) (rx:qz ρ x x') (hf:BY σ x xs=qa fl) (hj:fl.findIdx? (λb=>b)=qa j) (R:zd qc w qd G tabs Q ρ s (.int j) σ) :
  qq (qp qc w) A (call (.builtin "list.index") [.ref a,x']) Q Ex s:=by
 obtain⟨items,n,l1,r1,z1⟩:=I.list e ea
 obtain⟨q1,q2⟩:=NF I rx r1 hf
 have hu:=r.units
 have:=vZ hs
 obtain⟨qQ,hj1,hj2⟩:=List.findIdx?_eq_some_iff_getElem.mp hj
 have hfl:fl.length=items.size:=by rw[QV hf,z1]
 have at_:∀k (hk:k < items.size),wu items.toList fl items[k]=fl[k]'(by lia):=λk hk=>by
  have h1:(items.toList.map (wu items.toList fl))[k]?=qa (wu items.toList fl items[k]):=by simp[hk]
  rw[q2] at h1
  have h2:fl[k]?=qa (fl[k]'(by lia)):=by simp
  exact(zc (h1.symm.trans h2))
 have w1:wu items.toList fl (items[j]'(by lia))=qe:=by rw[at_ j (by lia)];exact hj1
 have w2:∀k (hk:k < items.size),k < j->wu items.toList fl items[k]=qg:=λk hk hkj=>by
  rw[at_ k hk]
  have:=hj2 k hkj
  simpa using this
 exact HC F.slot_list_index ⟨_,l1,rfl⟩ F.entry_list_index (F.args_list_index_2 _ _) (list_indexAt a items n qb #[] x' (wu items.toList fl) j (by lia) (by lia) w1 w2)
  ⟨l1,λy hy=>q1 _ (by simp[EH];lia) y hy,R.same I (.int _ _) _⟩
theorem yL (B:qS qc qd G tabs)(I:qt qc w qd G tabs s.heap ρ σ)(e:σ[i]?=qa (.list xs))(ea:ρ[i]?=qa a)(hs:small xs.length=qe)
  (hk:A0 k=qe) (h0:0<=k) (rx:qz ρ x x') (R:zd qc w qd G tabs Q ρ s .none (σ.set i (.list (Ij xs k.toNat x)))) :
  qq (qp qc w) A (call (.builtin "list.insert") [.ref a,.int k u,x']) Q Ex s:=by
 obtain⟨items,n,l1,r1,z1⟩:=I.list e ea
 have:=vZ hs
 obtain⟨k1,k2⟩:=LU hk
 refine HC F.slot_list_insert ⟨_,l1,rfl⟩ F.entry_list_insert (F.args_list_insert_3 _ _ _) (qja a items n k u x' (by simp[aM];lia) (by unfold vH;lia)) ⟨l1,?_⟩
 refine R.upd B I ea (Heap.SameBut.update ..) ⟨_,_,l1.update _,?_⟩ .none s.toks
 simp only[if_neg (Ci.mpr h0)]
 have ht:xs.take k.toNat=xs.take (min k.toNat items.size):=by
  rw[z1]
  rcases Rt k.toNat xs.length with h | h
  ·rw[AJ h]
  ·rw[Bd h,FO h,MG]
 have hd:xs.drop k.toNat=xs.drop (min k.toNat items.size):=by
  rw[z1]
  rcases Rt k.toNat xs.length with h | h
  ·rw[AJ h]
  ·rw[Bd h,JW h,List.drop_length]
 unfold Ij
 rw[ht,hd]
 have key:((items.extract 0 (min k.toNat items.size)).push x'++items.extract (min k.toNat items.size)).toList=items.toList.take (min k.toNat items.size)++x' :: items.toList.drop (min k.toNat items.size):=by
  simp[Array.toList_extract,List.extract]
  exact FO (by simp)
 rw[key]
 exact(r1.take _).append (.cons rx (r1.drop _))
theorem xQ {es:List (qf×V)}{i:Nat}{a:qj}(hB:2<=qd.objs.size)(I:qt qc w qd G tabs s.heap ρ σ)(e:σ[i]?=qa (.sdict es))(ea:ρ[i]?=qa a)
  (ry:qz ρ y y') (R:zd qc w qd G tabs Q ρ s ((jP es x).getD y) σ):qq (qp qc w) A (call (.builtin "dict.get") [.ref a,.str x t,y']) Q Ex s:=by
 obtain⟨kvs,hd,hr⟩:=I.at e ea
 have hsys:(a == Cb)=qg:=beq_eq_false_iff_ne.mpr (FP (jH (jH (by decide) hB) (I.above' ea)))
 refine ML F.slot_dict_get hd.mapOf.typeIs F.entry_dict_get (F.args_dict_get_3 _ _ _) (qhh (strKind qc w) a (DQ qc w x t) hsys y') ⟨_,hd.mapOf,?_⟩
 have hg:=Um hr x
 cases hv:jP es x with
 | some v =>
  obtain⟨v',e1,e2⟩:=hg.1 v hv
  rw[e1];rw[hv] at R
  exact R.same I e2 _
 | none=>rw[hg.2 hv];rw[hv] at R;exact R.same I ry _
theorem qen {es:List (Int×V)}{i:Nat}{a:qj}(hB:2<=qd.objs.size)(I:qt qc w qd G tabs s.heap ρ σ)(e:σ[i]?=qa (.idict es))(ea:ρ[i]?=qa a)
  (ry:qz ρ y y') (R:zd qc w qd G tabs Q ρ s ((D7 es x).getD y) σ):qq (qp qc w) A (call (.builtin "dict.get") [.ref a,.int x t,y']) Q Ex s:=by
 obtain⟨kvs,hd,hr⟩:=I.at e ea
 have hsys:(a == Cb)=qg:=beq_eq_false_iff_ne.mpr (FP (jH (jH (by decide) hB) (I.above' ea)))
 refine ML F.slot_dict_get hd.mapOf.typeIs F.entry_dict_get (F.args_dict_get_3 _ _ _) (qhh (jL qc w) a (Ez qc w x t) hsys y') ⟨_,hd.mapOf,?_⟩
 have hg:=y4 hr x
 cases hv:D7 es x with
 | some v =>
  obtain⟨v',e1,e2⟩:=hg.1 v hv
  rw[e1];rw[hv] at R
  exact R.same I e2 _
 | none=>rw[hg.2 hv];rw[hv] at R;exact R.same I ry _
end
structure IU (T:String)(x:qf×String×MF):Prop where
 slot:Slot T x.1 x.2.1
 ty:typeOf (.builtin x.2.1)=pure (.type "method_descriptor")
theorem GG:∀{l:MT},vE name l=qa mk->∃x∈l,mk=.bi x.2.1 x.2.2/\name=x.1
 | []=>@λh=>nn h
 | x :: r=>@λh=>by
  have h:cond (ze name x.1) (qa (.bi x.2.1 x.2.2)) (vE name r)=qa mk:=h
  cases hn:ze name x.1 with
  | true=>rw[hn] at h;cases h;refine⟨x,zB,rfl,vG hn⟩
  | false=>rw[hn] at h;obtain⟨y,h1,h2⟩:=GG h;refine⟨y,zI _ h1,h2⟩
theorem qgg:∀x∈Dz,IU "list" x:=inC ⟨F.slot_list_append,F.type_list_append⟩ <| inC ⟨F.slot_list_insert,F.type_list_insert⟩ <| inC ⟨F.slot_list_index,F.type_list_index⟩ <| inC ⟨F.slot_list_count,F.type_list_count⟩ A2
theorem qbz:∀x∈Ld,IU "str" x:=inC ⟨F.slot_str_upper,F.type_str_upper⟩ <| inC ⟨F.slot_str_lower,F.type_str_lower⟩ <| inC ⟨F.slot_str_join,F.type_str_join⟩ A2
theorem qga:∀x∈Fo,IU "dict" x:=inC ⟨F.slot_dict_get,F.type_dict_get⟩ <| inC ⟨F.slot_dict_keys,F.type_dict_keys⟩ <| inC ⟨F.slot_dict_values,F.type_dict_values⟩ A2
theorem qbf:∀x∈Lu,IU "set" x:=inC ⟨F.slot_set_add,F.type_set_add⟩ A2
theorem nQ:∀x∈[(vn, "dict.get", E0)],IU "dict" x:=inC ⟨F.slot_dict_get,F.type_dict_get⟩ A2
structure wz (qc:zm)(w:qK)(qd:Heap)(G:qf->Option qh)(tabs:List (qj×qj))(d:Nat)(O:qE):Prop where
 vin:E3 qc w qd tabs d O
 fn:∀{a:qj} {args:List V} {kw:List (qf×V)} {σ:qi} {v:V} {σ':qi},O.fn a args kw σ=qa (v,σ') ->
  ∀{A:zh} {s:qk} {ρ:List qj} {args':List qh} {kw':List (qf×qh)} {Q:qh->qk->Prop} {Ex:qh->qk->Prop},
   zf d A->qt qc w qd G tabs s.heap ρ σ->qL ρ args args'->zt ρ kw kw'->zd qc w qd G tabs Q ρ s v σ' ->
   Av (qp qc w) A Ex (.ref a) s/\qq (qp qc w) A (call (.ref a) args' kw') Q Ex s
 lam:∀{b:E} {x:V} {σ:qi} {v:V} {σ':qi},O.lam b x σ=qa (v,σ') ->
  ∀{A:zh} {s:qk} {ρ:List qj} {a:qj} {x':qh} {Q:qh->qk->Prop} {Ex:qh->qk->Prop},
   FK d A->qt qc w qd G tabs s.heap ρ σ->vD qc w G s.heap ρ a (.lam b)->qz ρ x x'->zd qc w qd G tabs Q ρ s v σ'->qq (qp qc w) A (call (.ref a) [x'] []) Q Ex s
 vmeth:∀{a:qj} {name:qf},(∃args σ r,O.vmeth a name args σ=qa r)->∃(f:qh) (first:List qh),
  (∀{A:zh} {s:qk} {Q:qh×List qh->qk->Prop} {Ex:qh->qk->Prop} {pl:zr Bool},w6 qd tabs s.heap->Q (f,first) s->qq (qp qc w) A (JX (.ref a) name pl) Q Ex s) /\
  ∀{args:List V} {σ:qi} {v:V} {σ':qi},O.vmeth a name args σ=qa (v,σ') ->
   ∀{A:zh} {s:qk} {ρ:List qj} {args':List qh} {Q:qh->qk->Prop} {Ex:qh->qk->Prop},
    zf d A->qt qc w qd G tabs s.heap ρ σ->qL ρ args args'->zd qc w qd G tabs Q ρ s v σ' ->
    Av (qp qc w) A Ex f s/\qq (qp qc w) A (call f (first++args') []) Q Ex s
 cls:∀{c:qj} {name:qf} {f:qj},O.cls c name=qa f ->
  ∀{A:zh} {s:qk} {ρ:List qj} {σ:qi} {i dI:Nat} {a:qj} {es:List (qf×V)} {Q:qh×List qh->qk->Prop} {Ex:qh->qk->Prop} {pl:zr Bool},
   qt qc w qd G tabs s.heap ρ σ->σ[i]?=qa (.inst c dI)->σ[dI]?=qa (.ns es)->jP es name=qb->ρ[i]?=qa a->Q (.ref f,[.ref a]) s ->
   qq (qp qc w) A (JX (.ref a) name pl) Q Ex s
 iattr:∀{c:qj} {name:qf},O.iattr c name=qe->c < qd.objs.size/\JY (.type "object") name=pure qb /\
  ∀h,w6 qd tabs h->∃N mN,HJ h c N mN/\mN name=qb/\mN "__getattribute__" = qb/\mN "__setattr__" = qb
section
variable {qc:zm}{w:qK}{qd:Heap}{G:qf->Option qh}{tabs:List (qj×qj)}{d:Nat}{O:qE}{A:zh}{Ex:qh->qk->Prop}{s:qk}
 {ρ:List qj} {σ σ':qi} {v:V} {Q:qh->qk->Prop}
theorem qL.nil_inv (r:qL ρ [] qW):qW=[]:=by cases r;rfl
theorem qL.one_inv (r:qL ρ [x] qW):∃x',qW=[x']/\qz ρ x x':=by
 cases r with | cons a b=>cases b;refine⟨_,rfl,a⟩
theorem qL.two_inv (r:qL ρ [x,y] qW):∃x' y',qW=[x',y']/\qz ρ x x'/\qz ρ y y':=by
 cases r with | cons a b=>obtain⟨y',rfl,c⟩:=b.one_inv;refine⟨_,_,rfl,a,c⟩
theorem zt.nil_inv (r:zt ρ [] kw'):kw'=[]:=by cases r;rfl
structure D0 (qc:zm)(w:qK)(qd:Heap)(G:qf->Option qh)(tabs:List (qj×qj))(d:Nat):Prop where
 plain:∀{A:zh} {s:qk} {ρ:List qj} {σ:qi} {i:Nat} {a:qj} {o:AObj} {ws:List V} {Q:qh->qk->Prop} {Ex:qh->qk->Prop},
  zf d A->qt qc w qd G tabs s.heap ρ σ->ρ[i]?=qa a->σ[i]?=qa o->KE σ o=qa ws->zd qc w qd G tabs Q ρ s (.ref σ.length) (σ++[.list ws]) ->
  qq (qp qc w) A (call (.builtin "sorted") [.ref a] []) Q Ex s
 keyed:∀{O:qE},wz qc w qd G tabs d O->∀{A:zh} {s:qk} {ρ:List qj} {σ σ':qi} {i j:Nat} {a f:qj} {b:E} {vs ws:List V} {ks:List qf} {p:Array Nat} {Q:qh->qk->Prop} {Ex:qh->qk->Prop},
  zf d A->qt qc w qd G tabs s.heap ρ σ->ρ[i]?=qa a->σ[i]?=qa (.list vs)->vs.length<=63->ρ[j]?=qa f->σ[j]?=qa (.lam b)->Bz O j vs σ=qa (ks,σ')->CO ks=qa p->p.size=vs.length->Ef vs p.toList=qa ws ->
  zd qc w qd G tabs Q ρ s (.ref σ'.length) (σ'++[.list ws])->qq (qp qc w) A (call (.builtin "sorted") [.ref a] [(ky,.ref f)]) Q Ex s
noncomputable def ER (qc:zm)(w:qK)(qd:Heap)(G:qf->Option qh)(tabs:List (qj×qj))(d:Nat)(x:String×BF):Prop :=
 ∀{A:zh} {s:qk} {ρ:List qj} {σ σ':qi} {v:V} {args:List V} {args':List qh} {Q:qh->qk->Prop} {Ex:qh->qk->Prop},
  zf d A->qt qc w qd G tabs s.heap ρ σ->qL ρ args args'->x.2 σ args=qa (v,σ')->zd qc w qd G tabs Q ρ s v σ'->qq (qp qc w) A (call (.builtin x.1) args' []) Q Ex s
section
variable {γ:Type}{r:γ}
theorem HW (ra:qL ρ args args')(e:a0 args x=qa r):args'=[]/\x=qa r:=by
 obtain⟨rfl,e⟩:=Vj e;refine⟨ra.nil_inv,e⟩
theorem Bm (ra:qL ρ args args')(e:a1 args f=qa r):∃v v',args'=[v']/\qz ρ v v'/\f v=qa r:=by
 obtain⟨v,rfl,e⟩:=pN e;obtain⟨v',h,rv⟩:=ra.one_inv;refine⟨v,v',h,rv,e⟩
theorem LN (ra:qL ρ args args')(e:a2 args f=qa r):∃v u v' u',args'=[v',u']/\qz ρ v v'/\qz ρ u u'/\f v u=qa r:=by
 obtain⟨v,u,rfl,e⟩:=qa6 e;obtain⟨v',u',h,rv,ru⟩:=ra.two_inv;refine⟨v,u,v',u',h,rv,ru,e⟩
theorem Nm (ra:qL ρ args args')(e:(a1 args λv=>vR v f)=qa r):∃i a,args'=[.ref a]/\ρ[i]?=qa a/\f i=qa r:=by
 obtain⟨v,v',rfl,rv,e⟩:=Bm ra e;obtain⟨i,a,rfl,h⟩:=vM rv e;refine⟨i,a,rfl,h⟩
end
theorem o9:ER qc w qd G tabs d ("len", Kl):=λr I ra e R=>by
 obtain⟨v,v',rfl,rv,e⟩:=Bm ra e
 cases v with
 | str x=>obtain⟨t,rfl⟩:=rv.str_inv;exact bi e λhs e=>qcC I (R.of e) (by have:=vZ hs;lia)
 | ref i=>obtain⟨a,ha,rfl⟩:=rv.ref_inv;exact AO e λxs h1 e=>bi e λhs e=>qdB h1 ha hs I (R.of e)
 | _=>exact nn e
theorem qed:ER qc w qd G tabs d ("chr", Pa):=λr I ra e R=>by
 obtain⟨v,v',rfl,rv,e⟩:=Bm ra e
 obtain⟨i,t,rfl,e⟩:=vC rv e
 exact bi e λhc e=>have hc:=z0.mp hc;qfI I (R.of e) (of_decide_eq_true hc.1) (of_decide_eq_true hc.2)
theorem qfz:ER qc w qd G tabs d ("ord", PD):=λr I ra e R=>by
 obtain⟨v,v',rfl,rv,e⟩:=Bm ra e
 obtain⟨x,t,rfl,e⟩:=Aa rv e
 exact b1 e λn hn e=>dD I hn (R.of e)
theorem qcJ (h:V8 v=qe):v=.val (.type "bool"):=by
 cases v with
 | val u=>cases u with | type x=>rw[eq_of_beq h] | _=>exact ff h
 | _=>exact ff h
theorem eG:ER qc w qd G tabs d ("isinstance", Oz):=λr I ra e R=>by
 obtain⟨v,u,v',u',rfl,rv,ru,e⟩:=LN ra e
 refine bi e λhc e=>b1 e λn hn e=>?_
 rw[qcJ hc] at ru
 obtain rfl:=ru.val_inv
 exact uX I rv (R.of e) hn
theorem y5 (B:qS qc qd G tabs):ER qc w qd G tabs d ("min", Qz):=λr I ra e R=>by
 obtain⟨v,u,v',u',rfl,rv,ru,e⟩:=LN ra e
 obtain⟨x,t,rfl,e⟩:=vC rv e
 obtain⟨y,t',rfl,e⟩:=vC ru e
 exact p7 B r I (R.of e)
theorem qde (so:D0 qc w qd G tabs d):ER qc w qd G tabs d ("sorted", Ln):=λr I ra e R=>by
 obtain⟨i,a,rfl,ha,e⟩:=Nm ra e
 exact b1 e λo h1 e=>b1 e λws h2 e=>so.plain r I ha ((za ..).symm.trans h1) h2 (R.of e)
theorem iZ (B:qS qc qd G tabs)(so:D0 qc w qd G tabs d):∀x∈Ya,ER qc w qd G tabs d x :=
 inC o9 <| inC qed <| inC qfz <| inC eG <| inC (y5 B) <| inC (qde so) A2
theorem Tj (B:qS qc qd G tabs)(so:D0 qc w qd G tabs d)(r:zf d A)(I:qt qc w qd G tabs s.heap ρ σ){id:String}(ra:qL ρ args args')
  (e:Im σ id args=qa (v,σ')) (R:zd qc w qd G tabs Q ρ s v σ'):qq (qp qc w) A (call (.builtin id) args' []) Q Ex s:=by
 exact b1 e λf h e=>iZ B so _ (Ni h) r I ra e R
noncomputable def Hd (qc:zm)(w:qK)(qd:Heap)(G:qf->Option qh)(tabs:List (qj×qj))(d:Nat)(x:String×BF):Prop :=
 ∀{A:zh} {s:qk} {ρ:List qj} {σ σ':qi} {v:V} {args:List V} {args':List qh} {Q:qh->qk->Prop} {Ex:qh->qk->Prop},
  zf d A->qt qc w qd G tabs s.heap ρ σ->qL ρ args args'->x.2 σ args=qa (v,σ')->zd qc w qd G tabs Q ρ s v σ'->qq (qp qc w) A (call (.type x.1) args' []) Q Ex s
theorem lZ (B:qS qc qd G tabs):Hd qc w qd G tabs d ("range", NE):=λ{A s ρ σ σ' v args args' Q Ex} r I ra e R=>by
 match args,ra,e with
 | [x],ra,e =>
  obtain⟨x',rfl,rx⟩:=ra.one_inv
  obtain⟨i,t,rfl,e⟩:=vC (f:=λb=>zM (.range 0 b) σ) rx e
  exact mX B I (R.of e)
 | [x,y],ra,e =>
  obtain⟨x',y',rfl,rx,ry⟩:=ra.two_inv
  obtain⟨i,t,rfl,e⟩:=vC (f:=λa=>vI y λb=>zM (.range a b) σ) rx e
  obtain⟨j,u,rfl,e⟩:=vC ry e
  exact oG B I (R.of e)
 | [],_,e=>exact nn e
 | _ :: _ :: _ :: _,_,e=>exact nn e
theorem oV (B:qS qc qd G tabs):Hd qc w qd G tabs d ("list", KR):=λr I ra e R=>by
 obtain⟨i,a,rfl,ha,e⟩:=Nm ra e
 refine b1 e λo h1 e1=>b1 e1 λvs h2 e2=>?_
 clear e e1
 rw[za] at h1
 cases o with
 | range c d=>exact qan B r I h1 ha h2 (R.of e2)
 | view k dI =>
  refine bi h2 λhk h2=>HT h2 λes h3 h2=>bi h2 λhs h2=>?_
  cases h2
  rw[wn hk] at h1
  exact lY B r I h1 ha h3 hs (R.of e2)
 | _=>exact nn h2
theorem eZ (B:qS qc qd G tabs):Hd qc w qd G tabs d ("set", No):=λr I ra e R=>by
 obtain⟨rfl,e⟩:=HW ra e
 exact p8 B I (R.of e)
theorem qcc:Hd qc w qd G tabs d ("str", Qy):=λr I ra e R=>by
 obtain⟨v,v',rfl,rv,e⟩:=Bm ra e
 obtain⟨b,rfl,e⟩:=SW e
 obtain rfl:=rv.bool_inv
 exact uZ I (R.of e)
theorem qdj:Hd qc w qd G tabs d ("type", NR):=λr I ra e R=>by
 obtain⟨v,v',rfl,rv,e⟩:=Bm ra e
 exact b1 e λt ht e=>iY I rv ht (R.of e)
theorem sZ (B:qS qc qd G tabs):∀x∈Ud,Hd qc w qd G tabs d x:=inC (lZ B) <| inC (oV B) <| inC qdj <| inC (eZ B) <| inC qcc A2
theorem qfH (B:qS qc qd G tabs)(r:zf d A)(I:qt qc w qd G tabs s.heap ρ σ){id:String}(ra:qL ρ args args')
  (e:NP σ id args=qa (v,σ')) (R:zd qc w qd G tabs Q ρ s v σ'):qq (qp qc w) A (call (.type id) args' []) Q Ex s:=by
 exact b1 e λf h e=>sZ B _ (Ni h) r I ra e R
theorem mH {b:E}{a:qj}{qr:List qj}{h:Heap}(x:vD qc w G s.heap qr a (.lam b)):Av (qp qc w) A Ex (.ref a) s:=by
 obtain⟨o,fd,body,p,ho,hc,hd,_⟩:=x
 exact ZX ho hd
theorem qdo (so:D0 qc w qd G tabs d)(oo:wz qc w qd G tabs d O)(r:zf d A)(I:qt qc w qd G tabs s.heap ρ σ){id:String}{args:List V}
 (ra:qL ρ args args') (rk:zt ρ kw kw')
  (e:T0 O σ id args kw=qa (v,σ')) (R:zd qc w qd G tabs Q ρ s v σ'):qq (qp qc w) A (call (.builtin id) args' kw') Q Ex s:=by
 obtain⟨vf,v₁',rfl,rv,e1⟩:=Bm ra e
 obtain⟨k,f,rfl,e2⟩:=rD e1
 obtain⟨i,a,rfl,ha,e3⟩:=vM rv e2
 clear e e1 e2
 cases rk with
 | cons rf rk =>
 obtain rfl:=rk.nil_inv
 obtain⟨j,q,rfl,hq,e4⟩:=vM rf e3
 clear e3
 refine AO e4 λvs h1 e5=>Qk e5 λb h2 e6=>bi e6 λhc e7=>b2 e7 λks σ₁ h3 e8=>b1 e8 λp h4 e9=>bi e9 λh5 e10=>b1 e10 λws h6 e11=>?_
 clear e4 e5 e6 e7 e8 e9 e10
 have c1:=z0.mp hc
 have c2:=z0.mp c1.1
 obtain rfl:=vG c2.1
 obtain rfl:=eq_of_beq c2.2
 exact so.keyed oo r I ha h1 (of_decide_eq_true c1.2) hq h2 h3 h4 (of_decide_eq_true h5) h6 (R.of e11)
theorem qfi (B:qS qc qd G tabs)(so:D0 qc w qd G tabs d)(oo:wz qc w qd G tabs d O)(r:zf d A)(I:qt qc w qd G tabs s.heap ρ σ){f:V}{f':qh}{args:List V}{args':List qh}
  {kw:List (qf×V)} {kw':List (qf×qh)} (rf:qz ρ f f') (ra:qL ρ args args') (rk:zt ρ kw kw')
  (e:apply O f args kw σ=qa (v,σ')) (R:zd qc w qd G tabs Q ρ s v σ'):Av (qp qc w) A Ex f' s/\qq (qp qc w) A (call f' args' kw') Q Ex s:=by
 cases f with
 | val u =>
  obtain rfl:=rf.val_inv
  cases f' with
  | ref a=>exact oo.fn e r I ra rk R
  | builtin id =>
   refine⟨Iv _,?_⟩
   cases rk with
   | nil=>exact Tj B so r I ra e R
   | @cons k v v' es es' rv rk=>exact qdo so oo r I ra (.cons rv rk) e R
  | type id =>
   obtain⟨rfl,e⟩:=GT (x:=NP σ id args) e
   obtain rfl:=rk.nil_inv
   refine⟨uB _,qfH B r I ra e R⟩
  | _=>exact nn e
 | ref i =>
  obtain⟨a,ha,rfl⟩:=rf.ref_inv
  obtain⟨x,x',rfl,rx,e⟩:=Bm (f:=λv=>Fm kw (bn1 (qy σ i) (Wj O σ v))) ra e
  obtain⟨rfl,e⟩:=GT e
  obtain rfl:=rk.nil_inv
  refine b1 e λo h1 e=>?_
  rw[za] at h1
  cases o with
  | lam b=>exact have:=I.at h1 ha;⟨mH (h:=s.heap) this,oo.lam e r.toL I this rx R⟩
  | _=>exact nn e
 | _=>exact nn e
theorem Vc {items:List qh}(r:qL ρ vs items):∀{ss:List qf},Fs vs=qa ss->C3 items ss:=by
 induction r with
 | nil=>intro ss h;cases h;exact .nil
 | @cons v v' vs qW a b ih =>
  intro ss h
  obtain⟨x,t,rfl,h⟩:=Aa (f:=λs=>bn1 (Fs vs) λl=>qa (s :: l)) a h
  exact b1 h λl hl h=>by cases h;exact .cons _ _ (ih hl)
theorem R4 (B:qS qc qd G tabs)(hB:2<=qd.objs.size)(I:qt qc w qd G tabs s.heap ρ σ)(e:σ[i]?=qa (.sdict es))(ea:ρ[i]?=qa a) :
  (zd qc w qd G tabs Q ρ s (.ref σ.length) (σ++[.view 0 i])->qq (qp qc w) A (call (.builtin "dict.keys") [.ref a]) Q Ex s) /\
  (zd qc w qd G tabs Q ρ s (.ref σ.length) (σ++[.view 1 i])->qq (qp qc w) A (call (.builtin "dict.values") [.ref a]) Q Ex s):=by
 obtain⟨kvs,hd,hr⟩:=I.at e ea
 have hsys:(a == Cb)=qg:=beq_eq_false_iff_ne.mpr (FP (jH (jH (by decide) hB) (I.above' ea)))
 refine⟨λR=>ML F.slot_dict_keys hd.typeIs F.entry_dict_keys (F.args_dict_keys_1 _) (kdl_meets_keys (strKind qc w) a hsys) ⟨⟨kvs,hd⟩,R.push B I ⟨a,_,DX ⟨_,rfl⟩ ea,Heap.get?_push_size _ rfl,rfl,rfl,rfl⟩ s.toks⟩,
  λR=>ML F.slot_dict_values hd.typeIs F.entry_dict_values (F.args_dict_values_1 _) (meets_dict_values (strKind qc w) a hsys) ⟨⟨kvs,hd⟩,R.push B I ⟨a,_,DX ⟨_,rfl⟩ ea,Heap.get?_push_size _ rfl,rfl,rfl,rfl⟩ s.toks⟩⟩
noncomputable def v8 (qc:zm)(w:qK)(qd:Heap)(G:qf->Option qh)(tabs:List (qj×qj))(d:Nat)(x:qf×String×MF):Prop :=
 ∀{A:zh} {s:qk} {ρ:List qj} {σ σ':qi} {o v:V} {o':qh} {args:List V} {args':List qh} {Q:qh->qk->Prop} {Ex:qh->qk->Prop},
  zf d A->qt qc w qd G tabs s.heap ρ σ->qz ρ o o'->qL ρ args args'->x.2.2 σ o args=qa (v,σ')->zd qc w qd G tabs Q ρ s v σ'->qq (qp qc w) A (call (.builtin x.2.1) (o' :: args') []) Q Ex s
theorem tA:v8 qc w qd G tabs d (D6, "str.upper", Qp):=λr I ro ra e R=>by
 obtain⟨x,t,rfl,e⟩:=Aa ro e
 obtain⟨rfl,e⟩:=HW ra e
 exact bn e λhs e=>yK I (qhi _▸hs) (R.of e)
theorem qcv:v8 qc w qd G tabs d (wG, "str.lower", GQ):=λr I ro ra e R=>by
 obtain⟨x,t,rfl,e⟩:=Aa ro e
 obtain⟨rfl,e⟩:=HW ra e
 exact bn e λhs e=>qaQ I (qhi _▸hs) (R.of e)
theorem mU:v8 qc w qd G tabs d (I8, "str.join", O4):=λr I ro ra e R=>by
 obtain⟨x,t,rfl,e⟩:=Aa ro e
 obtain⟨i,a,rfl,ha,e⟩:=Nm ra e
 refine AO e λvs h1 e=>b1 e λss h2 e=>bi e λhc e=>?_
 obtain⟨items,n,l1,r1,z1⟩:=I.list h1 ha
 exact join_list l1.isList (Vc r1 h2) (of_decide_eq_true hc) λt' k=>(R.of e).same I (.str _ _) _
theorem sJ (B:qS qc qd G tabs):v8 qc w qd G tabs d (DH, "list.append", OQ):=λr I ro ra e R=>by
 obtain⟨i,a,rfl,ha,e⟩:=vM ro e
 obtain⟨v,v',rfl,rv,e⟩:=Bm ra e
 exact AO e λxs h1 e=>bi e λhs e=>qb3 B I h1 ha hs rv (R.of (A3 ..▸e))
theorem uS (B:qS qc qd G tabs):v8 qc w qd G tabs d (Jy, "list.insert", Qf):=λr I ro ra e R=>by
 obtain⟨i,a,rfl,ha,e⟩:=vM ro e
 obtain⟨v,u,v',u',rfl,rv,ru,e⟩:=LN ra e
 obtain⟨n,t,rfl,e⟩:=vC rv e
 exact AO e λxs h1 e=>bi e λhs e=>have h2:=z0.mp hs;have h3:=z0.mp h2.1
  yL B I h1 ha h3.1 h3.2 (of_decide_eq_true h2.2) ru (R.of (A3 ..▸e))
theorem qcD:v8 qc w qd G tabs d (ES, "list.index", Oo):=λr I ro ra e R=>by
 obtain⟨i,a,rfl,ha,e⟩:=vM ro e
 obtain⟨v,v',rfl,rv,e⟩:=Bm ra e
 exact AO e λxs h1 e=>bi e λhs e=>b1 e λl h2 e=>b1 e λn h3 e=>qc0 r I h1 ha hs rv h2 h3 (R.of e)
theorem QU:v8 qc w qd G tabs d (HS, "list.count", Qd):=λr I ro ra e R=>by
 obtain⟨i,a,rfl,ha,e⟩:=vM ro e
 obtain⟨v,v',rfl,rv,e⟩:=Bm ra e
 exact AO e λxs h1 e=>bi e λhs e=>b1 e λl h2 e=>qat r I h1 ha rv h2 (R.of e)
theorem Ww (hB:2<=qd.objs.size):v8 qc w qd G tabs d (vn, "dict.get", E0):=λr I ro ra e R=>by
 obtain⟨i,a,rfl,ha,e⟩:=vM ro e
 obtain⟨v,u,v',u',rfl,rv,ru,e⟩:=LN ra e
 cases v with
 | str x=>obtain⟨t,rfl⟩:=rv.str_inv;exact HT e λes h1 e=>xQ hB I h1 ha ru (R.of e)
 | int x=>obtain⟨t,rfl⟩:=rv.int_inv;exact qcN e λes h1 e=>qen hB I h1 ha ru (R.of e)
 | _=>exact nn e
theorem lK (B:qS qc qd G tabs)(hB:2<=qd.objs.size):v8 qc w qd G tabs d (Bl, "dict.keys", G7 0):=λr I ro ra e R=>by
 obtain⟨i,a,rfl,ha,e⟩:=vM ro e
 obtain⟨rfl,e⟩:=HW ra e
 exact HT e λes h1 e=>(R4 B hB I h1 ha).1 (R.of e)
theorem qfL (B:qS qc qd G tabs)(hB:2<=qd.objs.size):v8 qc w qd G tabs d (Ix, "dict.values", G7 1):=λr I ro ra e R=>by
 obtain⟨i,a,rfl,ha,e⟩:=vM ro e
 obtain⟨rfl,e⟩:=HW ra e
 exact HT e λes h1 e=>(R4 B hB I h1 ha).2 (R.of e)
theorem qal (B:qS qc qd G tabs):v8 qc w qd G tabs d (IY, "set.add", M3):=λr I ro ra e R=>by
 obtain⟨i,a,rfl,ha,e⟩:=vM ro e
 obtain⟨v,v',rfl,rv,e⟩:=Bm ra e
 obtain⟨x,t,rfl,e⟩:=Aa rv e
 exact fR e λes h1 e=>bi e λhs e=>qcG B I h1 ha (of_decide_eq_true hs) (R.of (A3 ..▸e))
theorem qfq:∀x∈Ld,v8 qc w qd G tabs d x:=inC tA <| inC qcv <| inC mU A2
theorem qda (B:qS qc qd G tabs):∀x∈Dz,v8 qc w qd G tabs d x:=inC (sJ B) <| inC (uS B) <| inC qcD <| inC QU A2
theorem qec (B:qS qc qd G tabs)(hB:2<=qd.objs.size):∀x∈Fo,v8 qc w qd G tabs d x:=inC (Ww hB) <| inC (lK B hB) <| inC (qfL B hB) A2
theorem sN (B:qS qc qd G tabs):∀x∈Lu,v8 qc w qd G tabs d x:=inC (qal B) A2
inductive Jm (qc:zm)(w:qK)(qd:Heap)(G:qf->Option qh)(tabs:List (qj×qj))(d:Nat)(O:qE)(σ:qi)(ρ:List qj)(o:V)(o':qh):Mk->qh->List qh->Prop
 | bi {x:qf×String×MF}:v8 qc w qd G tabs d x->Jm qc w qd G tabs d O σ ρ o o' (.bi x.2.1 x.2.2) (.builtin x.2.1) [o']
 | fn (a:qj):Jm qc w qd G tabs d O σ ρ o o' (.fn a) (.ref a) [o']
 | vm {a:qj} {name:qf} {f:qh} {first:List qh}:(∀{args:List V} {σ:qi} {v:V} {σ':qi},O.vmeth a name args σ=qa (v,σ') ->
   ∀{A:zh} {s:qk} {ρ:List qj} {args':List qh} {Q:qh->qk->Prop} {Ex:qh->qk->Prop},
    zf d A->qt qc w qd G tabs s.heap ρ σ->qL ρ args args'->zd qc w qd G tabs Q ρ s v σ' ->
    Av (qp qc w) A Ex f s/\qq (qp qc w) A (call f (first++args') []) Q Ex s)->Jm qc w qd G tabs d O σ ρ o o' (.vm a name) f first
theorem sU (B:qS qc qd G tabs)(hB:2<=qd.objs.size)(oo:wz qc w qd G tabs d O)(I:qt qc w qd G tabs s.heap ρ σ)(ro:qz ρ o o')
  (e:Cy O σ o name=qa mk) (hv:∀a n,mk=.vm a n->∃args σ r,O.vmeth a n args σ=qa r)
  (h:∀f first,Jm qc w qd G tabs d O σ ρ o o' mk f first->P (f,first) s):qq (qp qc w) A (JX o' name pl) P Ex s:=by
 cases o with
 | str x =>
  obtain⟨t,rfl⟩:=ro.str_inv
  obtain⟨y,hy,rfl,rfl⟩:=GG e
  have hf:=qbz y hy
  exact FX (JR _ _ _) F.plainAttrs_str hf.slot hf.ty (λa e=>nomatch e) (h _ _ (.bi (qfq y hy)))
 | val u =>
  obtain rfl:=ro.val_inv
  cases o' with
  | ref a =>
   cases e
   obtain⟨f,first,h1,h2⟩:=oo.vmeth (hv _ _ rfl)
   exact h1 I.old (h _ _ (.vm h2))
  | _=>exact nn e
 | ref i =>
  obtain⟨a,ha,rfl⟩:=ro.ref_inv
  refine b1 (x:=qy σ i) (f:=T7 O σ name) e λob h1 e=>?_
  rw[za] at h1
  cases ob with
  | list xs =>
   obtain⟨y,hy,rfl,rfl⟩:=GG e
   have hf:=qgg y hy
   obtain⟨items,m,l1,r1,z1⟩:=I.list h1 ha
   exact FX l1.isList.typeIs F.plainAttrs_list hf.slot hf.ty (λb e=>by cases e;refine⟨_,l1,rfl⟩) (h _ _ (.bi (qda B y hy)))
  | sdict es =>
   obtain⟨y,hy,rfl,rfl⟩:=GG e
   have hf:=qga y hy
   obtain⟨kvs,hd,hr⟩:=I.at h1 ha
   exact FX hd.typeIs F.plainAttrs_dict hf.slot hf.ty (λb e=>by cases e;obtain⟨o,es,ep,ho,hx,_⟩:=hd;refine⟨o,ho,hx.2.1⟩) (h _ _ (.bi (qec B hB y hy)))
  | idict es =>
   obtain⟨y,hy,rfl,rfl⟩:=GG (l:=[(vn, "dict.get", E0)]) e
   have hf:=nQ y hy
   obtain⟨kvs,hd,hr⟩:=I.at h1 ha
   exact FX hd.typeIs F.plainAttrs_dict hf.slot hf.ty (λb e=>by cases e;obtain⟨o,es,ep,ho,hx,_⟩:=hd;refine⟨o,ho,hx.2.1⟩) (h _ _ (.bi (inC (P:=v8 qc w qd G tabs d) (Ww hB) A2 y hy)))
  | sset es =>
   obtain⟨y,hy,rfl,rfl⟩:=GG e
   have hf:=qbf y hy
   have hS:s.heap.SetOf (strKind qc w) a (λk=>es.any λe=>e == k) es.length:=I.at h1 ha
   exact FX hS.typeIs F.plainAttrs_set hf.slot hf.ty hS.noDict (h _ _ (.bi (sN B y hy)))
  | inst c dI =>
   refine Qw (f:=λes=>if (jP es name).isNone then bn1 (O.cls c name) λa=>qa (Mk.fn a) else qb) e λes h2 e=>bi e λhn e=>b1 e λf hf e=>?_
   cases e
   exact oo.cls hf I h1 h2 (qg6.mp hn) ha (h _ _ (.fn _))
  | _=>exact nn e
 | _=>exact nn e
theorem qfw (oo:wz qc w qd G tabs d O)(r:zf d A)(I:qt qc w qd G tabs s.heap ρ σ)
 (ro:qz ρ o o') (mc:Jm qc w qd G tabs d O Hs ρ₀ o o' mk f first) (ra:qL ρ args args') (rk:zt ρ kw kw')
  (e:IK O σ mk o args kw=qa (v,σ')) (R:zd qc w qd G tabs Q ρ s v σ'):Av (qp qc w) A Ex f s/\qq (qp qc w) A (call f (first++args') kw') Q Ex s:=by
 cases mc with
 | bi hm =>
  obtain⟨rfl,e⟩:=GT e
  obtain rfl:=rk.nil_inv
  refine⟨Iv _,hm r I ro ra e R⟩
 | fn a=>exact oo.fn e r I (.cons ro ra) rk R
 | @vm a name _ _ h2 =>
  obtain⟨rfl,e⟩:=GT (x:=O.vmeth a name args σ) e
  obtain rfl:=rk.nil_inv
  exact h2 e r I ra R
variable {k:zg}{Γ:List qf}
theorem qby {env:q0}(B:qS qc qd G tabs)(so:D0 qc w qd G tabs d)(oo:wz qc w qd G tabs d O)(hf:SE qc w qd G tabs d O f k Γ)
  (hs:C9 qc w qd G tabs d O es k Γ) (hk:D2 qc w qd G tabs d O ks k Γ) (hn:CD ks=qa kn) (hna:∀o n p,f≠.Attribute o n p) (pos:qT)
 (r:zf d A) (X:zi qd tabs env k Γ m ρ s.heap) (I:qt qc w qd G tabs s.heap ρ σ)
  (e:ev O (.call (cE G f k Γ) (cEs G es k Γ) kn (cKs G ks k Γ)) m σ=qa (v,σ')) (R:zd qc w qd G tabs Q ρ s v σ'):qq (qp qc w) A (zR (.Call f es ks pos) env) Q Ex s:=by
 have e0:zR (.Call f es ks pos) env=(do bG pos (<-zR f env) [] (HI pos (DR es env)) (FT pos (FU ks env))):=by
  cases f <;> first | rfl | exact absurd rfl (hna _ _ _)
 rw[e0]
 exact yW (f:=cE G f k Γ) (args:=cEs G es k Γ) (kv:=cKs G ks k Γ) e λfv σ₁ e1 vs σ₂ e2 ws kO e3 e=>qm (hf r X I e1 λf' zj h1 qV S1 I1 r1 =>
  Nc (Ig e2 env pos) (Lw hn env pos).1 (Xt hs hk hn r (X.step S1) I1 e2 e3 λqW kw' zv h2 zl S2 I2 r2 rk2 =>
   qfi B so oo r I2 (r1.mono S2.ext) r2 rk2 e (R.step (S1.trans S2))))
theorem W3 (h:HU o=qe)(name:qf)(env:q0)(whole:zr qh):qhj o name env whole=whole:=by
 cases o with
 | Call f args kws p =>
  cases f with
  | Name id ctx =>
   cases args with
   | nil =>
    cases kws with
    | nil=>exact if_pos (show (_||_)=qe by rw[show (id != "super")=qe from h];rfl)
    | cons=>rfl
   | cons=>rfl
  | _=>rfl
 | _=>rfl
theorem pC {args:List (Bool×zr qh)}(h:args.any (·.1)=qg):args.all (λx=>!x.1)=qe:=by
 induction args with
 | nil=>rfl
 | cons a as ih=>simp only[FS,Bool.or_eq_false_iff] at h;simp[List.all_cons,h.1,ih h.2]
theorem nH {env:q0}(B:qS qc qd G tabs)(hB:2<=qd.objs.size)(oo:wz qc w qd G tabs d O)(ho:SE qc w qd G tabs d O o k Γ)
  (hs:C9 qc w qd G tabs d O es k Γ) (hk:D2 qc w qd G tabs d O ks k Γ) (hn:CD ks=qa kn) (hsu:HU o=qe) (pos:qT) (hap:(apos.endLine == pos.line)=qe) (qQ:es.length+ks.length < 20)
 (r:zf d A) (X:zi qd tabs env k Γ m ρ s.heap) (I:qt qc w qd G tabs s.heap ρ σ)
  (e:ev O (.meth (cE G o k Γ) name (cEs G es k Γ) kn (cKs G ks k Γ)) m σ=qa (v,σ')) (R:zd qc w qd G tabs Q ρ s v σ'):qq (qp qc w) A (zR (.Call (.Attribute o name apos) es ks pos) env) Q Ex s:=by
 have e0:zR (.Call (.Attribute o name apos) es ks pos) env=(do
   let ov <-qhj o name env (zR o env)
   wQ apos.atName
   qhk o name apos pos env ov (es.length+ks.length) (HI pos (DR es env)) (FT pos (FU ks env))):=rfl
 rw[e0,W3 hsu]
 refine qfe (o:=cE G o k Γ) (args:=cEs G es k Γ) (kv:=cKs G ks k Γ) e λov σ₁ e1 mk em vs σ₂ e2 ws kO e3 e=>qm (ho r X I e1 λo' zj h1 qV S1 I1 r1=>qm (jM ?_))
 obtain⟨k1,k2,k3,k4⟩:=Lw hn env pos
 have hform:qhl (es.length+ks.length) (HI pos (DR es env)) (FT pos (FU ks env))=qe:=by
  unfold qhl
  rw[pC (Ig e2 env pos),k2]
  simp only[Rs,decide_eq_true_eq]
  split <;> lia
 unfold qhk
 rw[hform]
 refine qm (zV ?_)
 refine sU (s:={ s with heap:=h1,toks:=qV }) B hB oo I1 r1 em (λa n hm=>?_) λf first mc=>?_
 ·subst hm
  refine⟨_,_,_,(GT (x:=O.vmeth a n vs kO) e).2⟩
 ·refine qm ?_
  unfold methodCallPos
  rw[hap]
  exact qB (Nc (Ig e2 env pos) k1 (Xt hs hk hn r (X.step S1) I1 e2 e3 λqW kw' zv h2 zl S2 I2 r2 rk2 =>
   qfw oo r I2 (r1.mono S2.ext) mc r2 rk2 e (R.step (S1.trans S2))))
end
noncomputable def Hj (I:qj)(h h':Heap):Prop:=∀b o,b≠I->h.get? b=qa o->h'.get? b=qa o
noncomputable def v2 (h:Heap)(ρ:List qj)(I:qj)(it:It)(n j:Nat):Prop:=match it with
 | .list id=>∃a,ρ[id]?=qa a/\h.IsListIter I a j
 | .range x y=>n=(y - x).toNat/\IsRangeIter h I (x+(j:Nat) * 1) ((n:Int) - (j:Nat)) 1
 | .str s=>n=s.cps.size/\∃t,h.IsStrIter I "str_ascii_iterator" s t j\/h.IsStrIter I "str_iterator" s t j
section
variable {qc:zm}{w:qK}{qd:Heap}{G:qf->Option qh}{tabs:List (qj×qj)}{d:Nat}{O:qE}{A:zh}{Ex:qh->qk->Prop}{s:qk}
 {ρ qr:List qj} {σ σ':qi} {v:V} {Q:qh->qk->Prop} {h h':Heap} {I:qj} {it:It} {n j:Nat}
theorem v2.live (x:v2 h ρ I it n j):∃o,h.get? I=qa o/\¬CY o/\o.cls≠.type "frame" /\ ∃vs,o.data=.fields vs:=by
 cases it with
 | list id=>obtain⟨a,ha,o,ho,hc,hd⟩:=x;refine⟨o,ho,λf=>absurd (BM (hc.symm.trans f.1)) (by decide),λf=>absurd (BM (hc.symm.trans f)) (by decide),_,hd⟩
 | range a b=>obtain⟨_,hr⟩:=x;refine⟨_,hr,λf=>absurd (BM f.1) (by decide),λf=>absurd (BM f) (by decide),_,rfl⟩
 | str s =>
  obtain⟨_,t,⟨o,ho,hc,hd⟩ | ⟨o,ho,hc,hd⟩⟩:=x
  ·refine⟨o,ho,λf=>absurd (BM (hc.symm.trans f.1)) (by decide),λf=>absurd (BM (hc.symm.trans f)) (by decide),_,hd⟩
  ·refine⟨o,ho,λf=>absurd (BM (hc.symm.trans f.1)) (by decide),λf=>absurd (BM (hc.symm.trans f)) (by decide),_,hd⟩
theorem v2.keep (x:v2 h ρ I it n j)(e:∀o,h.get? I=qa o->h'.get? I=qa o)(p:∃l,qr=ρ++l):v2 h' qr I it n j:=by
 cases it with
 | list id=>obtain⟨a,ha,o,ho,r⟩:=x;refine⟨a,DX p ha,o,e _ ho,r⟩
 | range a b=>obtain⟨h1,hr⟩:=x;refine⟨h1,e _ hr⟩
 | str s =>
  obtain⟨h1,t,⟨o,ho,r⟩ | ⟨o,ho,r⟩⟩:=x
  ·refine⟨h1,t,.inl ⟨o,e _ ho,r⟩⟩
  ·refine⟨h1,t,.inr ⟨o,e _ ho,r⟩⟩
theorem v2.keepS (x:v2 h ρ I it n j)(e:∀o,h.get? I=qa o->CS h' I o)(p:∃l,qr=ρ++l):v2 h' qr I it n j :=
 x.keep (λo ho=>(e o ho).1 (by obtain⟨o',ho',_,hc,_⟩:=x.live;obtain rfl:=sj ho ho';exact hc)) p
theorem qc8 (hj:j < (y - x).toNat):(Ar x y)[j]?=qa (.int (x+(j:Int))):=by
 simp[Ar,hj]
theorem qdF (hj:j < x.cps.size):(Dp x)[j]?=qa (.str ⟨#[x.cps[j]]⟩):=by
 simp[Dp,hj]
theorem L5 (r:zf d A)(A6:qt qc w qd G tabs s.heap ρ σ)(hI:I∉ρ)(hs:jX σ it=qa all)(x:v2 s.heap ρ I it all.length j)
  (hi:∀(hj:j < all.length) v' h' tk,qz ρ all[j] v'->v2 h' ρ I it all.length (j+1)->Hj I s.heap h'->(∀a,v'=.ref a->∃id,it=.list id)->P (qa v') { s with heap:=h',toks:=tk })
  (he:j=all.length->∀h' tk,Hj I s.heap h'->P qb { s with heap:=h',toks:=tk }) (hj:j<=all.length):qq (qp qc w) A (MM (.ref I)) P Ex s:=by
 cases it with
 | list id =>
  obtain⟨a,ha,hit⟩:=x
  refine AO (f:=λvs=>if small vs.length then qa vs else qb) hs λvs hvs hs=>bi hs λ_ hs=>?_
  ··cases (hs)
    obtain⟨items,m,l1,r1,z1⟩:=A6.list hvs ha
    have zy:a≠I:=λe=>hI (e▸wT ha)
    have W:=Walks.list (prog:=qc) (w:=w) (A:=A) r.handled I a zy items
    rcases JJ j all.length with qQ | hge
    ·refine W.item j s P Ex (by lia) ⟨hit,l1.isList⟩ λv' h' tk hv hst hk=>?_
     obtain⟨v'',e1,e2⟩:=Np r1 (kh qQ)
     obtain rfl:=sj hv e1
     exact hi qQ v' h' tk e2 ⟨a,ha,hst.1⟩ (λb o hb e=>hk b o (by simpa using hb) e) λa _=>⟨id,rfl⟩
    ·have:j=items.size:=by lia
     subst this
     exact W.done s P Ex ⟨hit,l1.isList⟩ λh' tk hk=>he (by lia) h' tk λb o hb e=>hk b o (by simpa using hb) e
 | range a b =>
  obtain⟨hn,hr⟩:=x
  refine bi (t:=qa (Ar a b)) hs λ_ hs=>?_
  ·cases hs
   have hl:(Ar a b).length=(b - a).toNat:=by simp[Ar]
   rw[hl] at hr hj hn he
   have W:=Walks.range (prog:=qc) (w:=w) (A:=A) r.handled I a 1 (b - a).toNat
   rcases JJ j (b - a).toNat with qQ | hge
   ·refine W.item j s P Ex qQ hr λv' h' tk hv hst hk=>?_
    obtain⟨t,rfl⟩:=hv
    refine hi (by lia) _ h' tk ?_ ⟨by rw[hl],by rw[hl];exact hst⟩ (λb o hb e=>hk b o (by simpa using hb) e) (λa e=>by cases e)
    have:=qc8 (x:=a) qQ
    rw[kh (by lia)] at this
    rw[zc this,Int.mul_one]
    exact .int _ _
   ·have:j=(b - a).toNat:=by lia
    subst this
    exact W.done s P Ex hr λh' tk hk=>he rfl h' tk λb o hb e=>hk b o (by simpa using hb) e
 | str Aj =>
  obtain⟨hn,t,hst⟩:=x
  refine bi (t:=qa (Dp Aj)) hs λ_ hs=>?_
  ·cases hs
   have hl:(Dp Aj).length=Aj.cps.size:=by simp[Dp]
   rw[hl] at hj hn he
   have fin:∀{St:Nat->Heap->Prop},(∀k h,St k h->v2 h ρ I (.str Aj) Aj.cps.size k)->Walks qc w A I [I] [I] Aj.cps.size (SignAt Aj) St->St j s.heap->qq (qp qc w) A (MM (.ref I)) P Ex s:=λ{St} hS W st=>by
    rcases JJ j Aj.cps.size with qQ | hge
    ·refine W.item j s P Ex qQ st λv' h' tk hv hst hk=>?_
     obtain⟨c,u,hc,rfl⟩:=hv
     refine hi (by lia) _ h' tk ?_ (by rw[hl];exact hS _ _ hst) (λb o hb e=>hk b o (by simpa using hb) e) (λa e=>by cases e)
     have:=qdF (x:=Aj) qQ
     rw[kh (by lia)] at this
     have hc':c=Aj.cps[j]:=by rw[Array.getElem?_eq_getElem qQ] at hc;exact(zc hc).symm
     rw[zc this,hc']
     exact .str _ _
    ·have:j=Aj.cps.size:=by lia
     subst this
     exact W.done s P Ex st λh' tk hk=>he rfl h' tk λb o hb e=>hk b o (by simpa using hb) e
   rcases hst with hst | hst
   ·exact fin (λk h y=>⟨rfl,t,.inl y⟩) (Walks.strAscii r.handled I Aj t) hst
   ·exact fin (λk h y=>⟨rfl,t,.inr y⟩) (Walks.strWide r.handled I Aj t) hst
theorem VX (x:v2 s.heap ρ I it n j)(h:Q (.ref I) s):qq (qp qc w) A (JZ (.ref I)) Q Ex s:=by
 cases it with
 | list id=>obtain⟨a,ha,hit⟩:=x;exact wpAny_pyIter_listiter hit h
 | range a b=>obtain⟨_,hr⟩:=x;exact wpAny_pyIter_rangeiter hr h
 | str s =>
  obtain⟨_,t,hst | hst⟩:=x
  ·exact wpAny_pyIter_striter_ascii hst h
  ·exact wpAny_pyIter_striter_wide hst h
theorem KC (A6:qt qc w qd G tabs s.heap ρ σ)(rv:qz ρ v v')(e:vu σ v=qa it)(hs:jX σ it=qa all)
  (h:∀o,v2 (s.heap.push o) ρ s.heap.objs.size it all.length 0->Q (.ref s.heap.objs.size) { s with heap:=s.heap.push o }):qq (qp qc w) A (JZ v') Q Ex s:=by
 cases v with
 | str x =>
  cases e
  obtain⟨t,rfl⟩:=rv.str_inv
  refine bi (t:=qa (Dp x)) hs λ_ hs=>?_
  cases hs
  have hl:(Dp x).length=x.cps.size:=by simp[Dp]
  cases ha:x.cps.all (· < 128)
  ·exact wpAny_pyIter_wide ha (h _ ⟨hl,t,.inr ⟨_,Heap.get?_push_size _ rfl,rfl,rfl⟩⟩)
  ·exact wpAny_pyIter_ascii ha (h _ ⟨hl,t,.inl ⟨_,Heap.get?_push_size _ rfl,rfl,rfl⟩⟩)
 | ref i =>
  obtain⟨a,ha,rfl⟩:=rv.ref_inv
  refine b1 (x:=qy σ i) (f:=U3 i) e λob h1 e=>?_
  rw[za] at h1
  cases ob with
  | list vs =>
   cases e
   obtain⟨items,m,l1,r1,z1⟩:=A6.list h1 ha
   exact qhm l1.isList (h _ ⟨a,ha,⟨_,Heap.get?_push_size _ rfl,rfl,rfl⟩⟩)
  | range x y =>
   cases e
   obtain⟨t,u,q,hr⟩:=A6.at h1 ha
   refine bi (t:=qa (Ar x y)) hs λhc hs=>?_
   cases hs
   simp only[jT,decide_eq_true_eq] at hc
   have zu:bH x y 1=((y - x).toNat:Int):=by rw[qhc];split <;> lia
   have hsmall:qhd x y 1=qe:=small_one (by lia) (by lia) (by lia) (by lia)
   refine wpAny_pyIter_range hr hsmall (h _ ⟨by simp[Ar],?_⟩)
   have hl:(Ar x y).length=(y - x).toNat:=by simp[Ar]
   rw[hl]
   have e1:(x+((0:Nat):Int) * 1)=x:=by simp
   have e2:(((y - x).toNat:Int) - ((0:Nat):Int))=bH x y 1:=by rw[zu];simp
   rw[e1,e2]
   exact Heap.get?_push_size _ rfl
  | _=>exact nn e
 | _=>exact nn e
theorem TJ (h:∀a,v'=.ref a->∀I,it'=.ref I->∃o,s.heap.get? I=qa o/\o.cls=.type "list_iterator")(hQ:P () s) :
  qq (qp qc w) A (Ru t it' v') P Ex s:=by
 have both:qq (qp qc w) A (Ru (.List [] t.pos) it' v') P Ex s:=by
  cases it' with
  | ref r =>
   cases v' with
   | ref a =>
    obtain⟨o,ho,hc⟩:=h a rfl r rfl
    refine qm (bC ho ?_)
    rw[hc]
    cases o.data with
    | fields vs =>
     have hc:(["enumerate", "zip", "dict_itemiterator", "dict_reverseitemiterator", "odict_iterator", "itertools.zip_longest", "itertools.pairwise"].contains "list_iterator")=qg:=by decide
     show qq _ _ (if (_&&_)=qe then _ else _) P Ex s
     rw[hc]
     exact qB hQ
    | _=>exact qB hQ
   | _=>exact qB hQ
  | _=>exact qB hQ
 cases t with
 | Tuple=>exact both
 | List=>exact both
 | _=>exact qB hQ
theorem qt.keepBut (B:qS qc qd G tabs)(A6:qt qc w qd G tabs h ρ σ)(ha:I∉ρ)(hb:qd.objs.size<=I)(hc:h.get? I=qa c)(hf:¬CY c)(hv:∃vs,c.data=.fields vs)(k:Hj I h h'):qt qc w qd G tabs h' ρ σ:=by
 have kf:Bi h h':=λb o e hz=>by
  by_cases hbi:b=I
  ·subst hbi;obtain rfl:=sj hc e;exact(hf hz).elim
  ·exact k b o hbi e
 refine⟨A6.top.other (hv.elim λvs e=>A6.top.nef hc e) k,λb o e n=>k _ _ (kR (jH (Heap.lt_size e) hb)) (A6.old b o e n),A6.len,A6.nodup,A6.above,
  Hn (λb o hb' e=>k _ _ (kR (jH hb' hb)) e) kf B.tlt A6.tab,λj o e=>?_⟩
 obtain⟨b,hb',y⟩:=A6.objs j o e
 obtain⟨cb,hcb,_⟩:=y.get
 refine⟨b,hb',y.mono ((k _ _ (by rintro rfl;exact ha (wT hb')) hcb).trans hcb.symm) kf ⟨[],by simp⟩⟩
end
theorem Hh:∀{Γ:List qf}{x:qf}{i:Nat},j3 Γ x=qa i->Γ[i]?=qa x
 | [],_,_,h=>nn h
 | y :: r,x,i,h=>by
  replace h:(match j3 r x with | some i=>qa (i+1) | none=>if y == x then qa 0 else qb)=qa i:=h
  cases hj:j3 r x with
  | some j =>
   rw[hj] at h
   rw[<-zc h]
   exact(Hh hj:r[j]?=_)
  | none=>rw[hj] at h;exact bi h λhy h=>by cases h;exact congrArg qa (eq_of_beq hy)
theorem LP (h:j3 Γ x=qa i)(g:j3 Γ y=qa i):x=y :=
 zc ((Hh h).symm.trans (Hh g))
theorem Zs (h:j3 Γ x=qa i):i < Γ.length:=(kF.mp (Hh h)).1
theorem Gl (h:i < m.length):z5 (m.set i (qa v)) j=if j=i then qa v else z5 m j:=by
 rw[Hl,Hl]
 by_cases hj:j=i
 ·subst hj;rw[bJ h,if_pos rfl];rfl
 ·rw[MC (DO hj),if_neg hj]
noncomputable def Cn (m m':qx):Prop:=m.length=m'.length/\∀i v,z5 m i=qa v->z5 m' i=qa v
theorem Cn.refl (m:qx):Cn m m:=⟨rfl,λ_ _ h=>h⟩
theorem Cn.trans (x:Cn a b)(y:Cn b c):Cn a c:=⟨x.1.trans y.1,λi v h=>y.2 i v (x.2 i v h)⟩
theorem W9 (h:Er m i v=qa m'):put m i v=qa m'/\Cn m m':=bi h λhc h=>by
 cases h
 have h1:i < m.length:=of_decide_eq_true (z0.mp hc).1
 have h2:(z5 m i).isNone=qe:=(z0.mp hc).2
 refine⟨if_pos h1,(wo ..).symm,λj u hu=>?_⟩
 rw[Gl h1,if_neg λe=>by rw[e] at hu;rw[hu] at h2;cases h2]
 exact hu
theorem Ug:∀{is:List Nat}{vs:List V}{m m':qx},Jf is vs m=qa m'->kg is vs m=qa m'/\Cn m m'
 | [],[],m,m'=>@λh=>by cases h;refine⟨rfl,.refl _⟩
 | i :: is,v :: vs,m,m'=>@λh=>b1 (x:=Er m i v) (f:=λm=>Jf is vs m) h λkP h1 h=>by
  obtain⟨a,b⟩:=W9 h1
  obtain⟨c,e⟩:=Ug h
  refine⟨show bn1 (put m i v) _=_ from a▸c,b.trans e⟩
 | [],_ :: _,_,_=>@λh=>nn h
 | _ :: _,[],_,_=>@λh=>nn h
theorem qfh (h:GB σ t v m=qa m'):AP σ t v m=qa m'/\Cn m m':=by
 cases t with
 | var i=>exact W9 h
 | tup is =>
  refine b1 (x:=Aq σ v) (f:=λvs=>Jf is vs m) h λvs hv h=>?_
  obtain⟨a,b⟩:=Ug h
  refine⟨show bn1 (Aq σ v) _=_ from hv▸a,b⟩
theorem OI:∀{is:List Nat}{vs:List V}{m m':qx},kg is vs m=qa m'->is.length=vs.length
 | [],[],_,_=>@λ_=>rfl
 | i :: is,v :: vs,m,_=>@λh=>b1 (x:=put m i v) (f:=λm=>kg is vs m) h λ_ _ h=>congrArg (· + 1) (OI h)
 | [],_ :: _,_,_=>@λh=>nn h
 | _ :: _,[],_,_=>@λh=>nn h
theorem qe9 (h:Ay k Γ x=qa i):j3 Γ x=qa i/\(k.lookup x=qa .local\/k.lookup x=qa .cell):=by
 unfold Ay at h
 cases hk:k.lookup x with
 | none=>rw[hk] at h;exact nn h
 | some kd=>rw[hk] at h;cases kd with
  | «local» => refine⟨h,.inl rfl⟩
  | cell=>refine⟨h,.inr rfl⟩
  | _=>exact nn h
section
variable {qc:zm}{w:qK}{qd:Heap}{G:qf->Option qh}{tabs:List (qj×qj)}{d:Nat}{O:qE}{A:zh}{Ex:qh->qk->Prop}{s:qk}
 {ρ qr:List qj} {σ σ':qi} {v:V} {h h':Heap} {env:q0} {k:zg} {Γ:List qf} {m m':qx}
theorem zi.le (X:zi qd tabs env k Γ m' ρ h)(l:Cn m m'):zi qd tabs env k Γ m ρ h where
 toEnvS:=X.toEnvS
 len:=l.1.trans X.len
 lnotin:=X.lnotin
 locals:=(by obtain⟨mm,hn,hv⟩:=X.locals;refine⟨mm,hn,λx i v h1 h2 h3=>hv x i v h1 h2 (l.2 i v h3)⟩)
 cells:=λx hx=>(by obtain⟨c,h1,h2,h3,cv,h4,h5⟩:=X.cells x hx;refine⟨c,h1,h2,h3,cv,h4,λi v e1 e2=>h5 i v e1 (l.2 i v e2)⟩)
theorem zi.keepOwn (X:zi qd tabs env k Γ m ρ h)(e:∀b o,kZ env k b->h.get? b=qa o->h'.get? b=qa o):zi qd tabs env k Γ m ρ h' where
 toEnvS:=X.toEnvS
 len:=X.len
 lnotin:=X.lnotin
 locals:=(by obtain⟨mm,hn,hv⟩:=X.locals;refine⟨mm,Heap.Ns.at0 hn λo y=>e _ o (.inl rfl) y,hv⟩)
 cells:=λx hx=>(by obtain⟨c,h1,h2,h3,cv,h4,h5⟩:=X.cells x hx;refine⟨c,h1,h2,h3,cv,Heap.IsCell.at0 h4 λo y=>e _ o (.inr ⟨x,hx,h1⟩) y,h5⟩)
theorem zi.keeps (X:zi qd tabs env k Γ m ρ h)(e:∀b o,h.get? b=qa o->h'.get? b=qa o):zi qd tabs env k Γ m ρ h' :=
 X.step (.keeps e)
noncomputable def JA (qc:zm)(w:qK)(qd:Heap)(G:qf->Option qh)(tabs:List (qj×qj))(env:q0)(k:zg)(Γ:List qf)(P:Unit->qk->Prop)(ρ:List qj)(s:qk)(m':qx)(σ:qi):Prop :=
 ∀h' tk,qY qd (vd env k) ρ s.heap ρ h'->zi qd tabs env k Γ m' ρ h'->qt qc w qd G tabs h' ρ σ->P () { s with heap:=h',toks:=tk }
noncomputable def Ow (M:A9)(s:qk)(a:qj)(name:qf)(v:qh):Heap:=s.heap.update a (Obj.putName name (if name.cps.isEmpty=qe then 0 else reduceHash (M.w.params.strHash name.cps)) (JH name s.toks) v)
theorem WP {M:A9}{Γ:Ctx}{p:qT}{s:qk}{a:qj}{o:zk} {es ep}{name:qf}{v:qh}{E:qh->qT->qk->Prop}{K:Unit->qT->qk->Prop}(ho:s.heap.get? a=qa o)(hd:o.data=.dict es ep)(hany:es.any (·.refKey)=qg) :
  j6 M Γ (nsSet a name v) K E p s↔K () p { s with heap:=Ow M s a name v,toks:=s.toks+1 }:=by
 simp only[nsSet,strHash,vU,Sem.wp_cmd_ask,Sem.wp_pure',Sem.wp_cmd_mkText]
 rw[Sem.wp_loadPart_of M Γ E p { s with toks:=s.toks+1 } (o:=o) _ ho]
 simp only[hd,aRefKeyMayBeTheName_eq,aRefKeyMayBeTheNameByArray,hany,bK,FN,if_false,Sem.wp_cmd_updatePart]
 rw[ho]
 refine⟨λh=>h.2,λh=>⟨rfl,h⟩⟩
theorem qei {name:qf}{v:qh}{o o₂:zk} {es ep}(ho:s.heap.get? a=qa o)(hd:o.data=.dict es ep)(Ev:(Ow M s a name v).get? a=qa o₂):o₂.cls=o.cls:=by
 obtain⟨c,d,dt,sl⟩:=o
 cases hd
 unfold Ow at Ev
 rw[Heap.get?_update_self _ ho (by simp only[qhn,qho];split <;> rfl)] at Ev
 cases Ev
 simp only[qhn,qho]
 split <;> rfl
theorem qfm {M:A9}{A:zh}{E:qh->qk->Prop}{s:qk}{a:qj} {m}{name:qf}{v:qh}{Q:Unit->qk->Prop}(hn:s.heap.Ns a m)
  (h:∀h',h'.Ns a (λx=>if x=name then qa v else m x)->Heap.SameBut a s.heap h'->(∀o,s.heap.get? a=qa o->∃o',h'.get? a=qa o'/\o'.cls=o.cls)->Q () { s with heap:=h',toks:=s.toks+1 }) :
  qq M A (nsSet a name v) Q E s:=λΓ p _=>by
 obtain⟨o,es,ep,ho,hd,hk,hm⟩:=id hn
 have hany:es.any (·.refKey)=qg:=by
  rw[Array.any_eq_false'];intro e he;obtain⟨n,t,h⟩:=hk e he;simp[qjb,h]
 have h1:=(WP ho hd hany).mp (Sem.wp_nsSet M Γ (λe _ s'=>E e s') p s hn name v (λ_ _ s'=>s'.heap.Ns a (λx=>if x=name then qa v else m x)/\Heap.SameBut a s.heap s'.heap) (λh' q1 q2=>⟨q1,q2⟩))
 refine(WP ho hd hany).mpr (h _ h1.1 h1.2 λo' ho'=>?_)
 obtain rfl:=zc (ho.symm.trans ho')
 obtain⟨o₂,es₂,ep₂,Ev,_⟩:=h1.1
 refine⟨o₂,Ev,qei ho hd Ev⟩
theorem WR {M:A9}{A:zh}{E:qh->qk->Prop}{s:qk}{env:q0}{name:qf} {m}{v:qh}{Q:Unit->qk->Prop}(hl:env.kindOf name=qa .local)
  (hn:s.heap.Ns env.locals m)
  (h:∀h',h'.Ns env.locals (λx=>if x=name then qa v else m x)->Heap.SameBut env.locals s.heap h'->(∀o,s.heap.get? env.locals=qa o->∃o',h'.get? env.locals=qa o'/\o'.cls=o.cls) ->
   Q () { s with heap:=h',toks:=s.toks+1 })
  (hp:(env.scope.kind == .class||(env.scope.kind == .module&&env.locals != env.globals))=qg:=by rfl):qq M A (storeName env name v) Q E s:=by
 rw[storeName_local hl hp];exact qfm hn h
theorem IQ {v u:V}{P:Prop}(h:i < m.length)(e:z5 (m.set i (qa v)) j=qa u)(k1:j=i->v=u->P)(k2:j≠i->z5 m j=qa u->P):P:=by
 rw[Gl h] at e
 by_cases hj:j=i
 ·rw[if_pos hj] at e;exact k1 hj (zc e)
 ·rw[if_neg hj] at e;exact k2 hj e
theorem HX (B:qS qc qd G tabs)(X:zi qd tabs env k Γ m ρ s.heap)(I:qt qc w qd G tabs s.heap ρ σ){i:Nat}{v':qh}(hx:Ay k Γ x=qa i)(rv:qz ρ v v')
  (hm:put m i v=qa m') (h:JA qc w qd G tabs env k Γ P ρ s m' σ):qq (qp qc w) A (bM env x v') P Ex s:=bi hm λqQ hm=>by
 cases hm
 obtain⟨hx,hk⟩:=qe9 hx
 obtain⟨mm,hns,hv⟩:=X.locals
 have dif:∀{y j},j3 Γ y=qa j->j≠i->y≠x:=λh2 hj e=>hj (Gi h2 (e▸hx))
 have notc:∀{c cv},s.heap.IsCell c cv->c≠env.locals:=λh4 e=>by
  obtain⟨o,ho,hd⟩:=h4
  obtain⟨o',_,_,ho',hd',_⟩:=hns
  rw[e,ho'] at ho;cases ho
  rw[hd'] at hd;cases hd
 rcases hk with hk | hk
 ·refine qhp (WR (X.loc x hk) hns (λh' hn' hs' hcl'=>?_) (by rw[X.kind];rfl))
  obtain⟨o,es,ep,ho,hd,_⟩:=id hns
  have nfz:¬CY o:=λf=>by obtain⟨_,vs,e⟩:=f;rw[hd] at e;cases e
  refine h h' _ (.own hs' (.inl rfl) ((by obtain⟨o,_,_,ho,_⟩:=hn';refine⟨o,ho⟩))) ⟨X.toEnvS,(wo ..).trans X.len,X.lnotin,⟨_,hn',λy j u h1 h2 h3=>?_⟩,λy hy=>?_⟩
   (I.own B.tlt X.lnotin X.labove ho nfz hs' (λ_=>(by obtain⟨o',ho',hc'⟩:=hcl' _ ho;obtain⟨o₂,es,n,Ev,CZ,_⟩:=hn';refine⟨o',es,n,ho',hc',by obtain rfl:=sj ho' Ev;exact CZ⟩)))
  ·refine IQ qQ h3 (λe ev=>?_) λe h3=>?_
   ·rw[LP h2 (e▸hx)];refine⟨v',if_pos rfl,ev▸rv⟩
   ·rw[if_neg (dif h2 e)];exact hv y j u h1 h2 h3
  ·obtain⟨c,h1,h2,h3,cv,h4,h5⟩:=X.cells y hy
   refine⟨c,h1,h2,h3,cv,h4.sameBut hs' (notc h4),λj u e1 e2=>IQ qQ e2 (λe _=>?_) λ_ e2=>h5 j u e1 e2⟩
   rw[LP e1 (e▸hx)] at hy
   rcases hy with hy | hy <;> (rw[hk] at hy;cases hy)
 ·obtain⟨c,h1,h2,h3,cv,h4,h5⟩:=X.cells x (.inl hk)
  refine qhp (wpAny_storeName_cell X.kind (X.cel x hk) h1 h4 λh' hc' hs'=>?_)
  obtain⟨o,ho,hd⟩:=id h4
  have nfz:¬CY o:=λf=>by obtain⟨_,vs,e⟩:=f;rw[hd] at e;cases e
  refine h h' s.toks (.own hs' (.inr ⟨x,hk,h1⟩) ((by obtain⟨o,ho,_⟩:=hc';refine⟨o,ho⟩))) ⟨X.toEnvS,(wo ..).trans X.len,X.lnotin,⟨mm,hns.sameBut hs' (notc h4).symm,λy j u e1 e2 e3=>?_⟩,λy hy=>?_⟩
   (I.own B.tlt h3 h2 ho nfz hs' (λe=>absurd e (I.top.nev ho hd)))
  ·refine IQ qQ e3 (λe _=>?_) λ_ e3=>hv y j u e1 e2 e3
   rw[LP e2 (e▸hx),hk] at e1;cases e1
  ·obtain⟨c',g1,g2,g3,cv',g4,g5⟩:=X.cells y hy
   by_cases hcc:c'=c
   ·subst hcc
    have:=X.inj _ _ _ hy (.inl hk) g1 h1
    subst this
    refine⟨c',g1,g2,g3,qa v',hc',λj u e1 e2=>IQ qQ e2 (λ_ ev=>⟨v',rfl,ev▸rv⟩) λe _=>absurd rfl (dif e1 e)⟩
   ·refine⟨c',g1,g2,g3,cv',g4.sameBut hs' hcc,λj u e1 e2=>IQ qQ e2 (λe _=>?_) λ_ e2=>g5 j u e1 e2⟩
    rw[LP e1 (e▸hx)] at g1
    exact absurd (Gi g1 h1) hcc
theorem Pu:∀{es:List qA}{is:List Nat},AW k Γ es=qa is->Mx es env=es.map (λe=>(qg,assign e env))/\es.length=is.length
 | [],is,h=>by cases h;refine⟨rfl,rfl⟩
 | e :: es,is,h=>by
  obtain⟨x,p,rfl,h⟩:=Nr (f:=λx=>bn1 (Ay k Γ x) λi=>bn1 (AW k Γ es) λis=>qa (i :: is)) h
  refine b1 h λi _ h=>b1 h λjs h2 h=>?_
  cases h
  obtain⟨a,b⟩:=Pu h2
  refine⟨by rw[z7,<-a];rfl,congrArg (· + 1) b⟩
theorem Wl (B:qS qc qd G tabs):∀{es:List qA}{is:List Nat}{vs:List V}{qW:List qh}{m m':qx}{s:qk},AW k Γ es=qa is->zi qd tabs env k Γ m ρ s.heap->qt qc w qd G tabs s.heap ρ σ ->
  qL ρ vs qW->kg is vs m=qa m'->JA qc w qd G tabs env k Γ P ρ s m' σ->qq (qp qc w) A (bN (es.map λe=>assign e env) qW) P Ex s
 | [],is,vs,qW,m,m',s=>@λhc X I r hp h=>by
  cases hc
  cases r with
  | nil=>cases hp;exact qhq (h s.heap s.toks (.refl ..) X I)
  | cons a b=>exact nn hp
 | e :: es,is,vs,qW,m,m',s=>@λhc X I r hp h=>by
  obtain⟨x,p,rfl,hc⟩:=Nr (f:=λx=>bn1 (Ay k Γ x) λi=>bn1 (AW k Γ es) λis=>qa (i :: is)) hc
  refine b1 hc λi h1 hc=>b1 hc λjs h2 hc=>?_
  cases hc
  cases r with
  | nil=>exact nn hp
  | @cons u _ us _ a b =>
   refine b1 (x:=put m i u) (f:=λm=>kg js us m) hp λkP hm hp=>qhr ?_
   show qq _ _ (assign (.Name x p) env _) _ _ _
   rw[Rv]
   exact qm (jM (HX B X I h1 a hm λBC tk₁ S₁ X₁ I₁=>Wl B h2 X₁ I₁ b hp λkC tk₂ S₂ X₂ I₂=>h kC tk₂ (S₁.trans S₂) X₂ I₂))
theorem Vh {items:Array qh}(zy:t≠it):∀(n i:Nat)(s:qk)(Q:List qh->qk->Prop),s.heap.IsListIter it t i->s.heap.IsList t items->i+n<=items.size ->
  (∀h',h'.IsListIter it t (i+n)->Heap.SameBut it s.heap h'->Q ((items.toList.drop i).take n) { s with heap:=h' })->qq (qp qc w) A (draw (.ref it) n) Q Ex s
 | 0=>@λi s Q hit _ _ hQ=>by
  show qq _ _ (pure []) Q Ex s
  exact qB (by simpa using hQ s.heap hit (Heap.SameBut.refl ..))
 | n+1=>@λi s Q hit ht hle hQ=>by
  have qQ:i < items.size:=by lia
  show qq _ _ (MM (.ref it) >>= _) Q Ex s
  refine qm (wpAny_pyNext_list_item hit ht (x:=items[i]) (by simp[qQ]) λBC hit₁ hs₁=>?_)
  refine qm (zV (Vh zy n (i+1) _ _ hit₁ (ht.extBut hs₁.extBut zy) (by lia) λkC hit₂ Eu=>qB ?_))
  have hd:items.toList.drop i=items[i] :: items.toList.drop (i+1):=by simp[MN,qQ]
  have:=hQ kC (by rw[show i+(n+1)=i+1+n by lia];exact hit₂) (hs₁.trans Eu)
  rw[hd,qhs] at this
  exact this
theorem dC {items:Array qh}(hh:A.handled=qb)(ht:s.heap.IsList t items)
  (hQ:∀h',Heap.ExtBut s.heap.objs.size s.heap h'->Q items.toList { s with heap:=h' }):qq (qp qc w) A (Rw (.ref t) items.size qb) Q Ex s:=by
 have qQ:t≠s.heap.objs.size:=by obtain⟨o,ho,_⟩:=ht;exact kR (Heap.lt_size ho)
 have push:∀o,(s.heap.push o).IsList t items:=λo=>(by obtain⟨x,hx,r⟩:=ht;refine⟨x,Heap.get?_push_of_some _ hx,r⟩)
 unfold Rw
 refine qm ?_
 ·unfold notIterableAtAll
  refine qm (Z7 ht.typeIs slot_list_iter.lookup ?_)
  refine qB ?_
  simp only[FN,if_false]
  refine qm (zV (qhm ht ?_))
  refine qm (zV (Vh qQ items.size 0 _ _ ⟨_,Heap.get?_push_size _ rfl,rfl,rfl⟩ (push _) (by lia) λBC hit₁ hs₁=>?_))
  have hall:qg5 items.size (JU 0 items.toList)=items.toList:=by
   rw[JS];exact FO (by simp)
  rw[hall]
  rw[if_neg (by simp)]
  have ht₁:BC.IsList t items:=(push _).extBut hs₁.extBut qQ
  refine qm (zV (wpAny_pyNext_list_end hh hit₁ ht₁ (by simp) λkC he₂=>?_))
  simp only[qht,FN,if_false]
  refine qB (hQ kC λb o hb e=>he₂ b o hb (hs₁.extBut b o hb (Heap.get?_push_of_some _ e)))
theorem Ue (r:zf d A)(I:qt qc w qd G tabs s.heap ρ σ)(rv:qz ρ v v')(e:Aq σ v=qa vs)
  (h:∀qW h',qL ρ vs qW->(∀b o,s.heap.get? b=qa o->h'.get? b=qa o)->Q qW { s with heap:=h' }):qq (qp qc w) A (Rw v' vs.length qb) Q Ex s:=by
 obtain⟨i,a,rfl,ha,e⟩:=vM rv e
 refine b1 e λob h1 e=>?_
 rw[za] at h1
 cases ob with
 | list ws =>
  refine bi (t:=qa ws) e λ_ e=>?_
  cases e
  obtain⟨items,n,l1,r1,z1⟩:=I.list h1 ha
  rw[<-z1]
  exact dC r.handled l1.isList λh' he=>h _ h' r1 λb o e=>he b o (kR (Heap.lt_size e)) e
 | tuple ws =>
  refine bi (t:=qa ws) e λ_ e=>?_
  cases e
  obtain⟨items,l1,r1,z1⟩:=I.tuple h1 ha
  rw[<-z1]
  exact wpAny_unpackItems_tuple r.handled l1 λh' he=>h _ h' r1 λb o e=>he b o (kR (Heap.lt_size e)) e
 | _=>exact nn e
theorem UC (B:qS qc qd G tabs)(r:zf d A)(X:zi qd tabs env k Γ m ρ s.heap)(I:qt qc w qd G tabs s.heap ρ σ)
  (hc:AW k Γ es=qa is) (rv:qz ρ v v') (e:Aq σ v=qa vs) (hp:kg is vs m=qa m') (h:JA qc w qd G tabs env k Γ P ρ s m' σ):qq (qp qc w) A (assign (.Tuple es n pos) env v') P Ex s:=by
 obtain⟨h1,h2⟩:=Pu (env:=env) hc
 rw[arm_assign_Tuple]
 refine qm (jM ?_)
 unfold unpack
 rw[h1]
 have e1:(es.map λe=>((qg,assign e env):Bool×(qh->zr Unit))).length=vs.length:=by rw[qH,h2,OI hp]
 have e2:(es.map λe=>((qg,assign e env):Bool×(qh->zr Unit))).findIdx? (·.1)=qb:=by simp
 have e3:(es.map λe=>((qg,assign e env):Bool×(qh->zr Unit))).map (·.2)=es.map λe=>assign e env:=by simp
 rw[e1,e2,e3]
 refine qm (zV (Ue r I rv e λqW h' rr k'=>?_))
 exact Wl B hc (X.keeps k') (I.keeps B.tlt k') rr hp λkC tk₂ S₂ X₂ I₂=>h kC tk₂ ((qY.keeps k').trans S₂) X₂ I₂
theorem Yf (B:qS qc qd G tabs)(r:zf d A)(X:zi qd tabs env k Γ m ρ s.heap)(I:qt qc w qd G tabs s.heap ρ σ)
  (hc:we k Γ t=qa tg) (rv:qz ρ v v') (e:AP σ tg v m=qa m') (h:JA qc w qd G tabs env k Γ P ρ s m' σ):qq (qp qc w) A (assign t env v') P Ex s:=by
 cases t with
 | Name x pos =>
  refine b1 hc λi hi hc=>?_
  cases hc
  rw[Rv]
  exact qm (jM (HX B X I hi rv e h))
 | Tuple es n pos =>
  refine bi (t:=bn1 (AW k Γ es) λis=>qa (Tg.tup is)) hc λ_ hc=>b1 hc λis hi hc=>?_
  cases hc
  exact b1 (x:=Aq σ v) (f:=λvs=>kg is vs m) e λvs hv e=>UC B r X I hi rv hv e h
 | _=>exact nn hc
end
noncomputable def QQ (gens:List vk)(emit:zr Unit)(e:qA)(depth:Nat)(it ql:qh)(env:q0):zr Fin:=do
 let qa g:=gens[depth]? | unsupported "internal:comprehension-depth"
 wQ (if g.is_async != 0 then e.pos else g.iter.pos)
 match <-if g.is_async != 0 then asyncNext it else MM it with
 | none=>pure (.done .next)
 | some v =>
  Ru g.target it v
  assign g.target env v
  let mut ok:=qe
  for c in g.ifs do
   if ok then ok <-HH c env (zR c env)
  if ok then
   match gens[depth+1]? with
   | some g' =>
    let x <-zR g'.iter env
    wQ g'.iter.pos
    let x <-if g'.is_async != 0 then qhu g'.iter x else Rx g'.iter env x
    let _ <-runOwn (.compStart e (depth+1) (<-B9 [x] (if g'.is_async != 0 then asyncIter x else JZ x)) ql env) env
   | none=>emit
  again (.compLoop e depth it ql env)
structure EN (qc:zm)(w:qK)(e:qA)(gens:List vk)(emit:qh->q0->zr Unit):Prop where
 loop:∀dd it ql env,(qp qc w).den (.compLoop e dd it ql env)=(QQ gens (emit ql env) e dd it ql env).onRaise (λx=>do MO x env;Ry x)
 start:∀dd it ql env,(qp qc w).den (.compStart e dd it ql env)=(compStart e dd it ql env).onRaise (λx=>do MO x env;wQ theWindowsPlace)
 underL:∀(A:zh) dd it ql env,A.under (.compLoop e dd it ql env)=A
 underS:∀(A:zh) dd it ql env,A.under (.compStart e dd it ql env)=A
 quiet:∀dd it ql env,(Code.compLoop e dd it ql env).quiet=qe
 cl:clausesOf e=gens
noncomputable def P8 (elt:qA)(ql:qh)(env:q0):zr Unit:=do let _ <-call (.builtin "list.append") [ql,<-zR elt env]
noncomputable def NG (k v:qA)(ql:qh)(env:q0):zr Unit:=do
    let kv <-zR k env
    let vv <-B9 [kv] (zR v env)
    match ql with
    | .ref d=>do
     wQ { k.pos with endLine:=v.pos.endLine,endCol:=v.pos.endCol }
     B9 [kv,vv] (Z3 d kv vv)
    | _=>unsupported "internal:dictcomp"
theorem yG (qc:zm)(w:qK)(elt:qA)(gens:List vk)(sc:vh)(pos:qT):EN qc w (.ListComp elt gens sc pos) gens (P8 elt) where
 loop:=λ_ _ _ _=>rfl
 start:=λ_ _ _ _=>rfl
 underL:=λ_ _ _ _ _=>rfl
 underS:=λ_ _ _ _ _=>rfl
 quiet:=λ_ _ _ _=>rfl
 cl:=rfl
theorem dY (qc:zm)(w:qK)(k v:qA)(gens:List vk)(sc:vh)(pos:qT):EN qc w (.DictComp k v gens sc pos) gens (NG k v) where
 loop:=λ_ _ _ _=>rfl
 start:=λ_ _ _ _=>rfl
 underL:=λ_ _ _ _ _=>rfl
 underS:=λ_ _ _ _ _=>rfl
 quiet:=λ_ _ _ _=>rfl
 cl:=rfl
section
variable {qc:zm}{w:qK}{qd:Heap}{G:qf->Option qh}{tabs:List (qj×qj)}{d:Nat}{O:qE}{A:zh}{Ex:qh->qk->Prop}{s:qk}
 {ρ qr:List qj} {σ σ':qi} {v:V} {h h':Heap} {env:q0} {k:zg} {Γ:List qf} {m m':qx}
noncomputable def B2 (qc:zm)(w:qK)(qd:Heap)(G:qf->Option qh)(tabs:List (qj×qj))(d:Nat)(O:qE)(es:List qA)(k:zg)(Γ:List qf):Prop :=
 ∀{A:zh} {s:qk} {ρ:List qj} {m:qx} {σ:qi} {b:Bool} {σ':qi} {Q:Bool->qk->Prop} {Ex:qh->qk->Prop} {env:q0},
  zf d A->zi qd tabs env k Γ m ρ s.heap->qt qc w qd G tabs s.heap ρ σ->tsts O (cEs G es k Γ) m σ=qa (b,σ')->CF qc w qd G tabs Q ρ s b σ' ->
   qq (qp qc w) A (forIn es qe λc r=>if r=qe then do let ok <-HH c env (zR c env);pure (Cl ok) else pure (Cl r)) Q Ex s
theorem sT {es:List qA}(h:Q qg s) :
  qq (qp qc w) A (forIn es qg λc r=>if r=qe then do let ok <-HH c env (zR c env);pure (Cl ok) else pure (Cl r)) Q Ex s:=by
 induction es with
 | nil=>exact qB h
 | cons c es ih =>
  rw[C1,if_neg jy]
  exact qm (qB ih)
theorem qdC:B2 qc w qd G tabs d O [] k Γ:=λ{A s ρ m σ b σ' Q Ex env} r X I e R=>qB (R.of (qeh e) ρ s.heap s.toks (.refl ..) I)
theorem gP {c:qA}(hc:ST qc w qd G tabs d O c k Γ)(hs:B2 qc w qd G tabs d O es k Γ):B2 qc w qd G tabs d O (c :: es) k Γ:=λr X I e R=>by
 rw[C1,if_pos rfl]
 exact qck (a:=cE G c k Γ) (es:=cEs G es k Γ) e (λσ₁ e1 e=>qm (qm (hc r X I e1 λzj h1 qV S1 I1=>qB (hs r (X.step S1) I1 e (R.step S1)))))
  λσ₁ e1 e=>qm (qm (hc r X I e1 λzj h1 qV S1 I1=>qB (sT (R.of e zj h1 qV S1 I1))))
structure Ek (qd:Heap)(D:qj) where
 ok:Heap->List qj->List (V×V)->Prop
 step:∀{h h':Heap} {ρ qr:List qj} {ql},ok h ρ ql->(∀o,h.get? D=qa o->o.cls≠.type "frame" -> h'.get? D=qa o)->(∃l,qr=ρ++l)->ok h' qr ql
noncomputable def HR (qc:zm)(w:qK)(qd:Heap)(G:qf->Option qh)(tabs:List (qj×qj))(d:Nat)(k:zg)(Γ:List qf)(D:qj)(AC:Ek qd D)(leaf:Fg)(env:q0)(emit:zr Unit):Prop :=
 ∀{A:zh} {s:qk} {ρ:List qj} {m:qx} {σ:qi} {ql jK:List (V×V)} {σ':qi} {P:Unit->qk->Prop} {Ex:qh->qk->Prop},
  zf d A->zi qd tabs env k Γ m ρ s.heap->qt qc w qd G tabs s.heap ρ σ->D∉ρ->AC.ok s.heap ρ ql->leaf m σ ql=qa (jK,σ') ->
  (∀qr h' tk,qY qd (λb=>b=D) ρ s.heap qr h'->qt qc w qd G tabs h' qr σ'->AC.ok h' qr jK->P () { s with heap:=h',toks:=tk })->qq (qp qc w) A emit P Ex s
noncomputable def W1 (env:q0)(k:zg)(D:qj):qj->Prop:=λb=>b=D\/vd env k b
noncomputable def SX (qc:zm)(w:qK)(qd:Heap)(G:qf->Option qh)(tabs:List (qj×qj))(k:zg)(Γ:List qf)(D:qj)(AC:Ek qd D)(env:q0)(P:qk->Prop)(ρ:List qj)(h:Heap)(s:qk)(m:qx)(jK:List (V×V))(σ':qi):Prop :=
 ∀qr h' tk,qY qd (W1 env k D) ρ h qr h'->zi qd tabs env k Γ m qr h'->qt qc w qd G tabs h' qr σ'->AC.ok h' qr jK->D∉qr->P { s with heap:=h',toks:=tk }
theorem qY.free (S:qY qd W ρ h qr BC)(k':Hj I BC kC)(hI:h.get? I=qb):qY qd W ρ h qr kC :=
 ⟨S.pre,λb o h0 hb hw e=>(S.keep b o h0 hb hw e).trans λo' e'=>.of (k' b o' (by rintro rfl;rw[hI] at e;cases e) e'),λb o e=>(by obtain⟨o',e'⟩:=S.there b o e;refine⟨o',k' b o' (by rintro rfl;exact sn e hI) e'⟩)⟩
noncomputable def Jj (qc:zm)(w:qK)(qd:Heap)(G:qf->Option qh)(tabs:List (qj×qj))(d:Nat)(O:qE)(k:zg)(Γ:List qf)(D:qj)(AC:Ek qd D)(env:q0)(gs:List Gn)(leaf:Fg)(t:zr Unit):Prop :=
 ∀{A:zh} {s:qk} {ρ:List qj} {m:qx} {σ:qi} {ql jK:List (V×V)} {σ':qi} {P:Unit->qk->Prop} {Ex:qh->qk->Prop},
  zf d A->zi qd tabs env k Γ m ρ s.heap->qt qc w qd G tabs s.heap ρ σ->D∉ρ->AC.ok s.heap ρ ql->gens O gs leaf m σ ql=qa (jK,σ') ->
  SX qc w qd G tabs k Γ D AC env (P ()) ρ s.heap s m jK σ'->qq (qp qc w) A t P Ex s
theorem Mb (h:∀es n p,e≠.Set es n p)(env:q0)(x:qh):Rx e env x=pure x:=by
 cases e <;> first | rfl | exact absurd rfl (h _ _ _)
theorem T4 (X:zi qd tabs env k Γ m ρ h)(hb:kZ env k b):∃o,h.get? b=qa o/\qd.objs.size<=b/\b∉ρ/\((∃es ep,o.data=.dict es ep)\/∃v,o.data=.cell v):=by
 rcases hb with rfl | ⟨x,hx,hc⟩
 ·obtain⟨mm,⟨o,es,ep,ho,hd,_⟩,_⟩:=X.locals
  refine⟨o,ho,X.labove,X.lnotin,.inl ⟨es,ep,hd⟩⟩
 ·obtain⟨c,h1,h2,h3,cv,⟨o,ho,hd⟩,_⟩:=X.cells x hx
  obtain rfl:=sj hc h1
  refine⟨o,ho,h2,h3,.inr ⟨cv,hd⟩⟩
theorem v2.notOwn (x:v2 h ρ I it n j)(X:zi qd tabs env k Γ m qr h):¬kZ env k I:=λhw=>by
 obtain⟨o,ho,_,_,hd⟩:=T4 X hw
 have fin:∀{o' vs},h.get? I=qa o'->o'.data=.fields vs->False:=λe hd'=>by
  obtain rfl:=sj ho e
  rcases hd with ⟨es,ep,hd⟩ | ⟨v,hd⟩ <;> (rw[hd] at hd';cases hd')
 cases it with
 | list id=>obtain⟨a,ha,o',ho',_,hd'⟩:=x;exact fin ho' hd'
 | range a b=>obtain⟨_,hr⟩:=x;exact fin hr rfl
 | str s =>
  obtain⟨_,t,⟨o',ho',_,hd'⟩ | ⟨o',ho',_,hd'⟩⟩:=x
  ·exact fin ho' hd'
  ·exact fin ho' hd'
noncomputable def Dq (gs:List vk)(emit:qh->q0->zr Unit)(e:qA)(dd:Nat)(D:qj)(env:q0):zr Unit :=
 match gs[dd+1]? with
 | some g'=>do
  let x <-zR g'.iter env
  wQ g'.iter.pos
  let x <-if g'.is_async != 0 then qhu g'.iter x else Rx g'.iter env x
  let _ <-runOwn (.compStart e (dd+1) (<-B9 [x] (if g'.is_async != 0 then asyncIter x else JZ x)) (.ref D) env) env
 | none=>emit (.ref D) env
theorem WH {it:qh}(hg:gs[dd]?=qa ⟨t,iter,ifs,0⟩) :
  QQ gs (emit (.ref D) env) e dd it (.ref D) env=(do
   wQ iter.pos
   match <-MM it with
   | none=>pure (.done .next)
   | some v =>
    Ru t it v
    assign t env v
    let ok <-forIn ifs qe λc r=>if r=qe then do let ok <-HH c env (zR c env);pure (Cl ok) else pure (Cl r)
    if ok=qe then
     Dq gs emit e dd D env
     again (.compLoop e dd it (.ref D) env)
    else again (.compLoop e dd it (.ref D) env)):=by
 unfold QQ Dq
 rw[hg]
 cases gs[dd+1]? with
 | none=>rfl
 | some g' =>
  dsimp only
  cases hb:(g'.is_async != 0)
  ·simp only[FN,if_false,bind_assoc,pure_bind]
   rfl
  ·simp only[if_true,bind_assoc,pure_bind]
   rfl
structure CW (qc:zm)(w:qK)(qd:Heap)(G:qf->Option qh)(tabs:List (qj×qj))(env:q0)(k:zg)(Γ:List qf)(D:qj)(AC:Ek qd D)(I:qj)(it:It)(n:Nat)(ρp:List qj)(hp:Heap)
  (m:qx) (h:Heap) (ρ:List qj) (σ:qi) (ql:List (V×V)) (j:Nat):Prop where
 X:zi qd tabs env k Γ m ρ h
 inv:qt qc w qd G tabs h ρ σ
 dn:D∉ρ
 dl:∃o,h.get? D=qa o
 ac:AC.ok h ρ ql
 i:I∉ρ
 it:v2 h ρ I it n j
 S:qY qd (W1 env k D) ρp hp ρ h
section
variable {D:qj}{AC:Ek qd D}{I:qj}{it:It}{n j:Nat}{ρp:List qj}{hp:Heap}{ql jK:List (V×V)}
theorem CW.stepW (x:CW qc w qd G tabs env k Γ D AC I it n ρp hp m h ρ σ ql j)(hID:I≠D)(hb:qd.objs.size<=I)(hW:∀b,W b->W1 env k D b)(S:qY qd W ρ h qr h')(X':zi qd tabs env k Γ m' qr h')(I':qt qc w qd G tabs h' qr σ')(ac':AC.ok h' qr jK) :
  CW qc w qd G tabs env k Γ D AC I it n ρp hp m' h' qr σ' jK j :=
 ⟨X',I',(by obtain⟨_,ho⟩:=x.dl;exact S.notin x.dn ho),(by obtain⟨o,ho⟩:=x.dl;exact S.there D o ho),ac',(by obtain⟨_,ho,_⟩:=x.it.live;exact S.notin x.i ho),
  x.it.keepS (λo e=>S.keep I o hb x.i (λhw=>(hW _ hw).elim hID λhw=>x.it.notOwn x.X hw.all) e) S.ext,x.S.trans (S.weaken hW)⟩
theorem CW.step (x:CW qc w qd G tabs env k Γ D AC I it n ρp hp m h ρ σ ql j)(hID:I≠D)(hb:qd.objs.size<=I)(hDb:qd.objs.size<=D)(S:qY qd vr ρ h qr h')(I':qt qc w qd G tabs h' qr σ') :
  CW qc w qd G tabs env k Γ D AC I it n ρp hp m h' qr σ' ql j :=
 x.stepW hID hb (λ_ f=>f.elim) S (x.X.step S) I' (AC.step x.ac (λo e hc=>(S.keep D o hDb x.dn (λf=>f) e).1 hc) S.ext)
end
theorem Y3 (B:qS qc qd G tabs)(C:EN qc w e gs emit)
  (hg:gs[dd]?=qa ⟨t,iter,ifs,0⟩) (ht:we k Γ t=qa tg) (hifs:B2 qc w qd G tabs d O ifs k Γ) (hD:∀b,kZ env k b->b≠D) (hDb:qd.objs.size<=D)
  (inner:Jj qc w qd G tabs d O k Γ D AC env rest leaf (Dq gs emit e dd D env))
 (hall:jX σa it=qa all) (hID:I≠D) (hpI:hp.get? I=qb) (hb:qd.objs.size<=I) :
  ∀{xs:List V} {A:zh} {s:qk} {ρ:List qj} {σ:qi} {ql jK:List (V×V)} {σ':qi} {j:Nat} {m:qx} {R:AF->qk->Prop},
  zf d A->CW qc w qd G tabs env k Γ D AC I it all.length ρp hp m s.heap ρ σ ql j->xs=all.drop j->j<=all.length->wc it all (wa O tg (cEs G ifs k Γ) rest leaf m) xs σ ql=qa (jK,σ') ->
  SX qc w qd G tabs k Γ D AC env (R (.ok .next)) ρp hp s m jK σ'->C4 (qp qc w) A (.compLoop e dd (.ref I) (.ref D) env) R s:=by
 intro xs
 induction xs with
 | nil =>
  intro A s ρ σ ql jK σ' j m R r x hxs hj he hR
  refine bi (t:=qa (ql,σ)) he λhs he=>J0 ?_
  cases he
  rw[C.underL,C.loop]
  refine MP ?_
  rw[WH hg]
  have hjl:all.length<=j:=bO.mp hxs.symm
  obtain⟨oi,hoi,hfz,_,hfv⟩:=x.it.live
  refine qm (jM (qm (L5 r x.inv x.i (KU hall hs) x.it (λqQ=>absurd qQ (k8.mpr hjl)) (λ_ h' tk hk=>qB ?_) hj)))
  exact hR ρ h' tk (x.S.free hk hpI) (x.X.keepOwn λb o hb' e'=>hk b o (λe''=>x.it.notOwn x.X (e''▸hb')) e') (x.inv.keepBut B x.i hb hoi hfz hfv hk) (AC.step x.ac (λo e _=>hk D o hID.symm e) ⟨[],(jF _).symm⟩) x.dn
 | cons y xs ih =>
  intro A s ρ σ ql jK σ' j m R r x hxs hj he hR
  refine bi (t:=bnd (wa O tg (cEs G ifs k Γ) rest leaf m y σ ql) λa σ=>wc it all (wa O tg (cEs G ifs k Γ) rest leaf m) xs σ a) he λhs he=>b2 he λacc₁ σ₁ hbody he=>J0 ?_
  have qQ:j < all.length:=FY λh=>by rw[JW h] at hxs;cases hxs
  rw[MN qQ] at hxs
  injection hxs with hx0 hxs
  rw[C.underL,C.loop]
  refine MP ?_
  rw[WH hg]
  obtain⟨oi,hoi,hfz,_,hfv⟩:=x.it.live
  refine qm (jM (qm (L5 r x.inv x.i (KU hall hs) x.it (λ_ v' h1 qV rv hit1 hk hown=>?_) (λe=>absurd qQ (e▸j7 _)) hj)))
  have hno:=x.it.notOwn x.X
  have nil:∃l,ρ=ρ++l:=⟨[],(jF _).symm⟩
  have x1:CW qc w qd G tabs env k Γ D AC I it all.length ρp hp m h1 ρ σ ql (j+1):=⟨x.X.keepOwn λb o hb' e'=>hk b o (λe''=>hno (e''▸hb')) e',x.inv.keepBut B x.i hb hoi hfz hfv hk,x.dn,
   (by obtain⟨o,ho⟩:=x.dl;refine⟨o,hk D o hID.symm ho⟩),AC.step x.ac (λo e _=>hk D o hID.symm e) nil,x.i,hit1,x.S.free hk hpI⟩
  rw[<-hx0] at rv
  refine b1 hbody λm' hm hbody=>?_
  obtain⟨hm1,hle⟩:=qfh hm
  refine qm (TJ (λa ea I' eI=>?_) ?_)
  ·cases eI
   obtain⟨id,rfl⟩:=hown a ea
   obtain⟨a',_,o,ho,hc,_⟩:=hit1
   refine⟨o,ho,hc⟩
  refine qm (Yf B r x1.X x1.inv ht rv hm1 λh2 zl S2 X2 I2=>?_)
  have x2:CW qc w qd G tabs env k Γ D AC I it all.length ρp hp m' h2 ρ σ ql (j+1):=x1.stepW hID hb (λb hb=>.inr hb) S2 X2 I2 (AC.step x1.ac (λo e hc=>(S2.keep D o hDb x1.dn (λhw=>hD D hw.all rfl) e).1 hc) nil)
  refine bt hbody (λσ₂ ets hbody=>qm (hifs r X2 I2 ets λρ3 h3 tk3 S3 I3=>?_)) λσ₂ ets hbody=>qm (hifs r X2 I2 ets λρ3 h3 tk3 S3 I3=>?_)
  ·have x3:=x2.step hID hb hDb S3 I3
   refine qm (inner (s:={ s with heap:=h3,toks:=tk3 }) r x3.X I3 x3.dn x3.ac hbody λρ4 h4 tk4 S4 X4 I4 ac4 hD4=>?_)
   exact qB ⟨C.quiet _ _ _ _,ih (s:={ s with heap:=h4,toks:=tk4 }) r (x3.stepW hID hb (λ_ h=>h) S4 (X4.le hle) I4 ac4) hxs qQ he hR⟩
  ·cases hbody
   have x3:=x2.step hID hb hDb S3 I3
   exact qB ⟨C.quiet _ _ _ _,ih (s:={ s with heap:=h3,toks:=tk3 }) r { x3 with X:=x3.X.le hle } hxs qQ he hR⟩
theorem XJ {it ql:qh}(C:EN qc w e gs emit)
  (hg:gs[dd]?=qa ⟨t,iter,ifs,0⟩) (hi:∀{A:zh} {Q:qh->qk->Prop} {Ex:qh->qk->Prop},Q it s->qq (qp qc w) A (JZ it) Q Ex s)
  (h:C4 (qp qc w) A (.compLoop e dd it ql env) R s):C4 (qp qc w) A (.compStart e dd it ql env) R s:=by
 refine J0 ?_
 rw[C.underS,C.start]
 refine wpAny_notedAt ?_
 unfold compStart
 rw[C.cl,hg]
 show qq _ _ (EE >>= _) _ _ s
 refine qm (wpAny_askSetting (wpAny_ite ?_))
 split
 ·exact qm (qB (qB ⟨C.quiet _ _ _ _,h⟩))
 ·exact qm (JK (qm (jM (qm (hi (qB ⟨C.quiet _ _ _ _,h⟩))))))
theorem qbt (hg:gs[dd+1]?=qb)(hD:∀b,kZ env k b->b≠D)(hDl:∀{h ρ ql},AC.ok h ρ ql->∃o,h.get? D=qa o)
  (lf:HR qc w qd G tabs d k Γ D AC leaf env (emit (.ref D) env)):Jj qc w qd G tabs d O k Γ D AC env [] leaf (Dq gs emit e dd D env):=λ{A s ρ m σ ql jK σ' P Ex} r X I Ak hac he hR=>by
 unfold Dq
 rw[hg]
 refine lf r X I Ak hac (qaA he) λqr h' tk S I' ac'=>?_
 exact hR qr h' tk (S.weaken λb hb=>.inl hb) (X.stepW S λb hb e=>hD b hb e) I' ac' ((by obtain⟨o,ho⟩:=hDl hac;exact S.notin Ak ho))
theorem rR (B:qS qc qd G tabs)(C:EN qc w e gs emit)
  (hg:gs[dd+1]?=qa ⟨t,iter,ifs,0⟩) (ht:we k Γ t=qa tg) (hit:SE qc w qd G tabs d O iter k Γ) (hifs:B2 qc w qd G tabs d O ifs k Γ) (hD:∀b,kZ env k b->b≠D) (hDb:qd.objs.size<=D)
  (hDl:∀{h ρ ql},AC.ok h ρ ql->∃o,h.get? D=qa o)
  (inner:Jj qc w qd G tabs d O k Γ D AC env rest leaf (Dq gs emit e (dd+1) D env)) :
  Jj qc w qd G tabs d O k Γ D AC env (.mk tg (cE G iter k Γ) (cEs G ifs k Γ) :: rest) leaf (Dq gs emit e dd D env):=λ{A s ρ m σ ql jK σ' P Ex} r X I Ak hac he hR=>by
 unfold Dq
 rw[hg]
 refine qdR he λv σ₁ e1 it e2 all e3 he=>?_
 refine qm (hit r X I e1 λx' zj h1 qV S1 I1 r1=>qm (jM ?_))
 show qq _ _ (Rx iter env x' >>= _) _ _ _
 refine qm (FZ (Mb (Ic e1) env x') (qm (zV ?_)))
 show qq _ _ (JZ x') _ _ _
 refine KC (s:={ s with heap:=h1,toks:=qV }) I1 r1 e2 e3 λo hi=>?_
 have kp:∀b o',h1.get? b=qa o'->(h1.push o).get? b=qa o':=λb o' e=>Heap.get?_push_of_some _ e
 have X1:=(X.step S1).keeps kp
 have I1':=I1.keeps B.tlt kp
 have ac1:=AC.step hac (λo e hc=>(S1.keep D o hDb Ak (λf=>f) e).1 hc) S1.ext
 obtain⟨oD,hoD⟩:=hDl ac1
 have hID:h1.objs.size≠D:=λe=>absurd (Heap.lt_size (e▸hoD)) (e▸j7 _)
 have hDρ1:D∉zj:=(by obtain⟨o0,ho0⟩:=hDl hac;exact S1.notin Ak ho0)
 have hIρ:h1.objs.size∉zj:=λhm=>(by obtain⟨o,ho⟩:=I1.here hm;exact absurd (Heap.lt_size ho) (j7 _))
 refine qm (wpAny_runOwn (XJ C hg (λhq=>VX hi hq) ?_))
 exact Y3 B C hg ht hifs hD hDb inner (hp:=h1) (ρp:=zj) e3 hID (B0 _) (B.size _ I1.old) (m:=m) (s:={ s with heap:=h1.push o,toks:=qV }) (A:=A.mark qb) r
  ⟨X1,I1',hDρ1,⟨oD,kp _ _ hoD⟩,AC.step ac1 (λo e _=>kp _ _ e) ⟨[],(jF _).symm⟩,hIρ,hi,.keeps kp⟩ rfl (zN _) he λzv h2 zl S2 X2 I2 ac2 hD2 =>
   qB (hR zv h2 zl ((S1.weaken λb f=>f.elim).trans S2) X2 I2 ac2 hD2)
end
theorem W5:j3 Γ x=qb↔x∉Γ:=by
 induction Γ with
 | nil=>refine⟨λ_=>AH,λ_=>rfl⟩
 | cons y r ih =>
  show (match j3 r x with | some i=>qa (i+1) | none=>if y == x then qa 0 else qb)=qb↔_
  cases hr:j3 r x with
  | some i=>simp only[reduceCtorEq,false_iff,jJ,not_or,not_and,bP];intro _;exact MQ λh=>by rw[ih.mpr h] at hr;cases hr
  | none =>
   have:=ih.mp hr
   by_cases hy:(y == x)=qe
   ·simp[eq_of_beq hy]
   ·rw[if_neg hy]
    simp only[jJ,true_iff,not_or]
    refine⟨λe=>hy (by simp[e]),this⟩
theorem WZ (a b:List qf)(x:qf):j3 (a++b) x=match j3 b x with | some i=>qa (i+a.length) | none=>j3 a x:=by
 induction a with
 | nil=>show j3 b x=_;cases j3 b x <;> rfl
 | cons y r ih =>
  show (match j3 (r++b) x with | some i=>qa (i+1) | none=>if y == x then qa 0 else qb)=_
  rw[ih]
  cases h:j3 b x with
  | some i=>simp[EA]
  | none=>rfl
theorem vN {α:Type}{l:List (qf×α)}{n:qf}{c:α}(h:l.lookup n=qa c):(n,c)∈l:=mem_of_lookup h
theorem Fw [DecidableEq α]:∀{l:List α},Ae l=qe->l.Nodup
 | [],_=>.nil
 | x :: r,h=>by
  have h:=(jT _ _).mp h
  exact k7.mpr ⟨λhm=>by rw[qhv.mpr hm] at h;exact ff h.1,Fw h.2⟩
theorem KG:∀{l:List (qf×α)}{n:qf}{c:α},(l.map (·.1)).Nodup->(n,c)∈l->l.lookup n=qa c
 | (k,v) :: r,n,c,hn,h=>by
  simp only[z7,k7] at hn
  rcases jJ.mp h with e | h1
  ·cases e;simp
  ·have:n≠k:=by rintro rfl;exact hn.1 (qG.mpr ⟨(n,c),h1,rfl⟩)
   rw[Al,beq_eq_false_iff_ne.mpr this]
   exact KG hn.2 h1
theorem TN:x∈zA k↔∃kd,(x,kd)∈k/\QH kd=qe:=by
 unfold zA
 simp only[qG,MR]
 constructor
 ·rintro ⟨⟨n,kd⟩,⟨h1,h2⟩,rfl⟩;refine⟨kd,h1,h2⟩
 ·rintro ⟨kd,h1,h2⟩;refine⟨(x,kd),⟨h1,h2⟩,rfl⟩
theorem Tw {c:qf->DP->Bool}:∀(l:zg)(x:qf),(l.map λ(n,k)=>if c n k then (n,F0) else (n,k)).lookup x=(l.lookup x).map λk=>if c x k then .cell else k
 | [],x=>rfl
 | (n,k) :: r,x=>by
  show List.lookup x ((if c n k then (n,F0) else (n,k)) :: _)=_
  have e:(if c n k then (n,F0) else (n,k))=(n,if c n k then F0 else k):=by split <;> rfl
  rw[e,Al,Al]
  cases hx:x == n with
  | true=>rw[eq_of_beq hx];rfl
  | false=>exact Tw r x
theorem Kj (sc:vh)(env:q0)(x:qf):(HK sc env).names.lookup x=(sc.names.lookup x).map λk=>if (k == .free&&env.scope.kind == .function&&env.kindOf x == qa .cell) then .cell else k :=
 Tw (c:=λn k=>k == .free&&env.scope.kind == .function&&env.kindOf n == qa .cell) sc.names x
theorem EY:∀(names:zg)(n:Nat)(ql:List (qf×qj)),kG n names ql=kG n names []++ql
 | [],n,ql=>rfl
 | (x,k) :: r,n,ql=>by
  unfold kG
  split
  ·rw[EY r (n+1) ((x,n) :: ql),EY r (n+1) [(x,n)]];simp
  ·exact EY r n ql
set_option tactic.hygienic true in
theorem NZ:∀(names:zg)(n:Nat){x:qf}{c:qj},(x,c)∈kG n names []->(x,F0)∈names
 | [],n,x,c=>@λh=>by simp[kG] at h
 | (y,k) :: r,n,x,c=>@λh=>by
  unfold kG at h
  split at h
  ·rename_i hk
   rw[EY] at h
   rcases zT.mp h with h | h
   ·exact zI _ (NZ r _ h)
   ·simp at h
    rw[h.1,eq_of_beq hk];exact zB
  ·exact zI _ (NZ r _ h)
theorem GA:∀(names:zg)(n:Nat){x:qf},(x,F0)∈names->∃c,(kG n names []).lookup x=qa c
 | (y,k) :: r,n,x,h=>by
  unfold kG
  rcases jJ.mp h with e | h
  ·cases e
   rw[if_pos (by decide),EY,Rz]
   cases hl:(kG (n+1) r []).lookup y with
   | some c=>refine⟨c,by simp⟩
   | none=>refine⟨n,by simp⟩
  ·split
   ·rw[EY,Rz]
    obtain⟨c,hc⟩:=GA r (n+1) h
    refine⟨c,by simp[hc]⟩
   ·exact GA r n h
noncomputable def Bo (env:q0):zg->List (qf×qj)->List (qf×qj)
 | [],ql=>ql
 | (x,k) :: r,ql=>Bo env r (if k == .free then (match env.cells.lookup x with | some c=>(x,c) :: ql | none=>ql) else ql)
theorem OO {env:q0}{k:DP}:Bo env ((x,k) :: r) ql=Bo env r (if k == .free then (match env.cells.lookup x with | some c=>(x,c) :: ql | none=>ql) else ql):=rfl
theorem qb0 {env:q0}(h:∀x,(x,J1)∈sc.names->∃c,env.cells.lookup x=qa c):RA sc env=pure (Bo env sc.names []):=by
 have key:∀(l:zg) (ql:List (qf×qj)),(∀x,(x,J1)∈l->∃c,env.cells.lookup x=qa c) ->
   (forIn l ql λ(x:qf×DP) (r:List (qf×qj))=>(match x with
    | (name,kind)=>if kind == .free then (do let __do_lift <-bQ env name;pure (Cl ((name,__do_lift) :: r))) else pure (Cl r):zr (ForInStep (List (qf×qj)))))=pure (Bo env l ql):=by
  intro l
  induction l with
  | nil=>intro ql _;rfl
  | cons y r ih =>
   intro ql hl
   obtain⟨x,k⟩:=y
   rw[C1]
   dsimp only
   rw[OO]
   by_cases hk:(k == J1)=qe
   ·rw[if_pos hk,if_pos hk]
    obtain⟨c,hc⟩:=hl x (by rw[eq_of_beq hk];exact zB)
    have:bQ env x=pure c:=by unfold bQ;rw[hc]
    rw[this,pure_bind,pure_bind,hc]
    exact ih _ λz hz=>hl z (zI _ hz)
   ·rw[if_neg hk,if_neg hk,pure_bind]
    exact ih _ λz hz=>hl z (zI _ hz)
 have:=key sc.names [] h
 unfold RA
 first
  | exact this
  | (simp only[bind_pure] at this ⊢;exact this)
set_option tactic.hygienic true in
theorem Xn {env:q0}:∀(l:zg)(ql:List (qf×qj)),ql.lookup x=env.cells.lookup x->(Bo env l ql).lookup x=env.cells.lookup x
 | [],ql,h=>h
 | (y,k) :: r,ql,h=>by
  rw[OO]
  refine Xn r _ ?_
  split
  ·split
   ·rename_i c hc
    rw[Al]
    cases hx:x == y with
    | true=>rw[eq_of_beq hx];exact hc.symm
    | false=>exact h
   ·exact h
  ·exact h
theorem UY {env:q0}:∀(l:zg)(ql:List (qf×qj)),(x,J1)∈l->(∃c,env.cells.lookup x=qa c)->(Bo env l ql).lookup x=env.cells.lookup x
 | (y,k) :: r,ql,h,⟨c,hc⟩=>by
  rw[OO]
  rcases jJ.mp h with e | h
  ·cases e
   refine Xn r _ ?_
   rw[if_pos (by decide),hc]
   simp
  ·exact UY r _ h ⟨c,hc⟩
theorem YS (h:DM sc k=qe):sc.kind=.function/\sc.isGenerator=qg/\sc.isCoroutine=qg/\(sc.names.map (·.1)).Nodup/\DL k=qe /\
  ∀x kd,(x,kd)∈sc.names->kd=.local\/kd=.cell\/kd=.globalImplicit\/(kd=.free/\Da k x):=by
 obtain⟨h,h5⟩:=z0.mp h
 obtain⟨h,h6⟩:=z0.mp h
 obtain⟨h,h4⟩:=z0.mp h
 obtain⟨h,h3⟩:=z0.mp h
 obtain⟨h1,h2⟩:=z0.mp h
 replace h5:=wS.mp h5
 refine⟨eq_of_beq h1,(F1 _).mp h2,(F1 _).mp h3,Fw h4,h6,λx kd hx=>?_⟩
 have:=h5 _ hx
 cases kd with
 | «local» => exact .inl rfl
 | cell=>exact .inr (.inl rfl)
 | globalImplicit=>exact .inr (.inr (.inl rfl))
 | free=>exact .inr (.inr (.inr ⟨rfl,uU this⟩))
 | _=>exact ff this
section
variable {qc:zm}{w:qK}{qd:Heap}{G:qf->Option qh}{tabs:List (qj×qj)}{d:Nat}{O:qE}{A:zh}{Ex:qh->qk->Prop}{s:qk}
 {ρ qr:List qj} {σ σ':qi} {v:V} {h h':Heap} {env:q0} {k:zg} {Γ:List qf} {m m':qx}
theorem iC
  (hQ:Q (J2 sc s.heap.objs.size env.globals (kG (s.heap.objs.size+1) sc.names []++cl) env.qual qb .none (qa env) vi)
   {s with heap:=MS (s.heap.push { cls:=.type "dict", data:=.dict #[] }) sc.names }) :
  qq (qp qc w) A (F2 sc env.globals cl [] env.qual qb .none (qa env)) Q Ex s:=by
 simp only[F2,Option.isSome_some,if_true]
 refine qm (Q6 ?_)
 refine qm (qhw _ (λname kind cells=>by cases hkc:kind == F0 <;> simp) _ _ _ _ ?_)
 rw[show ({ s with heap:=s.heap.push { cls:=.type "dict", data:=.dict #[] } }:qk).heap.objs.size=s.heap.objs.size+1 from Heap.size_push ..]
 rw[EY]
 exact qm (qB (qB hQ))
noncomputable def Du (sc:vh)(env:q0)(L:qj):q0 :=
 {J2 sc L env.globals (kG (L+1) sc.names []++Bo env sc.names []) env.qual qb .none (qa env) vi with scope:=HK sc env }
set_option tactic.hygienic true in
theorem qfx (X:zi qd tabs env k Γ m ρ h){sc:vh}(hs:DM sc k=qe){hb:Heap}(hbase:qd.objs.size<=hb.objs.size)(keep:∀b o,h.get? b=qa o->hb.get? b=qa o)(hρ:∀a∈ρ,∃o,hb.get? a=qa o) :
  zi qd tabs (Du sc env hb.objs.size) sc.names (Γ++zA sc.names) (m++zS (zA sc.names).length qb) ρ (MS (hb.push { cls:=.type "dict", data:=.dict #[] }) sc.names) /\
  (∀b,kZ (Du sc env hb.objs.size) sc.names b->hb.get? b=qb\/∃o,h.get? b=qa o) /\
  (∀b,vd (Du sc env hb.objs.size) sc.names b->hb.get? b=qb):=by
 obtain⟨s1,s2,s3,s4,s6,s5⟩:=YS hs
 have kd_of:∀{x kd},sc.names.lookup x=qa kd->(x,kd)∈sc.names:=λe=>vN e
 have free_of:∀{x},(x,J1)∈sc.names->Da k x:=λhx=>by
  rcases s5 _ _ hx with h | h | h | h
  ·cases h
  ·cases h
  ·cases h
  ·exact h.2
 have free_cell:∀{x},(x,J1)∈sc.names->∃c,env.cells.lookup x=qa c/\∃o,h.get? c=qa o:=λhx=>by
  obtain⟨c,h1,_,_,cv,⟨o,ho,_⟩,_⟩:=X.cells _ (free_of hx)
  refine⟨c,h1,o,ho⟩
 have ok:=qhx sc.names (hb.push { cls:=.type "dict", data:=.dict #[] }) (hb.objs.size+1) [] ⟨λ_ _ hm=>(nomatch hm),bT⟩ (by rw[Heap.size_push];exact qU _)
 rw[Heap.size_push] at ok
 have kp:∀b o,hb.get? b=qa o->(MS (hb.push { cls:=.type "dict", data:=.dict #[] }) sc.names).get? b=qa o:=λb o e=>J3 _ _ b o (Heap.get?_push_of_some _ e)
 have own_iff:∀{x},x∈zA sc.names->∃kd,sc.names.lookup x=qa kd/\(kd=.local\/kd=.cell):=λhx=>by
  obtain⟨kd,h1,h2⟩:=TN.mp hx
  refine⟨kd,KG s4 h1,qbK h2⟩
 have own_in:∀{x kd},sc.names.lookup x=qa kd->(kd=.local\/kd=.cell)->x∈zA sc.names:=λe hk=>TN.mpr ⟨_,kd_of e,by rcases hk with rfl | rfl <;> rfl⟩
 have cells_own:∀{x},sc.names.lookup x=qa .cell->∃c,(Du sc env hb.objs.size).cells.lookup x=qa c/\(x,c)∈kG (hb.objs.size+1) sc.names []:=λ{x} e=>by
  obtain⟨c,hc⟩:=GA sc.names (hb.objs.size+1) (kd_of e)
  refine⟨c,?_,vN hc⟩
  show (kG (hb.objs.size+1) sc.names []++Bo env sc.names []).lookup x=qa c
  rw[Rz,hc];rfl
 have cells_free:∀{x},sc.names.lookup x=qa .free->(Du sc env hb.objs.size).cells.lookup x=env.cells.lookup x:=λ{x} e=>by
  have hn:(kG (hb.objs.size+1) sc.names []).lookup x=qb:=by
   cases hl:(kG (hb.objs.size+1) sc.names []).lookup x with
   | none=>rfl
   | some c =>
    have:=KG s4 (NZ _ _ (vN hl))
    rw[e] at this;cases this
  obtain⟨c,hc,_⟩:=free_cell (kd_of e)
  show (kG (hb.objs.size+1) sc.names []++Bo env sc.names []).lookup x=_
  rw[Rz,hn]
  exact UY _ _ (kd_of e) ⟨c,hc⟩
 have big:∀{a},hb.objs.size<=a->hb.get? a=qb:=λ{a} ha=>by
  cases e:hb.get? a with
  | none=>rfl
  | some o=>exact absurd (Heap.lt_size e) (k8.mpr ha)
 have isIdx:∀{x i},x∈zA sc.names->j3 (Γ++zA sc.names) x=qa i->z5 (m++zS (zA sc.names).length qb) i=qb:=λ{x i} hx hi=>by
  rw[WZ] at hi
  split at hi
  ·rename_i j hj
   cases hi
   have hjl:=Zs hj
   rw[Hl,J4 (by rw[X.len];exact Rf ..),X.len,Nat.add_sub_cancel,qhy,if_pos hjl]
   rfl
  ·rename_i hj
   exact absurd hx (W5.mp hj)
 refine⟨?_,?_,?_⟩
 ·refine
   {kind:=s1,glob:=X.glob,blt:=X.blt,loc:=λx e=>?_,fre:=λx e=>?_,cel:=λx e=>?_,glo:=λx e=>?_,code:=λ_=>X.code s6,len:=by simp[X.len],labove:=hbase,lnotin:=λhm=>?_,
    locals:=⟨_,(Heap.Ns.new hb (.type "dict")).keeps (J3 _ _),λx i v h1 h2 h3=>?_⟩,cells:=λx hx=>?_,inj:=λx y c hx hy e1 e2=>?_ }
  ·show (HK sc env).names.lookup x=_
   rw[Kj,e];rfl
  ·show (HK sc env).names.lookup x=_\/(HK sc env).names.lookup x=_
   rw[Kj]
   rcases e with e | e
   ·rw[e];exact .inl rfl
   ·rw[e]
    simp only[Option.map_some]
    split
    ·exact .inl rfl
    ·exact .inr rfl
  ·show (HK sc env).names.lookup x=_
   rw[Kj,e];rfl
  ·show (HK sc env).names.lookup x=_
   rw[Kj,e];rfl
  ·rcases hx with hx | hx <;> rcases hy with hy | hy
   ·obtain⟨c1,a1,b1⟩:=cells_own hx
    obtain⟨c2,a2,b2⟩:=cells_own hy
    obtain rfl:=sj e1 a1
    obtain rfl:=sj e2 a2
    exact qhz ok.apart b1 b2
   ·obtain⟨c1,a1,b1⟩:=cells_own hx
    obtain rfl:=sj e1 a1
    have:=(ok.empty _ _ b1).2
    obtain⟨c2,a2,o,ho⟩:=free_cell (kd_of hy)
    rw[cells_free hy,a2] at e2;cases e2
    exact absurd (Heap.lt_size (keep _ _ ho)) (k8.mpr (by lia))
   ·obtain⟨c1,a1,b1⟩:=cells_own hy
    obtain rfl:=sj e2 a1
    have:=(ok.empty _ _ b1).2
    obtain⟨c2,a2,o,ho⟩:=free_cell (kd_of hx)
    rw[cells_free hx,a2] at e1;cases e1
    exact absurd (Heap.lt_size (keep _ _ ho)) (k8.mpr (by lia))
   ·rw[cells_free hx] at e1
    rw[cells_free hy] at e2
    exact X.inj x y c (free_of (kd_of hx)) (free_of (kd_of hy)) e1 e2
  ·obtain⟨o,ho⟩:=hρ _ hm
   exact absurd (Heap.lt_size ho) (j7 _)
  ·rw[isIdx (own_in h1 (.inl rfl)) h2] at h3;cases h3
  ·rcases hx with hx | hx
   ·obtain⟨c,h1,h2⟩:=cells_own hx
    obtain⟨h3,h4⟩:=ok.empty _ _ h2
    refine⟨c,h1,by lia,λhm=>?_,qb,h3,λi v e1 e2=>?_⟩
    ·obtain⟨o,ho⟩:=hρ _ hm
     exact absurd (Heap.lt_size ho) (k8.mpr (by lia))
    ·rw[isIdx (own_in hx (.inr rfl)) e1] at e2;cases e2
   ·obtain⟨c,h1,h2,h3,cv,h4,h5⟩:=X.cells _ (free_of (kd_of hx))
    refine⟨c,(cells_free hx).trans h1,h2,h3,cv,h4.keeps λb o e=>kp b o (keep b o e),λi v e1 e2=>?_⟩
    have hno:x∉zA sc.names:=λhm=>by
     obtain⟨kd,g1,g2⟩:=own_iff hm
     obtain rfl:=sj hx g1
     rcases g2 with g2 | g2 <;> cases g2
    rw[WZ,W5.mpr hno] at e1
    dsimp only at e1
    have hil:=Zs e1
    rw[Hl,Ri (by rw[X.len];exact hil),<-Hl] at e2
    exact h5 i v e1 e2
 ·rintro b (rfl | ⟨x,hx,hc⟩)
  ·exact .inl (big (qU _))
  ·rcases hx with hx | hx
   ·obtain⟨c1,a1,b1⟩:=cells_own hx
    obtain rfl:=sj hc a1
    have:=(ok.empty _ _ b1).2
    exact .inl (big (by lia))
   ·obtain⟨c2,a2,o,ho⟩:=free_cell (kd_of hx)
    rw[cells_free hx,a2] at hc;cases hc
    exact .inr ⟨o,ho⟩
 ·rintro b (rfl | ⟨x,hx,hc⟩)
  ·exact big (qU _)
  ·obtain⟨c1,a1,b1⟩:=cells_own hx
   obtain rfl:=sj hc a1
   have:=(ok.empty _ _ b1).2
   exact big (by lia)
theorem qY.dropAll (S:qY qd W ρ h qr h')(hW:∀b,W b->h.get? b=qb):qY qd vr ρ h qr h' :=
 ⟨S.pre,λb o h0 hb _ e=>S.keep b o h0 hb (λw=>by rw[hW b w] at e;cases e) e,S.there⟩
theorem qY.add (S:qY qd W ρ h qr h')(hD:h.get? D=qb):qY qd W ρ h (qr++[D]) h':=by
 obtain⟨l,e,hf⟩:=S.pre
 refine⟨⟨l++[D],by rw[e,jq],λa ha=>by
  rcases zT.mp ha with h1 | h1
  ·exact hf a h1
  ·simp at h1;subst h1;exact hD⟩,S.keep,S.there⟩
inductive GL (qc:zm)(w:qK)(qd:Heap)(G:qf->Option qh)(tabs:List (qj×qj))(d:Nat)(O:qE)(k:zg)(Γ:List qf):List vk->List Gn->Prop
 | nil:GL qc w qd G tabs d O k Γ [] []
 | cons {t iter:qA} {ifs:List qA} {tg:Tg} {gs:List vk} {rest:List Gn}:we k Γ t=qa tg->SE qc w qd G tabs d O iter k Γ->B2 qc w qd G tabs d O ifs k Γ ->
   GL qc w qd G tabs d O k Γ gs rest->GL qc w qd G tabs d O k Γ (⟨t,iter,ifs,0⟩ :: gs) (.mk tg (cE G iter k Γ) (cEs G ifs k Γ) :: rest)
theorem oK (B:qS qc qd G tabs)(C:EN qc w e gs emit)(hD:∀b,kZ env k b->b≠D)(hDb:qd.objs.size<=D)
  (hDl:∀{h ρ ql},AC.ok h ρ ql->∃o,h.get? D=qa o) (lf:HR qc w qd G tabs d k Γ D AC leaf env (emit (.ref D) env)) :
  ∀{tl:List vk} {rest:List Gn} {dd:Nat},GL qc w qd G tabs d O k Γ tl rest->gs.drop (dd+1)=tl->Jj qc w qd G tabs d O k Γ D AC env rest leaf (Dq gs emit e dd D env):=by
 intro tl rest dd hg
 induction hg generalizing dd with
 | nil =>
  intro hd
  exact qbt (by simpa using hd) hD hDl lf
 | cons ht hi hf _ ih =>
  intro hd
  have qQ:dd+1 < gs.length:=by
   rcases JJ (dd+1) gs.length with h | h
   ·exact h
   ·rw[JW h] at hd;cases hd
  rw[MN qQ] at hd
  injection hd with h1 h2
  intro A s ρ m σ ql jK σ' P Ex a1 a2 a3 a4 a5 a6 a7
  refine rR B C (by rw[kh qQ,h1]) ht hi hf hD hDb hDl ?_ a1 a2 a3 a4 a5 a6 a7
  exact ih h2
theorem Y0 (B:qS qc qd G tabs)(hfr:dobj.isFreed=qg){use:Option (qh->zr Unit)}
  (C:EN qc w e (⟨t,iter,ifs,0⟩ :: gs) emit) (hs:DM sc k=qe) {tg:Tg} {rest:List Gn} {leaf:Fg} {AC:∀D,Ek qd D} {Q:qh->qk->Prop}
  (hnew:∀{A:zh} {s:qk} {Q:qh->qk->Prop} {Ex:qh->qk->Prop},Q (.ref s.heap.objs.size) { s with heap:=s.heap.push dobj }->qq (qp qc w) A newAcc Q Ex s)
  (hok:∀{h:Heap} {ρ:List qj} {D:qj},h.get? D=qa dobj->(AC D).ok h ρ []) (hDl:∀{D h ρ ql},(AC D).ok h ρ ql->∃o,h.get? D=qa o)
  (ht:we sc.names (Γ++zA sc.names) t=qa tg) (hiter:SE qc w qd G tabs d O iter k Γ) (hifs:B2 qc w qd G tabs d O ifs sc.names (Γ++zA sc.names))
  (hg:GL qc w qd G tabs d O sc.names (Γ++zA sc.names) gs rest)
  (lf:∀D cenv,qd.objs.size<=D->HR qc w qd G tabs d sc.names (Γ++zA sc.names) D (AC D) leaf cenv (emit (.ref D) cenv))
  {σ₁:qi} {it:It} {all:List V} {jK:List (V×V)} (r:zf d A) (X:zi qd tabs env k Γ m ρ s.heap) (I:qt qc w qd G tabs s.heap ρ σ)
  (e1:ev O (cE G iter k Γ) m σ=qa (v,σ₁)) (e2:vu σ₁ v=qa it) (e3:jX σ₁ it=qa all)
  (e4:wc it all (wa O tg (cEs G ifs sc.names (Γ++zA sc.names)) rest leaf (m++zS (zA sc.names).length qb)) all σ₁ []=qa (jK,σ'))
  (fin:∀D L qr h' tk mL,qY qd vr ρ s.heap qr h'->qt qc w qd G tabs h' qr σ'->s.heap.get? D=qb->D∉qr->qd.objs.size<=D->(AC D).ok h' qr jK->D≠L->s.heap.get? L=qb->L∉qr->qd.objs.size<=L->h'.Ns L mL ->
   MU (qp qc w) A Ex use Q (.ref D) L (.ok .next) { s with heap:=h',toks:=tk }) :
  qq (qp qc w) A (bU e sc env pos newAcc qg (zR iter env) use) Q Ex s:=by
 obtain⟨s1,s2,s3,s4,s6,s5⟩:=YS hs
 have hclo:RA sc env=pure (Bo env sc.names []):=qb0 λx hx=>by
  rcases s5 _ _ hx with h | h | h | h
  ·cases h
  ·cases h
  ·cases h
  ·obtain⟨c,h1,_⟩:=X.cells _ h.2;refine⟨c,h1⟩
 refine wpAny_comprehension_free (g:=⟨t,iter,ifs,0⟩) (gs:=gs) (cl:=Bo env sc.names []) C.cl (λx=>Mb (Ic e1) env x) hclo s1 (λx hx hl=>KG s4 (by rw[<-hl];exact hx)) ?_
 refine hiter r X I e1 λx' zj h1 qV S1 I1 r1=>?_
 refine KC (s:={ s with heap:=h1,toks:=qV }) I1 r1 e2 e3 λo hi=>?_
 refine hnew ?_
 refine iC ?_
 show C4 (qp qc w) A (.compStart e 0 (.ref h1.objs.size) (.ref (h1.push o).objs.size) (Du sc env ((h1.push o).push dobj).objs.size)) _ _
 have kp1:∀b o',h1.get? b=qa o'->((h1.push o).push dobj).get? b=qa o':=λb o' e=>Heap.get?_push_of_some _ (Heap.get?_push_of_some _ e)
 have z1:(h1.push o).objs.size=h1.objs.size+1:=Heap.size_push ..
 have z2:((h1.push o).push dobj).objs.size=h1.objs.size+2:=by rw[Heap.size_push,z1]
 have X1:=X.step S1
 have hρ1:∀a∈zj,∃o',((h1.push o).push dobj).get? a=qa o':=λa ha=>(by obtain⟨o',ho'⟩:=I1.here ha;refine⟨o',kp1 _ _ ho'⟩)
 have hb1:qd.objs.size<=h1.objs.size:=B.size _ I1.old
 obtain⟨X4,hall,hown⟩:=qfx X1 hs (hb:=(h1.push o).push dobj) (by rw[z2];lia) kp1 hρ1
 generalize hH:MS (((h1.push o).push dobj).push { cls:=.type "dict", data:=.dict #[] }) sc.names=h4 at X4 ⊢
 have kp4:∀b o',((h1.push o).push dobj).get? b=qa o'->h4.get? b=qa o':=λb o' e=>hH▸J3 _ _ b o' (Heap.get?_push_of_some _ e)
 have kp14:∀b o',h1.get? b=qa o'->h4.get? b=qa o':=λb o' e=>kp4 _ _ (kp1 _ _ e)
 have I4:=I1.keeps B.tlt kp14
 have hDobj:h4.get? (h1.push o).objs.size=qa dobj:=kp4 _ _ (Heap.get?_push_size _ hfr)
 have big:∀{a},h1.objs.size<=a->h1.get? a=qb:=λ{a} ha=>by
  cases e:h1.get? a with
  | none=>rfl
  | some o=>exact absurd (Heap.lt_size e) (k8.mpr ha)
 have notρ:∀{a},h1.objs.size<=a->a∉zj:=λ{a} ha hm=>by
  obtain⟨o,ho⟩:=I1.here hm
  rw[big ha] at ho;cases ho
 have old:∀{a},h1.get? a=qb->s.heap.get? a=qb:=λ{a} ha=>by
  cases e:s.heap.get? a with
  | none=>rfl
  | some o'=>obtain⟨o'',e'⟩:=S1.there a o' e;exact sn e' ha
 have hit4:v2 h4 zj h1.objs.size it all.length 0:=hi.keep (λo' e=>kp4 _ _ (Heap.get?_push_of_some _ e)) ⟨[],by simp⟩
 have hDne:∀b,kZ (Du sc env ((h1.push o).push dobj).objs.size) sc.names b->b≠(h1.push o).objs.size:=λb hb e'=>by
  rcases hall b hb with hn | ⟨o',ho'⟩
  ·rw[e',Heap.get?_push_size _ hfr] at hn;cases hn
  ·rw[e'] at ho'
   exact absurd (Heap.lt_size ho') (k8.mpr (show h1.objs.size<=(h1.push o).objs.size by rw[z1];lia))
 have hown1:∀b,W1 (Du sc env ((h1.push o).push dobj).objs.size) sc.names (h1.push o).objs.size b->h1.get? b=qb:=λb hb=>by
  rcases hb with rfl | hb
  ·exact big (by rw[z1];lia)
  ·have:=hown b hb
   cases e':h1.get? b with
   | none=>rfl
   | some o'=>rw[kp1 _ _ e'] at this;cases this
 refine XJ C rfl (λhq=>VX hit4 hq) ?_
 refine Y3 B C (dd:=0) rfl ht hifs hDne (by rw[z1];lia) (oK B C hDne (by rw[z1];lia) (hDl (D:=_)) (lf _ _ (by rw[z1];lia)) (dd:=0) hg rfl) e3
  (show h1.objs.size≠(h1.push o).objs.size by rw[z1];lia) (hp:=h1) (ρp:=zj) (big (qU _)) hb1 (s:={ s with heap:=h4,toks:=qV }) r ⟨X4,I4,notρ (by rw[z1];lia),⟨_,hDobj⟩,hok hDobj,notρ (qU _),hit4,.keeps kp14⟩ rfl (zN _) e4 ?_
 intro ρ5 h5 tk5 S5 X5 I5 ac5 hD5
 obtain⟨mL,hnL,_⟩:=X5.locals
 have hL:(Du sc env ((h1.push o).push dobj).objs.size).locals=((h1.push o).push dobj).objs.size:=rfl
 have Sd:=S1.trans (S5.dropAll hown1)
 exact fin _ _ ρ5 h5 tk5 mL Sd I5 (old (big (by rw[z1];lia))) hD5 (by rw[z1];lia) ac5
  (show (h1.push o).objs.size≠((h1.push o).push dobj).objs.size by rw[z1,z2];lia) (old (big (show h1.objs.size<=((h1.push o).push dobj).objs.size by rw[z2];lia))) X5.lnotin X5.labove hnL
noncomputable def W8 (qd:Heap)(D:qj):Ek qd D where
 ok:=λh ρ ql=>∃items n,Ch h D items n/\qL ρ (List.map Q3 ql) items.toList
 step:=λx e p=>(by obtain⟨items,n,l1,r1⟩:=x;refine⟨items,n,e _ l1 (CK rfl (by decide)),r1.mono p⟩)
noncomputable def VP (qc:zm)(w:qK)(qd:Heap)(D:qj):Ek qd D where
 ok:=λh ρ ql=>∃es kvs,FE ql=qa es/\h.DictOf (strKind qc w) D kvs/\zt ρ es kvs/\es.length<=ql.length
 step:=λx e p=>(by obtain⟨es,kvs,h1,⟨o,en,ep,ho,hx,r⟩,h3,h4⟩:=x;refine⟨es,kvs,h1,⟨o,en,ep,e _ ho (CK hx.1 (by decide)),hx,r⟩,h3.mono p,h4⟩)
theorem zt.length (r:zt ρ es kvs):kvs.length=es.length:=by
 induction r with
 | nil=>rfl
 | cons _ _ ih=>exact congrArg (· + 1) ih
theorem tO (x:qf)(r:zt ρ es kvs):(kvs.any λkv=>decide (kv.1=x))=es.any λe=>ze e.1 x:=by
 induction r with
 | nil=>rfl
 | cons a b ih=>rw[FS,FS,ih,FF]
theorem lF (rv:qz ρ v v')(r:zt ρ es kvs) :
  zt ρ (es.map λe=>if ze e.1 x then (e.1,v) else e) (kvs.map λkv=>if kv.1=x then (kv.1,v') else kv):=by
 induction r with
 | nil=>exact .nil
 | @cons k _ _ _ _ a b ih =>
  rw[z7,z7,FF]
  by_cases hk:k=x
  ·rw[decide_eq_true hk,if_pos hk];exact .cons rv ih
  ·rw[decide_eq_false hk,if_neg hk];exact .cons a ih
theorem IJ (a:zt ρ es kvs)(b:zt ρ fs lvs):zt ρ (es++fs) (kvs++lvs):=by
 induction a with
 | nil=>exact b
 | cons x _ ih=>exact .cons x ih
theorem Yd (r:zt ρ es kvs)(rv:qz ρ v v'):zt ρ (wy es x v) (Mr kvs x v'):=by
 unfold wy Mr
 rw[tO x r]
 split
 ·exact lF rv r
 ·exact IJ r (.cons rv .nil)
theorem qel (es:List (qf×V))(x:qf)(v:V):(wy es x v).length<=es.length+1:=by
 unfold wy
 split <;> simp
set_option tactic.hygienic true in
theorem xE (B:qS qc qd G tabs)(he:SE qc w qd G tabs d O elt k Γ)(D:qj)(cenv:q0)(hDb:qd.objs.size<=D) :
  HR qc w qd G tabs d k Γ D (W8 qd D) (Fb O (cE G elt k Γ)) cenv (P8 elt (.ref D) cenv):=λ{A s ρ m σ ql jK σ' P Ex} r X I Ak hac e hP=>by
 refine b2 e λv σ₁ e1 e=>bi e λhs e=>?_
 cases e
 unfold P8
 refine qm (he r X I e1 λv' zj h1 qV S1 I1 r1=>?_)
 obtain⟨items,n,l1,rl⟩:=hac
 have hD1:=(S1.keep D _ hDb Ak (λf=>f) l1).1 (CK rfl (by decide))
 have hDρ1:=S1.notin Ak l1
 have hz:items.size=ql.length:=rl.length.trans (qH ..)
 refine qm (qhf ⟨n,hD1⟩ (λh' hp hs'=>qB ?_) (hz▸qu (vZ hs) (show 1000000<=vH by decide)))
 obtain⟨n',hp⟩:=hp
 have S2:qY qd (λb=>b=D) zj h1 zj h':=.own hs' rfl ⟨_,hp⟩
 exact hP zj h' qV ((S1.weaken λb f=>f.elim).trans S2) (I1.own B.tlt hDρ1 hDb hD1 (λf=>by cases f.2;rename_i e;cases e) hs' (λe=>absurd e (I1.top.nec hD1 (CK rfl (by decide))))) ⟨_,n',hp,by rw[jQ,qgt];exact(rl.mono S1.ext).snoc r1⟩
theorem sY (B:qS qc qd G tabs)(hk:SE qc w qd G tabs d O kx k Γ)(hw:SE qc w qd G tabs d O wx k Γ)(D:qj)(cenv:q0)(hDb:qd.objs.size<=D) :
  HR qc w qd G tabs d k Γ D (VP qc w qd D) (Kk O (cE G kx k Γ) (cE G wx k Γ)) cenv (NG kx wx (.ref D) cenv):=λ{A s ρ m σ ql jK σ' P Ex} r X I Ak hac e hP=>by
 refine b2 e λkv σ₁ e1 e=>b2 e λwv σ₂ e2 e=>?_
 unfold NG
 refine qm (hk r X I e1 λk' zj h1 qV S1 I1 r1=>qm (zV (hw r (X.step S1) I1 e2 λw' zv h2 zl S2 I2 r2=>?_)))
 obtain⟨x,t,rfl,e⟩:=Aa r1 e
 refine bi e λhs e=>?_
 cases e
 obtain⟨es,kvs,q1,q2,q3,q4⟩:=hac
 obtain⟨o,en,ep,ho,hex,hda,_⟩:=id q2
 have S12:=S1.trans S2
 have hD2:=(S12.keep D _ hDb Ak (λf=>f) ho).1 (CK hex.1 (by decide))
 have hDρ2:=S12.notin Ak ho
 have q2':h2.DictOf (strKind qc w) D kvs:=Heap.DictOf.at' q2 (hD2.trans ho.symm)
 have hl:=qu q4 (vZ hs)
 refine qm (jM (zV (qgo (knd:=strKind qc w) (k:=x) (kvs:=kvs) (DQ qc w x t) q2' (λh' hd' hs'=>?_) (by rw[q3.length];exact qu hl (show 1000000<=vH by decide)))))
 have S3:qY qd (λb=>b=D) zv h2 zv h':=.own hs' rfl ((by obtain⟨o,_,_,ho,_⟩:=hd';refine⟨o,ho⟩))
 refine hP zv h' _ ((S12.weaken λb f=>f.elim).trans S3) (I2.own B.tlt hDρ2 hDb hD2 (λf=>by obtain⟨_,vs,e⟩:=f;rw[hda] at e;cases e) hs' (λe=>absurd e (I2.top.nec hD2 (CK hex.1 (by decide))))) ⟨wy es x wv,_,?_,hd',Yd (q3.mono S12.ext) r2,?_⟩
 ·unfold FE at q1 ⊢
  rw[F3,q1]
  rfl
 ·rw[zw];exact qu (qel es x wv) (Ao q4)
theorem XT {mm}(hn:h.Ns a mm):∃o,h.get? a=qa o/\¬CY o :=
 (by obtain⟨o,es,ep,ho,hd,_⟩:=hn;refine⟨o,ho,λf=>by obtain⟨_,vs,e⟩:=f;rw[hd] at e;cases e⟩)
theorem Tx (B:qS qc qd G tabs)(T:vl qd s.heap ρ)(R:zd qc w qd G tabs Q ρ s (.ref σ'.length) (σ'++[ao]))
  (S:qY qd vr ρ s.heap qr h') (I:qt qc w qd G tabs h' qr σ') (hD0:s.heap.get? D=qb) (Ak:D∉qr) (hDb:qd.objs.size<=D) (hob:∀h'',h''.get? D=h'.get? D->vD qc w G h'' (qr++[D]) D ao) (hDL:D≠L)
  (hL0:s.heap.get? L=qb) (hLρ:L∉qr) (hLb:qd.objs.size<=L) (hnL:h'.Ns L mL):MU (qp qc w) A Ex qb Q (.ref D) L (.ok .next) { s with heap:=h',toks:=tk }:=by
 refine⟨mL,hnL,λh'' hs=>?_⟩
 obtain⟨o,ho,hf⟩:=XT hnL
 have I2:=I.own B.tlt hLρ hLb ho hf hs (λe=>absurd e (T.ne hL0))
 have S2:=S.free (I:=L) (λb o hb e=>(hs.2 b hb).trans e) hL0
 exact R (.ref D) (qr++[D]) h'' tk (S2.add hD0) (I2.alloc B.tlt (λb o e=>e) Ak hDb (T.ne hD0) (hob h'' (hs.2 D hDL))) (.ref (by rw[<-I.len];simp))
theorem V9 (B:qS qc qd G tabs)(T:vl qd s.heap ρ)(X:zi qd tabs env k Γ m ρ s.heap)(hx:Ay k Γ x=qa i)(hm:put m i (.ref σ'.length)=qa m')
  (R:∀qr h' tk,qY qd (vd env k) ρ s.heap qr h'->zi qd tabs env k Γ m' qr h'->qt qc w qd G tabs h' qr (σ'++[ao])->Q .none { s with heap:=h',toks:=tk })
  (S:qY qd vr ρ s.heap qr h') (I:qt qc w qd G tabs h' qr σ') (hD0:s.heap.get? D=qb) (Ak:D∉qr) (hDb:qd.objs.size<=D) (hob:∀h'',h''.get? D=h'.get? D->vD qc w G h'' (qr++[D]) D ao) (hDL:D≠L)
  (hL0:s.heap.get? L=qb) (hLρ:L∉qr) (hLb:qd.objs.size<=L) (hnL:h'.Ns L mL):MU (qp qc w) A Ex (qa (assign (.Name x pos) env)) Q (.ref D) L (.ok .next) { s with heap:=h',toks:=tk }:=by
 show qq (qp qc w) A (assign (.Name x pos) env (.ref D)) _ _ _
 rw[Rv]
 have S1:=S.add hD0
 have I1:qt qc w qd G tabs h' (qr++[D]) (σ'++[ao]):=I.alloc B.tlt (λb o e=>e) Ak hDb (T.ne hD0) (hob h' rfl)
 have X1:=X.step S1
 refine qm (jM (HX (s:={ s with heap:=h',toks:=tk }) B X1 I1 hx (.ref (by rw[<-I.len];simp)) hm λh2 zl S2 X2 I2=>?_))
 have hLnot:L∉qr++[D]:=λhm=>by
  rcases zT.mp hm with q | q
  ·exact hLρ q
  ·simp at q;exact hDL q.symm
 have hLw:∀{h:Heap} {jp:qx},zi qd tabs env k Γ jp ρ s.heap->¬kZ env k L:=λX hw=>by
  obtain⟨o,ho,_⟩:=T4 X hw
  exact sn ho hL0
 have hLn:=hLw (h:=h') X
 have hnL2:h2.Ns L mL:=Heap.Ns.same hnL λo e=>S2.keep L o hLb hLnot (λhw=>hLn hw.all) e
 refine⟨mL,hnL2,λh3 hs=>?_⟩
 obtain⟨o,ho,hf⟩:=XT hnL2
 have S12:=(S1.weaken (W':=vd env k) λb f=>f.elim).trans S2
 exact R _ h3 zl (S12.free (I:=L) (λb o hb e=>(hs.2 b hb).trans e) hL0) (X2.keepOwn λb o hb e=>(hs.2 b (by rintro rfl;exact hLn hb)).trans e) (I2.own B.tlt hLnot hLb ho hf hs (λe=>absurd e (T.ne hL0)))
theorem lB (h:Q (.ref s.heap.objs.size) { s with heap:=s.heap.push { cls:=.type "list", data:=.seq #[] } }) :
  qq (qp qc w) A (newList []) Q Ex s:=HG h
theorem uT (h:Q (.ref s.heap.objs.size) { s with heap:=s.heap.push { cls:=.type "dict", data:=.dict #[] } }) :
  qq (qp qc w) A newDict Q Ex s:=HG h
theorem Kn (e:h.get? D=qa { cls:=.type "dict", data:=.dict #[] }):h.DictOf (strKind qc w) D [] :=
 ⟨_,#[],0,e,⟨rfl,rfl,rfl⟩,rfl,(λx hx=>by simp at hx),.nil,by simp⟩
theorem Y9 (h:cGs G gs k Γ=qa rest)(hi:∀g∈gs,SE qc w qd G tabs d O g.iter k Γ/\B2 qc w qd G tabs d O g.ifs k Γ) :
  GL qc w qd G tabs d O k Γ gs rest:=by
 induction gs generalizing rest with
 | nil=>cases (show qa []=qa rest from h);exact .nil
 | cons g gs ih =>
  obtain⟨t,iter,ifs,a⟩:=g
  refine b1 (x:=we k Γ t) (f:=λt=>bn1 (cGs G gs k Γ) λgs=>if a == 0 then qa (Gn.mk t (cE G iter k Γ) (cEs G ifs k Γ) :: gs) else qb) h λtg h1 h=>b1 h λgs' h2 h=>bi h λha h=>?_
  cases h
  cases eq_of_beq ha
  obtain⟨q1,q2⟩:=hi _ zB
  exact .cons h1 q1 q2 (ih h2 λg hg=>hi g (zI _ hg))
end
set_option tactic.hygienic true in
theorem qcR {v:qh}(pos:qT)(a b:Int)(c:qh)(l:List qh)(h:bV l)(hv:EF pos (l++[C5 a,C5 b,c])=qa v):EF pos l=qa v\/v=c:=by
 fun_induction bV l with
 | case1 =>
  simp only[MV,C5,EF] at hv
  split at hv
  ·cases hv;exact .inr rfl
  ·cases hv
 | case2 a' t b' u x rest ih =>
  simp only[Q5,EF] at hv ⊢
  split at hv
  ·rename_i hc;rw[if_pos hc];exact .inl hv
  ·rename_i hc;rw[if_neg hc];exact ih h hv
 | case3 l h1 h2=>exact h.elim
section
variable {qc:zm}{w:qK}{qd:Heap}{G:qf->Option qh}{tabs:List (qj×qj)}{d:Nat}{O:qE}{A:zh}{Ex:qh->qk->Prop}{s:qk}
 {ρ qr:List qj} {σ σ':qi} {v:V} {h h':Heap} {env:q0} {k:zg} {Γ:List qf} {m m':qx} {Q:qh->qk->Prop}
theorem qt.tabNew (B:qS qc qd G tabs)(I:qt qc w qd G tabs h ρ σ)(hx:(c,P)∈tabs)(hq:kc qd (.ref c) q)(hT:h.TableAt c P ps)(hC:h.IsCode c P ps)(k':Hj P h h')
  (hT':h'.TableAt c P (ps++#[C5 a,C5 b,.ref c'])) (hC':h'.IsCode c P (ps++#[C5 a,C5 b,.ref c'])) (hc:kc h' (.ref c') (q ++ ".<locals>." ++ "<lambda>")) (hqu:∀q',kc qd (.ref c) q'->q'=q):qt qc w qd G tabs h' ρ σ:=by
 have hPb:=(B.tlt _ hx).2
 have kf:Bi h h':=λb o e hz=>by
  by_cases hbi:b=P
  ·subst hbi;obtain rfl:=sj hT.2 e;exact absurd hz.1 (λe=>by cases e)
  ·exact k' b o hbi e
 refine⟨I.top.other (kR (jH hPb I.top.above)) k',λb o e n=>k' _ _ (λe'=>n _ hx e') (I.old b o e n),I.len,I.nodup,I.above,λx hxm=>?_,λj o e=>?_⟩
 ·obtain⟨ps₁,h1,h2,hp,h3⟩:=I.tab x hxm
  by_cases hxP:x.2=P
  ·have:x=(c,P):=by
    obtain⟨i,hi,e1⟩:=Rk.mp hxm
    obtain⟨j,hj,e2⟩:=Rk.mp hx
    have nd:=FR.mp B.tnd
    rcases Ro i j with q | q | q
    ·exact absurd (by rw[J5,J5,e1,e2];exact hxP) (nd i j (by simpa using hi) (by simpa using hj) q)
    ·subst q;rw[<-e1,<-e2]
    ·exact absurd (by rw[J5,J5,e1,e2];exact hxP.symm) (nd j i (by simpa using hj) (by simpa using hi) q)
   subst this
   have eps:ps₁=ps:=by
    have:=h2.2.symm.trans hT.2
    have:=congrArg Obj.data (zc this)
    injection this
   subst eps
   obtain⟨A5,kQ,g1,g2⟩:=hp
   refine⟨_,hC',hT',⟨A5,kQ++#[C5 a,C5 b,.ref c'],g1,by rw[g2,Array.append_assoc]⟩,λq' pos v hq' hv=>?_⟩
   have htr:bV ps₁.toList:=by obtain⟨o,vs,file,tf,flags,tg,Ei,text,tt,op,_,_,_,_,_,_,_,_,_,htr,_⟩:=hC;exact htr
   have hv':EF pos (ps₁.toList++[C5 a,C5 b,.ref c'])=qa v:=by simpa using hv
   rcases qcR pos a b _ _ htr hv' with h4 | h4
   ·exact(h3 q' pos v hq' h4).keep kf
   ·rw[h4,hqu q' hq'];exact hc
  ·have hx1:x.1≠P:=λe'=>by
    obtain⟨⟨o,vs,ho,hcl,_⟩,_⟩:=h2
    rw[e',hT.2] at ho;cases ho;cases hcl
   refine⟨ps₁,?_,?_,hp,λq pos v hq e=>(h3 q pos v hq e).keep kf⟩
   ·exact h1.extBut (a:=P) (λb o hb e=>k' b o hb e) hx1 hxP
   ·exact h2.extBut (a:=P) (λb o hb e=>k' b o hb e) hx1 hxP
 ·obtain⟨b,hb',y⟩:=I.objs j o e
  obtain⟨cb,hcb,_⟩:=y.get
  have hbP:b≠P:=λe'=>by
   have:=I.above b (wT hb')
   rw[e'] at this
   exact absurd hPb (k8.mpr this)
  refine⟨b,hb',y.mono ((k' _ _ hbP hcb).trans hcb.symm) kf ⟨[],by simp⟩⟩
theorem kc.uniq (x:kc h (.ref a) q)(y:kc h (.ref a) q'):q'=q:=by
 obtain⟨c,o,vs,t,e,ho,_,hd,h1⟩:=x
 obtain⟨c',o',qW,t',e',ho',_,hd',h1'⟩:=y
 cases e;cases e'
 obtain rfl:=sj ho ho'
 rw[hd] at hd';cases hd'
 rw[h1] at h1';cases h1';rfl
theorem gC (t:h.TableAt c' P' ps)(r:h.CodeRec (.ref c') q):kc h (.ref c') q:=by
 obtain⟨⟨o,vs,ho,hc,hd,_⟩,_⟩:=t
 obtain⟨c₂,o₂,vs₂,BE,e₂,g₂,d₂,f₂⟩:=r
 cases e₂
 obtain rfl:=sj ho g₂
 rw[hd] at d₂;cases d₂
 refine⟨c',o,vs,BE,rfl,ho,hc,hd,f₂⟩
theorem qft (h:QM args=qa p):∃a b,args=⟨[],[⟨p,a,b⟩],qb,[],[],qb,[]⟩:=by
 obtain⟨a,b,c,d,e,f,g⟩:=args
 cases a with
 | cons=>exact nn h
 | nil=>cases b with
  | nil=>exact nn h
  | cons q b=>obtain⟨p',x,y⟩:=q;cases b with
   | cons=>exact nn h
   | nil=>cases c with
    | some=>exact nn h
    | none=>cases d with
     | cons=>exact nn h
     | nil=>cases e with
      | cons=>exact nn h
      | nil=>cases f with
       | some=>exact nn h
       | none=>cases g with
        | cons=>exact nn h
        | nil=>cases h;refine⟨x,y,rfl⟩
theorem Wv (h:Ju sc k p=qe):DL k=qe/\DL sc.names=qg/\sc.kind=.function/\sc.isGenerator=qg/\sc.isCoroutine=qg/\Ae (sc.names.map (·.1))=qe/\sc.names.lookup p=qa .local /\
  ∀x∈sc.names,x.2=.local\/x.2=.globalImplicit:=by
 simp only[Ju,jT,beq_iff_eq,F1,wS] at h
 obtain⟨⟨⟨⟨⟨⟨⟨c1,c2⟩,c3⟩,c4⟩,c5⟩,c6⟩,c7⟩,c8⟩:=h
 refine⟨c1,c2,c3,c4,c5,c6,c7,λx hx=>?_⟩
 have:=c8 x hx
 cases hk:x.2 with
 | «local» => exact .inl rfl
 | globalImplicit=>exact .inr rfl
 | _=>rw[hk] at this;exact ff this
noncomputable def Qc (env:q0)(a:Arg)(body:qA)(sc:vh)(c:qh):zr qh:=do
 let bl <-builtinsFor env.globals env.builtins
 let nm <-nsGet env.globals "__name__"
 let doc <-pure .none
 newObj (.type "function") (.func
  {name := "<lambda>", qualname:=env.qual ++ "<lambda>", params:=⟨[],[a],qb,[],[],qb,[]⟩,body:=.expr body,scope:=sc,globals:=env.globals,closure:=[],closureTuple:=.none,
   code:=c,builtins:=bl,defaults:=.none,kwdefaults:=.none,annotations:=qb,pyModule:=nm.getD .none,doc:=doc })
theorem fT {body:qA}(hclo:RA sc env=pure [])
  (h:qq M A (functionCode env pos pos.line "<lambda>" (env.qual ++ "<lambda>") ⟨[],[a],qb,[],[],qb,[]⟩ sc (.expr body)) (λc s=>qq M A (Qc env a body sc c) Q Ex s) Ex s) :
  qq M A (zR (.Lambda ⟨[],[a],qb,[],[],qb,[]⟩ body sc pos) env) Q Ex s:=by
 rw[arm_eval_Lambda]
 refine qm (m:=evalAll []) (qB (qm (zV (qB ?_))))
 exact qm (qB (qm (qB (qm (qB (qm (FZ hclo (qm (qB (qm h))))))))))
theorem Ve {body:qA}(B:qS qc qd G tabs){p:qf}{a1:Option qA}{a2:qT}(hl:Ju sc k p=qe)(X:EnvS qd tabs env k)(I:qt qc w qd G tabs s.heap ρ σ)(hca:kc s.heap (.ref c') (env.qual ++ "<lambda>"))
  (R:zd qc w qd G tabs Q ρ s (.ref σ.length) (σ++[.lam (cE G body sc.names [p])])):qq (qp qc w) A (Qc env ⟨p,a1,a2⟩ body sc (.ref c')) Q Ex s:=by
 obtain⟨c1,c2,c3,c4,c5,c6,c7,c8⟩:=Wv hl
 obtain⟨mg,bm,bo,hg,hbm,hbne,hbo,hb1,hb2,hb3⟩:=B.bmod _ I.old
 unfold Qc
 rw[X.glob]
 refine qm (wpAny_builtinsFor hg hbm hbne hbo hb1 hb2 hb3 (qm (bW hg (qm (qB (HG (R.push B I ?_ s.toks)))))))
 refine⟨_,_,body,p,Heap.get?_push_size _ rfl,rfl,rfl,rfl,rfl,rfl,rfl,rfl,rfl,hca.keep (.of λb o e=>Heap.get?_push_of_some _ e),c2,rfl,rfl,rfl,rfl,rfl,c3,c4,c5,c7,c8,rfl⟩
theorem qdS (B:qS qc qd G tabs)(args:Hy)(body:qA)(sc:vh)(pos:qT):SE qc w qd G tabs d O (.Lambda args body sc pos) k Γ:=λ{A s ρ m σ v σ' Q Ex env} r X I e R=>by
 refine DW (x:=QM args) (f:=λp=>iE (Ju sc k p) (.lam (cE G body sc.names [p]))) e λp hp e2=>Fx e2 λhc e3=>?_
 clear e e2
 obtain⟨a1,a2,rfl⟩:=qft hp
 have R:=R.of (show zM (.lam (cE G body sc.names [p])) σ=qa (v,σ') from e3)
 clear e3 hp
 obtain⟨c1,_,_,_,_,_,_,c8⟩:=Wv hc
 obtain⟨x,hx,v4,q,hq,hqual⟩:=X.code c1
 obtain⟨ps,hC,hT,hp,BG⟩:=I.tab x hx
 refine fT (closureFor_none λy hy e'=>(c8 y hy).elim (λh=>nomatch h.symm.trans e') λh=>nomatch h.symm.trans e') ?_
 cases hcm:EF pos ps.toList with
 | some c' =>
  refine wpAny_functionCode_hit v4 hC hcm ?_
  have hca:=BG q pos c' hq hcm
  obtain⟨c'',o,vs,t,e1,_⟩:=id hca
  subst e1
  exact Ve B hc X.toEnvS I (by rw[hqual];exact hca) R
 | none =>
  refine wpAny_functionCodeX v4 hC hT hcm λc' h1 qV hk1 hge qQ hC' hrec hT' ht=>?_
  obtain⟨P',hP',hC2,hT2⟩:=ht
  have hca:=gC hT2 hrec
  have kb:Hj x.2 s.heap h1:=λb o hb e=>hk1 b o hb e
  have S1:qY qd vr ρ s.heap ρ h1:=⟨⟨[],by simp,by simp⟩,λb o h0 hb _ e=>.of (kb b o (λe'=>absurd (B.tlt _ hx).2 (k8.mpr (e'▸h0))) e),λb o e=>by
   by_cases hb:b=x.2
   ·refine⟨_,hb▸hT'.2⟩
   ·refine⟨o,kb b o hb e⟩⟩
  exact Ve (s:={ s with heap:=h1,toks:=qV }) B hc X.toEnvS (I.tabNew B (c:=x.1) (P:=x.2) hx hq hT hC kb hT' hC' (by rw[<-hqual];exact hca) λq' hq'=>hq.uniq hq') hca λv' zv h2 zl S2 I2 r2=>R v' zv h2 zl (S1.trans S2) I2 r2
theorem qt.inst_of (I:qt qc w qd G tabs h ρ σ){i dI:Nat}(h1:σ[i]?=qa (.inst c dI))(h2:σ[dI]?=qa (.ns es))(ha:ρ[i]?=qa a) :
  ∃o da ms,ρ[dI]?=qa da/\h.get? a=qa o/\o.cls=.ref c/\o.dict=qa da/\(∀c,o.data≠.cls c)/\da≠a/\h.Ns1 da ms/\h.Inst a c ms /\
   (∀x v,jP es x=qa v->∃v',ms x=qa v'/\qz ρ v v')/\(∀x,jP es x=qb->ms x=qb):=by
 obtain⟨da,o,g1,g2,g3,g4,g5⟩:=I.at h1 ha
 obtain⟨ms,n1,n2,n3⟩:=I.at h2 g1
 have zy:da≠a:=by
  rintro rfl
  obtain⟨i1,e1⟩:=kF.mp g1
  obtain⟨i2,e2⟩:=kF.mp ha
  have np:=FR.mp I.nodup
  rcases Ro dI i with q | q | q
  ·exact np _ _ i1 i2 q (e1.trans e2.symm)
  ·subst q;rw[h1] at h2;cases h2
  ·exact np _ _ i2 i1 q (e2.trans e1.symm)
 refine⟨o,da,ms,g1,g2,g3,g4,g5,zy,n1,⟨o,g2,g3,g5,.inr ⟨da,g4,zy,n1⟩⟩,n2,n3⟩
theorem qdL (hn:QD o=qe):HU o=qe/\∀a b,letTemporaryGo o a b=pure ():=by
 cases o with
 | Name=>refine⟨rfl,λ_ _=>rfl⟩
 | _=>exact ff hn
theorem qdU (B:qS qc qd G tabs)(oo:wz qc w qd G tabs d O){o:qA}(ho:SE qc w qd G tabs d O o k Γ)(name:qf)(pos:qT):SE qc w qd G tabs d O (.Attribute o name pos) k Γ:=λ{A s ρ m σ v σ' Q Ex env} r X I e R=>by
 refine Fx (a:=.attr (cE G o k Γ) name) e λhn e=>qap e λov σ₁ e1 u e2 e=>?_
 rw[arm_eval_Attribute]
 have hpl:=qdL hn
 rw[W3 hpl.1]
 refine qm (ho r X I e1 λo' zj h1 qV S1 I1 r1=>qm (jM (qm (zV ?_))))
 obtain⟨i,a,rfl,ha,e2⟩:=vM r1 e2
 refine VH e2 λc dI g1 e2=>Qw e2 λes g2 e2=>bi e2 λhia e2=>b1 e2 λvf hsd e2=>?_
 obtain⟨hc0,hB,A7⟩:=oo.iattr hia
 obtain⟨N,mN,hat,hna,hng,hns⟩:=A7 _ I1.old
 obtain⟨nm,q,bs,sn,sub,col,dd,k0,k1,k2,k3,k5,hC⟩:=hat.obj
 obtain⟨ob,da,ms,q1,q2,q3,q4,q5,q6,q7,q8,q9,q10⟩:=I1.inst_of g1 g2 ha
 obtain⟨v',hv',rv'⟩:=q9 _ _ hsd
 obtain⟨n,av,rfl,hav,e2⟩:=vM rv' e2
 cases e2
 exact load_attr (h:=h1) hC hat.ns hng hna hB q8 hv' rfl (qm (FZ (hpl.2 _ _) (qB (R.of e _ zj h1 (qV+1) S1 I1 (.ref hav)))))
theorem Wg:∀{ks:List (Option qA)}{vs:List qA}{es:List (Int×Int)},GO ks vs=qa es->∀(env:q0)(pos:qT),
  (qgD ks env).zip ((aD vs env).map λv=>do let x <-v;wQ pos;pure x)=items Hw pos es
 | [],[],_=>@λh _ _=>by cases h;rfl
 | some k :: ks,v :: vs,_=>@λh env pos=>by
  obtain⟨k,a,b,rfl,h2⟩:=O6 (f:=λk=>GY v λv=>bn1 (GO ks vs) λl=>qa ((k,v) :: l)) h
  obtain⟨v,a',b',rfl,h3⟩:=O6 h2
  refine b1 h3 λes' h1 h4=>?_
  cases h4
  show (qa (zR (.Constant (.int k) a b) env),do let x <-zR (.Constant (.int v) a' b') env;wQ pos;pure x) :: _=(qa (Hw k),do let y <-Hw v;wQ pos;pure y) :: items Hw pos es'
  rw[<-Wg h1 env pos]
  rfl
 | [],_ :: _,_=>@λh _ _=>nn h
 | none :: _,_,_=>@λh _ _=>nn h
 | some _ :: _,[],_=>@λh _ _=>nn h
theorem qaU (t:wC Mv vs es):zt ρ (es.map λe=>(e.1,V.int e.2)) vs:=by
 induction t with
 | nil=>exact .nil
 | cons _ ih=>exact .cons (.int _ _) ih
theorem qca (B:qS qc qd G tabs)(hB:2<=qd.objs.size)(ks:List (Option qA))(vs:List qA)(pos:qT)(hcs:Iw ks vs=qa es)(r:zf d A)(X:zi qd tabs env k Γ m ρ s.heap)
  (I:qt qc w qd G tabs s.heap ρ σ) (e:zM (.sdict (es.map λe=>(e.1,V.int e.2))) σ=qa (v,σ')) (R:zd qc w qd G tabs Q ρ s v σ'):qq (qp qc w) A (zR (.Dict ks vs pos) env) Q Ex s:=by
 have R:=R.of e
 match ks,vs,hcs with
 | [],[],hcs =>
  cases hcs
  exact wpAny_Dict_empty (R.push B I ⟨[],Kn (Heap.get?_push_size _ rfl),.nil⟩ s.toks)
 | [qa kx],[vx],hcs =>
  obtain⟨x,p1,p2,rfl,h2⟩:=qdd (f:=λx=>GY vx λv=>qa [(x,v)]) hcs
  obtain⟨y,q1,q2,rfl,h3⟩:=O6 h2
  cases h3
  refine wpAny_Dict_pairs (knd:=strKind qc w) (pairs:=[(zR (.Constant (.str x) p1 p2) env,do let y <-zR (.Constant (.int y) q1 q2) env;wQ pos;pure y)]) rfl (λh=>nomatch h) (by decide:(1:Nat)<=15) ?_
  have hd:=Kn (qc:=qc) (w:=w) (h:=s.heap.push { cls:=.type "dict", data:=.dict #[] }) (Heap.get?_push_size _ rfl)
  refine qgr (aB ?_)
  refine qm (Ms (qm (jM (qB ?_))))
  refine qgq ⟨[(x,.int y _)],⟨DQ qc w x _,rfl,trivial⟩,hd,λh' hd' hb=>?_⟩
  refine R.new B I (λb o ho=>?_) (B0 _) (B.size _ I.old) ⟨_,hd',.cons (.int _ _) .nil⟩ _
  exact(hb.2 b (kR (Heap.lt_size ho))).trans (Heap.get?_push_of_some _ ho)
 | [],_ :: _,h=>exact nn h
 | none :: _,[],h=>exact nn h
 | some _ :: r,[],h=>exact(by cases r <;> exact nn h)
 | [qb],[_],h=>exact nn h
 | none :: _ :: _,_ :: _,h=>exact nn h
 | some _ :: _ :: _,_ :: _,h=>exact nn h
 | none :: _,_ :: _ :: _,h=>exact nn h
 | some _ :: r,_ :: _ :: _,h=>exact(by cases r <;> exact nn h)
theorem m9 (B:qS qc qd G tabs)(hB:2<=qd.objs.size)(ks:List (Option qA))(vs:List qA)(pos:qT):SE qc w qd G tabs d O (.Dict ks vs pos) k Γ:=λ{A s ρ m σ v σ' Q Ex env} r X I e R=>by
 cases hcs:Iw ks vs with
 | some es=>exact qca B hB ks vs pos hcs r X I (show zM (.sdict (es.map λe=>(e.1,V.int e.2))) σ=qa (v,σ') by rw[<-e];show _=ev O (dE (Iw ks vs) _) m σ;rw[hcs];rfl) R
 | none =>
 replace e:ev O (bE (GO ks vs) λes=>iE (Ae (es.map (·.1))&&!es.isEmpty&&decide (es.length<=1000)) (.dconst es)) m σ=qa (v,σ'):=by rw[<-e];show _=ev O (dE (Iw ks vs) _) m σ;rw[hcs];rfl
 refine DW (x:=GO ks vs) (f:=λes=>iE (Ae (es.map (·.1))&&!es.isEmpty&&decide (es.length<=1000)) (.dconst es)) e λes hes e=>Fx e λhc e=>?_
 have R:=R.of (show zM (.idict (es.map λe=>(e.1,V.int e.2))) σ=qa (v,σ') from e)
 rw[jT,jT] at hc
 rw[qgF,Wg hes]
 refine qm (jM ?_)
 have zu:=B.size _ I.old
 refine Yv (oM qc w) (Fw hc.1.1) (λh=>by rw[h] at hc;exact ff hc.1.2) (qu (of_decide_eq_true hc.2) (show 1000<=vH by decide)) (show 1 < s.heap.objs.size from jH hB zu) λh' qW ht hd hk _ hz=>?_
 exact R.new B I hk (B0 _) zu ⟨qW,Heap.DictOf.at' hd rfl,qaU ht⟩ _
structure Sy (O:qE)(G:qf->Option qh)(k:zg)(Γ:List qf)(elt:qA)(gens:List vk)(sc:vh)(m:qx)(σ:qi)(ql:List (V×V))(σ₂:qi):Prop where
 out:∃t iter ifs gs tg rest v σ₁ it all,gens=⟨t,iter,ifs,0⟩ :: gs/\DM sc k=qe/\we sc.names (Γ++zA sc.names) t=qa tg/\cGs G gs sc.names (Γ++zA sc.names)=qa rest /\
  ev O (cE G iter k Γ) m σ=qa (v,σ₁)/\vu σ₁ v=qa it/\jX σ₁ it=qa all /\
  wc it all (wa O tg (cEs G ifs sc.names (Γ++zA sc.names)) rest (Fb O (cE G elt sc.names (Γ++zA sc.names))) (m++zS (zA sc.names).length qb)) all σ₁ []=qa (ql,σ₂)
theorem R3 {elt:qA}{gens:List vk}{sc:vh}(h:ev O (cE G (.ListComp elt gens sc pos) k Γ) m σ=qa (v,σ')) :
  ∃ql σ₂,Sy O G k Γ elt gens sc m σ ql σ₂/\v=.ref σ₂.length/\σ'=σ₂++[.list (ql.map (·.1))]:=by
 cases gens with
 | nil=>exact nn h
 | cons g gs =>
 obtain⟨t,iter,ifs,a⟩:=g
 refine Fx (c:=DM sc k&&a == 0) (a:=bE (we sc.names (Γ++zA sc.names) t) λt=>bE (cGs G gs sc.names (Γ++zA sc.names)) λgs =>
   .lcomp (zA sc.names).length (cE G elt sc.names (Γ++zA sc.names)) t (cE G iter k Γ) (cEs G ifs sc.names (Γ++zA sc.names)) gs) h λhsc k1=>DW k1 λtg h1 k2=>DW k2 λrest h2 k3 =>
  iN k3 λvf σ₁ e1 it e2 all e3 ql σ₂ e4 k4=>?_
 obtain⟨hsc',ha⟩:=z0.mp hsc
 clear h k1 k2 k3 hsc
 cases eq_of_beq ha
 cases k4
 refine⟨ql,σ₂,⟨⟨t,iter,ifs,gs,tg,rest,vf,σ₁,it,all,rfl,hsc',h1,h2,e1,e2,e3,e4⟩⟩,rfl,rfl⟩
structure VK (O:qE)(G:qf->Option qh)(k:zg)(Γ:List qf)(kx wx:qA)(gens:List vk)(sc:vh)(m:qx)(σ:qi)(ql:List (V×V))(σ₂:qi):Prop where
 out:∃t iter ifs gs tg rest v σ₁ it all,gens=⟨t,iter,ifs,0⟩ :: gs/\DM sc k=qe/\we sc.names (Γ++zA sc.names) t=qa tg/\cGs G gs sc.names (Γ++zA sc.names)=qa rest /\
  ev O (cE G iter k Γ) m σ=qa (v,σ₁)/\vu σ₁ v=qa it/\jX σ₁ it=qa all /\
  wc it all (wa O tg (cEs G ifs sc.names (Γ++zA sc.names)) rest (Kk O (cE G kx sc.names (Γ++zA sc.names)) (cE G wx sc.names (Γ++zA sc.names))) (m++zS (zA sc.names).length qb)) all σ₁ []=qa (ql,σ₂)
theorem YR {kx wx:qA}{gens:List vk}{sc:vh}(h:ev O (cE G (.DictComp kx wx gens sc pos) k Γ) m σ=qa (v,σ')) :
  ∃ql σ₂ es,VK O G k Γ kx wx gens sc m σ ql σ₂/\FE ql=qa es/\v=.ref σ₂.length/\σ'=σ₂++[.sdict es]:=by
 cases gens with
 | nil=>exact nn h
 | cons g gs =>
 obtain⟨t,iter,ifs,a⟩:=g
 refine Fx (c:=DM sc k&&a == 0) (a:=bE (we sc.names (Γ++zA sc.names) t) λt=>bE (cGs G gs sc.names (Γ++zA sc.names)) λgs =>
   .dcomp (zA sc.names).length (cE G kx sc.names (Γ++zA sc.names)) (cE G wx sc.names (Γ++zA sc.names)) t (cE G iter k Γ) (cEs G ifs sc.names (Γ++zA sc.names)) gs) h λhsc k1=>DW k1 λtg h1 k2=>DW k2 λrest h2 k3 =>
  qct k3 λvf σ₁ e1 it e2 all e3 ql σ₂ e4 es hes k4=>?_
 obtain⟨hsc',ha⟩:=z0.mp hsc
 clear h k1 k2 k3 hsc
 cases eq_of_beq ha
 cases k4
 refine⟨ql,σ₂,es,⟨⟨t,iter,ifs,gs,tg,rest,vf,σ₁,it,all,rfl,hsc',h1,h2,e1,e2,e3,e4⟩⟩,hes,rfl,rfl⟩
structure Iz (qc:zm)(w:qK)(qd:Heap)(G:qf->Option qh)(tabs:List (qj×qj))(d:Nat)(O:qE)(gens:List vk):Prop where
 iter:∀g∈gens,∀k Γ,SE qc w qd G tabs d O g.iter k Γ
 ifs:∀g∈gens,∀k Γ,B2 qc w qd G tabs d O g.ifs k Γ
theorem U8 (B:qS qc qd G tabs){elt:qA}{gens:List vk}{sc:vh}{pos pos':qT}
  (he:∀k Γ,SE qc w qd G tabs d O elt k Γ) (hp:Iz qc w qd G tabs d O gens) (r:zf d A) (X:zi qd tabs env k Γ m ρ s.heap) (I:qt qc w qd G tabs s.heap ρ σ) (x:Sy O G k Γ elt gens sc m σ ql σ₂)
  (fin:∀D L qr h' tk mL,qY qd vr ρ s.heap qr h'->qt qc w qd G tabs h' qr σ₂->s.heap.get? D=qb->D∉qr->qd.objs.size<=D->(∀h'',h''.get? D=h'.get? D->vD qc w G h'' (qr++[D]) D (.list (ql.map (·.1))))->D≠L->s.heap.get? L=qb->L∉qr->qd.objs.size<=L->h'.Ns L mL ->
   MU (qp qc w) A Ex use P (.ref D) L (.ok .next) { s with heap:=h',toks:=tk }) :
  qq (qp qc w) A (bU (.ListComp elt gens sc pos) sc env pos' (newList []) (qhA gens) (firstIter gens env) use) P Ex s:=by
 obtain⟨t,iter,ifs,gs,tg,rest,vf,σ₁,it,all,rfl,hsc,h1,h2,e1,e2,e3,e4⟩:=x.out
 refine Y0 B (dobj:={ cls:=.type "list", data:=.seq #[] }) rfl (yG qc w elt _ sc pos) hsc (AC:=W8 qd) (λh=>lB h) (λe=>⟨#[],0,e,.nil⟩) (λ⟨items,n,l1,_⟩=>⟨_,l1⟩) h1 (hp.iter _ zB _ _) (hp.ifs _ zB _ _)
  (Y9 h2 λg hg=>⟨hp.iter g (zI _ hg) _ _,hp.ifs g (zI _ hg) _ _⟩) (λD cenv hD=>xE B (he _ _) D cenv hD) r X I e1 e2 e3 e4 ?_
 intro D L qr h' tk mL a1 a2 a3 a4 a5 a6 a7 a8 a9 a10 a11
 obtain⟨items,n,l1,r1⟩:=a6
 exact fin D L qr h' tk mL a1 a2 a3 a4 a5 (λh'' e=>⟨items,n,e.trans l1,r1.mono ⟨_,rfl⟩⟩) a7 a8 a9 a10 a11
theorem Xb (B:qS qc qd G tabs){kx wx:qA}{gens:List vk}{sc:vh}{pos pos':qT}
  (hk:∀k Γ,SE qc w qd G tabs d O kx k Γ) (hw:∀k Γ,SE qc w qd G tabs d O wx k Γ) (hp:Iz qc w qd G tabs d O gens) (r:zf d A) (X:zi qd tabs env k Γ m ρ s.heap) (I:qt qc w qd G tabs s.heap ρ σ) (x:VK O G k Γ kx wx gens sc m σ ql σ₂) (hes:FE ql=qa es)
  (fin:∀D L qr h' tk mL,qY qd vr ρ s.heap qr h'->qt qc w qd G tabs h' qr σ₂->s.heap.get? D=qb->D∉qr->qd.objs.size<=D->(∀h'',h''.get? D=h'.get? D->vD qc w G h'' (qr++[D]) D (.sdict es))->D≠L->s.heap.get? L=qb->L∉qr->qd.objs.size<=L->h'.Ns L mL ->
   MU (qp qc w) A Ex use P (.ref D) L (.ok .next) { s with heap:=h',toks:=tk }) :
  qq (qp qc w) A (bU (.DictComp kx wx gens sc pos) sc env pos' newDict (qhA gens) (firstIter gens env) use) P Ex s:=by
 obtain⟨t,iter,ifs,gs,tg,rest,vf,σ₁,it,all,rfl,hsc,h1,h2,e1,e2,e3,e4⟩:=x.out
 refine Y0 B (dobj:={ cls:=.type "dict", data:=.dict #[] }) rfl (dY qc w kx wx _ sc pos) hsc (AC:=VP qc w qd) (λh=>uT h) (λe=>⟨[],[],rfl,Kn e,.nil,qU _⟩)
  (λx=>x.elim λ_ x=>x.elim λ_ x=>x.2.1.elim λo x=>x.elim λ_ x=>x.elim λ_ x=>⟨o,x.1⟩) h1 (hp.iter _ zB _ _) (hp.ifs _ zB _ _)
  (Y9 h2 λg hg=>⟨hp.iter g (zI _ hg) _ _,hp.ifs g (zI _ hg) _ _⟩) (λD cenv hD=>sY B (hk _ _) (hw _ _) D cenv hD) r X I e1 e2 e3 e4 ?_
 intro D L qr h' tk mL a1 a2 a3 a4 a5 a6 a7 a8 a9 a10 a11
 obtain⟨es',kvs,q1,q2,q3,q4⟩:=a6
 obtain rfl:=sj hes q1
 exact fin D L qr h' tk mL a1 a2 a3 a4 a5 (λh'' e=>⟨kvs,Heap.DictOf.at' q2 e,q3.mono ⟨_,rfl⟩⟩) a7 a8 a9 a10 a11
theorem uW (B:qS qc qd G tabs){elt:qA}{gens:List vk}(he:∀k Γ,SE qc w qd G tabs d O elt k Γ)(hp:Iz qc w qd G tabs d O gens) :
  SE qc w qd G tabs d O (.ListComp elt gens sc pos) k Γ:=λ{A s ρ m σ v σ' Q Ex env} r X I e R=>by
 obtain⟨ql,σ₂,x,rfl,rfl⟩:=R3 e
 rw[arm_eval_ListComp]
 exact U8 B he hp r X I x λD L qr h' tk mL a1 a2 a3 a4 a5 a6 a7 a8 a9 a10 a11=>Tx B I.top R a1 a2 a3 a4 a5 a6 a7 a8 a9 a10 a11
theorem fL (B:qS qc qd G tabs){kx wx:qA}{gens:List vk}(hk:∀k Γ,SE qc w qd G tabs d O kx k Γ)(hw:∀k Γ,SE qc w qd G tabs d O wx k Γ)(hp:Iz qc w qd G tabs d O gens) :
  SE qc w qd G tabs d O (.DictComp kx wx gens sc pos) k Γ:=λ{A s ρ m σ v σ' Q Ex env} r X I e R=>by
 obtain⟨ql,σ₂,es,x,hes,rfl,rfl⟩:=YR e
 rw[arm_eval_DictComp]
 exact Xb B hk hw hp r X I x hes λD L qr h' tk mL a1 a2 a3 a4 a5 a6 a7 a8 a9 a10 a11=>Tx B I.top R a1 a2 a3 a4 a5 a6 a7 a8 a9 a10 a11
end
noncomputable def vq:E->Bool
 | .and _ | .or _ | .ite _ _ _=>qg
 | _=>qe
theorem LE (h:vq e=qe)(m:qx)(σ:qi)(wh:Unit->Option (V×qi)):tst O e m σ wh=PP wh:=by
 cases e <;> first | rfl | exact ff h
theorem EZ (h:vq e=qe):vq (iE c e)=qe:=by cases c;exact rfl;exact h
theorem nX (h:vq e=qe):vq (dE x e)=qe:=by cases x;exact h;exact rfl
theorem D1 (h:∀a,vq (f a)=qe):vq (bE x f)=qe:=by cases x;exact rfl;exact h _
section
variable {qc:zm}{w:qK}{qd:Heap}{G:qf->Option qh}{tabs:List (qj×qj)}{d:Nat}{O:qE}
structure EOK (qc:zm)(w:qK)(qd:Heap)(G:qf->Option qh)(tabs:List (qj×qj))(d:Nat)(O:qE)(e:qA):Prop where
 se:∀k Γ,SE qc w qd G tabs d O e k Γ
 st:∀k Γ,ST qc w qd G tabs d O e k Γ
theorem EOK.whole (h:∀k Γ,SE qc w qd G tabs d O e k Γ)(hi:∀env whole,HH e env whole=(do let v <-whole;wQ e.pos;B9 [v] (aP v)))
  (hp:∀k Γ,vq (cE G e k Γ)=qe):EOK qc w qd G tabs d O e:=⟨h,λk Γ=>yO (h k Γ) hi λm σ wh=>LE (hp k Γ) m σ wh⟩
theorem EOK.bad (h:∀k Γ,cE G e k Γ=.bad):EOK qc w qd G tabs d O e:=⟨λk Γ=>qb6 (h k Γ),λk Γ=>qdl (h k Γ)⟩
structure G9 (qc:zm)(w:qK)(qd:Heap)(G:qf->Option qh)(tabs:List (qj×qj))(d:Nat)(O:qE)(es:List qA):Prop where
 all:∀k Γ,C9 qc w qd G tabs d O es k Γ
 and:∀k Γ,Jq qc w qd G tabs d O es k Γ
 tand:∀k Γ,Iu qc w qd G tabs d O es k Γ
 tor:∀k Γ,Ir qc w qd G tabs d O es k Γ
 tsts:∀k Γ,B2 qc w qd G tabs d O es k Γ
 one:∀b,es=[b]->EOK qc w qd G tabs d O b
theorem pQ:G9 qc w qd G tabs d O [] where
 all:=λ_ _=>qbs
 and:=λk Γ=>λ{A s ρ m σ v σ' Q Ex env pos} r X I e' R=>nn e'
 tand:=λ_ _=>l7
 tor:=λ_ _=>m5
 tsts:=λ_ _=>qdC
 one:=nofun
theorem rQ (h:EOK qc w qd G tabs d O e)(hs:G9 qc w qd G tabs d O es):G9 qc w qd G tabs d O (e :: es) where
 all:=λk Γ=>qem (h.se k Γ) (hs.all k Γ)
 and:=λk Γ=>by
  cases es with
  | nil=>exact uM (h.se k Γ)
  | cons f es=>exact qaJ (h.se k Γ) (hs.and k Γ)
 tand:=λk Γ=>qdb (h.st k Γ) (hs.tand k Γ)
 tor:=λk Γ=>qaE (h.st k Γ) (hs.tor k Γ)
 tsts:=λk Γ=>gP (h.st k Γ) (hs.tsts k Γ)
 one:=λb e=>by cases e;exact h
structure j5 (qc:zm)(w:qK)(qd:Heap)(G:qf->Option qh)(tabs:List (qj×qj))(d:Nat)(O:qE):Prop where
 base:qS qc qd G tabs
 two:2<=qd.objs.size
 sorted:D0 qc w qd G tabs d
 orc:wz qc w qd G tabs d O
noncomputable def Kq:qA->Bool
 | .Attribute ..=>qe
 | _=>qg
theorem mE (f:qA):(∃o n p,f=.Attribute o n p)\/Kq f=qg:=by
 cases f with
 | Attribute o n p=>exact .inl ⟨o,n,p,rfl⟩
 | _=>exact .inr rfl
theorem yM (f:qA):(∃a b c p,f=.Slice a b c p)\/H7 f=qe:=by
 cases f with
 | Slice a b c p=>exact .inl ⟨a,b,c,p,rfl⟩
 | _=>exact .inr rfl
theorem XG (h:Kq f=qg) (o n p)(e:f=.Attribute o n p):False:=ff ((e▸h:Kq (.Attribute o n p)=qg).symm)
theorem Vq (h:H7 f=qe) (a b c p)(e:f=.Slice a b c p):False:=ff (e▸h:H7 (.Slice a b c p)=qe)
theorem Yw (hna:∀o n p,f≠.Attribute o n p)(es:List qA)(ks:List Ht)(pos:qT)(k:zg)(Γ:List qf):cE G (.Call f es ks pos) k Γ=iE (decide (es.length+ks.length < 10)) (bE (CD ks) λkn=>.call (cE G f k Γ) (cEs G es k Γ) kn (cKs G ks k Γ)):=by
 cases f with
 | Attribute o n p=>exact absurd rfl (hna o n p)
 | _=>rfl
structure IW (qc:zm)(w:qK)(qd:Heap)(G:qf->Option qh)(tabs:List (qj×qj))(d:Nat)(O:qE)(f:qA):Prop extends EOK qc w qd G tabs d O f where
 at_:∀o n p,f=.Attribute o n p->EOK qc w qd G tabs d O o
 sl:∀lo hi' st p,f=.Slice lo hi' st p->(∀k Γ,SO qc w qd G tabs d O lo k Γ)/\(∀k Γ,SO qc w qd G tabs d O hi' k Γ)/\(∀k Γ,SO qc w qd G tabs d O st k Γ)
theorem IW.f {f:qA}(h:EOK qc w qd G tabs d O f)(h1:Kq f=qg)(h2:H7 f=qe):IW qc w qd G tabs d O f:=⟨h,λo n p e=>(XG h1 o n p e).elim,λa b c p e=>(Vq h2 a b c p e).elim⟩
theorem lQ (g:j5 qc w qd G tabs d O)(hf:IW qc w qd G tabs d O f)(hs:G9 qc w qd G tabs d O es)
  (hk:∀k Γ,D2 qc w qd G tabs d O ks k Γ) (pos:qT):EOK qc w qd G tabs d O (.Call f es ks pos):=by
 rcases mE f with ⟨o,n,p,rfl⟩ | hna
 ·refine .whole (λk Γ {A s ρ m σ v σ' Q Ex env} r X I e R=>?_) (λenv whole=>rfl) λk Γ=>EZ (D1 λ_=>rfl)
  refine Fx (c:=HU o&&p.endLine == pos.line&&decide (es.length+ks.length < 20)) (a:=bE (CD ks) λkn=>.meth (cE G o k Γ) n (cEs G es k Γ) kn (cKs G ks k Γ)) e λhc e=>DW e λkn hn e=>?_
  rw[jT,jT,decide_eq_true_eq] at hc
  exact nH g.base g.two g.orc ((hf.at_ o n p rfl).se k Γ) (hs.all k Γ) (hk k Γ) hn hc.1.1 pos hc.1.2 hc.2 r X I e R
 ·have hna:=XG hna
  refine .whole (λk Γ {A s ρ m σ v σ' Q Ex env} r X I e R=>?_) (λenv whole=>rfl) λk Γ=>Yw hna es ks pos k Γ▸EZ (D1 λ_=>rfl)
  exact Fx (Yw hna es ks pos k Γ▸e) λhc e=>DW e λkn hn e=>qby g.base g.sorted g.orc (hf.se k Γ) (hs.all k Γ) (hk k Γ) hn hna pos r X I e R
theorem qdh (g:j5 qc w qd G tabs d O)(ho:EOK qc w qd G tabs d O o)(hi:IW qc w qd G tabs d O i)(pos:qT):EOK qc w qd G tabs d O (.Subscript o i pos):=by
 rcases yM i with ⟨lo,hi',st,p,rfl⟩ | hns
 ·obtain⟨a,b,c⟩:=hi.sl lo hi' st p rfl
  exact .whole (λk Γ=>dS g.base (ho.se k Γ) (a k Γ) (b k Γ) (c k Γ) p pos) (λenv whole=>rfl) λk Γ=>rfl
 ·have hns:=Vq hns
  exact .whole (λk Γ=>qbV (ho.se k Γ) (hi.se k Γ) hns pos) (λenv whole=>rfl) λk Γ=>by rw[Yj hns];rfl
theorem pL (x:qf)(pos:qT)(k:zg)(Γ:List qf):vq (cE G (.Name x pos) k Γ)=qe:=by
 show vq (Iy G k Γ x)=qe
 have slot:vq (Ct x Γ)=qe:=by
  unfold Ct
  by_cases h:(x == ("__classdict__" : qf))=qe
  ·rw[if_pos h];rfl
  ·rw[if_neg h];cases j3 Γ x <;> rfl
 unfold Iy
 by_cases h:(x == ("__debug__" : qf))=qe
 ·rw[if_pos h];rfl
 ·rw[if_neg h]
  cases k.lookup x with
  | none=>rfl
  | some kd=>cases kd with
   | «local» => exact slot
   | cell=>exact slot
   | free=>exact slot
   | globalImplicit=>dsimp only;cases G x <;> rfl
   | _=>rfl
theorem iH (c:Const)(n:Nat)(pos:qT)(k:zg)(Γ:List qf):vq (cE G (.Constant c n pos) k Γ)=qe:=by cases c <;> rfl
theorem qeL (elt:qA)(gs:List vk)(sc:vh)(pos:qT)(k:zg)(Γ:List qf):vq (cE G (.ListComp elt gs sc pos) k Γ)=qe:=by
 cases gs with
 | nil=>rfl
 | cons g gs=>obtain⟨t,it,ifs,a⟩:=g;exact EZ (D1 λ_=>D1 λ_=>rfl)
theorem sG (x y:qA)(gs:List vk)(sc:vh)(pos:qT)(k:zg)(Γ:List qf):vq (cE G (.DictComp x y gs sc pos) k Γ)=qe:=by
 cases gs with
 | nil=>rfl
 | cons g gs=>obtain⟨t,it,ifs,a⟩:=g;exact EZ (D1 λ_=>D1 λ_=>rfl)
theorem gW (h:EOK qc w qd G tabs d O e)(op:UnaryOp)(pos:qT):EOK qc w qd G tabs d O (.UnaryOp op e pos):=by
 cases op with
 | USub=>exact .whole (λk Γ=>qd4 (h.se k Γ) pos) (λ_ _=>rfl) λk Γ=>rfl
 | _=>exact .bad λk Γ=>rfl
theorem x6 (hs:G9 qc w qd G tabs d O es)(op:BoolOp)(pos:qT):EOK qc w qd G tabs d O (.BoolOp op es pos):=by
 cases op with
 | And=>refine⟨λk Γ=>qe0 (hs.and k Γ) pos,λk Γ=>qeE (hs.tand k Γ) pos⟩
 | Or=>refine⟨λk Γ=>qfW pos,λk Γ=>qbj (hs.tor k Γ) pos⟩
theorem qdZ (g:j5 qc w qd G tabs d O)(h1:EOK qc w qd G tabs d O a)(ops:List MA)(h2:∀b,cs=[b]->EOK qc w qd G tabs d O b)(pos:qT):EOK qc w qd G tabs d O (.Compare a ops cs pos):=by
 cases ops with
 | nil=>exact .bad λk Γ=>rfl
 | cons op ops =>
  cases ops with
  | cons=>exact .bad λk Γ=>rfl
  | nil =>
   cases cs with
   | nil=>exact .bad λk Γ=>rfl
   | cons b cs =>
    cases cs with
    | cons=>exact .bad λk Γ=>rfl
    | nil=>refine⟨λk Γ=>qcT g.base g.two g.orc.vin (h1.se k Γ) ((h2 b rfl).se k Γ) op pos,λk Γ=>nC g.base g.two g.orc.vin (h1.se k Γ) ((h2 b rfl).se k Γ) op pos⟩
mutual
theorem vA (g:j5 qc w qd G tabs d O):∀e:qA,IW qc w qd G tabs d O e
 | .Constant c n pos=>.f (.whole (λk Γ=>qar c n pos) (λ_ _=>rfl) (iH c n pos)) rfl rfl
 | .Name x pos=>.f (.whole (λk Γ=>yP g.base x pos) (λ_ _=>rfl) (pL x pos)) rfl rfl
 | .BoolOp op es pos=>.f (x6 (es_ok g es) op pos) rfl rfl
 | .UnaryOp op e pos=>.f (gW (vA g e).toEOK op pos) rfl rfl
 | .BinOp a op b pos=>.f (.whole (λk Γ=>qa3 g.base ((vA g a).se k Γ) ((vA g b).se k Γ) op pos) (λ_ _=>rfl) λk Γ=>rfl) rfl rfl
 | .Compare a ops cs pos=>.f (qdZ g (vA g a).toEOK ops ((es_ok g cs).one) pos) rfl rfl
 | .IfExp c a b pos=>.f ⟨λk Γ=>m6 ((vA g c).st k Γ) ((vA g a).se k Γ) ((vA g b).se k Γ) pos,λk Γ=>iK pos⟩ rfl rfl
 | .List es pos=>.f (.whole (λk Γ=>tL g.base ((es_ok g es).all k Γ) pos) (λ_ _=>rfl) λk Γ=>rfl) rfl rfl
 | .Tuple es n pos=>.f (.whole (λk Γ=>qe7 g.base ((es_ok g es).all k Γ) n pos) (λ_ _=>rfl) λk Γ=>rfl) rfl rfl
 | .Dict ks vs pos=>.f (.whole (λk Γ=>m9 g.base g.two ks vs pos) (λ_ _=>rfl) λk Γ=>nX (D1 λ_=>EZ rfl)) rfl rfl
 | .ListComp elt gs sc pos=>.f (.whole (λk Γ=>uW g.base (vA g elt).se (gs_ok g gs)) (λ_ _=>rfl) (qeL elt gs sc pos)) rfl rfl
 | .DictComp x y gs sc pos=>.f (.whole (λk Γ=>fL g.base (vA g x).se (vA g y).se (gs_ok g gs)) (λ_ _=>rfl) (sG x y gs sc pos)) rfl rfl
 | .Lambda args b sc pos=>.f (.whole (λk Γ=>qdS g.base args b sc pos) (λ_ _=>rfl) λk Γ=>D1 λ_=>EZ rfl) rfl rfl
 | .Call f es ks pos=>.f (lQ g (vA g f) (es_ok g es) (ks_ok g ks) pos) rfl rfl
 | .Attribute o n pos=>⟨.whole (λk Γ=>qdU g.base g.orc ((vA g o).se k Γ) n pos) (λ_ _=>rfl) λk Γ=>EZ rfl,λ_ _ _ e=>by cases e;exact(vA g o).toEOK,λ_ _ _ _ e=>(nomatch e)⟩
 | .Subscript o i pos=>.f (qdh g (vA g o).toEOK (vA g i) pos) rfl rfl
 | .Slice lo hi st p=>⟨.bad λk Γ=>rfl,λ_ _ _ e=>(nomatch e),λ_ _ _ _ e=>by cases e;refine⟨o_ok g lo,o_ok g hi,o_ok g st⟩⟩
 | .NamedExpr _ _ _=>.f (.bad λk Γ=>rfl) rfl rfl
 | .Set _ _ _=>.f (.bad λk Γ=>rfl) rfl rfl
 | .SetComp _ _ _ _=>.f (.bad λk Γ=>rfl) rfl rfl
 | .GeneratorExp _ _ _ _=>.f (.bad λk Γ=>rfl) rfl rfl
 | .Await _ _=>.f (.bad λk Γ=>rfl) rfl rfl
 | .Yield _ _=>.f (.bad λk Γ=>rfl) rfl rfl
 | .YieldFrom _ _=>.f (.bad λk Γ=>rfl) rfl rfl
 | .FormattedValue _ _ _ _=>.f (.bad λk Γ=>rfl) rfl rfl
 | .JoinedStr _ _=>.f (.bad λk Γ=>rfl) rfl rfl
 | .Starred _ _=>.f (.bad λk Γ=>rfl) rfl rfl
theorem es_ok (g:j5 qc w qd G tabs d O):∀es:List qA,G9 qc w qd G tabs d O es
 | []=>pQ
 | e :: es=>rQ (vA g e).toEOK (es_ok g es)
theorem o_ok (g:j5 qc w qd G tabs d O):∀(o:Option qA) k Γ,SO qc w qd G tabs d O o k Γ
 | none,k,Γ=>HY
 | some e,k,Γ=>Te ((vA g e).se k Γ)
theorem ks_ok (g:j5 qc w qd G tabs d O):∀(ks:List Ht) k Γ,D2 qc w qd G tabs d O ks k Γ
 | [],k,Γ=>nT
 | ⟨n,v,p⟩ :: ks,k,Γ=>m7 ((vA g v).se k Γ) (ks_ok g ks k Γ)
theorem gs_ok (g:j5 qc w qd G tabs d O):∀gs:List vk,Iz qc w qd G tabs d O gs
 | []=>⟨λ_ h=>(nomatch h),λ_ h=>(nomatch h)⟩
 | ⟨t,it,ifs,a⟩ :: gs=>⟨inC (P:=λg:vk=>∀k Γ,SE qc w qd G tabs d O g.iter k Γ) (vA g it).se (gs_ok g gs).iter,inC (P:=λg:vk=>∀k Γ,B2 qc w qd G tabs d O g.ifs k Γ) (es_ok g ifs).tsts (gs_ok g gs).ifs⟩
end
theorem v6 (g:j5 qc w qd G tabs d O)(e:qA):EOK qc w qd G tabs d O e:=(vA g e).toEOK
end
inductive B5 (ρ:List qj):Fl->A8->Prop
 | next:B5 ρ .next .next
 | ret {v v'}:qz ρ v v'->B5 ρ (.ret v) (.ret v')
section
variable {qc:zm}{w:qK}{qd:Heap}{G:qf->Option qh}{tabs:List (qj×qj)}{d:Nat}{O:qE}{A:zh}{Ex:qh->qk->Prop}{s:qk}
 {ρ qr:List qj} {σ σ':qi} {v:V} {h h':Heap} {env:q0} {k:zg} {Γ:List qf} {m m':qx}
noncomputable def DE (qc:zm)(w:qK)(qd:Heap)(G:qf->Option qh)(tabs:List (qj×qj))(env:q0)(k:zg)(Γ:List qf)(Q:A8->qk->Prop)(ρ:List qj)(s:qk)(fl:Fl)(m':qx)(σ':qi):Prop :=
 ∀fl' qr h' tk,qY qd (vd env k) ρ s.heap qr h'->zi qd tabs env k Γ m' qr h'->qt qc w qd G tabs h' qr σ'->B5 qr fl fl'->Q fl' { s with heap:=h',toks:=tk }
noncomputable def SS (qc:zm)(w:qK)(qd:Heap)(G:qf->Option qh)(tabs:List (qj×qj))(d:Nat)(O:qE)(st:z6)(k:zg)(Γ:List qf):Prop :=
 ∀{A:zh} {s:qk} {ρ:List qj} {m:qx} {σ:qi} {fl:Fl} {m':qx} {σ':qi} {Q:A8->qk->Prop} {Ex:qh->qk->Prop} {env:q0},
  zf d A->zi qd tabs env k Γ m ρ s.heap->qt qc w qd G tabs s.heap ρ σ->ex O (cS G st k Γ) m σ=qa (fl,m',σ')->DE qc w qd G tabs env k Γ Q ρ s fl m' σ'->qq (qp qc w) A (Hv st env) Q Ex s
noncomputable def CL (qc:zm)(w:qK)(qd:Heap)(G:qf->Option qh)(tabs:List (qj×qj))(d:Nat)(O:qE)(sts:List z6)(k:zg)(Γ:List qf):Prop :=
 ∀{A:zh} {s:qk} {ρ:List qj} {m:qx} {σ:qi} {fl:Fl} {m':qx} {σ':qi} {Q:A8->qk->Prop} {Ex:qh->qk->Prop} {env:q0},
  zf d A->zi qd tabs env k Γ m ρ s.heap->qt qc w qd G tabs s.heap ρ σ->exs O (cSs G sts k Γ) m σ=qa (fl,m',σ')->DE qc w qd G tabs env k Γ Q ρ s fl m' σ'->qq (qp qc w) A (jS sts env) Q Ex s
theorem wD (S:qY qd vr ρ h qr h'):qY qd (vd env k) ρ h qr h':=S.weaken λb f=>f.elim
theorem ki {st:z6}(h:cS G st k Γ=.bad):SS qc w qd G tabs d O st k Γ:=λr X I e R=>by
 rw[h] at e;exact nn e
theorem DE.of (e:qa (f,kP,τ)=qa (fl,m',σ'))(R:DE qc w qd G tabs env k Γ Q ρ s fl m' σ'):DE qc w qd G tabs env k Γ Q ρ s f kP τ:=by cases e;exact R
theorem DE.step (R:DE qc w qd G tabs env k Γ Q ρ s fl m' σ')(S:qY qd (vd env k) ρ s.heap qr h):DE qc w qd G tabs env k Γ Q qr { s with heap:=h,toks:=tk } fl m' σ' :=
 λfl2 zv h2 zl S2 X2 I2 r2=>R fl2 zv h2 zl (S.trans S2) X2 I2 r2
theorem B5.next_inv (r:B5 ρ .next f):f=.next:=by cases r;rfl
theorem B5.ret_inv (r:B5 ρ (.ret v) f):∃v',f=.ret v'/\B5 ρ (.ret v) (.ret v'):=by cases r;refine⟨_,rfl,.ret (by assumption)⟩
theorem pX:CL qc w qd G tabs d O [] k Γ:=λ{A s ρ m σ fl m' σ' Q Ex env} r X I e R=>bX (R.of (nG e) .next ρ s.heap s.toks (.refl ..) X I .next)
theorem d6 {st:z6}(h:SS qc w qd G tabs d O st k Γ)(hs:CL qc w qd G tabs d O sts k Γ):CL qc w qd G tabs d O (st :: sts) k Γ:=λr X I e R =>
 qhB (qey (s:=cS G st k Γ) (ss:=cSs G sts k Γ) e (λkP σ₁ e1 e=>h r X I e1 λfl' zj h1 qV S1 X1 I1 r1=>by
   obtain rfl:=r1.next_inv
   exact hs r X1 I1 e (R.step S1))
  λvf kP σ₁ e1 e=>h r X I e1 λfl' zj h1 qV S1 X1 I1 r1=>by
   obtain⟨v',rfl,r2⟩:=r1.ret_inv
   exact R.of e _ zj h1 qV S1 X1 I1 r2)
theorem dT (X:zi qd tabs env k Γ m ρ h):qhC env=qg:=by
 unfold qhC;rw[X.kind];rfl
theorem TY (hc:Ga e=qg)(t:Option qA)(n:Nat)(env:q0):swapsWith e t n env=pure qg:=by
 cases e <;> first | rfl | exact ff hc.symm
theorem xI (he:∀k Γ,SE qc w qd G tabs d O e k Γ)(pos:qT):SS qc w qd G tabs d O (.Expr e pos) k Γ:=λr X I e' R =>
 Ys (c:=!Ga e) (a:=.expr (cE G e k Γ)) e' λhc e'=>Id e' λvf σ₁ e1 e' =>
  wpAny_Expr_any (he k Γ r X I e1 λv' zj h1 qV S1 I1 r1=>R.of e' .next zj h1 qV (wD S1) (X.step S1) I1 .next) (dT X) (TY (F1 _▸hc) _ _ _)
theorem dQ (he:∀k Γ,SE qc w qd G tabs d O e k Γ)(pos:qT):SS qc w qd G tabs d O (.Return (qa e) pos) k Γ:=λr X I e' R =>
 KO (a:=cE G e k Γ) e' λvf σ₁ e1 e'=>wpAny_Return_some (he k Γ r X I e1 λv' zj h1 qV S1 I1 r1=>R.of e' _ zj h1 qV (wD S1) (X.step S1) I1 (.ret r1))
theorem y9 (pos:qT):SS qc w qd G tabs d O (.Return qb pos) k Γ:=λ{A s ρ m σ fl m' σ' Q Ex env} r X I e' R=>by
 have e':qa (Fl.ret .none,m,σ)=qa (fl,m',σ'):=e'
 exact wpAny_Return_none (R.of e' _ ρ s.heap s.toks (.refl ..) X I (.ret .none))
theorem xS (hc:∀k Γ,ST qc w qd G tabs d O c k Γ)(ha:CL qc w qd G tabs d O a k Γ)(hb:CL qc w qd G tabs d O b k Γ)(pos:qT):SS qc w qd G tabs d O (.If c a b pos) k Γ :=
 λr X I e' R=>wpAny_If (uY (c:=cE G c k Γ) (ss:=cSs G a k Γ) (ts:=cSs G b k Γ) e'
  (λσ₁ e1 e'=>hc k Γ r X I e1 λzj h1 qV S1 I1=>(if_pos rfl).symm▸ha r (X.step S1) I1 e' (R.step (wD S1)))
  λσ₁ e1 e'=>hc k Γ r X I e1 λzj h1 qV S1 I1=>(if_neg jy).symm▸hb r (X.step S1) I1 e' (R.step (wD S1)))
theorem qaS {body:List z6}(hc:∀k Γ,ST qc w qd G tabs d O c k Γ)(hb:CL qc w qd G tabs d O body k Γ):∀(n:Nat){A:zh}{s:qk}{ρ ρp:List qj}{hp:Heap}{m:qx}{σ:qi}{fl:Fl}{m':qx}{σ':qi}{R:AF->qk->Prop},
  zf d A->zi qd tabs env k Γ m ρ s.heap->qt qc w qd G tabs s.heap ρ σ->qY qd (vd env k) ρp hp ρ s.heap ->
  Fe (λm σ=>tst O (cE G c k Γ) m σ (λ_=>ev O (cE G c k Γ) m σ)) (λm σ=>exs O (cSs G body k Γ) m σ) n m σ=qa (fl,m',σ') ->
  (∀fl' qr h' tk,qY qd (vd env k) ρp hp qr h'->zi qd tabs env k Γ m' qr h'->qt qc w qd G tabs h' qr σ'->B5 qr fl fl'->R (.ok fl') { s with heap:=h',toks:=tk }) ->
  C4 (qp qc w) A (.whileLoop c body [] env) R s:=λn=>by
 induction n with
 | zero=>intro _ _ _ _ _ _ _ _ _ _ _ _ _ _ _ e _;exact nn e
 | succ n ih =>
  intro A s ρ ρp hp m σ fl m' σ' R r X I S₀ e hR
  refine J0 ?_
  show qq _ A ((whileTurn c body [] env).onRaise (λx=>do MO x env;Ry x)) _ _ s
  refine MP ?_
  unfold whileTurn
  refine bt (x:=tst O (cE G c k Γ) m σ λ_=>ev O (cE G c k Γ) m σ) (f:=λσ=>As (exs O (cSs G body k Γ) m σ) λm σ=>Fe (λm σ=>tst O (cE G c k Γ) m σ (λ_=>ev O (cE G c k Γ) m σ)) (λm σ=>exs O (cSs G body k Γ) m σ) n m σ) (g:=λσ=>qa (Fl.next,m,σ)) e
   (λσ₁ e1 e=>qm (hc k Γ r X I e1 λzj h1 qV S1 I1=>?_)) λσ₁ e1 e=>qm (hc k Γ r X I e1 λzj h1 qV S1 I1=>?_)
  ·rw[if_pos rfl]
   have S01:=S₀.trans (wD S1)
   refine bF e (λjp σ₂ e2 e=>qm (hb (s:={ s with heap:=h1,toks:=qV }) r (X.step S1) I1 e2 λfl2 zv h2 zl S2 X2 I2 r2=>?_)) λv₂ jp σ₂ e2 e=>qm (hb (s:={ s with heap:=h1,toks:=qV }) r (X.step S1) I1 e2 λfl2 zv h2 zl S2 X2 I2 r2=>?_)
   ·obtain rfl:=r2.next_inv
    exact qB ⟨rfl,ih (s:={ s with heap:=h2,toks:=zl }) r X2 I2 (S01.trans S2) e hR⟩
   ·obtain⟨v',rfl,r3⟩:=r2.ret_inv
    cases e
    exact qB (hR _ zv h2 zl (S01.trans S2) X2 I2 r3)
  ·cases e
   rw[if_neg jy]
   exact qm (bX (qB (hR _ zj h1 qV (S₀.trans (wD S1)) (X.step S1) I1 .next)))
theorem qax {body:List z6}(hc:∀k Γ,ST qc w qd G tabs d O c k Γ)(hb:CL qc w qd G tabs d O body k Γ)(pos:qT):SS qc w qd G tabs d O (.While c body [] pos) k Γ :=
 λ{A s ρ m σ fl m' σ' Q Ex env} r X I e' R=>by
 exact wpAny_While (qaS hc hb _ r X I (.refl ..) (Ip (c:=cE G c k Γ) (ss:=cSs G body k Γ) e') λfl' qr h' tk S X' I' rf=>R fl' qr h' tk S X' I' rf)
structure FW (qc:zm)(w:qK)(qd:Heap)(G:qf->Option qh)(tabs:List (qj×qj))(env:q0)(k:zg)(Γ:List qf)(I:qj)(it:It)(n:Nat)(ρp:List qj)(hp:Heap)
  (m:qx) (h:Heap) (ρ:List qj) (σ:qi) (j:Nat):Prop where
 X:zi qd tabs env k Γ m ρ h
 inv:qt qc w qd G tabs h ρ σ
 i:I∉ρ
 it:v2 h ρ I it n j
 S:qY qd (vd env k) ρp hp ρ h
theorem FW.step {I:qj}{it:It}(x:FW qc w qd G tabs env k Γ I it n ρp hp m h ρ σ j)(hb:qd.objs.size<=I)(S:qY qd (vd env k) ρ h qr h')(X':zi qd tabs env k Γ m' qr h')(I':qt qc w qd G tabs h' qr σ') :
  FW qc w qd G tabs env k Γ I it n ρp hp m' h' qr σ' j :=
 ⟨X',I',(by obtain⟨_,ho,_⟩:=x.it.live;exact S.notin x.i ho),x.it.keepS (λo e=>S.keep I o hb x.i (λhw=>x.it.notOwn x.X hw.all) e) S.ext,x.S.trans S⟩
theorem VR {body:List z6}(B:qS qc qd G tabs)(ht:we k Γ t=qa tg)(hb:CL qc w qd G tabs d O body k Γ)(hall:jX σa it=qa all)(hpI:hp.get? I=qb)(hbI:qd.objs.size<=I) :
  ∀{xs:List V} {A:zh} {s:qk} {ρ:List qj} {σ:qi} {fl:Fl} {σ':qi} {j:Nat} {m m':qx} {R:AF->qk->Prop},
  zf d A->FW qc w qd G tabs env k Γ I it all.length ρp hp m s.heap ρ σ j ->
  xs=all.drop j->j<=all.length->wP it all (λx m σ=>bn1 (AP σ tg x m) λm=>exs O (cSs G body k Γ) m σ) xs m σ=qa (fl,m',σ') ->
  (∀fl' qr h' tk,qY qd (vd env k) ρp hp qr h'->zi qd tabs env k Γ m' qr h'->qt qc w qd G tabs h' qr σ'->B5 qr fl fl'->R (.ok fl') { s with heap:=h',toks:=tk }) ->
  C4 (qp qc w) A (.forLoop t (.ref I) body [] env) R s:=by
 intro xs
 induction xs with
 | nil =>
  intro A s ρ σ fl σ' j m m' R r x hxs hj he hR
  refine bi (t:=qa (Fl.next,m,σ)) he λhs he=>J0 ?_
  cases he
  show qq _ A ((RB t (.ref I) body [] env).onRaise (λx=>do MO x env;Ry x)) _ _ s
  refine MP ?_
  unfold RB
  have hjl:all.length<=j:=bO.mp hxs.symm
  obtain⟨oi,hoi,hfz,_,hfv⟩:=x.it.live
  refine qm (jM (qm (Z9 (L5 r x.inv x.i (KU hall hs) x.it (λqQ=>absurd qQ (k8.mpr hjl)) (λ_ h' tk hk=>qB ⟨rfl,codeAny_block (bX ?_)⟩) hj))))
  exact hR .next ρ h' tk (x.S.free hk hpI) (x.X.keepOwn λb o hb' e'=>hk b o (λe''=>x.it.notOwn x.X (e''▸hb')) e') (x.inv.keepBut B x.i hbI hoi hfz hfv hk) .next
 | cons y xs ih =>
  intro A s ρ σ fl σ' j m m' R r x hxs hj he hR
  refine bi (t:=As (bn1 (AP σ tg y m) λm=>exs O (cSs G body k Γ) m σ) λm σ=>wP it all (λx m σ=>bn1 (AP σ tg x m) λm=>exs O (cSs G body k Γ) m σ) xs m σ) he λhs he=>J0 ?_
  have qQ:j < all.length:=FY λh=>by rw[JW h] at hxs;cases hxs
  rw[MN qQ] at hxs
  injection hxs with hx0 hxs
  show qq _ A ((RB t (.ref I) body [] env).onRaise (λx=>do MO x env;Ry x)) _ _ s
  refine MP ?_
  unfold RB
  obtain⟨oi,hoi,hfz,_,hfv⟩:=x.it.live
  refine qm (jM (qm (Z9 (L5 r x.inv x.i (KU hall hs) x.it (λ_ v' h1 qV rv hit1 hk hown=>?_) (λe=>absurd qQ (e▸j7 _)) hj))))
  have x1:FW qc w qd G tabs env k Γ I it all.length ρp hp m h1 ρ σ (j+1):=⟨x.X.keepOwn λb o hb' e'=>hk b o (λe''=>x.it.notOwn x.X (e''▸hb')) e',x.inv.keepBut B x.i hbI hoi hfz hfv hk,x.i,hit1,x.S.free hk hpI⟩
  rw[<-hx0] at rv
  refine qm (TJ (λa ea I' eI=>?_) ?_)
  ·cases eI
   obtain⟨id,rfl⟩:=hown a ea
   obtain⟨a',_,o,ho,hc,_⟩:=hit1
   refine⟨o,ho,hc⟩
  have turn:∀{fl₁:Fl} {jp:qx} {σ₂:qi},(bn1 (AP σ tg y m) λm=>exs O (cSs G body k Γ) m σ)=qa (fl₁,jp,σ₂)->∀{f:A8->zr Fin} {P:Fin->qk->Prop} {Ex':qh->qk->Prop},
    (∀fl' qr h' tk,FW qc w qd G tabs env k Γ I it all.length ρp hp jp h' qr σ₂ (j+1)->B5 qr fl₁ fl'->qq (qp qc w) A (f fl') P Ex' { s with heap:=h',toks:=tk }) ->
    qq (qp qc w) A (assign t env v' >>= λ_=>jS body env >>= f) P Ex' { s with heap:=h1,toks:=qV }:=by
   intro fl₁ jp σ₂ e2 f P Ex' hP
   exact b1 e2 λkP hm eb=>qm (Yf B r x1.X x1.inv ht rv hm λh2 zl S2 X2 I2 =>
    have x2:=x1.step hbI S2 X2 I2
    qm (hb (s:={ s with heap:=h2,toks:=zl }) r X2 I2 eb λfl3 ρ3 h3 tk3 S3 X3 I3 r3=>hP fl3 ρ3 h3 tk3 (x2.step hbI S3 X3 I3) r3))
  refine bF he (λjp σ₂ e2 he=>turn e2 λfl3 ρ3 h3 tk3 x3 r3=>?_) λv₂ jp σ₂ e2 he=>turn e2 λfl3 ρ3 h3 tk3 x3 r3=>?_
  ·obtain rfl:=r3.next_inv
   exact qB ⟨rfl,ih (s:={ s with heap:=h3,toks:=tk3 }) r x3 hxs qQ he hR⟩
  ·obtain⟨v',rfl,r4⟩:=r3.ret_inv
   cases he
   exact qB (hR _ ρ3 h3 tk3 x3.S x3.X x3.inv r4)
theorem eO {body:List z6}(B:qS qc qd G tabs)(hi:∀k Γ,SE qc w qd G tabs d O iter k Γ)(hb:CL qc w qd G tabs d O body k Γ)(pos:qT):SS qc w qd G tabs d O (.For t iter body [] pos) k Γ :=
 λ{A s ρ m σ fl m' σ' Q Ex env} r X I e' R=>by
 refine Uw (x:=we k Γ t) (f:=λt=>.for_ t (cE G iter k Γ) (cSs G body k Γ)) e' λtg ht e'=>?_
 refine Go e' λvf σ₁ e1 it e2 all e3 e'=>?_
 refine wpAny_For (hi k Γ r X I e1 λx' zj h1 qV S1 I1 r1=>KC (s:={ s with heap:=h1,toks:=qV }) I1 r1 e2 e3 λo hit=>?_) λx=>Mb (Ic e1) env x
 have kp:∀b o',h1.get? b=qa o'->(h1.push o).get? b=qa o':=λb o' e=>Heap.get?_push_of_some _ e
 have hIρ:h1.objs.size∉zj:=λhm=>(by obtain⟨o,ho⟩:=I1.here hm;exact absurd (Heap.lt_size ho) (j7 _))
 exact VR B ht hb e3 (hp:=h1) (ρp:=zj) (B0 _) (B.size _ I1.old) (s:={ s with heap:=h1.push o,toks:=qV }) r ⟨(X.step S1).keeps kp,I1.keeps B.tlt kp,hIρ,hit,.keeps kp⟩ rfl (zN _) e'
  λfl2 zv h2 zl S2 X2 I2 r2=>R fl2 zv h2 zl ((wD S1).trans S2) X2 I2 r2
end
theorem H8 (h:put m i v=qa m'):i < m.length/\m'=m.set i (qa v):=bi h λhl h=>by cases h;refine⟨hl,rfl⟩
theorem L0 (h:i < m.length):put m i v=qa (m.set i (qa v)):=if_pos h
theorem IR {vs:List V}{m m':qx}{P:Prop}(h:kg (i :: is) (v :: vs) m=qa m')(k:i < m.length->kg is vs (m.set i (qa v))=qa m'->P):P :=
 b1 (x:=put m i v) (f:=λm=>kg is vs m) h λkP h1 h=>have ⟨a,b⟩:=H8 h1;k a (b▸h)
theorem PJ (hi:i < m.length)(h:kg is vs (m.set i (qa v))=r):kg (i :: is) (v :: vs) m=r:=by
 show bn1 (put m i v) _=_;rw[L0 hi];exact h
theorem WB:∀{is:List Nat}{vs:List V}{m m':qx},kg is vs m=qa m'->m'.length=m.length
 | [],[],m,m',h=>by cases h;rfl
 | i :: is,v :: vs,m,m',h=>IR h λ_ h=>(WB h).trans (wo ..)
 | [],_ :: _,_,_,h=>nn h
 | _ :: _,[],_,_,h=>nn h
theorem Vv {v:V}:∀{is:List Nat}{vs:List V}{m m':qx},i < m.length->i∉is->kg is vs (m.set i (qa v))=qa m'->∃jp,kg is vs m=qa jp/\m'=jp.set i (qa v)
 | [],[],m,m'=>@λhl hn h=>by cases h;refine⟨m,rfl,rfl⟩
 | j :: is,u :: vs,m,m'=>@λhl hn h=>IR h λhj h=>by
  rw[List.set_comm _ _ (λe:i=j=>hn (e▸zB))] at h
  obtain⟨jp,a,b⟩:=Vv (m:=m.set j (qa u)) ((wo ..).symm▸hl) (λhm=>hn (zI _ hm)) h
  refine⟨jp,PJ ((wo ..).symm▸hj) a,b⟩
 | [],_ :: _,_,_=>@λ_ _ h=>nn h
 | _ :: _,[],_,_=>@λ_ _ h=>nn h
theorem Tq:∀{is:List Nat}{vs:List V}{i:Nat}{v:V}{m jp m':qx},kg is vs m=qa jp->put jp i v=qa m'->kg (is++[i]) (vs++[v]) m=qa m'
 | [],[],i,v,m,jp,m'=>@λh g=>by
  cases h
  obtain⟨a,rfl⟩:=H8 g
  exact PJ a rfl
 | j :: is,u :: vs,i,v,m,jp,m'=>@λh g=>IR h λhj h=>PJ hj (Tq h g)
 | [],_ :: _,_,_,_,_,_=>@λh _=>nn h
 | _ :: _,[],_,_,_,_,_=>@λh _=>nn h
theorem Zg:∀{is:List Nat}{vs:List V}{m m':qx},is.Nodup->kg is vs m=qa m'->kg is.reverse vs.reverse m=qa m'
 | [],[],m,m'=>@λ_ h=>h
 | i :: is,v :: vs,m,m'=>@λhn h=>IR h λhi h=>by
  obtain⟨h2,h3⟩:=k7.mp hn
  obtain⟨jp,a,rfl⟩:=Vv hi h2 h
  rw[Rj,Rj]
  exact Tq (Zg h3 a) (L0 (by rw[WB a];exact hi))
 | [],_ :: _,_,_=>@λ_ h=>nn h
 | _ :: _,[],_,_=>@λ_ h=>nn h
noncomputable def DF (e:qA):qf:=xn e (λx=>x) ("" : qf)
theorem UX:∀{l:List α},(l.filterMap f).length=l.length->∀x∈l,(f x).isSome
 | []=>@λ_ x h=>(nomatch h)
 | a :: l=>@λh x hx=>by
  have hle:(l.filterMap f).length<=l.length:=List.length_filterMap_le ..
  cases hf:f a with
  | none=>rw[bY hf] at h;simp at h;lia
  | some b =>
   rw[RC hf] at h
   rcases jJ.mp hx with rfl | hx
   ·rw[hf];rfl
   ·exact UX (by simpa using h) x hx
section
variable {qc:zm}{w:qK}{qd:Heap}{G:qf->Option qh}{tabs:List (qj×qj)}{d:Nat}{O:qE}{A:zh}{Ex:qh->qk->Prop}{s:qk}
 {ρ qr:List qj} {σ σ':qi} {v:V} {h h':Heap} {env:q0} {k:zg} {Γ:List qf} {m m':qx}
theorem Wh {P:Unit->qk->Prop}(B:qS qc qd G tabs):∀{xs:List qf}{is:List Nat}{vs:List V}{qW:List qh}{m m':qx}{s:qk},xs.map (Ay k Γ)=is.map qa->zi qd tabs env k Γ m ρ s.heap->qt qc w qd G tabs s.heap ρ σ ->
  qL ρ vs qW->kg is vs m=qa m'->JA qc w qd G tabs env k Γ P ρ s m' σ->qq (qp qc w) A (bN (xs.map λn=>bM env n) qW) P Ex s
 | [],is,vs,qW,m,m',s=>@λhc X I r hp h=>by
  cases is with
  | cons=>cases hc
  | nil =>
  cases r with
  | nil=>cases hp;exact qhq (h s.heap s.toks (.refl ..) X I)
  | cons a b=>exact nn hp
 | x :: xs,is,vs,qW,m,m',s=>@λhc X I r hp h=>by
  cases is with
  | nil=>cases hc
  | cons i is =>
  rw[z7,z7] at hc
  injection hc with hc1 hc2
  cases r with
  | nil=>exact nn hp
  | cons a b=>exact IR hp λhi hp=>qhr (HX B X I hc1 a (L0 hi) λBC tk₁ S₁ X₁ I₁=>Wh B hc2 X₁ I₁ b hp λkC tk₂ S₂ X₂ I₂=>h kC tk₂ (S₁.trans S₂) X₂ I₂)
theorem Pc:∀{es:List qA}{is:List Nat},AW k Γ es=qa is->(es.map DF).map (Ay k Γ)=is.map qa/\∀e∈es,∃x p,e=.Name x p
 | [],is=>@λh=>by cases h;refine⟨rfl,λ_ h=>(nomatch h)⟩
 | e :: es,is=>@λh=>by
  obtain⟨x,p,rfl,h'⟩:=Nr (f:=λx=>bn1 (Ay k Γ x) λi=>bn1 (AW k Γ es) λis=>qa (i :: is)) h
  refine b1 h' λi h1 h'=>b1 h' λjs h2 h'=>?_
  cases h'
  obtain⟨a,b⟩:=Pc h2
  refine⟨by rw[z7,z7,z7,a];exact congrArg (· :: _) h1,inC (P:=λe:qA=>∃x p,e=Expr.Name x p) ⟨x,p,rfl⟩ b⟩
set_option tactic.hygienic true in
theorem lT (hc:AW k Γ ts=qa is)(ho:Gm (.Tuple ts n p) (.Tuple vs n' p')=qe) :
  EC [.Tuple ts n p] (.Tuple vs n' p') env=pure qb\/EC [.Tuple ts n p] (.Tuple vs n' p') env=pure (qa (ts.map DF)):=by
 unfold EC
 dsimp only
 split
 ·exact .inl rfl
 ·split
  ·exact .inl rfl
  ·generalize hN:(ts.filterMap λx=>match x with
     | .Name id pos=>if (env.kindOf id == qa .local&&pos.line == (ts.head?.map (·.pos.line)).getD 0)=qe then qa id else qb
     | _=>qb)=N
   split
   ·exact .inl rfl
   ·rename_i hl
    split
    ·exact .inl rfl
    ·rename_i hff
     split
     ·rename_i hca
      have ho':(!(vs.all (qgM 8))||vs.all (qgN 8))=qe:=ho
      rw[hca] at ho'
      exact absurd ho' hff
     ·refine .inr ?_
      have jh:N.length=ts.length:=by
       simp only[qhD,bne_iff_ne,ne_eq,not_or,bP] at hl
       exact hl.1
      have:N=ts.map DF:=by
       rw[<-hN] at jh ⊢
       have hall:=UX jh
       have hnm:=(Pc hc).2
       have key:∀(l:List qA) (f:qA->Option qf),(∀x∈l,(f x).isSome)->(∀x∈l,∀y,f x=qa y->y=DF x)->l.filterMap f=l.map DF:=by
        intro l f h1 h2
        induction l with
        | nil=>rfl
        | cons a l ih =>
         obtain⟨b,hb⟩:=aG.mp (h1 a zB)
         rw[RC hb,z7,h2 a zB b hb,ih (λx hx=>h1 x (zI _ hx)) λx hx=>h2 x (zI _ hx)]
       refine key ts _ hall λx hx y hy=>?_
       obtain⟨z,q,rfl⟩:=hnm x hx
       dsimp only at hy
       split at hy
       ·cases hy;rfl
       ·cases hy
      rw[this]
noncomputable def Ii (qc:zm)(w:qK)(qd:Heap)(G:qf->Option qh)(tabs:List (qj×qj))(P:Unit->qk->Prop)(ρ:List qj)(s:qk)(σ':qi):Prop :=
 ∀h' tk,qY qd vr ρ s.heap ρ h'->qt qc w qd G tabs h' ρ σ'->P () { s with heap:=h',toks:=tk }
theorem qcb (B:qS qc qd G tabs)(I:qt qc w qd G tabs s.heap ρ σ)(ro:qz ρ o o')(ri:qz ρ i i')(rx:qz ρ x x')(e:M9 σ o i x=qa σ')
  (R:Ii qc w qd G tabs P ρ s σ'):qq (qp qc w) A (setItem o' i' x') P Ex s:=by
 obtain⟨n,a,rfl,ha,e⟩:=vM ro e
 refine b1 e λob h1 e=>?_
 rw[za] at h1
 have go:∀{h' ao tk},Heap.SameBut a s.heap h'->vD qc w G h' ρ a ao->CB ao σ n=σ'->P () { s with heap:=h',toks:=tk }:=λ{h' ao tk} hs hx e =>
  R h' tk (.upd hs (wT ha) ((by obtain⟨o,ho,_⟩:=hx.get;refine⟨o,ho⟩))) (by rw[<-e,A3];exact I.upd B.tlt ha hs hx)
 cases ob with
 | sdict es =>
  obtain⟨y,t,rfl,e⟩:=Aa ri e
  refine bi e λhc e=>?_
  obtain⟨kvs,hd,hr⟩:=I.at h1 ha
  exact wpAny_setItem_pairs (knd:=strKind qc w) (DQ qc w y t) hd (λh' hd' hs=>go (ao:=.sdict (wy es y x)) hs ⟨_,hd',Yd hr rx⟩ (zc e)) (by rw[hr.length];exact qu (vZ hc) (show 1000000<=vH by decide))
 | _=>exact nn e
theorem WK (x:qf)(v:V)(y:qf)(hy:x≠y):∀es:List (qf×V),(es.map λe=>if ze e.1 x then (e.1,v) else e).find? (λe=>ze e.1 y)=es.find? λe=>ze e.1 y
 | []=>rfl
 | e :: es=>by
  rw[z7,AI,AI,WK x v y hy es]
  cases h:ze e.1 x with
  | true=>rw[if_pos rfl,vG h,FF,decide_eq_false hy]
  | false=>rfl
theorem Yn (x:qf)(v:V):∀es:List (qf×V),(es.any λe=>ze e.1 x)=qe->((es.map λe=>if ze e.1 x then (e.1,v) else e).find? λe=>ze e.1 x).map (·.2)=qa v
 | e :: es,h=>by
  rw[z7,AI]
  rw[FS] at h
  cases h2:ze e.1 x with
  | true=>rw[if_pos rfl];dsimp only;rw[h2];rfl
  | false=>rw[h2] at h;rw[if_neg jy,h2];exact Yn x v es h
set_option tactic.hygienic true in
theorem XQ (es:List (qf×V))(x y:qf)(v:V):jP (wy es x v) y=if y=x then qa v else jP es y:=by
 unfold jP wy
 by_cases hy:y=x
 ·subst hy
  rw[if_pos rfl]
  split
  ·rename_i ha;exact Yn y v es ha
  ·rename_i ha
   rw[bZ,b9.mpr λe he hc=>ha (C0.mpr ⟨e,he,hc⟩)]
   rw[Option.none_or,AI,FF,decide_eq_true rfl];rfl
 ·rw[if_neg hy]
  split
  ·rw[WK x v y (DO hy)]
  ·rw[bZ,AI,FF,decide_eq_false (DO hy)]
   exact congrArg _ (Option.or_none)
theorem Ii.of (R:Ii qc w qd G tabs P ρ s σ')(e:qa τ=qa σ'):Ii qc w qd G tabs P ρ s τ:=zc e▸R
set_option tactic.hygienic true in
theorem i9 (B:qS qc qd G tabs)(oo:wz qc w qd G tabs d O)(I:qt qc w qd G tabs s.heap ρ σ)(ro:qz ρ o o')(rx:qz ρ x x')(e:II O σ o name x=qa σ')
  (R:Ii qc w qd G tabs P ρ s σ'):qq (qp qc w) A (setAttr o' name x') P Ex s:=by
 obtain⟨i,a,rfl,ha,e1⟩:=vM ro e
 refine VH e1 λc dI h1 e2=>Qw e2 λes h2 e3=>bi e3 λhc e4=>?_
 have R:=R.of (A3 (AObj.ns (wy es name x)) dI σ▸e4)
 clear e e1 e2 e3 e4
 have hia:O.iattr c name=qe:=(z0.mp hc).1
 have jh:es.length<=5:=of_decide_eq_true (z0.mp hc).2
 obtain⟨hc0,hB,A7⟩:=oo.iattr hia
 obtain⟨N,mN,hat,hna,hng,hns⟩:=A7 _ I.old
 obtain⟨nm,q,bs,sn,sub,col,dd,k0,k1,k2,k3,k5,hC⟩:=hat.obj
 obtain⟨ob,da,ms,q1,q2,q3,q4,q5,q6,q7,q8,q9,q10⟩:=I.inst_of h1 h2 ha
 have hab:=I.above' ha
 have hdab:=I.above' q1
 have hxC:a≠c:=λe=>absurd hc0 (k8.mpr (e▸hab))
 have hw:Within ms (es.map (·.1)):=λy hy=>by
  cases hg:jP es y with
  | none=>exact absurd (q10 y hg) hy
  | some u =>
   obtain⟨z,hz,_⟩:=iQ hg
   exact qG.mpr ⟨z,cA hz,vG (qhE (p:=λe:qf×V=>ze e.1 y) hz)⟩
 refine store_attr (h:=s.heap) PySem.F.store_object hC hat.ns hns hna hB hxC q8 (λh' tk' I' hk hsame=>?_) hw (by simp;unfold vH;lia)
 obtain⟨o₁,e₁,c₁,d₁,s₁,dk₁⟩:=hsame ob q2
 have hdk:=dk₁ da q4
 have hns':h'.Ns1 da (λy=>if y=name then qa x' else ms y):=by
  obtain⟨o₂,e₂,c₂,nc₂,CZ⟩:=I'
  obtain rfl:=sj e₁ e₂
  rcases CZ with ⟨hn,_⟩ | ⟨d₂,CZ,_,hn₂⟩
  ·rw[hdk] at hn;cases hn
  ·obtain rfl:=sj hdk CZ;exact hn₂
 have hkeep:∀b o,b≠a->b≠da->s.heap.get? b=qa o->h'.get? b=qa o:=λb o b1 b2 e=>hk b o b1 (λo₀ dx e₀ ed=>by
  obtain rfl:=sj q2 e₀
  obtain rfl:=sj q4 ed
  exact b2) e
 obtain⟨od,eds,epd,hod,hdd,_⟩:=id q7
 have kf:Bi s.heap h':=λb o e hz=>by
  by_cases hba:b=a
  ·subst hba;obtain rfl:=sj q2 e;have:=q3.symm.trans hz.1;cases this
  ·by_cases hbd:b=da
   ·subst hbd;rw[hod] at e;cases e;obtain⟨_,vs,e'⟩:=hz;rw[hdd] at e';cases e'
   ·exact hkeep b o hba hbd e
 have live:∀b o,s.heap.get? b=qa o->∃o',h'.get? b=qa o':=λb o e=>by
  by_cases hba:b=a
  ·subst hba;refine⟨_,e₁⟩
  ·by_cases hbd:b=da
   ·subst hbd;obtain⟨o₃,_,_,e₃,_⟩:=hns';refine⟨_,e₃⟩
   ·refine⟨o,hkeep b o hba hbd e⟩
 have ham:a∈ρ:=wT ha
 have hdm:da∈ρ:=wT q1
 refine R h' tk' ⟨⟨[],(jF _).symm,λ_ h=>nomatch h⟩,λb o _ hb _ e=>.of (hkeep b o (λe'=>hb (e'▸ham)) (λe'=>hb (e'▸hdm)) e),live⟩ ?_
 refine⟨⟨I.top.above,I.top.out,(by obtain⟨o,es,n,e,r⟩:=I.top.at_;refine⟨o,es,n,hkeep Ab o (λe'=>I.top.out (e'▸ham)) (λe'=>I.top.out (e'▸hdm)) e,r⟩)⟩,λb o e n=>hkeep _ _ (kR (jH (Heap.lt_size e) hab)) (kR (jH (Heap.lt_size e) hdab)) (I.old b o e n),I.len.trans (wo ..).symm,I.nodup,I.above,
  Hn (λb o hb e=>hkeep _ _ (kR (jH hb hab)) (kR (jH hb hdab)) e) kf B.tlt I.tab,λj ao e=>?_⟩
 by_cases hj:j=dI
 ·subst hj
  have hjl:j < σ.length:=(kF.mp h2).1
  rw[bJ hjl] at e;cases e
  refine⟨da,q1,_,hns',λy u hy=>?_,λy hy=>?_⟩
  ·rw[XQ] at hy
   split at hy
   ·rename_i e;cases hy;refine⟨x',by simp[e],rx⟩
   ·rename_i e;rw[if_neg e];exact q9 y u hy
  ·rw[XQ] at hy
   split at hy
   ·cases hy
   ·rename_i e;rw[if_neg e];exact q10 y hy
 ·rw[MC (DO hj)] at e
  obtain⟨b,hb,y⟩:=I.objs j ao e
  by_cases hji:j=i
  ·subst hji
   obtain rfl:=sj h1 e
   obtain rfl:=sj ha hb
   refine⟨a,ha,da,o₁,q1,e₁,c₁.trans q3,hdk,λc hc=>q5 c (d₁▸hc)⟩
  ·have ne_of:∀{j':Nat} {b':qj},ρ[j']?=qa b'->j≠j'->b≠b':=λh3 zy e'=>zy (ZF I.nodup (e'▸hb) h3)
   obtain⟨cb,hcb,_⟩:=y.get
   refine⟨b,hb,y.mono ((hkeep _ _ (ne_of ha hji) (ne_of q1 hj) hcb).trans hcb.symm) kf ⟨[],(jF _).symm⟩⟩
theorem Lq {tg:B7}{C:qA->B7->Prop}(hc:Cv G k Γ t=qa tg)(hn:∀x p i,Ay k Γ x=qa i->C (.Name x p) (.var i))
  (ht:∀es n p is,AW k Γ es=qa is->Ae is=qe->C (.Tuple es n p) (.tup is)) (hs:∀o i p,C (.Subscript o i p) (.sub (cE G o k Γ) (cE G i k Γ))) (ha:∀o name p,C (.Attribute o name p) (.attr (cE G o k Γ) name)):C t tg:=by
 cases t with
 | Name x p=>exact b1 hc λi hi hc=>zc hc▸hn x p i hi
 | Tuple es n p=>exact b1 hc λis hi hc=>bi hc λjE hc=>zc hc▸ht es n p is hi jE
 | Subscript o i p=>exact bi hc λ_ hc=>zc hc▸hs o i p
 | Attribute o name p=>exact bi hc λ_ hc=>zc hc▸ha o name p
 | _=>exact nn hc
theorem HZ {e:qA}{C:qA->Prop}(h:Ga e=qe)(l:∀a b c d,C (.ListComp a b c d))(s:∀a b c d,C (.SetComp a b c d))(m:∀a b c d f,C (.DictComp a b c d f)):C e:=by
 cases e with
 | ListComp=>exact l ..
 | SetComp=>exact s ..
 | DictComp=>exact m ..
 | _=>exact ff h
theorem d8 (g:j5 qc w qd G tabs d O){v':qh}{P:Unit->qk->Prop}(hc:Cv G k Γ t=qa tg)(r:zf d A)(X:zi qd tabs env k Γ m ρ s.heap)(I:qt qc w qd G tabs s.heap ρ σ)(rv:qz ρ v v')
  (e:Cu O tg v m σ=qa (m',σ'))
  (h:∀qr h' tk,qY qd (vd env k) ρ s.heap qr h'->zi qd tabs env k Γ m' qr h'->qt qc w qd G tabs h' qr σ'->P () { s with heap:=h',toks:=tk }):qq (qp qc w) A (assign t env v') P Ex s:=by
 refine Lq (C:=λt tg=>Cu O tg v m σ=qa (m',σ')->qq (qp qc w) A (assign t env v') P Ex s) hc (λx p i hi e=>?_) (λes n p is hi jE e=>?_) (λo i p e=>?_) (λo name p e=>?_) e
 ·refine b1 (x:=put m i v) (f:=λm=>qa (m,σ)) e λkP hm e=>?_
  cases e
  rw[Rv]
  exact qm (jM (HX g.base X I hi rv hm λh1 qV S1 X1 I1=>h ρ h1 qV S1 X1 I1))
 ·refine b1 (x:=Aq σ v) (f:=λvs=>bn1 (kg is vs m) λm=>qa (m,σ)) e λvs hv e=>b1 e λkP hm e=>?_
  cases e
  exact UC g.base r X I hi rv hv hm λh1 qV S1 X1 I1=>h ρ h1 qV S1 X1 I1
 ·refine b2 (x:=ev O (cE G o k Γ) m σ) (f:=λov σ=>bnd (ev O (cE G i k Γ) m σ) λiv σ=>bn1 (M9 σ ov iv v) λσ=>qa (m,σ)) e λov σ₁ e1 e=>b2 e λiv σ₂ e2 e=>b1 e λkO e3 e=>?_
  cases e
  rw[arm_assign_Subscript]
  exact qm (zV ((v6 g o).se k Γ r X I e1 λo' zj h1 qV S1 I1 r1=>qm (zV ((v6 g i).se k Γ r (X.step S1) I1 e2 λi' zv h2 zl S2 I2 r2=>qm (jM (qm (zV
   (qcb (s:={ s with heap:=h2,toks:=zl }) g.base I2 (r1.mono S2.ext) r2 ((rv.mono S1.ext).mono S2.ext) e3 λh3 tk3 S3 I3=>qhF
    (h zv h3 tk3 (wD (S1.trans (S2.trans S3))) (((X.step S1).step S2).step S3) I3)))))))))
 ·refine b2 (x:=ev O (cE G o k Γ) m σ) (f:=λov σ=>bn1 (II O σ ov name v) λσ=>qa (m,σ)) e λov σ₁ e1 e=>b1 e λσ₂ e2 e=>?_
  cases e
  rw[arm_assign_Attribute]
  exact qm (zV ((v6 g o).se k Γ r X I e1 λo' zj h1 qV S1 I1 r1=>qm (jM (qm (zV
   (i9 (s:={ s with heap:=h1,toks:=qV }) g.base g.orc I1 r1 (rv.mono S1.ext) e2 λh2 zl S2 I2=>qhF
    (h zj h2 zl (wD (S1.trans S2)) ((X.step S1).step S2) I2)))))))
theorem qbM {tg:B7}(hc:Cv G k Γ t=qa tg):(Mx [t] env).map (·.2)=[assign t env] :=
 Lq (C:=λt _=>(Mx [t] env).map (·.2)=[assign t env]) hc (λ_ _ _ _=>rfl) (λ_ _ _ _ _ _=>rfl) (λ_ _ _=>rfl) λ_ _ _=>rfl
noncomputable def Xd (e:qA):Bool:=xt e (λ_=>qe) qg
theorem qcl (e:qA):(∃a b c,e=.Tuple a b c)\/Xd e=qg:=by
 cases e with
 | Tuple a b c=>exact .inl ⟨a,b,c,rfl⟩
 | _=>exact .inr rfl
theorem x5 (h:Xd e=qg):EC [.Tuple ts n p] e env=pure qb:=by
 cases e with
 | Tuple=>exact ff h.symm
 | _=>rfl
noncomputable def Op (env:q0)(x:qf)(p cpos:qT)(sc:vh):Bool:=env.blockKind == .function&&env.kindOf x == qa .local&&p.line == cpos.line&&!(sc.names.any λ(n,k)=>n == x&&(k == .local||k == .cell))
theorem Nn {x:zr Bool}(b:Bool)(h:x=pure b):x=pure qg\/x=pure qe:=by
 cases b with
 | false=>exact .inl h
 | true=>exact .inr h
theorem oR {tg:B7}{C:qA->B7->Prop}(hc:Cv G k Γ t=qa tg)(off:Cd [t] e n env=pure qg->C t tg)
  (on:∀x p i,Ay k Γ x=qa i->Ga e=qe->Cd [.Name x p] e n env=pure qe->C (.Name x p) (.var i)):C t tg:=by
 cases hi:Ga e with
 | false=>exact off (TY hi _ _ _)
 | true =>
  exact Lq (C:=λt tg=>(Cd [t] e n env=pure qg->C t tg)->C t tg) hc
   (λx p i hx off=>(HZ (C:=λe=>Cd [.Name x p] e n env=pure qg\/Cd [.Name x p] e n env=pure qe) hi (λ_ _ sc cp=>Nn (Op env x p cp sc) rfl) (λ_ _ sc cp=>Nn (Op env x p cp sc) rfl)
    λ_ _ _ sc cp=>Nn (Op env x p cp sc) rfl).elim off (on x p i hx hi))
   (λes m p _ _ _ off=>off (HZ (C:=λe=>Cd [.Tuple es m p] e n env=pure qg) hi (λ_ _ _ _=>rfl) (λ_ _ _ _=>rfl) λ_ _ _ _ _=>rfl))
   (λo i p off=>off (HZ (C:=λe=>Cd [.Subscript o i p] e n env=pure qg) hi (λ_ _ _ _=>rfl) (λ_ _ _ _=>rfl) λ_ _ _ _ _=>rfl))
   (λo a p off=>off (HZ (C:=λe=>Cd [.Attribute o a p] e n env=pure qg) hi (λ_ _ _ _=>rfl) (λ_ _ _ _=>rfl) λ_ _ _ _ _=>rfl)) off
theorem tN (g:j5 qc w qd G tabs d O){t e:qA}{tg:B7}{fl:Fl}{Q:A8->qk->Prop}{kP:qx}{σ₁ σ₂:qi}(hc:Cv G k Γ t=qa tg)(hord:Gm t e=qe)(r:zf d A)(X:zi qd tabs env k Γ m ρ s.heap)(I:qt qc w qd G tabs s.heap ρ σ)
  (e1:ev O (cE G e k Γ) m σ=qa (v,σ₁)) (e2:Cu O tg v m σ₁=qa (kP,σ₂)) (R:DE qc w qd G tabs env k Γ Q ρ s .next kP σ₂) :
  qq (qp qc w) A (do
       let v <-zR e env
       Hz env v (<-EC [t] e env) [assign t env]) Q Ex s:=by
 refine qm ((v6 g e).se k Γ r X I e1 λv' zj h1 qV S1 I1 r1=>?_)
 have X1:=X.step S1
 have Mr:qq (qp qc w) A (Hz env v' qb [assign t env]) Q Ex { s with heap:=h1,toks:=qV } :=
  qm (show qq _ _ (assign t env v') _ _ _ from d8 (s:={ s with heap:=h1,toks:=qV }) g hc r X1 I1 r1 e2 λzv h2 zl S2 X2 I2=>qB (R .next zv h2 zl ((wD S1).trans S2) X2 I2 .next))
 refine Lq (C:=λt tg=>Cv G k Γ t=qa tg->Gm t e=qe->Cu O tg v m σ₁=qa (kP,σ₂)->qq (qp qc w) A (Hz env v' qb [assign t env]) Q Ex { s with heap:=h1,toks:=qV } ->
  qq (qp qc w) A (do Hz env v' (<-EC [t] e env) [assign t env]) Q Ex { s with heap:=h1,toks:=qV }) hc (λ_ _ _ _ _ _ _ st=>qm (qB st)) (λts n p is hi jE _ hord e2 st=>?_) (λ_ _ _ _ _ _ st=>qm (qB st)) (λ_ _ _ _ _ _ st=>qm (qB st)) hc hord e2 Mr
 rcases qcl e with ⟨vs,n',p',rfl⟩ | he
 ·rcases lT (env:=env) hi hord with hsw | hsw
  ·rw[hsw];exact qm (qB st)
  ·rw[hsw]
   refine qm (qB (b1 (x:=Aq σ₁ v) (f:=λvs=>bn1 (kg is vs m) λm=>qa (m,σ₁)) e2 λus hv e2=>b1 e2 λjp hm e2=>?_))
   cases e2
   show qq _ _ (do
    rule "assign.swapped-stores"
    let items <-Rw v' (ts.map DF).length qb
    bN ((ts.map DF).reverse.map λn=>bM env n) items.reverse
    pure Ey) _ _ _
   rw[show (ts.map DF).length=us.length by rw[qH,(Pu (env:=env) hi).2,OI hm]]
   refine qm (JK (qm (Ue (s:={ s with heap:=h1,toks:=qV }) r I1 r1 hv λus' h2 rr kp=>qm ?_)))
   refine Wh g.base (xs:=(ts.map DF).reverse) (is:=is.reverse) (s:={ s with heap:=h2,toks:=qV }) (by rw[qhG,qhG,(Pc hi).1]) (X1.keeps kp) (I1.keeps g.base.tlt kp) rr.reverse (Zg (Fw jE) hm) λh3 tk3 S3 X3 I3=>qB ?_
   exact R .next zj h3 tk3 ((wD S1).trans ((qY.keeps kp).trans S3)) X3 I3 .next
 ·rw[x5 he];exact qm (qB st)
theorem Xa {M:A9}{t e:qA}{pos:qT}{tg:B7}{b:Bool}{Q:A8->qk->Prop}(hc:Cv G k Γ t=qa tg)(hs:Cd [t] e pos.line env=pure b)
  (h:qq M A (if b=qe then do
    qhH e env λv=>assignAll v [assign t env]
    pure Ey
   else do
    let v <-zR e env
    Hz env v (<-EC [t] e env) [assign t env]) Q Ex s):qq M A (Hv (.Assign [t] e pos) env) Q Ex s:=by
 rw[exec_Assign_arm]
 refine qm (jM ?_)
 rw[qbM hc,hs]
 exact qm (qB h)
theorem qfF (g:j5 qc w qd G tabs d O)(t e:qA)(pos:qT):SS qc w qd G tabs d O (.Assign [t] e pos) k Γ:=λ{A s ρ m σ fl m' σ' Q Ex env} r X I e' R=>by
 refine Uw (x:=Cv G k Γ t) (f:=λtg=>iS (Gm t e) (.assign tg (cE G e k Γ))) e' λtg hc e'=>Ys e' λhord e'=>zX e' λvf σ₁ e1 kP σ₂ e2 e'=>?_
 have R:=R.of e'
 clear e'
 refine oR (env:=env) (n:=pos.line) (e:=e) (C:=λt tg=>Cv G k Γ t=qa tg->Gm t e=qe->Cu O tg vf m σ₁=qa (kP,σ₂)->qq (qp qc w) A (Hv (.Assign [t] e pos) env) Q Ex s) hc
  (λhs hc hord e2=>Xa hc hs (tN (fl:=fl) g hc hord r X I e1 e2 R)) (λx p i hi hcomp hs hc hord e2=>Xa hc hs ?_) hc hord e2
 refine b1 (x:=put m i vf) (f:=λm=>qa (m,σ₁)) e2 λjp hm e2=>?_
 cases e2
 refine HZ (C:=λe=>ev O (cE G e k Γ) m σ=qa (vf,σ₁)->qq (qp qc w) A (do
   qhH e env λv=>assignAll v [assign (.Name x p) env]
   pure Ey) Q Ex s) hcomp (λelt gens sc cpos e1=>?_) (λ_ _ _ _ e1=>nn e1) (λkx wx gens sc cpos e1=>?_) e1
 ·obtain⟨ql,σ₂,xx,rfl,rfl⟩:=R3 e1
  exact qm (qm (U8 g.base (v6 g elt).se (gs_ok g gens) r X I xx λD L qr h' tk mL a1 a2 a3 a4 a5 a6 a7 a8 a9 a10 a11 =>
   V9 g.base I.top X hi hm (λzv h2 zl S2 X2 I2=>qB (qB (R .next zv h2 zl S2 X2 I2 .next))) a1 a2 a3 a4 a5 a6 a7 a8 a9 a10 a11))
 ·obtain⟨ql,σ₂,es,xx,hes,rfl,rfl⟩:=YR e1
  exact qm (qm (Xb g.base (v6 g kx).se (v6 g wx).se (gs_ok g gens) r X I xx hes λD L qr h' tk mL a1 a2 a3 a4 a5 a6 a7 a8 a9 a10 a11 =>
   V9 g.base I.top X hi hm (λzv h2 zl S2 X2 I2=>qB (qB (R .next zv h2 zl S2 X2 I2 .next))) a1 a2 a3 a4 a5 a6 a7 a8 a9 a10 a11))
mutual
theorem qaN (g:j5 qc w qd G tabs d O):∀(st:z6)(k:zg)(Γ:List qf),SS qc w qd G tabs d O st k Γ
 | .Expr e pos=>@λk Γ=>xI (v6 g e).se pos
 | .Pass _=>@λk Γ=>ki rfl
 | .Return (qa e) pos=>@λk Γ=>dQ (v6 g e).se pos
 | .Return qb pos=>@λk Γ=>y9 pos
 | .Assign [t] e pos=>@λk Γ=>qfF g t e pos
 | .If c a b pos=>@λk Γ=>xS (v6 g c).st (ss_ok g a k Γ) (ss_ok g b k Γ) pos
 | .For t it body [] pos=>@λk Γ=>eO g.base (v6 g it).se (ss_ok g body k Γ) pos
 | .While c body [] pos=>@λk Γ=>qax (v6 g c).st (ss_ok g body k Γ) pos
 | .Assign [] _ _=>@λ_ _=>ki (rfl)
 | .Assign (_ :: _ :: _) _ _=>@λ_ _=>ki (rfl)
 | .For _ _ _ (_ :: _) _=>@λ_ _=>ki (rfl)
 | .While _ _ (_ :: _) _=>@λ_ _=>ki (rfl)
 | .FunctionDef ..=>@λ_ _=>ki (rfl)
 | .AsyncFunctionDef ..=>@λ_ _=>ki (rfl)
 | .ClassDef ..=>@λ_ _=>ki (rfl)
 | .Delete ..=>@λ_ _=>ki (rfl)
 | .TypeAlias ..=>@λ_ _=>ki (rfl)
 | .AugAssign ..=>@λ_ _=>ki (rfl)
 | .AnnAssign ..=>@λ_ _=>ki (rfl)
 | .AsyncFor ..=>@λ_ _=>ki (rfl)
 | .With ..=>@λ_ _=>ki (rfl)
 | .AsyncWith ..=>@λ_ _=>ki (rfl)
 | .Match ..=>@λ_ _=>ki (rfl)
 | .Raise ..=>@λ_ _=>ki (rfl)
 | .Try ..=>@λ_ _=>ki (rfl)
 | .TryStar ..=>@λ_ _=>ki (rfl)
 | .Assert ..=>@λ_ _=>ki (rfl)
 | .Import ..=>@λ_ _=>ki (rfl)
 | .ImportFrom ..=>@λ_ _=>ki (rfl)
 | .Global ..=>@λ_ _=>ki (rfl)
 | .Nonlocal ..=>@λ_ _=>ki (rfl)
 | .Break ..=>@λ_ _=>ki (rfl)
 | .Continue ..=>@λ_ _=>ki (rfl)
theorem ss_ok (g:j5 qc w qd G tabs d O):∀(sts:List z6)(k:zg)(Γ:List qf),CL qc w qd G tabs d O sts k Γ
 | [],k,Γ=>pX
 | st :: sts,k,Γ=>d6 (qaN g st k Γ) (ss_ok g sts k Γ)
end
end
section
variable {α:Type}
noncomputable def Gz (allowed:qf->Bool):List (qf×α)->List (qf×α)->Option (List (qf×α))
 | [],slots=>qa slots
 | (k,v) :: r,slots=>if allowed k&&(slots.lookup k).isNone then Gz allowed r (slots++[(k,v)]) else qb
noncomputable def Fi:List (qf×α)->List (qf×α)->List (qf×α)
 | [],slots=>slots
 | (n,d) :: r,slots=>Fi r (if (slots.lookup n).isNone then slots++[(n,d)] else slots)
noncomputable def Fv (kwd:List (qf×α)):List qf->List (qf×α)->Option (List (qf×α))
 | [],slots=>qa slots
 | n :: r,slots=>if (slots.lookup n).isNone then bn1 (kwd.lookup n) λv=>Fv kwd r (slots++[(n,v)]) else Fv kwd r slots
theorem eB {s:List (qf×α)}:Gz f [] s=qa s:=rfl
theorem qaB {s:List (qf×α)}:Fi [] s=s:=rfl
theorem fK {d s:List (qf×α)}:Fv d [] s=qa s:=rfl
noncomputable def CU (names:List qf)(slots:List (qf×α)):List (qf×α):=names.filterMap λn=>(slots.lookup n).map (n,·)
noncomputable def AQ (normal kwonly:List qf)(dflts:List α)(kwd:List (qf×α))(args:List α)(kw:List (qf×α)):Option (List (qf×α)) :=
 if args.length<=normal.length then
  bn1 (Gz (λk=>normal.contains k||kwonly.contains k) kw (normal.zip args)) λslots =>
   if ((normal.take (normal.length - (dflts.drop (dflts.length - normal.length)).length)).filter λn=>(slots.lookup n).isNone).isEmpty then
    bn1 (Fv kwd kwonly (Fi ((normal.drop (normal.length - (dflts.drop (dflts.length - normal.length)).length)).zip (dflts.drop (dflts.length - normal.length))) slots)) λslots=>qa (CU (normal++kwonly) slots)
   else qb
 else qb
end
section
variable {ρ:List qj}
theorem Ll (r:zt ρ es kvs)(x:qf):(es.lookup x=qb/\kvs.lookup x=qb)\/∃v v',es.lookup x=qa v/\kvs.lookup x=qa v'/\qz ρ v v':=by
 induction r with
 | nil=>exact .inl ⟨rfl,rfl⟩
 | @cons k v v' es es' a b ih =>
  simp only[Al]
  cases x == k with
  | true=>exact .inr ⟨v,v',rfl,rfl,a⟩
  | false=>exact ih
theorem H5 (r:zt ρ es kvs)(x:qf):(kvs.lookup x).isNone=(es.lookup x).isNone:=by
 rcases Ll r x with ⟨a,b⟩ | ⟨v,v',a,b,_⟩ <;> rw[a,b] <;> rfl
theorem fH (q:zt ρ kw kw'):∀{sl:List (qf×V)}{sl':List (qf×qh)} {out},zt ρ sl sl'->Gz allowed kw sl=qa out->∃out',Gz allowed kw' sl'=qa out'/\zt ρ out out':=by
 induction q with
 | nil=>intro sl sl' out r h;cases h;refine⟨sl',rfl,r⟩
 | cons a b ih =>
  intro sl sl' out r h
  refine bi h λhc h=>?_
  obtain⟨o,h1,h2⟩:=ih (IJ r (.cons a .nil)) h
  refine⟨o,(if_pos (by rw[H5 r];exact hc)).trans h1,h2⟩
theorem qa4 (h1:zt ρ a a')(h2:zt ρ b b'):zt ρ (if c=qe then a else b) (if c=qe then a' else b'):=by
 cases c with
 | true=>exact h1
 | false=>exact h2
theorem xV (q:zt ρ df df'):∀{sl:List (qf×V)}{sl':List (qf×qh)},zt ρ sl sl'->zt ρ (Fi df sl) (Fi df' sl'):=by
 induction q with
 | nil=>exact id
 | @cons k v v' es es' a b ih=>exact λ{sl sl'} r=>ih (H5 r k▸qa4 (IJ r (.cons a .nil)) r)
theorem Pk (rk:zt ρ kwd AE):∀{ks:List qf}{sl:List (qf×V)}{sl':List (qf×qh)} {out},zt ρ sl sl'->Fv kwd ks sl=qa out->∃out',Fv AE ks sl'=qa out'/\zt ρ out out'
 | [],sl,sl',out=>@λr h=>by cases h;refine⟨sl',rfl,r⟩
 | n :: ks,sl,sl',out=>@λr h=>by
  refine Ox h (λhc h=>b1 h λv hv h=>?_) λhc h=>?_
  ·rcases Ll rk n with ⟨a,b⟩ | ⟨u,u',a,b,ru⟩
   ·exact nn (a.symm.trans hv)
   ·obtain rfl:=zc (a.symm.trans hv)
    obtain⟨o,h1,h2⟩:=Pk rk (IJ r (.cons ru .nil)) h
    refine⟨o,(if_pos (by rw[H5 r];exact hc)).trans (qZ b h1),h2⟩
  ·obtain⟨o,h1,h2⟩:=Pk rk r h
   refine⟨o,(if_neg (by rw[H5 r];exact hc)).trans h1,h2⟩
theorem YU (r:zt ρ sl sl'):∀names:List qf,zt ρ (CU names sl) (CU names sl')
 | []=>.nil
 | n :: names=>by
  have ih:=YU r names
  unfold CU at ih ⊢
  rcases Ll r n with ⟨a,b⟩ | ⟨u,u',a,b,ru⟩
  ·rw[bY (by rw[a];rfl),bY (by rw[b];rfl)];exact ih
  ·rw[RC (by rw[a];rfl),RC (by rw[b];rfl)];exact .cons ru ih
theorem qf6 {l:List α}{p q:α->Bool}(h:∀x,p x=q x):l.filter p=l.filter q:=by
 have:p=q:=funext h
 rw[this]
theorem eF {AE:List (qf×qh)}{args:List V}{args':List qh}{kw:List (qf×V)}{kw':List (qf×qh)} {out}
  (rd:qL ρ dflts Hr) (rk:zt ρ kwd AE) (ra:qL ρ args args') (rw':zt ρ kw kw') (h:AQ normal kwonly dflts kwd args kw=qa out):∃out',AQ normal kwonly Hr AE args' kw'=qa out'/\zt ρ out out':=by
 refine bi h λjh h=>b1 h λslots hs h=>bi h λhm h=>b1 h λsl hk h=>?_
 cases h
 obtain⟨s',h1,r1⟩:=fH rw' (LR normal ra) hs
 have rdr:=rd.drop (dflts.length - normal.length)
 obtain⟨s2,h2,r2⟩:=Pk rk (xV (LR _ rdr) r1) hk
 refine⟨_,?_,YU r2 _⟩
 unfold AQ
 rw[ra.length,rd.length,rdr.length]
 exact(if_pos jh).trans (qZ h1 ((if_pos (by rw[qf6 (λn=>H5 r1 n)];exact hm)).trans (qZ h2 rfl)))
end
section
variable {M:A9}{A:zh}{Ex:qh->qk->Prop}{s:qk}
theorem W7 {ex:List (qf×qh)}(f:qf×qh->List (qf×qh)×List (qf×qh)->zr (ForInStep (List (qf×qh)×List (qf×qh))))
  (hf:∀k v sl,allowed k=qe->(sl.lookup k).isNone=qe->f (k,v) (sl,ex)=pure (.yield (sl++[(k,v)],ex))):∀(kw sl:List (qf×qh)) {out},Gz allowed kw sl=qa out->forIn kw (sl,ex) f=pure (out,ex)
 | []=>@λsl out h=>by cases h;rfl
 | (k,v) :: r=>@λsl out h=>by
  refine bi h λhc h=>?_
  have hc:=z0.mp hc
  rw[C1,hf k v sl hc.1 hc.2,pure_bind]
  exact W7 f hf r _ h
theorem Pd (f:qf×qh->List (qf×qh)->zr (ForInStep (List (qf×qh))))
  (hf:∀n d sl,f (n,d) sl=if (sl.lookup n).isNone=qe then pure (.yield (sl++[(n,d)])) else pure (.yield sl)):∀(l sl:List (qf×qh)),forIn l sl f=pure (Fi l sl)
 | [],sl=>rfl
 | (n,d) :: r,sl=>by
  rw[C1,hf]
  show _=pure (Fi r (if (sl.lookup n).isNone=qe then sl++[(n,d)] else sl))
  cases (sl.lookup n).isNone with
  | true=>exact Pd f hf r _
  | false=>exact Pd f hf r _
theorem NI {fd:J6}
  (hkd:(fd.kwdefaults=.none/\kwd=[])\/∃t mm,fd.kwdefaults=.ref t/\s.heap.Ns t mm/\∀n v,kwd.lookup n=qa v->mm n=qa v)
  (f:qf->List (qf×qh)×List qf->zr (ForInStep (List (qf×qh)×List qf)))
  (hf:∀name sl,f name (sl,[])=if (sl.lookup name).isNone=qe then (match fd.kwdefaults with
   | .ref d=>do
    let Ea <-nsGet d name
    match Ea with
     | some v=>pure (Cl (sl++[(name,v)],[]))
     | none=>pure (Cl (sl,[]++[name]))
   | _=>do
    let Ea <-(pure qb:zr (Option qh))
    match Ea with
     | some v=>pure (Cl (sl++[(name,v)],[]))
     | none=>pure (Cl (sl,[]++[name]))) else pure (.yield (sl,[]))) :
  ∀(ks:List qf) (sl:List (qf×qh)) {out} {Q:List (qf×qh)×List qf->qk->Prop},Fv kwd ks sl=qa out->Q (out,[]) s->qq M A (forIn ks (sl,[]) f) Q Ex s
 | []=>@λsl out Q h hq=>by cases h;exact qB hq
 | n :: r=>@λsl out Q h hq=>by
  rw[C1,hf]
  refine Ox h (λhc h=>b1 h λv hv h=>?_) λhc h=>?_
  ·rw[if_pos hc]
   rcases hkd with ⟨e1,e2⟩ | ⟨t,mm,e1,e2,e3⟩
   ·rw[e2] at hv;exact nn hv
   ·rw[e1]
    refine qm (qm (bW e2 ?_))
    rw[e3 n v hv]
    exact qB (NI (.inr ⟨t,mm,e1,e2,e3⟩) f hf r _ h hq)
  ·rw[if_neg hc]
   exact qm (qB (NI hkd f hf r _ h hq))
theorem K1 [Decidable c](h:¬c)(k:qq M A e Q Ex s):qq M A (if c then t else e) Q Ex s:=by rw[if_neg h];exact k
theorem qa9 (hdf:(dfl=.none/\dflts=[])\/∃t o items n,dfl=.ref t/\s.heap.get? t=qa o/\o.data=.seq items n/\items.toList=dflts)
  (hP:∀r,(r.getD #[]).toList=dflts->P r s):qq M A (seqItems? dfl) P Ex s:=by
 rcases hdf with ⟨rfl,rfl⟩ | ⟨t,o,items,n,rfl,e2,e3,e4⟩
 ·unfold seqItems?
  exact qm (qB (qB (hP qb rfl)))
 ·exact qhI e2 e3 (hP (qa items) e4)
theorem S8 {fd:J6}{args:Args}{dflts:List qh}
  (hpo:fd.params.posonlyargs=[]) (hva:fd.params.vararg=qb)
  (hdf:(fd.defaults=.none/\dflts=[])\/∃t o items n,fd.defaults=.ref t/\s.heap.get? t=qa o/\o.data=.seq items n/\items.toList=dflts)
  (hkd:(fd.kwdefaults=.none/\kwd=[])\/∃t mm,fd.kwdefaults=.ref t/\s.heap.Ns t mm/\∀n v,kwd.lookup n=qa v->mm n=qa v)
  (h:AQ (fd.params.args.map (·.arg)) (fd.params.kwonlyargs.map (·.arg)) dflts kwd args.pos args.kw=qa out)
  (hq:(fd.params.kwarg=qb/\Q out s)\/∃a,fd.params.kwarg=qa a/\Q (out++[(a.arg,.ref s.heap.objs.size)]) { s with heap:=s.heap.push { cls:=.type "dict", data:=.dict #[] } }) :
  qq M A (bindArgs fd args) Q Ex s:=by
 have hP:fd.params.posonlyargs.map (·.arg)++fd.params.args.map (·.arg)=fd.params.args.map (·.arg):=by rw[hpo];rfl
 rw[<-hP] at h
 refine bi h λjh h=>b1 h λslots hs h=>bi h λhm h=>b1 h λsl hk h=>?_
 cases h
 refine qm (FZ (W7 _ (λk v sl h1 h2=>?_) _ _ hs) ?_)
 ·rw[hP] at h1
  exact(if_pos h1).trans (if_neg λhl=>by cases hq:sl.lookup k with | none=>rw[hq] at hl;exact ff hl | some v=>rw[hq] at h2;exact ff h2)
 refine qm (qa9 hdf λr hr=>?_)
 cases hr
 refine K1 (λhc=>absurd (of_decide_eq_true (z0.mp hc).1) (k8.mpr jh)) ?_
 refine K1 (λhc=>ff ((congrArg (!·) hm).symm.trans hc)) ?_
 refine qm (FZ (Pd _ (λn d sl=>rfl) _ _) ?_)
 refine qm (NI hkd _ (λname sl=>rfl) _ _ hk ?_)
 refine K1 (λhc=>ff hc) ?_
 rw[hva]
 rcases hq with ⟨e1,e2⟩ | ⟨a,e1,e2⟩
 ·rw[e1];exact qB e2
 ·rw[e1]
  refine K1 (λhc=>Rm _ hc) ?_
  exact qm (Q6 (qm (qB (qB e2))))
end
structure jj where
 addr:qj
 args:Hy
 body:List z6
 scope:vh
 dflts:List V
 kwd:List (qf×V)
noncomputable def Hc (D:jj)(binds:List (qf×V)):qx:=(zA D.scope.names).map λx=>binds.lookup x
noncomputable def WV:Fl->V
 | .ret v=>v
 | .next=>.none
noncomputable def UJ (O:qE)(c:List S)(m:qx)(σ:qi):Option (V×qi):=bnd (exs O c m σ) λfl r=>qa (WV fl,r.2)
noncomputable def US {γ:Type}(kw:Option qf)(f:List (qf×V)->qi->Option γ)(binds:List (qf×V))(σ:qi):Option γ:=match kw with
 | none=>f binds σ
 | some a=>f (binds++[(a,.ref σ.length)]) (σ++[.sdict []])
noncomputable def NS (G:qf->Option qh)(D:jj)(O:qE)(binds:List (qf×V))(σ:qi):Option (V×qi) :=
 if Ae (binds.map (·.1)) then UJ O (cSs G D.body D.scope.names (zA D.scope.names)) (Hc D binds) σ else qb
noncomputable def Qn (G:qf->Option qh)(D:jj)(O:qE)(args:List V)(kw:List (qf×V))(σ:qi):Option (V×qi) :=
 bn1 (AQ (D.args.args.map (·.arg)) (D.args.kwonlyargs.map (·.arg)) D.dflts D.kwd args kw) λbinds=>US (D.args.kwarg.map (·.arg)) (NS G D O) binds σ
noncomputable def Ku (a:Hy):List qf:=a.args.map (·.arg)++a.kwonlyargs.map (·.arg)++(match a.kwarg with | some a=>[a.arg] | none=>[])
noncomputable def JC (D:jj):Bool :=
 D.args.posonlyargs.isEmpty&&D.args.vararg.isNone&&D.scope.kind == .function&&!D.scope.isGenerator&&!D.scope.isCoroutine&&Ae (D.scope.names.map (·.1)) &&
 (D.scope.names.all λx=>match x.2 with | .local | .cell | .globalImplicit=>qe | _=>qg) &&
 (Ku D.args).all λx=>match D.scope.names.lookup x with | some .local | some .cell=>qe | _=>qg
structure ko (qd:Heap)(tabs:List (qj×qj))(D:jj):Prop where
 good:JC D=qe
 obj:∃o fd,qd.get? D.addr=qa o/\o.data=.func fd/\fd.params=D.args/\fd.body=.stmts D.body/\fd.scope=D.scope/\fd.globals=kT/\fd.builtins=vi/\fd.closure=[]/\kc qd fd.code fd.qualname /\
  (∃x∈tabs,fd.code=.ref x.1) /\
  ((fd.defaults=.none/\D.dflts=[])\/∃t o items n,fd.defaults=.ref t/\qd.get? t=qa o/\o.data=.seq items n/\qL [] D.dflts items.toList) /\
  ((fd.kwdefaults=.none/\D.kwd=[])\/∃t mm AE,fd.kwdefaults=.ref t/\qd.Ns t mm/\zt [] D.kwd AE/\∀n v,AE.lookup n=qa v->mm n=qa v)
section
variable {qc:zm}{w:qK}{qd:Heap}{G:qf->Option qh}{tabs:List (qj×qj)}{d:Nat}{O:qE}{A:zh}{Ex:qh->qk->Prop}{s:qk}
 {ρ qr:List qj} {σ σ':qi} {v:V} {h h':Heap} {env:q0} {k:zg} {Γ:List qf} {m m':qx}
theorem qt.keep0 (I:qt qc w qd G tabs h ρ σ)(e:qd.get? b=qa o)(hn:¬(o.cls=.none/\∃ps,o.data=.fields ps)):h.get? b=qa o:=by
 refine I.old b o e λx hx hb=>?_
 obtain⟨ps,_,_,⟨A5,kQ,⟨_,ht⟩,_⟩,_⟩:=I.tab x hx
 rw[hb,ht] at e;cases e
 exact hn ⟨rfl,_,rfl⟩
noncomputable def HQ (qd h:Heap):Prop:=∀b o,qd.get? b=qa o->¬(o.cls=.none/\∃ps,o.data=.fields ps)->h.get? b=qa o
theorem HQ.code (k:HQ qd h)(x:kc qd c q):kc h c q:=by
 obtain⟨a,o,vs,t,e,ho,hc,hd,h1⟩:=x
 refine⟨a,o,vs,t,e,k _ _ ho (λz=>nomatch hc.symm.trans z.1),hc,hd,h1⟩
theorem qt.live0 (I:qt qc w qd G tabs h ρ σ):HQ qd h:=λ_ _ e hn=>I.keep0 e hn
theorem L1 {kindOf:qf->Option DP}:∀{binds:List (qf×qh)}{m:qf->Option qh}{x:qf},(binds.map (·.1)).Nodup->kindOf x=qa .local->MW kindOf binds m x=match binds.lookup x with | some v=>qa v | none=>m x
 | [],m,x=>@λ_ _=>rfl
 | (n,v) :: r,m,x=>@λhn hk=>by
  simp only[z7,k7] at hn
  unfold MW
  rw[L1 hn.2 hk,Al]
  cases hx:x == n with
  | true =>
   have:=eq_of_beq hx;subst this
   have:r.lookup x=qb:=by
    cases hr:r.lookup x with
    | none=>rfl
    | some u=>exact absurd (qG.mpr ⟨_,vN hr,rfl⟩) hn.1
   rw[this];dsimp only
   rw[if_pos hk];simp
  | false =>
   have zy:x≠n:=λe=>by subst e;simp at hx
   cases hr:r.lookup x with
   | some u=>rfl
   | none =>
    dsimp only
    split
    ·simp[zy]
    ·rfl
theorem VE {kindOf:qf->Option DP}:∀{binds:List (qf×qh)}{m:qf->Option qh}{x:qf},(binds.map (·.1)).Nodup->kindOf x=qa .cell->bindC kindOf binds m x=match binds.lookup x with | some v=>qa v | none=>m x
 | [],m,x=>@λ_ _=>rfl
 | (n,v) :: r,m,x=>@λhn hk=>by
  simp only[z7,k7] at hn
  unfold bindC
  rw[VE hn.2 hk,Al]
  cases hx:x == n with
  | true =>
   have:=eq_of_beq hx;subst this
   have:r.lookup x=qb:=by
    cases hr:r.lookup x with
    | none=>rfl
    | some u=>exact absurd (qG.mpr ⟨_,vN hr,rfl⟩) hn.1
   rw[this];dsimp only
   rw[if_neg (by rw[hk];decide)];simp
  | false =>
   have zy:x≠n:=λe=>by subst e;simp at hx
   cases hr:r.lookup x with
   | some u=>rfl
   | none =>
    dsimp only
    split
    ·rfl
    ·simp[zy]
theorem zt.names  {es:List (κ×V)}{kvs:List (κ×qh)}(r:zt ρ es kvs):kvs.map (·.1)=es.map (·.1):=by
 induction r with
 | nil=>rfl
 | @cons k _ _ _ _ _ _ ih=>exact congrArg (k :: ·) ih
theorem LT (h:JC D=qe):D.args.posonlyargs=[]/\D.args.vararg=qb/\D.scope.kind=.function/\D.scope.isGenerator=qg/\D.scope.isCoroutine=qg/\(D.scope.names.map (·.1)).Nodup /\
  (∀x kd,(x,kd)∈D.scope.names->kd=.local\/kd=.cell\/kd=.globalImplicit)/\∀x∈Ku D.args,D.scope.names.lookup x=qa .local\/D.scope.names.lookup x=qa .cell:=by
 obtain⟨h,h8⟩:=z0.mp h
 obtain⟨h,h7⟩:=z0.mp h
 obtain⟨h,h6⟩:=z0.mp h
 obtain⟨h,h5⟩:=z0.mp h
 obtain⟨h,h4⟩:=z0.mp h
 obtain⟨h,h3⟩:=z0.mp h
 obtain⟨h1,h2⟩:=z0.mp h
 replace h7:=wS.mp h7
 replace h8:=wS.mp h8
 refine⟨by simpa using h1,by simpa using h2,eq_of_beq h3,(F1 _).mp h4,(F1 _).mp h5,Fw h6,λx kd hx=>?_,λx hx=>?_⟩
 ·have:=h7 _ hx
  cases kd with
  | «local» => exact .inl rfl
  | cell=>exact .inr (.inl rfl)
  | globalImplicit=>exact .inr (.inr rfl)
  | _=>exact ff this
 ·have:=h8 x hx
  cases hk:D.scope.names.lookup x with
  | none=>rw[hk] at this;exact ff this
  | some kd=>rw[hk] at this;cases kd with
   | «local» => exact .inl rfl
   | cell=>exact .inr rfl
   | _=>exact ff this
theorem qbF (h:j3 Γ x=qa i):z5 (Γ.map f) i=f x:=by
 have:=Hh h
 rw[Hl,wU,this];rfl
theorem qbr {names:List qf}{sl:List (qf×α)}:∀x∈(CU names sl).map (·.1),x∈names:=λx hx=>by
 obtain⟨y,hy,rfl⟩:=qG.mp hx
 unfold CU at hy
 obtain⟨n,hn,e⟩:=List.mem_filterMap.mp hy
 obtain⟨v,_,rfl⟩:=My.mp e
 exact hn
theorem qfS {kwd:List (qf×α)}{args:List α}{kw:List (qf×α)} {out}(h:AQ normal kwonly dflts kwd args kw=qa out):∀x∈out.map (·.1),x∈normal++kwonly:=by
 exact bi h λ_ h=>b1 h λ_ _ h=>bi h λ_ h=>b1 h λ_ _ h=>by cases h;exact qbr
noncomputable def LG (D:jj)(qn:qf)(code:qh)(L:qj)(cs:List (qf×qj)):q0:=J2 D.scope L kT cs (qn ++ ".<locals>.") (qa D.addr) code qb vi
noncomputable def IB (qc:zm)(w:qK)(A:zh)(R:AF->qk->Prop)(D:jj)(qn:qf)(code:qh)(b:List (qf×qh))(s:qk):Prop :=
 qq (qp qc w) A.in1 (F2 D.scope kT [] b (qn ++ ".<locals>.") (qa D.addr) code qb vi) (λenv s₂=>s₂.heap.NoLimit/\C4 (qp qc w) A (.func D.body env) R s₂) (λe s'=>R (.error e) s') s
noncomputable def Za (qc:zm)(w:qK)(A:zh)(R:AF->qk->Prop)(D:jj)(fd:J6)(b:List (qf×qh))(s:qk):Prop :=
 qq (qp qc w) A.in1 (F2 fd.scope fd.globals fd.closure b (fd.qualname ++ ".<locals>.") (qa D.addr) fd.code qb fd.builtins) (λenv s₂=>s₂.heap.NoLimit/\C4 (qp qc w) A (.func D.body env) R s₂) (λe s'=>R (.error e) s') s
theorem IB.toF (hsc:fd.scope=D.scope)(hgl:fd.globals=kT)(hbu:fd.builtins=vi)(hcl:fd.closure=[])
  (x:IB qc w A R D fd.qualname fd.code b s):Za qc w A R D fd b s:=by
 unfold Za;rw[hsc,hgl,hbu,hcl];exact x
theorem Xm (hD:ko qd tabs D)(L:HQ qd s.heap)
  (hb:AQ (D.args.args.map (·.arg)) (D.args.kwonlyargs.map (·.arg)) D.dflts D.kwd args kw=qa binds) (ra:qL ρ args args') (rk:zt ρ kw kw') (hdep:A.depth < 1000)
  (k:∀qn code wk,zt ρ binds wk->kc qd code qn->(∃x∈tabs,code=.ref x.1) ->
   (D.args.kwarg=qb/\IB qc w A R D qn code wk s)\/∃a,D.args.kwarg=qa a/\IB qc w A R D qn code (wk++[(a.arg,.ref s.heap.objs.size)]) { s with heap:=s.heap.push { cls:=.type "dict", data:=.dict #[] } }) :
  C4 (qp qc w) A (.call (.ref D.addr) ⟨args',kw'⟩) R s:=by
 obtain⟨o,fd,ho,hd,hp,hbo,hsc,hgl,hbu,hcl,v4,BG,hdf,hkd⟩:=hD.obj
 obtain⟨g1,g2,g3,g4,g5,_⟩:=LT hD.good
 have nf:∀{o:zk},(∀ps,o.data≠.fields ps)->¬(o.cls=.none/\∃ps,o.data=.fields ps):=λn z=>z.2.elim n
 have rd:∃Hr,qL ρ D.dflts Hr/\((fd.defaults=.none/\Hr=[])\/∃t o items n,fd.defaults=.ref t/\s.heap.get? t=qa o/\o.data=.seq items n/\items.toList=Hr):=by
  rcases hdf with ⟨a,b⟩ | ⟨t,o,items,n,a,b,c,rr⟩
  ·refine⟨[],by rw[b];exact .nil,.inl ⟨a,rfl⟩⟩
  ·refine⟨_,rr.mono ⟨ρ,rfl⟩,.inr ⟨t,o,items,n,a,L _ _ b (nf λ_ z=>nomatch c.symm.trans z),c,rfl⟩⟩
 have rkd:∃AE,zt ρ D.kwd AE/\((fd.kwdefaults=.none/\AE=[])\/∃t mm,fd.kwdefaults=.ref t/\s.heap.Ns t mm/\∀n v,AE.lookup n=qa v->mm n=qa v):=by
  rcases hkd with ⟨a,b⟩ | ⟨t,mm,AE,a,⟨oo,es,ep,b1,b2,b3⟩,rr,c⟩
  ·refine⟨[],by rw[b];exact .nil,.inl ⟨a,rfl⟩⟩
  ·refine⟨AE,rr.mono ⟨ρ,rfl⟩,.inr ⟨t,mm,a,⟨oo,es,ep,L _ _ b1 (nf λ_ z=>nomatch b2.symm.trans z),b2,b3⟩,c⟩⟩
 obtain⟨Hr,rd,hdf'⟩:=rd
 obtain⟨AE,rkd,hkd'⟩:=rkd
 obtain⟨wk,hb1,rb⟩:=eF rd rkd ra rk hb
 rw[<-hp] at g1 g2 hb1 k
 exact codeAny_call_function hdep (L _ _ ho (nf λ_ z=>nomatch hd.symm.trans z)) hd (hsc▸g5) (hsc▸g4) hbo (L.code v4).rec (S8 g1 g2 hdf' hkd' hb1
  ((k _ _ _ rb v4 BG).imp (λx=>⟨x.1,x.2.toF hsc hgl hbu hcl⟩) λ⟨a,x⟩=>⟨a,x.1,x.2.toF hsc hgl hbu hcl⟩))
theorem Tr {D:jj}(hD:JC D=qe){qn:qf}{code:qh}{L:qj}{cs:List (qf×qj)}{binds:List (qf×V)}{wk:List (qf×qh)}(v4:kc qd code qn)(BG:∃x∈tabs,code=.ref x.1)(rb:zt ρ binds wk)
  (zu:qd.objs.size<=L) (hnot:L∉ρ) {mm cm:qf->Option qh} (hn:h.Ns L mm) (hm:∀y u,D.scope.names.lookup y=qa .local->wk.lookup y=qa u->mm y=qa u)
  (hc:∀y,D.scope.names.lookup y=qa .cell->∃c,cs.lookup y=qa c/\qd.objs.size<=c/\c∉ρ/\h.IsCell c (cm y)/\∀u,wk.lookup y=qa u->cm y=qa u) (ha:cs.Pairwise λx y=>x.2≠y.2) :
  zi qd tabs (LG D qn code L cs) D.scope.names (zA D.scope.names) (Hc D binds) ρ h:=by
 obtain⟨g1,g2,g3,g4,g5,g6,g7,g8⟩:=LT hD
 have at_:∀{y i u} {x:Option qh},j3 (zA D.scope.names) y=qa i->z5 (Hc D binds) i=qa u->(∀u,wk.lookup y=qa u->x=qa u)->∃u',x=qa u'/\qz ρ u u':=λ{y i u x} h1 h2 hf=>by
  have h2:=(qbF (f:=λx=>binds.lookup x) h1).symm.trans h2
  rcases Ll rb y with ⟨a,b⟩ | ⟨u1,u',a,b,ru⟩
  ·exact nn (a.symm.trans h2)
  ·obtain rfl:=zc (a.symm.trans h2)
   refine⟨u',hf _ b,ru⟩
 exact
  {kind:=g3,glob:=rfl,blt:=rfl,loc:=λ_ e=>e,cel:=λ_ e=>e,glo:=λ_ e=>e,
   fre:=λy e=>e.elim .inl .inr,
   code:=λ_=>(by obtain⟨y,hy,e⟩:=BG;refine⟨y,hy,e,qn,e▸v4,rfl⟩),
   len:=qH ..,labove:=zu,lnotin:=hnot,
   locals:=⟨mm,hn,λy i u h1 h2 h3=>at_ h2 h3 λu e=>hm y u h1 e⟩,
   cells:=λy hy=>hy.elim (λe=>(by obtain⟨c,h1,h2,h3,h4,h5⟩:=hc y e;refine⟨c,h1,h2,h3,_,h4,λi u e1 e2=>at_ e1 e2 h5⟩)) λe=>(by rcases g7 _ _ (vN e) with h | h | h <;> exact nomatch h),
   inj:=λy z c _ _ e1 e2=>qhz ha (vN e1) (vN e2) }
theorem Ze (g:j5 qc w qd G tabs d O)(Ai:d < 10){D:jj}(hD:JC D=qe){qn:qf}{code:qh}(v4:kc qd code qn)(BG:∃x∈tabs,code=.ref x.1){binds:List (qf×V)}{wk:List (qf×qh)}{R:AF->qk->Prop}
  (r:zf (d+1) A) (I:qt qc w qd G tabs s.heap ρ σ) (rb:zt ρ binds wk) (hpn:∀x∈binds.map (·.1),x∈Ku D.args)
  (e:NS G D O binds σ=qa (v,σ')) (hR:zd qc w qd G tabs (λv' s'=>R (.ok (.ret v')) s') ρ s v σ'):IB qc w A R D qn code wk s:=by
 obtain⟨g1,g2,g3,g4,g5,g6,g7,g8⟩:=LT hD
 refine bi e λjE e=>b2 e λfl q ee e=>?_
 have hnd':(wk.map (·.1)).Nodup:=by rw[rb.names];exact Fw jE
 refine qhJ g3 (λx hx=>?_) λenv he s' x=>?_
 ·rcases g8 _ (hpn _ (by rw[<-rb.names];exact qG.mpr ⟨x,hx,rfl⟩)) with h1 | h1
  ·exact .inl h1
  ·obtain⟨c,hc⟩:=GA D.scope.names (s.heap.objs.size+1) (vN h1)
   exact .inr ⟨h1,by rw[hc];rfl⟩
 ·obtain rfl:env=LG D qn code s.heap.objs.size (kG (s.heap.objs.size+1) D.scope.names []):=he
  obtain⟨h1,tk,hs'⟩:=x.toInCall.same
  subst hs'
  have kp:∀b o,s.heap.get? b=qa o->h1.get? b=qa o:=x.toInCall.keep
  have I1:=I.keeps g.base.tlt kp
  refine⟨g.base.noLimit _ I1.old,qhK ?_⟩
  have zu:=g.base.size _ I.old
  have big:∀{a},s.heap.objs.size<=a->a∉ρ:=λ{a} ha hm=>(by obtain⟨o,ho⟩:=I.here hm;exact absurd (Heap.lt_size ho) (k8.mpr ha))
  have hab:∀{y c},(kG (s.heap.objs.size+1) D.scope.names []).lookup y=qa c->s.heap.objs.size < c:=λe=>x.above _ _ (vN e)
  have X1:=Tr (h:=h1) hD v4 BG rb zu (big (qU _)) x.toInCall.ns (λy u hy e=>(L1 hnd' hy).trans (by rw[e])) (λy hy =>
   let ⟨c,hc⟩:=GA D.scope.names (s.heap.objs.size+1) (vN hy)
   ⟨c,hc,qu zu (va (hab hc)),big (va (hab hc)),x.cell y c hc,λu e=>(VE hnd' hy).trans (by rw[e])⟩) x.apart
  have room:zf d (A.deeper (LG D qn code s.heap.objs.size (kG (s.heap.objs.size+1) D.scope.names []))) :=
   ⟨r.handled,by have:=r.depth;show A.depth+1+10 * d<=_;lia,by have:=r.units;show A.units+3+60 * d<=_;lia,
    (by obtain⟨env,l,hf,_⟩:=r.frame;refine⟨_,env :: l,by show A.frames.map _=_;rw[hf];rfl,g4,g5,rfl,rfl⟩),λq=>absurd q (Rl.mpr Ai)⟩
  have ownfresh:∀b,vd (LG D qn code s.heap.objs.size (kG (s.heap.objs.size+1) D.scope.names [])) D.scope.names b->s.heap.get? b=qb:=λb hb=>by
   cases e:s.heap.get? b with
   | none=>rfl
   | some o=>exact(hb.elim (λq=>absurd (Heap.lt_size e) (q▸j7 _)) λ⟨y,_,hc⟩=>absurd (Heap.lt_size e) (k8.mpr (va (hab hc))))
  refine ss_ok g D.body _ _ (s:={ s with heap:=h1,toks:=tk }) room X1 I1 ee λfl' zv h2 zl S2 X2 I2 r2=>?_
  cases e
  refine hR _ zv h2 zl (((qY.keeps kp).trans S2).dropAll ownfresh) I2 ?_
  cases r2 with
  | ret r2=>exact r2
  | next=>exact .none
theorem qf9 (g:j5 qc w qd G tabs d O)(Ai:d < 10){D:jj}(hD:ko qd tabs D){args:List V}{kw:List (qf×V)}
  (e:Qn G D O args kw σ=qa (v,σ')) (r:zf (d+1) A) (I:qt qc w qd G tabs s.heap ρ σ) (ra:qL ρ args args') (rk:zt ρ kw kw') (hQ:zd qc w qd G tabs Q ρ s v σ') :
  Av (qp qc w) A Ex (.ref D.addr) s/\qq (qp qc w) A (call (.ref D.addr) args' kw') Q Ex s:=by
 obtain⟨o,fd,ho,hd,_⟩:=hD.obj
 refine⟨ZX (I.keep0 ho λ⟨_,_,z⟩=>nomatch hd.symm.trans z) hd,b1 e λbinds hb e=>?_⟩
 have hnm:=qfS hb
 refine qhL (Xm hD I.live0 hb ra rk (by have:=r.depth;show A.depth < 1000;lia) λqn code wk rb v4 BG=>?_)
 cases hkw:D.args.kwarg with
 | none =>
  rw[hkw] at e
  exact .inl ⟨rfl,Ze g Ai hD.good v4 BG r I rb (λx hx=>kH _ (hnm x hx)) e λv' zv h2 zl S2 I2 r2=>hQ v' zv h2 zl S2 I2 r2⟩
 | some a =>
  rw[hkw] at e
  have kp:∀b o,s.heap.get? b=qa o->(s.heap.push { cls:=.type "dict", data:=.dict #[] }).get? b=qa o:=λb o e=>Heap.get?_push_of_some _ e
  have hnew:s.heap.objs.size∉ρ:=λhm=>(by obtain⟨o,ho⟩:=I.here hm;exact absurd (Heap.lt_size ho) (j7 _))
  have I1:qt qc w qd G tabs (s.heap.push { cls:=.type "dict", data:=.dict #[] }) (ρ++[s.heap.objs.size]) (σ++[.sdict []]) :=
   I.alloc g.base.tlt kp hnew (g.base.size _ I.old) (I.top.ne (B0 _)) ⟨[],Kn (Heap.get?_push_size _ rfl),.nil⟩
  refine .inr ⟨a,rfl,Ze (s:={ s with heap:=s.heap.push { cls:=.type "dict", data:=.dict #[] } }) g Ai hD.good v4 BG r I1 (IJ (rb.mono ⟨_,rfl⟩) (.cons (.ref (by rw[<-I.len];simp)) .nil)) (λx hx=>?_) e
   λv' zv h2 zl S2 I2 r2=>hQ v' zv h2 zl ((qY.alloc kp (B0 _)).trans S2) I2 r2⟩
  unfold Ku
  rw[hkw]
  rw[jQ] at hx
  rcases zT.mp hx with q | q
  ·exact kH _ (hnm x q)
  ·exact wV _ q
theorem qfA:AQ [p] [] ([]:List qh) [] [x'] []=qa [(p,x')]:=by
 simp[AQ,bn1,eB,qaB,fK,CU]
noncomputable def Kf (fd:J6)(a L:qj):q0:=J2 fd.scope L kT (kG (L+1) fd.scope.names []) (fd.qualname ++ ".<locals>.") (qa a) fd.code qb vi
theorem n8 {M:A9}{fd:J6}{b:List (qf×qh)}(h5:fd.globals=kT)(h6:fd.builtins=vi)(h7:fd.closure=[])
  (k:qq M A (F2 fd.scope kT [] b q f fd.code qb vi) Q Ex s):qq M A (F2 fd.scope fd.globals fd.closure b q f fd.code qb fd.builtins) Q Ex s:=by
 rw[h5,h6,h7];exact k
theorem hA (h11:DL fd.scope.names=qg)(h17:fd.scope.kind=.function)(h21:∀x∈fd.scope.names,x.2=.local\/x.2=.globalImplicit)
  (zu:qd.objs.size<=L) (hn:L∉ρ) (ns:h.Ns L mm) (hm:fd.scope.names.lookup p=qa .local->mm p=qa x') (rx:qz ρ x x'):zi qd tabs (Kf fd a L) fd.scope.names [p] [qa x] ρ h:=by
 have notCell:∀y,¬Da fd.scope.names y:=λy hy=>hy.elim (λe=>(h21 _ (vN e)).elim (λh=>nomatch h) λh=>nomatch h) λe=>(h21 _ (vN e)).elim (λh=>nomatch h) λh=>nomatch h
 exact
  {kind:=h17,glob:=rfl,blt:=rfl,loc:=λ_ e=>e,cel:=λ_ e=>e,glo:=λ_ e=>e,
   fre:=λy e=>e.elim .inl .inr,code:=λe=>absurd e (by rw[h11];decide),len:=rfl,labove:=zu,lnotin:=hn,
   locals:=⟨_,ns,λy i u g1 g2 g3=>by
    have e:=Hh g2
    cases i with
    | succ i=>exact nn e
    | zero =>
     obtain rfl:=zc e
     obtain rfl:=zc g3
     refine⟨x',hm g1,rx⟩⟩,
   cells:=λy hy=>absurd hy (notCell y),inj:=λy z c hy _ _ _=>absurd hy (notCell y) }
theorem dZ (g:j5 qc w qd G tabs d O)(Ai:d < 10){b:E}{x:V}(e:ev O b [qa x] σ=qa (v,σ'))(r:zf (d+1) A)(I:qt qc w qd G tabs s.heap ρ σ)
  (ho:vD qc w G s.heap ρ a (.lam b)) (rx:qz ρ x x') (hQ:zd qc w qd G tabs Q ρ s v σ'):qq (qp qc w) A (call (.ref a) [x'] []) Q Ex s:=by
 obtain⟨o,fd,body,p,h1,h2,h3,h4,h5,h6,h7,h8,h9,h10,h11,h12,h13,h14,h15,h16,h17,h18,h19,h20,h21,h22⟩:=ho
 refine qhL (kla_callFunE (by have:=r.depth;show A.depth < 1000;lia) h1 h3 h19 h18 h4 h10.rec ?_)
 refine S8 (kwd:=[]) (dflts:=[]) (out:=[(p,x')]) h12 h14 (.inl ⟨h8,rfl⟩) (.inl ⟨h9,rfl⟩) (by rw[h13,h15];exact qfA) (.inl ⟨h16,n8 h5 h6 h7 (qhJ h17 (λy hy=>by cases zE.mp hy;exact .inl h20) λenv he s' xx=>?_)⟩)
 obtain rfl:env=Kf fd a s.heap.objs.size:=he
 obtain⟨hh,tk,hs'⟩:=xx.toInCall.same
 subst hs'
 have kp:∀b o,s.heap.get? b=qa o->hh.get? b=qa o:=xx.toInCall.keep
 have I1:=I.keeps g.base.tlt kp
 refine⟨g.base.noLimit _ I1.old,kla_codeExpr ?_⟩
 have X1:zi qd tabs (Kf fd a s.heap.objs.size) fd.scope.names [p] [qa x] ρ hh:=hA h11 h17 h21 (g.base.size _ I.old) (λhm=>let ⟨o,ho⟩:=I.here hm;absurd (Heap.lt_size ho) (j7 _)) xx.toInCall.ns
  (λg1=>(L1 (binds:=[(p,x')]) (k7.mpr ⟨AH,vy⟩) g1).trans (by rw[Al,beq_self_eq_true])) rx
 have room:zf d (A.deeper (Kf fd a s.heap.objs.size)) :=
  ⟨r.handled,by have:=r.depth;show A.depth+1+10 * d<=_;lia,by have:=r.units;show A.units+3+60 * d<=_;lia,
   let ⟨env,l,hf,_⟩:=r.frame;⟨_,env :: l,by show A.frames.map _=_;rw[hf];rfl,h18,h19,rfl,rfl⟩,λq=>absurd q (Rl.mpr Ai)⟩
 rw[<-h22] at e
 exact(v6 g body).se _ _ (s:={ s with heap:=hh,toks:=tk }) room X1 I1 e λv' zv h2 zl S2 I2 r2=>hQ v' zv h2 zl ((qY.keeps kp).trans S2) I2 r2
theorem eV {i dI:Nat}{a:qj}{es:List (qf×V)}{P:qh×List qh->qk->Prop}{pl:zr Bool}(hat:HJ s.heap c N mN)
  (hng:mN "__getattribute__" = qb) (hnh:mN "__getattr__" = qb) (hf:mN name=qa (.ref f)) (hfo:s.heap.get? f=qa of) (hfc:of.cls=.type "function") (hB:JY (.type "object") name=pure y)
  (I:qt qc w qd G tabs s.heap ρ σ) (h1:σ[i]?=qa (.inst c dI)) (h2:σ[dI]?=qa (.ns es)) (hn:jP es name=qb) (ha:ρ[i]?=qa a) (hP:P (.ref f,[.ref a]) s) :
  qq (qp qc w) A (JX (.ref a) name pl) P Ex s:=by
 obtain⟨nm,q,bs,sn,sub,col,dd,k0,k1,k2,k3,k5,hC⟩:=hat.obj
 obtain⟨ob,da,ms,q1,q2,q3,q4,q5,q6,q7,q8,q9,q10⟩:=I.inst_of h1 h2 ha
 exact method_of (h:=s.heap) hC hat.ns hng hnh hf hfo hfc hB q8 (q10 _ hn) hP
theorem qaa (B:qS qc qd G tabs)(hfull:∀b,b < qd.objs.size->∃o,qd.get? b=qa o){oI:zk}{args':List qh}{Q:qh->qk->Prop}(hat:HJ s.heap c N mN)(hi:mN "__init__" = qa (.ref fI))(hfI:s.heap.get? fI=qa oI)(hfc:oI.cls=.type "function")
  (I:qt qc w qd G tabs s.heap ρ σ)
  (h:∀h' x dx tk,(∀b o,s.heap.get? b=qa o->h'.get? b=qa o)->s.heap.get? x=qb->s.heap.get? dx=qb->qt qc w qd G tabs h' (ρ++[dx]++[x]) (σ++[.ns []]++[.inst c σ.length]) ->
   qq (qp qc w) (A.under (.builtin "type.__call__" ⟨.ref c :: args',[]⟩)) (call (.ref fI) (.ref x :: args')) (λr s'=>r=.none/\Q (.ref x) s') Ex { s with heap:=h',toks:=tk }) :
  qq (qp qc w) A (call (.ref c) args') Q Ex s:=by
 obtain⟨nm,q,bs,sn,sub,col,dd,k0,k1,k2,k3,k5,hC⟩:=hat.obj
 refine wpAny_call_obj_init (h:=s.heap) PySem.F.objNew hC hat.ns hi hfI hfc λh' x dx Mk=>?_
 obtain⟨ox,hx,hcx,hncx,hdx⟩:=Mk.inst
 have hdd:=Mk.dict ox hx
 obtain⟨zy,hnsd⟩:dx≠x/\h'.Ns1 dx λ_=>qb:=by
  rcases hdx with ⟨hn0,_⟩ | ⟨d',hd',hne',hns'⟩
  ·rw[hn0] at hdd;cases hdd
  ·obtain rfl:=zc (hd'.symm.trans hdd);refine⟨hne',hns'⟩
 have nx:x∉ρ:=λhm=>by obtain⟨o,ho⟩:=I.here hm;rw[Mk.newX] at ho;cases ho
 have nd:dx∉ρ:=λhm=>by obtain⟨o,ho⟩:=I.here hm;rw[Mk.newD] at ho;cases ho
 have big:∀{b},s.heap.get? b=qb->(∃o,h'.get? b=qa o)->qd.objs.size<=b:=λ{b} hb hb'=>by
  rcases JJ b qd.objs.size with qQ | hge
  ·obtain⟨o,ho⟩:=hfull b qQ
   by_cases ht:∀x∈tabs,b≠x.2
   ·rw[I.old b o ho ht] at hb;cases hb
   ·simp only[ne_eq,qjc,bP] at ht
    obtain⟨x,hxm,rfl⟩:=ht
    obtain⟨ps,_,⟨_,e⟩,_⟩:=I.tab x hxm
    rw[e] at hb;cases hb
  ·exact hge
 have I1:qt qc w qd G tabs h' (ρ++[dx]) (σ++[.ns []]):=I.alloc B.tlt Mk.keeps nd (big Mk.newD ((by obtain⟨o,_,_,e,_⟩:=hnsd;refine⟨o,e⟩))) (I.top.ne Mk.newD) ⟨_,hnsd,λy u hy=>by simp[jP] at hy,λ_ _=>rfl⟩
 refine h h' x dx _ Mk.keeps Mk.newX Mk.newD (I1.alloc B.tlt (λb o e=>e) (λhm=>?_) (big Mk.newX ⟨_,hx⟩) (I.top.ne Mk.newX) ⟨dx,ox,?_,hx,hcx,hdd,hncx⟩)
 ·rcases zT.mp hm with q | q
  ·exact nx q
  ·simp at q;exact zy q.symm
 ·rw[jq,<-I.len];simp
theorem dB (hT:∀x∈tabs,∃ps,qd.TableAt x.1 x.2 ps)(hk:w6 qd tabs h):HQ qd h:=λb o e hn =>
 hk b o e λx hx hb=>by
  obtain⟨ps,_,ht⟩:=hT x hx
  rw[hb,ht] at e;cases e
  exact hn ⟨rfl,_,rfl⟩
theorem qb9 {E:qh->qk->Prop}{env:q0}(f:qf×qh->PUnit->zr (ForInStep PUnit))(hf:∀n v u,f (n,v) u=(do storeName env n v;pure (.yield ⟨⟩)))(hk:env.scope.kind=.function) :
  ∀(binds:List (qf×qh)) (m:qf->Option qh) (s:qk) (Q:PUnit->qk->Prop),s.heap.Ns env.locals m->(∃o,s.heap.get? env.locals=qa o/\o.cls=.type "frame") ->
   (∀x∈binds,env.kindOf x.1=qa .local) ->
   (∀h' tk,h'.Ns env.locals (MW env.kindOf binds m)->Heap.SameBut env.locals s.heap h'->(∃o,h'.get? env.locals=qa o/\o.cls=.type "frame")->Q ⟨⟩ { s with heap:=h',toks:=tk })->qq M A (forIn binds ⟨⟩ f) Q E s:=λbinds=>by
 induction binds with
 | nil=>intro m s Q hn hc _ h;exact qB (h s.heap s.toks hn (.refl ..) hc)
 | cons y r ih =>
  intro m s Q hn hc hl h
  obtain⟨n,v⟩:=y
  rw[C1,hf]
  have hl1:=hl (n,v) zB
  refine qm (qm (WR hl1 hn (λh1 hn1 hs1 hc1=>qB (ih _ _ Q hn1 ?_ (λy hy=>hl y (zI _ hy)) λh2 zl hn2 hs2 hc2=>?_)) (by rw[hk];rfl)))
  ·obtain⟨o,ho,q⟩:=hc
   obtain⟨o',ho',q'⟩:=hc1 o ho
   refine⟨o',ho',q'.trans q⟩
  ·refine h h2 zl ?_ (hs1.trans hs2) hc2
   unfold MW;rw[if_pos hl1];exact hn2
theorem qah {M:A9}{A:zh}{E:qh->qk->Prop}{scope:vh}{globals:qj}{binds:List (qf×qh)}{qual:qf}{func:Option qj}{code:qh}{builtins:qj}{Q:q0->qk->Prop}
  (hk:scope.kind=.function) (hl:∀x∈binds,scope.names.lookup x.1=qa .local)
  (hQ:∀h' tk,h'.Ns s.heap.objs.size (MW (λx=>scope.names.lookup x) binds λ_=>qb)->(∀b o,s.heap.get? b=qa o->h'.get? b=qa o)->(∃o,h'.get? s.heap.objs.size=qa o/\o.cls=.type "frame") ->
   (∀n c,(kG (s.heap.objs.size+1) scope.names []).lookup n=qa c->h'.IsCell c qb/\s.heap.objs.size < c)->((kG (s.heap.objs.size+1) scope.names []).Pairwise λx y=>x.2≠y.2) ->
   Q (J2 scope s.heap.objs.size globals (kG (s.heap.objs.size+1) scope.names []) qual func code qb builtins) { s with heap:=h',toks:=tk }) :
  qq M A (F2 scope globals [] binds qual func code qb builtins) Q E s:=by
 simp only[F2,qht,FN,if_false]
 refine qm (Q6 ?_)
 refine qm (qhw _ (λname kind cells=>by cases hkc:kind == F0 <;> simp[hkc]) _ _ _ _ ?_)
 have ok:=qhx scope.names (s.heap.push { cls:=.type "frame", data:=.dict #[] }) (s.heap.objs.size+1) [] ⟨λ_ _ hm=>(nomatch hm),bT⟩ (by rw[Heap.size_push];exact qU _)
 rw[Heap.size_push] at ok
 rw[show ({ s with heap:=s.heap.push { cls:=.type "frame", data:=.dict #[] } }:qk).heap.objs.size=s.heap.objs.size+1 from Heap.size_push ..]
 have hc0:(MS (s.heap.push { cls:=.type "frame", data:=.dict #[] }) scope.names).get? s.heap.objs.size=qa { cls:=.type "frame", data:=.dict #[] }:=J3 _ _ _ _ (Heap.get?_push_size _ rfl)
 refine qm (qb9 (env:=J2 scope s.heap.objs.size globals (kG (s.heap.objs.size+1) scope.names []) qual func code qb builtins) _ (λ_ _ _=>rfl) hk binds (λ_=>qb) _ _ ((Heap.Ns.new s.heap (.type "frame")).keeps (J3 _ _)) ⟨_,hc0,rfl⟩ hl
  λh' tk hn hs hcl=>qB (hQ h' tk hn (λb o e=>?_) hcl (λn c hc=>?_) ok.apart))
 ·have hb:b≠s.heap.objs.size:=kR (Heap.lt_size e)
  exact(hs.2 b hb).trans (J3 _ _ _ _ (Heap.get?_push_of_some _ e))
 ·obtain⟨q1,q2⟩:=ok.empty n c (mem_of_lookup hc)
  have qQ:s.heap.objs.size < c:=q2
  refine⟨q1.sameBut hs (FP qQ),qQ⟩
noncomputable def Tc:Option DP->Bool
 | some .local=>qe
 | _=>qg
theorem nN (h:Tc x=qe):x=qa .local:=by
 cases x with
 | none=>exact ff h
 | some k=>cases k <;> first | rfl | exact ff h
theorem xZ {D:jj}{binds:List (qf×V)}(h:binds.all (λx=>Tc (D.scope.names.lookup x.1))=qe):∀x∈binds.map (·.1),D.scope.names.lookup x=qa .local:=λx hx =>
 let ⟨y,hy,e⟩:=qG.mp hx
 e▸nN (wS.mp h y hy)
theorem qdO (B:qS qc qd G tabs)(hD:ko qd tabs D)(hT:∀x∈tabs,∃ps,qd.TableAt x.1 x.2 ps)(hk:w6 qd tabs s.heap)(hρ:∀a∈ρ,∃o,s.heap.get? a=qa o)
 (hkw:D.args.kwarg=qb) (hloc:∀x∈binds.map (·.1),D.scope.names.lookup x=qa .local)
  (hb:AQ (D.args.args.map (·.arg)) (D.args.kwonlyargs.map (·.arg)) D.dflts D.kwd args kw=qa binds) (jE:(binds.map (·.1)).Nodup) (ra:qL ρ args args') (rk:zt ρ kw kw') (hdep:A.depth < 1000)
  (hh:∀env h1 tk,zi qd tabs env D.scope.names (zA D.scope.names) (Hc D binds) ρ h1->(∀b o,s.heap.get? b=qa o->h1.get? b=qa o)->env.locals=s.heap.objs.size->env.frame=qa s.heap.objs.size ->
   env.scope=D.scope->env.builtins=vi->env.globals=kT->(∃o es n,h1.get? s.heap.objs.size=qa o/\o.cls=.type "frame" /\ o.data=.dict es n)->(∀b,vd env D.scope.names b->s.heap.get? b=qb) ->
   qq (qp qc w) (A.deeper env) (jS D.body env) (λf s'=>R (.ok (.ret (match f with | .ret v=>v | _=>.none))) s')
    (λe s'=>qq (qp qc w) (A.deeper env) (leaving env e) (λ_ s''=>R (.error e) s'') (λe' s''=>R (.error e') s'') s') { s with heap:=h1,toks:=tk }) :
  C4 (qp qc w) A (.call (.ref D.addr) ⟨args',kw'⟩) R s:=by
 obtain⟨g1,g2,g3,g4,g5,g6,g7,g8⟩:=LT hD.good
 refine Xm hD (dB hT hk) hb ra rk hdep λqn code wk rb v4 BG=>.inl ⟨hkw,?_⟩
 have hnd':(wk.map (·.1)).Nodup:=by rw[rb.names];exact jE
 have hloc':∀x∈wk,D.scope.names.lookup x.1=qa .local:=λx hx=>hloc _ (by rw[<-rb.names];exact qG.mpr ⟨x,hx,rfl⟩)
 refine qah g3 hloc' λh1 tk hns kp A7 hcell hapart=>?_
 refine⟨B.noLimit _ λb o e n=>kp _ _ (hk b o e n),qhK ?_⟩
 have zu:=B.size _ hk
 have big:∀{a},s.heap.objs.size<=a->a∉ρ:=λ{a} ha hm=>(by obtain⟨o,ho⟩:=hρ a hm;exact absurd (Heap.lt_size ho) (k8.mpr ha))
 have hab:∀{y c},(kG (s.heap.objs.size+1) D.scope.names []).lookup y=qa c->s.heap.objs.size < c:=λe=>(hcell _ _ e).2
 have X1:=Tr (h:=h1) (cm:=λ_=>qb) hD.good v4 BG rb zu (big (qU _)) hns (λy u hy e=>(L1 hnd' hy).trans (by rw[e])) (λy hy =>
   let ⟨c,hc⟩:=GA D.scope.names (s.heap.objs.size+1) (vN hy)
   ⟨c,hc,qu zu (va (hab hc)),big (va (hab hc)),(hcell y c hc).1,λu e=>nomatch (hloc' _ (vN e)).symm.trans hy⟩) hapart
 refine hh _ h1 tk X1 kp rfl rfl rfl rfl rfl ?_ λb hb=>?_
 ·obtain⟨o,es,ep,ho,hd,_⟩:=hns
  obtain⟨o',ho',hc⟩:=A7
  obtain rfl:=zc (ho.symm.trans ho')
  refine⟨o,es,ep,ho,hc,hd⟩
 ·rcases hb with rfl | ⟨y,hy,hc⟩
  ·exact B0 _
  ·cases e:s.heap.get? b with
   | none=>rfl
   | some o=>exact absurd (Heap.lt_size e) (k8.mpr (va (hab hc)))
end
end
section
open PySem.SeqAt PySem.Builtin PySem.Builtin.Re
theorem T5:PlainAttrs "re.Pattern" :=
 ⟨⟨"object.__getattribute__", by rw[HL,HM];kernel_rfl,by decide +kernel⟩,by rw[HL,HM];kernel_rfl⟩
theorem P2:Slot "re.Pattern" "search" "re.Pattern.search" :=
 .of (owner := "re.Pattern") (n := "search") (by rw[HL,HM];kernel_rfl) (by decide +kernel) (by decide +kernel) (by decide +kernel)
  (by first | exact .inl (by decide +kernel) | exact .inr (by decide +kernel)) (by rw[qgu];kernel_rfl)
theorem TH:typeOf (.builtin "re.Pattern.search")=pure (.type "method_descriptor"):=by show builtinType _=_;rw[builtinType_eq_fast];kernel_rfl
theorem qbc:entryFor vg "re.Pattern.search" = qa cC.«re.Pattern.search» := entryFor_of_tree (by kernel_rfl)
theorem u5 (a b:qh):argsOk "re.Pattern.search" ⟨[a,b],[]⟩:=by
 unfold argsOk;kernel_rfl
noncomputable def E8 (code text:Array Nat):Prop:=∀c∈text.toList,∀seen,∃Ah,C6 code c code.size 5 qe seen=.ok (qg,Ah)
theorem ZU (ht:E8 m.code m.text)(hl:m.lim<=m.text.size):∀(fuel s:Nat)(seen:DS),∃Ah,Sre.M.admitted m fuel s seen=.ok (qb,Ah)
 | 0,s,seen=>⟨seen,rfl⟩
 | fuel+1,s,seen=>by
  by_cases hs:s≥m.lim
  ·refine⟨seen,if_pos hs⟩
  ·have qQ:s < m.text.size:=by lia
   have he:m.text.getD s 0=m.text[s]:=by simp[Array.getD,qQ]
   obtain⟨Ah,h'⟩:=ht (m.text[s]) (by simp) seen
   obtain⟨q,e⟩:=ZU ht hl fuel (s+1) Ah
   refine⟨q,(if_neg hs).trans ((congrArg (λo=>@qjd (λ_=>Except String (Option Nat×DS)) o _ _ _) ((congrArg (λc=>C6 m.code c m.code.size 5 qe seen) he).trans h')).trans e)⟩
theorem TM (n:Nat)(m:cF):qhM (n+1) m=if m.outcome.isSome then m else qhM n m.step:=rfl
theorem TC {m:cF}(h1:m.outcome=qb)(h2:m.frames=[]):((m.say qg).runFor 4).outcome=qa .failed:=by
 have e1:(m.say qg).outcome.isSome=qg:=by simp[qhN,h1]
 have e2:(m.say qg).step={ m.say qg with outcome:=qa .failed }:=by
  unfold Sre.M.step
  rw[e1,if_neg jy]
  simp[qhN,h2]
 rw[TM,e1,if_neg jy,e2,TM]
 rfl
theorem yV {m:cF}(hc:m.code.getD 0 0=14)(h4:m.code.getD 2 0=4)(ht:E8 m.code m.text)(hl:m.lim<=m.text.size)(h1:m.outcome=qb)(h2:m.frames=[])(s:Nat)(first:Bool) :
  ((m.attemptFrom s first).runFor 4).outcome=qa .failed:=by
 unfold Sre.M.attemptFrom
 have hfs:m.hasFirstSet=qe:=by
  unfold Sre.M.hasFirstSet
  rw[hc,h4];rfl
 rw[hfs]
 simp only[Bool.not_true,FN,if_false]
 obtain⟨q,hq⟩:=ZU ht hl (m.lim+1 - s) s m.seen
 rw[hq]
 exact TC h1 h2
theorem nY {code text:Array Nat}(hc:code.getD 0 0=14)(h4:code.getD 2 0=4)(ht:E8 code text)(g:Nat) :
  ((qhO code text g 0 text.size qg).runFor 4).outcome=qa .failed:=by
 unfold qhO
 dsimp only
 split
 ·exact TC rfl rfl
 ·exact yV hc h4 ht (qU _) rfl rfl _ _
section
variable {qc:zm}{w:qK}{A:zh}{Ex:qh->qk->Prop}{s:qk}
theorem oP (h:(m.runFor 4).outcome=qa .failed)(hP:P qb s):qq (qp qc w) A (reRunToEnd m) P Ex s:=by
 unfold reRunToEnd
 have e:reDrive (2 ^ 64) m=pure (m.runFor 4):=by
  rw[show (2 ^ 64:Nat)=(2 ^ 64 - 1)+1 by rfl]
  show (if (m.runFor 4).outcome.isSome=qe then _ else _)=_
  rw[h];rfl
 rw[e]
 refine qm (qB ?_)
 refine qm ?_
 refine wpAny_forIn_list _ (λ_ _ s'=>s'=s) _ ?_ ?_ _ _ rfl
 ·rintro i rest u s' rfl
  split
  ·exact qm (JK (qB rfl))
  ·exact qB rfl
 ·rintro u s' rfl
  rw[h]
  exact qB hP
theorem qc5 {a tu:qj}{o ot:zk}{p0 p1 p2 p3 p4 p6:qh}{items:Array qh}{n:Nat}{x:qf}{t:An}{Q:qh->qk->Prop}{code:Array Nat}
  (ho:s.heap.get? a=qa o) (A7:o.cls=.type "re.Pattern") (hd:o.data=.fields #[p0,p1,p2,p3,p4,.ref tu,p6]) (h2:reRawNat p2=0) (h6:reRawNat p6=0)
  (hot:s.heap.get? tu=qa ot) (hdt:ot.data=.seq items n) (v4:(items.map reRawOf).map (·.toNat)=code) (hc:code.getD 0 0=14) (h4:code.getD 2 0=4) (hx:x.length<=1000000)
  (ht:E8 code x.cps) (hQ:Q .none s):qq (qp qc w) A (call (.builtin "re.Pattern.search") [.ref a,.str x t]) Q Ex s:=by
 refine qhP P2 ⟨o,ho,A7⟩ qbc ?_ (u5 _ _)
 unfold cC.«re.Pattern.search»
 refine qm ?_
 unfold reTarget
 show qq _ _ (reNamed "re.Pattern.search" "search" ["string", "pos", "endpos"] 1 [.str x t] [] >>= _) _ _ s
 refine qm (FZ (a:=[qa (.str x t),qb,qb]) rfl ?_)
 refine qm (qB ?_)
 refine qm (qB ?_)
 refine qm (wpAny_fieldsOf ho hd ?_)
 have etx:reTextOf (.str x t)=pure (x.cps,0):=rfl
 refine qm (FZ etx ?_)
 dsimp only
 rw[show (#[p0,p1,p2,p3,p4,.ref tu,p6]:Array qh).getD 6 .none=p6 from rfl,h6]
 simp only[beq_self_eq_true,Rs]
 rw[if_neg (by decide),if_neg (by decide)]
 refine qm (FZ (a:=()) rfl ?_)
 refine qm ?_
 unfold reRawItems
 rw[show (#[p0,p1,p2,p3,p4,.ref tu,p6]:Array qh).getD 5 .none=.ref tu from rfl]
 refine qm (qhI hot hdt (qB ?_))
 refine qB ?_
 unfold reAnswer
 rw[show (#[p0,p1,p2,p3,p4,.ref tu,p6]:Array qh).getD 2 .none=p2 from rfl,h2]
 dsimp only
 have hlim:min (2 ^ 63 - 1:Int).toNat x.cps.size=x.cps.size:=by
  exact Bd (qu (hx:x.cps.size<=1000000) (by decide))
 rw[hlim]
 have hitems:(((qa items).getD #[]).map reRawOf).map (λx=>x.toNat)=code:=v4
 rw[hitems]
 refine qm (oP (by
  have:=nY hc h4 ht 0
  simpa using this) ?_)
 dsimp only
 exact qB ⟨_,rfl,hQ⟩
end
end
section
open PySem.SeqAt
section
variable {ρ:List qj}{sel:List Nat}
theorem JB (k x:qf)(v:V)(es:List (qf×V)):jP ((k,v) :: es) x=if k=x then qa v else jP es x:=by
 unfold jP
 rw[AI]
 cases h:ze k x with
 | true=>rw[if_pos (vG h)];rfl
 | false=>rw[if_neg λe=>by subst e;rw[wZ,beq_self_eq_true] at h;cases h]
variable {qc:zm}{w:qK}{qd:Heap}{G:qf->Option qh}{tabs:List (qj×qj)}{d:Nat}{O:qE}{A:zh}{Ex:qh->qk->Prop}{s:qk}
 {σ σ':qi} {v:V} {h h':Heap} {env:q0} {k:zg} {Γ:List qf} {m m':qx}
structure eM (qc:zm)(w:qK)(qd:Heap)(G:qf->Option qh)(tabs:List (qj×qj))(d:Nat)(a:qj)(f:List V->List (qf×V)->qi->Option (V×qi)):Prop where
 ok:∀{args:List V} {kw:List (qf×V)} {σ:qi} {v:V} {σ':qi},f args kw σ=qa (v,σ') ->
  ∀{A:zh} {s:qk} {ρ:List qj} {args':List qh} {kw':List (qf×qh)} {Q:qh->qk->Prop} {Ex:qh->qk->Prop},
   zf d A->qt qc w qd G tabs s.heap ρ σ->qL ρ args args'->zt ρ kw kw'->zd qc w qd G tabs Q ρ s v σ' ->
   Av (qp qc w) A Ex (.ref a) s/\qq (qp qc w) A (call (.ref a) args' kw') Q Ex s
variable {a:qj}{f g:List V->List (qf×V)->qi->Option (V×qi)}
end
end
structure ka where
 own:List qf
 normal:List qf
 kwonly:List qf
 kwarg:Option qf
 dflts:List V
 kwd:List (qf×V)
 code:List S
noncomputable def ZI (L:ka)(O:qE)(binds:List (qf×V))(σ:qi):Option (V×qi):=UJ O L.code (L.own.map λx=>binds.lookup x) σ
noncomputable def zP (L:ka)(O:qE)(args:List V)(kw:List (qf×V))(σ:qi):Option (V×qi) :=
 bn1 (AQ L.normal L.kwonly L.dflts L.kwd args kw) λbinds=>US L.kwarg (ZI L O) binds σ
noncomputable def N0:List S:=[(.ifs (.cmp .Is (.var 4) .none) [(.assign (.var 2) (.call (.glob (.ref 56)) [(.var 0),(.var 1),(.var 2),(.var 3)] [] []))] [(.assign (.var 2) (.call (.glob (.ref 56)) [(.var 0),(.call (.var 4) [(.var 1)] [] []),(.var 2),(.var 3)] [⟨#[107,101,121]⟩] [(.var 4)]))]),(.expr (.meth (.var 0) ⟨#[105,110,115,101,114,116]⟩ [(.var 2),(.var 1)] [] []))]
noncomputable def KQ:List S:=[(.ifs (.cmp .Lt (.var 2) (.int 0)) [.bad] []),(.ifs (.cmp .Is (.var 3) .none) [(.assign (.var 3) (.call (.glob (.builtin "len")) [(.var 0)] [] []))] []),(.ifs (.cmp .Is (.var 4) .none) [(.while_ (.cmp .Lt (.var 2) (.var 3)) [(.assign (.var 5) (.bin .FloorDiv (.bin .Add (.var 2) (.var 3)) (.int 2))),(.ifs (.cmp .Lt (.var 1) (.idx (.var 0) (.var 5))) [(.assign (.var 3) (.var 5))] [(.assign (.var 2) (.bin .Add (.var 5) (.int 1)))])])] [(.while_ (.cmp .Lt (.var 2) (.var 3)) [(.assign (.var 5) (.bin .FloorDiv (.bin .Add (.var 2) (.var 3)) (.int 2))),(.ifs (.cmp .Lt (.var 1) (.call (.var 4) [(.idx (.var 0) (.var 5))] [] [])) [(.assign (.var 3) (.var 5))] [(.assign (.var 2) (.bin .Add (.var 5) (.int 1)))])])]),(.ret (.var 2))]
noncomputable def Lj:List S:=[(.ifs (.cmp .Lt (.var 2) (.int 0)) [.bad] []),(.ifs (.cmp .Is (.var 3) .none) [(.assign (.var 3) (.call (.glob (.builtin "len")) [(.var 0)] [] []))] []),(.ifs (.cmp .Is (.var 4) .none) [(.while_ (.cmp .Lt (.var 2) (.var 3)) [(.assign (.var 5) (.bin .FloorDiv (.bin .Add (.var 2) (.var 3)) (.int 2))),(.ifs (.cmp .Lt (.idx (.var 0) (.var 5)) (.var 1)) [(.assign (.var 2) (.bin .Add (.var 5) (.int 1)))] [(.assign (.var 3) (.var 5))])])] [(.while_ (.cmp .Lt (.var 2) (.var 3)) [(.assign (.var 5) (.bin .FloorDiv (.bin .Add (.var 2) (.var 3)) (.int 2))),(.ifs (.cmp .Lt (.call (.var 4) [(.idx (.var 0) (.var 5))] [] []) (.var 1)) [(.assign (.var 2) (.bin .Add (.var 5) (.int 1)))] [(.assign (.var 3) (.var 5))])])]),(.ret (.var 2))]
noncomputable def m4:List S:=[(.ret (.cmp .In (.call (.glob (.builtin "ord")) [(.var 0)] [] []) (.glob (.ref 73))))]
noncomputable def pI:List S:=[(.assign (.var 1) (.meth (.glob (.ref 84)) ⟨#[103,101,116]⟩ [(.call (.glob (.builtin "ord")) [(.var 0)] [] [])] [] [])),(.ifs (.cmp .IsNot (.var 1) .none) [(.ret (.var 1))] []),(.ret (.meth (.var 0) ⟨#[108,111,119,101,114]⟩ [] [] []))]
noncomputable def xK:List S:=[(.ret (.cmp .Eq (.var 0) (.str ⟨#[32]⟩)))]
noncomputable def qbq:List S:=[(.assign (.var 1) (.ite (.cmp .IsNot (.var 1) .none) (.var 1) (.list []))),(.ifs (.cmp .IsNot (.call (.glob (.type "type")) [(.var 1)] [] []) (.glob (.type "list"))) [.bad] []),(.assign (.attr (.var 0) ⟨#[95,104,101,97,100,101,114,115]⟩) (.var 1)),(.ifs (.bool qe) [(.for_ (.tup [2,3]) (.var 1) [(.expr (.meth (.var 0) ⟨#[95,99,111,110,118,101,114,116,95,115,116,114,105,110,103,95,116,121,112,101]⟩ [(.var 2)] [⟨#[110,97,109,101]⟩] [(.bool qe)])),(.expr (.meth (.var 0) ⟨#[95,99,111,110,118,101,114,116,95,115,116,114,105,110,103,95,116,121,112,101]⟩ [(.var 3)] [⟨#[110,97,109,101]⟩] [(.bool qg)]))])] [])]
noncomputable def qev:List S:=[(.ret (.slice (.attr (.var 0) ⟨#[95,104,101,97,100,101,114,115]⟩) .none .none .none))]
noncomputable def EO:ka:=⟨[⟨#[97]⟩,⟨#[120]⟩,⟨#[108,111]⟩,⟨#[104,105]⟩,⟨#[107,101,121]⟩],[⟨#[97]⟩,⟨#[120]⟩,⟨#[108,111]⟩,⟨#[104,105]⟩],[⟨#[107,101,121]⟩],qb,[.int 0,.none],[(⟨#[107,101,121]⟩,.none)],N0⟩
noncomputable def Bg:ka:=⟨[⟨#[97]⟩,⟨#[120]⟩,⟨#[108,111]⟩,⟨#[104,105]⟩,⟨#[107,101,121]⟩,⟨#[109,105,100]⟩],[⟨#[97]⟩,⟨#[120]⟩,⟨#[108,111]⟩,⟨#[104,105]⟩],[⟨#[107,101,121]⟩],qb,[.int 0,.none],[(⟨#[107,101,121]⟩,.none)],KQ⟩
noncomputable def CN:ka:=⟨[⟨#[97]⟩,⟨#[120]⟩,⟨#[108,111]⟩,⟨#[104,105]⟩,⟨#[107,101,121]⟩,⟨#[109,105,100]⟩],[⟨#[97]⟩,⟨#[120]⟩,⟨#[108,111]⟩,⟨#[104,105]⟩],[⟨#[107,101,121]⟩],qb,[.int 0,.none],[(⟨#[107,101,121]⟩,.none)],Lj⟩
noncomputable def Nq:ka:=⟨[⟨#[99,111,100,101]⟩],[⟨#[99,111,100,101]⟩],[],qb,[],[],m4⟩
noncomputable def Qa:ka:=⟨[⟨#[99,111,100,101]⟩,⟨#[114]⟩],[⟨#[99,111,100,101]⟩],[],qb,[],[],pI⟩
noncomputable def ND:ka:=⟨[⟨#[99,111,100,101]⟩],[⟨#[99,111,100,101]⟩],[],qb,[],[],xK⟩
noncomputable def GX:ka:=⟨[⟨#[115,101,108,102]⟩,⟨#[104,101,97,100,101,114,115]⟩,⟨#[107]⟩,⟨#[118]⟩],[⟨#[115,101,108,102]⟩,⟨#[104,101,97,100,101,114,115]⟩],[],qb,[.none],[],qbq⟩
noncomputable def PK:ka:=⟨[⟨#[115,101,108,102]⟩],[⟨#[115,101,108,102]⟩],[],qb,[],[],qev⟩
section
variable {O:qE}{m m':qx}{σ σ' σ₂:qi}{v w:V}{e a b c:E}
theorem zY (h:ex O s m σ=qa (.next,m',σ')):exs O (s :: r) m σ=exs O r m' σ':=by
 show As (ex O s m σ) _=_;rw[h];rfl
theorem vO (h:ex O s m σ=qa (.ret v,m',σ')):exs O (s :: r) m σ=qa (.ret v,m',σ'):=by
 show As (ex O s m σ) _=_;rw[h];rfl
theorem vL:exs O [] m σ=qa (.next,m,σ):=rfl
theorem vK (h:ev O e m σ=qa (v,σ'))(hi:i < m.length):ex O (.assign (.var i) e) m σ=qa (.next,m.set i (qa v),σ') :=
 z8 h (z8 (qZ (L0 hi) rfl) rfl)
theorem AT (h:ev O e m σ=qa (v,σ')):ex O (.ret e) m σ=qa (.ret v,m,σ'):=z8 h rfl
theorem NK (h:ev O e m σ=qa (v,σ')):ex O (.expr e) m σ=qa (.next,m,σ'):=z8 h rfl
theorem vp (hp:vq e=qe)(h:ev O e m σ=qa (.bool bb,σ')):tst O e m σ (λ_=>ev O e m σ)=qa (bb,σ'):=(LE hp ..).trans (z8 h rfl)
theorem lP (hp:vq e=qe)(h:ev O e m σ=qa (.none,σ')):tst O e m σ (λ_=>ev O e m σ)=qa (qg,σ'):=(LE hp ..).trans (z8 h rfl)
theorem vX (h:tst O c m σ (λ_=>ev O c m σ)=qa (bb,σ')):ex O (.ifs c x y) m σ=if bb then exs O x m σ' else exs O y m σ':=D5 h rfl
theorem qX (h:z5 m i=qa v):ev O (.var i) m σ=qa (v,σ):=qZ h rfl
theorem BV:ev O (.int i) m σ=qa (.int i,σ):=rfl
theorem K6:ev O (.bool i) m σ=qa (.bool i,σ):=rfl
theorem s8:ev O (.str i) m σ=qa (.str i,σ):=rfl
theorem CV:ev O .none m σ=qa (.none,σ):=rfl
theorem CA:ev O (.glob u) m σ=qa (.val u,σ):=rfl
theorem Mh (ha:ev O a m σ=qa (v,σ'))(hb:ev O b m σ'=qa (w,σ₂)):ev O (.bin op a b) m σ=Dx σ₂ op v w:=z8 ha (z8 hb rfl)
theorem kV (ha:ev O a m σ=qa (v,σ'))(hb:ev O b m σ'=qa (w,σ₂))(hc:DY O σ₂ op v w=qa r):ev O (.cmp op a b) m σ=qa (.bool r,σ₂):=z8 ha (z8 hb (qZ hc rfl))
theorem NW (ha:ev O a m σ=qa (v,σ'))(hb:ev O b m σ'=qa (w,σ₂))(hc:Di σ₂ v w=qa r):ev O (.idx a b) m σ=qa (r,σ₂):=z8 ha (z8 hb (qZ hc rfl))
theorem NC (h:tst O c m σ (λ_=>ev O c m σ)=qa (bb,σ')):ev O (.ite c a b) m σ=if bb then ev O a m σ' else ev O b m σ':=D5 h rfl
theorem zF:evs O [] m σ=qa ([],σ):=rfl
theorem z4 (h:ev O e m σ=qa (v,σ'))(hs:evs O es m σ'=qa (vs,σ₂)):evs O (e :: es) m σ=qa (v :: vs,σ₂):=z8 h (z8 hs rfl)
theorem DA (hf:ev O f m σ=qa (v,σ'))(hs:evs O es m σ'=qa (vs,σ₂))(hk:evs O kv m σ₂=qa (ks,kO)):ev O (.call f es kn kv) m σ=apply O v vs (kn.zip ks) kO:=z8 hf (z8 hs (z8 hk rfl))
theorem Xo (hs:evs O es m σ=qa (vs,σ'))(hl:small vs.length=qe):ev O (.list es) m σ=qa (.ref σ'.length,σ'++[.list vs]):=z8 hs (if_pos hl)
theorem rB (hs:evs O es m σ=qa (vs,σ'))(hl:small vs.length=qe):ev O (.tuple es) m σ=qa (.ref σ'.length,σ'++[.tuple vs]):=z8 hs (if_pos hl)
theorem Ag (ho:ev O o m σ=qa (v,σ'))(hm:Cy O σ' v nm=qa mk)(hs:evs O es m σ'=qa (vs,σ₂))(hk:evs O kv m σ₂=qa (ks,kO)) :
  ev O (.meth o nm es kn kv) m σ=IK O kO mk v vs (kn.zip ks):=z8 ho (qZ hm (z8 hs (z8 hk rfl)))
theorem UN (ho:ev O o m σ=qa (v,σ'))(ha:H6 O σ' v nm=qa w):ev O (.attr o nm) m σ=qa (w,σ'):=z8 ho (qZ ha rfl)
theorem PE (h:w8 σ it all=qe):wP it all f [] m σ=qa (.next,m,σ):=if_pos h
theorem YP (h:w8 σ it all=qe)(e:f v m σ=qa (.next,m',σ')):wP it all f (v :: xs) m σ=wP it all f xs m' σ':=(if_pos h).trans (by rw[e];rfl)
theorem nP (h:w8 σ it all=qe)(e:f v m σ=qa (.ret w,m',σ')):wP it all f (v :: xs) m σ=qa (.ret w,m',σ'):=(if_pos h).trans (by rw[e];rfl)
noncomputable def FH (O:qE)(t:Tg)(b:List S):V->qx->qi->XR:=λx m σ=>bn1 (AP σ t x m) λm=>exs O b m σ
theorem O5 {b:List S}{i:It}{items:List V}(h1:ev O it m σ=qa (v,σ'))(h2:vu σ' v=qa i)(h3:jX σ' i=qa items):ex O (.for_ t it b) m σ=wP i items (FH O t b) items m σ' :=
 z8 h1 (qZ h2 (qZ h3 rfl))
end
noncomputable def jr (left:Nat->Bool):Nat->Nat->Nat->Nat
 | 0,lo,hi=>lo
 | f+1,lo,hi=>cond (z3 lo hi) (cond (left ((lo+hi) / 2)) (jr left f ((lo+hi) / 2+1) hi) (jr left f lo ((lo+hi) / 2))) lo
theorem M7 (left:Nat->Bool)(f lo hi:Nat):jr left (f+1) lo hi=cond (z3 lo hi) (cond (left ((lo+hi) / 2)) (jr left f ((lo+hi) / 2+1) hi) (jr left f lo ((lo+hi) / 2))) lo:=rfl
theorem Zt (h:a < b):z3 a b=qe:=kE.mpr h
theorem TW (h:¬a < b):z3 a b=qg:=qhQ.mpr λe=>h (kE.mp e)
theorem Oj {lo hi:Nat}(h:lo < hi):lo<=(lo+hi) / 2:=(Nat.le_div_iff_mul_le (by decide)).mpr (Nat.mul_two lo▸F4 (va h) lo)
theorem PC {lo hi:Nat}(h:lo < hi):(lo+hi) / 2 < hi:=Nat.div_lt_of_lt_mul (Nat.two_mul hi▸Nat.add_lt_add_right h hi)
theorem SM {lo hi f:Nat}(h:lo < hi)(k:hi - lo<=f+1):hi - ((lo+hi) / 2+1)<=f:=qu (Nat.sub_le_sub_left (Ao (Oj h)) hi) (Nat.pred_le_pred k)
theorem SK {lo hi f:Nat}(h:lo < hi)(k:hi - lo<=f+1):(lo+hi) / 2 - lo<=f:=MX (jH (Nat.sub_lt_sub_right (Oj h) (PC h)) k)
theorem K2 {σ:qi}{mk:Nat->Nat->Option V->qx}{n:Nat}
  (ht:∀lo hi zK,t (mk lo hi zK) σ=qa (decide (lo < hi),σ))
  (hb:∀lo hi zK,lo < hi->hi<=n->b (mk lo hi zK) σ=qa (.next,cond (left ((lo+hi) / 2)) (mk ((lo+hi) / 2+1) hi (qa (.int ((lo+hi) / 2:Nat)))) (mk lo ((lo+hi) / 2) (qa (.int ((lo+hi) / 2:Nat)))),σ)) :
  ∀(f:Nat) (w:Nat) (lo hi:Nat) (zK:Option V),hi - lo<=f->f < w->hi<=n->∃hi' wl,Fe t b w (mk lo hi zK) σ=qa (.next,mk (jr left f lo hi) hi' wl,σ)
 | f,0=>@λlo hi zK h1 h2 h3=>absurd h2 (Rm _)
 | 0,w+1=>@λlo hi zK h1 h2 h3=>⟨hi,zK,D5 ((ht lo hi zK).trans (by rw[decide_eq_false (show ¬lo < hi by lia)])) rfl⟩
 | f+1,w+1=>@λlo hi zK h1 h2 h3=>by
  by_cases qQ:lo < hi
  ·have e1:=(ht lo hi zK).trans (by rw[decide_eq_true qQ])
   have e2:=hb lo hi zK qQ h3
   rw[M7,Zt qQ]
   cases hl:left ((lo+hi) / 2) with
   | true =>
    rw[hl] at e2
    obtain⟨hi',wl,e⟩:=K2 ht hb f w ((lo+hi) / 2+1) hi (qa (.int ((lo+hi) / 2:Nat))) (SM qQ h1) (Rn h2) h3
    refine⟨hi',wl,D5 e1 (by rw[if_pos rfl,e2];exact e)⟩
   | false =>
    rw[hl] at e2
    obtain⟨hi',wl,e⟩:=K2 ht hb f w lo ((lo+hi) / 2) (qa (.int ((lo+hi) / 2:Nat))) (SK qQ h1) (Rn h2) (qu (va (PC qQ)) h3)
    refine⟨hi',wl,D5 e1 (by rw[if_pos rfl,e2];exact e)⟩
  ·refine⟨hi,zK,D5 ((ht lo hi zK).trans (by rw[decide_eq_false qQ])) (by rw[M7,TW qQ];rfl)⟩
theorem x7 (a b:Nat):((a:Int)+(b:Int)).fdiv 2=((a+b) / 2:Nat):=by
 exact(Int.ofNat_fdiv (a+b) 2).symm
theorem L6 {k:Nat}(h:k<=1000000):A0 (k:Int)=qe:=by
 exact z0.mpr ⟨decide_eq_true (by lia),decide_eq_true (by lia)⟩
theorem Yb {n k:Nat}(h:k < n):HA (k:Int) n=qa k:=by
 unfold HA
 rw[if_neg (Ci.mpr (Cj k))]
 exact if_pos (by rw[decide_eq_true (Cj k),decide_eq_true (wW.mpr h)];rfl)
theorem Sl {k:Nat}(h:k < xs.length)(hs:small xs.length=qe):CE xs (k:Int)=qa xs[k]:=by
 unfold CE
 rw[if_pos (by rw[L6 (qu (va h) (vZ hs)),hs];rfl)]
 exact qZ (Yb h) ((za k xs).trans (kh h))
noncomputable def wY (x:Option (Fl×qx×qi)):Option (V×qi):=bnd x λfl r=>qa (WV fl,r.2)
noncomputable def Ax (L:ka)(args:List V)(kw:List (qf×V)):Option qx:=(AQ L.normal L.kwonly L.dflts L.kwd args kw).map λbs=>L.own.map λx=>bs.lookup x
theorem Au (hk:L.kwarg=qb)(h:Ax L args kw=qa m):zP L O args kw σ=wY (exs O L.code m σ):=by
 obtain⟨bs,h1,rfl⟩:=My.mp h
 unfold zP
 rw[hk]
 exact qZ h1 rfl
theorem kL (a b c d e f:Option V):z5 [a,b,c,d,e,f] 0=a/\z5 [a,b,c,d,e,f] 1=b/\z5 [a,b,c,d,e,f] 2=c/\z5 [a,b,c,d,e,f] 3=d/\z5 [a,b,c,d,e,f] 4=e/\z5 [a,b,c,d,e,f] 5=f :=
 ⟨by cases a <;> rfl,by cases b <;> rfl,by cases c <;> rfl,by cases d <;> rfl,by cases e <;> rfl,by cases f <;> rfl⟩
noncomputable def wK (probe:E):List S:=[(.assign (.var 5) (.bin .FloorDiv (.bin .Add (.var 2) (.var 3)) (.int 2))),(.ifs probe [(.assign (.var 3) (.var 5))] [(.assign (.var 2) (.bin .Add (.var 5) (.int 1)))])]
noncomputable def wL (probe:E):List S:=[(.assign (.var 5) (.bin .FloorDiv (.bin .Add (.var 2) (.var 3)) (.int 2))),(.ifs probe [(.assign (.var 2) (.bin .Add (.var 5) (.int 1)))] [(.assign (.var 3) (.var 5))])]
theorem Xh {a b e zK:Option V}{lo hi:Nat}:ex O (.assign (.var 5) (.bin .FloorDiv (.bin .Add (.var 2) (.var 3)) (.int 2))) [a,b,qa (.int lo),qa (.int hi),e,zK] σ =
   qa (.next,[a,b,qa (.int lo),qa (.int hi),e,qa (.int ((lo+hi) / 2:Nat))],σ):=by
 have h:=vK (O:=O) (m:=[a,b,qa (.int lo),qa (.int hi),e,zK]) (σ:=σ) (i:=5) (v:=.int (((lo:Int)+hi).fdiv 2)) (e:=.bin .FloorDiv (.bin .Add (.var 2) (.var 3)) (.int 2)) (σ':=σ)
  (by rw[Mh (v:=.int ((lo:Int)+hi)) (w:=.int 2) (σ':=σ) (σ₂:=σ) (by rw[Mh (qX (kL ..).2.2.1) (qX (kL ..).2.2.2.1)];rfl) BV];rfl) (by simp)
 rw[h,x7];rfl
theorem qeR {lo hi:Nat}{probe:E}(hp:vq probe=qe){bb:Bool}
  (h:ev O probe [a,b,qa (.int lo),qa (.int hi),e,qa (.int ((lo+hi) / 2:Nat))] σ=qa (.bool bb,σ)) :
  exs O (wK probe) [a,b,qa (.int lo),qa (.int hi),e,zK] σ=qa (.next,if bb=qe then [a,b,qa (.int lo),qa (.int ((lo+hi) / 2:Nat)),e,qa (.int ((lo+hi) / 2:Nat))] else [a,b,qa (.int (((lo+hi) / 2+1:Nat):Int)),qa (.int hi),e,qa (.int ((lo+hi) / 2:Nat))],σ):=by
 unfold wK
 rw[zY Xh]
 have h2:=vX (x:=[(.assign (.var 3) (.var 5))]) (y:=[(.assign (.var 2) (.bin .Add (.var 5) (.int 1)))]) (vp hp h)
 cases bb with
 | true =>
  rw[if_pos rfl] at h2 ⊢
  refine zY (h2.trans (zY (vK (qX (kL ..).2.2.2.2.2) (by simp)))) |>.trans ?_
  rw[vL];rfl
 | false =>
  rw[if_neg jy] at h2 ⊢
  refine zY (h2.trans (zY (vK (v:=.int (((lo+hi) / 2:Nat)+1)) (σ':=σ) (by rw[Mh (qX (kL ..).2.2.2.2.2) BV];rfl) (by simp)))) |>.trans ?_
  rw[vL];rfl
theorem eY {lo hi:Nat}{probe:E}(hp:vq probe=qe){bb:Bool}
  (h:ev O probe [a,b,qa (.int lo),qa (.int hi),e,qa (.int ((lo+hi) / 2:Nat))] σ=qa (.bool bb,σ)) :
  exs O (wL probe) [a,b,qa (.int lo),qa (.int hi),e,zK] σ=qa (.next,if bb=qe then [a,b,qa (.int (((lo+hi) / 2+1:Nat):Int)),qa (.int hi),e,qa (.int ((lo+hi) / 2:Nat))] else [a,b,qa (.int lo),qa (.int ((lo+hi) / 2:Nat)),e,qa (.int ((lo+hi) / 2:Nat))],σ):=by
 unfold wL
 rw[zY Xh]
 have h2:=vX (x:=[(.assign (.var 2) (.bin .Add (.var 5) (.int 1)))]) (y:=[(.assign (.var 3) (.var 5))]) (vp hp h)
 cases bb with
 | false =>
  rw[if_neg jy] at h2 ⊢
  refine zY (h2.trans (zY (vK (qX (kL ..).2.2.2.2.2) (by simp)))) |>.trans ?_
  rw[vL];rfl
 | true =>
  rw[if_pos rfl] at h2 ⊢
  refine zY (h2.trans (zY (vK (v:=.int (((lo+hi) / 2:Nat)+1)) (σ':=σ) (by rw[Mh (qX (kL ..).2.2.2.2.2) BV];rfl) (by simp)))) |>.trans ?_
  rw[vL];rfl
noncomputable def v7:E:=.cmp .Lt (.var 2) (.var 3)
theorem Vw {lo hi n:Nat}{probe:E}(hp:vq probe=qe){left:Nat->Bool}(hn:n < 1000000)(hhi:hi<=n)
  (h:∀lo hi:Nat,lo < hi->hi<=n->ev O probe [a,b,qa (.int lo),qa (.int hi),e,qa (.int ((lo+hi) / 2:Nat))] σ=qa (.bool (!left ((lo+hi) / 2)),σ)) :
  ∃hi' wl,ex O (.while_ v7 (wK probe)) [a,b,qa (.int lo),qa (.int hi),e,zK] σ=qa (.next,[a,b,qa (.int (jr left (hi - lo) lo hi:Nat)),qa (.int (hi':Nat)),e,wl],σ):=by
 obtain⟨hi',wl,hw⟩:=K2 (t:=λm σ=>tst O v7 m σ (λ_=>ev O v7 m σ)) (b:=λm σ=>exs O (wK probe) m σ) (left:=left) (σ:=σ)
  (mk:=λlo hi zK=>[a,b,qa (.int lo),qa (.int hi),e,zK]) (n:=n)
  (λlo hi zK=>by
   exact vp rfl (kV (qX (kL ..).2.2.1) (qX (kL ..).2.2.2.1) (congrArg qa (decide_eq_decide.mpr wW))))
  (λlo hi zK qQ hh=>by
   rw[qeR hp (h lo hi qQ hh)]
   cases left ((lo+hi) / 2) <;> rfl)
  (hi - lo) B8 lo hi zK (qU _) (by unfold B8;lia) hhi
 refine⟨hi',wl,hw⟩
theorem V4 {lo hi n:Nat}{probe:E}(hp:vq probe=qe){left:Nat->Bool}(hn:n < 1000000)(hhi:hi<=n)
  (h:∀lo hi:Nat,lo < hi->hi<=n->ev O probe [a,b,qa (.int lo),qa (.int hi),e,qa (.int ((lo+hi) / 2:Nat))] σ=qa (.bool (left ((lo+hi) / 2)),σ)) :
  ∃hi' wl,ex O (.while_ v7 (wL probe)) [a,b,qa (.int lo),qa (.int hi),e,zK] σ=qa (.next,[a,b,qa (.int (jr left (hi - lo) lo hi:Nat)),qa (.int (hi':Nat)),e,wl],σ):=by
 obtain⟨hi',wl,hw⟩:=K2 (t:=λm σ=>tst O v7 m σ (λ_=>ev O v7 m σ)) (b:=λm σ=>exs O (wL probe) m σ) (left:=left) (σ:=σ)
  (mk:=λlo hi zK=>[a,b,qa (.int lo),qa (.int hi),e,zK]) (n:=n)
  (λlo hi zK=>by
   exact vp rfl (kV (qX (kL ..).2.2.1) (qX (kL ..).2.2.2.1) (congrArg qa (decide_eq_decide.mpr wW))))
  (λlo hi zK qQ hh=>by
   rw[eY hp (h lo hi qQ hh)]
   cases left ((lo+hi) / 2) <;> rfl)
  (hi - lo) B8 lo hi zK (qU _) (by unfold B8;lia) hhi
 refine⟨hi',wl,hw⟩
noncomputable def s9:E:=.cmp .Lt (.var 1) (.idx (.var 0) (.var 5))
noncomputable def qbd:E:=.cmp .Lt (.var 1) (.call (.var 4) [(.idx (.var 0) (.var 5))] [] [])
noncomputable def qbZ:E:=.cmp .Lt (.idx (.var 0) (.var 5)) (.var 1)
noncomputable def qdM:E:=.cmp .Lt (.call (.var 4) [(.idx (.var 0) (.var 5))] [] []) (.var 1)
noncomputable def bA:S:=.ifs (.cmp .Lt (.var 2) (.int 0)) [.bad] []
noncomputable def bB:S:=.ifs (.cmp .Is (.var 3) .none) [(.assign (.var 3) (.call (.glob (.builtin "len")) [(.var 0)] [] []))] []
theorem iP:KQ=[bA,bB,.ifs (.cmp .Is (.var 4) .none) [.while_ v7 (wK s9)] [.while_ v7 (wK qbd)],.ret (.var 2)]:=by rfl
theorem tS:Lj=[bA,bB,.ifs (.cmp .Is (.var 4) .none) [.while_ v7 (wL qbZ)] [.while_ v7 (wL qdM)],.ret (.var 2)]:=by rfl
section
variable {O:qE}{σ:qi}{i lo:Nat}{xs:List V}{b e zK:Option V}
theorem lH:ex O bA [a,b,qa (.int (lo:Int)),c,e,zK] σ=qa (.next,[a,b,qa (.int (lo:Int)),c,e,zK],σ):=by
 have h:tst O (.cmp .Lt (.var 2) (.int 0)) [a,b,qa (.int (lo:Int)),c,e,zK] σ (λ_=>ev O (.cmp .Lt (.var 2) (.int 0)) [a,b,qa (.int (lo:Int)),c,e,zK] σ)=qa (qg,σ):=by
  exact vp rfl (kV (qX (kL ..).2.2.1) BV (congrArg qa (decide_eq_false (Ci.mpr (Cj lo)))))
 unfold bA
 rw[vX h,if_neg jy,vL]
noncomputable def kN (xs:List V):Option Nat->Nat
 | none=>xs.length
 | some h=>h
noncomputable def Gg:Option Nat->V
 | none=>.none
 | some h=>.int h
theorem tF (h1:σ[i]?=qa (.list xs))(hs:xs.length < 1000000)(hi:Option Nat):ex O bB [qa (.ref i),b,qa (.int lo),qa (Gg hi),e,zK] σ=qa (.next,[qa (.ref i),b,qa (.int lo),qa (.int (kN xs hi:Nat)),e,zK],σ):=by
 have hsm:small xs.length=qe:=decide_eq_true (by lia)
 unfold bB
 cases hi with
 | none =>
  have h:tst O (.cmp .Is (.var 3) .none) [qa (.ref i),b,qa (.int lo),qa .none,e,zK] σ (λ_=>ev O (.cmp .Is (.var 3) .none) [qa (.ref i),b,qa (.int lo),qa .none,e,zK] σ)=qa (qe,σ) :=
   vp rfl (kV (qX (kL ..).2.2.2.1) CV rfl)
  show ex O (.ifs _ _ _) [qa (.ref i),b,qa (.int lo),qa .none,e,zK] σ=_
  rw[vX h,if_pos rfl]
  refine zY (vK (v:=.int (xs.length:Nat)) (σ':=σ) ?_ (by simp)) |>.trans ?_
  ·rw[DA CA (z4 (qX (kL ..).1) zF) zF]
   show Im σ "len" [.ref i]=_
   rw[Wq]
   exact(vQ h1).trans (if_pos hsm)
  ·rw[vL];rfl
 | some h' =>
  have h:tst O (.cmp .Is (.var 3) .none) [qa (.ref i),b,qa (.int lo),qa (.int h'),e,zK] σ (λ_=>ev O (.cmp .Is (.var 3) .none) [qa (.ref i),b,qa (.int lo),qa (.int h'),e,zK] σ)=qa (qg,σ) :=
   vp rfl (kV (qX (kL ..).2.2.2.1) CV rfl)
  show ex O (.ifs _ _ _) [qa (.ref i),b,qa (.int lo),qa (.int h'),e,zK] σ=_
  rw[vX h,if_neg jy,vL]
  rfl
theorem L7 (xs:List V)(k:Int):E5 (.int k) (.list xs)=CE xs k:=rfl
theorem Lb (h1:σ[i]?=qa (.list xs))(hs:xs.length < 1000000)(hj:j < xs.length):ev O (.idx (.var 0) (.var 5)) [qa (.ref i),b,c,d,e,qa (.int (j:Int))] σ=qa (xs[j],σ):=by
 refine NW (qX (kL ..).1) (qX (kL ..).2.2.2.2.2) ?_
 have hsm:small xs.length=qe:=decide_eq_true (va hs)
 have e1:CE xs (j:Int)=qa xs[j]:=Sl hj hsm
 exact(Gd h1).trans ((L7 xs j).trans e1)
structure qiA (O:qE)(σ:qi)(key:V)(xs:List V)(K:Nat->qf):Prop where
 at_:∀(j:Nat) (hj:j < xs.length),apply O key [xs[j]] [] σ=qa (.str (K j),σ)
end
noncomputable def Gk:qf:=⟨#[107,101,121]⟩
section
open PySem.SeqAt
open AutoSeq1 (wpAny_loadPart')
open MeetsSeq MeetsSeq2 MeetsSeq3
section
variable {α:Type}{lt:α->α->Bool}
theorem Qq (x:α):∀l:List α,(wM lt x l).Perm (x :: l)
 | []=>.refl _
 | y :: r=>by
  show (cond (lt x y) (x :: y :: r) (y :: wM lt x r)).Perm _
  cases lt x y with
  | true=>exact .refl _
  | false=>exact((Qq x r).cons y).trans (.swap x y r)
theorem E2:∀l:List α,(H2 lt l).Perm l
 | []=>.refl _
 | x :: r=>(Qq x _).trans ((E2 r).cons x)
noncomputable abbrev CT (lt:α->α->Bool)(l:List α):Prop:=l.Pairwise λa b=>lt b a=qg
theorem YB (as:∀a b,lt a b=qe->lt b a=qg)(tr:∀a b c,lt b a=qg->lt c b=qg->lt c a=qg)(x:α):∀{l:List α},CT lt l->CT lt (wM lt x l)
 | [],_=>MY ..
 | y :: r,h=>by
  obtain⟨h1,h2⟩:=wq.mp h
  show CT lt (cond (lt x y) (x :: y :: r) (y :: wM lt x r))
  cases q:lt x y with
  | true =>
   refine wq.mpr ⟨λa ha=>?_,h⟩
   rcases jJ.mp ha with rfl | ha
   ·exact as _ _ q
   ·exact tr _ _ _ (as _ _ q) (h1 a ha)
  | false =>
   refine wq.mpr ⟨λa ha=>?_,YB as tr x h2⟩
   rcases jJ.mp ((Qq x r).mem_iff.mp ha) with rfl | ha
   ·exact q
   ·exact h1 a ha
theorem Kw (as:∀a b,lt a b=qe->lt b a=qg)(tr:∀a b c,lt b a=qg->lt c b=qg->lt c a=qg):∀l:List α,CT lt (H2 lt l)
 | []=>.nil
 | x :: r=>YB as tr x (Kw as tr r)
theorem Pl (tri:∀a b,lt a b=qg->lt b a=qg->a=b):∀{a b:List α},a.Perm b->CT lt a->CT lt b->a=b
 | [],b,p,_,_=>p.nil_eq
 | x :: a,[],p,_,_=>(nomatch p.eq_nil)
 | x :: a,y :: b,p,h,k=>by
  obtain⟨h1,h2⟩:=wq.mp h
  obtain⟨k1,k2⟩:=wq.mp k
  have e:x=y:=by
   rcases jJ.mp (p.mem_iff.mp zB) with e | hx
   ·exact e
   ·rcases jJ.mp (p.mem_iff.mpr zB) with e | hy
    ·exact e.symm
    ·exact tri x y (k1 x hx) (h1 y hy)
  subst e
  rw[Pl tri (qje p) h2 k2]
end
theorem WW (a b:qf)(h:wj a b=qe):wj b a=qg:=by
 rw[GJ] at h ⊢;exact decide_eq_false (List.lt_asymm (of_decide_eq_true h))
theorem Nv (a b c:qf)(h:wj b a=qg)(k:wj c b=qg):wj c a=qg:=by
 rw[GJ] at h k ⊢;exact decide_eq_false (List.le_trans (of_decide_eq_false h) (of_decide_eq_false k))
theorem rK (a b:qf)(h:wj a b=qg)(k:wj b a=qg):a=b:=by
 rw[GJ] at h k
 obtain⟨⟨a⟩⟩:=a;obtain⟨⟨b⟩⟩:=b
 have:a=b:=List.le_antisymm (of_decide_eq_false k) (of_decide_eq_false h)
 rw[this]
theorem lW (a b:Int)(h:DC a b=qe):DC b a=qg:=decide_eq_false (Ci.mpr (Int.le_of_lt (of_decide_eq_true h)))
theorem hZ (a b c:Int)(h:DC b a=qg)(k:DC c b=qg):DC c a=qg :=
 decide_eq_false (Ci.mpr (aQ (Ci.mp (of_decide_eq_false h)) (Ci.mp (of_decide_eq_false k))))
theorem qbL (a b:Int)(h:DC a b=qg)(k:DC b a=qg):a=b:=Int.le_antisymm (Ci.mp (of_decide_eq_false k)) (Ci.mp (of_decide_eq_false h))
theorem NT (p:a.Perm b)(h:CT wj a):a=Bu b:=Pl rK (p.trans (E2 b).symm) h (Kw WW Nv b)
theorem R9 (p:a.Perm b)(h:CT DC a):a=Gb b:=Pl qbL (p.trans (E2 b).symm) h (Kw lW hZ b)
theorem XV:∀{p:qf}{l:List qf},qjf p l=qe->CT wj (p :: l)
 | p,[],_=>MY ..
 | p,x :: r,h=>by
  have h:Spec.ltCps x.cps.toList p.cps.toList=qg/\risingS x r=qe:=by simpa [risingS] using h
  obtain⟨h1,h2⟩:=h
  have h1:wj x p=qg:=by rw[GJ,<-ltCps_eq];exact h1
  have ih:=XV h2
  obtain⟨i1,i2⟩:=wq.mp ih
  refine wq.mpr ⟨λa ha=>?_,ih⟩
  rcases jJ.mp ha with rfl | ha
  ·exact h1
  ·exact Nv _ _ _ h1 (i1 a ha)
theorem SQ:∀{l:List qf},sortedS l=qe->CT wj l
 | [],_=>.nil
 | _ :: _,h=>XV h
section
variable {qc:zm}{w:qK}{qd:Heap}{G:qf->Option qh}{tabs:List (qj×qj)}{d:Nat}{A:zh}{Ex:qh->qk->Prop}{s:qk}
 {ρ:List qj} {σ σ':qi} {v:V} {Q:qh->qk->Prop}
theorem gE {items:List qh}(r:qL ρ vs items):∀{ss:List Int},Hb vs=qa ss->IntsAre items ss:=by
 induction r with
 | nil=>intro ss h;cases h;exact .nil
 | @cons v v' vs qW a b ih =>
  intro ss h
  obtain⟨x,t,rfl,h⟩:=vC (f:=λs=>bn1 (Hb vs) λl=>qa (s :: l)) a h
  exact b1 h λl hl h=>by cases h;exact .cons _ _ (ih hl)
theorem WC (h:C3 vs ss):qL ρ (ss.map V.str) vs:=by
 induction h with
 | nil=>exact .nil
 | cons y t _ ih=>exact .cons (.str _ _) ih
theorem qak (h:IntsAre vs ss):qL ρ (ss.map V.int) vs:=by
 induction h with
 | nil=>exact .nil
 | cons y t _ ih=>exact .cons (.int _ _) ih
theorem WU:∀{kvs:List (qf×qh)}{vs:List qh},vs.length=kvs.length->(∀(j:Nat)(v:qh),vs[j]?=qa v->∃(k:qf)(x:qh),kvs[j]?=qa (k,x)/\∃t:An,v=JH k t)->C3 vs (kvs.map (·.1))
 | [],[],_,_=>.nil
 | (k,x) :: r,v :: vs,hl,hv=>by
  obtain⟨k',x',e,t,ev⟩:=hv 0 v rfl
  cases e
  subst ev
  exact .cons _ _ (WU (qhR.mp hl) λj u hu=>hv (j+1) u hu)
 | [],_ :: _,hl,_=>nomatch hl
 | _ :: _,[],hl,_=>nomatch hl
theorem OG (h:Heap):h.get? (h.objs.size+1)=qb:=by
 cases q:h.get? (h.objs.size+1) with
 | none=>rfl
 | some o=>exact absurd (Heap.lt_size q) (k8.mpr (DU _))
theorem qdA (B:qS qc qd G tabs)(I:qt qc w qd G tabs s.heap ρ σ){i:Nat}(ha:ρ[i]?=qa a)(h1:σ[i]?=qa (.list vs))(hl:vs.length<=63)(e:Hk vs=qa ws)
  (R:zd qc w qd G tabs Q ρ s (.ref σ.length) (σ++[.list ws])):qq (qp qc w) A (call (.builtin "sorted") [.ref a] []) Q Ex s:=by
 obtain⟨items,n,hit,rit,-⟩:=I.list h1 ha
 have jh:items.toList.length < 64:=by rw[rit.length];lia
 have hL:s.heap.IsList a items.toList.toArray:=⟨_,hit,rfl,n,rfl⟩
 have fin:∀{out:Array qh},(∀qr,qL qr ws out.toList)->Q (.ref (s.heap.objs.size+1)) { s with heap:=sortedAll s.heap items.toList out }:=λ{out} hr=>by
  obtain⟨e',he⟩:=sortedAll_at s.heap items.toList out
  exact R.new B I (λb o hb=>sortedAll_old hb) (OG _) (HN (B.size _ I.old)) ⟨_,e',he,hr _⟩ s.toks
 cases hs:Fs vs with
 | some ss =>
  have e:qa ((Bu ss).map V.str)=qa ws:=by rw[<-e];unfold Hk;rw[hs]
  cases e
  refine sorted_strs hL (Vc rit hs) jh λout ss' h1 h2 h3=>fin λqr=>?_
  rw[<-NT h2 (SQ h3)]
  exact WC h1
 | none =>
  have e:(bn1 (Hb vs) λns=>qa ((Gb ns).map V.int))=qa ws:=by rw[<-e];unfold Hk;rw[hs]
  refine b1 e λns hn e=>?_
  cases e
  refine sorted_ints hL (gE rit hn) jh λout ss' h1 h2 h3=>fin λqr=>?_
  rw[<-R9 h2 (h3.imp λh=>decide_eq_false (Ci.mpr h))]
  exact qak h1
theorem qaG (B:qS qc qd G tabs)(hh:A.handled=qb)(I:qt qc w qd G tabs s.heap ρ σ){i dI:Nat}(ha:ρ[i]?=qa a)(h1:σ[i]?=qa (.view 0 dI))(h2:σ[dI]?=qa (.sdict es))(hl:es.length<=63)
  (R:zd qc w qd G tabs Q ρ s (.ref σ.length) (σ++[.list ((Bu (es.map (·.1))).map V.str)])):qq (qp qc w) A (call (.builtin "sorted") [.ref a] []) Q Ex s:=by
 obtain⟨da,o,hd,ho,hdat,hdi,A7⟩:=I.at h1 ha
 obtain⟨kvs,hD,hr⟩:=I.at h2 hd
 obtain⟨ep,hat⟩:=hD.dictAt
 have hkl:kvs.length=es.length:=hr.vals.2.1
 have hnm:=hr.vals.2.2
 refine Calls.call_function_entry qhS qhT qhU (args_sorted1 _) ?_
 refine qm (m:=qhV "sorted" 1 1 _) (qB ?_)
 refine qm (kdu_collect (A:=A.in1) (kdl_keys (knd:=strKind qc w) (kvs:=kvs) (ep:=ep)) hh ⟨⟨o,ho,A7,hdat⟩,hat⟩ (by rw[hkl,Cf];lia) λh' tk ql hk hacc=>?_)
 have hal:ql.toList.length=es.length:=by rw[MK,hacc.1,hkl]
 have hS:C3 ql.toList (es.map (·.1)):=by
  rw[<-hnm]
  have hv:∀(j:Nat) (v:qh),ql.toList[j]?=qa v->∃(k:qf) (x:qh),kvs[j]?=qa (k,x)/\∃t:An,v=JH k t:=λj v e=>by
   obtain⟨k,x,hx,hk⟩:=hacc.2 j v (by rw[<-aN];exact e)
   refine⟨k,x,hx,Value.isStrOf_shape hk⟩
  exact WU (hal.trans hkl.symm) hv
 refine qm (cG ?_ (by rw[hal,Cf];lia))
 have hoL:(h'.push (jA "list" ql.toList.toArray 0)).get? h'.objs.size=qa (jA "list" ql.toList.toArray 0):=Heap.get?_push_size _ rfl
 refine qm (zV (qhP qhW ⟨_,hoL,rfl⟩ qhX (list_sort_treeK (s:={ s with heap:=h'.push (jA "list" ql.toList.toArray 0),toks:=tk }) strKind_oneLt hoL hS.keysOf (λvf v₂ rest e=>qhY (by rw[<-e];exact hS)) (by rw[hal];lia) λst' hp hs=>⟨_,rfl,?_⟩) (args_list_sort _)))
 refine qB ⟨_,rfl,?_⟩
 obtain⟨ss',q1,q2,q3⟩:=sorted_out_str hS hp hs
 obtain⟨e',he⟩:=sortedHeap_at (out:=(arrOf st').map (·.2)) hoL
 have zu:=B.size _ (I.keeps B.tlt hk).old
 refine R.new B I (λb o hb=>?_) ?_ zu ⟨_,e',he,?_⟩ tk
 ·have h3:=hk b o hb
  rw[sortedHeap_old (kR (Heap.lt_size h3)) (by rw[Heap.size_push];exact qhZ (Heap.lt_size h3))]
  exact Heap.get?_push_of_some _ h3
 ·cases q:s.heap.get? h'.objs.size with
  | none=>rfl
  | some o=>exact absurd (Heap.lt_size (hk _ _ q)) (j7 _)
 ·rw[<-NT q2 (SQ q3)]
  exact WC q1
end
theorem ZP {α:Type}{EE:Nat->Nat->Option Bool}{cmp:Nat->Nat->(Bool->qk->Prop)->qk->Prop}{Q:α->qk->Prop}{s:qk}(hc:∀i j b,EE i j=qa b->∀C:Bool->qk->Prop,C b s->cmp i j C s) :
  ∀{t:KasT α} {a:α},CC EE t=qa a->Q a s->t.kasWp cmp Q s
 | .ret _,_,h,q=>zc h▸q
 | .ask i j k,_,h,q=>b1 (x:=EE i j) (f:=λb=>CC EE (k b)) h λb hb h=>hc i j b hb _ (ZP hc h q)
theorem Wy (r:qL ρ vs qW):∀{l:List Nat}{ws:List V},Ef vs l=qa ws->qL ρ ws (l.map λi=>qW.getD i .none)
 | [],_=>@λh=>zc h▸.nil
 | i :: l,_=>@λh=>b1 h λv h1 h=>b1 h λqs h2 h=>by
  cases h
  obtain⟨v',e,rv⟩:=r.get ((za ..).symm.trans h1)
  exact .cons (show qz ρ v (qW.getD i .none) by rw[BN,e];exact rv) (Wy r h2)
theorem qdY (h:CO ks=qa p):(ks.length < 2->p=v5 (zx ks.length))/\(¬ks.length < 2->CC (Kx ks) (MB ks.length)=qa p):=by
 unfold CO at h
 refine⟨λq=>(zc ((if_pos (decide_eq_true q)).symm.trans h)).symm,λq=>(if_neg (by rw[decide_eq_false q];decide)).symm.trans h⟩
theorem OL (h:C3 vs ss):vs.length=ss.length:=by
 induction h with
 | nil=>rfl
 | cons _ _ _ ih=>exact congrArg (· + 1) ih
theorem Th (h:C3 vs ss):∀{i:Nat}{x:qf},ss[i]?=qa x->∃t,vs.getD i .none=.str x t:=by
 induction h with
 | nil=>exact λh=>nn h
 | cons y t _ ih=>exact λ{i x} h=>match i,h with
  | 0,h=>⟨t,by cases h;rfl⟩
  | i+1,h=>ih h
theorem qbR (h:C3 vs ss)(x:qf)(t:An):C3 (vs++[.str x t]) (ss++[x]):=by
 induction h with
 | nil=>exact .cons _ _ .nil
 | cons y t _ ih=>exact .cons _ _ ih
section
variable {qc:zm}{w:qK}{qd:Heap}{G:qf->Option qh}{tabs:List (qj×qj)}{d:Nat}{A:zh}{E:qh->qk->Prop}{s:qk}{O:qE}
 {ρ:List qj} {σ σ':qi} {v:V} {W:qj->Prop} {h h':Heap}
theorem qY.drop (x:qY qd W ρ h qr h')(hw:∀b,W b->h.get? b=qb):qY qd vr ρ h qr h' :=
 ⟨x.pre,λb o h0 hb _ e=>x.keep b o h0 hb (λq=>nn ((hw b q).symm.trans e)) e,x.there⟩
structure Own (qd:Heap)(h:Heap)(ρ:List qj)(a:qj)(xs:Array qh)(e:Nat):Prop where
 at_:h.get? a=qa (jA "list" xs e)
 out:a∉ρ
 up:qd.objs.size<=a
theorem qf2:¬CY (jA "list" xs e):=λ⟨q,_⟩=>absurd (BM q) (by decide)
theorem Own.step (x:Own qd h ρ a xs e)(S:qY qd vr ρ h qr h'):Own qd h' qr a xs e :=
 ⟨(S.keep a _ x.up x.out (λq=>q) x.at_).1 (CK rfl (by decide)),S.notin x.out x.at_,x.up⟩
theorem Own.same (x:Own qd h ρ a xs e)(zy:a≠b)(hs:Heap.SameBut b h h'):Own qd h' ρ a xs e:=⟨(hs.2 a zy).trans x.at_,x.out,x.up⟩
theorem qt.turn (B:qS qc qd G tabs)(I:qt qc w qd G tabs h ρ σ)(x:Own qd h ρ a xs e)(hs:Heap.SameBut a h h')(hy:h'.get? a=qa (jA "list" ys e')):qt qc w qd G tabs h' ρ σ :=
 I.own B.tlt x.out x.up x.at_ qf2 hs λq=>absurd q (I.top.nec x.at_ (CK rfl (by decide)))
structure qer (qc:zm)(w:qK)(qd:Heap)(G:qf->Option qh)(tabs:List (qj×qj))(O:qE)(j:Nat)(f a kS:qj)(s₀:qk)(ρ₀:List qj)(e1:Nat)(σ₁:qi)(all:List qf)(r:List qh)(s:qk)(xs:List V)(ρ:List qj)(σ:qi)(kd kr:List qf)(kv:List qh)(e:Nat):Prop where
 same:s={ s₀ with heap:=s.heap,toks:=s.toks }
 rel:qL ρ xs r
 keys:Bz O j xs σ=qa (kr,σ₁)
 inv:qt qc w qd G tabs s.heap ρ σ
 lam:ρ[j]?=qa f
 stp:qY qd (λb=>b=a\/b=kS) ρ₀ s₀.heap ρ s.heap
 ne:a≠kS
 own:Own qd s.heap ρ a #[] e1
 store:Own qd s.heap ρ kS (v5 kv) e
 done:C3 kv kd
 sum:kd++kr=all
noncomputable def KS (qc:zm)(w:qK)(qd:Heap)(G:qf->Option qh)(tabs:List (qj×qj))(O:qE)(j:Nat)(f a kS:qj)(s₀:qk)(ρ₀:List qj)(e1:Nat)(σ₁:qi)(all:List qf)(r:List qh)(s:qk):Prop :=
 ∃xs ρ σ kd kr kv e,qer qc w qd G tabs O j f a kS s₀ ρ₀ e1 σ₁ all r s xs ρ σ kd kr kv e
theorem WI {body:qh->PUnit->zr (ForInStep PUnit)}{P:List qh->qk->Prop}(hb:∀x r s,P (x :: r) s->qq (qp qc w) A (body x ⟨⟩) (λq s'=>q=.yield ⟨⟩/\P r s') E s) :
  ∀r s,P r s->qq (qp qc w) A (forIn r Z4 body) (λ_ s'=>P [] s') E s
 | [],s,h=>by rw[List.forIn_nil];exact qB h
 | x :: r,s,h=>by
  rw[C1]
  refine qm (EK (hb x r s h) (λq s' hq=>?_) λ_ _ x=>x)
  obtain⟨rfl,h2⟩:=hq
  exact WI hb r s' h2
theorem lU (B:qS qc qd G tabs)(oo:wz qc w qd G tabs d O)(rm:FK d A){e1:Nat}{σ₁:qi}{all:List qf}{vs:List qh}{P:PySem.Fin->qk->Prop}(h64:vs.length < 64)(jh:all.length=vs.length)
  (h:KS qc w qd G tabs O j f a kS s₀ ρ₀ e1 σ₁ all vs s)
  (fin:∀s' kv,C3 kv all->KS qc w qd G tabs O j f a kS s₀ ρ₀ e1 σ₁ all [] s'->(∃e,s'.heap.get? kS=qa (jA "list" (v5 kv) e))->qq (qp qc w) A (cH a qg vs.toArray e1 (.ref kS) (v5 kv)) P E s') :
  qq (qp qc w) A (cJ a (.ref f) qg vs.toArray e1 (.ref kS)) P E s:=by
 unfold cJ
 refine qm (JK ?_)
 first
  | rw[List.forIn_toArray]
  | (rw[<-qh0];simp only[List.toList_toArray])
  | rw[<-qh0]
 refine qm (EK (WI (P:=KS qc w qd G tabs O j f a kS s₀ ρ₀ e1 σ₁ all) (λx r s h=>?_) vs s h) (λ_ s' hd=>?_) λ_ _ x=>x)
 ·obtain⟨xs,ρ,σ,kd,kr,kv,e,k⟩:=h
  have krel:=k.rel
  have kkeys:=k.keys
  cases krel with
  | @cons y _ ys _ ry rys =>
  refine Qk (f:=λb=>bnd (O.lam b y σ) λv σ=>vS v λs=>bnd (Bz O j ys σ) λks σ=>qa (s :: ks,σ)) kkeys λb h1 e2=>b2 e2 λu σ₂ h2 e3=>?_
  clear kkeys e2
  obtain⟨z,rfl,e4⟩:=NU e3
  clear e3
  refine b2 e4 λks kO h3 e5=>?_
  clear e4
  cases e5
  refine qm (wpAny_attempt ?_)
  refine oo.lam h2 rm k.inv (k.inv.at h1 k.lam) ry λv' zj h1 qV S1 I1 r1=>?_
  obtain⟨t,rfl⟩:=r1.str_inv
  have o1:=k.own.step S1
  have o2:=k.store.step S1
  have s1:=Heap.SameBut.update h1 kS (vz (·.push (.str z t)))
  have ea:(v5 kv).push (.str z t)=v5 (kv++[.str z t]):=by simp
  obtain⟨c2,hc2⟩:∃c2,(h1.update kS (vz (·.push (.str z t)))).get? kS=qa (jA "list" (v5 (kv++[.str z t])) c2):=⟨_,by rw[<-ea];exact RD o2.at_ (·.push (.str z t))⟩
  have hz:kv.length<=64:=by
   have:=OL k.done
   have h2:=congrArg List.length k.sum
   rw[zw] at h2
   lia
  try dsimp only
  refine qm (RE o2.at_ rfl ?_ (by rw[JV,Cf];lia) (qu (BK (Array.size_push ..)) (by rw[JV,Cf];lia)))
  refine qB ⟨rfl,ys,zj,σ₂,kd++[z],ks,kv++[.str z t],c2,?_⟩
  refine⟨?_,rys.mono S1.ext,h3,I1.turn B o2 s1 hc2,?_,?_,k.ne,o1.same k.ne s1,⟨hc2,o2.out,o2.up⟩,qbR k.done z t,?_⟩
  ·rw[k.same]
  ·obtain⟨l,hl⟩:=S1.ext
   subst hl
   exact DX ⟨l,rfl⟩ k.lam
  ·exact(k.stp.trans (S1.weaken λ_ q=>q.elim)).trans (.own s1 (.inr rfl) ⟨_,hc2⟩)
  ·rw[jq];exact k.sum
 ·obtain⟨xs,ρ,σ,kd,kr,kv,e,k⟩:=id hd
  have krel:=k.rel
  have kkeys:=k.keys
  cases krel
  cases kkeys
  try dsimp only
  refine qm (qh1 k.store.at_ rfl ?_)
  have:=k.sum
  rw[jF] at this
  subst this
  exact fin s' kv k.done hd ⟨e,k.store.at_⟩
theorem qag (B:qS qc qd G tabs){a kS:qj}{e1 n:Nat}{vs kv:List qh}{ks:List qf}{BD:Array Nat}{P:PySem.Fin->qk->Prop}(hl:kv.length=vs.length)(h64:vs.length < 64)(hs:C3 kv ks)(hp:CO ks=qa BD)(hz:BD.size=vs.length)
  (hk:s.heap.get? kS=qa (jA "list" (v5 kv) n)) (ha:s.heap.get? a=qa (jA "list" #[] e1)) (zy:a≠kS)
  (fin:∀h1 h2 c1 c2,Heap.SameBut kS s.heap h1->h1.get? kS=qa (jA "list" #[] c1)->Heap.SameBut a h1 h2->h2.get? a=qa (jA "list" (v5 (BD.toList.map λi=>vs.getD i .none)) c2)->P (.done (.ret .none)) { s with heap:=h2 }) :
  qq (qp qc w) A (cH a qg vs.toArray e1 (.ref kS) (v5 kv)) P E s:=by
 obtain⟨q1,q2⟩:=qdY hp
 have hkl:ks.length=vs.length:=(OL hs).symm.trans hl
 rw[hkl] at q1 q2
 have tail:∀st:SortSt,failedOf st=qb->(arrOf st).map (·.2)=v5 (BD.toList.map λi=>vs.getD i .none)->qq (qp qc w) A (ksk_tail a qg e1 (.ref kS) st) P E s:=λst hf hx=>by
  have s1:=Heap.SameBut.update s.heap kS (vz λ_=>(#[]:Array qh))
  obtain⟨c1,hc1⟩:∃c1,(s.heap.update kS (vz λ_=>(#[]:Array qh))).get? kS=qa (jA "list" #[] c1):=⟨_,RD hk λ_=>#[]⟩
  have ha1:=(s1.2 a zy).trans ha
  have s2:=Heap.SameBut.update (s.heap.update kS (vz λ_=>(#[]:Array qh))) a (vz λ_=>v5 (BD.toList.map λi=>vs.getD i .none))
  obtain⟨c2,hc2⟩:∃c2,((s.heap.update kS (vz λ_=>(#[]:Array qh))).update a (vz λ_=>v5 (BD.toList.map λi=>vs.getD i .none))).get? a=qa (jA "list" (v5 (BD.toList.map λi=>vs.getD i .none)) c2):=⟨_,RD ha1 λ_=>_⟩
  unfold ksk_tail
  try dsimp only
  rw[hx]
  refine qm (RE hk rfl ?_ (by rw[JV,Cf];lia) (zN _))
  refine qm (wpAny_letGo ?_)
  refine qm (qh2 ha1 rfl ?_)
  refine qm (RE ha1 rfl ?_ (zN _) (by rw[if_neg jy,JV,qH,MK,hz,Cf];lia))
  rw[hf]
  simp only[bne_self_eq_false,FN,if_false]
  exact qB (fin _ _ c1 c2 s1 hc1 s2 hc2)
 unfold cH
 try dsimp only
 rw[if_neg jy]
 by_cases h2:vs.toArray.size < 2
 ·rw[if_pos h2,if_pos h2,if_neg jy]
  refine qm (qB (qm (m:=(pure ():StateT SortSt zr Unit).run _) (qB (tail _ rfl ?_))))
  have h2:vs.length < 2:=by simpa using h2
  refine kat_snds hl (st:=SortSt.mk' general' (kv.toArray.zip vs.toArray) #[] 7 qb) ?_
  rw[q1 h2]
  have e:=kas_range (kv.toArray.zip vs.toArray)
  rw[show (kv.toArray.zip vs.toArray).size=vs.length by simp[hl]] at e
  exact e.symm
 ·rw[if_neg h2,if_neg h2,if_neg jy]
  have h2:¬vs.length < 2:=by simpa using h2
  obtain⟨vf,v₂,rest,rfl⟩:∃vf v₂ rest,kv=vf :: v₂ :: rest:=by
   match kv,hl with
   | [],hl=>exact absurd (AK (BK hl.symm) Nat.zero_lt_two) h2
   | [_],hl=>exact absurd (AK (BK hl.symm) Nat.one_lt_two) h2
   | vf :: v₂ :: rest,_=>refine⟨vf,v₂,rest,rfl⟩
  rw[qhY hs]
  refine qm (qB (qm (EK (kat_run (ks:=vf :: v₂ :: rest) (vs:=vs) (Q:=λst' s'=>failedOf st'=qb/\(arrOf st').map (·.2)=v5 (BD.toList.map λi=>vs.getD i .none)/\s'=s) hl (Cm h2) h64
   (G:=λp s'=>p=BD/\s'=s) (λp st' s' hp ha hf hg=>⟨hf,hg.1▸kat_snds hl ha,hg.2⟩) ?_) (λr s' hq=>?_) λ_ _ e=>e)))
  ·refine ZP (λi j b hb C hC=>?_) (q2 h2) ⟨rfl,rfl⟩
   refine b1 hb λx hx hb=>b1 hb λy hy hb=>?_
   cases hb
   rw[za] at hx hy
   obtain⟨t,e1⟩:=Th hs hx
   obtain⟨u,e2⟩:=Th hs hy
   unfold kas_ask
   rw[e1,e2]
   exact oneLt_str (GJ ..▸hC)
  ·obtain⟨⟨⟩,st'⟩:=r
   obtain⟨hf,hx,rfl⟩:=hq
   exact tail st' hf hx
theorem t5 (B:qS qc qd G tabs)(oo:wz qc w qd G tabs d O)(rm:FK d A)(h64:vs.length < 64)
  (x:Own qd s.heap ρ a vs.toArray n) (I:qt qc w qd G tabs s.heap ρ σ) (rel:qL ρ xs vs) (hkeys:Bz O j xs σ=qa (ks,σ₁)) (hj:ρ[j]?=qa f) (hp:CO ks=qa BD) (hz:BD.size=vs.length) (jh:ks.length=vs.length)
  (fin:∀h' tk kS qr c,s.heap.get? kS=qb->qY qd (λb=>b=a\/b=kS) ρ s.heap qr h'->qt qc w qd G tabs h' qr σ₁->Own qd h' qr a (v5 (BD.toList.map λi=>vs.getD i .none)) c->P (.done (.ret .none)) { s with heap:=h',toks:=tk }) :
  qq (qp qc w) A (ksk_tree a (.ref f) qg) P E s:=by
 have ho:=x.at_
 have s1:=Heap.SameBut.update s.heap a (vz λ_=>(#[]:Array qh))
 obtain⟨e1,ho1⟩:∃e1,(s.heap.update a (vz λ_=>(#[]:Array qh))).get? a=qa (jA "list" #[] e1):=⟨_,RD ho λ_=>#[]⟩
 unfold ksk_tree
 refine qm (qh1 ho rfl ?_)
 refine qm (RE ho rfl ?_ (by rw[JV,Cf];lia) (zN _))
 refine qm (qh2 ho1 rfl ?_)
 refine qm (wpAny_newTuple ?_ (by show vs.length<=_;rw[Cf];lia))
 refine qm (cG ?_ (zN _))
 refine zV ?_
 have k3:∀b o,(s.heap.update a (vz λ_=>(#[]:Array qh))).get? b=qa o->(((s.heap.update a (vz λ_=>(#[]:Array qh))).push (jA "tuple" vs.toArray 0)).push (jA "list" #[] 0)).get? b=qa o :=
  λb o e=>Heap.get?_push_of_some _ (Heap.get?_push_of_some _ e)
 have zu:((s.heap.update a (vz λ_=>(#[]:Array qh))).push (jA "tuple" vs.toArray 0)).objs.size=s.heap.objs.size+1:=by rw[qh3,Heap.size_update]
 have hk:(((s.heap.update a (vz λ_=>(#[]:Array qh))).push (jA "tuple" vs.toArray 0)).push (jA "list" #[] 0)).get? (s.heap.objs.size+1)=qa (jA "list" #[] 0):=by rw[<-zu];exact Heap.get?_push_size _ rfl
 have zy:a≠s.heap.objs.size+1:=kR (qhZ (Heap.lt_size ho))
 have hnk:s.heap.get? (s.heap.objs.size+1)=qb:=OG _
 have hI3:=(I.turn B x s1 ho1).keeps B.tlt k3
 show qq (qp qc w) A (cJ a (.ref f) qg vs.toArray e1 (.ref ((s.heap.update a (vz λ_=>(#[]:Array qh))).push (jA "tuple" vs.toArray 0)).objs.size)) P E { s with heap:=((s.heap.update a (vz λ_=>(#[]:Array qh))).push (jA "tuple" vs.toArray 0)).push (jA "list" #[] 0) }
 rw[zu]
 refine lU (j:=j) (s:={ s with heap:=((s.heap.update a (vz λ_=>(#[]:Array qh))).push (jA "tuple" vs.toArray 0)).push (jA "list" #[] 0) }) (s₀:=s) (ρ₀:=ρ) (σ₁:=σ₁) (all:=ks) B oo rm h64 jh ⟨xs,ρ,σ,[],ks,[],0,?_⟩ λs' kv hkv hks hks'=>?_
 ·refine⟨rfl,rel,hkeys,hI3,hj,?_,zy,⟨k3 _ _ ho1,x.out,x.up⟩,⟨hk,λhm=>?_,HN (B.size _ I.old)⟩,.nil,rfl⟩
  ·exact(qY.own s1 (.inl rfl) ⟨_,ho1⟩).trans (.keeps k3)
  ·obtain⟨o,ho⟩:=I.here hm
   exact nn (hnk.symm.trans ho)
 ·obtain⟨ys,qr,σ',kd,kr,kv',e,k⟩:=hks
  have krel:=k.rel
  have kkeys:=k.keys
  cases krel
  cases kkeys
  obtain⟨e2,hke⟩:=hks'
  refine qag B ((OL hkv).trans jh) h64 hkv hp hz hke k.own.at_ zy λh1 h2 c1 c2 q1 q2 q3 q4=>?_
  have o1:Own qd h1 qr a #[] e1:=k.own.same zy q1
  have I2:=(k.inv.turn B k.store q1 q2).turn B o1 q3 q4
  have S2:=(k.stp.trans (.own q1 (.inr rfl) ⟨_,q2⟩)).trans (.own q3 (.inl rfl) ⟨_,q4⟩)
  have:=fin h2 s'.toks _ qr c2 hnk S2 I2 ⟨q4,k.own.out,k.own.up⟩
  rw[k.same]
  exact this
theorem Y7:∀{xs:List V}{ks:List qf}{σ σ':qi}{j:Nat},Bz O j xs σ=qa (ks,σ')->ks.length=xs.length
 | [],ks,σ,σ',j,h=>by cases h;rfl
 | x :: xs,ks,σ,σ',j,h=>by
  refine Qk (f:=λb=>bnd (O.lam b x σ) λv σ=>vS v λs=>bnd (Bz O j xs σ) λks σ=>qa (s :: ks,σ)) h λb h1 e2=>b2 e2 λu σ₂ h2 e3=>?_
  obtain⟨z,rfl,e4⟩:=NU e3
  exact b2 e4 λks kO h3 e5=>by cases e5;exact congrArg (· + 1) (Y7 h3)
theorem oU (B:qS qc qd G tabs)(oo:wz qc w qd G tabs d O){Ex:qh->qk->Prop}{i j:Nat}{a f:qj}{b:Mine.Internal.E}(rm:zf d A)(I:qt qc w qd G tabs s.heap ρ σ)(ha:ρ[i]?=qa a)
  (h1:σ[i]?=qa (.list vs)) (hl:vs.length<=63) (hj:ρ[j]?=qa f) (hb:σ[j]?=qa (.lam b)) (hkeys:Bz O j vs σ=qa (ks,σ')) (hp:CO ks=qa p) (hz:p.size=vs.length) (hw:Ef vs p.toList=qa ws)
  (R:zd qc w qd G tabs Q ρ s (.ref σ'.length) (σ'++[.list ws])):qq (qp qc w) A (call (.builtin "sorted") [.ref a] [(ky,.ref f)]) Q Ex s:=by
 obtain⟨items,n,hit,rit,-⟩:=I.list h1 ha
 have jh:items.toList.length=vs.length:=rit.length
 have hL:s.heap.IsList a items.toList.toArray:=⟨_,hit,rfl,n,rfl⟩
 refine call_function_entry_kw qhS qhT qhU (ksk_s1 _ _) ?_
 refine qm (m:=qhV "sorted" 1 1 _) (qB ?_)
 refine qm (collect_list hL ?_ (by rw[Cf];lia))
 refine qm (cG ?_ (by rw[Cf];lia))
 have zu:((s.heap.push (jA "list" #[] 0)).update s.heap.objs.size (vz (·++items.toList.toArray))).objs.size=s.heap.objs.size+1:=by rw[Heap.size_update,qh3]
 have keep:∀b o,s.heap.get? b=qa o->(((s.heap.push (jA "list" #[] 0)).update s.heap.objs.size (vz (·++items.toList.toArray))).push (jA "list" items.toList.toArray 0)).get? b=qa o:=λb o he =>
  Heap.get?_push_of_some _ ((Heap.get?_update_ne _ _ _ _ (kR (Heap.lt_size he))).trans (Heap.get?_push_of_some _ he))
 have hoL:(((s.heap.push (jA "list" #[] 0)).update s.heap.objs.size (vz (·++items.toList.toArray))).push (jA "list" items.toList.toArray 0)).get? (s.heap.objs.size+1)=qa (jA "list" items.toList.toArray 0):=by
  rw[<-zu];exact Heap.get?_push_size _ rfl
 show qq _ _ _ _ _ { s with heap:=((s.heap.push (jA "list" #[] 0)).update s.heap.objs.size (vz (·++items.toList.toArray))).push (jA "list" items.toList.toArray 0) }
 rw[zu]
 have hna:s.heap.get? (s.heap.objs.size+1)=qb:=OG _
 refine qm (zV (wpAny_call_entry_kw qhW ⟨_,hoL,rfl⟩ qhX ?_ (ksk_l1 _ _)))
 show qq (qp qc w) A.in1.in1 (cC.«list.sort» ⟨[.ref (s.heap.objs.size+1)],[(wR "key", .ref f)]⟩) _ _ _
 rw[ksk_t1]
 refine t5 (s:={ s with heap:=((s.heap.push (jA "list" #[] 0)).update s.heap.objs.size (vz (·++items.toList.toArray))).push (jA "list" items.toList.toArray 0) }) (σ:=σ) (ρ:=ρ) B oo rm.in2 (by lia)
  ⟨hoL,λhm=>?_,HN (B.size _ I.old)⟩ (I.keeps B.tlt keep) rit hkeys hj hp (hz.trans jh.symm) ((Y7 hkeys).trans jh.symm) λh' tk kS qr c g1 S1 I1 x1=>?_
 ·obtain⟨o,ho⟩:=I.here hm
  exact nn (hna.symm.trans ho)
 ·have hnk:s.heap.get? kS=qb:=by
   cases q:s.heap.get? kS with
   | none=>rfl
   | some o=>exact sn (keep _ _ q) g1
  refine⟨_,rfl,qB ⟨_,rfl,?_⟩⟩
  have S0:qY qd vr ρ s.heap qr h':=((qY.keeps keep).trans S1).drop λb q=>q.elim (λq=>q▸hna) λq=>q▸hnk
  refine R _ (qr++[s.heap.objs.size+1]) h' tk ⟨?_,S0.keep,S0.there⟩ (I1.alloc B.tlt (λ_ _ e=>e) x1.out x1.up (I1.top.nec x1.at_ (CK rfl (by decide))) ⟨_,c,x1.at_,?_⟩) (.ref (by rw[<-I1.len];simp))
  ·obtain⟨l,hl,hf⟩:=S0.pre
   refine⟨l++[s.heap.objs.size+1],by rw[hl,jq],λb hb=>?_⟩
   exact(zT.mp hb).elim (hf b) λq=>zE.mp q▸hna
  ·obtain⟨l,hl,_⟩:=S0.pre
   subst hl
   exact(Wy rit hw).mono ⟨l++[_],jq ..⟩
theorem TE (B:qS qc qd G tabs):D0 qc w qd G tabs d where
 plain:=λ{A s ρ σ i a o ws Q Ex} r I ha h1 e R=>by
  cases o with
  | list vs=>exact bi e λhl e=>qdA B I ha h1 (of_decide_eq_true hl) e R
  | view k dI =>
   refine bi e λhk e1=>HT e1 λes h2 e2=>bi e2 λhl e3=>?_
   clear e e1 e2
   cases e3
   rw[wn hk] at h1
   exact qaG B r.handled I ha h1 h2 (of_decide_eq_true hl) R
  | _=>exact nn e
 keyed:=λ{O} oo {A s ρ σ σ' i j a f b vs ws ks p Q Ex} r I ha h1 hl hj hb hkeys hp hz hw R=>oU B oo r I ha h1 hl hj hb hkeys hp hz hw R
end
end
end Mine.Internal
namespace Mine.Internal.Sp
section
variable {α β:Type} [DecidableEq α]
noncomputable def vY (size:β->Nat)(x:β):List β->List β
 | []=>[x]
 | y :: r=>if size x < size y then x :: y :: r else y :: vY size x r
noncomputable def zW (size:β->Nat)(q l:List β):List β:=l.foldl (λq x=>vY size x q) q
noncomputable def jW (key:β->α)(size:β->Nat)(succ:β->List β):Nat->List β->List β->Option (List β)
 | _,[],R=>qa R
 | 0,_ :: _,_=>qb
 | f+1,x :: q,R=>if key x∈R.map key then jW key size succ f q R else jW key size succ f (zW size q (succ x)) (R++[x])
inductive Rd (init:List β)(succ:β->List β):β->Prop
 | init {e:β}:e∈init->Rd init succ e
 | step {e e':β}:Rd init succ e->e'∈succ e->Rd init succ e'
variable {key:β->α}{size:β->Nat}{succ:β->List β}
theorem Pp:vY size x (y :: r)=if size x < size y then x :: y :: r else y :: vY size x r:=rfl
theorem H3:∀{f:Nat}{R:List β},jW key size succ f [] R=qa R:=λ{f} {R}=>by cases f <;> rfl
theorem E7 {f:Nat}:jW key size succ (f+1) (x :: q) R=if key x∈R.map key then jW key size succ f q R else jW key size succ f (zW size q (succ x)) (R++[x]):=rfl
theorem OK:∀{q:List β},y∈vY size x q↔y=x\/y∈q
 | []=>⟨λh=>.inl (zE.mp h),λh=>h.elim zE.mpr λh=>nomatch h⟩
 | z :: r=>by
  rw[Pp]
  by_cases hl:size x < size z
  ·rw[if_pos hl];exact jJ
  ·rw[if_neg hl,jJ,OK,jJ];exact or_left_comm
theorem Dk:∀{l q:List β},y∈zW size q l↔y∈l\/y∈q
 | [],q=>⟨.inr,λh=>h.elim (λh=>nomatch h) id⟩
 | x :: l,q=>by
  show y∈zW size (vY size x q) l↔_
  rw[Dk,OK,jJ];exact or_left_comm.trans or_assoc.symm
noncomputable abbrev jR (size:β->Nat)(q:List β):Prop:=q.Pairwise λa b=>size a<=size b
theorem Oe:∀{q:List β},jR size q->jR size (vY size x q)
 | [],_=>MY ..
 | y :: r,h=>by
  obtain⟨h1,h2⟩:=wq.mp h
  rw[Pp]
  by_cases hl:size x < size y
  ·rw[if_pos hl]
   exact wq.mpr ⟨λa ha=>(jJ.mp ha).elim (λe=>va (e▸hl)) λha=>qu (va hl) (h1 a ha),h⟩
  ·rw[if_neg hl]
   exact wq.mpr ⟨λa ha=>(OK.mp ha).elim (λe=>Cm (e▸hl)) (h1 a),Oe h2⟩
theorem B4:∀{l q:List β},jR size q->jR size (zW size q l)
 | [],_,h=>h
 | x :: l,q,h=>B4 (l:=l) (Oe (x:=x) h)
structure QI (key:β->α)(size:β->Nat)(succ:β->List β)(init q R:List β):Prop where
 srt:jR size q
 rec_le:∀r∈R,∀e∈q,size r<=size e
 rd:∀e,e∈q\/e∈R->Rd init succ e
 nd:(R.map key).Nodup
 srtR:jR size R
 ini:∀e∈init,e∈q\/∃r∈R,key r=key e/\size r<=size e
 clo:∀r∈R,∀e∈succ r,e∈q\/∃r'∈R,key r'=key e/\size r'<=size e
theorem QI.start (hq:∀e,e∈q↔e∈init)(hs:jR size q):QI key size succ init q [] where
 srt:=hs
 rec_le:=λ_ h=>nomatch h
 rd:=λe h=>h.elim (λh=>.init ((hq e).mp h)) λh=>nomatch h
 nd:=vy
 srtR:=.nil
 ini:=λe he=>.inl ((hq e).mpr he)
 clo:=λ_ h=>nomatch h
theorem QI.skip (I:QI key size succ init (x :: q) R)(hx:key x∈R.map key):QI key size succ init q R:=by
 obtain⟨h1,h2⟩:=wq.mp I.srt
 obtain⟨r,hr,hk⟩:=qG.mp hx
 have hle:=I.rec_le r hr x zB
 have old:∀{e:β},(e∈x :: q\/∃r∈R,key r=key e/\size r<=size e)->e∈q\/∃r∈R,key r=key e/\size r<=size e:=λh=>by
  rcases h with h | h
  ·rcases jJ.mp h with rfl | h
   ·exact .inr ⟨r,hr,hk,hle⟩
   ·exact .inl h
  ·exact .inr h
 refine⟨h2,λr hr e he=>I.rec_le r hr e (zI _ he),λe h=>I.rd e (h.imp_left (zI _)),I.nd,I.srtR,λe he=>old (I.ini e he),λr hr e he=>old (I.clo r hr e he)⟩
theorem QI.take (hm:∀e,∀e'∈succ e,size e<=size e')(I:QI key size succ init (x :: q) R)(hx:key x∉R.map key):QI key size succ init (zW size q (succ x)) (R++[x]):=by
 obtain⟨h1,h2⟩:=wq.mp I.srt
 have old:∀{e:β},(e∈x :: q\/∃r∈R,key r=key e/\size r<=size e)->e∈zW size q (succ x)\/∃r∈R++[x],key r=key e/\size r<=size e:=λh=>by
  rcases h with h | ⟨r,hr,h⟩
  ·rcases jJ.mp h with rfl | h
   ·exact .inr ⟨_,wV _ (zE.mpr rfl),rfl,qU _⟩
   ·exact .inl (Dk.mpr (.inr h))
  ·exact .inr ⟨r,kH _ hr,h⟩
 refine⟨B4 h2,λr hr e he=>?_,λe h=>?_,?_,?_,λe he=>old (I.ini e he),λr hr e he=>?_⟩
 ·rcases zT.mp hr with hr | hr <;> rcases Dk.mp he with k | k
  ·exact qu (I.rec_le r hr x zB) (hm x e k)
  ·exact I.rec_le r hr e (zI _ k)
  ·obtain rfl:=zE.mp hr;exact hm _ e k
  ·obtain rfl:=zE.mp hr;exact h1 e k
 ·rcases h with h | h
  ·rcases Dk.mp h with h | h
   ·exact .step (I.rd x (.inl zB)) h
   ·exact I.rd e (.inl (zI _ h))
  ·rcases zT.mp h with h | h
   ·exact I.rd e (.inr h)
   ·obtain rfl:=zE.mp h;exact I.rd _ (.inl zB)
 ·rw[jQ,BJ]
  refine⟨I.nd,k7.mpr ⟨AH,vy⟩,λa ha b hb e=>hx ?_⟩
  have hb:b=key x:=zE.mp hb
  exact hb▸e▸ha
 ·exact List.pairwise_append.mpr ⟨I.srtR,MY ..,λa ha b hb=>by obtain rfl:=zE.mp hb;exact I.rec_le a ha _ zB⟩
 ·rcases zT.mp hr with hr | hr
  ·exact old (I.clo r hr e he)
  ·obtain rfl:=zE.mp hr;exact .inl (Dk.mpr (.inl he))
theorem QI.run (hm:∀e,∀e'∈succ e,size e<=size e'):∀{f:Nat}{q R R':List β},QI key size succ init q R->jW key size succ f q R=qa R'->QI key size succ init [] R'
 | f,[],R,R',I,h=>by
  exact zc (H3.symm.trans h)▸I
 | 0,_ :: _,_,_,_,h=>nomatch h
 | f+1,x :: q,R,R',I,h=>by
  by_cases hx:key x∈R.map key
  ·exact QI.run hm (I.skip hx) ((if_pos hx).symm.trans (E7.symm.trans h))
  ·exact QI.run hm (I.take hm hx) ((if_neg hx).symm.trans (E7.symm.trans h))
theorem QI.least (hk:∀e f,Rd init succ e->Rd init succ f->key e=key f->∀e'∈succ e,∃f'∈succ f,key f'=key e'/\size f'+size e=size e'+size f)(I:QI key size succ init [] R) :
  ∀{e:β},Rd init succ e->∃r∈R,key r=key e/\size r<=size e:=by
 intro e h
 induction h with
 | init h=>exact(I.ini _ h).elim (λh=>nomatch h) id
 | step h he ih =>
  obtain⟨r,hr,hkr,hle⟩:=ih
  obtain⟨f',hf,hkf,hs⟩:=hk _ r h (I.rd r (.inr hr)) hkr.symm _ he
  obtain⟨r',hr',hk',hl'⟩:=(I.clo r hr f' hf).elim (λh=>nomatch h) id
  refine⟨r',hr',hk'.trans hkf,by lia⟩
end
noncomputable abbrev Wd:=List Nat
inductive SR (ws:List Wd):Wd->Nat->Prop
 | nil:[]∈ws->SR ws [] 0
 | pair {i j:Nat} {u x:Wd}:i < j->ws[i]?=qa u->ws[j]?=qa (u++x)->SR ws x (u++x).length
 | ext {r x:Wd} {n:Nat}:SR ws r n->r≠[]->(r++x)∈ws->SR ws x (n+x.length)
 | cut {p r:Wd} {n:Nat}:SR ws (p++r) n->p≠[]->r≠[]->p∈ws->SR ws r n
inductive BR (ws:List Wd):Wd->Wd->Nat->Prop
 | pair {i j:Nat} {u v:Wd}:j < i->ws[i]?=qa u->ws[j]?=qa v->BR ws u v 0
 | swap {a b:Wd} {t:Nat}:BR ws a b t->BR ws b a t
 | take {a w:Wd} {t:Nat}:BR ws a [] t->a≠[]->w∈ws->BR ws a w t
 | step {c:Nat} {a b:Wd} {t:Nat}:BR ws (c :: a) (c :: b) t->BR ws a b (t+1)
variable {ws:List Wd}
theorem BR.along:∀{p a b:Wd}{t:Nat},BR ws (p++a) (p++b) t->BR ws a b (t+p.length)
 | [],_,_,_,h=>h
 | c :: p,a,b,t,h=>by
  have:=BR.along (p:=p) (BR.step h)
  rw[show t+(c :: p).length=t+1+p.length by rw[vV];lia]
  exact this
theorem SR.toB (h:SR ws r n):([]∈ws/\r=[]/\n=0)\/∃t,BR ws r [] t/\n=t+r.length:=by
 induction h with
 | nil h=>exact .inl ⟨h,rfl,rfl⟩
 | @pair i j u x hij hi hj =>
  refine .inr ⟨0+u.length,BR.along (p:=u) (by rw[jF];exact .pair hij hj hi),?_⟩
  rw[zw,Mu]
 | @ext r x n h hr hw ih =>
  rcases ih with ⟨_,e,_⟩ | ⟨t,b,e⟩
  ·exact absurd e hr
  ·refine .inr ⟨t+r.length,BR.along (p:=r) ?_,by lia⟩
   rw[jF]
   exact(BR.take b hr hw).swap
 | @cut p r n h hp hr hw ih =>
  rcases ih with ⟨_,e,_⟩ | ⟨t,b,e⟩
  ·exact absurd (Rc.mp e).1 hp
  ·refine .inr ⟨t+p.length,BR.along (p:=p) ?_,by rw[e,zw];lia⟩
   rw[jF]
   exact BR.take b (λe=>hp (Rc.mp e).1) hw
noncomputable def G3 (ws:List Wd)(a b:Wd)(t:Nat):Prop :=
 (∃(i j:Nat) (p:Wd),i≠j/\ws[i]?=qa (p++a)/\ws[j]?=qa (p++b)/\t=p.length) \/
 (∃(p:Wd) (n:Nat),SR ws (p++a) n/\p++a≠[]/\(p++b)∈ws/\t+a.length=n) \/
 (∃(p:Wd) (n:Nat),SR ws (p++b) n/\p++b≠[]/\(p++a)∈ws/\t+b.length=n)
theorem G3.swap (h:G3 ws a b t):G3 ws b a t:=by
 rcases h with ⟨i,j,p,h1,h2,h3,h4⟩ | h | h
 ·exact J7 ⟨j,i,p,h1.symm,h3,h2,h4⟩
 ·exact HO (HO h)
 ·exact HO (J7 h)
noncomputable abbrev E9 (ws:List Wd):Prop:=∀(i j:Nat) (u x:Wd),ws[i]?=qa (u++x)->ws[j]?=qa u->i < j->x=[]
theorem G3.rest (hs:E9 ws)(h:G3 ws a [] t):SR ws a (t+a.length):=by
 rcases h with ⟨i,j,p,h1,h2,h3,rfl⟩ | ⟨p,n,h1,h2,h3,h4⟩ | ⟨p,n,h1,h2,h3,h4⟩
 ·rw[jF] at h3
  rw[<-zw]
  rcases qgP h1 with hl | hl
  ·obtain rfl:=hs i j p a h2 h3 hl
   rw[jF] at h2
   exact .pair hl h2 (by rw[jF];exact h3)
  ·exact .pair hl h3 h2
 ·rw[jF] at h3
  rw[h4]
  by_cases hp:p=[]
  ·subst hp;exact h1
  ·by_cases ha:a=[]
   ·subst ha
    have:=SR.ext (x:=[]) h1 h2 (by rw[jF,jF];exact h3)
    exact this
   ·exact .cut h1 hp ha h3
 ·rw[jF] at h1 h2
  have:n=t:=by simpa using h4.symm
  subst this
  exact .ext h1 h2 h3
theorem BR.from (hs:E9 ws)(h:BR ws a b t):G3 ws a b t:=by
 induction h with
 | @pair i j u v hij hi hj=>exact J7 ⟨i,j,[],FP hij,hi,hj,rfl⟩
 | swap _ ih=>exact ih.swap
 | @take a w t h ha hw ih=>exact HO (J7 ⟨[],_,ih.rest hs,ha,hw,rfl⟩)
 | @step c a b t h ih =>
  have app:∀(p x:Wd),p++c :: x=(p++[c])++x:=λp x=>by rw[jq];rfl
  rcases ih with ⟨i,j,p,h1,h2,h3,h4⟩ | ⟨p,n,h1,h2,h3,h4⟩ | ⟨p,n,h1,h2,h3,h4⟩
  ·rw[app] at h2 h3
   exact J7 ⟨i,j,p++[c],h1,h2,h3,by rw[zw,h4];rfl⟩
  ·rw[app] at h1 h2 h3
   exact HO (J7 ⟨p++[c],n,h1,h2,h3,by rw[vV] at h4;lia⟩)
  ·rw[app] at h1 h2 h3
   exact HO (HO ⟨p++[c],n,h1,h2,h3,by rw[vV] at h4;lia⟩)
theorem Q1 (hs:E9 ws):SR ws r n↔([]∈ws/\r=[]/\n=0)\/∃t,BR ws r [] t/\n=t+r.length :=
 ⟨SR.toB,λh=>by
  rcases h with ⟨h,rfl,rfl⟩ | ⟨t,b,rfl⟩
  ·exact .nil h
  ·exact(b.from hs).rest hs⟩
structure Qe where
 size:Nat
 rest:Wd
 ahead:List Nat
 behind:List Nat
 turned:Nat
section
variable (ws:List Wd)
noncomputable def qI (j:Nat):Wd:=ws.getD j []
noncomputable def Bx (l:List Nat):Wd:=(l.map (qI ws)).flatten
noncomputable def v3 (r:Wd)(start:Nat):List Nat:=(zx ws.length).filter λj=>decide (start<=j)&&r.isPrefixOf (qI ws j)
noncomputable def wN (r:Wd):List Nat:=(zx ws.length).filter λj=>qI ws j == r
noncomputable def BS:List Qe :=
 ((wN ws []).map λi=>⟨0,[],[i],[],0⟩) ++
 (zx ws.length).flatMap λi=>(v3 ws (qI ws i) (i+1)).map λj=>⟨(qI ws j).length,(qI ws j).drop (qI ws i).length,[j],[i],0⟩
noncomputable def ju (e:Qe):List Qe :=
 if e.rest=[] then [] else
  ((v3 ws e.rest 0).map λj=>⟨e.size - e.rest.length+(qI ws j).length,(qI ws j).drop e.rest.length,e.behind++[j],e.ahead,1 - e.turned⟩) ++
  (zx (e.rest.length - 1)).flatMap λk=>(wN ws (e.rest.take (k+1))).map λj=>⟨e.size,e.rest.drop (k+1),e.ahead,e.behind++[j],e.turned⟩
end
theorem AN (h:j < ws.length):ws[j]?=qa (qI ws j):=by
 rw[kh h,qI,BN,kh h];rfl
theorem CG (h:ws[j]?=qa w):j < ws.length/\qI ws j=w:=by
 obtain⟨hl,_⟩:=kF.mp h
 refine⟨hl,zc ((AN hl).symm.trans h)⟩
theorem BB (h:j < ws.length):qI ws j∈ws:=wT (AN h)
theorem B1:j∈v3 ws r s↔j < ws.length/\s<=j/\∃x,qI ws j=r++x:=by
 unfold v3
 rw[MR,jG,jT,decide_eq_true_iff,cK]
 refine⟨λ⟨a,b,x,e⟩=>⟨a,b,x,e.symm⟩,λ⟨a,b,x,e⟩=>⟨a,b,x,e.symm⟩⟩
theorem Et:j∈wN ws r↔j < ws.length/\qI ws j=r:=by
 unfold wN
 rw[MR,jG,beq_iff_eq]
theorem N5 (l:List Nat)(j:Nat):Bx ws (l++[j])=Bx ws l++qI ws j:=by
 unfold Bx
 rw[jQ,List.flatten_append];simp
theorem IG (j:Nat):Bx ws [j]=qI ws j:=by simp[Bx]
structure Cr (ws:List Wd)(e:Qe):Prop where
 text:Bx ws e.ahead=Bx ws e.behind++e.rest
 size:e.size=(Bx ws e.ahead).length
 head:e.ahead.head?≠e.behind.head?
 some:e.ahead≠[]
 some':e.behind=[]->e.rest=[]
 rd:SR ws e.rest e.size
theorem Uy (h:e∈BS ws):Cr ws e:=by
 unfold BS at h
 rcases zT.mp h with h | h
 ·obtain⟨i,hi,rfl⟩:=qG.mp h
  obtain⟨h1,h2⟩:=Et.mp hi
  refine⟨by rw[IG,h2];rfl,by rw[IG,h2];rfl,by simp,by simp,λ_=>rfl,.nil (h2▸BB h1)⟩
 ·obtain⟨i,hi,h⟩:=kU.mp h
  obtain⟨j,hj,rfl⟩:=qG.mp h
  obtain⟨h1,h2,x,hx⟩:=B1.mp hj
  have hd:(qI ws j).drop (qI ws i).length=x:=by rw[hx,MZ]
  refine⟨by rw[IG,IG,hd,hx],by rw[IG],by simp;lia,by simp,by simp,?_⟩
  show SR ws ((qI ws j).drop _) (qI ws j).length
  rw[hd,hx]
  exact .pair (i:=i) (j:=j) h2 (AN (jG.mp hi)) (by rw[AN h1,hx])
theorem ZT (h:l≠[]):(l++[j]).head?=l.head?:=by cases l with | nil=>exact absurd rfl h | cons=>rfl
theorem Va (g:Cr ws e)(h:e'∈ju ws e):Cr ws e':=by
 unfold ju at h
 by_cases hr:e.rest=[]
 ·rw[if_pos hr] at h;cases h
 rw[if_neg hr] at h
 have hb:e.behind≠[]:=λq=>hr (g.some' q)
 have zu:e.rest.length<=e.size:=by rw[g.size,g.text,zw];lia
 rcases zT.mp h with h | h
 ·obtain⟨j,hj,rfl⟩:=qG.mp h
  obtain⟨h1,_,x,hx⟩:=B1.mp hj
  have hd:(qI ws j).drop e.rest.length=x:=by rw[hx,MZ]
  refine⟨?_,?_,?_,by simp,λq=>absurd q g.some,?_⟩
  ·show Bx ws (e.behind++[j])=Bx ws e.ahead++(qI ws j).drop e.rest.length
   rw[N5,hd,hx,g.text,jq]
  ·show e.size - e.rest.length+(qI ws j).length=_
   rw[N5,zw,g.size,g.text,zw];lia
  ·show (e.behind++[j]).head?≠e.ahead.head?
   rw[ZT hb];exact g.head.symm
  ·show SR ws ((qI ws j).drop e.rest.length) (e.size - e.rest.length+(qI ws j).length)
   rw[hd,hx,zw,show e.size - e.rest.length+(e.rest.length+x.length)=e.size+x.length by lia]
   exact .ext g.rd hr (hx▸BB h1)
 ·obtain⟨k,hk,h⟩:=kU.mp h
  obtain⟨j,hj,rfl⟩:=qG.mp h
  obtain⟨h1,h2⟩:=Et.mp hj
  have hk:=jG.mp hk
  have hsp:e.rest.take (k+1)++e.rest.drop (k+1)=e.rest:=cM ..
  refine⟨?_,g.size,?_,g.some,by simp,?_⟩
  ·show Bx ws e.ahead=Bx ws (e.behind++[j])++e.rest.drop (k+1)
   rw[N5,h2,jq,hsp];exact g.text
  ·show e.ahead.head?≠(e.behind++[j]).head?
   rw[ZT hb];exact g.head
  ·refine .cut (p:=e.rest.take (k+1)) (hsp.symm▸g.rd) (λq=>?_) (λq=>?_) (h2▸BB h1)
   ·rcases List.take_eq_nil_iff.mp q with q | q
    ·exact absurd q (Nat.succ_ne_zero k)
    ·exact hr q
   ·have:=bO.mp q;lia
theorem L9 (h:Rd (BS ws) (ju ws) e):Cr ws e:=by
 induction h with
 | init h=>exact Uy h
 | step _ h ih=>exact Va ih h
theorem s7 (h:SR ws r n):∃e,Rd (BS ws) (ju ws) e/\e.rest=r/\e.size=n:=by
 induction h with
 | nil h =>
  obtain⟨j,hj⟩:=RF h
  obtain⟨h1,h2⟩:=CG hj
  refine⟨⟨0,[],[j],[],0⟩,.init (kH _ (qG.mpr ⟨j,Et.mpr ⟨h1,h2⟩,rfl⟩)),rfl,rfl⟩
 | @pair i j u x hij hi hj =>
  obtain⟨i1,i2⟩:=CG hi
  obtain⟨j1,j2⟩:=CG hj
  refine⟨⟨(qI ws j).length,(qI ws j).drop (qI ws i).length,[j],[i],0⟩,.init (wV _ (kU.mpr ⟨i,jG.mpr i1,qG.mpr ⟨j,B1.mpr ⟨j1,hij,x,by rw[j2,i2]⟩,rfl⟩⟩)),?_,?_⟩
  ·show (qI ws j).drop _=x
   rw[j2,i2,MZ]
  ·show (qI ws j).length=_
   rw[j2]
 | @ext r x n h hr hw ih =>
  obtain⟨e,he,h1,h2⟩:=ih
  obtain⟨j,hj⟩:=RF hw
  obtain⟨j1,j2⟩:=CG hj
  have zu:r.length<=n:=by
   have g:=L9 he
   rw[<-h2,<-h1,g.size,g.text,zw];lia
  refine⟨_,.step he (e':=⟨e.size - e.rest.length+(qI ws j).length,(qI ws j).drop e.rest.length,e.behind++[j],e.ahead,1 - e.turned⟩) ?_,?_,?_⟩
  ·unfold ju
   rw[if_neg (h1▸hr)]
   exact kH _ (qG.mpr ⟨j,B1.mpr ⟨j1,zN _,x,by rw[j2,h1]⟩,rfl⟩)
  ·show (qI ws j).drop e.rest.length=x
   rw[j2,h1,MZ]
  ·show e.size - e.rest.length+(qI ws j).length=n+x.length
   rw[j2,h1,h2,zw];lia
 | @cut p r n h hp hr hw ih =>
  obtain⟨e,he,h1,h2⟩:=ih
  obtain⟨j,hj⟩:=RF hw
  obtain⟨j1,j2⟩:=CG hj
  obtain⟨k,hk⟩:∃k,p.length=k+1:=⟨p.length - 1,by have:=qh4.mpr hp;lia⟩
  have hrl:=qh4.mpr hr
  have ht:e.rest.take (k+1)=p:=by rw[h1,<-hk,cN]
  have hd:e.rest.drop (k+1)=r:=by rw[h1,<-hk,MZ]
  refine⟨_,.step he (e':=⟨e.size,e.rest.drop (k+1),e.ahead,e.behind++[j],e.turned⟩) ?_,hd,h2⟩
  unfold ju
  rw[if_neg (λq=>hp (Rc.mp (h1.symm.trans q)).1)]
  refine wV _ (kU.mpr ⟨k,jG.mpr ?_,qG.mpr ⟨j,Et.mpr ⟨j1,by rw[j2,ht]⟩,rfl⟩⟩)
  rw[h1,zw];lia
theorem qfK (h:e'∈ju ws e):e.size<=e'.size:=by
 unfold ju at h
 by_cases hr:e.rest=[]
 ·rw[if_pos hr] at h;cases h
 rw[if_neg hr] at h
 rcases zT.mp h with h | h
 ·obtain⟨j,hj,rfl⟩:=qG.mp h
  obtain⟨_,_,x,hx⟩:=B1.mp hj
  show e.size<=e.size - e.rest.length+(qI ws j).length
  rw[hx,zw];lia
 ·obtain⟨k,_,h⟩:=kU.mp h
  obtain⟨j,_,rfl⟩:=qG.mp h
  exact qU _
theorem qcW (ge:Cr ws e)(gf:Cr ws f)(hk:e.rest=f.rest)(h:e'∈ju ws e):∃f'∈ju ws f,f'.rest=e'.rest/\f'.size+e.size=e'.size+f.size:=by
 have hle:e.rest.length<=e.size:=by rw[ge.size,ge.text,zw];lia
 have hlf:f.rest.length<=f.size:=by rw[gf.size,gf.text,zw];lia
 unfold ju at h ⊢
 by_cases hr:e.rest=[]
 ·rw[if_pos hr] at h;cases h
 rw[if_neg hr] at h
 rw[if_neg (hk▸hr)]
 rcases zT.mp h with h | h
 ·obtain⟨j,hj,rfl⟩:=qG.mp h
  refine⟨_,kH _ (qG.mpr ⟨j,hk▸hj,rfl⟩),by show JU _ _=JU _ _;rw[hk],?_⟩
  show f.size - f.rest.length+(qI ws j).length+e.size=e.size - e.rest.length+(qI ws j).length+f.size
  rw[<-hk] at hlf ⊢
  lia
 ·obtain⟨k,hk',h⟩:=kU.mp h
  obtain⟨j,hj,rfl⟩:=qG.mp h
  refine⟨_,wV _ (kU.mpr ⟨k,hk▸hk',qG.mpr ⟨j,hk▸hj,rfl⟩⟩),by show JU _ _=JU _ _;rw[hk],?_⟩
  exact Hu ..
theorem sV (hs:E9 ws)(hq:∀e,e∈q↔e∈BS ws)(hsq:jR Qe.size q)(h:jW Qe.rest Qe.size (ju ws) f q []=qa R) :
  (R.map Qe.rest).Nodup/\jR Qe.size R/\(∀e∈R,Cr ws e)/\∀r n,SR ws r n->∃e∈R,e.rest=r/\e.size<=n:=by
 have I:=QI.run (key:=Qe.rest) (size:=Qe.size) (succ:=ju ws) (λe e' he=>qfK he) (QI.start hq hsq) h
 refine⟨I.nd,I.srtR,λe he=>L9 (I.rd e (.inr he)),λr n hr=>?_⟩
 obtain⟨e,he,h1,h2⟩:=s7 hr
 obtain⟨e',k1,k2,k3⟩:=I.least (λe f he hf hk e' h=>qcW (L9 he) (L9 hf) hk h) he
 refine⟨e',k1,k2.trans h1,h2▸k3⟩
structure Be where
 one:Wd
 two:Wd
 t:Nat
noncomputable def qN (e:Be):Wd×Wd:=if e.one.length < e.two.length then (e.two,e.one) else (e.one,e.two)
noncomputable def GR (ws:List Wd)(t:Nat):Wd×Wd->List Be
 | ([],[])=>[]
 | (a,[])=>ws.map λw=>⟨a,w,t⟩
 | ([],_ :: _)=>[]
 | (c :: a,d :: b)=>if c=d then [⟨a,b,t+1⟩] else []
noncomputable def km (ws:List Wd)(e:Be):List Be:=GR ws e.t (qN e)
noncomputable def CR (ws:List Wd):List Be:=(zx ws.length).flatMap λi=>(zx i).map λj=>⟨qI ws i,qI ws j,0⟩
theorem Fc (e:Be):qN e=(e.one,e.two)\/qN e=(e.two,e.one):=by
 unfold qN
 split
 ·exact .inr rfl
 ·exact .inl rfl
set_option tactic.hygienic true in
theorem Lv (e:Be):(qN e).2.length<=(qN e).1.length:=by
 unfold qN
 split
 ·rename_i h;exact va h
 ·rename_i h;exact Cm h
theorem VW (h:BR ws e.one e.two e.t):BR ws (qN e).1 (qN e).2 e.t:=by
 rcases Fc e with q | q <;> rw[q]
 ·exact h
 ·exact h.swap
theorem qeO (h:BR ws a b t)(he:e∈GR ws t (a,b)):BR ws e.one e.two e.t:=by
 cases a with
 | nil=>cases b <;> cases he
 | cons c a =>
  cases b with
  | nil =>
   obtain⟨w,hw,rfl⟩:=qG.mp he
   exact .take h (JM _ _) hw
  | cons d b =>
   by_cases q:c=d
   ·subst q
    have he:e∈(if c=c then [⟨a,b,t+1⟩] else []:List Be):=he
    rw[if_pos rfl] at he
    obtain rfl:=zE.mp he
    exact .step h
   ·have he:e∈(if c=d then [⟨a,b,t+1⟩] else []:List Be):=he
    rw[if_neg q] at he;cases he
theorem qai (h:Rd (CR ws) (km ws) e):BR ws e.one e.two e.t:=by
 induction h with
 | init h =>
  obtain⟨i,hi,h⟩:=kU.mp h
  obtain⟨j,hj,rfl⟩:=qG.mp h
  have hi:=jG.mp hi
  have hj:=jG.mp hj
  exact .pair hj (AN hi) (AN (C7 hj hi))
 | step _ h ih=>exact qeO (VW ih) h
theorem lI (h:BR ws a b t):∃e,Rd (CR ws) (km ws) e/\(qN e=(a,b)\/qN e=(b,a))/\e.t=t:=by
 induction h with
 | @pair i j u v hij hi hj =>
  obtain⟨i1,i2⟩:=CG hi
  obtain⟨j1,j2⟩:=CG hj
  refine⟨⟨qI ws i,qI ws j,0⟩,.init (kU.mpr ⟨i,jG.mpr i1,qG.mpr ⟨j,jG.mpr hij,rfl⟩⟩),?_,rfl⟩
  have:=Fc ⟨qI ws i,qI ws j,0⟩
  rw[i2,j2] at this ⊢
  exact this
 | swap _ ih=>obtain⟨e,h1,h2,h3⟩:=ih;refine⟨e,h1,h2.symm,h3⟩
 | @take a w t h ha hw ih =>
  obtain⟨e,h1,h2,rfl⟩:=ih
  have hn:qN e=(a,[]):=by
   rcases h2 with h2 | h2
   ·exact h2
   ·have:=Lv e
    rw[h2] at this
    exact absurd (cP.mp (RG.mp this)) ha
  refine⟨⟨a,w,e.t⟩,.step h1 ?_,Fc ⟨a,w,e.t⟩,rfl⟩
  unfold km
  rw[hn]
  cases a with
  | nil=>exact absurd rfl ha
  | cons c a=>exact qG.mpr ⟨w,hw,rfl⟩
 | @step c a b t h ih =>
  obtain⟨e,h1,h2,rfl⟩:=ih
  rcases h2 with h2 | h2
  ·refine⟨⟨a,b,e.t+1⟩,.step h1 ?_,Fc ⟨a,b,e.t+1⟩,rfl⟩
   unfold km;rw[h2]
   show _∈(if c=c then [⟨a,b,e.t+1⟩] else []:List Be)
   rw[if_pos rfl];exact zE.mpr rfl
  ·refine⟨⟨b,a,e.t+1⟩,.step h1 ?_,(Fc ⟨b,a,e.t+1⟩).symm,rfl⟩
   unfold km;rw[h2]
   show _∈(if c=c then [⟨b,a,e.t+1⟩] else []:List Be)
   rw[if_pos rfl];exact zE.mpr rfl
theorem Yq (h:e∈GR ws t k):∃f∈GR ws t' k,qN f=qN e/\f.t+t=e.t+t':=by
 obtain⟨a,b⟩:=k
 cases a with
 | nil=>cases b <;> cases h
 | cons c a =>
  cases b with
  | nil =>
   obtain⟨w,hw,rfl⟩:=qG.mp h
   refine⟨⟨c :: a,w,t'⟩,qG.mpr ⟨w,hw,rfl⟩,rfl,Hu ..⟩
  | cons d b =>
   have h:e∈(if c=d then [⟨a,b,t+1⟩] else []:List Be):=h
   by_cases q:c=d
   ·rw[if_pos q] at h
    obtain rfl:=zE.mp h
    refine⟨⟨a,b,t'+1⟩,?_,rfl,by show t'+1+t=t+1+t';lia⟩
    show _∈(if c=d then [⟨a,b,t'+1⟩] else []:List Be)
    rw[if_pos q];exact zE.mpr rfl
   ·rw[if_neg q] at h;cases h
theorem iB (h:e'∈km ws e):e.t<=e'.t:=by
 obtain⟨f,_,_,h⟩:=Yq (t':=0) h
 lia
theorem QU (hq:∀e,e∈q↔e∈CR ws)(hsq:jR Be.t q)(h:jW qN Be.t (km ws) f q []=qa R) :
  (R.map qN).Nodup/\jR Be.t R/\(∀e∈R,BR ws (qN e).1 (qN e).2 e.t)/\∀a b t,BR ws a b t->∃e∈R,(qN e=(a,b)\/qN e=(b,a))/\e.t<=t:=by
 have I:=QI.run (key:=qN) (size:=Be.t) (succ:=km ws) (λe e' he=>iB he) (QI.start hq hsq) h
 refine⟨I.nd,I.srtR,λe he=>VW (qai (I.rd e (.inr he))),λa b t hb=>?_⟩
 obtain⟨e,he,h1,h2⟩:=lI hb
 obtain⟨e',k1,k2,k3⟩:=I.least (λe f he hf hk e' h=>by
  have h:e'∈GR ws e.t (qN f):=hk▸h
  exact Yq h) he
 refine⟨e',k1,k2▸h1,h2▸k3⟩
noncomputable def DG (l:List (Wd×Nat))(e:Be):List (Wd×Nat) :=
 if (qN e).2=[]/\(qN e).1∉l.map (·.1) then l++[((qN e).1,e.t+(qN e).1.length)] else l
noncomputable def Dg (ws:List Wd):List (Wd×Nat):=if []∈ws then [([],0)] else []
noncomputable def zH (ws:List Wd)(R:List Be):List (Wd×Nat):=R.foldl DG (Dg ws)
theorem Ie:∀{l:List α},(l.map f).Nodup->∀{a b:α},a∈l->b∈l->f a=f b->a=b
 | x :: l,h,a,b,ha,hb,e=>by
  rw[z7] at h
  obtain⟨h1,h2⟩:=k7.mp h
  rcases jJ.mp ha with ra | ha <;> rcases jJ.mp hb with rb | hb
  ·rw[ra,rb]
  ·exact absurd (ra▸e▸qG.mpr ⟨b,hb,rfl⟩:f x∈l.map f) h1
  ·exact absurd (rb▸e▸qG.mpr ⟨a,ha,rfl⟩:f x∈l.map f) h1
  ·exact Ie h2 ha hb e
structure LI (ws:List Wd)(P:List Be)(l:List (Wd×Nat)):Prop where
 nd:(l.map (·.1)).Nodup
 told:∀r n,(r,n)∈l->(r=[]/\n=0/\[]∈ws)\/∃e∈P,qN e=(r,[])/\n=e.t+r.length
 all:∀e∈P,(qN e).2=[]->(qN e).1∈l.map (·.1)
 nil:[]∈ws->([],0)∈l
theorem LI.start:LI ws [] (Dg ws):=by
 unfold Dg
 by_cases h:[]∈ws
 ·rw[if_pos h]
  refine⟨k7.mpr ⟨AH,vy⟩,λr n hm=>by have:=zE.mp hm;cases this;exact .inl ⟨rfl,rfl,h⟩,λ_ q=>(nomatch q),λ_=>zE.mpr rfl⟩
 ·rw[if_neg h]
  refine⟨vy,λ_ _ q=>(nomatch q),λ_ q=>(nomatch q),λq=>absurd q h⟩
theorem LI.next (I:LI ws P l)(e:Be):LI ws (P++[e]) (DG l e):=by
 have up:∀{r n},((r=[]/\n=0/\[]∈ws)\/∃e∈P,qN e=(r,[])/\n=e.t+r.length)->(r=[]/\n=0/\[]∈ws)\/∃e'∈P++[e],qN e'=(r,[])/\n=e'.t+r.length:=λh =>
  h.imp_right λ⟨e',h1,h2⟩=>⟨e',kH _ h1,h2⟩
 unfold DG
 by_cases h:(qN e).2=[]/\(qN e).1∉l.map (·.1)
 ·rw[if_pos h]
  refine⟨?_,λr n hm=>?_,λe' he' h2=>?_,λq=>kH _ (I.nil q)⟩
  ·rw[jQ,BJ]
   refine⟨I.nd,k7.mpr ⟨AH,vy⟩,λa ha b hb q=>h.2 (by have hb:b=(qN e).1:=zE.mp hb;exact hb▸q▸ha)⟩
  ·rcases zT.mp hm with hm | hm
   ·exact up (I.told r n hm)
   ·have:=zE.mp hm
    cases this
    exact .inr ⟨e,wV _ (zE.mpr rfl),qh5 rfl h.1,rfl⟩
  ·rw[jQ]
   rcases zT.mp he' with he' | he'
   ·exact kH _ (I.all e' he' h2)
   ·obtain rfl:=zE.mp he'
    exact wV _ (zE.mpr rfl)
 ·rw[if_neg h]
  refine⟨I.nd,λr n hm=>up (I.told r n hm),λe' he' h2=>?_,I.nil⟩
  rcases zT.mp he' with he' | he'
  ·exact I.all e' he' h2
  ·obtain rfl:=zE.mp he'
   exact MQ λq=>h ⟨h2,q⟩
theorem LI.run:∀{R P:List Be}{l:List (Wd×Nat)},LI ws P l->LI ws (P++R) (R.foldl DG l)
 | [],P,l,I=>by rw[jF];exact I
 | e :: R,P,l,I=>by
  have:=LI.run (R:=R) (I.next e)
  rw[jq] at this
  exact this
theorem VV (hs:E9 ws)(hn:(R.map qN).Nodup)(hb:∀e∈R,BR ws (qN e).1 (qN e).2 e.t)(ha:∀a b t,BR ws a b t->∃e∈R,(qN e=(a,b)\/qN e=(b,a))/\e.t<=t) :
  ((zH ws R).map (·.1)).Nodup/\(∀r n,(r,n)∈zH ws R->SR ws r n/\∀m,SR ws r m->n<=m)/\∀r m,SR ws r m->r∈(zH ws R).map (·.1):=by
 have I:=LI.run (R:=R) (LI.start (ws:=ws))
 rw[MV] at I
 have get:∀{r t},BR ws r [] t->∃e∈R,qN e=(r,[])/\e.t<=t:=λ{r t} b=>by
  obtain⟨e,h1,h2,h3⟩:=ha r [] t b
  refine⟨e,h1,?_,h3⟩
  rcases h2 with h2 | h2
  ·exact h2
  ·have:=Lv e
   rw[h2] at this
   have:r=[]:=cP.mp (RG.mp this)
   subst this;exact h2
 refine⟨I.nd,λr n hm=>⟨?_,λm hm'=>?_⟩,λr m h=>?_⟩
 ·rcases I.told r n hm with ⟨rfl,rfl,h⟩ | ⟨e,he,hk,rfl⟩
  ·exact .nil h
  ·have b:=hb e he
   rw[hk] at b
   exact(Q1 hs).mpr (.inr ⟨e.t,b,rfl⟩)
 ·rcases (Q1 hs).mp hm' with ⟨h,rfl,rfl⟩ | ⟨t,b,rfl⟩
  ·have:=Ie I.nd hm (I.nil h) rfl
   cases this;exact qU _
  ·rcases I.told r n hm with ⟨rfl,rfl,h⟩ | ⟨e,he,hk,rfl⟩
   ·exact zN _
   ·obtain⟨e',h1,h2,h3⟩:=get b
    obtain rfl:=Ie hn he h1 (hk.trans h2.symm)
    exact qh6 h3 _
 ·rcases (Q1 hs).mp h with ⟨h0,rfl,rfl⟩ | ⟨t,b,rfl⟩
  ·exact qG.mpr ⟨_,I.nil h0,rfl⟩
  ·obtain⟨e',h1,h2,_⟩:=get b
   have:=I.all e' h1 (by rw[h2])
   rw[h2] at this
   exact this
theorem qbp {S:List Be}(hs:E9 ws)(hR:(R.map Qe.rest).Nodup/\jR Qe.size R/\(∀e∈R,Cr ws e)/\∀r n,SR ws r n->∃e∈R,e.rest=r/\e.size<=n)
  (hS:(S.map qN).Nodup/\jR Be.t S/\(∀e∈S,BR ws (qN e).1 (qN e).2 e.t)/\∀a b t,BR ws a b t->∃e∈S,(qN e=(a,b)\/qN e=(b,a))/\e.t<=t) :
  (∀r,r∈R.map Qe.rest↔r∈(zH ws S).map (·.1))/\∀e∈R,(e.rest,e.size)∈zH ws S:=by
 obtain⟨l1,l2,l3⟩:=VV hs hS.1 hS.2.2.1 hS.2.2.2
 refine⟨λr=>⟨λh=>?_,λh=>?_⟩,λe he=>?_⟩
 ·obtain⟨e,he,rfl⟩:=qG.mp h
  exact l3 _ _ (hR.2.2.1 e he).rd
 ·obtain⟨⟨r',n⟩,hm,rfl⟩:=qG.mp h
  obtain⟨e,he,h1,_⟩:=hR.2.2.2 _ _ (l2 _ _ hm).1
  exact qG.mpr ⟨e,he,h1⟩
 ·have g:=hR.2.2.1 e he
  obtain⟨⟨r',n⟩,hm,hr⟩:=qG.mp (l3 _ _ g.rd)
  obtain rfl:r'=e.rest:=hr
  obtain⟨e',he',h1,h2⟩:=hR.2.2.2 _ _ (l2 _ _ hm).1
  obtain rfl:=Ie hR.1 he he' h1.symm
  have:n=e.size:=Mq ((l2 _ _ hm).2 _ g.rd) h2
  exact this▸hm
section
variable {α β:Type} [DecidableEq α]{key:β->α}{size:β->Nat}{succ:β->List β}
theorem T2 (x:β):∀q:List β,(vY size x q).length=q.length+1
 | []=>rfl
 | y :: r=>by
  rw[Pp]
  by_cases hl:size x < size y
  ·rw[if_pos hl];rfl
  ·rw[if_neg hl,vV,T2 x r,vV]
theorem E6:∀(l q:List β),(zW size q l).length=q.length+l.length
 | [],q=>rfl
 | x :: l,q=>by
  show (zW size (vY size x q) l).length=_
  rw[E6 l,T2,vV];lia
noncomputable def CX (key:β->α)(U:List α)(R:List β):List α:=U.filter λa=>decide (a∉R.map key)
theorem qbW (h1:key x∈U)(h2:key x∉R.map key):(CX key U (R++[x])).length < (CX key U R).length:=by
 have e:CX key U (R++[x])=(CX key U R).filter λa=>decide (a≠key x):=by
  unfold CX
  rw[List.filter_filter]
  apply RH
  intro a _
  rw[jQ,<-Bool.decide_and]
  apply decide_eq_decide.mpr
  rw[zT,not_or]
  simp only[z7,qh7,zE]
  refine⟨λh=>⟨h.2,h.1⟩,λh=>⟨h.2,h.1⟩⟩
 rw[e,List.length_filter_lt_length_iff_exists]
 refine⟨key x,MR.mpr ⟨h1,decide_eq_true h2⟩,by simp⟩
theorem KK {B:Nat}{P:β->Prop}(hP:∀e,P e->∀e'∈succ e,P e')(hU:∀e,P e->key e∈U)(hB:∀e,P e->(succ e).length<=B) :
  ∀(f:Nat) (q R:List β),(∀e∈q,P e)->q.length+(CX key U R).length * B<=f->∃R',jW key size succ f q R=qa R'
 | f,[],R,_,_=>⟨R,H3⟩
 | 0,x :: q,R,_,h=>by rw[vV] at h;lia
 | f+1,x :: q,R,hq,h=>by
  rw[E7]
  have hq':=λe he=>hq e (zI _ he)
  have hx:=hq x zB
  rw[vV] at h
  by_cases hk:key x∈R.map key
  ·rw[if_pos hk]
   exact KK hP hU hB f q R hq' (by lia)
  ·rw[if_neg hk]
   refine KK hP hU hB f _ _ (λe he=>?_) ?_
   ·rcases Dk.mp he with he | he
    ·exact hP x hx e he
    ·exact hq' e he
   ·rw[E6]
    have hl:=qbW (hU x hx) hk
    have hb:=hB x hx
    have:(CX key U (R++[x])).length * B+B<=(CX key U R).length * B:=by
     rw[<-Z6];exact DV B hl
    lia
end
noncomputable def qR:Wd->Wd->Bool
 | [],[]=>qg
 | [],_ :: _=>qe
 | _ :: _,[]=>qg
 | a :: x,b :: y=>if a < b then qe else if b < a then qg else qR x y
theorem x8:qR (a :: x) (b :: y)=if a < b then qe else if b < a then qg else qR x y:=rfl
theorem GU:∀x:Wd,qR x x=qg
 | []=>rfl
 | a :: x=>x8.trans ((if_neg (j7 a)).trans ((if_neg (j7 a)).trans (GU x)))
theorem P0:∀(u x:Wd),qR u (u++x) = !x.isEmpty
 | [],[]=>rfl
 | [],_ :: _=>rfl
 | a :: u,x=>by
  show (if a < a then qe else if a < a then qg else qR u (u++x))=_
  rw[if_neg (j7 a),if_neg (j7 a)];exact P0 u x
noncomputable abbrev ku (ws:List Wd):Prop:=ws.Pairwise λa b=>qR b a=qg
theorem ku.inRow (h:ku ws):E9 ws:=λi j u x hi hj hij=>by
 obtain⟨h1,e1⟩:=kF.mp hi
 obtain⟨h2,e2⟩:=kF.mp hj
 have:=FR.mp h i j h1 h2 hij
 rw[e1,e2,P0] at this
 cases x with
 | nil=>rfl
 | cons=>cases this
theorem BU (left:Nat->Bool):∀(f lo hi:Nat),hi - lo<=f->lo<=hi->(∀i j,lo<=i->i<=j->j < hi->left j=qe->left i=qe) ->
  lo<=jr left f lo hi/\jr left f lo hi<=hi/\(∀i,lo<=i->i < jr left f lo hi->left i=qe)/\∀i,jr left f lo hi<=i->i < hi->left i=qg
 | 0,lo,hi,h,hl,_=>by
  obtain rfl:lo=hi:=by lia
  refine⟨qU _,qU _,λi a b=>absurd (AK a b) (j7 _),λi a b=>absurd (AK a b) (j7 _)⟩
 | f+1,lo,hi,h,hl,hm=>by
  rw[M7]
  by_cases qQ:lo < hi
  ·rw[Zt qQ,cond_true]
   have g:=Oj qQ
   have l:=PC qQ
   cases hq:left ((lo+hi) / 2) with
   | true =>
    rw[cond_true]
    obtain⟨h1,h2,h3,h4⟩:=BU left f ((lo+hi) / 2+1) hi (SM qQ h) l (λi j a b c d=>hm i j (by lia) b c d)
    refine⟨by lia,h2,λi a b=>?_,h4⟩
    by_cases hi':i<=(lo+hi) / 2
    ·exact hm i _ a hi' l hq
    ·exact h3 i (by lia) b
   | false =>
    rw[cond_false]
    obtain⟨h1,h2,h3,h4⟩:=BU left f lo ((lo+hi) / 2) (SK qQ h) g (λi j a b c d=>hm i j a b (by lia) d)
    refine⟨h1,by lia,h3,λi a b=>?_⟩
    by_cases hi':i < (lo+hi) / 2
    ·exact h4 i a hi'
    ·cases q:left i with
     | false=>rfl
     | true=>exact absurd (hm _ i g (by lia) b q) (by rw[hq];exact jy)
  ·rw[TW qQ,cond_false]
   obtain rfl:lo=hi:=by lia
   refine⟨qU _,qU _,λi a b=>absurd (AK a b) (j7 _),λi a b=>absurd (AK a b) (j7 _)⟩
theorem SA:∀(r w:Wd),(∀c∈w,c < 123)->(qR w r=qg/\qR w (r++[123])=qe↔∃x,w=r++x)
 | [],[],_=>⟨λ_=>⟨[],rfl⟩,λ_=>⟨rfl,rfl⟩⟩
 | [],a :: w,h=>⟨λ_=>⟨_,rfl⟩,λ_=>⟨rfl,if_pos (h a zB)⟩⟩
 | c :: r,[],_=>⟨λh=>(nomatch h.1),λ⟨x,h⟩=>nomatch h⟩
 | c :: r,a :: w,h=>by
  have ih:=SA r w λc hc=>h c (zI _ hc)
  show ((if a < c then qe else if c < a then qg else qR w r)=qg/\(if a < c then qe else if c < a then qg else qR w (r++[123]))=qe)↔_
  by_cases h1:a < c
  ·rw[if_pos h1]
   refine⟨λq=>(nomatch q.1),λ⟨x,q⟩=>by injection q with q _;lia⟩
  ·rw[if_neg h1,if_neg h1]
   by_cases h2:c < a
   ·rw[if_pos h2,if_pos h2]
    refine⟨λq=>(nomatch q.2),λ⟨x,q⟩=>by injection q with q _;lia⟩
   ·rw[if_neg h2,if_neg h2,ih]
    have:a=c:=by lia
    subst this
    refine⟨λ⟨x,q⟩=>⟨x,by rw[q];rfl⟩,λ⟨x,q⟩=>⟨x,by injection q⟩⟩
theorem K3:∀{a b x:Wd},qR b a=qg->qR b x=qe->qR a x=qe
 | [],[],[],_,h=>h
 | [],[],_ :: _,_,_=>rfl
 | [],_ :: _,[],_,h=>nomatch h
 | [],_ :: _,_ :: _,_,_=>rfl
 | _ :: _,[],_,h,_=>nomatch h
 | _ :: _,_ :: _,[],_,h=>nomatch h
 | p :: a,q :: b,r :: x,h1,h2=>by
  have h1:(if q < p then qe else if p < q then qg else qR b a)=qg:=h1
  have h2:(if q < r then qe else if r < q then qg else qR b x)=qe:=h2
  show (if p < r then qe else if r < p then qg else qR a x)=qe
  by_cases e1:q < p
  ·rw[if_pos e1] at h1;cases h1
  ·rw[if_neg e1] at h1
   by_cases e2:q < r
   ·rw[if_pos (by lia)]
   ·rw[if_neg e2] at h2
    by_cases e3:r < q
    ·rw[if_pos e3] at h2;cases h2
    ·rw[if_neg e3] at h2
     by_cases e4:p < q
     ·rw[if_pos (by lia)]
     ·rw[if_neg e4] at h1
      rw[if_neg (by lia),if_neg (by lia)]
      exact K3 h1 h2
theorem ku.at (h:ku ws)(hij:i<=j)(hj:j < ws.length):qR (qI ws j) (qI ws i)=qg:=by
 rcases qh8 hij with hl | rfl
 ·have:=FR.mp h i j (C7 hl hj) hj hl
  obtain⟨_,e1⟩:=kF.mp (AN hj)
  obtain⟨_,e2⟩:=kF.mp (AN (C7 hl hj))
  rw[e1,e2] at this;exact this
 ·exact GU _
noncomputable def Eh (ws:List Wd)(x:Wd)(lo:Nat):Nat:=jr (λi=>qR (qI ws i) x) (ws.length - lo) lo ws.length
theorem Jw (h:ku ws)(hlo:lo<=ws.length)(hj:j < ws.length)(hl:lo<=j):Eh ws x lo<=j↔qR (qI ws j) x=qg:=by
 obtain⟨h1,h2,h3,h4⟩:=BU (λi=>qR (qI ws i) x) (ws.length - lo) lo ws.length (qU _) hlo (λi j a b c d=>K3 (h.at b c) d)
 constructor
 ·exact λq=>h4 j q hj
 ·intro q
  exact MQ λn=>by
   have:=h3 j hl (FY n)
   rw[q] at this;cases this
theorem PN (a b:Nat):∀n,((zx n).filter λj=>decide (a<=j)&&decide (j < b))=Ca a (min b n - a)
 | 0=>by rw[Nat.min_zero,Nat.zero_sub];rfl
 | n+1=>by
  rw[qh9,List.filter_append,PN a b n]
  by_cases h1:a<=n
  ·by_cases h2:n < b
   ·rw[Bd h2,Bd (va h2),qia h1,List.range'_concat,Nat.one_mul,Nat.add_sub_cancel' h1,List.filter_cons_of_pos (by rw[decide_eq_true h1,decide_eq_true h2];rfl)];rfl
   ·rw[AJ (HN (k8.mp h2)),AJ (k8.mp h2),qib (by rw[decide_eq_false h2,bK];exact jy)];exact jF _
  ·have h:=Rl.mp h1
   rw[qic (qu (MH ..) h),qic (qu (MH ..) (va h)),qib (by rw[decide_eq_false h1];exact jy)];rfl
theorem TZ (h:ku ws)(hc:∀w∈ws,∀c∈w,c < 123)(r:Wd)(hlo:lo<=ws.length) :
  Ca (Eh ws r lo) (Eh ws (r++[123]) lo - Eh ws r lo)=v3 ws r lo:=by
 have sp:=λx=>BU (λi=>qR (qI ws i) x) (ws.length - lo) lo ws.length (qU _) hlo (λi j a b c d=>K3 (h.at b c) d)
 have h2:Eh ws (r++[123]) lo<=ws.length:=(sp _).2.1
 have h1:lo<=Eh ws r lo:=(sp _).1
 have e:=PN (Eh ws r lo) (Eh ws (r++[123]) lo) ws.length
 rw[AJ h2] at e
 rw[<-e]
 unfold v3
 apply RH
 intro j hj
 have hj:=jG.mp hj
 rw[k9,jT,jT,decide_eq_true_iff,decide_eq_true_iff,decide_eq_true_iff,cK]
 have key:=SA r (qI ws j) (hc _ (BB hj))
 constructor
 ·rintro ⟨a,b⟩
  have hl:lo<=j:=qu h1 a
  obtain⟨x,hx⟩:=key.mp ⟨(Jw h hlo hj hl).mp a,(by
   cases q:qR (qI ws j) (r++[123]) with
   | true=>rfl
   | false=>exact absurd ((Jw h hlo hj hl).mpr q) (RI b))⟩
  refine⟨hl,x,hx.symm⟩
 ·rintro ⟨hl,x,hx⟩
  obtain⟨k1,k2⟩:=key.mpr ⟨x,hx.symm⟩
  refine⟨(Jw h hlo hj hl).mpr k1,FY λq=>?_⟩
  have:=(Jw h hlo hj hl).mp q
  rw[k2] at this;cases this
theorem ZZ (hm:∀i j,i<=j->j < n->left j=qe->left i=qe)(h1:lo<=hi)(h2:hi<=n)(hf:hi - lo<=f)(hf0:n<=f0) :
  jr left f lo hi=max lo (min hi (jr left f0 0 n)):=by
 obtain⟨a1,a2,a3,a4⟩:=BU left f lo hi hf h1 (λi j _ b c d=>hm i j b (jH c h2) d)
 obtain⟨_,b2,b3,b4⟩:=BU left f0 0 n (qu (HF ..) hf0) (zN n) (λi j _ b c d=>hm i j b c d)
 generalize jr left f lo hi=p at *
 generalize jr left f0 0 n=q at *
 apply Mq
 ·refine Cm λk=>?_
  have y:max lo q < p:=Nat.max_lt.mpr ⟨AK (qid ..) k,FY λhq=>k8.mpr (qu (Nat.le_min.mpr ⟨a2,hq⟩) (qie ..)) k⟩
  have x1:=a3 (max lo q) (qid ..) y
  have x2:=b4 (max lo q) (qie ..) (jH y (qu a2 h2))
  rw[x1] at x2;cases x2
 ·refine Nat.max_le.mpr ⟨a1,Cm λk=>?_⟩
  have x1:=a4 p (qU _) (jH k (Nat.min_le_left ..))
  have x2:=b3 p (zN _) (jH k (MH ..))
  rw[x1] at x2;cases x2
theorem Ff:∀{a b x:Wd},qR x a=qe->qR b a=qg->qR x b=qe
 | [],_,x,h,_=>by cases x <;> cases h
 | p :: a,[],_,_,k=>nomatch k
 | p :: a,q :: b,[],_,_=>rfl
 | p :: a,q :: b,r :: x,h1,h2=>by
  have h1:(if r < p then qe else if p < r then qg else qR x a)=qe:=h1
  have h2:(if q < p then qe else if p < q then qg else qR b a)=qg:=h2
  show (if r < q then qe else if q < r then qg else qR x b)=qe
  by_cases e1:q < p
  ·rw[if_pos e1] at h2;cases h2
  ·rw[if_neg e1] at h2
   by_cases e2:r < p
   ·rw[if_pos (by lia)]
   ·rw[if_neg e2] at h1
    by_cases e3:p < r
    ·rw[if_pos e3] at h1;cases h1
    ·rw[if_neg e3] at h1
     by_cases e4:p < q
     ·rw[if_pos (by lia)]
     ·rw[if_neg e4] at h2
      rw[if_neg (by lia),if_neg (by lia)]
      exact Ff h1 h2
theorem Vr:∀{a b:Wd},qR a b=qg->qR b a=qg->a=b
 | [],[],_,_=>rfl
 | [],_ :: _,h,_=>nomatch h
 | _ :: _,[],_,h=>nomatch h
 | p :: a,q :: b,h1,h2=>by
  have h1:(if p < q then qe else if q < p then qg else qR a b)=qg:=h1
  have h2:(if q < p then qe else if p < q then qg else qR b a)=qg:=h2
  by_cases e1:p < q
  ·rw[if_pos e1] at h1;cases h1
  ·by_cases e2:q < p
   ·rw[if_pos e2] at h2;cases h2
   ·rw[if_neg e1,if_neg e2] at h1
    rw[if_neg e2,if_neg e1] at h2
    rw[show p=q by lia,Vr h1 h2]
theorem N6:∀{a b:Wd},qR a b=qe->qR b a=qe->False
 | [],[],h,_=>nomatch h
 | [],_ :: _,_,h=>nomatch h
 | _ :: _,[],h,_=>nomatch h
 | p :: a,q :: b,h1,h2=>by
  have h1:(if p < q then qe else if q < p then qg else qR a b)=qe:=h1
  have h2:(if q < p then qe else if p < q then qg else qR b a)=qe:=h2
  by_cases e1:p < q
  ·rw[if_neg (by lia),if_pos e1] at h2;cases h2
  ·rw[if_neg e1] at h1
   by_cases e2:q < p
   ·rw[if_pos e2] at h1;cases h1
   ·rw[if_neg e2] at h1
    rw[if_neg e2,if_neg e1] at h2
    exact N6 h1 h2
theorem OV (h:qR a b=qe):qR b a=qg:=by
 cases q:qR b a with
 | false=>rfl
 | true=>exact(N6 h q).elim
noncomputable def bL (ws:List Wd)(x:Wd)(lo hi:Nat):Nat:=jr (λi=>qR (qI ws i) x) (hi - lo) lo hi
noncomputable def bR (ws:List Wd)(x:Wd)(lo hi:Nat):Nat:=jr (λi=>!qR x (qI ws i)) (hi - lo) lo hi
theorem QL (h:ku ws)(x:Wd)(i j:Nat)(hij:i<=j)(hj:j < ws.length)(k:qR (qI ws j) x=qe):qR (qI ws i) x=qe:=K3 (h.at hij hj) k
theorem Qu (h:ku ws)(x:Wd)(i j:Nat)(hij:i<=j)(hj:j < ws.length)(k:(!qR x (qI ws j))=qe):(!qR x (qI ws i))=qe:=by
 cases q:qR x (qI ws i) with
 | false=>rfl
 | true=>rw[Ff q (h.at hij hj)] at k;cases k
theorem P3 (h:ku ws)(x:Wd)(h1:lo<=hi)(h2:hi<=ws.length):bL ws x lo hi=max lo (min hi (bL ws x 0 ws.length)) :=
 ZZ (QL h x) h1 h2 (qU _) (qU _)
theorem NQ (h:ku ws)(x:Wd)(h1:lo<=hi)(h2:hi<=ws.length):bR ws x lo hi=max lo (min hi (bR ws x 0 ws.length)) :=
 ZZ (Qu h x) h1 h2 (qU _) (qU _)
theorem Lg (h:ku ws)(hj:j < ws.length):bL ws x 0 ws.length<=j↔qR (qI ws j) x=qg :=
 Jw h (zN _) hj (zN _)
theorem LO (h:ku ws)(hj:j < ws.length):bR ws x 0 ws.length<=j↔qR x (qI ws j)=qe:=by
 obtain⟨_,_,h3,h4⟩:=BU (λi=>!qR x (qI ws i)) ws.length 0 ws.length (qU _) (zN _) (λi j _ b c d=>Qu h x i j b c d)
 constructor
 ·intro q
  have:=h4 j q hj
  cases r:qR x (qI ws j) with
  | true=>rfl
  | false=>rw[r] at this;cases this
 ·intro q
  exact MQ λn=>by
   have:=h3 j (zN _) (FY n)
   rw[q] at this;cases this
theorem GM (ws:List Wd)(x:Wd)(h:ku ws):bL ws x 0 ws.length<=ws.length:=(BU _ _ _ _ (qU _) (zN _) (λi j _ b c d=>QL h x i j b c d)).2.1
theorem G5 (ws:List Wd)(x:Wd)(h:ku ws):bR ws x 0 ws.length<=ws.length:=(BU _ _ _ _ (qU _) (zN _) (λi j _ b c d=>Qu h x i j b c d)).2.1
theorem KP (h:ku ws)(x:Wd):bL ws x 0 ws.length<=bR ws x 0 ws.length:=by
 refine Cm λk=>?_
 have hj:bR ws x 0 ws.length < ws.length:=jH k (GM ws x h)
 have r:=(LO h hj).mp (qU _)
 have l:=mt (Lg h hj).mpr (RI k)
 exact l (OV r)
theorem Sj (h:ku ws)(x:Wd):Ca (bL ws x 0 ws.length) (bR ws x 0 ws.length - bL ws x 0 ws.length)=wN ws x:=by
 have e:=PN (bL ws x 0 ws.length) (bR ws x 0 ws.length) ws.length
 rw[AJ (G5 ws x h)] at e
 rw[<-e]
 unfold wN
 apply RH
 intro j hj
 have hj:=jG.mp hj
 rw[k9,jT,decide_eq_true_iff,decide_eq_true_iff,beq_iff_eq]
 constructor
 ·rintro ⟨a,b⟩
  exact Vr ((Lg h hj).mp a) (by
   cases q:qR x (qI ws j) with
   | false=>rfl
   | true=>exact absurd ((LO h hj).mpr q) (RI b))
 ·intro q
  refine⟨(Lg h hj).mpr (by rw[q];exact GU x),FY λk=>?_⟩
  have:=(LO h hj).mp k
  rw[q,GU] at this;cases this
theorem QN (h:ku ws)(x:Wd):bR ws x 0 ws.length<=bL ws (x++[123]) 0 ws.length:=by
 refine Cm λk=>?_
 have hj:bL ws (x++[123]) 0 ws.length < ws.length:=jH k (G5 ws x h)
 have l:=(Lg h hj).mp (qU _)
 have r:=mt (LO h hj).mpr (RI k)
 refine r ?_
 refine Ff (a:=x++[123]) ?_ l
 rw[P0];rfl
theorem sX (h:ku ws)(x:Wd)(hl:low<=bL ws x 0 ws.length) :
  bL ws x (bR ws x 0 ws.length) ws.length=bR ws x 0 ws.length/\bR ws x (bL ws (x++[123]) 0 ws.length) ws.length=bL ws (x++[123]) 0 ws.length /\
  bL ws (x++[123]) low (bL ws x 0 ws.length)=bL ws x 0 ws.length/\bR ws x low (bL ws x 0 ws.length)=bL ws x 0 ws.length /\
  bL ws x low (bR ws x 0 ws.length)=bL ws x 0 ws.length/\bR ws x low ws.length=bR ws x 0 ws.length:=by
 have a:=KP h x
 have b:=QN h x
 have c:=GM ws (x++[123]) h
 have d:=G5 ws x h
 have e:=GM ws x h
 refine⟨?_,?_,?_,?_,?_,?_⟩
 ·rw[P3 h x d (qU _),Bd e,qif a]
 ·rw[NQ h x c (qU _),Bd d,qif b]
 ·rw[P3 h (x++[123]) hl e,AJ (qu a b),RJ hl]
 ·rw[NQ h x hl e,AJ a,RJ hl]
 ·rw[P3 h x (qu hl a) d,Bd a,RJ hl]
 ·rw[NQ h x (qu hl e) (qU _),Bd d,RJ (qu hl a)]
section
variable {β:Type}{size:β->Nat}
theorem ZO:∀{A B:List β},(∀a∈A,size a<=size x)->(∀b∈B,size x < size b)->vY size x (A++B)=A++x :: B
 | [],[],_,_=>rfl
 | [],b :: B,_,h=>by
  show (if size x < size b then x :: b :: B else b :: vY size x B)=_
  rw[if_pos (h b zB)];rfl
 | a :: A,B,h,k=>by
  show (if size x < size a then x :: a :: (A++B) else a :: vY size x (A++B))=_
  rw[if_neg (Nat.not_lt_of_le (h a zB)),ZO (λb hb=>h b (zI _ hb)) k];rfl
theorem Pt:∀{l A B:List β},(∀x∈l,size x=t)->(∀a∈A,size a<=t)->(∀b∈B,t < size b)->zW size (A++B) l=A++l++B
 | [],A,B,_,_,_=>by rw[jF];rfl
 | x :: l,A,B,h,ha,hb=>by
  have hx:=h x zB
  show zW size (vY size x (A++B)) l=_
  rw[ZO (λa q=>hx.symm▸ha a q) (λb q=>hx.symm▸hb b q),show A++x :: B=(A++[x])++B by rw[jq];rfl,
   Pt (λy q=>h y (zI _ q)) (λa q=>by
    rcases zT.mp q with q | q
    ·exact ha a q
    ·obtain rfl:=zE.mp q;exact BK hx) hb,jq,jq,jq]
  rfl
end
noncomputable def wI (ws:List Wd)(t:Nat)(x:Wd×Wd)(l fu:List (Wd×Wd))(R:List Be):List (Wd×Wd)×List (Wd×Wd)×List Be :=
 if qN ⟨x.1,x.2,t⟩∈R.map qN then (l,fu,R) else
  match qN ⟨x.1,x.2,t⟩ with
  | ([],[])=>(l,fu,R++[⟨x.1,x.2,t⟩])
  | (a,[])=>(l++ws.map λw=>(a,w),fu,R++[⟨x.1,x.2,t⟩])
  | ([],_ :: _)=>(l,fu,R++[⟨x.1,x.2,t⟩])
  | (c :: a,d :: b)=>if c=d then (l,fu++[(a,b)],R++[⟨x.1,x.2,t⟩]) else (l,fu,R++[⟨x.1,x.2,t⟩])
noncomputable def Bh (ws:List Wd)(t:Nat):Nat->List (Wd×Wd)->List (Wd×Wd)->List Be->Option (List Be×List (Wd×Wd))
 | _,[],fu,R=>qa (R,fu)
 | 0,_ :: _,_,_=>qb
 | f+1,x :: l,fu,R=>Bh ws t f (wI ws t x l fu R).1 (wI ws t x l fu R).2.1 (wI ws t x l fu R).2.2
noncomputable def outer (ws:List Wd)(f:Nat):Nat->Nat->List (Wd×Wd)->List Be->Option (List Be)
 | _,_,[],R=>qa R
 | 0,_,_ :: _,_=>qb
 | g+1,t,x :: l,R=>match Bh ws t f (x :: l) [] R with
  | some p=>outer ws f g (t+1) p.2 p.1
  | none=>qb
noncomputable def v9 (t:Nat)(x:Wd×Wd):Be:=⟨x.1,x.2,t⟩
theorem P7 {f:Nat}{R:List Be}:Bh ws t f [] fu R=qa (R,fu):=by cases f <;> rfl
theorem qbg {g:Nat}:outer ws f g t [] R=qa R:=by cases g <;> rfl
theorem rI (x:Wd×Wd)(l fu:List (Wd×Wd))(R:List Be)(g:Nat) :
  jW qN Be.t (km ws) (g+1) ((x :: l).map (v9 t)++fu.map (v9 (t+1))) R=jW qN Be.t (km ws) g ((wI ws t x l fu R).1.map (v9 t)++(wI ws t x l fu R).2.1.map (v9 (t+1))) (wI ws t x l fu R).2.2:=by
 have all1:∀a∈l.map (v9 t),Be.t a<=t:=λa ha=>by obtain⟨y,_,rfl⟩:=qG.mp ha;exact qU _
 have all2:∀a∈fu.map (v9 (t+1)),t < Be.t a:=λa ha=>by obtain⟨y,_,rfl⟩:=qG.mp ha;exact M0 _
 unfold wI
 by_cases hk:qN ⟨x.1,x.2,t⟩∈R.map qN
 ·rw[if_pos hk];exact if_pos hk
 ·rw[if_neg hk]
  refine(if_neg hk).trans ?_
  show jW qN Be.t (km ws) g (zW Be.t (l.map (v9 t)++fu.map (v9 (t+1))) (km ws ⟨x.1,x.2,t⟩)) (R++[⟨x.1,x.2,t⟩])=_
  cases hn:qN ⟨x.1,x.2,t⟩ with
  | mk a b =>
   have hs:km ws ⟨x.1,x.2,t⟩=GR ws t (a,b):=by unfold km;rw[hn]
   cases a with
   | nil=>cases b <;> (rw[hs];rfl)
   | cons c a =>
    cases b with
    | nil =>
     rw[hs]
     show jW qN Be.t (km ws) g (zW Be.t _ (ws.map λw=>⟨c :: a,w,t⟩)) _=jW qN Be.t (km ws) g ((l++ws.map λw=>(c :: a,w)).map (v9 t)++fu.map (v9 (t+1))) _
     rw[Pt (t:=t) (λy hy=>by obtain⟨w,_,rfl⟩:=qG.mp hy;rfl) all1 all2,jQ,wX]
     rfl
    | cons d b =>
     have hs:km ws ⟨x.1,x.2,t⟩=if c=d then [⟨a,b,t+1⟩] else []:=hs
     by_cases q:c=d
     ·rw[hs,if_pos q]
      have:=Pt (size:=Be.t) (t:=t+1) (l:=[(⟨a,b,t+1⟩:Be)]) (A:=l.map (v9 t)++fu.map (v9 (t+1))) (B:=[]) (λy hy=>by obtain rfl:=zE.mp hy;rfl)
       (λy hy=>by
        rcases zT.mp hy with hy | hy
        ·exact HN (all1 y hy)
        ·obtain⟨z,_,rfl⟩:=qG.mp hy;exact qU _) (λ_ q=>nomatch q)
      rw[jF,jF] at this
      rw[this]
      simp only[if_pos q]
      rw[jQ,jq]
      rfl
     ·rw[hs,if_neg q]
      simp only[if_neg q]
      rfl
theorem SL:∀{f:Nat}{l fu:List (Wd×Wd)}{R R':List Be},jW qN Be.t (km ws) f (l.map (v9 t)++fu.map (v9 (t+1))) R=qa R' ->
  ∃R1 fu1 f1,Bh ws t f l fu R=qa (R1,fu1)/\f1<=f/\(l≠[]->f1 < f)/\jW qN Be.t (km ws) f1 (fu1.map (v9 (t+1))) R1=qa R'
 | f,[],fu,R,R',h=>⟨R,fu,f,P7,qU _,λq=>absurd rfl q,h⟩
 | 0,x :: l,fu,R,R',h=>nomatch h
 | f+1,x :: l,fu,R,R',h=>by
  rw[rI] at h
  obtain⟨R1,fu1,f1,h1,h2,_,h3⟩:=SL h
  refine⟨R1,fu1,f1,h1,HN h2,λ_=>qig h2,h3⟩
theorem Zu:∀{f F:Nat}{l fu:List (Wd×Wd)}{R:List Be}{p:List Be×List (Wd×Wd)},f<=F->Bh ws t f l fu R=qa p->Bh ws t F l fu R=qa p
 | f,F,[],fu,R,p,_,h=>by
  exact P7.trans (P7.symm.trans h)
 | 0,_,_ :: _,_,_,_,_,h=>nomatch h
 | f+1,0,_ :: _,_,_,_,hF,_=>nomatch hF
 | f+1,F+1,x :: l,fu,R,p,hF,h=>Zu (l:=(wI ws t x l fu R).1) (qih hF) h
theorem qeC:∀(f:Nat){g t:Nat}{l:List (Wd×Wd)}{R R':List Be},f<=F->f<=g->jW qN Be.t (km ws) f (l.map (v9 t)) R=qa R'->outer ws F g t l R=qa R':=by
 intro f
 induction f using Nat.strongRecOn with
 | ind f ih =>
  intro g t l R R' hF hg h
  cases l with
  | nil =>
   exact qbg.trans ((H3 (key:=qN) (size:=Be.t) (succ:=km ws)).symm.trans h)
  | cons x l =>
   obtain⟨R1,fu1,f1,h1,_,h2,h3⟩:=SL (l:=x :: l) (fu:=[]) (f:=f) (by rw[qh7,jF];exact h)
   have qQ:=h2 (JM _ _)
   cases g with
   | zero=>lia
   | succ g =>
    show (match Bh ws t F (x :: l) [] R with | some p=>outer ws F g (t+1) p.2 p.1 | none=>qb)=_
    rw[Zu hF h1]
    exact ih f1 qQ (by lia) (by lia) h3
noncomputable def OY (w:Wd):List Wd:=(zx (w.length+1)).map λk=>w.drop k
noncomputable def j9 (ws:List Wd):List Wd:=ws.flatMap OY
theorem Gy:r∈j9 ws↔∃w∈ws,r <:+ w:=by
 unfold j9 OY
 rw[kU]
 constructor
 ·rintro ⟨w,hw,h⟩
  obtain⟨k,_,rfl⟩:=qG.mp h
  refine⟨w,hw,J8 k w⟩
 ·rintro ⟨w,hw,h⟩
  refine⟨w,hw,qG.mpr ⟨w.length - r.length,jG.mpr (by lia),(List.suffix_iff_eq_drop.mp h).symm⟩⟩
theorem Ee {f:α->List β}{B:Nat}:∀{l:List α},(∀a∈l,(f a).length<=B)->(l.flatMap f).length<=l.length * B
 | [],_=>zN _
 | a :: l,h=>by
  rw[M1,zw,vV,Z6]
  have h1:=h a zB
  have h2:=Ee (l:=l) λb hb=>h b (zI _ hb)
  lia
theorem Kg (h:∀w∈ws,w.length<=3):(j9 ws).length<=ws.length * 4 :=
 Ee λw hw=>by rw[OY,qH,Ck];have:=h w hw;lia
theorem Gv (r:Wd)(s:Nat):(v3 ws r s).length<=ws.length:=by
 have:=F5 (λj=>decide (s<=j)&&r.isPrefixOf (qI ws j)) (zx ws.length)
 rw[Ck] at this;exact this
theorem Jz (r:Wd):(wN ws r).length<=ws.length:=by
 have:=F5 (λj=>qI ws j == r) (zx ws.length)
 rw[Ck] at this;exact this
theorem Je (h:∀w∈ws,w.length<=3)(k:∃w∈ws,r <:+ w):r.length<=3:=by
 obtain⟨w,hw,s⟩:=k
 exact qu s.length_le (h w hw)
noncomputable abbrev PQ (ws:List Wd)(e:Qe):Prop:=∃w∈ws,e.rest <:+ w
theorem Wz (h:e∈BS ws):PQ ws e:=by
 unfold BS at h
 rcases zT.mp h with h | h
 ·obtain⟨i,hi,rfl⟩:=qG.mp h
  obtain⟨h1,h2⟩:=Et.mp hi
  refine⟨_,BB h1,List.nil_suffix⟩
 ·obtain⟨i,hi,h⟩:=kU.mp h
  obtain⟨j,hj,rfl⟩:=qG.mp h
  refine⟨_,BB (B1.mp hj).1,J8 ..⟩
theorem W6 (p:PQ ws e)(h:e'∈ju ws e):PQ ws e':=by
 unfold ju at h
 by_cases hr:e.rest=[]
 ·rw[if_pos hr] at h;cases h
 rw[if_neg hr] at h
 rcases zT.mp h with h | h
 ·obtain⟨j,hj,rfl⟩:=qG.mp h
  refine⟨_,BB (B1.mp hj).1,J8 ..⟩
 ·obtain⟨k,hk,h⟩:=kU.mp h
  obtain⟨j,hj,rfl⟩:=qG.mp h
  obtain⟨w,hw,s⟩:=p
  refine⟨w,hw,(J8 ..).trans s⟩
theorem SJ (h3:∀w∈ws,w.length<=3){e:Qe}(p:PQ ws e):(ju ws e).length<=ws.length * 3:=by
 have hl:=Je h3 p
 unfold ju
 by_cases hr:e.rest=[]
 ·rw[if_pos hr];exact zN _
 rw[if_neg hr,zw,qH]
 have h1:=Gv (ws:=ws) e.rest 0
 have h2:((zx (e.rest.length - 1)).flatMap λk=>(wN ws (e.rest.take (k+1))).map λj=>(⟨e.size,e.rest.drop (k+1),e.ahead,e.behind++[j],e.turned⟩:Qe)).length<=(zx (e.rest.length - 1)).length * ws.length :=
  Ee λk _=>by rw[qH];exact Jz _
 rw[Ck] at h2
 have h3:(e.rest.length - 1) * ws.length<=2 * ws.length:=DV _ (by lia)
 lia
theorem qbN (h3:∀w∈ws,w.length<=3)(hq:∀e∈q,e∈BS ws)(hf:q.length+ws.length * 4 * (ws.length * 3)<=f):∃R,jW Qe.rest Qe.size (ju ws) f q []=qa R:=by
 refine KK (U:=j9 ws) (B:=ws.length * 3) (P:=PQ ws) (λe p e' h=>W6 p h) (λe p=>Gy.mpr p) (λe p=>SJ h3 p) f q [] (λe he=>Wz (hq e he)) ?_
 have h1:(CX Qe.rest (j9 ws) []).length<=ws.length * 4:=qu (F5 ..) (Kg h3)
 have:=DV (ws.length * 3) h1
 lia
noncomputable abbrev PB (ws:List Wd)(e:Be):Prop:=(∃w∈ws,e.one <:+ w)/\∃w∈ws,e.two <:+ w
theorem XZ (p:PB ws e):(∃w∈ws,(qN e).1 <:+ w)/\∃w∈ws,(qN e).2 <:+ w:=by
 rcases Fc e with q | q <;> rw[q]
 ·exact p
 ·exact p.symm
theorem yA (p:PB ws e)(h:e'∈km ws e):PB ws e':=by
 unfold km at h
 have p:=XZ p
 cases hn:qN e with
 | mk a b =>
  rw[hn] at h p
  cases a with
  | nil=>cases b <;> cases h
  | cons c a =>
   cases b with
   | nil =>
    obtain⟨w,hw,rfl⟩:=qG.mp h
    refine⟨p.1,w,hw,J9 w⟩
   | cons d b =>
    have h:e'∈(if c=d then [⟨a,b,e.t+1⟩] else []:List Be):=h
    by_cases q:c=d
    ·rw[if_pos q] at h
     obtain rfl:=zE.mp h
     obtain⟨⟨w,hw,s⟩,v,hv,u⟩:=p
     refine⟨⟨w,hw,(qii c a).trans s⟩,v,hv,(qii d b).trans u⟩
    ·rw[if_neg q] at h;cases h
theorem qbQ (e:Be):(km ws e).length<=ws.length+1:=by
 unfold km
 cases qN e with
 | mk a b =>
  cases a with
  | nil=>cases b <;> exact zN _
  | cons c a =>
   cases b with
   | nil=>show (ws.map _).length<=_;rw[qH];exact DU _
   | cons d b =>
    show (if c=d then [(⟨a,b,e.t+1⟩:Be)] else []).length<=_
    by_cases q:c=d
    ·rw[if_pos q];exact Ao (zN _)
    ·rw[if_neg q];exact zN _
theorem nK (h3:∀w∈ws,w.length<=3){f:Nat}(hf:(CR ws).length+ws.length * 4 * (ws.length * 4) * (ws.length+1)<=f):∃R,jW qN Be.t (km ws) f (CR ws) []=qa R:=by
 refine KK (U:=(j9 ws).flatMap λa=>(j9 ws).map λb=>(a,b)) (B:=ws.length+1) (P:=PB ws) (λe p e' h=>yA p h) (λe p=>?_) (λe _=>qbQ e) f _ [] (λe he=>?_) ?_
 ·have p:=XZ p
  exact kU.mpr ⟨_,Gy.mpr p.1,qG.mpr ⟨_,Gy.mpr p.2,rfl⟩⟩
 ·obtain⟨i,hi,h⟩:=kU.mp he
  obtain⟨j,hj,rfl⟩:=qG.mp h
  have hi:=jG.mp hi
  have hj:=jG.mp hj
  refine⟨⟨_,BB hi,J9 _⟩,_,BB (C7 hj hi),J9 _⟩
 ·have h0:=Kg h3
  have h1:((j9 ws).flatMap λa=>(j9 ws).map λb=>(a,b)).length<=(j9 ws).length * (j9 ws).length:=Ee λa _=>by rw[qH];exact qU _
  have h2:(CX qN ((j9 ws).flatMap λa=>(j9 ws).map λb=>(a,b)) []).length<=(j9 ws).length * (j9 ws).length:=qu (F5 ..) h1
  have h4:(j9 ws).length * (j9 ws).length<=ws.length * 4 * (ws.length * 4):=EG h0 h0
  have:=DV (ws.length+1) (qu h2 h4)
  lia
noncomputable def Bk (ws:List Wd):List Qe:=(wN ws []).map λi=>⟨0,[],[i],[],0⟩
noncomputable def Jk (ws:List Wd):List Qe:=(zx ws.length).flatMap λi=>(v3 ws (qI ws i) (i+1)).map λj=>⟨(qI ws j).length,(qI ws j).drop (qI ws i).length,[j],[i],0⟩
noncomputable def DK (ws:List Wd):List Qe:=zW Qe.size (Bk ws) (Jk ws)
theorem K9 (e:Qe):e∈DK ws↔e∈BS ws:=by
 unfold DK
 rw[Dk]
 show _↔e∈Bk ws++Jk ws
 rw[zT]
 exact Or.comm
theorem K5:∀{l:List β},(∀e∈l,size e=t)->jR size l
 | [],_=>.nil
 | x :: l,h=>wq.mpr ⟨λa ha=>BK ((h x zB).trans (h a (zI _ ha)).symm),K5 λe he=>h e (zI _ he)⟩
theorem lX:jR Qe.size (DK ws):=B4 (K5 (t:=0) λe he=>by obtain⟨i,_,rfl⟩:=qG.mp he;rfl)
noncomputable def Ed (ws:List Wd):List (Wd×Wd):=(zx ws.length).flatMap λi=>(zx i).map λj=>(qI ws i,qI ws j)
theorem Wo:(Ed ws).map (v9 0)=CR ws:=by
 unfold Ed CR
 rw[List.map_flatMap]
 congr 1
 funext i
 rw[wX]
 rfl
theorem qeM:jR Be.t (CR ws):=K5 (t:=0) λe he=>by
 obtain⟨i,_,h⟩:=kU.mp he
 obtain⟨j,_,rfl⟩:=qG.mp h
 rfl
theorem Sn:(DK ws).length<=ws.length+ws.length * ws.length:=by
 unfold DK
 rw[E6]
 have h1:(Bk ws).length<=ws.length:=by unfold Bk;rw[qH];exact Jz _
 have h2:(Jk ws).length<=(zx ws.length).length * ws.length:=Ee λi _=>by rw[qH];exact Gv _ _
 rw[Ck] at h2
 lia
theorem Vm:(CR ws).length<=ws.length * ws.length:=by
 have:(CR ws).length<=(zx ws.length).length * ws.length:=Ee λi hi=>by rw[qH,Ck];exact va (jG.mp hi)
 rw[Ck] at this;exact this
theorem qcf (h:ku ws)(h3:∀w∈ws,w.length<=3)(h5:ws.length<=5) :
  ∃R S,jW Qe.rest Qe.size (ju ws) 400 (DK ws) []=qa R/\outer ws 3000 3000 0 (Ed ws) []=qa S /\
   (R.map Qe.rest).Nodup/\jR Qe.size R/\(∀e∈R,Cr ws e)/\((zH ws S).map (·.1)).Nodup/\(∀r,r∈R.map Qe.rest↔r∈(zH ws S).map (·.1))/\∀e∈R,(e.rest,e.size)∈zH ws S:=by
 have hs:=h.inRow
 have a1:=Sn (ws:=ws)
 have a2:=Vm (ws:=ws)
 have m1:ws.length * ws.length<=5 * 5:=EG h5 h5
 have m2:ws.length * 4 * (ws.length * 3)<=5 * 4 * (5 * 3):=EG (DV 4 h5) (DV 3 h5)
 have m3:ws.length * 4 * (ws.length * 4) * (ws.length+1)<=5 * 4 * (5 * 4) * (5+1):=EG (EG (DV 4 h5) (DV 4 h5)) (Ao h5)
 obtain⟨R,hR⟩:=qbN h3 (q:=DK ws) (λe he=>(K9 e).mp he) (f:=400) (by lia)
 obtain⟨S,hS⟩:=nK (ws:=ws) h3 (f:=3000) (by lia)
 have r:=sV hs K9 lX hR
 have s:=QU (ws:=ws) (λe=>Iff.rfl) qeM hS
 have g:=qbp hs r s
 refine⟨R,S,hR,qeC 3000 (qU _) (qU _) (by rw[Wo];exact hS),r.1,r.2.1,r.2.2.1,(VV hs s.1 s.2.2.1 s.2.2.2).1,g.1,g.2⟩
section
variable {β:Type}{word:β->Wd}
noncomputable def wb (word:β->Wd)(x:β):List β->List β
 | []=>[x]
 | y :: r=>if qR (word x) (word y)=qe then x :: y :: r else y :: wb word x r
theorem Ot:wb word x (y :: r)=if qR (word x) (word y)=qe then x :: y :: r else y :: wb word x r:=rfl
theorem P1 (x:β):∀l:List β,(wb word x l).Perm (x :: l)
 | []=>.refl _
 | y :: r=>by
  rw[Ot]
  by_cases h:qR (word x) (word y)=qe
  ·rw[if_pos h]
  ·rw[if_neg h]
   exact((P1 x r).cons y).trans (.swap x y r)
theorem Xc (x:β):∀{l:List β},(l.Pairwise λa b=>qR (word b) (word a)=qg)->(wb word x l).Pairwise λa b=>qR (word b) (word a)=qg
 | [],_=>MY ..
 | y :: r,h=>by
  obtain⟨h1,h2⟩:=wq.mp h
  rw[Ot]
  by_cases q:qR (word x) (word y)=qe
  ·rw[if_pos q]
   refine wq.mpr ⟨λa ha=>?_,h⟩
   rcases jJ.mp ha with rfl | ha
   ·exact OV q
   ·cases e:qR (word a) (word x) with
    | false=>rfl
    | true=>have:=N6 (Ff q (h1 a ha)) e;exact this.elim
  ·rw[if_neg q]
   refine wq.mpr ⟨λa ha=>?_,Xc x h2⟩
   rcases jJ.mp ((P1 x r).mem_iff.mp ha) with rfl | ha
   ·exact qhQ.mpr q
   ·exact h1 a ha
theorem Yh (x:β):∀l:List β,(wb word x l).map word=wb id (word x) (l.map word)
 | []=>rfl
 | y :: r=>by
  show (if qR (word x) (word y)=qe then x :: y :: r else y :: wb word x r).map word=if qR (word x) (word y)=qe then word x :: word y :: r.map word else word y :: wb id (word x) (r.map word)
  by_cases h:qR (word x) (word y)=qe
  ·rw[if_pos h,if_pos h];rfl
  ·rw[if_neg h,if_neg h,z7,Yh x r]
end
open PySem PySem.W PyProof.Rows
section
open PySem.SeqAt
noncomputable def Dy (r:List Nat)(x:Nat):List Nat->List Nat
 | []=>[x]
 | y :: l=>if r.getD x 0 < r.getD y 0 then x :: y :: l else y :: Dy r x l
noncomputable def EW (r:List Nat):List Nat:=(zx r.length).foldl (λl x=>Dy r x l) []
noncomputable def KD (n:Nat):Nat->List (List Nat)
 | 0=>[[]]
 | k+1=>(KD n k).flatMap λv=>(zx n).map λx=>x :: v
noncomputable def IN (r:List Nat)(i j:Nat):Option Bool:=bn1 (qy r i) λa=>bn1 (qy r j) λb=>qa (z3 a b)
noncomputable def PO (r:List Nat):Bool:=match CC (IN r) (MB r.length) with | some p=>p.toList == EW r | none=>qg
noncomputable def canon (r:List Nat):Bool:=r.all λx=>zQ x (r.countP λy=>z3 y x)
noncomputable def H4 (n:Nat):Bool:=(KD n n).all λr=>cond (canon r) (PO r) qe
theorem qaf:H4 2=qe:=by decide +kernel
theorem tK:H4 3=qe:=by decide +kernel
theorem qd3:H4 4=qe:=by decide +kernel
theorem yT:H4 5=qe:=by decide +kernel
end
end Mine.Internal.Sp
namespace Mine.Internal
open PySem PySem.W PyProof.Rows
noncomputable def gT:List (qf×qh):=[(⟨#[105,110,115,111,114,116,95,114,105,103,104,116]⟩,.ref 47),(⟨#[98,105,115,101,99,116,95,114,105,103,104,116]⟩,.ref 56),(⟨#[98,105,115,101,99,116,95,108,101,102,116]⟩,.ref 65),(⟨#[105,110,95,116,97,98,108,101,95,98,49]⟩,.ref 83),(⟨#[109,97,112,95,116,97,98,108,101,95,98,51]⟩,.ref 129),(⟨#[105,110,95,116,97,98,108,101,95,99,49,49]⟩,.ref 136),(⟨#[72,101,97,100,101,114,115]⟩,.ref 269),(⟨#[95,108,97,119,95,100,114,97,119,110]⟩,.ref 280),(⟨#[95,108,97,119,95,102,111,108,100]⟩,.ref 287),(⟨#[95,108,97,119,95,115,105,122,101]⟩,.ref 294),(⟨#[95,108,97,119,95,98,101,103,117,110]⟩,.ref 301),(⟨#[95,108,97,119,95,115,101,97,114,99,104]⟩,.ref 306),(⟨#[95,108,97,119,95,108,101,97,115,116]⟩,.ref 311),(⟨#[95,108,97,119,95,115,104,111,119,110]⟩,.ref 316),(⟨#[95,108,97,119,95,102,111,117,110,100]⟩,.ref 321),(⟨#[108,97,119]⟩,.ref 326),(⟨#[98,49,95,115,101,116]⟩,.ref 73),(⟨#[98,51,95,101,120,99,101,112,116,105,111,110,115]⟩,.ref 84),(⟨#[95,110,97,109,101,95,100,105,115,97,108,108,111,119,101,100,95,114,101]⟩,.ref 141),(⟨#[95,118,97,108,117,101,95,100,105,115,97,108,108,111,119,101,100,95,114,101]⟩,.ref 146),(⟨#[108,101,110]⟩,.builtin "len"),(⟨#[99,104,114]⟩,.builtin "chr"),(⟨#[111,114,100]⟩,.builtin "ord"),(⟨#[105,115,105,110,115,116,97,110,99,101]⟩,.builtin "isinstance"),(⟨#[109,105,110]⟩,.builtin "min"),(⟨#[115,111,114,116,101,100]⟩,.builtin "sorted"),(⟨#[114,97,110,103,101]⟩,.type "range"),(⟨#[108,105,115,116]⟩,.type "list"),(⟨#[116,121,112,101]⟩,.type "type"),(⟨#[98,111,111,108]⟩,.type "bool"),(⟨#[115,116,114]⟩,.type "str"),(⟨#[115,101,116]⟩,.type "set")]
noncomputable def gG (x:qf):Option qh:=gT.lookup x
noncomputable def tabs:List (qj×qj):=[(46,42),(55,51),(64,60),(82,78),(128,124),(135,131),(160,156),(167,163),(215,211),(220,218),(232,228),(258,254),(279,275),(286,282),(293,289),(300,296),(305,303),(310,308),(315,313),(320,318),(325,323)]
section
variable {P:zC}{led:Bool}{D:Nat->zk}
theorem hg (i:Nat)(hi:i < nF)(e:(TF P led D).get i=qa o)(ha:ED o=qa o):(H1 P led D).get? i=qa o:=(Rh hi e).trans ha
theorem g4:(H1 P led D).get? 4=qa (jY P led D 4):=hg 4 (by decide) (by kernel_rfl) (by kernel_rfl)
theorem qaz:(H1 P led D).get? 39=qa (jY P led D 39):=hg 39 (by decide) (by kernel_rfl) (by kernel_rfl)
theorem dJ:(H1 P led D).get? 46=qa (jY P led D 46):=hg 46 (by decide) (by kernel_rfl) (by kernel_rfl)
theorem qeb:(H1 P led D).get? 47=qa (jY P led D 47):=hg 47 (by decide) (by kernel_rfl) (by kernel_rfl)
theorem yR:(H1 P led D).get? 48=qa (jY P led D 48):=hg 48 (by decide) (by kernel_rfl) (by kernel_rfl)
theorem mA:(H1 P led D).get? 55=qa (jY P led D 55):=hg 55 (by decide) (by kernel_rfl) (by kernel_rfl)
theorem fW:(H1 P led D).get? 56=qa (jY P led D 56):=hg 56 (by decide) (by kernel_rfl) (by kernel_rfl)
theorem fY:(H1 P led D).get? 57=qa (jY P led D 57):=hg 57 (by decide) (by kernel_rfl) (by kernel_rfl)
theorem mR:(H1 P led D).get? 64=qa (jY P led D 64):=hg 64 (by decide) (by kernel_rfl) (by kernel_rfl)
theorem qdx:(H1 P led D).get? 65=qa (jY P led D 65):=hg 65 (by decide) (by kernel_rfl) (by kernel_rfl)
theorem xL:(H1 P led D).get? 73=qa (jY P led D 73):=hg 73 (by decide) (by kernel_rfl) (by kernel_rfl)
theorem fN:(H1 P led D).get? 140=qa (jY P led D 140):=hg 140 (by decide) (by kernel_rfl) (by kernel_rfl)
theorem Tm:(H1 P led D).get? 141=qa (jY P led D 141):=hg 141 (by decide) (by kernel_rfl) (by kernel_rfl)
theorem qdX:(H1 P led D).get? 145=qa (jY P led D 145):=hg 145 (by decide) (by kernel_rfl) (by kernel_rfl)
theorem Tk:(H1 P led D).get? 146=qa (jY P led D 146):=hg 146 (by decide) (by kernel_rfl) (by kernel_rfl)
theorem qdv:(H1 P led D).get? 154=qa (jY P led D 154):=hg 154 (by decide) (by kernel_rfl) (by kernel_rfl)
theorem qdy:(H1 P led D).get? 160=qa (jY P led D 160):=hg 160 (by decide) (by kernel_rfl) (by kernel_rfl)
theorem Nx:(H1 P led D).get? 161=qa (jY P led D 161):=hg 161 (by decide) (by kernel_rfl) (by kernel_rfl)
theorem qc1:(H1 P led D).get? 168=qa (jY P led D 168):=hg 168 (by decide) (by kernel_rfl) (by kernel_rfl)
theorem qav:(H1 P led D).get? 209=qa (jY P led D 209):=hg 209 (by decide) (by kernel_rfl) (by kernel_rfl)
theorem qfJ:(H1 P led D).get? 215=qa (jY P led D 215):=hg 215 (by decide) (by kernel_rfl) (by kernel_rfl)
theorem WF:(H1 P led D).get? 216=qa (jY P led D 216):=hg 216 (by decide) (by kernel_rfl) (by kernel_rfl)
theorem gJ:(H1 P led D).get? 221=qa (jY P led D 221):=hg 221 (by decide) (by kernel_rfl) (by kernel_rfl)
theorem mK:(H1 P led D).get? 233=qa (jY P led D 233):=hg 233 (by decide) (by kernel_rfl) (by kernel_rfl)
theorem qcF:(H1 P led D).get? 259=qa (jY P led D 259):=hg 259 (by decide) (by kernel_rfl) (by kernel_rfl)
theorem tP:(H1 P led D).get? 269=qa (jY P led D 269):=hg 269 (by decide) (by kernel_rfl) (by kernel_rfl)
theorem VY:(H1 P led D).get? 326=qa (jY P led D 326):=hg 326 (by decide) (by kernel_rfl) (by kernel_rfl)
noncomputable def at' (t:BT)(i:Nat):zk:=match t.get i with | some o=>o | none=>⟨.none,qb,.freed,#[]⟩
noncomputable def BO (o:zk):J6:=match o.data with | .func f=>f | _=>default
noncomputable def Ec (o:zk):Array qh:=match o.data with | .fields vs=>vs | _=>#[]
noncomputable def E1:qh->Nat | .str ..=>1 | .int ..=>2 | .bool ..=>3 | _=>0
noncomputable def ZH:Option qh->Option qf | some (.str q _)=>qa q | _=>qb
noncomputable def KZ:zk:={ cls:=.none,data:=.fields #[] }
noncomputable def Sv (t:BT)(D:jj)(c:Nat):=(JC D&&tabs.any (λx=>zQ x.1 c)&&z3 D.addr nF&&z3 c nF,((t.get D.addr,ED (at' t D.addr),(at' t D.addr).data),(t.get c,ED (at' t c),(at' t c).data,(at' t c).cls,ZH (Ec (at' t c))[1]?)),
 ((BO (at' t D.addr)).params,(BO (at' t D.addr)).body,(BO (at' t D.addr)).scope),((BO (at' t D.addr)).globals,(BO (at' t D.addr)).builtins,(BO (at' t D.addr)).closure,(BO (at' t D.addr)).code),((BO (at' t D.addr)).defaults,D.dflts,(BO (at' t D.addr)).kwdefaults,D.kwd))
noncomputable def Yx (t:BT)(D:jj)(c:Nat):=(qe,((qa (at' t D.addr),qa (at' t D.addr),Data.func (BO (at' t D.addr))),(qa (at' t c),qa (at' t c),qij (Ec (at' t c)),EI "code", qa (BO (at' t D.addr)).qualname)),
 (D.args,qjg D.body,D.scope),(kT,vi,([]:List (qf×qj)),Hx c),(qik,([]:List V),qik,([]:List (qf×V))))
theorem sA (h:ZH v=qa q):∃t,v=qa (.str q t):=by
 cases v with
 | none=>exact nn h
 | some v=>cases v with
  | str a b=>refine⟨b,zc h▸rfl⟩
  | _=>exact nn h
theorem wE (e:Sv (TF P led D) Q c=Yx (TF P led D) Q c):ko (H1 P led D) tabs Q:=by
 simp only[Sv,Yx,aH,jT] at e
 obtain⟨⟨⟨⟨a1,a2⟩,a3⟩,a4⟩,⟨⟨b1,b2,b3⟩,b4,b5,b6,b7,b8⟩,⟨c1,c2,c3⟩,⟨d1,d2,d3,d4⟩,e1,e2,e3,e4⟩:=e
 obtain⟨x,hx,hc⟩:=C0.mp a2
 obtain⟨tq,hq⟩:=sA b8
 refine⟨a1,_,_,hg _ (kE.mp a3) b1 b2,b3,c1,c2,c3,d1,d2,d3,⟨c,_,_,tq,d4,hg _ (kE.mp a4) b4 b5,b7,b6,hq⟩,⟨x,hx,?_⟩,.inl ⟨e1,e2⟩,.inl ⟨e3,e4⟩⟩
 rw[wn hc];exact d4
noncomputable def PV (t:BT)(x:qj×qj):=(((z3 x.1 nF,z3 x.2 nF,zQ x.1 x.2),(t.get x.1,ED (at' t x.1)),(at' t x.1).cls,(at' t x.1).data),(t.get x.2,ED (at' t x.2)),
 ((Ec (at' t x.1))[11]?,E1 ((Ec (at' t x.1)).getD 18 .none),E1 ((Ec (at' t x.1)).getD 7 .none),E1 ((Ec (at' t x.1)).getD 9 .none),E1 ((Ec (at' t x.1)).getD 10 .none)))
noncomputable def NM (t:BT)(x:qj×qj):=(((qe,qe,qg),(qa (at' t x.1),qa (at' t x.1)),EI "code", qij (Ec (at' t x.1))),(qa KZ,qa KZ),(qa (Hx x.2),1,2,3,2))
theorem yC (h:E1 v=1):∃a b,v=.str a b:=by
 cases v with
 | str a b=>refine⟨a,b,rfl⟩
 | _=>exact nomatch h
theorem Sr (h:E1 v=2):∃a b,v=.int a b:=by
 cases v with
 | int a b=>refine⟨a,b,rfl⟩
 | _=>exact nomatch h
theorem qfB (h:E1 v=3):∃a,v=.bool a:=by
 cases v with
 | bool a=>refine⟨a,rfl⟩
 | _=>exact nomatch h
theorem fG {vs:Array qh}(h:vs[i]?=qa v):vs.getD i .none=v:=by rw[Array.getD_eq_getD_getElem?,h];rfl
theorem y7 {x:qj×qj}(e:PV (TF P led D) x=NM (TF P led D) x):(H1 P led D).IsCode x.1 x.2 #[]/\(H1 P led D).TableAt x.1 x.2 #[]:=by
 simp only[PV,NM,aH] at e
 obtain⟨⟨⟨a1,a2,a3⟩,⟨b1,b2⟩,b3,b4⟩,⟨c1,c2⟩,d1,d2,d3,d4,d5⟩:=e
 obtain⟨f1,f2,f⟩:=yC d2
 obtain⟨i1,i2,i⟩:=Sr d3
 obtain⟨j1,j⟩:=qfB d4
 obtain⟨k1,k2,k⟩:=Sr d5
 have p:=hg _ (kE.mp a1) b1 b2
 have q:(H1 P led D).get? x.2=qa KZ:=(Rh (kE.mp a2) c1).trans (by rw[<-c2];congr 1;unfold at';rw[c1])
 refine⟨⟨_,_,f1,f2,i1,i2,j1,k1,k2,KZ,p,b4,fG d1,f,i,j,k,q,rfl,trivial,aJ a3⟩,⟨_,_,p,b3,b4,d1⟩,q⟩
theorem Zx:∀x∈tabs,(H1 P led D).IsCode x.1 x.2 #[]/\(H1 P led D).TableAt x.1 x.2 #[]:=λx hx =>
 y7 (Ka.mp (show tabs.map (PV (TF P led D))=tabs.map (NM (TF P led D)) by kernel_rfl) x hx)
theorem lD:∀x∈tabs,∃ps,(H1 P led D).TableAt x.1 x.2 ps:=λx hx=>⟨_,(Zx x hx).2⟩
noncomputable def Zf:jj:=⟨47,fP (ix 3),fB (ix 3),fS (ix 3),[.int 0,.none],[(Gk,.none)]⟩
theorem qeQ:ko (H1 P led D) tabs Zf:=⟨by kernel_rfl,_,_,qeb,rfl,rfl,rfl,rfl,rfl,rfl,rfl,⟨46,_,_,_,rfl,dJ,rfl,rfl,rfl⟩,⟨(46,42),by decide,rfl⟩,.inr ⟨39,_,_,_,rfl,qaz,rfl,(.cons (.int _ _) (.cons .none .nil))⟩,.inr ⟨40,_,[(Gk,.none)],rfl,Heap.Ns.of_isNs (by kernel_rfl),.cons .none .nil,λn v h=>by
  have:=vN h
  simp at this;obtain⟨rfl,rfl⟩:=this
  kernel_rfl⟩⟩
noncomputable def T1:jj:=⟨56,fP (ix 4),fB (ix 4),fS (ix 4),[.int 0,.none],[(Gk,.none)]⟩
theorem qeJ:ko (H1 P led D) tabs T1:=⟨by kernel_rfl,_,_,fW,rfl,rfl,rfl,rfl,rfl,rfl,rfl,⟨55,_,_,_,rfl,mA,rfl,rfl,rfl⟩,⟨(55,51),by decide,rfl⟩,.inr ⟨48,_,_,_,rfl,yR,rfl,(.cons (.int _ _) (.cons .none .nil))⟩,.inr ⟨49,_,[(Gk,.none)],rfl,Heap.Ns.of_isNs (by kernel_rfl),.cons .none .nil,λn v h=>by
  have:=vN h
  simp at this;obtain⟨rfl,rfl⟩:=this
  kernel_rfl⟩⟩
noncomputable def XU:jj:=⟨65,fP (ix 5),fB (ix 5),fS (ix 5),[.int 0,.none],[(Gk,.none)]⟩
theorem xO:ko (H1 P led D) tabs XU:=⟨by kernel_rfl,_,_,qdx,rfl,rfl,rfl,rfl,rfl,rfl,rfl,⟨64,_,_,_,rfl,mR,rfl,rfl,rfl⟩,⟨(64,60),by decide,rfl⟩,.inr ⟨57,_,_,_,rfl,fY,rfl,(.cons (.int _ _) (.cons .none .nil))⟩,.inr ⟨58,_,[(Gk,.none)],rfl,Heap.Ns.of_isNs (by kernel_rfl),.cons .none .nil,λn v h=>by
  have:=vN h
  simp at this;obtain⟨rfl,rfl⟩:=this
  kernel_rfl⟩⟩
noncomputable def Zj:jj:=⟨83,fP (ix 8),fB (ix 8),fS (ix 8),[],[]⟩
theorem mW:ko (H1 P led D) tabs Zj:=wE (c:=82) (by kernel_rfl)
noncomputable def V2:jj:=⟨129,fP (ix 10),fB (ix 10),fS (ix 10),[],[]⟩
theorem qfg:ko (H1 P led D) tabs V2:=wE (c:=128) (by kernel_rfl)
noncomputable def Y1:jj:=⟨136,fP (ix 11),fB (ix 11),fS (ix 11),[],[]⟩
theorem qcr:ko (H1 P led D) tabs Y1:=wE (c:=135) (by kernel_rfl)
noncomputable def VD:jj:=⟨161,fP (cx 15 0),fB (cx 15 0),fS (cx 15 0),[.none],[]⟩
theorem lJ:ko (H1 P led D) tabs VD:=⟨by kernel_rfl,_,_,Nx,rfl,rfl,rfl,rfl,rfl,rfl,rfl,⟨160,_,_,_,rfl,qdy,rfl,rfl,rfl⟩,⟨(160,156),by decide,rfl⟩,.inr ⟨154,_,_,_,rfl,qdv,rfl,(.cons .none .nil)⟩,.inl ⟨rfl,rfl⟩⟩
noncomputable def UF:jj:=⟨168,fP (cx 15 1),fB (cx 15 1),fS (cx 15 1),[],[]⟩
theorem n6:ko (H1 P led D) tabs UF:=wE (c:=167) (by kernel_rfl)
noncomputable def Xy:jj:=⟨216,fP (cx 15 8),fB (cx 15 8),fS (cx 15 8),[.none],[]⟩
theorem qch:ko (H1 P led D) tabs Xy:=⟨by kernel_rfl,_,_,WF,rfl,rfl,rfl,rfl,rfl,rfl,rfl,⟨215,_,_,_,rfl,qfJ,rfl,rfl,rfl⟩,⟨(215,211),by decide,rfl⟩,.inr ⟨209,_,_,_,rfl,qav,rfl,(.cons .none .nil)⟩,.inl ⟨rfl,rfl⟩⟩
noncomputable def T3:jj:=⟨221,fP (cx 15 9),fB (cx 15 9),fS (cx 15 9),[],[]⟩
theorem pS:ko (H1 P led D) tabs T3:=wE (c:=220) (by kernel_rfl)
noncomputable def UO:jj:=⟨233,fP (cx 15 11),fB (cx 15 11),fS (cx 15 11),[],[]⟩
theorem xT:ko (H1 P led D) tabs UO:=wE (c:=232) (by kernel_rfl)
noncomputable def WT:jj:=⟨259,fP (cx 15 15),fB (cx 15 15),fS (cx 15 15),[],[]⟩
theorem qej:ko (H1 P led D) tabs WT:=wE (c:=258) (by kernel_rfl)
noncomputable def TO:jj:=⟨280,fP (ix 17),fB (ix 17),fS (ix 17),[],[]⟩
theorem gK:ko (H1 P led D) tabs TO:=wE (c:=279) (by kernel_rfl)
noncomputable def Wx:jj:=⟨287,fP (ix 18),fB (ix 18),fS (ix 18),[],[]⟩
theorem pM:ko (H1 P led D) tabs Wx:=wE (c:=286) (by kernel_rfl)
noncomputable def SB:jj:=⟨294,fP (ix 19),fB (ix 19),fS (ix 19),[],[]⟩
theorem gY:ko (H1 P led D) tabs SB:=wE (c:=293) (by kernel_rfl)
noncomputable def YZ:jj:=⟨301,fP (ix 20),fB (ix 20),fS (ix 20),[],[]⟩
theorem qbO:ko (H1 P led D) tabs YZ:=wE (c:=300) (by kernel_rfl)
noncomputable def YF:jj:=⟨306,fP (ix 21),fB (ix 21),fS (ix 21),[],[]⟩
theorem qf4:ko (H1 P led D) tabs YF:=wE (c:=305) (by kernel_rfl)
noncomputable def T8:jj:=⟨311,fP (ix 22),fB (ix 22),fS (ix 22),[],[]⟩
theorem yJ:ko (H1 P led D) tabs T8:=wE (c:=310) (by kernel_rfl)
noncomputable def Y8:jj:=⟨316,fP (ix 23),fB (ix 23),fS (ix 23),[],[]⟩
theorem mJ:ko (H1 P led D) tabs Y8:=wE (c:=315) (by kernel_rfl)
noncomputable def Vn:jj:=⟨321,fP (ix 24),fB (ix 24),fS (ix 24),[],[]⟩
theorem sE:ko (H1 P led D) tabs Vn:=wE (c:=320) (by kernel_rfl)
noncomputable def AA:jj:=⟨326,fP (ix 25),fB (ix 25),fS (ix 25),[],[]⟩
theorem lC:ko (H1 P led D) tabs AA:=wE (c:=325) (by kernel_rfl)
theorem N8:(H1 P led D).Ns kT ((H1 P led D).nsMap kT):=.of_isNs (IP P led D)
theorem Vd:(H1 P led D).Ns vi ((H1 P led D).nsMap vi):=.of_isNs (Ki P led D)
theorem Vi:(H1 P led D).Ns cStatics ((H1 P led D).nsMap cStatics):=.of_isNs (by kernel_rfl)
theorem iT:(H1 P led D).Ns Cb ((H1 P led D).nsMap Cb):=.of_isNs (by kernel_rfl)
theorem Ds {tabs:List (qj×qj)}(k:w6 qd tabs h)(x:qd.Ns a m)(ha:∀t∈tabs,a≠t.2):h.Ns a m :=
 (by obtain⟨o,es,ep,e,r⟩:=x;refine⟨o,es,ep,k _ _ e ha,r⟩)
theorem uQ (h:gG x=qa v):(H1 P led D).nsMap kT x=qa v\/((H1 P led D).nsMap kT x=qb/\(H1 P led D).nsMap vi x=qa v):=by
 have hm:(x,v)∈gT:=vN h
 have e1:(gT.take 20).map (λe=>(H1 P led D).nsMap kT e.1)=(gT.take 20).map λe=>qa e.2:=by kernel_rfl
 have e2:(gT.drop 20).map (λe=>(H1 P led D).nsMap kT e.1)=(gT.drop 20).map λe=>qb:=by kernel_rfl
 have e3:(gT.drop 20).map (λe=>(H1 P led D).nsMap vi e.1)=(gT.drop 20).map λe=>qa e.2:=by kernel_rfl
 rw[<-cM 20 gT] at hm
 rcases zT.mp hm with h1 | h1
 ·have q:=Ka.mp e1 _ h1
  exact .inl q
 ·have q:=Ka.mp e2 _ h1
  have q':=Ka.mp e3 _ h1
  exact .inr ⟨q,q'⟩
theorem De:∀t∈tabs,3 < t.2/\t.1 < 327/\t.2 < 327/\t.2≠4/\t.2≠326:=by decide
theorem base (hp:pw.given.tree=qb):qS pw (H1 P led D) gG tabs where
 size:=λh k=>by
  have:=Heap.lt_size (k 326 _ VY λt ht=>(De t ht).2.2.2.2.symm)
  rw[Ce];exact this
 tlt:=λx hx=>by
  have h2:(H1 P led D).objs.size=327:=Ce _ _ _
  rw[h2]
  refine⟨(De x hx).2.1,(De x hx).2.2.1⟩
 tnd:=by decide
 bmod:=λh k=>⟨_,4,_,Ds k N8 λt ht=>kR (De t ht).1,by kernel_rfl,by decide,k 4 _ g4 λt ht=>(De t ht).2.2.2.1.symm,rfl,rfl,rfl⟩
 noLimit:=λh k=>⟨_,Ds k Vi λt ht=>kR (AK (by decide) (De t ht).1),by kernel_rfl⟩
 noSeer:=λh k=>by
  have c:∀a:Nat,a<=3->∀t∈tabs,a≠t.2:=λa ha t ht=>kR (AK ha (De t ht).1)
  refine⟨⟨_,Ds k Vi (c 2 (by decide)),by kernel_rfl,by kernel_rfl⟩,⟨_,Ds k iT (c 1 (by decide)),by kernel_rfl⟩,
   ⟨_,Ds k Vd (c 0 (by decide)),Heap.of_bltView (Ki P led D) (UZ P led D)⟩,⟨_,4,_,Ds k N8 (c 3 (by decide)),by kernel_rfl,k 4 _ g4 λt ht=>(De t ht).2.2.2.1.symm,rfl,rfl⟩⟩
 tree:=hp
 glob:=λh k=>by
  have c:∀a:Nat,a<=3->∀t∈tabs,a≠t.2:=λa ha t ht=>kR (AK ha (De t ht).1)
  refine⟨_,_,Ds k N8 (c 3 (by decide)),Ds k Vd (c 0 (by decide)),λx v h=>uQ h⟩
theorem hat:HJ (H1 P led D) 269 268 ((H1 P led D).nsMap 268):=⟨⟨_,_,_,_,_,_,_,_,_,_,_,_,tP⟩,.of_isNs (by kernel_rfl)⟩
end
theorem u3:pw.given.tree=qb:=by kernel_rfl
noncomputable def LW:qf:=⟨#[105,116,101,109,115]⟩
noncomputable def Jr:qf:=⟨#[115,101,116,100,101,102,97,117,108,116]⟩
noncomputable def jB:qf:=⟨#[95,104,101,97,100,101,114,115]⟩
noncomputable def D8:qf:=⟨#[95,99,111,110,118,101,114,116,95,115,116,114,105,110,103,95,116,121,112,101]⟩
noncomputable def w7:qf:=⟨#[110,97,109,101]⟩
noncomputable def F8:qf:=⟨#[115,101,97,114,99,104]⟩
noncomputable def X7:S:=.assign (.var 3) (.ite (.var 2) (.glob (.ref 141)) (.glob (.ref 146)))
noncomputable def nL:S:=.bad
noncomputable def TG:S:=.ifs (.meth (.var 3) F8 [(.var 1)] [] []) [nL] []
noncomputable def yF:S:=.ret (.var 1)
noncomputable def Zv:S:=.ifs (.cmp .Is (.call (.glob (.type "type")) [(.var 1)] [] []) (.glob (.type "str"))) [X7,TG,yF] []
noncomputable def VT:S:=.bad
noncomputable def qba:List S:=[Zv,VT]
noncomputable def NO:ka:=⟨[⟨#[115,101,108,102]⟩,⟨#[118,97,108,117,101]⟩,w7,⟨#[114,101,103,101,120]⟩],[⟨#[115,101,108,102]⟩,⟨#[118,97,108,117,101]⟩],[w7],qb,[],[],qba⟩
noncomputable def XL:S:=.assign (.var 1) (.meth (.var 0) D8 [(.meth (.var 1) wG [] [] [])] [w7] [(.bool qe)])
noncomputable def VJ:S:=.ret (.var 4)
noncomputable def Md:S:=.ifs (.cmp .Eq (.meth (.var 3) wG [] [] []) (.var 1)) [VJ] []
noncomputable def Sw:S:=.for_ (.tup [3,4]) (.attr (.var 0) jB) [Md]
noncomputable def sH:S:=.ret (.var 2)
noncomputable def i8:List S:=[XL,Sw,sH]
noncomputable def KM:ka:=⟨[⟨#[115,101,108,102]⟩,w7,⟨#[100,101,102,97,117,108,116]⟩,⟨#[107]⟩,⟨#[118]⟩],[⟨#[115,101,108,102]⟩,w7,⟨#[100,101,102,97,117,108,116]⟩],[],qb,[.none],[],i8⟩
noncomputable def eA:S:=.ret (.lcomp 3 (.var 2) (.tup [2,3]) (.attr (.var 0) jB) [] [])
noncomputable def qcs:List S:=[eA]
noncomputable def NY:ka:=⟨[⟨#[115,101,108,102]⟩],[⟨#[115,101,108,102]⟩],[],qb,[],[],qcs⟩
noncomputable def Pv:S:=.assign (.var 3) (.meth (.var 0) vn [(.var 1)] [] [])
noncomputable def Tb:S:=.expr (.meth (.attr (.var 0) jB) DH [(.tuple [(.meth (.var 0) D8 [(.var 1)] [w7] [(.bool qe)]),(.meth (.var 0) D8 [(.var 2)] [w7] [(.bool qg)])])] [] [])
noncomputable def qcE:S:=.ret (.var 2)
noncomputable def xA:S:=.ret (.var 3)
noncomputable def Q2:S:=.ifs (.cmp .Is (.var 3) .none) [Tb,qcE] [xA]
noncomputable def qcH:List S:=[Pv,Q2]
noncomputable def Qj:ka:=⟨[⟨#[115,101,108,102]⟩,w7,⟨#[118,97,108,117,101]⟩,⟨#[114,101,115,117,108,116]⟩],[⟨#[115,101,108,102]⟩,w7,⟨#[118,97,108,117,101]⟩],[],qb,[],[],qcH⟩
noncomputable def rW:S:=.assign (.var 1) (.list [(.str ⟨#[97]⟩),(.str ⟨#[104]⟩),(.str ⟨#[107]⟩),(.str ⟨#[109]⟩),(.str ⟨#[112]⟩),(.str ⟨#[104,112]⟩),(.str ⟨#[112,104]⟩),(.str ⟨#[112,97]⟩),(.str ⟨#[109,97]⟩),(.str ⟨#[107,97]⟩),(.str ⟨#[107,107]⟩),(.str ⟨#[107,109]⟩),(.str ⟨#[104,112,97]⟩),(.str ⟨#[107,112,97]⟩),(.str ⟨#[109,112,97]⟩),(.str ⟨#[112,112,109]⟩),(.str ⟨#[]⟩)])
noncomputable def yY:S:=.assign (.var 2) (.list [(.int 13259),(.int 13271),(.int 13184),(.int 13187),(.int 13188),(.int 13261),(.int 13262),(.int 13169),(.int 13226),(.int 13227),(.int 13273)])
noncomputable def qfo:S:=.assign (.var 3) (.dconst [(119971,8459),(119976,8499),(120075,8460),(120127,8461),(120135,8473)])
noncomputable def rO:S:=.assign (.var 4) (.bin .Add (.list [(.int 173),(.int 847),(.int 6150),(.int 6155),(.int 6156),(.int 6157),(.int 8203),(.int 8204),(.int 8205),(.int 8288),(.int 65279)]) (.call (.glob (.type "list")) [(.call (.glob (.type "range")) [(.int 65024),(.int 65040)] [] [])] [] []))
noncomputable def qdD:S:=.assign (.var 5) (.bin .Mod (.var 0) (.int 17))
noncomputable def t6:S:=.assign (.var 6) (.bin .FloorDiv (.var 0) (.int 17))
noncomputable def iA:S:=.assign (.var 7) (.idx (.var 1) (.var 5))
noncomputable def tH:S:=.ret (.list [(.var 7),(.call (.glob (.builtin "chr")) [(.idx (.var 4) (.bin .Mod (.var 6) (.int 27)))] [] [])])
noncomputable def qeS:S:=.ifs (.cmp .Eq (.var 5) (.int 16)) [tH] []
noncomputable def qbw:S:=.ret (.list [(.var 7),(.call (.glob (.builtin "chr")) [(.ite (.and [(.cmp .Eq (.var 5) (.int 7)),(.cmp .Eq (.bin .Mod (.var 6) (.int 2)) (.int 1))]) (.int 13225) (.idx (.var 2) (.bin .Sub (.var 5) (.int 5))))] [] [])])
noncomputable def fJ:S:=.ifs (.cmp .Gt (.var 5) (.int 4)) [qbw] []
noncomputable def yS:S:=.assign (.var 8) (.bin .Mod (.var 6) (.int 15))
noncomputable def n7:S:=.ret (.list [(.var 7),(.call (.glob (.builtin "chr")) [(.bin .Sub (.call (.glob (.builtin "ord")) [(.var 7)] [] []) (.bin .Mult (.int 32) (.var 8)))] [] [])])
noncomputable def qaR:S:=.ifs (.cmp .Lt (.var 8) (.int 2)) [n7] []
noncomputable def pH:S:=.assign (.var 9) (.bin .Sub (.bin .Add (.bin .Add (.int 119808) (.bin .Mult (.int 52) (.bin .Sub (.var 8) (.int 2)))) (.call (.glob (.builtin "ord")) [(.var 7)] [] [])) (.int 97))
noncomputable def qcO:S:=.ret (.list [(.var 7),(.call (.glob (.builtin "chr")) [(.meth (.var 3) vn [(.var 9),(.var 9)] [] [])] [] [])])
noncomputable def uO:List S:=[rW,yY,qfo,rO,qdD,t6,iA,qeS,fJ,yS,qaR,pH,qcO]
noncomputable def OA:ka:=⟨[⟨#[110,117,109,98,101,114]⟩,⟨#[119,111,114,100,115]⟩,⟨#[115,113,117,97,114,101,115]⟩,⟨#[103,97,112,115]⟩,⟨#[110,111,116,104,105,110,103,115]⟩,⟨#[107,105,110,100]⟩,⟨#[116,117,114,110]⟩,⟨#[119,111,114,100]⟩,⟨#[115,116,121,108,101]⟩,⟨#[99,111,100,101]⟩],[⟨#[110,117,109,98,101,114]⟩],[],qb,[],[],uO⟩
noncomputable def rG:S:=.ret (.ite (.call (.glob (.ref 83)) [(.var 0)] [] []) (.str ⟨#[]⟩) (.call (.glob (.ref 129)) [(.var 0)] [] []))
noncomputable def rA:List S:=[rG]
noncomputable def PX:ka:=⟨[⟨#[115,105,103,110]⟩],[⟨#[115,105,103,110]⟩],[],qb,[],[],rA⟩
noncomputable def xU:S:=.ret (.idx (.var 0) (.int 0))
noncomputable def tB:List S:=[xU]
noncomputable def Qx:ka:=⟨[⟨#[114,101,97,100,105,110,103]⟩],[⟨#[114,101,97,100,105,110,103]⟩],[],qb,[],[],tB⟩
noncomputable def qfU:S:=.ret (.call (.glob (.type "list")) [(.call (.glob (.type "range")) [(.call (.glob (.ref 65)) [(.var 0),(.var 1),(.var 2)] [] []),(.call (.glob (.ref 65)) [(.var 0),(.bin .Add (.var 1) (.str ⟨#[123]⟩)),(.var 2)] [] [])] [] [])] [] [])
noncomputable def qgb:List S:=[qfU]
noncomputable def OC:ka:=⟨[⟨#[102,111,108,100,115]⟩,⟨#[114,101,115,116]⟩,⟨#[115,116,97,114,116]⟩],[⟨#[102,111,108,100,115]⟩,⟨#[114,101,115,116]⟩,⟨#[115,116,97,114,116]⟩],[],qb,[],[],qgb⟩
noncomputable def gB:S:=.assign (.var 2) (.call (.glob (.ref 269)) [] [] [])
noncomputable def qdH:S:=.assign (.var 3) (.sconst [])
noncomputable def uF:S:=.assign (.var 4) (.list [])
noncomputable def qcQ:S:=.assign (.var 6) (.lcomp 2 (.tuple [(.int 0),(.str ⟨#[]⟩),(.idx (.var 0) (.var 19)),(.str ⟨#[]⟩),(.int 0)]) (.var 19) (.call (.glob (.type "range")) [(.call (.glob (.builtin "len")) [(.var 0)] [] [])] [] []) [(.cmp .Eq (.idx (.var 1) (.var 19)) (.str ⟨#[]⟩))] [])
noncomputable def qfD:S:=.expr (.call (.glob (.ref 47)) [(.var 6),(.tuple [(.call (.glob (.builtin "len")) [(.idx (.var 1) (.var 7))] [] []),(.slice (.idx (.var 1) (.var 7)) (.call (.glob (.builtin "len")) [(.idx (.var 1) (.var 5))] [] []) .none .none),(.idx (.var 0) (.var 7)),(.idx (.var 0) (.var 5)),(.int 0)])] [ky] [(.glob (.ref 294))])
noncomputable def sL:S:=.for_ (.var 7) (.call (.glob (.ref 301)) [(.var 1),(.idx (.var 1) (.var 5)),(.bin .Add (.var 5) (.int 1))] [] []) [qfD]
noncomputable def Wt:S:=.for_ (.var 5) (.call (.glob (.type "range")) [(.call (.glob (.builtin "len")) [(.var 0)] [] [])] [] []) [sL]
noncomputable def Ux:S:=.assign (.tup [8,9,10,11,12]) (.idx (.var 6) (.int 0))
noncomputable def UQ:S:=.assign (.var 6) (.slice (.var 6) (.int 1) .none .none)
noncomputable def UT:S:=.assign (.var 13) (.ite (.cmp .Eq (.var 12) (.int 1)) (.meth (.var 9) D6 [] [] []) (.var 9))
noncomputable def Xs:S:=.assign (.var 14) (.bin .Add (.bin .Add (.var 10) (.str ⟨#[32]⟩)) (.var 11))
noncomputable def XB:S:=.assign (.var 15) (.cmp .NotIn (.var 9) (.var 3))
noncomputable def qa0:S:=.assign (.sub (.var 3) (.var 9)) (.tuple [(.var 13),(.var 14)])
noncomputable def PS:S:=.ifs (.var 15) [qa0] []
noncomputable def OT:S:=.expr (.meth (.var 4) DH [(.cmp .Eq (.meth (.var 2) Jr [(.var 13),(.var 14)] [] []) (.idx (.idx (.var 3) (.var 9)) (.int 1)))] [] [])
noncomputable def qdn:S:=.assign (.var 16) (.bin .Add (.bin .Sub (.var 8) (.call (.glob (.builtin "len")) [(.var 9)] [] [])) (.call (.glob (.builtin "len")) [(.idx (.var 1) (.var 7))] [] []))
noncomputable def p5:S:=.expr (.call (.glob (.ref 47)) [(.var 6),(.tuple [(.var 16),(.slice (.idx (.var 1) (.var 7)) (.call (.glob (.builtin "len")) [(.var 9)] [] []) .none .none),(.bin .Add (.var 11) (.idx (.var 0) (.var 7))),(.var 10),(.bin .Sub (.int 1) (.var 12))])] [ky] [(.glob (.ref 294))])
noncomputable def Wc:S:=.for_ (.var 7) (.call (.glob (.ref 301)) [(.var 1),(.var 9),(.int 0)] [] []) [qdn,p5]
noncomputable def qbG:S:=.expr (.call (.glob (.ref 47)) [(.var 6),(.tuple [(.var 8),(.slice (.var 9) (.var 17) .none .none),(.var 10),(.bin .Add (.var 11) (.idx (.var 0) (.var 7))),(.var 12)])] [ky] [(.glob (.ref 294))])
noncomputable def qao:S:=.for_ (.var 7) (.call (.glob (.type "range")) [(.call (.glob (.ref 65)) [(.var 1),(.slice (.var 9) .none (.var 17) .none)] [] []),(.call (.glob (.ref 56)) [(.var 1),(.slice (.var 9) .none (.var 17) .none)] [] [])] [] []) [qbG]
noncomputable def Tf:S:=.for_ (.var 17) (.call (.glob (.type "range")) [(.int 1),(.call (.glob (.builtin "len")) [(.var 9)] [] [])] [] []) [qao]
noncomputable def LQ:S:=.ifs (.and [(.var 15),(.cmp .NotEq (.var 9) (.str ⟨#[]⟩))]) [Wc,Tf] []
noncomputable def UE:S:=.while_ (.cmp .NotEq (.var 6) (.list [])) [Ux,UQ,UT,Xs,XB,PS,OT,LQ]
noncomputable def RY:S:=.ret (.list [(.var 2),(.call (.glob (.type "list")) [(.meth (.var 3) Ix [] [] [])] [] []),(.var 4)])
noncomputable def yE:List S:=[gB,qdH,uF,qcQ,Wt,UE,RY]
noncomputable def Nj:ka:=⟨[⟨#[114,111,119]⟩,⟨#[102,111,108,100,115]⟩,⟨#[116,97,98,108,101]⟩,⟨#[102,105,114,115,116]⟩,⟨#[107,101,112,116]⟩,⟨#[105]⟩,⟨#[113,117,101,117,101]⟩,⟨#[106]⟩,⟨#[115,105,122,101]⟩,⟨#[114,101,115,116]⟩,⟨#[97,104,101,97,100]⟩,⟨#[98,101,104,105,110,100]⟩,⟨#[116,117,114,110,101,100]⟩,w7,⟨#[112,97,105,114]⟩,⟨#[110,101,119]⟩,⟨#[114,101,97,99,104]⟩,⟨#[107]⟩],[⟨#[114,111,119]⟩,⟨#[102,111,108,100,115]⟩],[],qb,[],[],yE⟩
noncomputable def qeK:S:=.assign (.var 1) (.ite (.cmp .In (.str ⟨#[]⟩) (.var 0)) (.sconst [(⟨#[]⟩,0)]) (.sconst []))
noncomputable def qd7:S:=.assign (.var 2) (.lcomp 3 (.list [(.idx (.var 0) (.var 9)),(.idx (.var 0) (.var 10))]) (.var 9) (.call (.glob (.type "range")) [(.call (.glob (.builtin "len")) [(.var 0)] [] [])] [] []) [] [(.mk (.var 10) (.call (.glob (.type "range")) [(.var 9)] [] []) [])])
noncomputable def pD:S:=.assign (.var 3) (.call (.glob (.type "set")) [] [] [])
noncomputable def dX:S:=.assign (.var 4) (.int 0)
noncomputable def qdJ:S:=.assign (.var 5) (.list [])
noncomputable def Y2:S:=.assign (.tup [6,7]) (.idx (.var 2) (.int 0))
noncomputable def Wp:S:=.assign (.var 2) (.slice (.var 2) (.int 1) .none .none)
noncomputable def l9:S:=.assign (.tup [6,7]) (.tuple [(.var 7),(.var 6)])
noncomputable def Zi:S:=.ifs (.cmp .Lt (.call (.glob (.builtin "len")) [(.var 6)] [] []) (.call (.glob (.builtin "len")) [(.var 7)] [] [])) [l9] []
noncomputable def gF:S:=.expr (.meth (.var 3) IY [(.bin .Add (.bin .Add (.var 6) (.str ⟨#[32]⟩)) (.var 7))] [] [])
noncomputable def fU:S:=.assign (.sub (.var 1) (.var 6)) (.bin .Add (.var 4) (.call (.glob (.builtin "len")) [(.var 6)] [] []))
noncomputable def qf3:S:=.ifs (.and [(.cmp .Eq (.var 7) (.str ⟨#[]⟩)),(.cmp .NotIn (.var 6) (.var 1))]) [fU] []
noncomputable def t9:S:=.assign (.var 2) (.bin .Add (.var 2) (.lcomp 2 (.list [(.var 6),(.var 9)]) (.var 9) (.var 0) [] []))
noncomputable def qa5:S:=.expr (.meth (.var 5) DH [(.list [(.slice (.var 6) (.int 1) .none .none),(.slice (.var 7) (.int 1) .none .none)])] [] [])
noncomputable def rH:S:=.ifs (.and [(.cmp .NotEq (.var 7) (.str ⟨#[]⟩)),(.cmp .Eq (.idx (.var 6) (.int 0)) (.idx (.var 7) (.int 0)))]) [qa5] []
noncomputable def UW:S:=.ifs (.and [(.cmp .Eq (.var 7) (.str ⟨#[]⟩)),(.cmp .NotEq (.var 6) (.str ⟨#[]⟩))]) [t9] [rH]
noncomputable def QF:S:=.ifs (.cmp .NotIn (.bin .Add (.bin .Add (.var 6) (.str ⟨#[32]⟩)) (.var 7)) (.var 3)) [gF,qf3,UW] []
noncomputable def X8:S:=.while_ (.cmp .NotEq (.var 2) (.list [])) [Y2,Wp,Zi,QF]
noncomputable def oX:S:=.assign (.var 2) (.var 5)
noncomputable def tU:S:=.assign (.var 4) (.bin .Add (.var 4) (.int 1))
noncomputable def XM:S:=.while_ (.cmp .NotEq (.var 2) (.list [])) [qdJ,X8,oX,tU]
noncomputable def eQ:S:=.ret (.var 1)
noncomputable def xY:List S:=[qeK,qd7,pD,dX,XM,eQ]
noncomputable def Nt:ka:=⟨[⟨#[119,111,114,100,115]⟩,⟨#[108,101,97,115,116]⟩,⟨#[108,101,118,101,108]⟩,⟨#[115,101,101,110]⟩,⟨#[114,101,97,100]⟩,⟨#[102,117,114,116,104,101,114]⟩,⟨#[111,110,101]⟩,⟨#[116,119,111]⟩],[⟨#[119,111,114,100,115]⟩],[],qb,[],[],xY⟩
noncomputable def qcy:S:=.assign (.var 3) (.lcomp 2 (.call (.glob (.ref 136)) [(.var 8)] [] []) (.var 8) (.var 0) [] [])
noncomputable def xX:S:=.ret (.neg (.int 1))
noncomputable def qcS:S:=.ifs (.or [(.cmp .NotEq (.meth (.var 3) HS [(.bool qe)] [] []) (.int 1)),(.cmp .In (.bool qg) (.lcomp 2 (.call (.glob (.builtin "isinstance")) [(.var 8),(.glob (.type "bool"))] [] []) (.var 8) (.var 3) [] []))]) [xX] []
noncomputable def qcV:S:=.assign (.var 4) (.slice (.var 0) .none (.meth (.var 3) ES [(.bool qe)] [] []) .none)
noncomputable def u4:S:=.assign (.var 5) (.slice (.var 0) (.bin .Add (.meth (.var 3) ES [(.bool qe)] [] []) (.int 1)) .none .none)
noncomputable def gV:S:=.assign (.var 6) (.lcomp 2 (.meth (.str ⟨#[]⟩) I8 [(.lcomp 2 (.meth (.var 2) vn [(.var 10),(.str ⟨#[33]⟩)] [] []) (.var 10) (.var 8) [] [])] [] []) (.var 8) (.list [(.var 4),(.var 5)]) [] [])
noncomputable def gI:S:=.ret (.ite (.and [(.cmp .NotEq (.slice (.var 4) .none (.int 1) .none) (.slice (.var 5) .none (.int 1) .none)),(.cmp .Eq (.idx (.var 6) (.int 0)) (.bin .Add (.idx (.var 6) (.int 1)) (.var 1)))]) (.call (.glob (.builtin "len")) [(.idx (.var 6) (.int 0))] [] []) (.neg (.int 1)))
noncomputable def uG:List S:=[qcy,qcS,qcV,u4,gV,gI]
noncomputable def QZ:ka:=⟨[⟨#[112,97,105,114]⟩,⟨#[114,101,115,116]⟩,⟨#[109,101,97,110,116]⟩,⟨#[97,110,115,119,101,114,115]⟩,⟨#[97,104,101,97,100]⟩,⟨#[98,101,104,105,110,100]⟩,⟨#[116,101,120,116,115]⟩],[⟨#[112,97,105,114]⟩,⟨#[114,101,115,116]⟩,⟨#[109,101,97,110,116]⟩],[],qb,[],[],uG⟩
noncomputable def qdq:S:=.assign (.var 4) (.call (.glob (.ref 65)) [(.var 1),(.var 3)] [] [])
noncomputable def nV:S:=.assign (.var 5) (.call (.glob (.ref 56)) [(.var 1),(.var 3)] [] [])
noncomputable def eE:S:=.assign (.var 6) (.call (.glob (.ref 65)) [(.var 1),(.bin .Add (.var 3) (.str ⟨#[123]⟩))] [] [])
noncomputable def sC:S:=.assign (.var 7) (.call (.glob (.builtin "min")) [(.int 1),(.var 4)] [] [])
noncomputable def tJ:S:=.assign (.var 8) (.list [(.call (.glob (.ref 65)) [(.var 0),(.var 3)] [ky] [(.glob (.ref 287))]),(.call (.glob (.ref 56)) [(.var 0),(.var 3)] [ky] [(.glob (.ref 287))])])
noncomputable def qb7:S:=.assign (.var 9) (.list [(.call (.glob (.ref 65)) [(.var 1),(.var 3),(.var 5)] [] []),(.call (.glob (.ref 56)) [(.var 1),(.var 3),(.var 6)] [] []),(.call (.glob (.ref 65)) [(.var 1),(.bin .Add (.var 3) (.str ⟨#[123]⟩)),(.var 7),(.var 4)] [] []),(.call (.glob (.ref 56)) [(.var 1),(.var 3),(.var 7),(.var 4)] [] []),(.call (.glob (.ref 65)) [(.var 1),(.var 3),(.var 7),(.var 5)] [] []),(.call (.glob (.ref 56)) [(.var 1),(.var 3),(.var 7),(.call (.glob (.builtin "len")) [(.var 1)] [] [])] [] [])])
noncomputable def qae:S:=.assign (.var 10) (.lcomp 3 (.var 14) (.tup [13,14]) (.var 2) [(.cmp .Eq (.var 13) (.var 3))] [])
noncomputable def lM:S:=.assign (.var 11) (.lcomp 3 (.var 14) (.tup [13,14]) (.var 2) [(.cmp .Eq (.slice (.var 13) .none (.call (.glob (.builtin "len")) [(.var 3)] [] []) .none) (.var 3))] [])
noncomputable def qfu:S:=.ret (.and [(.cmp .Eq (.slice (.var 0) (.var 4) (.var 5) .none) (.var 10)),(.cmp .Eq (.slice (.var 0) (.var 4) (.var 6) .none) (.var 11)),(.cmp .Eq (.var 8) (.list [(.var 4),(.var 5)])),(.cmp .Eq (.var 9) (.list [(.var 5),(.var 6),(.var 4),(.var 4),(.var 4),(.var 5)]))])
noncomputable def qf7:List S:=[qdq,nV,eE,sC,tJ,qb7,qae,lM,qfu]
noncomputable def Nb:ka:=⟨[⟨#[114,111,119]⟩,⟨#[102,111,108,100,115]⟩,⟨#[111,114,100,101,114,101,100]⟩,⟨#[116,101,120,116]⟩,⟨#[108,101,102,116]⟩,⟨#[114,105,103,104,116]⟩,⟨#[112,97,115,116]⟩,⟨#[108,111,119]⟩,⟨#[107,101,121,101,100]⟩,⟨#[98,111,117,110,100]⟩,⟨#[115,97,109,101]⟩,⟨#[98,101,103,117,110]⟩],[⟨#[114,111,119]⟩,⟨#[102,111,108,100,115]⟩,⟨#[111,114,100,101,114,101,100]⟩,⟨#[116,101,120,116]⟩],[],qb,[],[],qf7⟩
noncomputable def gZ:S:=.assign (.var 1) (.list [])
noncomputable def Pw:S:=.assign (.var 3) (.call (.glob (.ref 280)) [(.var 2)] [] [])
noncomputable def mT:S:=.expr (.meth (.var 1) DH [(.var 3)] [] [])
noncomputable def OB:S:=.ifs (.cmp .NotIn (.var 3) (.var 1)) [mT] []
noncomputable def NJ:S:=.assign (.var 4) (.call (.glob (.builtin "sorted")) [(.var 1)] [ky] [(.lam (.idx (.var 0) (.int 0)))])
noncomputable def M8:S:=.assign (.var 5) (.list [])
noncomputable def O3:S:=.assign (.var 6) (.list [])
noncomputable def qaK:S:=.expr (.call (.glob (.ref 47)) [(.var 5),(.idx (.var 7) (.int 1))] [ky] [(.glob (.ref 287))])
noncomputable def mC:S:=.expr (.call (.glob (.ref 47)) [(.var 6),(.idx (.var 7) (.int 0))] [] [])
noncomputable def PL:S:=.for_ (.var 7) (.var 1) [qaK,mC]
noncomputable def N4:S:=.assign (.var 8) (.lcomp 2 (.call (.glob (.ref 287)) [(.var 17)] [] []) (.var 17) (.var 5) [] [])
noncomputable def uN:S:=.ret (.bool qg)
noncomputable def QY:S:=.ifs (.or [(.cmp .NotEq (.var 5) (.lcomp 2 (.idx (.var 17) (.int 1)) (.var 17) (.var 4) [] [])),(.cmp .NotEq (.list [(.var 8),(.var 6)]) (.bin .Mult (.list [(.lcomp 2 (.idx (.var 17) (.int 0)) (.var 17) (.var 4) [] [])]) (.int 2))),(.cmp .NotEq (.lcomp 2 (.call (.glob (.type "str")) [(.call (.glob (.ref 83)) [(.var 17)] [] [])] [] []) (.var 17) (.var 5) [] []) (.lcomp 2 (.call (.glob (.type "str")) [(.cmp .Eq (.idx (.var 17) (.int 0)) (.str ⟨#[]⟩))] [] []) (.var 17) (.var 4) [] []))]) [uN] []
noncomputable def NB:S:=.assign (.tup [9,10,11]) (.call (.glob (.ref 306)) [(.var 5),(.var 8)] [] [])
noncomputable def PF:S:=.assign (.var 12) (.call (.glob (.ref 311)) [(.var 8)] [] [])
noncomputable def O9:S:=.assign (.var 13) (.lcomp 2 (.meth (.var 17) wG [] [] []) (.var 17) (.meth (.var 9) Bl [] [] []) [] [])
noncomputable def qeT:S:=.ret (.bool qg)
noncomputable def PG:S:=.ifs (.or [(.cmp .In (.bool qg) (.var 11)),(.cmp .NotEq (.meth (.var 9) LW [] [] []) (.var 10)),(.cmp .NotEq (.meth (.var 9) Bl [] [] []) (.lcomp 2 (.idx (.var 17) (.int 0)) (.var 17) (.var 10) [] [])),(.cmp .NotEq (.lcomp 2 (.meth (.var 9) vn [(.ite (.cmp .Eq (.var 17) (.meth (.var 17) wG [] [] [])) (.meth (.var 17) D6 [] [] []) (.meth (.var 17) wG [] [] []))] [] []) (.var 17) (.meth (.var 9) Bl [] [] []) [] []) (.lcomp 2 (.idx (.var 17) (.int 1)) (.var 17) (.var 10) [] []))]) [qeT] []
noncomputable def mI:S:=.ret (.bool qg)
noncomputable def Pj:S:=.ifs (.or [(.cmp .NotEq (.call (.glob (.builtin "sorted")) [(.var 13)] [] []) (.call (.glob (.builtin "sorted")) [(.meth (.var 12) Bl [] [] [])] [] [])),(.cmp .NotEq (.cmp .Eq (.meth (.var 9) vn [(.str ⟨#[]⟩),(.str ⟨#[33]⟩)] [] []) (.str ⟨#[33]⟩)) (.cmp .NotIn (.str ⟨#[]⟩) (.var 12)))]) [mI] []
noncomputable def Nd:S:=.assign (.var 14) (.dcomp 2 (.idx (.var 17) (.int 1)) (.idx (.var 17) (.int 0)) (.var 17) (.var 4) [] [])
noncomputable def NL:S:=.assign (.var 15) (.lcomp 3 (.call (.glob (.ref 316)) [(.var 18),(.meth (.var 17) wG [] [] []),(.var 14)] [] []) (.tup [17,18]) (.meth (.var 9) LW [] [] []) [] [])
noncomputable def Nk:S:=.ret (.and [(.cmp .Eq (.var 15) (.lcomp 2 (.idx (.var 12) (.var 17)) (.var 17) (.var 13) [] [])),(.cmp .Eq (.var 15) (.call (.glob (.builtin "sorted")) [(.var 15)] [] [])),(.cmp .NotIn (.bool qg) (.lcomp 2 (.call (.glob (.ref 321)) [(.var 5),(.var 8),(.var 4),(.var 17)] [] []) (.var 17) (.var 8) [] []))])
noncomputable def VU (L:ka):List qf:=L.normal++L.kwonly++(match L.kwarg with | some a=>[a] | none=>[])
structure kX (G:qf->Option qh)(D:jj)(L:ka):Prop where
 code:cSs G D.body D.scope.names (zA D.scope.names)=L.code
 own:zA D.scope.names=L.own
 normal:D.args.args.map (·.arg)=L.normal
 kwonly:D.args.kwonlyargs.map (·.arg)=L.kwonly
 kwarg:D.args.kwarg.map (·.arg)=L.kwarg
 dflts:D.dflts=L.dflts
 kwd:D.kwd=L.kwd
 nd:Ae (VU L)=qe
theorem Wi:∀{l:List qf},l.Nodup->Ae l=qe
 | [],_=>rfl
 | x :: r,h=>by
  rw[k7] at h
  show (!r.contains x&&Ae r)=qe
  rw[Wi h.2]
  simp[h.1]
theorem Wr (sl:List (qf×α)):∀names:List qf,((CU names sl).map (·.1)).Sublist names
 | []=>by simp[CU]
 | n :: r=>by
  have ih:=Wr sl r
  unfold CU at ih ⊢
  rw[List.filterMap_cons]
  cases h:sl.lookup n with
  | none=>simpa using ih.cons n
  | some v=>simpa using ih
theorem SC {kwd:List (qf×α)}{args:List α}{kw:List (qf×α)} {out}(h:AQ normal kwonly dflts kwd args kw=qa out):(out.map (·.1)).Sublist (normal++kwonly):=by
 exact bi h λ_ h=>b1 h λ_ _ h=>bi h λ_ h=>b1 h λ_ _ h=>by cases h;exact Wr _ _
theorem kX.run (x:kX G D L)(h:zP L O args kw σ=qa r):Qn G D O args kw σ=qa r:=by
 refine b1 h λbinds hb h=>?_
 have e:∀{b:List (qf×V)} {τ:qi},(b.map (·.1)).Nodup->ZI L O b τ=qa r->NS G D O b τ=qa r:=λ{b τ} hn h=>(if_pos (Wi hn)).trans (by rw[x.code];unfold Hc;rw[x.own];exact h)
 have nd:=Fw x.nd
 unfold VU at nd
 unfold Qn
 rw[x.normal,x.kwonly,x.dflts,x.kwd,x.kwarg]
 refine qZ hb ?_
 cases hk:L.kwarg with
 | none=>rw[hk] at h nd;exact e ((by simpa using nd:(L.normal++L.kwonly).Nodup).sublist (SC hb)) h
 | some a=>rw[hk] at h nd;exact e (by rw[jQ];exact nd.sublist ((SC hb).append (qgy _))) h
theorem rY:kX gG Zf EO:=⟨by kernel_rfl,by kernel_rfl,by kernel_rfl,by kernel_rfl,by kernel_rfl,rfl,rfl,by kernel_rfl⟩
theorem tQ:kX gG T1 Bg:=⟨by kernel_rfl,by kernel_rfl,by kernel_rfl,by kernel_rfl,by kernel_rfl,rfl,rfl,by kernel_rfl⟩
theorem sS:kX gG XU CN:=⟨by kernel_rfl,by kernel_rfl,by kernel_rfl,by kernel_rfl,by kernel_rfl,rfl,rfl,by kernel_rfl⟩
theorem eR:kX gG Zj Nq:=⟨by kernel_rfl,by kernel_rfl,by kernel_rfl,by kernel_rfl,by kernel_rfl,rfl,rfl,by kernel_rfl⟩
theorem oJ:kX gG V2 Qa:=⟨by kernel_rfl,by kernel_rfl,by kernel_rfl,by kernel_rfl,by kernel_rfl,rfl,rfl,by kernel_rfl⟩
theorem qay:kX gG Y1 ND:=⟨by kernel_rfl,by kernel_rfl,by kernel_rfl,by kernel_rfl,by kernel_rfl,rfl,rfl,by kernel_rfl⟩
theorem qdf:kX gG VD GX:=⟨by kernel_rfl,by kernel_rfl,by kernel_rfl,by kernel_rfl,by kernel_rfl,rfl,rfl,by kernel_rfl⟩
theorem qcq:kX gG UF NO:=⟨by kernel_rfl,by kernel_rfl,by kernel_rfl,by kernel_rfl,by kernel_rfl,rfl,rfl,by kernel_rfl⟩
theorem uE:kX gG Xy KM:=⟨by kernel_rfl,by kernel_rfl,by kernel_rfl,by kernel_rfl,by kernel_rfl,rfl,rfl,by kernel_rfl⟩
theorem iI:kX gG T3 NY:=⟨by kernel_rfl,by kernel_rfl,by kernel_rfl,by kernel_rfl,by kernel_rfl,rfl,rfl,by kernel_rfl⟩
theorem qeU:kX gG UO PK:=⟨by kernel_rfl,by kernel_rfl,by kernel_rfl,by kernel_rfl,by kernel_rfl,rfl,rfl,by kernel_rfl⟩
theorem qb4:kX gG WT Qj:=⟨by kernel_rfl,by kernel_rfl,by kernel_rfl,by kernel_rfl,by kernel_rfl,rfl,rfl,by kernel_rfl⟩
theorem nI:kX gG TO OA:=⟨by kernel_rfl,by kernel_rfl,by kernel_rfl,by kernel_rfl,by kernel_rfl,rfl,rfl,by kernel_rfl⟩
theorem d7:kX gG Wx PX:=⟨by kernel_rfl,by kernel_rfl,by kernel_rfl,by kernel_rfl,by kernel_rfl,rfl,rfl,by kernel_rfl⟩
theorem qfv:kX gG SB Qx:=⟨by kernel_rfl,by kernel_rfl,by kernel_rfl,by kernel_rfl,by kernel_rfl,rfl,rfl,by kernel_rfl⟩
theorem pF:kX gG YZ OC:=⟨by kernel_rfl,by kernel_rfl,by kernel_rfl,by kernel_rfl,by kernel_rfl,rfl,rfl,by kernel_rfl⟩
theorem qfQ:kX gG YF Nj:=⟨by kernel_rfl,by kernel_rfl,by kernel_rfl,by kernel_rfl,by kernel_rfl,rfl,rfl,by kernel_rfl⟩
theorem gQ:kX gG T8 Nt:=⟨by kernel_rfl,by kernel_rfl,by kernel_rfl,by kernel_rfl,by kernel_rfl,rfl,rfl,by kernel_rfl⟩
theorem qaL:kX gG Y8 QZ:=⟨by kernel_rfl,by kernel_rfl,by kernel_rfl,by kernel_rfl,by kernel_rfl,rfl,rfl,by kernel_rfl⟩
theorem rV:kX gG Vn Nb:=⟨by kernel_rfl,by kernel_rfl,by kernel_rfl,by kernel_rfl,by kernel_rfl,rfl,rfl,by kernel_rfl⟩
noncomputable def IF:List (qf×qj):=[(⟨#[95,95,105,110,105,116,95,95]⟩,161),(⟨#[95,99,111,110,118,101,114,116,95,115,116,114,105,110,103,95,116,121,112,101]⟩,168),(⟨#[103,101,116]⟩,216),(⟨#[107,101,121,115]⟩,221),(⟨#[105,116,101,109,115]⟩,233),(⟨#[115,101,116,100,101,102,97,117,108,116]⟩,259)]
noncomputable def kK (s:qf):Bool:=s.cps.toList.all (λc=>RK 32 c&&!zQ c 127)&&small s.length
noncomputable def Ik {α:Type}:List (Nat×α)->Nat->Option α
 | [],_=>qb
 | (b,x) :: r,a=>if zQ b a then qa x else Ik r a
noncomputable def Nf {α:Type}:List (qf×α)->qf->Option α
 | [],_=>qb
 | x :: r,s=>if ze x.1 s then qa x.2 else Nf r s
theorem SZ:∀{l:List (qf×α)},Nf l s=qa v->(s,v)∈l
 | (a,x) :: r,h=>by
  cases e:ze a s with
  | true=>rw[<-(zc ((if_pos e).symm.trans h):x=v),vG e];exact .head _
  | false=>exact .tail _ (SZ ((if_neg (by rw[e];decide)).symm.trans h))
noncomputable def Ws (n:Nat)(v:V)(σ:qi):Option (V×qi):=match v with | .none=>qa (.ref n,σ) | _=>qb
noncomputable def OH (O:qE)(args:List V)(kw:List (qf×V))(σ:qi):Option (V×qi) :=
 a0 args (Fm kw (bnd (zP GX O [.ref (σ.length+1)] [] (σ++[.ns []]++[.inst 269 σ.length])) (Ws (σ.length+1))))
noncomputable def FB:List (Nat×ka):=[(47,EO),(56,Bg),(65,CN),(83,Nq),(129,Qa),(136,ND),(161,GX),(168,NO),(216,KM),(221,NY),(233,PK),(259,Qj),(280,OA),(287,PX),(294,Qx),(301,OC),(306,Nj),(311,Nt),(316,QZ),(321,Nb)]
noncomputable def Ss (O:qE)(a:qj)(args:List V)(kw:List (qf×V))(σ:qi):Option (V×qi) :=
 if zQ a 269 then OH O args kw σ
 else match Ik FB a with
  | some L=>zP L O args kw σ
  | none=>qb
noncomputable def AV:List Int:=[65024,65025,65026,65027,65028,65029,6150,65030,65031,65032,65033,6155,6156,6157,8203,8204,8205,65034,65035,65036,65037,65038,65039,173,847,8288,65279]
noncomputable def H9 (B:Int->Option qf)(a:qj)(name:qf)(args:List V)(σ:qi):Option (V×qi):=match args with
 | [.str s]=>if (zQ a 141||zQ a 146)&&ze name F8&&kK s then qa (.none,σ) else qb
 | [.int c]=>if zQ a 84&&ze name vn then qa ((match B c with | some s=>.str s | none=>.none),σ) else qb
 | _=>qb
noncomputable def R5 (a:qj)(v:V):Option Bool:=vI v λc=>if zQ a 73 then qa (AV.any λx=>x == c) else qb
noncomputable def Yz (c:qj)(name:qf):Option qj:=if zQ c 269 then Nf IF name else qb
noncomputable def Tp (c:qj)(name:qf):Bool:=zQ c 269&&ze name jB
noncomputable def dR:qj->List V->List (qf×V)->qi->Option (V×qi):=λ_ _ _ _=>qb
noncomputable def SD (B:Int->Option qf)(O:qE):qE:=⟨Ss O,λb v σ=>ev O b [qa v] σ,H9 B,R5,Yz,Tp⟩
noncomputable def orc (B:Int->Option qf):Nat->qE
 | 0=>⟨dR,λ_ _ _=>qb,λ_ _ _ _=>qb,λ_ _=>qb,λ_ _=>qb,λ_ _=>qg⟩
 | n+1=>SD B (orc B n)
section
open PySem.SeqAt PySem.Builtin PySem.Builtin.Re
section
variable {P:zC}{led:Bool}{D:Nat->zk}
theorem V3 (h1:84<=b)(h2:b < 123):(H1 P led D).get? b=(Bb (TB P led D) nB {}).get? b:=by
 have e:=(show ((zx 39).map λk=>((TF P led D).get (84+k)))=(zx 39).map λk=>qa (D (84+k)) by kernel_rfl).trans (Y4 P led D).symm
 have:=Ka.mp e (b - 84) (jG.mpr (by lia))
 rw[show 84+(b - 84)=b by lia] at this
 have n1:b < nF:=C7 h2 (by decide)
 have n2:b < nB:=jH h2 (by decide)
 unfold Heap.get?
 rewrite [Mz,Mz,if_pos n1,if_pos n2,this];rfl
theorem full (hl:wt nA (Bb (TB P led D) nB {})):∀b,b < (H1 P led D).objs.size->∃o,(H1 P led D).get? b=qa o:=λb hb=>by
 have hb:b < 327:=by rw[Ce] at hb;exact hb
 by_cases hm:84<=b/\b < 123
 ·rw[V3 hm.1 hm.2]
  exact hl b hm.1 (by rw[Ce];exact hm.2)
 ·have e:((zx 327).filter λb=>z3 b 84||z3 122 b).map (λb=>(((TF P led D).get b).bind ED).isSome)=((zx 327).filter λb=>z3 b 84||z3 122 b).map λb=>qe:=by kernel_rfl
  have h3:=Ka.mp e b (MR.mpr ⟨jG.mpr hb,by
   rw[qhD,kE,kE];lia⟩)
  cases h4:(TF P led D).get b with
  | none=>rw[h4] at h3;cases h3
  | some o =>
   rw[h4] at h3
   have h5:=Rh (life:={}) (n:=nF) hb h4
   obtain⟨o',ho⟩:=aG.mp h3
   refine⟨o',h5.trans ho⟩
noncomputable def L3:List (Int×An):=[(65024,350),(65025,351),(65026,352),(65027,353),(65028,354),(65029,355),(6150,336),(65030,356),(65031,357),(65032,358),(65033,359),(6155,337),(6156,338),(6157,339),(8203,340),(8204,341),(8205,342),(65034,360),(65035,361),(65036,362),(65037,363),(65038,364),(65039,365),(173,334),(847,335),(8288,343),(65279,344)]
theorem qe5 (w:qK):(H1 P led D).SetOf (jL pw w) 73 (λc=>AV.any λx=>x == c) 27:=by
 have hl:L3.map (·.1)=AV:=by rfl
 refine⟨_,_,_,_,xL,⟨rfl,rfl,rfl⟩,rfl,?_,?_,by decide,?_,by rfl⟩
 ·show ElemsOf (jL pw w) (L3.map λe=>(e.1,Mv e.1 e.2))
  intro x hx
  obtain⟨e,he,rfl⟩:=qG.mp hx
  refine⟨⟨e.1,Ez pw w e.1 e.2,?_⟩,rfl⟩
  have:∀e∈L3,e.1=hashInt e.1:=by decide
  exact this e he
 ·intro k
  show _↔∃e∈L3.map λe=>(e.1,Mv e.1 e.2),_
  show (AV.any λx=>x == k)=qe↔_
  rw[<-hl,JQ,C0]
  constructor
  ·rintro ⟨e,he,q⟩
   have:e.1=k:=by simpa using q
   subst this
   refine⟨_,qG.mpr ⟨e,he,rfl⟩,Ez pw w _ _⟩
  ·rintro ⟨y,hy,q⟩
   obtain⟨e,he,rfl⟩:=qG.mp hy
   have:=(jL pw w).inj (v:=Mv e.1 e.2) (a:=k) (b:=e.1) q (Ez pw w e.1 e.2)
   refine⟨e,he,by simp[this]⟩
 ·cases led <;> decide +kernel
noncomputable def GH:Array Nat:=#[14,10,4,1,1,22,0,31,16,127,0,13,7,22,0,31,16,127,0,1]
noncomputable def Hi:Array Nat:=#[14,14,4,1,1,9,4294966783,0,0,2147483648,0,0,0,0,0,13,11,9,4294966783,0,0,2147483648,0,0,0,0,0,1]
theorem Zh {code:Array Nat}{c f i:Nat}{yes:Bool}{seen:DS}(h:RL[code.getD (i+0) 0]?=qa .FAILURE):∃Ah,C6 code c (f+1) i yes seen=.ok (!yes,Ah):=by
 refine⟨_,RM (congrArg (λo=>@RN (λ_=>Except String (Bool×DS)) o _ _ _ _ _ _ _ _ _) h) rfl⟩
theorem qcY {s:qf}(h:kK s=qe):(∀c∈s.cps.toList,32<=c/\c≠127)/\s.length<=1000000:=by
 unfold kK at h
 rw[jT,wS] at h
 refine⟨λc hc=>?_,vZ h.2⟩
 have:=h.1 c hc
 rw[jT] at this
 refine⟨kJ this.1,λe=>by subst e;exact absurd this.2 (by decide)⟩
theorem tD {code:Array Nat}{c f i lo hi:Nat}{yes:Bool}{seen:DS}(h:RL[code.getD (i+0) 0]?=qa .RANGE)(h1:code.getD (i+1) 0=lo)(h2:code.getD (i+2) 0=hi)(hn:¬(lo<=c/\c<=hi)) :
  ∃Ah,C6 code c (f+1) i yes seen=C6 code c f (i+3) yes Ah:=by
 refine⟨seen.add (code.getD (i+0) 0),RM (congrArg (λo=>@RN (λ_=>Except String (Bool×DS)) o _ _ _ _ _ _ _ _ _) h) (if_neg ?_)⟩
 exact(by simp only[h1,h2,jT,decide_eq_true_eq];exact hn)
theorem qaV {code:Array Nat}{c f i x:Nat}{yes:Bool}{seen:DS}(h:RL[code.getD (i+0) 0]?=qa .LITERAL)(h1:code.getD (i+1) 0=x)(hn:c≠x) :
  ∃Ah,C6 code c (f+1) i yes seen=C6 code c f (i+2) yes Ah:=by
 refine⟨seen.add (code.getD (i+0) 0),RM (congrArg (λo=>@RN (λ_=>Except String (Bool×DS)) o _ _ _ _ _ _ _ _ _) h) (if_neg ?_)⟩
 exact(by simp only[h1,beq_iff_eq];exact hn)
theorem yU {code:Array Nat}{c f i:Nat}{yes:Bool}{seen:DS}(h:RL[code.getD (i+0) 0]?=qa .CHARSET)(hn:c < 256->(code.getD (i+(1+c / 32)) 0).testBit (c % 32)=qg) :
  ∃Ah,C6 code c (f+1) i yes seen=C6 code c f (i+9) yes Ah:=by
 refine⟨seen.add (code.getD (i+0) 0),RM (congrArg (λo=>@RN (λ_=>Except String (Bool×DS)) o _ _ _ _ _ _ _ _ _) h) (if_neg ?_)⟩
 rw[jT,decide_eq_true_eq]
 rintro ⟨q1,q2⟩
 rw[hn q1] at q2;cases q2
theorem qcz {text:Array Nat}(h:∀c∈text.toList,32<=c/\c≠127):E8 GH text:=λc hc seen=>by
 obtain⟨h1,h2⟩:=h c hc
 show ∃Ah,C6 GH c (17+1+1+1) 5 qe seen=_
 obtain⟨s1,e1⟩:=tD (code:=GH) (c:=c) (f:=17+1+1) (i:=5) (lo:=0) (hi:=31) (yes:=qe) (seen:=seen) rfl rfl rfl (by lia)
 obtain⟨s2,e2⟩:=qaV (code:=GH) (c:=c) (f:=17+1) (i:=5+3) (yes:=qe) (seen:=s1) rfl rfl h2
 obtain⟨s3,e3⟩:=Zh (code:=GH) (c:=c) (f:=17) (i:=5+3+2) (yes:=qe) (seen:=s2) rfl
 refine⟨s3,e1.trans (e2.trans e3)⟩
theorem qeA:∀c < 256,32<=c->c≠127->(Hi.getD (5+(1+c / 32)) 0).testBit (c % 32)=qg:=by decide +kernel
theorem i7 {text:Array Nat}(h:∀c∈text.toList,32<=c/\c≠127):E8 Hi text:=λc hc seen=>by
 obtain⟨h1,h2⟩:=h c hc
 show ∃Ah,C6 Hi c (26+1+1) 5 qe seen=_
 obtain⟨s1,e1⟩:=yU (code:=Hi) (c:=c) (f:=26+1) (i:=5) (yes:=qe) (seen:=seen) rfl (λq=>qeA c q h1 h2)
 obtain⟨s3,e3⟩:=Zh (code:=Hi) (c:=c) (f:=26) (i:=5+9) (yes:=qe) (seen:=s1) rfl
 refine⟨s3,e1.trans e3⟩
section
variable {w:qK}{d:Nat}{A:zh}{Ex:qh->qk->Prop}{s:qk}{ρ:List qj}{σ σ':qi}{v:V}
theorem Up {a tu:qj}{o ot:zk}{p0 p1 p2 p3 p4 p6:qh}{items:Array qh}{n:Nat}{code:Array Nat}{σ:qi}{s₁:qf}
  (ho:(H1 P led D).get? a=qa o) (A7:o.cls=.type "re.Pattern") (hd:o.data=.fields #[p0,p1,p2,p3,p4,.ref tu,p6]) (h2:reRawNat p2=0) (h6:reRawNat p6=0)
  (hot:(H1 P led D).get? tu=qa ot) (hdt:ot.data=.seq items n) (v4:(items.map reRawOf).map (·.toNat)=code) (hc:code.getD 0 0=14) (h4:code.getD 2 0=4)
  (na:∀x∈tabs,a≠x.2) (nt:∀x∈tabs,tu≠x.2) (ht:E8 code s₁.cps) (jh:s₁.length<=1000000) {Q:qh->qk->Prop} (I:qt pw w (H1 P led D) gG tabs s.heap ρ σ)
  {args':List qh} (ra:qL ρ [.str s₁] args') (hQ:Q .none s):qq (qp pw w) A (call (.builtin "re.Pattern.search") ([.ref a]++args') []) Q Ex s:=by
 obtain⟨x',rfl,rx⟩:=ra.one_inv
 obtain⟨t,rfl⟩:=rx.str_inv
 exact qc5 (I.old _ _ ho na) A7 hd h2 h6 (I.old _ _ hot nt) hdt v4 hc h4 jh ht hQ
end
end
end
theorem zf.le (r:zf d A)(h:d'<=d):zf d' A :=
 ⟨r.handled,by have:=r.depth;lia,by have:=r.units;lia,r.frame,λq=>r.top (qu q h)⟩
theorem By:∀a∈([73,84,140,141,145,146,161,168,216,221,233,259,268,269]:List qj),∀x∈tabs,a≠x.2:=by decide
theorem sQ:∀e∈IF,∃y,JY (.type "object") e.1=pure y:=by
 intro e he
 have:e∈[(⟨#[95,95,105,110,105,116,95,95]⟩,161),(⟨#[95,99,111,110,118,101,114,116,95,115,116,114,105,110,103,95,116,121,112,101]⟩,168),(⟨#[103,101,116]⟩,216),(⟨#[107,101,121,115]⟩,221),(⟨#[105,116,101,109,115]⟩,233),((⟨#[115,101,116,100,101,102,97,117,108,116]⟩:qf),(259:qj))]:=he
 simp only[jJ,AH,or_false] at this
 rcases this with rfl | rfl | rfl | rfl | rfl | rfl
 ·refine⟨qa (.builtin "object.__init__"),by rw[HL,HM];kernel_rfl⟩
 all_goals refine⟨qb,by rw[HL,HM];kernel_rfl⟩
theorem nW:JY (.type "object") jB=pure qb:=by rw[HL,HM];kernel_rfl
section
variable {P:zC}{led:Bool}{D:Nat->zk}
theorem SP:∀e∈IF,(H1 P led D).nsMap 268 e.1=qa (.ref e.2):=by
 intro e he
 have:e∈[(⟨#[95,95,105,110,105,116,95,95]⟩,161),(⟨#[95,99,111,110,118,101,114,116,95,115,116,114,105,110,103,95,116,121,112,101]⟩,168),(⟨#[103,101,116]⟩,216),(⟨#[107,101,121,115]⟩,221),(⟨#[105,116,101,109,115]⟩,233),((⟨#[115,101,116,100,101,102,97,117,108,116]⟩:qf),(259:qj))]:=he
 simp only[jJ,AH,or_false] at this
 rcases this with rfl | rfl | rfl | rfl | rfl | rfl
 all_goals kernel_rfl
theorem qbe:∀e∈IF,∃of,(H1 P led D).get? e.2=qa of/\of.cls=.type "function" := by
 intro e he
 have:e∈[(⟨#[95,95,105,110,105,116,95,95]⟩,161),(⟨#[95,99,111,110,118,101,114,116,95,115,116,114,105,110,103,95,116,121,112,101]⟩,168),(⟨#[103,101,116]⟩,216),(⟨#[107,101,121,115]⟩,221),(⟨#[105,116,101,109,115]⟩,233),((⟨#[115,101,116,100,101,102,97,117,108,116]⟩:qf),(259:qj))]:=he
 simp only[jJ,AH,or_false] at this
 rcases this with rfl | rfl | rfl | rfl | rfl | rfl
 ·refine⟨_,Nx,rfl⟩
 ·refine⟨_,qc1,rfl⟩
 ·refine⟨_,WF,rfl⟩
 ·refine⟨_,gJ,rfl⟩
 ·refine⟨_,mK,rfl⟩
 ·refine⟨_,qcF,rfl⟩
theorem Jx (x:qf)(h:x=jB\/x=wR "__getattribute__" \/ x=wR "__getattr__" \/ x=wR "__setattr__"):(H1 P led D).nsMap 268 x=qb:=by
 rcases h with rfl | rfl | rfl | rfl <;> kernel_rfl
theorem Om (k:w6 (H1 P led D) tabs h):HJ h 269 268 ((H1 P led D).nsMap 268):=by
 obtain⟨nm,q,bs,sn,sub,col,dd,k0,k1,k2,k3,k5,e⟩:=(hat (P:=P) (led:=led) (D:=D)).obj
 refine⟨⟨nm,q,bs,sn,sub,col,dd,k0,k1,k2,k3,k5,k _ _ e (By 269 (by decide))⟩,Ds k hat.ns (By 268 (by decide))⟩
variable {w:qK}{B:Int->Option qf}{vs:List (Int×qh)}
theorem NA (y:G0 vs ks):(Bc vs c=qb/\ks.lookup c=qb)\/∃x t,Bc vs c=qa (.str x t)/\ks.lookup c=qa x:=by
 induction y with
 | nil=>exact .inl ⟨rfl,rfl⟩
 | @cons k x t _ _ h ih =>
  unfold Bc
  rw[AI,Al]
  by_cases e:k=c
  ·subst e;exact .inr ⟨x,t,by simp,by simp⟩
  ·have e1:decide (k=c)=qg:=decide_eq_false e
   have e2:(c == k)=qg:=beq_eq_false_iff_ne.mpr (DO e)
   rw[show decide ((k,JH x t).1=c)=qg from e1,e2]
   exact ih
theorem qfl (hO:O.vin=R5):E3 pw w (H1 P led D) tabs d O:=by
 intro a x c x' A s ρ Q Ex e rx r k
 rw[hO] at e
 obtain⟨i,rfl,e1⟩:=QG e
 obtain⟨t,rfl⟩:=rx.int_inv
 clear e
 refine bi e1 λha e=>?_
 clear e1
 cases e
 obtain rfl:=wn ha
 have hS:s.heap.SetOf (jL pw w) 73 (λc=>AV.any λx=>x == c) 27 :=
  (by obtain⟨o,es,ep,t,ho,r⟩:=qe5 (P:=P) (led:=led) (D:=D) w;refine⟨o,es,ep,t,k _ _ ho (By 73 (by decide)),r⟩)
 refine⟨λh=>qgZ (knd:=jL pw w) (k:=i) (Ez pw w i t) rfl hS (h _),λh=>qg0 (knd:=jL pw w) (k:=i) (Ez pw w i t) rfl hS (h _)⟩
theorem qc6:E3 pw w (H1 P led D) tabs d (orc B 0):=λ_ _ _ _ _ _ _ _ _ e _ _ _=>nn e
end
section
open PySem.SeqAt PySem.Builtin PySem.Builtin.Re
section
variable {P:zC}{led:Bool}{D:Nat->zk}{w:qK}{B:Int->Option qf}{vs:List (Int×qh)}{d:Nat}
structure CP (P:zC)(led:Bool)(D:Nat->zk)(w:qK)(B:Int->Option qf):Prop where
 full:∀b,b < (H1 P led D).objs.size->∃o,(H1 P led D).get? b=qa o
 dict:∃vs,(H1 P led D).DictOf (jL pw w) 84 vs/\∀c,(Bc vs c=qb/\B c=qb)\/∃x t,Bc vs c=qa (.str x t)/\B c=qa x
theorem NN (h:H9 B a name args σ=qa r) :
  ((a=141\/a=146)/\name=F8/\∃s,args=[.str s]/\kK s=qe/\r=(.none,σ)) \/
   (a=84/\name=vn/\∃c,args=[.int c]/\r=((match B c with | some s=>.str s | none=>.none),σ)):=by
 match args,h with
 | [.str s],h =>
  refine bi h λhc h=>?_
  cases h
  have c1:=z0.mp hc
  have c2:=z0.mp c1.1
  exact .inl ⟨(Bool.or_eq_true_iff.mp c2.1).imp wn wn,vG c2.2,s,rfl,c1.2,rfl⟩
 | [.int c],h =>
  refine bi h λhc h=>?_
  cases h
  have c1:=z0.mp hc
  exact .inr ⟨wn c1.1,vG c1.2,c,rfl,rfl⟩
 | [.none],h=>exact nn h
 | [.bool _],h=>exact nn h
 | [.ref _],h=>exact nn h
 | [.val _],h=>exact nn h
 | [],h=>exact nn h
 | x :: _ :: _,h=>cases x <;> exact nn h
theorem qfM (E:CP P led D w B)(hx:∃args σ r,H9 B a name args σ=qa r):∃(f:qh)(first:List qh),
  (∀{A:zh} {s:qk} {Q:qh×List qh->qk->Prop} {Ex:qh->qk->Prop} {pl:zr Bool},w6 (H1 P led D) tabs s.heap->Q (f,first) s->qq (qp pw w) A (JX (.ref a) name pl) Q Ex s) /\
  ∀{args:List V} {σ:qi} {v:V} {σ':qi},H9 B a name args σ=qa (v,σ') ->
   ∀{A:zh} {s:qk} {ρ:List qj} {args':List qh} {Q:qh->qk->Prop} {Ex:qh->qk->Prop},
    zf d A->qt pw w (H1 P led D) gG tabs s.heap ρ σ->qL ρ args args'->zd pw w (H1 P led D) gG tabs Q ρ s v σ' ->
    Av (qp pw w) A Ex f s/\qq (qp pw w) A (call f (first++args') []) Q Ex s:=by
 obtain⟨args₀,Hs,r₀,qd⟩:=hx
 rcases NN qd with ⟨ha,rfl,_⟩ | ⟨rfl,rfl,_⟩
 ·refine⟨.builtin "re.Pattern.search", [.ref a],?_,?_⟩
  ·intro A s Q Ex pl k hq
   rcases ha with rfl | rfl
   ·have e:=k _ _ Tm (By 141 (by decide))
    exact FX (T := "re.Pattern") ⟨_,e,rfl⟩ T5 P2 TH (λa h=>by cases h;refine⟨_,e,rfl⟩) hq
   ·have e:=k _ _ Tk (By 146 (by decide))
    exact FX (T := "re.Pattern") ⟨_,e,rfl⟩ T5 P2 TH (λa h=>by cases h;refine⟨_,e,rfl⟩) hq
  ·intro args σ v σ' h A s ρ args' Q Ex r I ra R
   rcases NN h with ⟨ha,_,s₁,rfl,hc,e⟩ | ⟨rfl,_⟩
   ·cases e
    obtain⟨c1,c2⟩:=qcY hc
    refine⟨Iv _,?_⟩
    rcases ha with rfl | rfl
    ·exact Up Tm rfl rfl rfl rfl fN rfl (code:=GH) (by kernel_rfl) rfl rfl (By 141 (by decide)) (By 140 (by decide)) (qcz c1) c2 I ra (R.same I .none s.toks)
    ·exact Up Tk rfl rfl rfl rfl qdX rfl (code:=Hi) (by kernel_rfl) rfl rfl (By 146 (by decide)) (By 145 (by decide)) (i7 c1) c2 I ra (R.same I .none s.toks)
   ·rcases ha with h | h <;> exact absurd h (by decide)
 ·refine⟨.builtin "dict.get", [.ref 84],?_,?_⟩
  ·intro A s Q Ex pl k hq
   obtain⟨vs,⟨o,es,ep,ho,hr⟩,_⟩:=E.dict
   have hd:s.heap.DictOf (jL pw w) 84 vs:=⟨o,es,ep,k _ _ ho (By 84 (by decide)),hr⟩
   exact FX (T := "dict") hd.typeIs PySem.F.plainAttrs_dict PySem.F.slot_dict_get PySem.F.type_dict_get hd.mapOf.noDict hq
  ·intro args σ v σ' h A s ρ args' Q Ex r I ra R
   rcases NN h with ⟨ha,_⟩ | ⟨_,_,c,rfl,e⟩
   ·rcases ha with h | h <;> exact absurd h (by decide)
   ·cases e
    obtain⟨x',rfl,rx⟩:=ra.one_inv
    obtain⟨t,rfl⟩:=rx.int_inv
    obtain⟨vs,⟨o,es,ep,ho,hr⟩,hb⟩:=E.dict
    have hd:s.heap.DictOf (jL pw w) 84 vs:=⟨o,es,ep,I.old _ _ ho (By 84 (by decide)),hr⟩
    refine⟨Iv _,?_⟩
    show qq (qp pw w) A (call (.builtin "dict.get") [.ref 84,.int c t]) Q Ex s
    refine ML F.slot_dict_get hd.mapOf.typeIs F.entry_dict_get (F.args_dict_get_2 _ _) (meets_dict_get (jL pw w) 84 (Ez pw w c t) (by decide)) ⟨_,hd.mapOf,?_⟩
    rcases hb c with ⟨e1,e2⟩ | ⟨x,t,e1,e2⟩
    ·rw[e1];rw[e2] at R;exact R.same I .none _
    ·rw[e1];rw[e2] at R;exact R.same I (.str _ _) _
theorem qc3 (h:Yz c name=qa f) :
  ∀{A:zh} {s:qk} {ρ:List qj} {σ:qi} {i dI:Nat} {a:qj} {es:List (qf×V)} {Q:qh×List qh->qk->Prop} {Ex:qh->qk->Prop} {pl:zr Bool},
   qt pw w (H1 P led D) gG tabs s.heap ρ σ->σ[i]?=qa (.inst c dI)->σ[dI]?=qa (.ns es)->jP es name=qb->ρ[i]?=qa a->Q (.ref f,[.ref a]) s ->
   qq (qp pw w) A (JX (.ref a) name pl) Q Ex s:=by
 intro A s ρ σ i dI a es Q Ex pl I h1 h2 h3 h4 h5
 refine bi h λhc h'=>?_
 obtain rfl:=wn hc
 have hm:=SZ h'
 obtain⟨y,hy⟩:=sQ _ hm
 obtain⟨of,ho,hcl⟩:=qbe (P:=P) (led:=led) (D:=D) _ hm
 have hn:∀x∈tabs,f≠x.2:=by
  have:∀e∈IF,∀x∈tabs,e.2≠x.2:=by decide
  exact this _ hm
 exact eV (Om I.old) (Jx _ (.inr (.inl rfl))) (Jx _ (.inr (.inr (.inl rfl)))) (SP _ hm) (I.old _ _ ho hn) hcl hy I h1 h2 h3 h4 h5
theorem qcg (h:Tp c name=qe):c < (H1 P led D).objs.size/\JY (.type "object") name=pure qb /\
  ∀h,w6 (H1 P led D) tabs h->∃N mN,HJ h c N mN/\mN name=qb/\mN "__getattribute__" = qb/\mN "__setattr__" = qb:=by
 have h':=z0.mp h
 obtain rfl:=wn h'.1
 obtain rfl:=vG h'.2
 refine⟨by rw[Ce];decide,nW,λh k=>⟨268,_,Om k,Jx _ (.inl rfl),Jx _ (.inr (.inl rfl)),Jx _ (.inr (.inr (.inr rfl)))⟩⟩
end
end
section
variable {P:zC}{led:Bool}{D:Nat->zk}{w:qK}{B:Int->Option qf}{vs:List (Int×qh)}{d:Nat}{O:qE}
noncomputable def qeu (P:zC)(led:Bool)(D:Nat->zk)(e:Nat×ka):Prop:=∃x,ko (H1 P led D) tabs x/\x.addr=e.1/\kX gG x e.2
theorem xC:∀e∈FB,qeu P led D e :=
 inC ⟨_,qeQ,rfl,rY⟩ <| inC ⟨_,qeJ,rfl,tQ⟩ <| inC ⟨_,xO,rfl,sS⟩ <| inC ⟨_,mW,rfl,eR⟩ <| inC ⟨_,qfg,rfl,oJ⟩ <| inC ⟨_,qcr,rfl,qay⟩ <| inC ⟨_,lJ,rfl,qdf⟩ <| inC ⟨_,n6,rfl,qcq⟩ <| inC ⟨_,qch,rfl,uE⟩ <| inC ⟨_,pS,rfl,iI⟩ <| inC ⟨_,xT,rfl,qeU⟩ <| inC ⟨_,qej,rfl,qb4⟩ <| inC ⟨_,gK,rfl,nI⟩ <| inC ⟨_,pM,rfl,d7⟩ <| inC ⟨_,gY,rfl,qfv⟩ <| inC ⟨_,qbO,rfl,pF⟩ <| inC ⟨_,qf4,rfl,qfQ⟩ <| inC ⟨_,yJ,rfl,gQ⟩ <| inC ⟨_,mJ,rfl,qaL⟩ <| inC ⟨_,sE,rfl,rV⟩ A2
noncomputable abbrev BZ (P:zC)(led:Bool)(D:Nat->zk)(w:qK)(d:Nat)(a:qj)(f:List V->List (qf×V)->qi->Option (V×qi)):Prop:=eM pw w (H1 P led D) gG tabs d a f
theorem BZ.le (h:BZ P led D w d a f)(hd:d<=d'):BZ P led D w d' a f :=
 ⟨λ{args kw σ v σ'} e {A s ρ args' kw' Q Ex} r I ra rk R=>h.ok e (r.le hd) I ra rk R⟩
theorem UR (g:j5 pw w (H1 P led D) gG tabs d O)(Ai:d < 10)(he:e∈FB):BZ P led D w (d+1) e.1 (zP e.2 O):=by
 refine⟨λ{args kw σ v σ'} h {A s ρ args' kw' Q Ex} r I ra rk R=>?_⟩
 obtain⟨x,h1,h2,h3⟩:=xC (P:=P) (led:=led) (D:=D) e he
 rw[<-h2]
 exact qf9 g Ai h1 (h3.run h) r I ra rk R
theorem qbU {i:Nat}(h:FB[i]?=qa e):e∈FB:=wT h
theorem IM:qS pw (H1 P led D) gG tabs:=base u3
end
theorem iL:∃y,JY (.type "type") (wR "__call__")=pure y:=⟨qa (.builtin "type.__call__"),by rw[HL,HM];kernel_rfl⟩
section
variable {P:zC}{led:Bool}{D:Nat->zk}{w:qK}{B:Int->Option qf}{vs:List (Int×qh)}{d:Nat}{O:qE}
theorem hG {M:A9}{A:zh}{Ex:qh->qk->Prop}{s:qk}{h:Heap}{N:qj}{c:qj}{mN:qf->Option qh}(x:HJ s.heap c N mN):Av M A Ex (.ref c) s:=λQ hq=>by
 obtain⟨nm,q,bs,sn,sub,col,dd,k0,k1,k2,k3,k5,e⟩:=x.obj
 obtain⟨y,hy⟩:=iL
 unfold MJ
 refine qm (bC e ?_)
 refine qm (Z7 (T := "type") ⟨_,e,rfl⟩ hy ?_)
 exact qB (hq _)
theorem zf.under {d:Nat}{A:zh}(r:zf (d+1) A){id:String}{args:Args}(h1:(Rb id args).weight<=10)(h2:(Rb id args).cUnits<=60)(h3:(Rb id args).envs=[]):zf d (A.under (.builtin id args)):=by
 obtain⟨r1,r2,r3,r4,r5⟩:=r
 refine⟨r1,?_,?_,?_,λq=>?_⟩
 ·show A.depth+_+10 * d<=800;lia
 ·show A.units+_+60 * d<=9000;lia
 ·obtain⟨env,l,q,qs⟩:=r4
  refine⟨env,l,?_,qs⟩
  simp[qil,h3,q,pushEnvs]
 ·obtain⟨env,e,x⟩:=r5 (by lia)
  refine⟨env,by simp[qil,h3,e,pushEnvs],x⟩
theorem qcM (h:Ws n v σ=qa r):v=.none/\r=(.ref n,σ):=by cases v with | none=>refine⟨rfl,(zc h).symm⟩ | _=>exact nn h
theorem rF (E:CP P led D w B)(g:j5 pw w (H1 P led D) gG tabs d O)(Ai:d < 10):BZ P led D w (d+2) 269 (OH O):=by
 refine⟨λ{args kw σ v σ'} e {A s ρ args' kw' Q Ex} r I ra rk R=>?_⟩
 obtain⟨rfl,e1⟩:=Vj e
 obtain⟨rfl,e2⟩:=GT e1
 clear e e1
 refine b2 e2 λu σ₁ h1 e=>?_
 clear e2
 obtain⟨rfl,e⟩:=qcM e
 cases e
 obtain rfl:=ra.nil_inv
 obtain rfl:=rk.nil_inv
 have hat:=Om I.old
 refine⟨hG (h:=s.heap) hat,?_⟩
 refine qaa g.base E.full hat (SP (⟨#[95,95,105,110,105,116,95,95]⟩,161) (.head _)) (I.old _ _ Nx (By 161 (by decide))) rfl I λh' x dx tk k hx hdx I1=>?_
 have hr:zf (d+1) (A.under (.builtin "type.__call__" ⟨[.ref 269],[]⟩)):=zf.under r (by decide) (by decide) (by rfl)
 have h2:=(UR g Ai (e:=(161,GX)) (qbU (i:=6) rfl)).ok (Ex:=Ex) (s:={ s with heap:=h',toks:=tk }) (Q:=λr s'=>r=.none/\Q (.ref x) s') h1 hr I1 (args':=[.ref x]) (kw':=[]) (.cons (.ref (by rw[<-I.len];simp)) .nil) .nil
  (λv' zv h2 zl S2 I2 r2=>⟨r2.none_inv,R _ zv h2 zl (qY.trans ⟨⟨[dx,x],jq ..,λa ha=>(jJ.mp ha).elim (λq=>q▸hdx) λq=>(zE.mp q)▸hx⟩,λb o _ _ _ e=>.of (k b o e),λb o e=>⟨o,k b o e⟩⟩ S2) I2 (.ref (by
   obtain⟨l,hl,_⟩:=S2.pre
   subst hl
   rw[<-I.len];simp))⟩)
 exact h2.2
end
section
variable {P:zC}{led:Bool}{D:Nat->zk}{w:qK}{B:Int->Option qf}{d:Nat}{O:qE}
theorem Xk:∀{l:List (Nat×α)}{a:Nat}{x:α},Ik l a=qa x->(a,x)∈l
 | (b,x) :: r,a,y,h=>by
  cases e:zQ b a with
  | true=>rw[<-(zc ((if_pos e).symm.trans h):x=y),wn e];exact .head _
  | false=>exact .tail _ (Xk ((if_neg (by rw[e];decide)).symm.trans h))
theorem y6 {f g:Option γ}{r:γ}{P:Prop}(h:(if zQ a b then f else g)=qa r)(k:a=b->f=qa r->P)(l:g=qa r->P):P:=by
 by_cases e:zQ a b=qe
 ·exact k (wn e) ((if_pos e).symm.trans h)
 ·exact l ((if_neg e).symm.trans h)
theorem lN {f g:List V->List (qf×V)->qi->Option (V×qi)}(hf:BZ P led D w d b f)(hg:BZ P led D w d a g):BZ P led D w d a λargs kw σ=>if zQ a b then f args kw σ else g args kw σ :=
 ⟨λ{args kw σ v σ'} e {A s ρ args' kw' Q Ex} r I ra rk R=>y6 e (λq e'=>by subst q;exact hf.ok e' r I ra rk R) λe'=>hg.ok e' r I ra rk R⟩
theorem rP:BZ P led D w d a λ_ _ _=>qb:=⟨λe=>nn e⟩
theorem mP (g:j5 pw w (H1 P led D) gG tabs d O)(Ai:d < 10)(a:qj):BZ P led D w (d+1) a λargs kw σ=>match Ik FB a with | some L=>zP L O args kw σ | none=>qb:=by
 cases h:Ik FB a with
 | none=>exact rP
 | some L=>exact UR g Ai (e:=(a,L)) (Xk h)
theorem qcZ (E:CP P led D w B)(g:j5 pw w (H1 P led D) gG tabs d O)(Ai:d < 10)(a:qj):BZ P led D w (d+2) a (Ss O a) :=
 lN (rF E g Ai) ((mP g Ai a).le (DU _))
theorem VG:2<=(H1 P led D).objs.size:=by rw[Ce];decide
theorem qb2 (E:CP P led D w B)(hn:d=2 * n)(hd:n < 5)(g:j5 pw w (H1 P led D) gG tabs d O):wz pw w (H1 P led D) gG tabs (d+2) (SD B O) where
 vin:=qfl rfl
 fn:=λ{a args kw σ v σ'} e {A s ρ args' kw' Q Ex} r I ra rk R=>(qcZ E g (by lia) a).ok e r I ra rk R
 lam:=λ{b x σ v σ'} e {A s ρ a x' Q Ex} r I ho rx R=>dZ g (by lia) e (r.room (by lia)) I ho rx R
 vmeth:=λh=>qfM E h
 cls:=λh=>qc3 h
 iattr:=λh=>qcg h
theorem fF:wz pw w (H1 P led D) gG tabs 0 (orc B 0):=⟨qc6,λe=>nn e,λe=>nn e,λ⟨_,_,_,e⟩=>nn e,λe=>nn e,λe=>ff e⟩
theorem We (E:CP P led D w B):∀{n},n<=5->wz pw w (H1 P led D) gG tabs (2 * n) (orc B n)
 | 0,_=>fF
 | n+1,hn=>have g:j5 pw w (H1 P led D) gG tabs (2 * n) (orc B n):=⟨IM,VG,TE IM,We E (Bf hn)⟩
  qb2 E rfl hn g
theorem qbb (E:CP P led D w B):j5 pw w (H1 P led D) gG tabs 10 (orc B 5):=⟨IM,VG,TE IM,We E (qU _)⟩
end
end Mine.Internal
namespace Mine.Internal.J
open PySem PySem.W PyProof.Rows
noncomputable section
noncomputable abbrev FV:=Nat->Option AObj
noncomputable def fz (M:List Nat)(σ:qi):FV:=λi=>if i∈M then qb else σ[i]?
noncomputable def Le (f g:FV):Prop:=∀i o,f i=qa o->g i=qa o
theorem Le.trans (a:Le f g)(b:Le g h):Le f h:=λi o e=>b i o (a i o e)
theorem fz_get (h:fz M σ i=qa o):σ[i]?=qa o/\i∉M:=by
 unfold fz at h
 by_cases q:i∈M
 ·rw[if_pos q] at h;cases h
 ·rw[if_neg q] at h;refine⟨h,q⟩
theorem fz_of (h:σ[i]?=qa o)(q:i∉M):fz M σ i=qa o:=(if_neg q).trans h
theorem Fq {σ:List α}{t:Nat}{o:α}(h:σ[t]?=qa o)(l:List α):(σ++l)[t]?=qa o:=(Ri (kF.mp h).1).trans h
theorem last_get (σ:List α)(o:α):(σ++[o])[σ.length]?=qa o:=by rw[J4 (qU _),HP];rfl
theorem qce (M:List Nat)(σ l:qi):Le (fz M σ) (fz M (σ++l)):=λi o h=>by
 obtain⟨a,b⟩:=fz_get h
 exact fz_of (Fq a l) b
structure Ty where
 p:FV->V->Prop
 mono:∀{f g:FV} {v:V},Le f g->p f v->p g v
inductive Fa {α:Type}(R:α->Ty)(f:FV):List α->List V->Prop
 | nil:Fa R f [] []
 | cons {x:α} {v:V} {xs:List α} {vs:List V}:(R x).p f v->Fa R f xs vs->Fa R f (x :: xs) (v :: vs)
section
variable {α β:Type}{R:α->Ty}{f g:FV}{xs ys:List α}{vs ws:List V}
theorem Fa.mono (h:Le f g)(a:Fa R f xs vs):Fa R g xs vs:=by
 induction a with
 | nil=>exact .nil
 | cons b _ ih=>exact .cons ((R _).mono h b) ih
theorem Fa.len (a:Fa R f xs vs):vs.length=xs.length:=by
 induction a with
 | nil=>rfl
 | cons _ _ ih=>exact congrArg (· + 1) ih
theorem Fa.app (a:Fa R f xs vs)(b:Fa R f ys ws):Fa R f (xs++ys) (vs++ws):=by
 induction a with
 | nil=>exact b
 | cons h _ ih=>exact .cons h ih
theorem Fa.get (a:Fa R f xs vs):∀{i:Nat}{x:α},xs[i]?=qa x->∃v,vs[i]?=qa v/\(R x).p f v:=by
 induction a with
 | nil=>exact λh=>nn h
 | cons h _ ih=>exact λ{i x} e=>match i,e with
  | 0,e=>⟨_,rfl,zc e▸h⟩
  | i+1,e=>ih e
theorem Fa.got (a:Fa R f xs vs):∀{i:Nat}{v:V},vs[i]?=qa v->∃x,xs[i]?=qa x/\(R x).p f v:=by
 induction a with
 | nil=>exact λh=>nn h
 | cons h _ ih=>exact λ{i x} e=>match i,e with
  | 0,e=>⟨_,rfl,zc e▸h⟩
  | i+1,e=>ih e
theorem Fa.take (n:Nat)(a:Fa R f xs vs):Fa R f (xs.take n) (vs.take n):=by
 induction a generalizing n with
 | nil=>cases n <;> exact .nil
 | cons h _ ih=>cases n with
  | zero=>exact .nil
  | succ n=>exact .cons h (ih n)
theorem Fa.drop (n:Nat)(a:Fa R f xs vs):Fa R f (xs.drop n) (vs.drop n):=by
 induction a generalizing n with
 | nil=>cases n <;> exact .nil
 | cons h b ih=>cases n with
  | zero=>exact .cons h b
  | succ n=>exact ih n
theorem Fa.map {S:β->Ty}(h:∀x v,(R x).p f v->(S (u x)).p f v)(a:Fa R f xs vs):Fa S f (xs.map u) vs:=by
 induction a with
 | nil=>exact .nil
 | cons b _ ih=>exact .cons (h _ _ b) ih
theorem Fa.unmap {S:β->Ty}:∀{xs:List α}{vs:List V},Fa S f (xs.map u) vs->Fa (λx=>S (u x)) f xs vs
 | [],_,a=>by cases a;exact .nil
 | _ :: _,_,a=>by cases a with | cons h b=>exact .cons h b.unmap
theorem Fa.imp {S:α->Ty}(h:∀x∈xs,∀v,(R x).p f v->(S x).p f v)(a:Fa R f xs vs):Fa S f xs vs:=by
 induction a with
 | nil=>exact .nil
 | cons b _ ih=>exact .cons (h _ zB _ b) (ih λx hx=>h x (zI _ hx))
end
noncomputable def zo (u:V):Ty:=⟨λ_ v=>v=u,λ_ h=>h⟩
noncomputable abbrev zb (n:Int):Ty:=zo (.int n)
noncomputable abbrev qw (s:qf):Ty:=zo (.str s)
noncomputable abbrev qO (b:Bool):Ty:=zo (.bool b)
noncomputable abbrev UA:Ty:=zo .none
@[irreducible] noncomputable def qF:Nat:=100000
theorem FL:qF=100000:=by unfold qF;rfl
theorem zL (h:n<=100000):n<=qF:=FL▸h
theorem LH (h:n<=qF):n<=1000000:=qu (FL▸h) (by decide)
noncomputable def qv {α:Type}(R:α->Ty)(xs:List α):Ty where
 p f v:=xs.length<=qF/\∃i vs,v=.ref i/\f i=qa (.list vs)/\Fa R f xs vs
 mono h:=by rintro ⟨q,i,vs,rfl,a,b⟩;refine⟨q,i,vs,rfl,h _ _ a,b.mono h⟩
noncomputable def CQ (Ts:List Ty):Ty where
 p f v:=Ts.length<=qF/\∃i vs,v=.ref i/\f i=qa (.tuple vs)/\Fa id f Ts vs
 mono h:=by rintro ⟨q,i,vs,rfl,a,b⟩;refine⟨q,i,vs,rfl,h _ _ a,b.mono h⟩
noncomputable def Fd {α:Type}(R:α->Ty)(f:FV)(es:List (qf×α))(vs:List (qf×V)):Prop:=vs.map (·.1)=es.map (·.1)/\Fa (λe:qf×α=>R e.2) f es (vs.map (·.2))
theorem Fd.mono {vs:List (qf×V)}(h:Le f g)(a:Fd R f es vs):Fd R g es vs:=⟨a.1,a.2.mono h⟩
noncomputable def At {α:Type}(R:α->Ty)(es:List (qf×α)):Ty where
 p f v:=es.length<=qF/\∃i vs,v=.ref i/\f i=qa (.sdict vs)/\Fd R f es vs
 mono h:=by rintro ⟨q,i,vs,rfl,a,b⟩;refine⟨q,i,vs,rfl,h _ _ a,b.mono h⟩
noncomputable def Jb (a b:Int):Ty where
 p f v:=∃i,v=.ref i/\f i=qa (.range a b)
 mono h:=by rintro ⟨i,rfl,a⟩;refine⟨i,rfl,h _ _ a⟩
theorem qc4 (o:AObj)(h:q∈M):Le (fz M σ) (fz M (σ.set q o)):=λi u e=>by
 obtain⟨a,b⟩:=fz_get e
 exact fz_of ((MC (λe:q=i=>b (by rw[<-e];exact h))).trans a) b
theorem N2 (h:∀q∈N,q∈M\/σ.length<=q):Le (fz M σ) (fz N σ):=λi u e=>by
 obtain⟨a,b⟩:=fz_get e
 exact fz_of a λhm=>(h i hm).elim b λq=>j7 _ (jH (kF.mp a).1 q)
noncomputable def Gr (σ σ':qi):Prop:=∃l,σ'=σ++l
section
variable {σ σ' τ:qi}
theorem Gr.refl (σ:qi):Gr σ σ:=⟨[],(jF _).symm⟩
theorem Gr.app (h:Gr σ σ')(l:qi):Gr σ (σ'++l):=by obtain⟨k,rfl⟩:=h;refine⟨k++l,jq ..⟩
theorem Gr.trans (h:Gr σ σ')(k:Gr σ' τ):Gr σ τ:=by obtain⟨l,rfl⟩:=k;exact h.app l
theorem Gr.set (h:Gr σ σ')(o:AObj)(hq:σ.length<=q):Gr σ (σ'.set q o):=by obtain⟨k,rfl⟩:=h;refine⟨_,qim _ _ hq⟩
theorem Gr.get (h:Gr σ σ'){i:Nat}(e:σ[i]?=qa o):σ'[i]?=qa o:=by obtain⟨k,rfl⟩:=h;exact Fq e k
theorem Gr.len (h:Gr σ σ'):σ.length<=σ'.length:=by obtain⟨k,rfl⟩:=h;rw[zw];exact Ba ..
theorem Gr.le (h:Gr σ σ')(M:List Nat):Le (fz M σ) (fz M σ'):=by obtain⟨k,rfl⟩:=h;exact qce M σ k
theorem Gr.new (σ:qi)(o:AObj):Gr σ (σ++[o]):=⟨[o],rfl⟩
end
end
noncomputable section
structure Co where
 p:FV->AObj->Prop
 mono:∀{f g:FV} {o:AObj},Le f g->p f o->p g o
noncomputable def cL {α:Type}(R:α->Ty)(xs:List α):Co:=⟨λf o=>∃vs,o=.list vs/\Fa R f xs vs,λh ⟨vs,e,a⟩=>⟨vs,e,a.mono h⟩⟩
noncomputable def cD {α:Type}(R:α->Ty)(es:List (qf×α)):Co:=⟨λf o=>∃vs,o=.sdict vs/\Fd R f es vs,λh ⟨vs,e,a⟩=>⟨vs,e,a.mono h⟩⟩
noncomputable def cS (ks:List qf):Co:=⟨λ_ o=>o=.sset ks,λ_ h=>h⟩
structure Gh where
 p:FV->Prop
 mono:∀{f g:FV},Le f g->p f->p g
noncomputable def gN:Gh:=⟨λ_=>True,λ_ h=>h⟩
structure C where
 O:qE
 M:List Nat
 s:qi
 g:Gh
 H:List (Nat×Co)
 Γ:List (Option Ty)
noncomputable def C.N (c:C):List Nat:=c.H.map (·.1)++c.M
noncomputable def C.vw (c:C)(σ:qi):FV:=fz c.N σ
structure St (c:C)(m:qx)(σ:qi):Prop where
 gr:Gr c.s σ
 up:∀e∈c.H,c.s.length<=e.1
 bm:∀q∈c.M,q < c.s.length
 nd:(c.H.map (·.1)).Nodup
 hp:∀e∈c.H,∃o,σ[e.1]?=qa o/\e.2.p (c.vw σ) o
 hd:c.g.p (c.vw σ)
 ln:m.length=c.Γ.length
 mt:∀i T,qy c.Γ i=qa (qa T)->∃v,z5 m i=qa v/\T.p (c.vw σ) v
section
variable {c:C}{m:qx}{σ σ':qi}
theorem C.le (c:C)(g:Gr σ σ'):Le (c.vw σ) (c.vw σ'):=g.le _
theorem qdp (h:σ[i]?=qa o):i < σ.length:=(kF.mp h).1
theorem St.grow (s:St c m σ)(g:Gr σ σ'):St c m σ' :=
 ⟨s.gr.trans g,s.up,s.bm,s.nd,λe h=>(s.hp e h).elim λo k=>⟨o,g.get k.1,e.2.mono (c.le g) k.2⟩,c.g.mono (c.le g) s.hd,s.ln,λi T h=>(s.mt i T h).elim λv k=>⟨v,k.1,T.mono (c.le g) k.2⟩⟩
theorem St.bd (s:St c m σ):∀q∈c.N,q < σ.length:=λq h=>(zT.mp h).elim (λh=>(qG.mp h).elim λe h=>h.2▸(s.hp e h.1).elim λ_ k=>qdp k.1) λh=>jH (s.bm q h) s.gr.len
theorem St.new (s:St c m σ)(o:AObj):c.vw (σ++[o]) σ.length=qa o:=fz_of (last_get σ o) λh=>j7 _ (s.bd _ h)
noncomputable def Dn {β:Type}(c:C)(D:qi->β->Prop)(m:qx)(σ:qi)(x:Option (β×qi)):Prop:=∃b σ',x=qa (b,σ')/\St c m σ'/\D σ' b/\Gr σ σ'
variable {β γ:Type}{D:qi->β->Prop}{E:qi->γ->Prop}{x:Option (β×qi)}{b:β}
theorem dn (e:x=qa (b,σ'))(s:St c m σ)(g:Gr σ σ')(d:D σ' b):Dn c D m σ x:=⟨b,σ',e,s.grow g,d,g⟩
theorem zO (e:x=qa (b,σ))(s:St c m σ)(d:D σ b):Dn c D m σ x:=dn e s (Gr.refl _) d
theorem Dn.bnd (h:Dn c D m σ x)(k:∀b σ',St c m σ'->D σ' b->Gr σ σ'->Dn c E m σ' (f b σ')):Dn c E m σ (bnd x f):=by
 obtain⟨b,σ',rfl,s,d,g⟩:=h
 obtain⟨r,τ,e,t,d',g'⟩:=k b σ' s d g
 refine⟨r,τ,e,t,d',g.trans g'⟩
theorem Dn.imp (h:Dn c D m σ x)(k:∀σ b,D σ b->D' σ b):Dn c D' m σ x:=h.elim λb h=>h.elim λσ' h=>⟨b,σ',h.1,h.2.1,k _ _ h.2.2.1,h.2.2.2⟩
noncomputable def Is {β:Type}(b:β):qi->β->Prop:=λ_ v=>v=b
theorem Dn.bndE (h:Dn c (Is b) m σ x)(k:∀σ',St c m σ'->Gr σ σ'->Dn c E m σ' (f b σ')):Dn c E m σ (Mine.Internal.bnd x f):=h.bnd λ_ σ' s d g=>d▸k σ' s g
theorem Dn.bnT {x:Option (Bool×qi)}{b:Bool}(h:Dn c (Is b) m σ x)(k:b=qe->∀σ',St c m σ'->Dn c E m σ' (f σ'))(l:b=qg->∀σ',St c m σ'->Dn c E m σ' (g σ')):Dn c E m σ (bnT x f g):=by
 obtain⟨r,σ',rfl,s,rfl,g1⟩:=h
 cases r with
 | true=>obtain⟨r,τ,e,t,d',g'⟩:=k rfl σ' s;refine⟨r,τ,e,t,d',g1.trans g'⟩
 | false=>obtain⟨r,τ,e,t,d',g'⟩:=l rfl σ' s;refine⟨r,τ,e,t,d',g1.trans g'⟩
theorem Dn.bn1 {a:α}(h:y=qa a)(k:Dn c D m σ (f a)):Dn c D m σ (bn1 y f):=h▸k
theorem Dn.of (e:x=y)(k:Dn c D m σ y):Dn c D m σ x:=e▸k
theorem Dn.ifp [Decidable p](h:p)(k:Dn c D m σ x):Dn c D m σ (if p then x else y):=(if_pos h).symm▸k
end
noncomputable def Jg (c:C)(e:E)(D:qi->V->Prop):Prop:=∀m σ,St c m σ->Dn c D m σ (ev c.O e m σ)
noncomputable def C.ty (c:C)(T:Ty):qi->V->Prop:=λσ v=>T.p (c.vw σ) v
noncomputable abbrev J (c:C)(e:E)(T:Ty):Prop:=Jg c e (c.ty T)
noncomputable def C.li {α:Type}(c:C)(R:α->Ty)(xs:List α):qi->V->Prop:=λσ v=>xs.length<=qF/\∃i vs,v=.ref i/\σ[i]?=qa (.list vs)/\Fa R (c.vw σ) xs vs
noncomputable def C.di {α:Type}(c:C)(R:α->Ty)(es:List (qf×α)):qi->V->Prop:=λσ v=>es.length<=qF/\∃i vs,v=.ref i/\σ[i]?=qa (.sdict vs)/\Fd R (c.vw σ) es vs
noncomputable abbrev JL {α:Type}(c:C)(e:E)(R:α->Ty)(xs:List α):Prop:=Jg c e (c.li R xs)
noncomputable abbrev JD {α:Type}(c:C)(e:E)(R:α->Ty)(es:List (qf×α)):Prop:=Jg c e (c.di R es)
noncomputable def Js (c:C)(es:List E)(Ts:List Ty):Prop:=∀m σ,St c m σ->Dn c (λσ vs=>Fa id (c.vw σ) Ts vs) m σ (evs c.O es m σ)
noncomputable def Jt (c:C)(e:E)(b:Bool):Prop:=∀m σ,St c m σ->Dn c (Is b) m σ (tst c.O e m σ λ_=>ev c.O e m σ)
section
variable {c:C}{e a b:E}{T U:Ty}{α:Type}{R:α->Ty}{xs:List α}{D F:qi->V->Prop}{i:Nat}
theorem Jg.imp (h:Jg c e D)(k:∀σ v,D σ v->F σ v):Jg c e F:=λm σ s=>(h m σ s).imp k
theorem J.to (h:J c e T)(k:T=U):J c e U:=k▸h
theorem J.list (h:J c e (qv R xs)):JL c e R xs:=h.imp λσ v ⟨q,i,vs,e,a,p⟩=>⟨q,i,vs,e,(fz_get a).1,p⟩
theorem J.dict (h:J c e (At R es)):JD c e R es:=h.imp λσ v ⟨q,i,vs,e,a,p⟩=>⟨q,i,vs,e,(fz_get a).1,p⟩
theorem qo (h:qy c.Γ i=qa (qa T)):J c (.var i) T:=λm σ s=>(s.mt i T h).elim λv k=>zO (qZ k.1 rfl) s k.2
theorem OZ {K:Co}(h:qy c.Γ i=qa (qa (zo (.ref q))))(hk:qy c.H k=qa (q,K))(P:∀σ o,σ[q]?=qa o->K.p (c.vw σ) o->D σ (.ref q)):Jg c (.var i) D:=λm σ s=>(s.mt i _ h).elim λv k'=>(s.hp _ (wT ((za ..).symm.trans hk))).elim λo ho=>zO (qZ k'.1 rfl) s (k'.2▸P σ o ho.1 ho.2)
theorem Mc (h:qy c.Γ i=qa (qa (zo (.ref q))))(hk:qy c.H k=qa (q,cL R xs))(hl:xs.length<=qF):JL c (.var i) R xs:=OZ h hk λσ o ho ⟨vs,e,p⟩=>⟨hl,q,vs,rfl,e▸ho,p⟩
theorem Mi (h:qy c.Γ i=qa (qa (zo (.ref q))))(hk:qy c.H k=qa (q,cD R es))(hl:es.length<=qF):JD c (.var i) R es:=OZ h hk λσ o ho ⟨vs,e,p⟩=>⟨hl,q,vs,rfl,e▸ho,p⟩
theorem Lz (u:V)(h:∀m σ,ev c.O e m σ=qa (u,σ)):J c e (zo u):=λm σ s=>zO (h m σ) s rfl
theorem zD {i:Int}:J c (.int i) (zb i):=Lz _ λ_ _=>rfl
theorem vJ {i:qf}:J c (.str i) (qw i):=Lz _ λ_ _=>rfl
theorem QS {i:Bool}:J c (.bool i) (qO i):=Lz _ λ_ _=>rfl
theorem YK {x y:V}{G:qi->γ->Prop}{f:V->V->qi->Option (γ×qi)}(ha:J c a (zo x))(hb:J c b (zo y))(h:∀m σ,St c m σ->Dn c G m σ (f x y σ))(m:qx)(σ:qi)(s:St c m σ):Dn c G m σ (bnd (ev c.O a m σ) λv σ=>bnd (ev c.O b m σ) λw σ=>f v w σ) :=
 Dn.bndE (ha m σ s) λqM s1 _=>Dn.bndE (hb m qM s1) λzZ s2 _=>h m zZ s2
theorem Gw {x y z:V}(ha:J c a (zo x))(hb:J c b (zo y))(h:∀σ,Dx σ op x y=qa (z,σ)):J c (.bin op a b) (zo z):=YK (f:=λv w σ=>Dx σ op v w) ha hb λm σ s=>zO (h σ) s rfl
theorem GN {x y:Int}(ha:J c a (zb x))(hb:J c b (zb y)):J c (.bin .Add a b) (zb (x+y)):=Gw ha hb λ_=>rfl
theorem Jd {x y:Int}(ha:J c a (zb x))(hb:J c b (zb y)):J c (.bin .Sub a b) (zb (x - y)):=Gw ha hb λ_=>rfl
theorem Un {x y:Int}(ha:J c a (zb x))(hb:J c b (zb y))(hx:EQ x=qe)(hy:EQ y=qe):J c (.bin .Mult a b) (zb (x * y)):=Gw ha hb λσ=>if_pos (by rw[hx,hy];rfl)
theorem iJ {x y:Int}(ha:J c a (zb x))(hb:J c b (zb y))(h:(y == 0)=qg):J c (.bin .FloorDiv a b) (zb (x.fdiv y)):=Gw ha hb λσ=>if_neg (by rw[h];exact jy)
theorem Kr {x y:Int}(ha:J c a (zb x))(hb:J c b (zb y))(h:(y == 0)=qg):J c (.bin .Mod a b) (zb (x.fmod y)):=Gw ha hb λσ=>if_neg (by rw[h];exact jy)
theorem D9 {x y:qf}(ha:J c a (qw x))(hb:J c b (qw y))(h:x.length+y.length<=1000000):J c (.bin .Add a b) (qw (x++y)):=Gw ha hb λσ=>if_pos (decide_eq_true h)
theorem FD {x y:V}{r:Bool}(ha:J c a (zo x))(hb:J c b (zo y))(h:∀σ,DY c.O σ op x y=qa r):J c (.cmp op a b) (qO r):=YK (f:=λv w σ=>bn1 (DY c.O σ op v w) λr=>qa (V.bool r,σ)) ha hb λm σ s=>.bn1 (h σ) (zO rfl s rfl)
theorem Su {x y:Int}(ha:J c a (zb x))(hb:J c b (zb y)):J c (.cmp .Lt a b) (qO (decide (x < y))):=FD ha hb λ_=>rfl
theorem qeW {x y:Int}(ha:J c a (zb x))(hb:J c b (zb y)):J c (.cmp .Gt a b) (qO (decide (x > y))):=FD ha hb λ_=>rfl
theorem Lo {x y:Int}(ha:J c a (zb x))(hb:J c b (zb y)):J c (.cmp .Eq a b) (qO (x == y)):=FD ha hb λ_=>rfl
theorem l8 {x y:Int}(ha:J c a (zb x))(hb:J c b (zb y)):J c (.cmp .NotEq a b) (qO (!(x == y))):=FD ha hb λ_=>rfl
theorem CH {x y:qf}(ha:J c a (qw x))(hb:J c b (qw y)):J c (.cmp .Eq a b) (qO (ze x y)):=FD ha hb λ_=>rfl
theorem ZR {x y:qf}(ha:J c a (qw x))(hb:J c b (qw y)):J c (.cmp .NotEq a b) (qO (!ze x y)):=FD ha hb λ_=>rfl
theorem Yr {x y:Bool}(ha:J c a (qO x))(hb:J c b (qO y)):J c (.cmp .NotEq a b) (qO (!(x == y))):=FD ha hb λ_=>rfl
end
end
noncomputable section
section
variable {c:C}{e a b:E}{T U:Ty}{α:Type}{R:α->Ty}{xs:List α}{m:qx}{σ:qi}
noncomputable def vF (n:Nat)(T U:Ty)(r:Bool):Prop:=∀(M:List Nat) (σ:qi) (v w:V),T.p (fz M σ) v->U.p (fz M σ) w->vc σ n v w=qa r
theorem Eo:vF n (qw x) (qw y) (ze x y):=λM σ v w h k=>by
 cases h;cases k;cases n <;> rfl
theorem Ym:vF n (zb x) (zb y) (x == y):=λM σ v w h k=>by
 cases h;cases k;cases n <;> rfl
theorem QB:vF n (qO x) (qO y) (x == y):=λM σ v w h k=>by
 cases h;cases k;cases n <;> rfl
noncomputable def wO {α β:Type}(q:α->β->Bool):List α->List β->Bool
 | [],[]=>qe
 | x :: xs,y :: ys=>q x y&&wO q xs ys
 | _,_=>qg
theorem R6 {β:Type}{S:β->Ty}{n:Nat}{q:α->β->Bool}(h:∀x y,vF n (R x) (S y) (q x y)){M:List Nat}{σ:qi}:∀{xs:List α}{ys:List β}{vs ws:List V},Fa R (fz M σ) xs vs->Fa S (fz M σ) ys ws->xs.length=ys.length->Cq (vc σ n) vs ws=qa (wO q xs ys)
 | [],[],_,_,a,b,_=>by cases a;cases b;rfl
 | x :: xs,y :: ys,_,_,a,b,hl=>by
  cases a with
  | cons a1 a2=>cases b with
   | cons b1 b2=>exact qZ (h x y M σ _ _ a1 b1) (qZ (R6 h a2 b2 (qhR.mp hl)) rfl)
 | [],_ :: _,_,_,_,_,hl=>nomatch hl
 | _ :: _,[],_,_,_,_,hl=>nomatch hl
theorem Yg:∀{xs:List α}{ys:List β},xs.length≠ys.length->wO q xs ys=qg
 | [],[],h=>absurd rfl h
 | x :: xs,y :: ys,h=>by show (q x y&&wO q xs ys)=qg;rw[Yg λe=>h (congrArg (· + 1) e),bK]
 | [],_ :: _,_=>rfl
 | _ :: _,[],_=>rfl
theorem NX [DecidableEq α](h:∀x y,q x y=decide (x=y)):∀xs ys:List α,wO q xs ys=decide (xs=ys)
 | [],[]=>(decide_eq_true rfl).symm
 | x :: xs,y :: ys=>by
  show (q x y&&wO q xs ys)=_
  rw[h,NX h xs ys,k9,jT,decide_eq_true_eq,decide_eq_true_eq,decide_eq_true_eq,qjh]
 | [],_ :: _=>(decide_eq_false (λh=>nomatch h)).symm
 | _ :: _,[]=>(decide_eq_false (λh=>nomatch h)).symm
theorem Af (h:n<=qF):small n=qe:=decide_eq_true (LH h)
theorem Uc {β:Type}{S:β->Ty}{n:Nat}{q:α->β->Bool}(h:∀x y,vF n (R x) (S y) (q x y)){M:List Nat}{σ:qi}{i j:Nat}{ys:List β}{vs ws:List V}(h1:σ[i]?=qa (.list vs))(h2:σ[j]?=qa (.list ws))
  (a:Fa R (fz M σ) xs vs) (b:Fa S (fz M σ) ys ws) (hx:xs.length<=qF):vc σ (n+1) (.ref i) (.ref j)=qa (wO q xs ys):=by
 refine qZ ((za ..).trans h1) (qZ ((za ..).trans h2) ?_)
 by_cases hl:vs.length=ws.length
 ·refine(if_pos hl).trans ((if_pos (Af (by rw[a.len];exact hx))).trans (R6 h a b (by rw[<-a.len,<-b.len];exact hl)))
 ·exact(if_neg hl).trans (congrArg qa (Yg (by rw[<-a.len,<-b.len];exact hl)).symm)
theorem Fh {β:Type}{S:β->Ty}{n:Nat}{q:α->β->Bool}(h:∀x y,vF n (R x) (S y) (q x y)){ys:List β}:vF (n+1) (qv R xs) (qv S ys) (wO q xs ys):=λM σ v w k1 k2=>by
 obtain⟨q1,i,vs,rfl,a1,a2⟩:=k1
 obtain⟨q2,j,ws,rfl,b1,b2⟩:=k2
 exact Uc h (fz_get a1).1 (fz_get b1).1 a2 b2 q1
set_option tactic.hygienic true in
theorem qa7 (h:vF n A A' r)(k:vF n B B' s):vF (n+1) (CQ [A,B]) (CQ [A',B']) (r&&s):=λM σ v w k1 k2=>by
 obtain⟨q1,i,vs,rfl,a1,a2⟩:=k1
 obtain⟨q2,j,ws,rfl,b1,b2⟩:=k2
 refine qZ ((za ..).trans (fz_get a1).1) (qZ ((za ..).trans (fz_get b1).1) ?_)
 cases a2 with | cons x1 a2=>cases a2 with | cons x2 a2=>cases a2 with | nil =>
 cases b2 with | cons y1 b2=>cases b2 with | cons y2 b2=>cases b2 with | nil =>
 rename_i u1 u2 w1 w2
 have e1:vc σ n u1 w1=qa r:=h M σ _ _ x1 y1
 have e2:vc σ n u2 w2=qa s:=k M σ _ _ x2 y2
 show (if 2=2 then (if small 2=qe then Cq (vc σ n) [u1,u2] [w1,w2] else qb) else qb)=_
 rw[if_pos rfl]
 show bn1 (vc σ n u1 w1) (λa=>bn1 (bn1 (vc σ n u2 w2) λb=>bn1 (qa qe) λe=>qa (b&&e)) λb=>qa (a&&b))=_
 rw[e1,e2]
 show qa (r&&(s&&qe))=_
 rw[aO]
theorem WX (ha:J c a T)(hb:J c b U)(h:∀σ v w,T.p (c.vw σ) v->U.p (c.vw σ) w->DY c.O σ op v w=qa r):J c (.cmp op a b) (qO r):=λm σ s =>
 Dn.bnd (ha m σ s) λv qM s1 p1 _=>Dn.bnd (hb m qM s1) λw zZ s2 p2 g2=>Dn.bn1 (h _ _ _ (T.mono (c.le g2) p1) p2) (zO rfl s2 rfl)
theorem W2 (ha:J c a T)(hb:J c b U)(h:vF 4 T U r):J c (.cmp .Eq a b) (qO r):=WX ha hb λ_ _ _=>h _ _ _ _
theorem YT (ha:J c a T)(hb:J c b U)(h:vF 4 T U r):J c (.cmp .NotEq a b) (qO (!r)):=WX ha hb λ_ _ _ p q=>qZ (h _ _ _ _ p q) rfl
theorem J.test (h:J c e (qO r))(hp:vq e=qe):Jt c e r:=λm σ s=>Dn.of (LE hp ..) (Dn.bndE (h m σ s) λqM s1 _=>zO rfl s1 rfl)
noncomputable def Ja (c:C)(es:List E)(r:Bool):Prop:=∀m σ,St c m σ->Dn c (Is r) m σ (tAnd c.O es m σ)
noncomputable def Jo (c:C)(es:List E)(r:Bool):Prop:=∀m σ,St c m σ->Dn c (Is r) m σ (tOr c.O es m σ)
theorem He:Ja c [] qe:=λm σ s=>zO rfl s rfl
theorem KJ:Jo c [] qg:=λm σ s=>zO rfl s rfl
theorem AM (h:Jt c e r)(k:r=qe->Ja c es s):Ja c (e :: es) (r&&s):=λm σ t=>Dn.bnT (h m σ t) (λhr σ' t'=>by subst hr;exact k rfl m σ' t') λhr σ' t'=>by subst hr;exact zO rfl t' rfl
theorem BW (h:Jt c e r)(k:r=qg->Jo c es s):Jo c (e :: es) (r||s):=λm σ t=>Dn.bnT (h m σ t) (λhr σ' t'=>by subst hr;exact zO rfl t' rfl) λhr σ' t'=>by subst hr;exact k rfl m σ' t'
theorem E4 (h:Ja c es r):Jt c (.and es) r:=h
theorem KL (h:Jo c es r):Jt c (.or es) r:=h
theorem LS (h:Jt c e r)(k1:r=qe->J c a T)(k2:r=qg->J c b T):J c (.ite e a b) T:=λm σ s=>Dn.bnT (h m σ s) (λhr σ'=>k1 hr m σ') λhr σ'=>k2 hr m σ'
noncomputable def Jv (c:C)(es:List E)(r:Bool):Prop:=∀m σ,St c m σ->Dn c (Is (V.bool r)) m σ (evAnd c.O es m σ)
theorem Yo (h:J c e (qO r)):Jv c [e] r:=h
theorem Ib (h:J c e (qO r))(k:r=qe->Jv c (f :: es) s):Jv c (e :: f :: es) (r&&s):=λm σ t=>Dn.bndE (h m σ t) λqM t1 _=>by
 cases r with
 | false=>exact zO rfl t1 rfl
 | true=>exact k rfl m qM t1
theorem Sf (h:Jv c es r):J c (.and es) (qO r):=h
noncomputable def Nw (c:C)(m:qx)(K:Co):qi->V->Prop:=λσ' v=>∃τ o,σ'=τ++[o]/\v=.ref τ.length/\St c m τ/\K.p (c.vw τ) o
noncomputable def Jn (c:C)(e:E)(K:Co):Prop:=∀m σ,St c m σ->Dn c (Nw c m K) m σ (ev c.O e m σ)
theorem EM {o:AObj}{K:Co}(s:St c m σ)(d:K.p (c.vw σ) o):Dn c (Nw c m K) m σ (zM o σ):=dn rfl s (Gr.new ..) ⟨σ,o,rfl,rfl,s,d⟩
theorem Bj (s:St c m σ)(d:∀f,Le (c.vw σ) f->f σ.length=qa o->T.p f (.ref σ.length)):Dn c (c.ty T) m σ (zM o σ):=dn rfl s (Gr.new ..) (d _ (c.le (Gr.new ..)) (s.new o))
theorem Jn.list (h:Jn c e (cL R xs))(hl:xs.length<=qF):J c e (qv R xs):=λm σ s=>(h m σ s).imp λσ v h=>by
 obtain⟨τ,o,rfl,rfl,t,vs,rfl,p⟩:=h
 refine⟨hl,_,vs,rfl,t.new _,p.mono (c.le (Gr.new ..))⟩
theorem zG:Js c [] []:=λm σ s=>zO rfl s .nil
theorem qJ (h:J c e T)(k:Js c es Ts):Js c (e :: es) (T :: Ts):=λm σ s=>Dn.bnd (h m σ s) λv qM s1 p _=>Dn.bnd (k m qM s1) λvs zZ s2 q g=>zO rfl s2 (.cons (T.mono (c.le g) p) q)
theorem Fa.ids:∀{xs:List α}{vs:List V},Fa id f (xs.map R) vs->Fa R f xs vs
 | [],_,h=>by cases h;exact .nil
 | _ :: _,_,h=>by cases h with | cons a b=>exact .cons a b.ids
theorem Br {f:FV}{vs:List V}(p:Fa R f xs vs)(h:xs.length<=qF):small vs.length=qe:=Af (p.len▸h)
theorem G2 (h:Js c es (xs.map R))(hl:xs.length<=qF):Jn c (.list es) (cL R xs):=λm σ s=>Dn.bnd (h m σ s) λvs qM s1 p _=>Dn.ifp (Br p.ids hl) (EM s1 ⟨vs,rfl,p.ids⟩)
theorem wJ (h:Js c es (xs.map R))(hl:xs.length<=qF):J c (.list es) (qv R xs):=(G2 h hl).list hl
theorem N3 (h:Js c es Ts)(hl:Ts.length<=qF):J c (.tuple es) (CQ Ts):=λm σ s=>Dn.bnd (h m σ s) λvs qM s1 p _=>Dn.ifp (Br p hl) (Bj s1 λf hf ho=>⟨hl,_,vs,rfl,ho,p.mono hf⟩)
theorem qfY:Jn c (.sconst []) (cD R []):=λm σ s=>EM s ⟨[],rfl,rfl,.nil⟩
theorem L7 (i:Int)(xs:List V):E5 (.int i) (.list xs)=CE xs i:=rfl
theorem Vo (i:Int)(xs:List V):E5 (.int i) (.tuple xs)=CE xs i:=rfl
theorem qfy (σ:qi)(s:qf)(i:Int):Di σ (.str s) (.int i)=if A0 i=qe then bn1 (JN s i) (λc=>qa (V.str ⟨#[c]⟩)) else qb:=rfl
theorem sO (i:Int):Dl (.int i)=if A0 i=qe then qa (qa i) else qb:=rfl
theorem KH {k:Nat}{v:V}(h:vs[k]?=qa v)(hl:vs.length<=qF):CE vs (k:Int)=qa v:=by
 obtain⟨hk,e⟩:=kF.mp h
 rw[Sl hk (Af hl),e]
theorem Oa {x:V->qi->Prop}(h:Jg c a (λσ v=>x v σ))(hi:J c b (zb k))(g:∀v σ σ',x v σ->Gr σ σ'->∃w,Di σ' v (.int k)=qa w/\T.p (c.vw σ') w):J c (.idx a b) T:=λm σ s =>
 Dn.bnd (h m σ s) λv qM s1 p _=>Dn.bndE (hi m qM s1) λzZ s2 g2=>(g v qM zZ p g2).elim λw q=>Dn.bn1 q.1 (zO rfl s2 q.2)
theorem wg {k:Nat}(h:JL c a R xs)(hi:J c b (zb k))(hx:xs[k]?=qa x):J c (.idx a b) (R x):=Oa (x:=λv σ=>c.li R xs σ v) h hi λv σ σ' p g=>by
 obtain⟨hl,i,vs,rfl,q,f⟩:=p
 obtain⟨w,hw,pw⟩:=f.get hx
 refine⟨w,(Gd (g.get q)).trans ((L7 ..).trans (KH hw (f.len▸hl))),(R x).mono (c.le g) pw⟩
theorem Qg {k:Nat}(h:J c a (CQ Ts))(hi:J c b (zb k))(hx:Ts[k]?=qa T):J c (.idx a b) T:=Oa (x:=λv σ=>(CQ Ts).p (c.vw σ) v) h hi λv σ σ' p g=>by
 obtain⟨hl,i,vs,rfl,q,f⟩:=p
 obtain⟨w,hw,pw⟩:=f.get hx
 refine⟨w,(Gd (g.get (fz_get q).1)).trans ((Vo ..).trans (KH hw (f.len▸hl))),T.mono (c.le g) pw⟩
theorem qd1 (hk:k<=qF)(hx:JN s (k:Int)=qa ch):Di σ (.str s) (.int (k:Nat))=qa (.str ⟨#[ch]⟩):=by
 rw[qfy,if_pos (L6 (LH hk)),hx];rfl
theorem XH {k:Nat}{ch:Nat}(h:J c a (qw s))(hi:J c b (zb k))(hk:k<=qF)(hx:JN s (k:Int)=qa ch):J c (.idx a b) (qw ⟨#[ch]⟩):=Oa (x:=λv _=>v=.str s) h hi λv σ σ' p g=>p▸⟨_,qd1 hk hx,rfl⟩
theorem Qs (h:Fd R f es vs):(∀x,es.lookup s=qa x->∃v,jP vs s=qa v/\(R x).p f v)/\(es.lookup s=qb->jP vs s=qb):=by
 obtain⟨h1,h2⟩:=h
 induction es generalizing vs with
 | nil=>cases vs with | nil=>refine⟨λx q=>nn q,λ_=>rfl⟩ | cons=>exact absurd h1 (by simp)
 | cons x es ih=>cases vs with
  | nil=>exact absurd h1 (by simp)
  | cons v vs =>
   obtain⟨k,x⟩:=x;obtain⟨k',v⟩:=v
   cases h2 with | cons q1 q2 =>
   injection h1 with h0 h1
   have h0:k'=k:=h0
   subst h0
   obtain⟨i1,i2⟩:=ih h1 q2
   rw[Al]
   by_cases hk:k'=s
   ·subst hk
    rw[beq_self_eq_true]
    refine⟨λy q=>⟨v,(JB ..).trans (if_pos rfl),zc q▸q1⟩,λq=>by cases q⟩
   ·rw[beq_eq_false_iff_ne.mpr (DO hk)]
    refine⟨λy q=>(by obtain⟨w,a,b⟩:=i1 y q;refine⟨w,(JB ..).trans ((if_neg hk).trans a),b⟩),λq=>(JB ..).trans ((if_neg hk).trans (i2 q))⟩
theorem Yl (h:JD c a R es)(hi:J c b (qw s))(hx:es.lookup s=qa x):J c (.idx a b) (R x):=λm σ t =>
 Dn.bnd (h m σ t) λv qM t1 p _=>Dn.bndE (hi m qM t1) λzZ t2 g=>by
  obtain⟨hl,i,vs,rfl,q,f⟩:=p
  obtain⟨w,hw,pw⟩:=(Qs f).1 _ hx
  exact Dn.bn1 ((Gd (g.get q)).trans (show E5 (V.str s) (.sdict vs)=qa w from hw)) (zO rfl t2 ((R x).mono (c.le g) pw))
theorem Me (ha:J c a T)(hb:Jg c b D)(h:∀σ v w,T.p (c.vw σ) v->D σ w->Ei c.O σ v w=qa r):J c (.cmp .In a b) (qO r)/\J c (.cmp .NotIn a b) (qO (!r)) :=
 ⟨λm σ s=>Dn.bnd (ha m σ s) λv qM s1 p1 _=>Dn.bnd (hb m qM s1) λw zZ s2 p2 g=>Dn.bn1 (h _ _ _ (T.mono (c.le g) p1) p2) (zO rfl s2 rfl),
  λm σ s=>Dn.bnd (ha m σ s) λv qM s1 p1 _=>Dn.bnd (hb m qM s1) λw zZ s2 p2 g=>Dn.bn1 (qZ (h _ _ _ (T.mono (c.le g) p1) p2) rfl) (zO rfl s2 rfl)⟩
theorem pK (vs:List (qf×V))(es:List (qf×α))(h:vs.map (·.1)=es.map (·.1))(s:qf):(vs.any λe=>ze e.1 s)=(es.any λe=>e.1 == s):=by
 induction vs generalizing es with
 | nil=>cases es with | nil=>rfl | cons=>exact absurd h (by simp)
 | cons v vs ih=>cases es with
  | nil=>exact absurd h (by simp)
  | cons x es =>
   injection h with h0 h1
   have h0:v.1=x.1:=h0
   rw[FS,FS,ih es h1,h0,wZ]
theorem Nz (hi:J c a (qw s))(h:JD c b R es):J c (.cmp .In a b) (qO (es.any λe=>e.1 == s))/\J c (.cmp .NotIn a b) (qO (!es.any λe=>e.1 == s)):=Me hi h λσ v w p q=>by
 obtain⟨_,i,vs,rfl,q,f⟩:=q
 obtain rfl:=p
 exact qZ ((za ..).trans q) (congrArg qa (pK vs es f.1 s))
theorem PI (h:∀x w,(R x).p (fz M σ) w->vc σ 3 w v=qa (q x))(p:Fa R (fz M σ) xs vs):BY σ v vs=qa (xs.map q):=by
 induction p with
 | nil=>rfl
 | cons a _ ih=>exact qZ (h _ _ a) (qZ ih rfl)
theorem Ky (hi:J c a T)(h:JL c b R xs)(he:∀x,vF 3 (R x) T (q x)):J c (.cmp .In a b) (qO (xs.any q))/\J c (.cmp .NotIn a b) (qO (!xs.any q)):=Me hi h λσ v w p k=>by
 obtain⟨hl,i,vs,rfl,k,f⟩:=k
 refine qZ ((za ..).trans k) ((if_pos (Br f hl)).trans (qZ (PI (λx w hw=>he x _ _ _ _ hw p) f) (congrArg qa ?_)))
 rw[JQ];rfl
theorem qdu (h:J c a (qw x))(hi:qy c.Γ i=qa (qa (zo (.ref s))))(hk:qy c.H k=qa (s,cS es)):J c (.cmp .NotIn a (.var i)) (qO (!es.any λe=>ze e x)) :=
 (Me (D:=λσ v=>v=.ref s/\σ[s]?=qa (.sset es)) h (OZ hi hk λσ o ho p=>⟨rfl,p▸ho⟩) λσ v w p q=>by
  obtain⟨rfl,q⟩:=q
  obtain rfl:=p
  exact qZ ((za ..).trans q) rfl).2
noncomputable def Sb (c:C)(e:E)(o:Option Int):Prop:=Jg c e λ_ v=>Dl v=qa o
theorem AY:Sb c .none qb:=λm σ s=>zO rfl s rfl
theorem gS (hk:k<=qF):Dl (.int (k:Nat))=qa (qa (k:Int)):=by
 rw[sO,if_pos (L6 (LH hk))]
theorem w4 {k:Nat}(h:J c e (zb k))(hk:k<=qF):Sb c e (qa k):=Jg.imp h λσ v p=>by obtain rfl:=p;exact gS hk
theorem clip_nat (n k:Nat):jU n (k:Int)=min k n:=by
 show (max 0 (min (if (k:Int) < 0 then (k:Int)+n else k) n)).toNat=_
 rw[if_neg (Ci.mpr (Cj k))]
 rcases Rt k n with h | h
 ·rw[Int.min_eq_left (RO.mpr h),qin (Cj k),AJ h];rfl
 ·rw[Int.min_eq_right (RO.mpr h),qin (Cj n),Bd h];rfl
theorem Sc {lo hi:E}{p q:Option Int}{D:qi->V->Prop}{G:qx->qi->V->Prop}(ha:Jg c a D)(h1:Sb c lo p)(h2:Sb c hi q)(hf:∀m σ σ' v l h,D σ v->Gr σ σ'->St c m σ'->Dl l=qa p->Dl h=qa q->Dn c (G m) m σ' (Gq σ' v l h .none)):∀m σ,St c m σ->Dn c (G m) m σ (ev c.O (.slice a lo hi .none) m σ):=λm σ s =>
 Dn.bnd (ha m σ s) λv qM s1 p1 _=>Dn.bnd (h1 m qM s1) λl zZ s2 pl g2=>Dn.bnd (h2 m zZ s2) λh σ3 s3 ph g3=>hf m qM σ3 v l h p1 (g2.trans g3) s3 pl ph
theorem Dd {lo hi:E}{p q:Option Int}{s:qf}{xs:List Nat}(ha:J c a (qw s))(h1:Sb c lo p)(h2:Sb c hi q)(hs:s.length<=qF)(hx:w9 s.cps.toList p q qb=qa xs):J c (.slice a lo hi .none) (qw ⟨xs.toArray⟩):=Sc (G:=λ_=>c.ty (qw ⟨xs.toArray⟩)) ha h1 h2 λm σ σ' v l h pv g t pl ph=>by
 obtain rfl:=pv
 exact zO (qZ pl (qZ ph (qZ (a:=qb) rfl ((if_pos (by rw[Af hs];rfl)).trans (qZ hx rfl))))) t rfl
theorem dN {β γ:Type}{R:γ->Ty}{f:FV}{xs:List γ}{vs:List V}(h:Fa R f xs vs){p q:Option Int}{ys:List γ}(hx:w9 xs p q qb=qa ys):∃ws,w9 vs p q qb=qa ws/\Fa R f ys ws:=by
 have e:=zc hx
 refine⟨_,rfl,?_⟩
 rw[<-e,h.len]
 exact(h.drop _).take _
theorem Wf {lo hi:E}{p q:Option Int}{ys:List α}(ha:JL c a R xs)(h1:Sb c lo p)(h2:Sb c hi q)(hx:w9 xs p q qb=qa ys):Jn c (.slice a lo hi .none) (cL R ys):=Sc (G:=λm=>Nw c m (cL R ys)) ha h1 h2 λm σ σ' v l h pv g t pl ph=>by
 obtain⟨hl,i,vs,rfl,k,f⟩:=pv
 obtain⟨ws,g1,g2⟩:=dN (β:=α) f hx
 exact Dn.bn1 pl (Dn.bn1 ph (Dn.bn1 (a:=qb) rfl (Dn.of (vQ (g.get k)) (Dn.ifp (Br f hl) (Dn.bn1 g1 (EM t ⟨ws,rfl,g2.mono (c.le g)⟩))))))
theorem KB {lo hi:E}(ha:JL c a R xs)(h1:Sb c lo p)(h2:Sb c hi q)(hx:w9 xs p q qb=qa ys)(hl:ys.length<=qF):J c (.slice a lo hi .none) (qv R ys):=(Wf ha h1 h2 hx).list hl
end
end
noncomputable section
theorem YJ (O:qE)(σ:qi)(args:List V):vP O args [] σ (.builtin "len")=Kl σ args:=by kernel_rfl
theorem qc9 (O:qE)(σ:qi)(args:List V):vP O args [] σ (.builtin "chr")=Pa σ args:=by kernel_rfl
theorem qd2 (O:qE)(σ:qi)(args:List V):vP O args [] σ (.builtin "isinstance")=Oz σ args:=by kernel_rfl
theorem Ob (O:qE)(σ:qi)(args:List V):vP O args [] σ (.builtin "ord")=PD σ args:=by kernel_rfl
theorem uH (O:qE)(σ:qi)(args:List V):vP O args [] σ (.builtin "min")=Qz σ args:=by kernel_rfl
theorem R7 (O:qE)(σ:qi)(args:List V):vP O args [] σ (.builtin "sorted")=Ln σ args:=by kernel_rfl
theorem SF (O:qE)(σ:qi)(args:List V):vP O args [] σ (.type "range")=NE σ args:=by kernel_rfl
theorem YI (O:qE)(σ:qi)(args:List V):vP O args [] σ (.type "list")=KR σ args:=by kernel_rfl
theorem qci (O:qE)(σ:qi)(args:List V):vP O args [] σ (.type "set")=No σ args:=by kernel_rfl
theorem t7 (O:qE)(σ:qi)(args:List V):vP O args [] σ (.type "str")=Qy σ args:=by kernel_rfl
theorem WS (O:qE)(σ:qi)(args:List V):vP O args [] σ (.type "type")=NR σ args:=by kernel_rfl
section
variable {c:C}{e a b:E}{T U:Ty}{α β:Type}{R:α->Ty}{S:β->Ty}{xs:List α}{D:qi->V->Prop}{G:qx->qi->V->Prop}{m:qx}{σ:qi}{u:qh}
theorem Gs (h:ev O a m σ=qa (v,σ₁)):ev O (.call (.glob u) [a] [] []) m σ=vP O [v] [] σ₁ u:=(DA CA (z4 h zF) zF).trans rfl
theorem LF:ev O (.call (.glob u) es [] []) m σ=bnd (evs O es m σ) λvs σ=>vP O vs [] σ u:=rfl
theorem KN (h:Jg c a D)(m:qx)(σ:qi)(s:St c m σ):Dn c (λσ vs=>∃v,vs=[v]/\D σ v) m σ (evs c.O [a] m σ):=Dn.bnd (h m σ s) λv qM s1 p _=>zO rfl s1 ⟨v,rfl,p⟩
theorem EV (h:Jg c a D)(k:∀m σ v,St c m σ->D σ v->Dn c (G m) m σ (vP c.O [v] [] σ u)):∀m σ,St c m σ->Dn c (G m) m σ (ev c.O (.call (.glob u) [a] [] []) m σ):=λm σ s =>
 Dn.of LF (Dn.bnd (KN h m σ s) λvs qM s1 p _=>p.elim λv p=>p.1▸k m qM v s1 p.2)
theorem Lm (h:J c a (zo x))(k:∀σ,vP c.O [x] [] σ u=qa (z,σ)):J c (.call (.glob u) [a] [] []) (zo z):=EV (G:=λ_=>c.ty (zo z)) h λm σ v s p=>by obtain rfl:=p;exact zO (k σ) s rfl
theorem Kv (h:J c a (zo x))(h':J c b (zo y))(m:qx)(σ:qi)(s:St c m σ):Dn c (Is [x,y]) m σ (evs c.O [a,b] m σ):=Dn.bndE (h m σ s) λqM s1 _=>Dn.bndE (b:=[y]) (Dn.bndE (h' m qM s1) λzZ s2 _=>zO rfl s2 rfl) λzZ s2 _=>zO rfl s2 rfl
theorem XN (h:J c a (zo x))(h':J c b (zo y))(k:∀m σ,St c m σ->Dn c (c.ty T) m σ (vP c.O [x,y] [] σ u)):J c (.call (.glob u) [a,b] [] []) T:=λm σ s=>Dn.of LF (Dn.bndE (Kv h h' m σ s) λqM s1 _=>k m qM s1)
theorem Uu (h:J c a (zo x))(h':J c b (zo y))(k:∀σ,vP c.O [x,y] [] σ u=qa (z,σ)):J c (.call (.glob u) [a,b] [] []) (zo z):=XN h h' λm σ s=>zO (k σ) s rfl
theorem Dc (h:J c a (qw s))(hs:s.length<=qF):J c (.call (.glob (.builtin "len")) [a] [] []) (zb s.length):=Lm h λσ=>(YJ ..).trans (if_pos (Af hs))
theorem Mm (h:JL c a R xs):J c (.call (.glob (.builtin "len")) [a] [] []) (zb xs.length):=EV (G:=λ_=>c.ty (zb xs.length)) h λm σ v s p=>by
 obtain⟨hl,i,vs,rfl,q,f⟩:=p
 exact zO ((YJ ..).trans ((vQ q).trans (if_pos (Br f hl)))) s (by rw[f.len];rfl)
theorem uA (h:J c a (zb x))(h0:0<=x)(h1:x < 1114112):J c (.call (.glob (.builtin "chr")) [a] [] []) (qw ⟨#[x.toNat]⟩):=Lm h λσ=>(qc9 ..).trans (if_pos (by rw[decide_eq_true h0,decide_eq_true h1];rfl))
theorem qdE (h:J c a (qw ⟨#[ch]⟩)):J c (.call (.glob (.builtin "ord")) [a] [] []) (zb ch):=Lm h λσ=>(Ob ..).trans rfl
theorem qfT (h:J c a (zb x))(k:J c b (zb y)):J c (.call (.glob (.builtin "min")) [a,b] [] []) (zb (if y < x then y else x)):=Uu h k λσ=>(uH ..).trans rfl
theorem yN (h:J c a (qO r)):J c (.call (.glob (.builtin "isinstance")) [a,.glob (.type "bool")] [] []) (qO qe):=Uu h (Lz _ λ_ _=>rfl) λσ=>(qd2 ..).trans rfl
theorem YE (h:J c a (qO r)):J c (.call (.glob (.type "str")) [a] [] []) (qw (cond r GP Gu)):=Lm h λσ=>(t7 ..).trans rfl
theorem oW:Jn c (.call (.glob (.type "set")) [] [] []) (cS []):=λm σ s=>Dn.of (LF.trans (qci c.O σ [])) (EM s rfl)
theorem qcU (h:J c a (zb y)):J c (.call (.glob (.type "range")) [a] [] []) (Jb 0 y):=EV (G:=λ_=>c.ty (Jb 0 y)) h λm σ v s p=>by
 obtain rfl:=p
 exact Dn.of (SF ..) (Bj s λf _ ho=>⟨_,rfl,ho⟩)
theorem Mj (h:J c a (zb x))(k:J c b (zb y)):J c (.call (.glob (.type "range")) [a,b] [] []) (Jb x y):=XN h k λm σ s=>Dn.of (SF ..) (Bj s λf _ ho=>⟨_,rfl,ho⟩)
noncomputable def rng (a b:Int):List Int:=(zx (b - a).toNat).map λ(k:Nat)=>a+(k:Int)
theorem fa_ints (l:List Int):Fa zb f l (l.map V.int):=by
 induction l with
 | nil=>exact .nil
 | cons x l ih=>exact .cons rfl ih
theorem dU (a b:Int):Ar a b=(rng a b).map V.int:=by unfold Ar rng;rw[wX];rfl
theorem Uf {a b:Int}(h1:0<=a)(h2:a<=qF)(h3:0<=b)(h4:b<=qF):jX σ (.range a b)=qa ((rng a b).map V.int):=by
 rw[<-dU]
 have q:(qF:Int)<=1000000:=RO.mpr (LH (qU _))
 exact if_pos (by rw[decide_eq_true (by lia:(-1000000:Int)<=a),decide_eq_true (by lia:a<=1000000),decide_eq_true (by lia:(-1000000:Int)<=b),decide_eq_true (by lia:b<=1000000)];rfl)
theorem WG {a b:Int}(h1:0<=a)(h4:b<=qF):(rng a b).length<=qF:=by
 unfold rng;rw[qH,Ck];lia
theorem VA (h:σ[i]?=qa o)(e:Uv σ o=qa ws):KR σ [.ref i]=zM (.list ws) σ:=qZ ((za ..).trans h) (qZ e rfl)
theorem ZG (h:σ[i]?=qa o)(e:KE σ o=qa ws):Ln σ [.ref i]=zM (.list ws) σ:=qZ ((za ..).trans h) (qZ e rfl)
theorem U7 (h:J c a (Jb x y))(h1:0<=x)(h2:x<=qF)(h3:0<=y)(h4:y<=qF):J c (.call (.glob (.type "list")) [a] [] []) (qv zb (rng x y)):=EV (G:=λ_=>c.ty (qv zb (rng x y))) h λm σ v s p=>by
 obtain⟨i,rfl,q⟩:=p
 exact Dn.of ((YI ..).trans (VA (σ:=σ) (fz_get q).1 (Uf (σ:=σ) h1 h2 h3 h4))) (Bj s λf _ ho=>⟨WG h1 h4,_,_,rfl,ho,fa_ints _⟩)
theorem SY {id:String}{s z:qf}(h:J c a (qw s))(hm:vE nm Ld=qa (.bi id f))(k:∀σ,f σ (.str s) []=qa (.str z,σ)):J c (.meth a nm [] [] []) (qw z):=λm σ t=>Dn.bndE (h m σ t) λqM t1 _=>Dn.bn1 hm (zO (k qM) t1 rfl)
theorem WJ {s:qf}(h:J c a (qw s))(hs:jN (Cg s).length=qg):J c (.meth a D6 [] [] []) (qw (Cg s)):=SY (f:=Qp) (id := "str.upper") h (by kernel_rfl) λσ=>if_neg (by rw[hs];exact jy)
theorem PA {s:qf}(h:J c a (qw s))(hs:jN (zp s).length=qg):J c (.meth a wG [] [] []) (qw (zp s)):=SY (f:=GQ) (id := "str.lower") h (by kernel_rfl) λσ=>if_neg (by rw[hs];exact jy)
theorem Io (h:σ[i]?=qa (.list vs))(e:vE nm Dz=qa r):Cy O σ (.ref i) nm=qa r:=qZ ((za ..).trans h) e
theorem O8 (h:σ[i]?=qa (.sdict vs))(e:vE nm Fo=qa r):Cy O σ (.ref i) nm=qa r:=qZ ((za ..).trans h) e
theorem y3:vE HS Dz=qa (.bi "list.count" Qd):=by kernel_rfl
theorem xW:vE ES Dz=qa (.bi "list.index" Oo):=by kernel_rfl
theorem P6:vE DH Dz=qa (.bi "list.append" OQ):=by kernel_rfl
theorem qe4:vE Jy Dz=qa (.bi "list.insert" Qf):=by kernel_rfl
theorem uP:vE vn Fo=qa (.bi "dict.get" E0):=by kernel_rfl
theorem uC:vE Bl Fo=qa (.bi "dict.keys" (G7 0)):=by kernel_rfl
theorem dG:vE Ix Fo=qa (.bi "dict.values" (G7 1)):=by kernel_rfl
theorem WL (p:Fa qO (fz M σ) bs vs):BY σ (.bool qe) vs=qa (bs.map λb=>b == qe) :=
 PI (R:=qO) (λx w h=>by cases h;rfl) p
theorem XS {f:MF}{id:String}{z:V}(h:JL c a qO bs)(hm:vE nm Dz=qa (.bi id f))(k:∀σ i vs,σ[i]?=qa (.list vs)->small vs.length=qe->Fa qO (c.vw σ) bs vs->f σ (.ref i) [.bool qe]=qa (z,σ)):J c (.meth a nm [.bool qe] [] []) (zo z):=λm σ s=>Dn.bnd (h m σ s) λv qM s1 p _=>by
 obtain⟨hl,i,vs,rfl,q,f⟩:=p
 exact Dn.bn1 (Io q hm) (zO (k qM i vs q (Br f hl) f) s1 rfl)
theorem pW {bs:List Bool}(h:JL c a qO bs):J c (.meth a HS [.bool qe] [] []) (zb (((bs.map λb=>b == qe).countP λb=>b):Nat)):=XS h y3 λσ i vs q hs f=>(vQ q).trans ((if_pos hs).trans (qZ (WL f) rfl))
theorem iU {n:Nat}(h:JL c a qO bs)(hn:(bs.map λb=>b == qe).findIdx? (λb=>b)=qa n):J c (.meth a ES [.bool qe] [] []) (zb n):=XS h xW λσ i vs q hs f=>(vQ q).trans ((if_pos hs).trans (qZ (WL f) (qZ hn rfl)))
theorem qas (h:JD c a qw es)(hk:J c k (qw s))(hd:J c d (qw t)):J c (.meth a vn [k,d] [] []) (qw ((es.lookup s).getD t)):=λm σ z=>Dn.bnd (h m σ z) λv qM z1 p _=>by
 obtain⟨hl,i,vs,rfl,q,f⟩:=p
 refine Dn.bn1 (O8 q uP) (Dn.bndE (Kv hk hd m qM z1) λzZ z2 g2=>zO ((IO (g2.get q)).trans rfl) z2 ?_)
 show (jP vs s).getD (.str t)=_
 cases hx:es.lookup s with
 | none=>rw[(Qs f).2 hx];rfl
 | some x =>
  obtain⟨v,hv,rfl⟩:=(Qs f).1 x hx
  rw[hv];rfl
theorem XP (p:Fa qw f ss vs):Fs vs=qa ss/\vs=ss.map V.str:=by
 induction p with
 | nil=>refine⟨rfl,rfl⟩
 | cons h _ ih=>cases h;refine⟨qZ ih.1 rfl,congrArg (_ :: ·) ih.2⟩
theorem qcx (p:Fa zb f ss vs):vs=ss.map V.int:=by
 induction p with
 | nil=>rfl
 | cons h _ ih=>cases h;exact congrArg (_ :: ·) ih
theorem TT (l:List qf):Fa qw f l (l.map V.str):=by
 induction l with
 | nil=>exact .nil
 | cons x l ih=>exact .cons rfl ih
theorem mV (h:J c a (qw s))(k:JL c b qw ss)(hs:(ss.map (·.length)).sum+ss.length * s.length<=16777216):J c (.meth a I8 [b] [] []) (qw (aK s ss)):=λm σ t=>Dn.bndE (h m σ t) λqM t1 _=>Dn.bn1 (y:=Cy c.O qM (.str s) I8) (a:=.bi "str.join" O4) (by kernel_rfl) (Dn.bnd (KN k m qM t1) λv zZ t2 p _=>by
 obtain⟨_,rfl,hl,i,vs,rfl,q,f⟩:=p
 exact zO ((vQ q).trans (qZ (XP f).1 (if_pos (decide_eq_true hs)))) t2 rfl)
theorem Ti (h:JL c a R xs)(hl:ws.length<=qF)(hf:∀f,Fa S f ws us)(hs:∀f vs,Fa R f xs vs->∀σ,KE σ (.list vs)=qa us):J c (.call (.glob (.builtin "sorted")) [a] [] []) (qv S ws):=EV (G:=λ_=>c.ty (qv S ws)) h λm σ v s p=>by
 obtain⟨_,i,vs,rfl,q,f⟩:=p
 exact Dn.of ((R7 ..).trans (ZG q (hs _ _ f σ))) (Bj s λf _ ho=>⟨hl,_,_,rfl,ho,hf f⟩)
theorem Pn (h:n<=63):n<=qF:=zL (qu h (kJ rfl))
theorem gD (h:JL c a qw ss)(hl:ss.length<=63):J c (.call (.glob (.builtin "sorted")) [a] [] []) (qv qw (Bu ss)):=Ti h (by rw[show (Bu ss).length=ss.length from (E2 ss).length_eq];exact Pn hl) (λf=>TT _) λf vs p σ=>by
 refine(if_pos (decide_eq_true (by rw[p.len];exact hl))).trans ?_
 unfold Hk;rw[(XP p).1]
theorem Uo:∀l:List Int,Hb (l.map V.int)=qa l
 | []=>rfl
 | x :: l=>qZ (Uo l) rfl
theorem sB (h:JL c a zb ss)(hl:ss.length<=63):J c (.call (.glob (.builtin "sorted")) [a] [] []) (qv zb (Gb ss)):=Ti h (by rw[show (Gb ss).length=ss.length from (E2 ss).length_eq];exact Pn hl) (λf=>fa_ints _) λf vs p σ=>by
 refine(if_pos (decide_eq_true (by rw[p.len];exact hl))).trans ?_
 rw[qcx p]
 unfold Hk
 cases ss with
 | nil=>rfl
 | cons x r=>exact qZ (Uo (x :: r)) rfl
theorem PZ (p:Fd R f es vs):vs.length=es.length:=(qH (·.2) (as:=vs)).symm.trans p.2.len
theorem xB (h:JD c a R es)(hl:es.length<=63):J c (.call (.glob (.builtin "sorted")) [.meth a Bl [] [] []] [] []) (qv qw (Bu (es.map (·.1)))) :=
 EV (D:=λσ v=>∃j i vs,v=.ref j/\σ[j]?=qa (.view 0 i)/\σ[i]?=qa (.sdict vs)/\vs.length=es.length/\vs.map (·.1)=es.map (·.1)) (c:=c) (u:=.builtin "sorted") (a:=.meth a Bl [] [] []) (G:=λ_=>c.ty (qv qw (Bu (es.map λx:qf×α=>x.1)))) (λm σ s=>Dn.bnd (h m σ s) λv qM s1 p _=>by
  obtain⟨_,i,vs,rfl,q,f⟩:=p
  exact Dn.bn1 (O8 q uC) (Dn.of (y:=zM (.view 0 i) qM) (IO q) (dn rfl s1 (Gr.new ..) ⟨_,i,vs,rfl,last_get ..,Fq q _,PZ f,f.1⟩))) λm σ v s p=>by
  obtain⟨j,i,vs,rfl,q1,q2,h1,h2⟩:=p
  refine Dn.of ((R7 ..).trans (ZG q1 ((IO q2).trans (if_pos (decide_eq_true (by rw[h1];exact hl)))))) (Bj s λf _ ho=>⟨?_,_,_,rfl,ho,h2▸TT _⟩)
  rw[show (Bu (es.map (·.1))).length=es.length from (E2 _).length_eq.trans (qH ..)]
  exact Pn hl
theorem mM (h:JD c a R es)(hl:es.length<=qF):J c (.call (.glob (.type "list")) [.meth a Ix [] [] []] [] []) (qv (λe:qf×α=>R e.2) es) :=
 EV (D:=λσ v=>∃j i vs,v=.ref j/\σ[j]?=qa (.view 1 i)/\σ[i]?=qa (.sdict vs)/\Fd R (c.vw σ) es vs) (G:=λ_=>c.ty (qv (λe:qf×α=>R e.2) es)) (λm σ s=>Dn.bnd (h m σ s) λv qM s1 p _=>by
  obtain⟨_,i,vs,rfl,q,f⟩:=p
  exact Dn.bn1 (O8 q dG) (Dn.of (y:=zM (.view 1 i) qM) (IO q) (dn rfl s1 (Gr.new ..) ⟨_,i,vs,rfl,last_get ..,Fq q _,f.mono (c.le (Gr.new ..))⟩))) λm σ v s p=>by
  obtain⟨j,i,vs,rfl,q1,q2,f⟩:=p
  exact Dn.of ((YI ..).trans (VA q1 ((IO q2).trans (if_pos (Af (by rw[PZ f];exact hl)))))) (Bj s λf' hf ho=>⟨hl,_,_,rfl,ho,f.2.mono hf⟩)
noncomputable def Fn (O:qE)(a:qj)(Ts:List Ty)(T:Ty):Prop:=∀(M:List Nat) (σ:qi) (vs:List V),(∀q∈M,q < σ.length)->Fa id (fz M σ) Ts vs->∃v σ',O.fn a vs [] σ=qa (v,σ')/\Gr σ σ'/\T.p (fz M σ') v
theorem ve (hf:Fn c.O f Ts T)(h:Js c es Ts):J c (.call (.glob (.ref f)) es [] []) T:=λm σ s=>Dn.of LF (Dn.bnd (h m σ s) λvs qM s1 p _=>by
 obtain⟨v,zZ,e,g,q⟩:=hf c.N qM vs s1.bd p
 exact dn e s1 g q)
end
end
noncomputable section
noncomputable def C.it {α:Type}(c:C)(R:α->Ty)(xs:List α):qi->V->Prop:=λσ v=>xs.length<=qF/\∃it vs,vu σ v=qa it/\jX σ it=qa vs/\Fa R (c.vw σ) xs vs/\∃g:Gh,g.p (c.vw σ)/\∀M' σ',g.p (fz M' σ')->w8 σ' it vs=qe
noncomputable abbrev JI {α:Type}(c:C)(e:E)(R:α->Ty)(xs:List α):Prop:=Jg c e (c.it R xs)
section
variable {c:C}{e a b:E}{T U:Ty}{α β:Type}{R:α->Ty}{S:β->Ty}{xs:List α}{m:qx}{σ:qi}
theorem J.iter (h:J c e (qv R xs)):JI c e R xs:=Jg.imp h λσ v p=>by
 obtain⟨hl,i,vs,rfl,a,f⟩:=p
 have h3:=(fz_get a).1
 have hs:=Br f hl
 refine⟨hl,.list i,vs,qZ ((za ..).trans h3) rfl,IX h3 hs,f,⟨λf=>f i=qa (.list vs),λh k=>h _ _ k⟩,a,λM' σ' h=>G1 (fz_get h).1 hs⟩
theorem J.rng (h:J c e (Jb x y))(h1:0<=x)(h2:x<=qF)(h3:0<=y)(h4:y<=qF):JI c e zb (rng x y):=Jg.imp h λσ v p=>by
 obtain⟨i,rfl,q⟩:=p
 refine⟨WG h1 h4,.range x y,_,qZ ((za ..).trans (fz_get q).1) rfl,Uf (σ:=σ) h1 h2 h3 h4,fa_ints _,gN,trivial,λ_ _ _=>rfl⟩
noncomputable def z9 (ch:Nat):Ty:=qw ⟨#[ch]⟩
theorem gX (l:List Nat):Fa z9 f l (l.map λc=>V.str ⟨#[c]⟩):=by
 induction l with
 | nil=>exact .nil
 | cons x l ih=>exact .cons rfl ih
theorem J.chars (h:J c e (qw s))(hs:s.length<=qF):JI c e z9 s.cps.toList:=Jg.imp h λσ v p=>by
 obtain rfl:=p
 refine⟨hs,.str s,_,rfl,if_pos (Af hs),gX _,gN,trivial,λ_ _ _=>rfl⟩
theorem JI.un {γ:Type}{R:γ->Ty}{u:α->γ}(h:JI c e R (xs.map u)):JI c e (λx=>R (u x)) xs:=Jg.imp h λσ v p=>by
 obtain⟨hl,it,vs,h1,h2,h4,h5⟩:=p
 refine⟨(qH u (as:=xs))▸hl,it,vs,h1,h2,h4.unmap,h5⟩
noncomputable def C.ex (c:C)(Δ:List (Option Ty)):C:={ c with Γ:=c.Γ++Δ }
theorem FG (l k:List α)(i:Nat):qy (l++k) i=if i < l.length then qy l i else qy k (i - l.length):=by
 rw[za,za,za,List.getElem?_append]
theorem ET (m:qx)(i:Nat):z5 m i=(qy m i).getD qb:=by unfold z5;cases qy m i <;> rfl
theorem St.ex (s:St c m σ)(r:qx)(hl:r.length=Δ.length)(h:∀i T,qy Δ i=qa (qa T)->∃v,z5 r i=qa v/\T.p (c.vw σ) v):St (c.ex Δ) (m++r) σ :=
 ⟨s.gr,s.up,s.bm,s.nd,s.hp,s.hd,by rw[zw,s.ln,hl];exact(zw ..).symm,λi T q=>by
  have q:qy (c.Γ++Δ) i=qa (qa T):=q
  rw[FG,<-s.ln] at q
  rw[ET,FG]
  by_cases k:i < m.length
  ·rw[if_pos k] at q ⊢;rw[<-ET];exact s.mt i T q
  ·rw[if_neg k] at q ⊢;rw[<-ET];exact h _ T q⟩
theorem SV:∀(m:List α)(x:α)(r:List α)(v:α),(m++x :: r).set m.length v=m++v :: r
 | [],_,_,_=>rfl
 | a :: m,x,r,v=>congrArg (a :: ·) (SV m x r v)
theorem qeG (m:qx)(x:Option V)(r:qx):z5 (m++x :: r) m.length=x:=by rw[ET,FG,if_neg (j7 _),HP];rfl
theorem qaq (h:m.length=i)(v:V)(r:List (Option V)):Er (m++qb :: r) i v=qa (m++qa v :: r):=by
 subst h
 unfold Er
 rw[qeG,SV]
 exact if_pos (by rw[jT];refine⟨decide_eq_true (by rw[zw];exact Mt (DN _)),rfl⟩)
noncomputable def Bn (c:C)(n:Nat)(t:Tg)(U:Ty)(Δ:List (Option Ty)):Prop:=∀m σ v,St c m σ->U.p (c.vw σ) v->∃m',GB σ t v (m++zS n qb)=qa m'/\St (c.ex Δ) m' σ
theorem La (h:m.length=i)(x:Option V)(v:V)(r:List (Option V)):Er (m++x :: qb :: r) (i+1) v=qa (m++x :: qa v :: r):=by
 have:=qaq (m:=m++[x]) (i:=i+1) (by rw[zw,h];rfl) v r
 rw[jq,jq] at this;exact this
theorem VO (h:m.length=i)(x y:Option V)(v:V)(r:List (Option V)):Er (m++x :: y :: qb :: r) (i+2) v=qa (m++x :: y :: qa v :: r):=by
 have:=La (m:=m++[x]) (i:=i+1) (by rw[zw,h];rfl) y v r
 rw[jq,jq] at this;exact this
theorem XF (s:St c m σ)(p:U.p (c.vw σ) v)(r:List (Option V)):St (c.ex (qb :: qa U :: r.map λ_=>qb)) (m++qb :: qa v :: r) σ:=s.ex _ (by simp) λi T q=>match i,q with
 | 0,q=>nn (zc q)
 | 1,q=>⟨v,rfl,zc (zc q)▸p⟩
 | i+2,q=>by
  have q:qy (r.map λ_=>(qb:Option Ty)) i=qa (qa T):=q
  rw[za,wU] at q
  cases h:r[i]? with
  | none=>rw[h] at q;exact nn q
  | some=>rw[h] at q;exact nn (zc q)
theorem WD (s:St c m σ)(p:A.p (c.vw σ) v)(q:B.p (c.vw σ) w):St (c.ex [qb,qa A,qa B]) (m++[qb,qa v,qa w]) σ:=s.ex _ rfl λi T q'=>match i,q' with
 | 0,q'=>nn (zc q')
 | 1,q'=>⟨v,rfl,zc (zc q')▸p⟩
 | 2,q'=>⟨w,rfl,zc (zc q')▸q⟩
 | i+3,q'=>by rw[za] at q';exact nn q'
theorem Dm (hi:c.Γ.length=i):Bn c 2 (.var (i+1)) U [qb,qa U]:=λm σ v s p=>⟨m++[qb,qa v],La (s.ln.trans hi) _ v _,XF s p []⟩
noncomputable def PH (U A B:Ty):Prop:=∀M σ v,U.p (fz M σ) v->∃x y,Aq σ v=qa [x,y]/\A.p (fz M σ) x/\B.p (fz M σ) y
theorem Kd (hu:PH U A B)(hi:c.Γ.length=i):Bn c 3 (.tup [i+1,i+2]) U [qb,qa A,qa B]:=λm σ v s p=>by
 obtain⟨x,y,e,p1,p2⟩:=hu _ _ _ p
 refine⟨m++[qb,qa x,qa y],qZ e (qZ (La (s.ln.trans hi) _ x _) (qZ (VO (s.ln.trans hi) _ _ y _) rfl)),WD s p1 p2⟩
theorem Ol:PH (CQ [A,B]) A B:=λM σ v p=>by
 obtain⟨_,i,vs,rfl,a,f⟩:=p
 cases f with | cons x f=>cases f with | cons y f=>cases f;refine⟨_,_,qZ ((za ..).trans (fz_get a).1) rfl,x,y⟩
theorem XI:PH (qv R [x,y]) (R x) (R y):=λM σ v p=>by
 obtain⟨_,i,vs,rfl,a,f⟩:=p
 cases f with | cons x f=>cases f with | cons y f=>cases f;refine⟨_,_,qZ ((za ..).trans (fz_get a).1) rfl,x,y⟩
theorem Dn.back (h:Dn c' D m' σ x)(s:St c m σ):Dn c D m σ x:=h.elim λb h=>h.elim λσ' h=>dn h.1 s h.2.2.2 h.2.2.1
inductive Fp (Q:β->FV->V×V->Prop)(f:FV):List β->List (V×V)->Prop
 | nil:Fp Q f [] []
 | cons {x:β} {p:V×V} {xs:List β} {ps:List (V×V)}:Q x f p->Fp Q f xs ps->Fp Q f (x :: xs) (p :: ps)
theorem Fp.mono (hQ:∀x f g p,Le f g->Q x f p->Q x g p)(h:Le f g)(a:Fp Q f ys ps):Fp Q g ys ps:=by
 induction a with
 | nil=>exact .nil
 | cons b _ ih=>exact .cons (hQ _ _ _ _ h b) ih
theorem Fp.app (a:Fp Q f ys ps)(b:Fp Q f zs qs):Fp Q f (ys++zs) (ps++qs):=by
 induction a with
 | nil=>exact b
 | cons h _ ih=>exact .cons h ih
theorem Fp.len (a:Fp Q f ys ps):ps.length=ys.length:=by
 induction a with
 | nil=>rfl
 | cons _ _ ih=>exact congrArg (· + 1) ih
noncomputable def FI (T:β->Ty):β->FV->V×V->Prop:=λx f p=>(T x).p f p.1
theorem Fp.fa {T:β->Ty}{f:FV}(a:Fp (FI T) f ys ps):Fa T f ys (ps.map (·.1)):=by
 induction a with
 | nil=>exact .nil
 | cons h _ ih=>exact .cons h ih
noncomputable def GC (c:C)(Q:β->FV->V×V->Prop)(ql:List (V×V))(ys:List β):qi->List (V×V)->Prop:=λσ r=>∃us,r=ql++us/\Fp Q (c.vw σ) ys us
theorem RX {Q:β->FV->V×V->Prop}(hQ:∀x f g p,Le f g->Q x f p->Q x g p){g:α->List β}{Hs:qi}(hs:∀σ',Gr Hs σ'->w8 σ' it all=qe)
  (hf:∀x∈xs,∀σ v ql,Gr Hs σ->St c m σ->(R x).p (c.vw σ) v->ql.length+(g x).length<=qF->Dn c (GC c Q ql (g x)) m σ (f v σ ql)):∀vs σ ql,St c m σ->Gr Hs σ->Fa R (c.vw σ) xs vs->ql.length+(xs.flatMap g).length<=qF->Dn c (GC c Q ql (xs.flatMap g)) m σ (wc it all f vs σ ql):=by
 induction xs with
 | nil=>exact λvs σ ql s h a _=>by cases a;exact Dn.ifp (hs _ h) (zO rfl s ⟨[],(jF _).symm,.nil⟩)
 | cons y ys ih =>
  intro vs σ ql s h a hl
  rw[M1] at hl ⊢
  rw[zw,<-EA] at hl
  cases a with
  | cons a1 a2 =>
   refine Dn.ifp (hs _ h) (Dn.bnd (hf y (.head _) σ _ ql h s a1 (qu (Ba ..) hl)) λr qM s1 p g1=>?_)
   obtain⟨us,rfl,p⟩:=p
   obtain⟨r,zZ,e,s2,⟨us2,rfl,p2⟩,g2⟩:=ih (λx hx=>hf x (.tail _ hx)) _ qM (ql++us) s1 (h.trans g1) (a2.mono (c.le g1)) (by rw[zw,p.len];exact hl)
   exact dn e s1 g2 ⟨us++us2,jq ..,(p.mono hQ (c.le g2)).app p2⟩
theorem Vb {T:β->Ty}(x:β)(f g:FV)(p:V×V)(h:Le f g)(k:FI T x f p):FI T x g p:=(T x).mono h k
theorem Xp (hQ:∀x f g p,Le f g->Q x f p->Q x g p){g:α->List β}{fr:qx->qx}{γ:Type}{G:qi->γ->Prop}{F:List (V×V)->qi->Option (γ×qi)}(h:JI c e R xs)(hm:(xs.flatMap g).length<=qF)
  (hb:∀x∈xs,∀m σ v ql,St c m σ->(R x).p (c.vw σ) v->ql.length+(g x).length<=qF->Dn c (GC c Q ql (g x)) m σ (wa c.O t ifs rest leaf (fr m) v σ ql)) (s:St c m σ) (hF:∀us σ',St c m σ'->Fp Q (c.vw σ') (xs.flatMap g) us->Dn c G m σ' (F us σ')) :
  Dn c G m σ (bnd (ev c.O e m σ) λv σ=>bn1 (vu σ v) λit=>bn1 (jX σ it) λitems=>bnd (wc it items (wa c.O t ifs rest leaf (fr m)) items σ []) F):=Dn.bnd (h m σ s) λv qM s1 p _=>by
 obtain⟨_,it,vs,h1,h2,h4,g',h5,h6⟩:=p
 refine Dn.bn1 h1 (Dn.bn1 h2 (Dn.bnd (RX (Q:=Q) hQ (f:=wa c.O t ifs rest leaf (fr m)) (λσ' hg=>h6 _ σ' (g'.mono (hg.le _) h5)) (λx hx σ v ql _=>hb x hx m σ v ql) vs qM [] s1 (Gr.refl _) h4 (by rw[List.length_nil,Mu];exact hm)) λql zZ s2 p _=>?_))
 obtain⟨us,e,p⟩:=p
 exact e▸hF us zZ s2 p
theorem Qr {ifs:List E}{rest:List Gn}{T:β->Ty}{g:α->List β}(h:JI c e R xs)(hm:(xs.flatMap g).length<=qF)
  (hb:∀x∈xs,∀m σ v ql,St c m σ->(R x).p (c.vw σ) v->ql.length+(g x).length<=qF->Dn c (GC c (FI T) ql (g x)) m σ (wa c.O t ifs rest (Fb c.O elt) (m++zS n qb) v σ ql)):Jn c (.lcomp n elt t e ifs rest) (cL T (xs.flatMap g)):=λm σ s =>
 Xp (fr:=λm=>m++zS n qb) Vb h hm hb s λus σ' s' p=>EM s' ⟨_,rfl,p.fa⟩
theorem UI {T:β->Ty}{y:β}{elt:E}(s:St c m σ)(s':St (c.ex Δ) m' σ)(h:J (c.ex Δ) elt (T y))(hl:ql.length+1<=qF):Dn c (GC c (FI T) ql [y]) m σ (Fb c.O elt m' σ ql) :=
 Dn.back (Dn.bnd (h m' σ s') λv qM s1 p _=>Dn.ifp (Af (Bf hl)) (zO rfl s1 ⟨[(v,V.none)],rfl,.cons p .nil⟩)) s
theorem GD (u:α->β)(l:List α):(l.flatMap λx=>[u x])=l.map u:=by
 induction l with
 | nil=>rfl
 | cons x l ih=>rw[M1,ih];rfl
theorem Zl (u:α->β)(q:α->Bool)(l:List α):(l.flatMap λx=>cond (q x) [u x] [])=(l.filter q).map u:=by
 induction l with
 | nil=>rfl
 | cons x l ih =>
  rw[M1,ih,cQ]
  cases q x <;> rfl
theorem qfV {T:β->Ty}{u:α->β}{Δ:α->List (Option Ty)}(h:JI c e R xs)(hm:xs.length<=qF)(hn:∀x,Bn c n t (R x) (Δ x))(hb:∀x∈xs,J (c.ex (Δ x)) elt (T (u x))):Jn c (.lcomp n elt t e [] []) (cL T (xs.map u)):=by
 rw[<-GD]
 exact Qr (g:=λx=>[u x]) h (by rw[GD,qH];exact hm) λx hx m σ v ql s p hl=>by
  obtain⟨m',e1,s'⟩:=hn x m σ v s p
  exact Dn.bn1 e1 (UI s s' (hb x hx) hl)
theorem Sz {T:β->Ty}{u:α->β}{q:α->Bool}{Δ:α->List (Option Ty)}(h:JI c e R xs)(hm:xs.length<=qF)(hn:∀x,Bn c n t (R x) (Δ x))(ht:∀x∈xs,Jt (c.ex (Δ x)) f (q x))(hb:∀x∈xs,q x=qe->J (c.ex (Δ x)) elt (T (u x))):Jn c (.lcomp n elt t e [f] []) (cL T ((xs.filter q).map u)):=by
 rw[<-Zl]
 refine Qr (g:=λx=>cond (q x) [u x] []) h (by rw[Zl,qH];exact qu (F5 ..) hm) λx hx m σ v ql s p hl=>?_
 obtain⟨m',e1,s'⟩:=hn x m σ v s p
 refine Dn.bn1 e1 (Dn.back (c:=c) (Dn.bnT (b:=q x) (Dn.bnT (ht x hx m' σ s') (λhr qM s1=>zO rfl s1 hr.symm) λhr qM s1=>zO rfl s1 hr.symm) (λhr qM s1=>?_) λhr qM s1=>?_) s)
 ·rw[hr] at hl ⊢
  exact Dn.bnd (hb x hx hr m' qM s1) λv qM s1 p _=>Dn.ifp (Af (Bf hl)) (zO rfl s1 ⟨[(v,V.none)],rfl,.cons p .nil⟩)
 ·rw[hr]
  exact zO rfl s1 ⟨[],(jF _).symm,.nil⟩
theorem Dt {T:β->Ty}{u:α->β}{Δ:α->List (Option Ty)}(h:JI c e R xs)(hm:xs.length<=qF)(hn:∀x,Bn c n t (R x) (Δ x))(hb:∀x∈xs,J (c.ex (Δ x)) elt (T (u x))):J c (.lcomp n elt t e [] []) (qv T (xs.map u)):=(qfV h hm hn hb).list (by rw[qH];exact hm)
theorem Tv {T:β->Ty}{u:α->β}{q:α->Bool}{Δ:α->List (Option Ty)}(h:JI c e R xs)(hm:xs.length<=qF)(hn:∀x,Bn c n t (R x) (Δ x))(ht:∀x∈xs,Jt (c.ex (Δ x)) f (q x))(hb:∀x∈xs,q x=qe->J (c.ex (Δ x)) elt (T (u x))):J c (.lcomp n elt t e [f] []) (qv T ((xs.filter q).map u)):=(Sz h hm hn ht hb).list (by rw[qH];exact qu (F5 ..) hm)
theorem qaj {i:Nat}{elt it2:E}{T:β->Ty}{γ:Type}{Q:γ->Ty}{ys:α->List γ}{u:α->γ->β}(hi:c.Γ.length=i)(h:JI c e R xs)(hm:(xs.flatMap λx=>(ys x).map (u x)).length<=qF)(h2:∀x∈xs,JI (c.ex [qb,qa (R x),qb]) it2 Q (ys x))
  (hb:∀x∈xs,∀y∈ys x,J (c.ex [qb,qa (R x),qa (Q y)]) elt (T (u x y))):J c (.lcomp 3 elt (.var (i+1)) e [] [.mk (.var (i+2)) it2 []]) (qv T (xs.flatMap λx=>(ys x).map (u x))):=(Qr (n:=3) h hm λx hx m σ v ql s p hl=>by
 refine Dn.bn1 (La (s.ln.trans hi) qb v [qb]) (Dn.back (Dn.bnd (h2 x hx _ σ (XF s p [qb])) λw qM s1 p1 g1=>?_) s)
 obtain⟨_,it,vs,h1,h2',h4,g',h5,h6⟩:=p1
 refine Dn.bn1 h1 (Dn.bn1 h2' (Dn.of rfl (Dn.imp (D:=GC _ (FI T) ql ((ys x).flatMap λy=>[u x y])) (RX (Q:=FI T) Vb (c:=c.ex [qb,qa (R x),qb]) (f:=wa c.O (.var (i+2)) [] [] (Fb c.O elt) (m++[qb,qa v,qb])) (λσ' hg=>h6 _ σ' (g'.mono (hg.le _) h5)) (λy hy zZ w2 ql g2 s2 p2 hl=>Dn.bn1 (VO (s.ln.trans hi) qb (qa v) w2 []) (Dn.back (UI (c:=c) (m:=m) (s.grow (g1.trans g2)) (WD (s.grow (g1.trans g2)) ((R x).mono (c.le (g1.trans g2)) p) p2) (hb x hx y hy) hl) s2)) vs qM ql s1 (Gr.refl _) h4 (by rw[GD];exact hl)) λσ b q=>(GD (u x) (ys x))▸q)))).list hm
end
end
noncomputable section
noncomputable def C.up (c:C)(i:Nat)(T:Ty):C:={ c with Γ:=c.Γ.set i (qa T) }
noncomputable def C.un (c:C)(i:Nat):C:={ c with Γ:=c.Γ.set i qb }
noncomputable def C.ups (c:C):List Nat->List Ty->C
 | i :: is,T :: Ts=>(c.up i T).ups is Ts
 | _,_=>c
noncomputable def C.mk' (c:C)(i q:Nat)(K:Co):C:={ c with H:=c.H++[(q,K)],Γ:=c.Γ.set i (qa (zo (.ref q))) }
noncomputable def C.re (c:C)(k i q:Nat)(K:Co):C:={ c with H:=c.H.set k (q,K),Γ:=c.Γ.set i (qa (zo (.ref q))) }
noncomputable def C.tn (c:C)(k q:Nat)(K:Co):C:={ c with H:=c.H.set k (q,K) }
noncomputable def C.fr (c:C)(k i:Nat)(T:Ty):C:={ c with H:=c.H.eraseIdx k,Γ:=c.Γ.set i (qa T) }
noncomputable def C.w (c:C)(p:List (Nat×Co)×List (Option Ty)):C:={ c with H:=p.1,Γ:=p.2 }
noncomputable def C.hold (c:C)(g:Gh):C:={ c with g:=⟨λf=>g.p f/\c.g.p f,λh k=>⟨g.mono h k.1,c.g.mono h k.2⟩⟩ }
section
variable {c c':C}{m:qx}{σ:qi}{T U:Ty}{α β:Type}{R:α->Ty}{xs:List α}{i k q:Nat}{K K':Co}{v:V}{e:E}{r:List S}
theorem Fk (l:List α)(i j:Nat)(x:α):qy (l.set i x) j=if i=j then (if i < l.length then qa x else qb) else qy l j:=by
 rw[za,za,qio]
theorem Gl (m:qx)(i j:Nat)(v:V):z5 (m.set i (qa v)) j=if i=j then (if i < m.length then qa v else qb) else z5 m j:=by
 rw[ET,Fk,ET]
 by_cases h:i=j
 ·rw[if_pos h,if_pos h];by_cases k:i < m.length
  ·rw[if_pos k,if_pos k];rfl
  ·rw[if_neg k,if_neg k];rfl
 ·rw[if_neg h,if_neg h]
theorem St.put (s:St c m σ)(p:T.p (c.vw σ) v)(hi:z3 i c.Γ.length=qe):St (c.up i T) (m.set i (qa v)) σ :=
 ⟨s.gr,s.up,s.bm,s.nd,s.hp,s.hd,(wo ..).trans (s.ln.trans (wo ..).symm),λj U h=>by
  have h:qy (c.Γ.set i (qa T)) j=qa (qa U):=h
  rw[Fk] at h
  rw[Gl]
  by_cases e:i=j
  ·rw[if_pos e,if_pos (kE.mp hi)] at h
   rw[if_pos e,if_pos (s.ln▸kE.mp hi)]
   refine⟨v,rfl,zc (zc h)▸p⟩
  ·rw[if_neg e] at h ⊢;exact s.mt j U h⟩
theorem St.un (s:St c m σ)(i:Nat):St (c.un i) m σ :=
 ⟨s.gr,s.up,s.bm,s.nd,s.hp,s.hd,s.ln.trans (wo ..).symm,λj U h=>by
  have h:qy (c.Γ.set i qb) j=qa (qa U):=h
  rw[Fk] at h
  by_cases e:i=j
  ·rw[if_pos e] at h
   by_cases k:i < c.Γ.length
   ·rw[if_pos k] at h;exact nn (zc h)
   ·rw[if_neg k] at h;exact nn h
  ·rw[if_neg e] at h;exact s.mt j U h⟩
theorem H8 (s:St c m σ)(hi:z3 i c.Γ.length=qe):put m i v=qa (m.set i (qa v)):=if_pos (s.ln▸kE.mp hi)
noncomputable def Bt (c:C)(t:Tg)(U:Ty)(c':C):Prop:=∀m σ v,St c m σ->U.p (c.vw σ) v->∃m',AP σ t v m=qa m'/\St c' m' σ
noncomputable def M6 (U:Ty)(Ts:List Ty):Prop:=∀M σ v,U.p (fz M σ) v->∃vs,Aq σ v=qa vs/\Fa id (fz M σ) Ts vs
theorem YN:M6 (CQ Ts) Ts:=λM σ v p=>by
 obtain⟨hl,i,vs,rfl,a,f⟩:=p
 refine⟨vs,qZ ((za ..).trans (fz_get a).1) (if_pos (Br f hl)),f⟩
theorem Fa.im:∀{xs:List α}{vs:List V},Fa R f xs vs->Fa id f (xs.map R) vs
 | [],_,h=>by cases h;exact .nil
 | _ :: _,_,h=>by cases h with | cons a b=>exact .cons a b.im
theorem Zc:M6 (qv R xs) (xs.map R):=λM σ v p=>by
 obtain⟨hl,i,vs,rfl,a,f⟩:=p
 refine⟨vs,qZ ((za ..).trans (fz_get a).1) (if_pos (Br f hl)),f.im⟩
theorem VZ:∀{is:List Nat}{Ts:List Ty}{vs:List V}{c:C}{m:qx},St c m σ->Fa id (c.vw σ) Ts vs->is.length=Ts.length->(is.all λi=>z3 i c.Γ.length)=qe->∃m',kg is vs m=qa m'/\St (c.ups is Ts) m' σ
 | [],[],_,_,m,s,f,_,_=>by cases f;refine⟨m,rfl,s⟩
 | i :: is,T :: Ts,_,c,m,s,f,hl,ha=>by
  cases f with
  | cons p f =>
   obtain⟨h1,h2⟩:=(z0.mp ha)
   obtain⟨m',e,s'⟩:=VZ (s.put p h1) f (F6 hl) (by rw[<-h2];exact congrArg (λn=>is.all λi=>z3 i n) (wo ..))
   refine⟨m',qZ (H8 s h1) e,s'⟩
 | [],_ :: _,_,_,_,_,_,hl,_=>nomatch hl
 | _ :: _,[],_,_,_,_,_,hl,_=>nomatch hl
theorem K8 (hu:M6 U Ts)(hl:is.length=Ts.length)(ha:(is.all λi=>z3 i c.Γ.length)=qe):Bt c (.tup is) U (c.ups is Ts):=λm σ v s p=>by
 obtain⟨vs,e,f⟩:=hu _ _ _ p
 obtain⟨m',e',s'⟩:=VZ s f hl ha
 refine⟨m',qZ e e',s'⟩
theorem C8 (hk:qy c.H k=qa (q,K)):(q,K)∈c.H:=wT ((za ..).symm.trans hk)
theorem OW {e:Nat×Co}(h:e∈c.H):e.1∈c.N:=kH _ (qG.mpr ⟨e,h,rfl⟩)
theorem St.other (s:St c m σ)(p:K.p (c.vw σ) o)(hH:∀e∈H,e∈c.H\/e=(σ.length,K))(nd:(H.map (·.1)).Nodup)(hl:m'.length=Γ.length)
  (mt:∀i T,qy Γ i=qa (qa T)->(∃v,z5 m' i=qa v/\T.p (c.vw σ) v)\/(T=zo (.ref σ.length)/\z5 m' i=qa (.ref σ.length))):St { c with H:=H,Γ:=Γ } m' (σ++[o]):=by
 have hle:Le (c.vw σ) (C.vw { c with H:=H,Γ:=Γ } (σ++[o])):=(N2 (N:=C.N { c with H:=H,Γ:=Γ }) λq hq=>(zT.mp hq).elim (λh=>(qG.mp h).elim λe h=>h.2▸(hH e h.1).elim (λh=>.inl (OW h)) λh=>.inr (by rw[h];exact qU _)) λh=>.inl (wV _ h)).trans ((Gr.new σ o).le _)
 refine⟨s.gr.trans (Gr.new ..),λe he=>(hH e he).elim (s.up e) λh=>by rw[h];exact s.gr.len,s.bm,nd,λe he=>?_,c.g.mono hle s.hd,hl,λi T h=>?_⟩
 ·rcases hH e he with h | rfl
  ·obtain⟨u,h1,h2⟩:=s.hp e h
   refine⟨u,Fq h1 _,e.2.mono hle h2⟩
  ·refine⟨o,last_get ..,K.mono hle p⟩
 ·rcases mt i T h with ⟨v,h1,h2⟩ | ⟨rfl,h1⟩
  ·refine⟨v,h1,T.mono hle h2⟩
  ·refine⟨_,h1,rfl⟩
theorem St.mtset (s:St c m σ)(hi:z3 i c.Γ.length=qe)(j:Nat)(U:Ty)(h:qy (c.Γ.set i (qa (zo v))) j=qa (qa U)):(∃w,z5 (m.set i (qa v)) j=qa w/\U.p (c.vw σ) w)\/(U=zo v/\z5 (m.set i (qa v)) j=qa v):=by
 rw[Fk] at h
 rw[Gl]
 by_cases e:i=j
 ·rw[if_pos e,if_pos (kE.mp hi)] at h
  rw[if_pos e,if_pos (s.ln▸kE.mp hi)]
  exact .inr ⟨(zc (zc h)).symm,rfl⟩
 ·rw[if_neg e] at h ⊢;exact .inl (s.mt j U h)
theorem O0 (s:St c m σ):σ.length∉c.H.map (·.1):=λh=>j7 _ (s.bd _ (kH _ h))
theorem Wb (hk:qy c.H k=qa (q,K)):(c.tn k q K').N=c.N:=congrArg (·++c.M) (by
 show (c.H.set k (q,K')).map (·.1)=_
 rw[qip]
 have:(c.H.map (·.1))[k]?=qa q:=by rw[wU,<-za,hk];rfl
 exact(qgY λj=>by
  rw[qio]
  by_cases e:k=j
  ·subst e;rw[if_pos rfl,this,if_pos (kF.mp this).1]
  ·rw[if_neg e]))
theorem St.inj (s:St c m σ)(h1:c.H[k]?=qa a)(h2:c.H[j]?=qa b)(e:a.1=b.1):k=j:=by
 have a1:(c.H.map (·.1))[k]?=qa a.1:=by rw[wU,h1];rfl
 have a2:(c.H.map (·.1))[j]?=qa b.1:=by rw[wU,h2];rfl
 exact(qiq (kF.mp a1).1 s.nd).mp (a1.trans (e▸a2.symm))
theorem St.turn {o:AObj}(s:St c m σ)(hk:qy c.H k=qa (q,K))(p:K'.p (c.vw σ) o):St (c.tn k q K') m (σ.set q o):=by
 have hm:=C8 hk
 have hq:=OW hm
 have hN:(c.tn k q K').vw (σ.set q o)=c.vw (σ.set q o):=congrArg (fz · _) (Wb hk)
 have hle:Le (c.vw σ) ((c.tn k q K').vw (σ.set q o)):=hN▸qc4 o hq
 refine⟨s.gr.set o (s.up _ hm),λe he=>(cR he).elim (s.up e) λh=>by rw[h];exact s.up (q,K) hm,s.bm,List.append_cancel_right (Wb (K':=K') hk)▸s.nd,λe he=>?_,c.g.mono hle s.hd,s.ln,λi T h=>(s.mt i T h).elim λv h=>⟨v,h.1,T.mono hle h.2⟩⟩
 obtain⟨j,hj⟩:=RF he
 have hj:(c.H.set k (q,K'))[j]?=qa e:=hj
 rw[<-za,Fk] at hj
 by_cases h:k=j
 ·rw[if_pos h] at hj
  by_cases hl:k < c.H.length
  ·rw[if_pos hl] at hj
   exact zc hj▸⟨o,bJ (s.bd q hq),K'.mono hle p⟩
  ·rw[if_neg hl] at hj;exact nn hj
 ·rw[if_neg h,za] at hj
  obtain⟨u,h1,h2⟩:=s.hp e (wT hj)
  refine⟨u,(MC λhq=>h (s.inj ((za ..).symm.trans hk) hj hq)).trans h1,e.2.mono hle h2⟩
theorem St.frz (s:St c m σ)(hi:qy c.Γ i=qa (qa U))(hk:qy c.H k=qa (q,K))(h:∀f o v,K.p f o->f q=qa o->U.p f v->T.p f v):St (c.fr k i T) m σ:=by
 have hm:=C8 hk
 have sub:(c.H.eraseIdx k).Sublist c.H:=List.eraseIdx_sublist ..
 have hle:Le (c.vw σ) ((c.fr k i T).vw σ):=N2 λp hp=>.inl ((zT.mp hp).elim (λh=>kH _ ((sub.map _).subset h)) λh=>wV _ h)
 have hnot:q∉(c.fr k i T).N:=λhn=>(zT.mp hn).elim (λhn=>by
  obtain⟨e,he,hq⟩:=qG.mp hn
  obtain⟨j,hj,e'⟩:=List.mem_eraseIdx_iff_getElem?.mp he
  exact hj (s.inj ((za ..).symm.trans hk) e' hq.symm).symm) λhn=>absurd (s.bm q hn) (k8.mpr (s.up _ hm))
 obtain⟨o,h1,h2⟩:=s.hp _ hm
 refine⟨s.gr,λe he=>s.up e (sub.subset he),s.bm,s.nd.sublist (sub.map _),λe he=>(s.hp e (sub.subset he)).elim λo h=>⟨o,h.1,e.2.mono hle h.2⟩,c.g.mono hle s.hd,s.ln.trans (wo ..).symm,λj U' hj=>?_⟩
 have hj:qy (c.Γ.set i (qa T)) j=qa (qa U'):=hj
 rw[Fk] at hj
 by_cases e:i=j
 ·subst e
  rw[if_pos rfl] at hj
  by_cases hl:i < c.Γ.length
  ·rw[if_pos hl] at hj
   obtain rfl:=zc (zc hj)
   obtain⟨v,g1,g2⟩:=s.mt i _ hi
   refine⟨_,g1,h _ o v (K.mono hle h2) (fz_of h1 hnot) (U.mono hle g2)⟩
  ·rw[if_neg hl] at hj;exact nn hj
 ·rw[if_neg e] at hj
  exact(s.mt j U' hj).elim λv h=>⟨v,h.1,U'.mono hle h.2⟩
end
end
noncomputable section
noncomputable abbrev Po:=Fl->qx->qi->Prop
noncomputable def XD (P:Po)(x:XR):Prop:=∃fl m σ,x=qa (fl,m,σ)/\P fl m σ
noncomputable def X (c:C)(ss:List S)(P:Po):Prop:=∀m σ,St c m σ->XD P (exs c.O ss m σ)
noncomputable def nx (c:C):Po:=λfl m σ=>fl=.next/\St c m σ
noncomputable def Pf (M:List Nat)(s:qi)(T:Ty):Po:=λfl _ σ=>∃v,fl=.ret v/\Gr s σ/\T.p (fz M σ) v
section
variable {c c':C}{m m':qx}{σ σ':qi}{T U:Ty}{α β:Type}{R:α->Ty}{xs:List α}{i k q:Nat}{K K':Co}{v:V}{e:E}{r ss tt:List S}{s:S}{P Q:Po}{O:qE}
theorem Db (h:ex O s m σ=qa (.next,m',σ'))(k:XD P (exs O r m' σ')):XD P (exs O (s :: r) m σ):=(zY h).symm▸k
theorem X.imp (h:X c ss Q)(k:∀fl m σ,Q fl m σ->P fl m σ):X c ss P:=λm σ s=>(h m σ s).elim λfl h=>h.elim λm' h=>h.elim λσ' h=>⟨fl,m',σ',h.1,k _ _ _ h.2⟩
theorem X.at (h:X c' ss P)(k:∀m σ,St c m σ->St c' m σ)(hO:c'.O=c.O):X c ss P:=λm σ s=>hO▸h m σ (k m σ s)
theorem P5 (h:∀m σ,St c m σ->P .next m σ):X c [] P:=λm σ s=>⟨_,_,_,rfl,h m σ s⟩
theorem CM (h:∀m σ,St c m σ->St c' m σ):X c [] (nx c'):=P5 λm σ s=>⟨rfl,h m σ s⟩
theorem zX (h:J c e T)(hi:z3 i c.Γ.length=qe)(k:X (c.up i T) r P):X c (.assign (.var i) e :: r) P:=λm σ s=>(h m σ s).elim λv h=>h.elim λσ' h =>
 Db (vK h.1 (s.ln▸kE.mp hi)) (k _ _ (h.2.1.put h.2.2.1 hi))
theorem LY (h:J c e T)(hb:Bt c (.tup is) T c')(k:X c' r P)(hO:c'.O=c.O):X c (.assign (.tup is) e :: r) P:=λm σ s=>(h m σ s).elim λv h=>h.elim λσ' h=>(hb m σ' v h.2.1 h.2.2.1).elim λm' g =>
 b1 (x:=Aq σ' v) (f:=λvs=>kg is vs m) g.1 λvs e1 e2=>Db (z8 h.1 (z8 (qZ e1 (qZ e2 rfl)) rfl)) (hO▸k _ _ g.2)
theorem KO (h:J c e T)(k:∀v m σ,St c m σ->T.p (c.vw σ) v->P (.ret v) m σ):X c (.ret e :: r) P:=λm σ s=>(h m σ s).elim λv h=>h.elim λσ' h=>⟨_,_,_,vO (AT h.1),k _ _ _ h.2.1 h.2.2.1⟩
theorem Em (h:J c e T):X c (.ret e :: r) (Pf c.M c.s T):=KO h λv m σ s p=>⟨v,rfl,s.gr,T.mono (N2 λq hq=>.inl (wV _ hq)) p⟩
theorem Vk:∀(ss:List S)(m:qx)(σ:qi),exs O (ss++r) m σ=As (exs O ss m σ) λm σ=>exs O r m σ
 | [],_,_=>rfl
 | s :: ss,m,σ=>by
  show As (ex O s m σ) _=As (As (ex O s m σ) _) _
  cases ex O s m σ with
  | none=>rfl
  | some p=>cases p with | mk fl p=>cases fl with
   | next=>exact Vk ss p.1 p.2
   | ret=>rfl
theorem wH (h:Jt c e b)(k:X c (cond b ss tt++r) P):X c (.ifs e ss tt :: r) P:=λm σ s=>by
 obtain⟨r',σ',e1,s',rfl,_⟩:=h m σ s
 have:=k m σ' s'
 rw[Vk] at this
 show XD P (As (ex c.O (.ifs e ss tt) m σ) _)
 rw[vX e1]
 cases r' with
 | true=>exact this
 | false=>exact this
theorem Id (h:∀m σ,St c m σ->∃v σ',ev c.O e m σ=qa (v,σ')/\St c' m σ')(k:X c' r P)(hO:c'.O=c.O):X c (.expr e :: r) P:=λm σ s=>(h m σ s).elim λv h=>h.elim λσ' h=>Db (NK h.1) (hO▸k _ _ h.2)
theorem Ip {ι:Type}{F:ι->List (Nat×Co)×List (Option Ty)}{I:ι->Prop}{μ:ι->Nat}{b:ι->Bool}{body:List S}(ht:∀x,I x->Jt (c.w (F x)) e (b x))(hb:∀x,I x->b x=qe->X (c.w (F x)) body λfl m σ=>fl=.next/\∃y,I y/\μ y < μ x/\St (c.w (F y)) m σ)
  (hf:∀x,I x->b x=qg->X (c.w (F x)) r P) (x:ι) (hx:I x) (hμ:μ x < B8):X (c.w (F x)) (.while_ e body :: r) P:=by
 have key:∀(f:Nat) (x:ι) (m:qx) (σ:qi),I x->μ x < f->St (c.w (F x)) m σ->∃m' σ',Fe (λm σ=>tst c.O e m σ (λ_=>ev c.O e m σ)) (λm σ=>exs c.O body m σ) f m σ=qa (.next,m',σ')/\XD P (exs c.O r m' σ'):=by
  intro f
  induction f with
  | zero=>exact λx m σ _ h _=>absurd h (Rm _)
  | succ f ih =>
   intro x m σ hI hn s
   obtain⟨r',σ',e1,s',hr,_⟩:=ht x hI m σ s
   cases r' with
   | false=>refine⟨m,σ',D5 e1 rfl,hf x hI hr.symm m σ' s'⟩
   | true =>
    obtain⟨fl,m',σ'',e2,rfl,y,hy,hl,s2⟩:=hb x hI hr.symm m σ' s'
    obtain⟨jp,σ₂,e3,q⟩:=ih y m' σ'' hy (jH hl (MX hn)) s2
    refine⟨jp,σ₂,D5 e1 ((if_pos rfl).trans ((congrArg (λx=>As x _) e2).trans e3)),q⟩
 exact λm σ s=>(key B8 x m σ hx hμ s).elim λm' h=>h.elim λσ' h=>Db h.1 h.2
theorem St.holds (s:St c m σ)(h:g.p (c.vw σ)):St (c.hold g) m σ:=⟨s.gr,s.up,s.bm,s.nd,s.hp,⟨h,s.hd⟩,s.ln,s.mt⟩
theorem St.free (s:St (c.hold g) m σ):St c m σ:=⟨s.gr,s.up,s.bm,s.nd,s.hp,s.hd.2,s.ln,s.mt⟩
theorem ZE {F:List α->List (Nat×Co)×List (Option Ty)}{body:List S}{it:It}{vs:List V}{g:Gh}(hi:∀zs,z3 i (F zs).2.length=qe)(h6:∀M' σ',g.p (fz M' σ')->w8 σ' it vs=qe)
  (step:∀g zs y ys,zs++y :: ys=xs->X (((c.w (F zs)).hold g).up i (R y)) body (nx ((c.w (F (zs++[y]))).hold g))) (s:St (c.w (F [])) m σ) (h5:g.p ((c.w (F [])).vw σ)) (h4:Fa R ((c.w (F [])).vw σ) xs vs):∃jp σ₂,wP it vs (FH c.O (.var i) body) vs m σ=qa (.next,jp,σ₂)/\St (c.w (F xs)) jp σ₂:=by
 have key:∀(ys zs:List α) (us ws:List V) (m:qx) (σ:qi),zs++ys=xs->us++ws=vs->us.length=zs.length->St ((c.w (F zs)).hold ⟨λf=>g.p f/\Fa R f xs vs,λh k=>⟨g.mono h k.1,k.2.mono h⟩⟩) m σ->∃jp σ₂,wP it vs (FH c.O (.var i) body) ws m σ=qa (.next,jp,σ₂)/\St (c.w (F xs)) jp σ₂:=by
  intro ys
  induction ys with
  | nil =>
   intro zs us ws m σ hz hu hl s
   rw[jF] at hz
   subst hz
   have hl':=s.hd.1.2.len
   rw[<-hu,zw,hl] at hl'
   cases ws with
   | nil=>refine⟨m,σ,PE (h6 _ _ s.hd.1.1),s.free⟩
   | cons=>exact absurd hl' (FP (Mt (DN _)))
  | cons y ys ih =>
   intro zs us ws m σ hz hu hl s
   obtain⟨w,g1,g2⟩:=s.hd.1.2.get (i:=zs.length) (x:=y) (by rw[<-hz,J4 (qU _),HP];rfl)
   cases ws with
   | nil=>rw[<-hu,jF,<-hl,List.getElem?_eq_none (qU _)] at g1;exact nn g1
   | cons w' ws =>
    rw[<-hu,<-hl,J4 (qU _),HP] at g1
    obtain rfl:w'=w:=zc g1
    obtain⟨fl,jp,σ₂,e2,rfl,s2⟩:=step _ zs y ys hz _ σ (s.put g2 (hi zs))
    obtain⟨m₃,kO,e3,s3⟩:=ih (zs++[y]) (us++[w']) ws jp σ₂ (by rw[jq];exact hz) (by rw[jq];exact hu) (by rw[zw,zw,hl];rfl) s2
    refine⟨m₃,kO,(YP (h6 _ _ s.hd.1.1) (qZ (H8 s (hi zs)) e2)).trans e3,s3⟩
 exact key xs [] [] vs m σ rfl rfl rfl (s.holds ⟨h5,h4⟩)
theorem Go {F:List α->List (Nat×Co)×List (Option Ty)}{body:List S}(h:JI (c.w (F [])) e R xs)(hi:∀zs,z3 i (F zs).2.length=qe)
  (step:∀g zs y ys,zs++y :: ys=xs->X (((c.w (F zs)).hold g).up i (R y)) body (nx ((c.w (F (zs++[y]))).hold g))) (fin:X (c.w (F xs)) r P):X (c.w (F [])) (.for_ (.var i) e body :: r) P:=λm σ s=>by
 obtain⟨v,σ',e1,s',p,_⟩:=h m σ s
 obtain⟨_,it,vs,h1,h2,h4,g,h5,h6⟩:=p
 exact(ZE hi h6 step s' h5 h4).elim λjp h=>h.elim λσ₂ h=>Db ((O5 e1 h1 h2).trans h.1) (fin _ _ h.2)
theorem El (h:Jn c e K)(hi:z3 i c.Γ.length=qe)(kk:∀q,X (c.mk' i q K) r P):X c (.assign (.var i) e :: r) P:=λm σ s=>by
 obtain⟨v,σ',e1,_,⟨τ,o,rfl,rfl,t,p⟩,_⟩:=h m σ s
 refine Db (vK e1 (s.ln▸kE.mp hi)) (kk τ.length _ _ (t.other p (λe he=>(zT.mp he).elim .inl λh=>.inr (zE.mp h)) ?_ ((wo ..).trans (t.ln.trans (wo ..).symm)) (t.mtset hi)))
 rw[jQ]
 exact BJ.mpr ⟨t.nd,k7.mpr ⟨AH,vy⟩,λa ha b hb e=>O0 t (show τ.length∈_ from (e.trans (zE.mp hb):a=τ.length)▸ha)⟩
theorem i4 {l:List Nat}(h:l.Nodup)(ha:a∉l):∀k,(l.set k a).Nodup:=by
 induction l with
 | nil=>exact λ_=>vy
 | cons b l ih =>
  obtain⟨h1,h2⟩:=k7.mp h
  intro k
  cases k with
  | zero=>exact k7.mpr ⟨λh=>ha (.tail _ h),h2⟩
  | succ k=>exact k7.mpr ⟨λh=>(cR h).elim h1 λe=>ha (e▸.head _),ih h2 (λh=>ha (.tail _ h)) k⟩
theorem qge (h:Jn c e K)(hi:z3 i c.Γ.length=qe)(kk:∀q,X (c.re k i q K) r P):X c (.assign (.var i) e :: r) P:=λm σ s=>by
 obtain⟨v,σ',e1,_,⟨τ,o,rfl,rfl,t,p⟩,_⟩:=h m σ s
 refine Db (vK e1 (s.ln▸kE.mp hi)) (kk τ.length _ _ (t.other p (λe he=>cR he) ?_ ((wo ..).trans (t.ln.trans (wo ..).symm)) (t.mtset hi)))
 rw[qip]
 exact i4 t.nd (O0 t) k
theorem Kt (hi:qy c.Γ i=qa (qa (zo (.ref q))))(hk:qy c.H k=qa (q,cL R xs))(hl:xs.length<=qF)(kk:X (c.fr k i (qv R xs)) ss P):X c ss P:=kk.at (λm σ s=>s.frz hi hk λf o v h ho hv=>by obtain⟨vs,rfl,p⟩:=h;refine⟨hl,q,vs,hv,ho,p⟩) rfl
theorem rC (hi:qy c.Γ i=qa (qa (zo (.ref q))))(hk:qy c.H k=qa (q,cD R es))(hl:es.length<=qF)(kk:X (c.fr k i (At R es)) ss P):X c ss P:=kk.at (λm σ s=>s.frz hi hk λf o v h ho hv=>by obtain⟨vs,rfl,p⟩:=h;refine⟨hl,q,vs,hv,ho,p⟩) rfl
theorem OF (i:Nat)(kk:X (c.un i) ss P):X c ss P:=kk.at (λm σ s=>s.un i) rfl
theorem U1 {f:MF}{id:String}(hi:qy c.Γ i=qa (qa (zo (.ref q))))(hk:qy c.H k=qa (q,K))(h:J c e T)(hm:∀σ u,σ[q]?=qa u->K.p (c.vw σ) u->Cy c.O σ (.ref q) nm=qa (.bi id f))
  (hf:∀σ u w,σ[q]?=qa u->K.p (c.vw σ) u->T.p (c.vw σ) w->∃u',f σ (.ref q) [w]=qa (.none,σ.set q u')/\K'.p (c.vw σ) u') (kk:X (c.tn k q K') r P):X c (.expr (.meth (.var i) nm [e] [] []) :: r) P:=Id (λm σ s=>by
 obtain⟨v,hv,rfl⟩:=s.mt i _ hi
 obtain⟨u,h1,h2⟩:=s.hp _ (C8 hk)
 obtain⟨w,qM,e1,s1,p,g⟩:=h m σ s
 obtain⟨u',e2,p'⟩:=hf qM u w (g.get h1) (K.mono (c.le g) h2) p
 refine⟨.none,_,(Ag (qX hv) (hm σ u h1 h2) (z4 e1 zF) zF).trans e2,s1.turn hk p'⟩) kk rfl
theorem S7 {ys:List α}(hi:qy c.Γ i=qa (qa (zo (.ref q))))(hk:qy c.H k=qa (q,cL R xs))(hl:xs.length<=qF)(h:J c e (R x))(he:xs++[x]=ys)(kk:X (c.tn k q (cL R ys)) r P):X c (.expr (.meth (.var i) DH [e] [] []) :: r) P :=
 U1 hi hk h (λσ u h1 h2=>by obtain⟨vs,rfl,_⟩:=h2;exact Io h1 P6) (λσ u w h1 h2 p=>by
  obtain⟨vs,rfl,f⟩:=h2
  refine⟨_,(vQ h1).trans ((if_pos (Br f hl)).trans (by rw[A3])),vs++[w],rfl,he▸f.app (.cons p .nil)⟩) kk
theorem yQ:vE IY Lu=qa (.bi "set.add" M3):=by kernel_rfl
theorem tR {es ds:List qf}(hi:qy c.Γ i=qa (qa (zo (.ref q))))(hk:qy c.H k=qa (q,cS es))(hl:es.length<=4000)(hx:(es.any λe=>ze e x)=qg)(h:J c e (qw x))(he:es++[x]=ds)(kk:X (c.tn k q (cS ds)) r P):X c (.expr (.meth (.var i) IY [e] [] []) :: r) P :=
 U1 hi hk h (λσ u h1 h2=>by obtain rfl:u=.sset es:=h2;exact qZ ((za ..).trans h1) yQ) (λσ u w h1 h2 p=>by
  obtain rfl:u=.sset es:=h2
  obtain rfl:w=.str x:=p
  have e2:Dv es x=es++[x]:=if_neg (by rw[hx];exact jy)
  have e3:(if decide (es.length<=4000)=qe then qa (V.none,CB (AObj.sset (Dv es x)) σ q) else qb)=qa (V.none,σ.set q (.sset (es++[x]))):=by rw[if_pos (decide_eq_true hl),A3,e2]
  refine⟨.sset (es++[x]),(mQ (f:=λes=>if decide (es.length<=4000)=qe then qa (V.none,CB (AObj.sset (Dv es x)) σ q) else qb) h1).trans e3,congrArg AObj.sset he⟩) kk
theorem WN (s:qf)(v:V)(es:List (qf×V))(h:s∉es.map (·.1)):wy es s v=es++[(s,v)]:=if_neg λq=>h (by
 obtain⟨e,he,q⟩:=C0.mp q
 exact qG.mpr ⟨e,he,vG q⟩)
theorem Sh {x:α}{s:qf}(hi:qy c.Γ i=qa (qa (zo (.ref q))))(hk:qy c.H k=qa (q,cD R es))(hl:es.length<=qF)(hs:s∉es.map (·.1))(h:J c e (R x))(hke:J c ke (qw s))(he:es++[(s,x)]=ds)(kk:X (c.tn k q (cD R ds)) r P):X c (.assign (.sub (.var i) ke) e :: r) P:=λm σ t=>by
 subst he
 obtain⟨v,qM,e1,t1,p,g⟩:=h m σ t
 obtain⟨w,hw,rfl⟩:=t1.mt i _ hi
 obtain⟨_,zZ,e2,t2,rfl,g2⟩:=hke m qM t1
 obtain⟨u,h1,⟨vs,rfl,f⟩⟩:=t2.hp _ (C8 hk)
 refine Db (z8 e1 (z8 (z8 (qX hw) (z8 e2 (qZ (a:=zZ.set q (.sdict (vs++[(s,v)]))) (qZ ((za ..).trans h1) ((if_pos (Af (by rw[PZ f];exact hl))).trans ?_)) rfl))) rfl)) (kk m _ (t2.turn hk ⟨_,rfl,?_,?_⟩))
 ·rw[A3,WN _ _ _ (f.1▸hs)]
 ·rw[jQ,jQ,f.1];rfl
 ·rw[jQ]
  exact f.2.app (.cons ((R x).mono (c.le g2) p) .nil)
theorem Eg (hO:∀vs σ,O.fn a vs [] σ=zP L O' vs [] σ)(hk:L.kwarg=qb)(hf:∀vs,vs.length=Ts.length->Ax L vs []=qa (vs.map qa++zS n qb))
  (h:∀M s,X ⟨O',M,s,gN,[],Ts.map qa++zS n qb⟩ L.code (Pf M s T)):Fn O a Ts T:=λM σ vs hM p=>by
 obtain⟨fl,m',σ',e,v,rfl,g,q⟩:=h M σ (vs.map qa++zS n qb) σ ⟨Gr.refl _,(λ_ h=>nomatch h),hM,vy,(λ_ h=>nomatch h),trivial,by
 show (vs.map qa++zS n (qb:Option V)).length=(Ts.map qa++zS n (qb:Option Ty)).length
 rw[zw,zw,qH,qH,p.len,RP,RP],λi T h=>by
  have h:qy (Ts.map qa++zS n qb) i=qa (qa T):=h
  rw[FG,qH] at h
  rw[ET,FG,qH,p.len]
  by_cases hi:i < Ts.length
  ·rw[if_pos hi,za,wU] at h
   cases hT:Ts[i]? with
   | none=>rw[hT] at h;exact nn h
   | some U =>
    rw[hT] at h
    obtain rfl:=zc (zc h)
    obtain⟨v,h1,h2⟩:=p.get hT
    refine⟨v,by rw[if_pos hi,za,wU,h1];rfl,h2⟩
  ·rw[if_neg hi,za,qhy] at h
   by_cases hj:i - Ts.length < n
   ·rw[if_pos hj] at h;exact nn (zc h)
   ·rw[if_neg hj] at h;exact nn h⟩
 refine⟨v,σ',(hO vs σ).trans ((Au hk (hf vs p.len)).trans (by rw[e];rfl)),g,q⟩
theorem LB (h:∀a,Ax L [a] []=qa (qa a :: zS n qb))(vs:List V)(hl:vs.length=1):Ax L vs []=qa (vs.map qa++zS n qb):=by
 obtain⟨a,rfl⟩:=RQ.mp hl;exact h a
theorem eL (h:∀a b,Ax L [a,b] []=qa (qa a :: qa b :: zS n qb))(vs:List V)(hl:vs.length=2):Ax L vs []=qa (vs.map qa++zS n qb):=by
 cases vs with | nil=>exact nomatch hl | cons a vs=>obtain⟨b,rfl⟩:=RQ.mp (F6 hl);exact h a b
theorem Wa (h:∀a b d,Ax L [a,b,d] []=qa (qa a :: qa b :: qa d :: zS n qb))(vs:List V)(hl:vs.length=3):Ax L vs []=qa (vs.map qa++zS n qb):=by
 cases vs with | nil=>exact nomatch hl | cons a vs=>cases vs with | nil=>exact nomatch hl | cons b vs=>obtain⟨d,rfl⟩:=RQ.mp (F6 (F6 hl));exact h a b d
theorem mZ (h:∀a b d e,Ax L [a,b,d,e] []=qa (qa a :: qa b :: qa d :: qa e :: zS n qb))(vs:List V)(hl:vs.length=4):Ax L vs []=qa (vs.map qa++zS n qb):=by
 cases vs with | nil=>exact nomatch hl | cons a vs=>cases vs with | nil=>exact nomatch hl | cons b vs=>cases vs with | nil=>exact nomatch hl | cons d vs=>obtain⟨e,rfl⟩:=RQ.mp (F6 (F6 (F6 hl)));exact h a b d e
end
end
noncomputable section
open Mine.Internal.Sp
noncomputable def tx (w:List Nat):qf:=⟨w.toArray⟩
theorem Cw (a b:List Nat):tx a++tx b=tx (a++b):=by
 show (⟨a.toArray++b.toArray⟩:qf)=⟨(a++b).toArray⟩
 rw[List.append_toArray]
theorem rJ (a:List Nat):(tx a).length=a.length:=rfl
theorem Bp (h:tx a=tx b):a=b:=by have:=congrArg (λs:qf=>s.cps.toList) h;exact this
theorem Aw (a b:List Nat):ze (tx a) (tx b)=decide (a=b):=by
 rw[wZ,k9,beq_iff_eq,decide_eq_true_eq]
 refine⟨Bp,congrArg tx⟩
theorem Xx:∀a b:List Nat,wj (tx a) (tx b)=qR a b:=λa b=>by
 show Jc a b=qR a b
 induction a generalizing b with
 | nil=>cases b <;> rfl
 | cons x a ih =>
  cases b with
  | nil=>rfl
  | cons y b =>
   show cond (zQ x y) (Jc a b) (z3 x y)=if x < y then qe else if y < x then qg else qR a b
   rw[ih b]
   cases h:zQ x y with
   | true=>have:=wn h;subst this;rw[if_neg (j7 _),if_neg (j7 _)];rfl
   | false =>
    have hn:=aJ h
    show z3 x y=_
    by_cases q:x < y
    ·rw[if_pos q];exact kE.mpr q
    ·rw[if_neg q,if_pos (by lia)]
     cases e:z3 x y with
     | false=>rfl
     | true=>exact absurd (kE.mp e) q
theorem Gp (w:List α)(k:Nat):w9 w (qa (k:Int)) qb qb=qa (w.drop k):=by
 show qa ((w.drop (jU w.length (k:Int))).take (w.length - jU w.length (k:Int)))=_
 rw[clip_nat]
 by_cases h:k<=w.length
 ·rw[AJ h,FO (by rw[aW];exact qU _)]
 ·rw[Bd (RS h),JW (qU _),JW (RS h),List.take_nil]
theorem Il (w:List α)(k:Nat):w9 w qb (qa (k:Int)) qb=qa (w.take k):=by
 show qa ((w.drop 0).take (jU w.length (k:Int) - 0))=_
 rw[clip_nat,JS,JT]
 by_cases h:k<=w.length
 ·rw[AJ h]
 ·rw[Bd (RS h),MG,FO (RS h)]
theorem VS (w:List α)(i j:Nat)(hij:i<=j)(hj:j<=w.length):w9 w (qa (i:Int)) (qa (j:Int)) qb=qa ((w.drop i).take (j - i)):=by
 show qa ((w.drop (jU w.length (i:Int))).take (jU w.length (j:Int) - jU w.length (i:Int)))=_
 rw[clip_nat,clip_nat,AJ (qu hij hj),AJ hj]
theorem KY (w:List α):w9 w qb qb qb=qa w:=by
 show qa ((w.drop 0).take (w.length - 0))=_
 rw[JS,JT,MG]
noncomputable def abc:List Nat:=[97,104,107,109,112]
noncomputable def kZ:List Wd:=[] :: (abc.map λa=>[a])++(abc.flatMap λa=>abc.map λb=>[a,b])++abc.flatMap λa=>abc.flatMap λb=>abc.map λc=>[a,b,c]
theorem qbx (h:∀c∈w,c∈abc)(hl:w.length<=3):w∈kZ:=by
 unfold kZ
 match w,h,hl with
 | [],_,_=>exact kH _ (kH _ zB)
 | [a],h,_=>exact kH _ (kH _ (zI _ (qG.mpr ⟨a,h a zB,rfl⟩)))
 | [a,b],h,_=>exact kH _ (wV _ (kU.mpr ⟨a,h a zB,qG.mpr ⟨b,h b (zI _ zB),rfl⟩⟩))
 | [a,b,c],h,_=>exact wV _ (kU.mpr ⟨a,h a zB,kU.mpr ⟨b,h b (zI _ zB),qG.mpr ⟨c,h c (zI _ (zI _ zB)),rfl⟩⟩⟩)
 | _ :: _ :: _ :: _ :: _,_,hl=>exact absurd hl (by simp)
noncomputable def up (w:Wd):Wd:=w.map λc=>c - 32
noncomputable def XY (w:Wd):Bool:=ze (zp (tx w)) (tx w)&&ze (Cg (tx w)) (tx (up w))&&ze (zp (tx (up w))) (tx w)&&ze (Cg (tx (up w))) (tx (up w))
theorem nM:kZ.all XY=qe:=by decide +kernel
theorem Ep (h:w∈kZ):zp (tx w)=tx w/\Cg (tx w)=tx (up w)/\zp (tx (up w))=tx w/\Cg (tx (up w))=tx (up w):=by
 have:=wS.mp nM w h
 unfold XY at this
 simp only[jT] at this
 refine⟨vG this.1.1.1,vG this.1.1.2,vG this.1.2,vG this.2⟩
end
noncomputable section
open Mine.Internal.Sp
section
variable {O O':qE}{σ:qi}{i lo:Nat}{xs:List V}{b e zK:Option V}{x:V}{hi:Option Nat}{key:V}{left:Nat->Bool}
theorem K0 (h1:σ[i]?=qa (.list xs))(hs:xs.length < 1000000)(BH:EP key .none=qa kb)
  (hk:∃hi' wl,ex O (.while_ v7 (cond kb w1 w2)) [qa (.ref i),b,qa (.int lo),qa (.int (kN xs hi:Nat)),qa key,qb] σ =
   qa (.next,[qa (.ref i),b,qa (.int (jr left (kN xs hi - lo) lo (kN xs hi):Nat)),qa (.int (hi':Nat)),qa key,wl],σ)) :
  ∃m',exs O [bA,bB,.ifs (.cmp .Is (.var 4) .none) [.while_ v7 w1] [.while_ v7 w2],.ret (.var 2)] [qa (.ref i),b,qa (.int lo),qa (Gg hi),qa key,qb] σ=qa (.ret (.int (jr left (kN xs hi - lo) lo (kN xs hi):Nat)),m',σ):=by
 rw[zY lH,zY (tF h1 hs hi)]
 obtain⟨hi',wl,hw⟩:=hk
 have h2:=vX (O:=O) (m:=[qa (.ref i),b,qa (.int lo),qa (.int (kN xs hi:Nat)),qa key,qb]) (σ:=σ) (x:=[.while_ v7 w1]) (y:=[.while_ v7 w2]) (vp (e:=.cmp .Is (.var 4) .none) rfl (kV (qX (kL ..).2.2.2.2.1) CV BH))
 have h3:ex O (.ifs (.cmp .Is (.var 4) .none) [.while_ v7 w1] [.while_ v7 w2]) [qa (.ref i),b,qa (.int lo),qa (.int (kN xs hi:Nat)),qa key,qb] σ=qa (.next,[qa (.ref i),b,qa (.int (jr left (kN xs hi - lo) lo (kN xs hi):Nat)),qa (.int (hi':Nat)),qa key,wl],σ):=by
  rw[h2]
  cases kb with
  | true=>rw[if_pos rfl];exact(zY hw).trans vL
  | false=>rw[if_neg jy];exact(zY hw).trans vL
 refine⟨_,(zY h3).trans (vO (AT (qX (kL ..).2.2.1)))⟩
noncomputable def Fj (O:qE)(σ:qi)(key:V)(xs:List V)(K:Nat->V):Prop:=(EP key .none=qa qe/\∀j (hj:j < xs.length),xs[j]=K j)\/(EP key .none=qa qg/\∀j (hj:j < xs.length),apply O key [xs[j]] [] σ=qa (K j,σ))
theorem qdP {K:Nat->V}(h1:σ[i]?=qa (.list xs))(hs:xs.length < 1000000)(hh:kN xs hi<=xs.length)(hk:Fj O σ key xs K)(hc:∀j,j < xs.length->Do x (K j)=qa (!left j)) :
  ∃m',exs O KQ [qa (.ref i),qa x,qa (.int lo),qa (Gg hi),qa key,qb] σ=qa (.ret (.int (jr left (kN xs hi - lo) lo (kN xs hi):Nat)),m',σ):=by
 rw[iP]
 rcases hk with ⟨hk1,hk2⟩ | ⟨hk1,hk2⟩
 ·refine K0 h1 hs hk1 (Vw (n:=xs.length) (left:=left) rfl hs hh λlo hi qQ hn=>?_)
  have hm:(lo+hi) / 2 < xs.length:=by lia
  have:=Lb (O:=O) (b:=qa x) (e:=qa key) (c:=qa (.int lo)) (d:=qa (.int hi)) h1 hs hm
  rw[hk2 _ hm] at this
  exact kV (qX (kL ..).2.1) this (hc _ hm)
 ·refine K0 h1 hs hk1 (Vw (n:=xs.length) (left:=left) rfl hs hh λlo hi qQ hn=>?_)
  have hm:(lo+hi) / 2 < xs.length:=by lia
  have:=Lb (O:=O) (b:=qa x) (e:=qa key) (c:=qa (.int lo)) (d:=qa (.int hi)) h1 hs hm
  exact kV (qX (kL ..).2.1) ((DA (qX (kL ..).2.2.2.2.1) (z4 this zF) zF).trans (hk2 _ hm)) (hc _ hm)
theorem qeH {K:Nat->V}(h1:σ[i]?=qa (.list xs))(hs:xs.length < 1000000)(hh:kN xs hi<=xs.length)(hk:Fj O σ key xs K)(hc:∀j,j < xs.length->Do (K j) x=qa (left j)) :
  ∃m',exs O Lj [qa (.ref i),qa x,qa (.int lo),qa (Gg hi),qa key,qb] σ=qa (.ret (.int (jr left (kN xs hi - lo) lo (kN xs hi):Nat)),m',σ):=by
 rw[tS]
 rcases hk with ⟨hk1,hk2⟩ | ⟨hk1,hk2⟩
 ·refine K0 h1 hs hk1 (V4 (n:=xs.length) (left:=left) rfl hs hh λlo hi qQ hn=>?_)
  have hm:(lo+hi) / 2 < xs.length:=by lia
  have:=Lb (O:=O) (b:=qa x) (e:=qa key) (c:=qa (.int lo)) (d:=qa (.int hi)) h1 hs hm
  rw[hk2 _ hm] at this
  exact kV this (qX (kL ..).2.1) (hc _ hm)
 ·refine K0 h1 hs hk1 (V4 (n:=xs.length) (left:=left) rfl hs hh λlo hi qQ hn=>?_)
  have hm:(lo+hi) / 2 < xs.length:=by lia
  have:=Lb (O:=O) (b:=qa x) (e:=qa key) (c:=qa (.int lo)) (d:=qa (.int hi)) h1 hs hm
  exact kV ((DA (qX (kL ..).2.2.2.2.1) (z4 this zF) zF).trans (hk2 _ hm)) (qX (kL ..).2.1) (hc _ hm)
inductive BA (i:Nat)(x:V):List V->List (qf×V)->Nat->Option Nat->V->Prop
 | two:BA i x [.ref i,x] [] 0 qb .none
 | three (lo:Nat):BA i x [.ref i,x,.int lo] [] lo qb .none
 | four (lo hi:Nat):BA i x [.ref i,x,.int lo,.int hi] [] lo (qa hi) .none
 | twoK (k:V):BA i x [.ref i,x] [(ky,k)] 0 qb k
 | fourN (lo:Nat):BA i x [.ref i,x,.int lo,.none] [] lo qb .none
 | fourK (lo:Nat) (k:V):BA i x [.ref i,x,.int lo,.none] [(ky,k)] lo qb k
theorem BA.frame (h:BA i x args kw lo hi key):Ax Bg args kw=qa [qa (.ref i),qa x,qa (.int lo),qa (Gg hi),qa key,qb]/\Ax CN args kw=qa [qa (.ref i),qa x,qa (.int lo),qa (Gg hi),qa key,qb]:=by
 cases h <;> refine⟨rfl,rfl⟩
theorem O7 {kw:List (qf×V)}{K:Nat->V}(ha:BA i x args kw lo hi key)(h1:σ[i]?=qa (.list xs))(hs:xs.length<=qF)(hh:kN xs hi<=xs.length)(hk:Fj O σ key xs K)(hc:∀j,j < xs.length->Do x (K j)=qa (!left j)) :
  zP Bg O args kw σ=qa (.int (jr left (kN xs hi - lo) lo (kN xs hi):Nat),σ):=by
 obtain⟨m',e⟩:=qdP (lo:=lo) h1 (AK hs (by rw[FL];decide)) hh hk hc
 exact(Au rfl ha.frame.1).trans (by rw[show Bg.code=KQ from rfl,e];rfl)
theorem To {kw:List (qf×V)}{K:Nat->V}(ha:BA i x args kw lo hi key)(h1:σ[i]?=qa (.list xs))(hs:xs.length<=qF)(hh:kN xs hi<=xs.length)(hk:Fj O σ key xs K)(hc:∀j,j < xs.length->Do (K j) x=qa (left j)) :
  zP CN O args kw σ=qa (.int (jr left (kN xs hi - lo) lo (kN xs hi):Nat),σ):=by
 obtain⟨m',e⟩:=qeH (lo:=lo) h1 (AK hs (by rw[FL];decide)) hh hk hc
 exact(Au rfl ha.frame.2).trans (by rw[show CN.code=Lj from rfl,e];rfl)
end
section
variable {α:Type}{lt:α->α->Bool}
theorem Xg {x:α}:∀{q:List α}{p:Nat},p<=q.length->(∀i y,i < p->q[i]?=qa y->lt x y=qg)->(∀y,q[p]?=qa y->lt x y=qe)->q.take p++x :: q.drop p=wM lt x q
 | [],p,hp,_,_=>by
  obtain rfl:p=0:=RG.mp hp
  rfl
 | y :: q,0,_,_,h=>by
  show _=cond (lt x y) (x :: y :: q) (y :: wM lt x q)
  rw[h y rfl];rfl
 | y :: q,p+1,hp,h1,h2=>by
  show _=cond (lt x y) (x :: y :: q) (y :: wM lt x q)
  rw[h1 0 y (DN _) rfl]
  show y :: (q.take p++x :: q.drop p)=_
  rw[Xg (qih hp) (λi z hi hz=>h1 (i+1) z (qir hi) hz) (λz hz=>h2 z hz)];rfl
theorem TD {size:α->Nat}(x:α):∀l:List α,wM (λa b=>decide (size a < size b)) x l=vY size x l
 | []=>rfl
 | y :: r=>by
  show cond (decide (size x < size y)) (x :: y :: r) (y :: wM _ x r)=if size x < size y then _ else _
  rw[TD x r]
  by_cases h:size x < size y
  ·rw[if_pos h,decide_eq_true h];rfl
  ·rw[if_neg h,decide_eq_false h];rfl
theorem P4 (x:α):∀l:List α,wM (λa b=>qR (word a) (word b)) x l=wb word x l
 | []=>rfl
 | y :: r=>by
  show cond (qR (word x) (word y)) (x :: y :: r) (y :: wM _ x r)=if qR (word x) (word y)=qe then _ else _
  rw[P4 x r]
  cases qR (word x) (word y) <;> rfl
noncomputable abbrev Lk (lt:α->α->Bool)(l:List α):Prop:=l.Pairwise λa b=>lt b a=qg
variable {O O':qE}{M:List Nat}{σ:qi}{q:Nat}{xs:List α}{vs:List V}{R:α->Ty}{x:α}{v:V}
theorem eU:N0=[.ifs (.cmp .Is (.var 4) .none) [.assign (.var 2) (.call (.glob (.ref 56)) [.var 0,.var 1,.var 2,.var 3] [] [])] [.assign (.var 2) (.call (.glob (.ref 56)) [.var 0,.call (.var 4) [.var 1] [] [],.var 2,.var 3] [ky] [.var 4])],.expr (.meth (.var 0) Jy [.var 2,.var 1] [] [])]:=by rfl
inductive IA (q:Nat)(v:V):List (qf×V)->V->Prop
 | plain:IA q v [] .none
 | keyed (k:V):IA q v [(ky,k)] k
theorem IA.frame (h:IA q v kw key):Ax EO [.ref q,v] kw=qa [qa (.ref q),qa v,qa (.int 0),qa .none,qa key]:=by
 cases h <;> rfl
theorem xF {key:V}{kv:α->V}(hO:∀args kw σ,O.fn 56 args kw σ=zP Bg O' args kw σ)(ha:IA q v kw key)(hq:σ[q]?=qa (.list vs))(hl:xs.length<=1000)(p:Fa R (fz M σ) xs vs)(pv:(R x).p (fz M σ) v)
  (BH:(key=.none/\∀y w,(R y).p (fz M σ) w->w=kv y)\/((∃a,key=.val (.ref a))/\(∀y w,(R y).p (fz M σ) w->apply O' key [w] [] σ=qa (kv y,σ))/\apply O key [v] [] σ=qa (kv x,σ)))
  (qQ:∀y z,Do (kv y) (kv z)=qa (lt y z)) (tr:∀a b c,lt b a=qg->lt c b=qg->lt c a=qg) (hrow:Lk lt xs) :
  ∃qW,zP EO O [.ref q,v] kw σ=qa (.none,σ.set q (.list qW))/\Fa R (fz M σ) (wM lt x xs) qW:=by
 have hvl:vs.length=xs.length:=p.len
 have hmany:xs.length<=qF:=by rw[FL];lia
 have at_:∀j (hj:j < vs.length),∃y,xs[j]?=qa y/\(R y).p (fz M σ) vs[j]:=λj hj=>p.got (kh hj)
 have hd:∀j,j < xs.length->∃y,xs[j]?=qa y:=λj hj=>⟨_,kh hj⟩
 let y0:Nat->α:=λj=>(xs[j]?).getD x
 have hy0:∀{j y},xs[j]?=qa y->y0 j=y:=λ{j y} h=>by show (xs[j]?).getD x=y;rw[h];rfl
 have hK:Fj O' σ key vs λj=>kv (y0 j):=by
  rcases BH with ⟨rfl,h⟩ | ⟨⟨a,rfl⟩,h,_⟩
  ·refine .inl ⟨rfl,λj hj=>?_⟩
   obtain⟨y,e,py⟩:=at_ j hj
   show vs[j]=kv (y0 j)
   rw[hy0 e];exact h y _ py
  ·refine .inr ⟨rfl,λj hj=>?_⟩
   obtain⟨y,e,py⟩:=at_ j hj
   show apply O' (.val (.ref a)) [vs[j]] [] σ=qa (kv (y0 j),σ)
   rw[hy0 e];exact h y _ py
 have hc:∀j,j < vs.length->Do (kv x) (kv (y0 j))=qa (!(!lt x (y0 j))):=λj hj=>by rw[cU];exact qQ ..
 have hmono:∀i j,i<=j->j < xs.length->(!lt x (y0 j))=qe->(!lt x (y0 i))=qe:=λi j hij hj h=>by
  rcases qh8 hij with q | rfl
  ·have e1:xs[i]?=qa (xs[i]'(C7 q hj)):=kh _
   have e2:xs[j]?=qa xs[j]:=kh _
   rw[hy0 e1,hy0 e2] at *
   have:=FR.mp hrow i j (C7 q hj) hj q
   have h:lt x xs[j]=qg:=by simpa using h
   rw[tr _ _ _ this h];rfl
  ·exact h
 have hb:∀args kw',BA q (kv x) args kw' 0 qb key->O.fn 56 args kw' σ=qa (.int (jr (λj=>!lt x (y0 j)) xs.length 0 xs.length:Nat),σ):=λargs kw' ha=>by
  have:=O7 (O:=O') (left:=λj=>!lt x (y0 j)) ha hq (by rw[hvl];exact hmany) (by show vs.length<=vs.length;exact qU _) hK hc
  rw[hO]
  refine this.trans ?_
  show qa (V.int (jr _ (vs.length - 0) 0 vs.length:Nat),σ)=_
  rw[hvl,JT]
 have spec:=BU (λj=>!lt x (y0 j)) xs.length 0 xs.length (qU _) (zN _) (λi j _ b c d=>hmono i j b c d)
 obtain⟨s1,s2,s3,s4⟩:=spec
 refine⟨Ij vs (jr (λj=>!lt x (y0 j)) xs.length 0 xs.length) v,?_,?_⟩
 ·refine(Au rfl ha.frame).trans ?_
  rw[show EO.code=N0 from rfl,eU]
  have hins:∀p:Nat,p<=xs.length->exs O [.expr (.meth (.var 0) Jy [.var 2,.var 1] [] [])] [qa (.ref q),qa v,qa (.int (p:Nat)),qa .none,qa key] σ=qa (.next,[qa (.ref q),qa v,qa (.int (p:Nat)),qa .none,qa key],σ.set q (.list (Ij vs p v))):=λp hp=>by
   refine(zY (NK (v:=.none) ((Ag (qX rfl) (Io hq qe4) (z4 (qX rfl) (z4 (qX rfl) zF)) zF).trans ?_))).trans vL
   refine(vQ hq).trans ((if_pos ?_).trans ?_)
   ·rw[jT,jT]
    refine⟨⟨Af (by rw[hvl];exact hmany),L6 (qu hp (qu hl (by decide)))⟩,decide_eq_true (Cj _)⟩
   ·rw[A3,Int.toNat_natCast]
  rcases BH with ⟨rfl,h⟩ | ⟨⟨a,rfl⟩,h,hx⟩
  ·have hv:v=kv x:=h x v pv
   have e1:ex O (.ifs (.cmp .Is (.var 4) .none) [.assign (.var 2) (.call (.glob (.ref 56)) [.var 0,.var 1,.var 2,.var 3] [] [])] [.assign (.var 2) (.call (.glob (.ref 56)) [.var 0,.call (.var 4) [.var 1] [] [],.var 2,.var 3] [ky] [.var 4])]) [qa (.ref q),qa v,qa (.int 0),qa .none,qa .none] σ=qa (.next,[qa (.ref q),qa v,qa (.int (jr (λj=>!lt x (y0 j)) xs.length 0 xs.length:Nat)),qa .none,qa .none],σ):=by
    refine(vX (bb:=qe) (vp rfl (kV (qX rfl) CV rfl))).trans ((if_pos rfl).trans ((zY (vK (i:=2) ((DA CA (z4 (qX rfl) (z4 (qX rfl) (z4 (qX rfl) (z4 (qX rfl) zF)))) zF).trans ?_) (by simp))).trans vL))
    exact hb _ _ (hv▸.fourN 0)
   exact congrArg wY ((zY e1).trans (hins _ s2))
  ·have e1:ex O (.ifs (.cmp .Is (.var 4) .none) [.assign (.var 2) (.call (.glob (.ref 56)) [.var 0,.var 1,.var 2,.var 3] [] [])] [.assign (.var 2) (.call (.glob (.ref 56)) [.var 0,.call (.var 4) [.var 1] [] [],.var 2,.var 3] [ky] [.var 4])]) [qa (.ref q),qa v,qa (.int 0),qa .none,qa (.val (.ref a))] σ=qa (.next,[qa (.ref q),qa v,qa (.int (jr (λj=>!lt x (y0 j)) xs.length 0 xs.length:Nat)),qa .none,qa (.val (.ref a))],σ):=by
    refine(vX (bb:=qg) (vp rfl (kV (qX rfl) CV rfl))).trans ((if_neg jy).trans ((zY (vK (i:=2) ((DA CA (z4 (qX rfl) (z4 ((DA (qX rfl) (z4 (qX rfl) zF) zF).trans hx) (z4 (qX rfl) (z4 (qX rfl) zF)))) (z4 (qX rfl) zF)).trans ?_) (by simp))).trans vL))
    exact hb _ _ (.fourK 0 _)
   exact congrArg wY ((zY e1).trans (hins _ s2))
 ·have hat:xs.take (jr (λj=>!lt x (y0 j)) xs.length 0 xs.length)++x :: xs.drop (jr (λj=>!lt x (y0 j)) xs.length 0 xs.length)=wM lt x xs:=by
   refine Xg s2 (λi y hi hy=>?_) λy hy=>?_
   ·have:=s3 i (zN _) hi
    rw[hy0 hy] at this
    simpa using this
   ·have:=s4 _ (qU _) (kF.mp hy).1
    rw[hy0 hy] at this
    simpa using this
  rw[<-hat]
  exact(p.take _).app (.cons pv (p.drop _))
end
end
noncomputable section
open Mine.Internal.Sp
noncomputable abbrev qC (w:Wd):Ty:=qw (tx w)
noncomputable abbrev qP (n:Nat):Ty:=zb (n:Nat)
section
variable {B:Int->Option qf}{n:Nat}{O O':qE}{σ:qi}{ws:List Wd}{x:Wd}{lo hi:Nat}
theorem QJ (args:List V)(kw:List (qf×V))(σ:qi):(orc B (n+1)).fn 47 args kw σ=zP EO (orc B n) args kw σ:=by kernel_rfl
theorem Dh (args:List V)(kw:List (qf×V))(σ:qi):(orc B (n+1)).fn 56 args kw σ=zP Bg (orc B n) args kw σ:=by kernel_rfl
theorem DI (args:List V)(kw:List (qf×V))(σ:qi):(orc B (n+1)).fn 65 args kw σ=zP CN (orc B n) args kw σ:=by kernel_rfl
theorem qdg (args:List V)(kw:List (qf×V))(σ:qi):(orc B (n+1)).fn 83 args kw σ=zP Nq (orc B n) args kw σ:=by kernel_rfl
theorem qee (args:List V)(kw:List (qf×V))(σ:qi):(orc B (n+1)).fn 129 args kw σ=zP Qa (orc B n) args kw σ:=by kernel_rfl
theorem qds (args:List V)(kw:List (qf×V))(σ:qi):(orc B (n+1)).fn 136 args kw σ=zP ND (orc B n) args kw σ:=by kernel_rfl
theorem qco (args:List V)(kw:List (qf×V))(σ:qi):(orc B (n+1)).fn 168 args kw σ=zP NO (orc B n) args kw σ:=by kernel_rfl
theorem qaX (args:List V)(kw:List (qf×V))(σ:qi):(orc B (n+1)).fn 216 args kw σ=zP KM (orc B n) args kw σ:=by kernel_rfl
theorem qef (args:List V)(kw:List (qf×V))(σ:qi):(orc B (n+1)).fn 221 args kw σ=zP NY (orc B n) args kw σ:=by kernel_rfl
theorem qcu (args:List V)(kw:List (qf×V))(σ:qi):(orc B (n+1)).fn 233 args kw σ=zP PK (orc B n) args kw σ:=by kernel_rfl
theorem Yy (args:List V)(kw:List (qf×V))(σ:qi):(orc B (n+1)).fn 259 args kw σ=zP Qj (orc B n) args kw σ:=by kernel_rfl
theorem uJ (args:List V)(kw:List (qf×V))(σ:qi):(orc B (n+1)).fn 280 args kw σ=zP OA (orc B n) args kw σ:=by kernel_rfl
theorem dL (args:List V)(kw:List (qf×V))(σ:qi):(orc B (n+1)).fn 287 args kw σ=zP PX (orc B n) args kw σ:=by kernel_rfl
theorem qdW (args:List V)(kw:List (qf×V))(σ:qi):(orc B (n+1)).fn 294 args kw σ=zP Qx (orc B n) args kw σ:=by kernel_rfl
theorem fD (args:List V)(kw:List (qf×V))(σ:qi):(orc B (n+1)).fn 301 args kw σ=zP OC (orc B n) args kw σ:=by kernel_rfl
theorem qa8 (args:List V)(kw:List (qf×V))(σ:qi):(orc B (n+1)).fn 306 args kw σ=zP Nj (orc B n) args kw σ:=by kernel_rfl
theorem dH (args:List V)(kw:List (qf×V))(σ:qi):(orc B (n+1)).fn 311 args kw σ=zP Nt (orc B n) args kw σ:=by kernel_rfl
theorem qdN (args:List V)(kw:List (qf×V))(σ:qi):(orc B (n+1)).fn 316 args kw σ=zP QZ (orc B n) args kw σ:=by kernel_rfl
theorem nU (args:List V)(kw:List (qf×V))(σ:qi):(orc B (n+1)).fn 321 args kw σ=zP Nb (orc B n) args kw σ:=by kernel_rfl
theorem Yt (ch:Nat):(orc B (n+2)).fn 83 [.str ⟨#[ch]⟩] [] σ=qa (.bool (AV.any λx=>x == (ch:Int)),σ):=by
 rw[qdg]
 refine(Au (m:=[qa (.str ⟨#[ch]⟩)]) rfl rfl).trans ?_
 have e:ev (orc B (n+1)) (.cmp .In (.call (.glob (.builtin "ord")) [.var 0] [] []) (.glob (.ref 73))) [qa (.str ⟨#[ch]⟩)] σ=qa (.bool (AV.any λx=>x == (ch:Int)),σ) :=
  kV (v:=.int ch) ((Gs (qX rfl)).trans ((Ob ..).trans rfl)) CA rfl
 exact congrArg wY (vO (r:=[]) (AT e))
noncomputable def Ft (B:Int->Option qf)(ch:Nat):qf:=if (AV.any λx=>x == (ch:Int))=qe then ⟨#[]⟩ else match B ch with | some s=>s | none=>zp ⟨#[ch]⟩
theorem qek (ch:Nat)(h:jN (zp ⟨#[ch]⟩).length=qg):(orc B (n+2)).fn 129 [.str ⟨#[ch]⟩] [] σ=qa (.str (match B ch with | some s=>s | none=>zp ⟨#[ch]⟩),σ):=by
 rw[qee]
 refine(Au (m:=[qa (.str ⟨#[ch]⟩),qb]) rfl rfl).trans ?_
 have e1:ex (orc B (n+1)) (.assign (.var 1) (.meth (.glob (.ref 84)) vn [.call (.glob (.builtin "ord")) [.var 0] [] []] [] [])) [qa (.str ⟨#[ch]⟩),qb] σ=qa (.next,[qa (.str ⟨#[ch]⟩),qa (match B ch with | some s=>.str s | none=>.none)],σ):=by
  refine vK (i:=1) (m:=[qa (.str ⟨#[ch]⟩),qb]) ((Ag (mk:=.vm 84 vn) CA rfl (z4 ((Gs (qX rfl)).trans ((Ob ..).trans rfl)) zF) zF).trans ?_) (by simp)
  rfl
 cases hB:B ch with
 | some s =>
  rw[hB] at e1
  have e2:ex (orc B (n+1)) (.ifs (.cmp .IsNot (.var 1) .none) [.ret (.var 1)] []) [qa (.str ⟨#[ch]⟩),qa (.str s)] σ=qa (.ret (.str s),[qa (.str ⟨#[ch]⟩),qa (.str s)],σ) :=
   (vX (bb:=qe) (vp rfl (kV (qX rfl) CV rfl))).trans ((if_pos rfl).trans (vO (AT (qX rfl))))
  exact congrArg wY ((zY e1).trans (vO e2))
 | none =>
  rw[hB] at e1
  have e2:ex (orc B (n+1)) (.ifs (.cmp .IsNot (.var 1) .none) [.ret (.var 1)] []) [qa (.str ⟨#[ch]⟩),qa .none] σ=qa (.next,[qa (.str ⟨#[ch]⟩),qa .none],σ) :=
   (vX (bb:=qg) (vp rfl (kV (qX rfl) CV rfl))).trans ((if_neg jy).trans vL)
  have e3:ev (orc B (n+1)) (.meth (.var 0) wG [] [] []) [qa (.str ⟨#[ch]⟩),qa .none] σ=qa (.str (zp ⟨#[ch]⟩),σ) :=
   (Ag (mk:=.bi "str.lower" GQ) (qX rfl) (by kernel_rfl) zF zF).trans (by
    show (if jN (zp ⟨#[ch]⟩).length=qe then qb else qa (V.str (zp ⟨#[ch]⟩),σ))=_
    rw[h];rfl)
  exact congrArg wY ((zY e1).trans ((zY e2).trans (vO (r:=[]) (AT e3))))
theorem qcL (s:qf):(orc B (n+1)).fn 136 [.str s] [] σ=qa (.bool (ze s ⟨#[32]⟩),σ):=by
 rw[qds]
 refine(Au (m:=[qa (.str s)]) rfl rfl).trans ?_
 exact congrArg wY (vO (r:=[]) (AT (kV (qX rfl) s8 rfl)))
theorem OX (ch:Nat)(h:jN (zp ⟨#[ch]⟩).length=qg):(orc B (n+3)).fn 287 [.str ⟨#[ch]⟩] [] σ=qa (.str (Ft B ch),σ):=by
 rw[dL]
 refine(Au (m:=[qa (.str ⟨#[ch]⟩)]) rfl rfl).trans ?_
 have e1:ev (orc B (n+2)) (.call (.glob (.ref 83)) [.var 0] [] []) [qa (.str ⟨#[ch]⟩)] σ=qa (.bool (AV.any λx=>x == (ch:Int)),σ):=(Gs (qX rfl)).trans (Yt ch)
 have e2:ev (orc B (n+2)) (.ite (.call (.glob (.ref 83)) [.var 0] [] []) (.str ⟨#[]⟩) (.call (.glob (.ref 129)) [.var 0] [] [])) [qa (.str ⟨#[ch]⟩)] σ=qa (.str (Ft B ch),σ):=by
  refine(NC (vp rfl e1)).trans ?_
  unfold Ft
  by_cases hb:(AV.any λx=>x == (ch:Int))=qe
  ·rw[if_pos hb,if_pos hb];rfl
  ·rw[if_neg hb,if_neg hb]
   exact(Gs (qX rfl)).trans (qek ch h)
 exact congrArg wY (vO (r:=[]) (AT e2))
theorem qeV (h:σ[i]?=qa (.tuple (.int k :: r)))(hr:r.length < 100):(orc B (n+1)).fn 294 [.ref i] [] σ=qa (.int k,σ):=by
 rw[qdW]
 refine(Au (m:=[qa (.ref i)]) rfl rfl).trans ?_
 have e:ev (orc B n) (.idx (.var 0) (.int 0)) [qa (.ref i)] σ=qa (.int k,σ) :=
  NW (qX rfl) BV ((Gd h).trans ((Vo _ _).trans (KH (k:=0) rfl (zL (qu (Nat.succ_le_of_lt (AK (BK rfl) hr)) (by decide))))))
 exact congrArg wY (vO (r:=[]) (AT e))
theorem qfr (p:Fa qC f ws vs):vs=ws.map λw=>V.str (tx w):=by
 induction p with
 | nil=>rfl
 | cons h _ ih=>cases h;exact congrArg (_ :: ·) ih
theorem YO (p:vs=ws.map λw=>V.str (tx w)):Fj O σ .none vs λj=>.str (tx (qI ws j)):=by
 subst p
 refine .inl ⟨rfl,λj hj=>?_⟩
 rw[J5]
 have hj:j < ws.length:=by simpa using hj
 have:=AN hj
 rw[kh hj] at this
 rw[zc this]
theorem Ha (a b:Wd):Do (.str (tx a)) (.str (tx b))=qa (qR a b):=congrArg qa (Xx a b)
theorem PY (hO:∀args kw σ,O.fn 65 args kw σ=zP CN O' args kw σ)(ha:BA i (.str (tx x)) args kw lo ho .none)(h1:σ[i]?=qa (.list vs))(p:vs=ws.map λw=>V.str (tx w))(hl:ws.length<=qF)(hh:kN vs ho=hi)(hhi:hi<=ws.length) :
  O.fn 65 args kw σ=qa (.int (bL ws x lo hi:Nat),σ):=by
 have hvl:vs.length=ws.length:=by rw[p,qH]
 have:=To (O:=O') (left:=λj=>qR (qI ws j) x) ha h1 (by rw[hvl];exact hl) (by rw[hh,hvl];exact hhi) (YO p) (λj _=>Ha _ _)
 rw[hO,this,hh];rfl
theorem OM (hO:∀args kw σ,O.fn 56 args kw σ=zP Bg O' args kw σ)(ha:BA i (.str (tx x)) args kw lo ho .none)(h1:σ[i]?=qa (.list vs))(p:vs=ws.map λw=>V.str (tx w))(hl:ws.length<=qF)(hh:kN vs ho=hi)(hhi:hi<=ws.length) :
  O.fn 56 args kw σ=qa (.int (bR ws x lo hi:Nat),σ):=by
 have hvl:vs.length=ws.length:=by rw[p,qH]
 have:=O7 (O:=O') (left:=λj=>!qR x (qI ws j)) ha h1 (by rw[hvl];exact hl) (by rw[hh,hvl];exact hhi) (YO p) (λj _=>(Ha _ _).trans (by rw[cU]))
 rw[hO,this,hh];rfl
theorem two_inv (p:Fa id f (qv qC ws :: qC x :: Ts) vs):∃i us r,vs=.ref i :: .str (tx x) :: r/\ws.length<=qF/\f i=qa (.list us)/\us=ws.map (λw=>V.str (tx w))/\Fa id f Ts r:=by
 cases p with | cons a p=>cases p with | cons b p =>
 obtain⟨q,i,us,rfl,h1,h2⟩:=a
 cases b
 refine⟨i,us,_,rfl,q,h1,qfr h2,p⟩
theorem GS (p:Fa id f [T] vs):∃v,vs=[v]/\T.p f v:=by
 cases p with
 | cons a p=>cases p;refine⟨_,rfl,a⟩
theorem KI (p:Fa id f [T,U] vs):∃v w,vs=[v,w]/\T.p f v/\U.p f w:=by
 cases p with
 | cons a p=>obtain⟨w,rfl,b⟩:=GS p;refine⟨_,w,rfl,a,b⟩
theorem d9 (p:Fa id f [T,U,W] vs):∃v w u,vs=[v,w,u]/\T.p f v/\U.p f w/\W.p f u:=by
 cases p with
 | cons a p=>obtain⟨w,u,rfl,b⟩:=KI p;refine⟨_,w,u,rfl,a,b⟩
theorem B6 {T:Ty}{v:V}{x:Option (V×qi)}(e:x=qa (v,σ))(p:∀f,T.p f v):∃v σ',x=qa (v,σ')/\Gr σ σ'/\T.p (fz M σ') v:=⟨v,σ,e,Gr.refl σ,p _⟩
theorem Pe (hO:∀args kw σ,O.fn 65 args kw σ=zP CN O' args kw σ):Fn O 65 [qv qC ws,qC x] (qP (bL ws x 0 ws.length)):=λM σ vs hM p=>by
 obtain⟨i,us,r,rfl,q,h1,h2,p⟩:=two_inv p
 cases p
 exact B6 (PY hO .two (fz_get h1).1 h2 q (by rw[h2];exact qH ..) (qU _)) λ_=>rfl
theorem Xi (hO:∀args kw σ,O.fn 56 args kw σ=zP Bg O' args kw σ):Fn O 56 [qv qC ws,qC x] (qP (bR ws x 0 ws.length)):=λM σ vs hM p=>by
 obtain⟨i,us,r,rfl,q,h1,h2,p⟩:=two_inv p
 cases p
 exact B6 (OM hO .two (fz_get h1).1 h2 q (by rw[h2];exact qH ..) (qU _)) λ_=>rfl
theorem Nh (hO:∀args kw σ,O.fn 65 args kw σ=zP CN O' args kw σ):Fn O 65 [qv qC ws,qC x,qP lo] (qP (bL ws x lo ws.length)):=λM σ vs hM p=>by
 obtain⟨i,us,r,rfl,q,h1,h2,p⟩:=two_inv p
 obtain⟨_,rfl,rfl⟩:=GS p
 exact B6 (PY hO (.three lo) (fz_get h1).1 h2 q (by rw[h2];exact qH ..) (qU _)) λ_=>rfl
theorem qd0 (hO:∀args kw σ,O.fn 56 args kw σ=zP Bg O' args kw σ):Fn O 56 [qv qC ws,qC x,qP lo] (qP (bR ws x lo ws.length)):=λM σ vs hM p=>by
 obtain⟨i,us,r,rfl,q,h1,h2,p⟩:=two_inv p
 obtain⟨_,rfl,rfl⟩:=GS p
 exact B6 (OM hO (.three lo) (fz_get h1).1 h2 q (by rw[h2];exact qH ..) (qU _)) λ_=>rfl
theorem U4 (hO:∀args kw σ,O.fn 65 args kw σ=zP CN O' args kw σ)(hhi:hi<=ws.length):Fn O 65 [qv qC ws,qC x,qP lo,qP hi] (qP (bL ws x lo hi)):=λM σ vs hM p=>by
 obtain⟨i,us,r,rfl,q,h1,h2,p⟩:=two_inv p
 obtain⟨_,_,rfl,rfl,rfl⟩:=KI p
 exact B6 (PY hO (.four lo hi) (fz_get h1).1 h2 q rfl hhi) λ_=>rfl
theorem ZC (hO:∀args kw σ,O.fn 56 args kw σ=zP Bg O' args kw σ)(hhi:hi<=ws.length):Fn O 56 [qv qC ws,qC x,qP lo,qP hi] (qP (bR ws x lo hi)):=λM σ vs hM p=>by
 obtain⟨i,us,r,rfl,q,h1,h2,p⟩:=two_inv p
 obtain⟨_,_,rfl,rfl,rfl⟩:=KI p
 exact B6 (OM hO (.four lo hi) (fz_get h1).1 h2 q rfl hhi) λ_=>rfl
theorem Lf (a b:Nat):rng a b=(Ca a (b - a)).map λ(k:Nat)=>(k:Int):=by
 unfold rng
 rw[qis,wX]
 have:((b:Int) - (a:Int)).toNat=b - a:=by lia
 rw[this]
 refine RT λk _=>?_
 show (a:Int)+k=((a+k:Nat):Int)
 lia
theorem RZ (h:ku ws)(x:Wd)(hlo:lo<=ws.length):bL ws x lo ws.length<=ws.length:=(BU _ _ _ _ (qU _) hlo (λi j _ b c d=>QL h x i j b c d)).2.1
theorem FC (h:k<=qF):(0:Int)<=k/\(k:Int)<=(qF:Nat):=⟨Cj _,RO.mpr h⟩
theorem xR (h:l=ks.map λk:Nat=>(k:Int))(p:(qv zb l).p f v):(qv qP ks).p f v:=by
 subst h
 obtain⟨hl,i,us,rfl,a,b⟩:=p
 refine⟨by rw[qH] at hl;exact hl,i,us,rfl,a,b.unmap⟩
theorem tV (h:ku ws)(hc:∀w∈ws,∀c∈w,c < 123)(hl:ws.length<=1000)(hlo:lo<=ws.length)(hx:x.length<=1000):Fn (orc B (n+3)) 301 [qv qC ws,qC x,qP lo] (qv qP (v3 ws x lo)) :=
 Eg (n:=0) (fD · []) rfl (Wa λ_ _ _=>rfl) λM s=>by
  have hm:ws.length<=qF:=zL (qu hl (by decide))
  have i1:=FC (qu (RZ h x hlo) hm)
  have i2:=FC (qu (RZ h (x++[123]) hlo) hm)
  refine Em (Jg.imp (U7 (Mj (ve (Nh DI) (qJ (qo rfl) (qJ (qo rfl) (qJ (qo rfl) zG)))) (ve (Nh DI) (qJ (qo rfl) (qJ (J.to (D9 (qo (T:=qC x) rfl) vJ ?_) (congrArg qw (Cw x [123]))) (qJ (qo rfl) zG))))) i1.1 i1.2 i2.1 i2.2) λσ v=>xR ((Lf ..).trans (congrArg _ (TZ h hc x hlo))))
  exact qu (Ao hx) (by decide)
end
end
noncomputable section
open Mine.Internal.Sp
structure EX (B:Int->Option qf)(c:Nat)(w:Wd):Prop where
 fold:Ft B c=tx w
 fit:jN (zp ⟨#[c]⟩).length=qg
noncomputable abbrev Ma (e:Wd×Nat):Ty:=qv (λs=>qw s) [tx e.1,tx [e.2]]
section
variable {B:Int->Option qf}{n:Nat}{cs:List Nat}{wd:Nat->Wd}{x:Wd}
theorem nO (p:Fa z9 f cs vs):vs=cs.map λc=>V.str ⟨#[c]⟩:=by
 induction p with
 | nil=>rfl
 | cons h _ ih=>cases h;exact congrArg (_ :: ·) ih
theorem XE (hm:∀c∈cs,EX B c (wd c))(p:vs=cs.map λc=>V.str ⟨#[c]⟩):Fj (orc B (n+3)) σ (.val (.ref 287)) vs λj=>.str (tx (qI (cs.map wd) j)):=by
 subst p
 refine .inr ⟨rfl,λj hj=>?_⟩
 have hj:j < cs.length:=by simpa using hj
 rw[J5]
 have hc:=hm _ (Q9 hj)
 refine(OX _ hc.fit).trans ?_
 have hw:(cs.map wd)[j]?=qa (wd cs[j]):=by rw[wU,kh hj];rfl
 show qa (V.str (Ft B cs[j]),σ)=qa (V.str (tx (qI (cs.map wd) j)),σ)
 rw[hc.fold,(CG hw).2]
theorem Zy {f:qj}{k z:V}{x:V}(ha:J c a (qv z9 cs))(hb:J c b (zo x))(h:∀i σ,σ[i]?=qa (.list (cs.map λc=>V.str ⟨#[c]⟩))->c.O.fn f [.ref i,x] [(ky,k)] σ=qa (z,σ))(he:k=.val (.ref 287)):J c (.call (.glob (.ref f)) [a,b] [ky] [.glob (.ref 287)]) (zo z):=λm σ s =>
 Dn.bnd (D:=λσ vs=>∃i,vs=[V.ref i,x]/\σ[i]?=qa (.list (cs.map λc=>V.str ⟨#[c]⟩))) (Dn.bnd (ha m σ s) λv qM s1 p _=>Dn.bnd (KN hb m qM s1) λvs zZ s2 p2 g=>by
  obtain⟨q,i,us,rfl,h1,h2⟩:=p
  obtain⟨w,rfl,rfl⟩:=p2
  exact zO rfl s2 ⟨i,rfl,g.get (nO h2▸(fz_get h1).1)⟩) λvs qM s1 p _=>by
  obtain⟨i,rfl,p⟩:=p
  subst he
  exact zO (h i qM p) s1 rfl
theorem qfp (hO:c.O=orc B (n+4))(hm:∀ch∈cs,EX B ch (wd ch))(hl:cs.length<=qF)(ha:J c a (qv z9 cs))(hb:J c b (qC x)):J c (.call (.glob (.ref 65)) [a,b] [ky] [.glob (.ref 287)]) (qP (bL (cs.map wd) x 0 (cs.map wd).length)):=Zy (k:=.val (.ref 287)) ha hb (λi σ h1=>by
 have hvl:(cs.map λc=>V.str ⟨#[c]⟩).length=(cs.map wd).length:=by rw[qH,qH]
 have:=To (O:=orc B (n+3)) (left:=λj=>qR (qI (cs.map wd) j) x) (.twoK (.val (.ref 287))) h1 (by rw[qH];exact hl) (qU _) (XE hm rfl) (λj _=>Ha _ _)
 rw[hO,DI]
 refine this.trans ?_
 show qa (V.int (jr _ ((cs.map λc=>V.str ⟨#[c]⟩).length - 0) 0 (cs.map λc=>V.str ⟨#[c]⟩).length:Nat),_)=_
 rw[hvl];rfl) rfl
theorem qdI (hO:c.O=orc B (n+4))(hm:∀ch∈cs,EX B ch (wd ch))(hl:cs.length<=qF)(ha:J c a (qv z9 cs))(hb:J c b (qC x)):J c (.call (.glob (.ref 56)) [a,b] [ky] [.glob (.ref 287)]) (qP (bR (cs.map wd) x 0 (cs.map wd).length)):=Zy (k:=.val (.ref 287)) ha hb (λi σ h1=>by
 have hvl:(cs.map λc=>V.str ⟨#[c]⟩).length=(cs.map wd).length:=by rw[qH,qH]
 have:=O7 (O:=orc B (n+3)) (left:=λj=>!qR x (qI (cs.map wd) j)) (.twoK (.val (.ref 287))) h1 (by rw[qH];exact hl) (qU _) (XE hm rfl) (λj _=>(Ha _ _).trans (by rw[cU]))
 rw[hO,Dh]
 refine this.trans ?_
 show qa (V.int (jr _ ((cs.map λc=>V.str ⟨#[c]⟩).length - 0) 0 (cs.map λc=>V.str ⟨#[c]⟩).length:Nat),_)=_
 rw[hvl];rfl) rfl
theorem Vy (l:List Nat)(i k:Nat)(h:i+k<=l.length):(Ca i k).map (λj=>l.getD j 0)=(l.drop i).take k:=by
 induction k generalizing i with
 | zero=>simp
 | succ k ih =>
  rw[Q7,z7,ih (i+1) (by lia)]
  have hi:i < l.length:=by lia
  rw[MN hi,qhs,BN,kh hi];rfl
theorem ZS (q:Wd->Bool):((zx (cs.map wd).length).filter λj=>q (qI (cs.map wd) j)).map (λj=>cs.getD j 0)=cs.filter λc=>q (wd c):=by
 rw[qH]
 have key:∀(l:List Nat) (k:Nat),(∀j,j < l.length->cs.getD (k+j) 0=l.getD j 0/\qI (cs.map wd) (k+j)=wd (l.getD j 0))->((Ca k l.length).filter λj=>q (qI (cs.map wd) j)).map (λj=>cs.getD j 0)=l.filter λc=>q (wd c):=by
  intro l
  induction l with
  | nil=>intro k _;rfl
  | cons c l ih =>
   intro k h
   obtain⟨h1,h2⟩:=h 0 (DN _)
   rw[vV,Q7,cQ,cQ]
   have h2:qI (cs.map wd) k=wd c:=h2
   have h1:cs.getD k 0=c:=h1
   rw[h2]
   have:=ih (k+1) λj hj=>(by
    have:=h (j+1) (qir hj)
    rw[show k+1+j=k+(j+1) by lia];exact this)
   cases q (wd c) with
   | true=>rw[if_pos rfl,if_pos rfl,z7,this,h1]
   | false=>rw[if_neg jy,if_neg jy];exact this
 rw[Q8]
 refine key cs 0 λj hj=>?_
 rw[Mu]
 refine⟨rfl,?_⟩
 have hw:(cs.map wd)[j]?=qa (wd (cs.getD j 0)):=by rw[wU,BN,kh hj];rfl
 exact(CG hw).2
theorem oE (h:ku (cs.map wd)):(cs.drop (bL (cs.map wd) x 0 (cs.map wd).length)).take (bR (cs.map wd) x 0 (cs.map wd).length - bL (cs.map wd) x 0 (cs.map wd).length)=cs.filter λc=>wd c == x:=by
 have h1:=KP h x
 have h2:=G5 (cs.map wd) x h
 have h3:(cs.map wd).length=cs.length:=qH ..
 rw[<-Vy _ _ _ (by lia),Sj h x]
 exact ZS (λw=>w == x)
theorem pA (h:ku (cs.map wd))(hc:∀w∈cs.map wd,∀c∈w,c < 123):(cs.drop (bL (cs.map wd) x 0 (cs.map wd).length)).take (bL (cs.map wd) (x++[123]) 0 (cs.map wd).length - bL (cs.map wd) x 0 (cs.map wd).length)=cs.filter λc=>x.isPrefixOf (wd c):=by
 have h1:=qu (KP h x) (QN h x)
 have h2:=GM (cs.map wd) (x++[123]) h
 have h3:(cs.map wd).length=cs.length:=qH ..
 rw[<-Vy _ _ _ (by lia)]
 have:=TZ h hc x (lo:=0) (zN _)
 have e2:Ca (bL (cs.map wd) x 0 (cs.map wd).length) (bL (cs.map wd) (x++[123]) 0 (cs.map wd).length - bL (cs.map wd) x 0 (cs.map wd).length)=v3 (cs.map wd) x 0:=this
 rw[e2]
 have e3:v3 (cs.map wd) x 0=(zx (cs.map wd).length).filter λj=>x.isPrefixOf (qI (cs.map wd) j):=by
  unfold v3
  refine RH λj _=>?_
  rw[decide_eq_true (zN j),Rs]
 rw[e3]
 exact ZS (λw=>x.isPrefixOf w)
theorem l6 (x w:Wd):decide (w.take x.length=x)=x.isPrefixOf w:=by
 rw[k9,decide_eq_true_eq,cK]
 constructor
 ·intro h;have:=cM x.length w;rw[h] at this;refine⟨_,this⟩
 ·rintro ⟨t,rfl⟩;exact cN
theorem Q0:vF k (z9 a) (z9 b) (decide (a=b)):=λM σ v w h1 h2=>by
 have:=Eo (n:=k) (x:=⟨#[a]⟩) (y:=⟨#[b]⟩) M σ v w h1 h2
 rw[this]
 congr 1
 have q:=Aw [a] [b]
 show ze (tx [a]) (tx [b])=_
 rw[q];simp
theorem Py:vF k (qP a) (qP b) (decide (a=b)):=λM σ v w h1 h2=>by
 rw[Ym (n:=k) M σ v w h1 h2]
 congr 1
 rw[k9,beq_iff_eq,decide_eq_true_eq,cV]
theorem LX (l:List Nat):wO (λa b:Nat=>decide (a=b)) l l=qe:=(NX (λ_ _=>rfl) l l).trans (decide_eq_true rfl)
theorem LZ (ha:J c a (qv R xs))(hb:J c b (qv R xs))(h:∀x y,vF 3 (R x) (R y) (q x y))(e:wO q xs xs=qe):J c (.cmp .Eq a b) (qO qe):=(W2 ha hb (Fh h)).to (congrArg qO e)
theorem fm (q:Wd->Bool):((cs.map λc=>(wd c,c)).filter λe=>q e.1).map (λe=>e.2)=cs.filter λc=>q (wd c):=by
 rw[List.filter_map,wX]
 have:((λe:Wd×Nat=>e.2) ∘ λc=>(wd c,c))=id:=rfl
 rw[this,List.map_id];rfl
theorem qaw (L:Nat):(if (L:Int) < ((1:Nat):Int) then (L:Int) else ((1:Nat):Int))=((min 1 L:Nat):Int):=by
 by_cases q:L < 1
 ·rw[if_pos (wW.mpr q),Bd (va q)]
 ·rw[if_neg (λh=>q (wW.mp h)),AJ (Cm q)]
theorem mY (h:ku (cs.map wd))(hm:∀c∈cs,EX B c (wd c))(hc:∀w∈cs.map wd,∀c∈w,c < 123)(hw:∀c,(wd c).length<=3)(hx:x.length<=3)(hl:cs.length<=5) :
  Fn (orc B (n+5)) 321 [qv z9 cs,qv qC (cs.map wd),qv Ma (cs.map λc=>(wd c,c)),qC x] (qO qe):=Eg (n:=8) (nU · []) rfl (mZ λ_ _ _ _=>rfl) λM s=>by
 have hwl:(cs.map wd).length=cs.length:=qH ..
 have b1:=KP h x
 have b2:=QN h x
 have b3:=GM (cs.map wd) (x++[123]) h
 have b4:=G5 (cs.map wd) x h
 have r1:=oE (x:=x) h
 have r2:=pA (x:=x) h hc
 have lm:∀{k:Nat},k<=(cs.map wd).length->k<=qF:=λhk=>zL (qu hk (hwl▸qu hl (by decide)))
 have hdl:(cs.map λc=>(wd c,c)).length<=qF:=zL (by rw[qH];exact qu hl (by decide))
 obtain⟨f1,f2,f3,f4,f5,f6⟩:=sX h x (low:=min 1 (bL (cs.map wd) x 0 (cs.map wd).length)) (MH ..)
 generalize hL:bL (cs.map wd) x 0 (cs.map wd).length=L at *
 generalize hR:bR (cs.map wd) x 0 (cs.map wd).length=R at *
 generalize hP:bL (cs.map wd) (x++[123]) 0 (cs.map wd).length=P at *
 have jx:∀{c:C},qy c.Γ 3=qa (qa (qC x))->J c (.bin .Add (.var 3) (.str ⟨#[123]⟩)) (qC (x++[123])):=λh=>J.to (D9 (qo h) vJ (qu (Ao hx) (by decide))) (congrArg qw (Cw x [123]))
 have lR:=qu b2 b3
 have lL:=qu b1 lR
 refine zX (J.to (ve (Pe DI) (qJ (qo rfl) (qJ (qo rfl) zG))) (congrArg qP hL)) rfl ?_
 refine zX (J.to (ve (Xi Dh) (qJ (qo rfl) (qJ (qo rfl) zG))) (congrArg qP hR)) rfl ?_
 refine zX (J.to (ve (Pe DI) (qJ (qo rfl) (qJ (jx rfl) zG))) (congrArg qP hP)) rfl ?_
 refine zX (J.to (qfT (x:=((1:Nat):Int)) zD (qo (T:=qP L) rfl)) (congrArg zb (qaw L))) rfl ?_
 refine zX (wJ (R:=qP) (xs:=[L,R]) (qJ (J.to (qfp (n:=n) rfl hm (lm (BK hwl.symm)) (qo rfl) (qo rfl)) (congrArg qP hL)) (qJ (J.to (qdI (n:=n) rfl hm (lm (BK hwl.symm)) (qo rfl) (qo rfl)) (congrArg qP hR)) zG)) (zL (kJ rfl))) rfl ?_
 refine zX (wJ (R:=qP) (xs:=[R,P,L,L,L,R]) (qJ (J.to (ve (Nh DI) (qJ (qo rfl) (qJ (qo rfl) (qJ (qo rfl) zG)))) (congrArg qP f1))
  (qJ (J.to (ve (qd0 Dh) (qJ (qo rfl) (qJ (qo rfl) (qJ (qo rfl) zG)))) (congrArg qP f2))
  (qJ (J.to (ve (U4 DI lL) (qJ (qo rfl) (qJ (jx rfl) (qJ (qo rfl) (qJ (qo rfl) zG))))) (congrArg qP f3))
  (qJ (J.to (ve (ZC Dh lL) (qJ (qo rfl) (qJ (qo rfl) (qJ (qo rfl) (qJ (qo rfl) zG))))) (congrArg qP f4))
  (qJ (J.to (ve (U4 DI lR) (qJ (qo rfl) (qJ (qo rfl) (qJ (qo rfl) (qJ (qo rfl) zG))))) (congrArg qP f5))
  (qJ (J.to (ve (ZC Dh (qU _)) (qJ (qo rfl) (qJ (qo rfl) (qJ (qo rfl) (qJ (Mm (qo (T:=qv qC (cs.map wd)) rfl).list) zG))))) (congrArg qP f6)) zG)))))) (zL (kJ rfl))) rfl ?_
 refine zX (T:=qv z9 (cs.filter λc=>wd c == x)) (J.to (Tv (T:=z9) (u:=λe:Wd×Nat=>e.2) (q:=λe:Wd×Nat=>e.1 == x) (J.iter (qo (T:=qv Ma (cs.map λc=>(wd c,c))) rfl)) hdl (λe=>Kd XI rfl)
  (λe _=>J.test (J.to (CH (qo rfl) (qo rfl)) (congrArg qO ((Aw _ _).trans (by rw[k9,decide_eq_true_eq,beq_iff_eq])))) rfl) λe _ _=>qo rfl) (congrArg (qv z9) (fm λw=>w == x))) rfl ?_
 refine zX (T:=qv z9 (cs.filter λc=>x.isPrefixOf (wd c))) (J.to (Tv (T:=z9) (u:=λe:Wd×Nat=>e.2) (q:=λe:Wd×Nat=>x.isPrefixOf e.1) (J.iter (qo (T:=qv Ma (cs.map λc=>(wd c,c))) rfl)) hdl (λe=>Kd XI rfl)
  (λe he=>J.test (J.to (CH (y:=tx x) (Dd (xs:=e.1.take x.length) (qo (T:=qC e.1) rfl) AY (w4 (k:=x.length) (Dc (s:=tx x) (qo rfl) (zL (qu hx (by decide)))) (zL (qu hx (by decide)))) (by
   obtain⟨c,_,rfl⟩:=qG.mp he
   exact zL (qu (hw c) (by decide))) (Il _ _)) (qo rfl)) (congrArg qO ((Aw _ _).trans (l6 ..)))) rfl) λe _ _=>qo rfl) (congrArg (qv z9) (fm λw=>x.isPrefixOf w))) rfl ?_
 refine Em (Sf (Ib (r:=qe) ?_ λ_=>Ib (r:=qe) ?_ λ_=>Ib (r:=qe) ?_ λ_=>Yo ?_))
 ·exact LZ (KB (qo (T:=qv z9 cs) rfl).list (w4 (k:=L) (qo rfl) (lm lL)) (w4 (k:=R) (qo rfl) (lm lR)) ((VS cs L R b1 (hwl▸lR)).trans (congrArg qa r1)) (lm (hwl▸F5 ..))) (qo rfl) (λa b=>Q0) (LX _)
 ·exact LZ (KB (qo (T:=qv z9 cs) rfl).list (w4 (k:=L) (qo rfl) (lm lL)) (w4 (k:=P) (qo rfl) (lm b3)) ((VS cs L P (qu b1 b2) (hwl▸b3)).trans (congrArg qa r2)) (lm (hwl▸F5 ..))) (qo rfl) (λa b=>Q0) (LX _)
 ·exact LZ (qo rfl) (wJ (R:=qP) (xs:=[L,R]) (qJ (qo rfl) (qJ (qo rfl) zG)) (zL (kJ rfl))) (λa b=>Py) (LX _)
 ·exact LZ (qo rfl) (wJ (R:=qP) (xs:=[R,P,L,L,L,R]) (qJ (qo rfl) (qJ (qo rfl) (qJ (qo rfl) (qJ (qo rfl) (qJ (qo rfl) (qJ (qo rfl) zG)))))) (zL (kJ rfl))) (λa b=>Py) (LX _)
end
end
noncomputable section
open Mine.Internal.Sp
noncomputable abbrev jC (e:qf×qf):Ty:=CQ [qw e.1,qw e.2]
structure Gf (M:List Nat)(σ:qi)(t d h:Nat)(es:List (qf×qf))(vs:List V):Prop where
 inst:σ[t]?=qa (.inst 269 d)
 ns:σ[d]?=qa (.ns [(jB,.ref h)])
 list:σ[h]?=qa (.list vs)
 all:Fa jC (fz M σ) es vs
 len:es.length<=qF
noncomputable def vt (es:List (qf×qf)):Ty where
 p f v:=es.length<=qF/\∃t d h vs,v=.ref t/\f t=qa (.inst 269 d)/\f d=qa (.ns [(jB,.ref h)])/\f h=qa (.list vs)/\Fa jC f es vs
 mono hle:=by rintro ⟨q,t,d,h,vs,rfl,a,b,c,e⟩;refine⟨q,t,d,h,vs,rfl,hle _ _ a,hle _ _ b,hle _ _ c,e.mono hle⟩
theorem M2 (h:(vt es).p (fz M σ) v):∃t d h vs,v=.ref t/\Gf M σ t d h es vs:=by
 obtain⟨q,t,d,h,vs,rfl,a,b,c,e⟩:=h
 refine⟨t,d,h,vs,rfl,(fz_get a).1,(fz_get b).1,(fz_get c).1,e,q⟩
section
variable {B:Int->Option qf}{n:Nat}{O:qE}{M:List Nat}{σ:qi}{t d h:Nat}{es:List (qf×qf)}{vs:List V}
theorem u6:jP [(jB,V.ref h)] jB=qa (.ref h):=(JB ..).trans (if_pos rfl)
theorem N1 (hi:O.iattr 269 jB=qe)(b:Gf M σ t d h es vs):H6 O σ (.ref t) jB=qa (.ref h):=by
 refine(Xv (f:=λc d=>oN σ d λes=>if O.iattr c jB then bn1 (jP es jB) λv=>vR v λn=>qa (V.ref n) else qb) b.inst).trans ((Oc b.ns).trans ((if_pos hi).trans (qZ u6 rfl)))
theorem FJ (hc:O.cls 269 nm=qa f)(hn:jB≠nm)(h1:σ[t]?=qa (.inst 269 d))(h2:σ[d]?=qa (.ns [(jB,.ref h)])):Cy O σ (.ref t) nm=qa (.fn f):=by
 refine qZ ((za ..).trans h1) ((Oc (f:=λes=>if (jP es nm).isNone then bn1 (O.cls 269 nm) λa=>qa (Mk.fn a) else qb) h2).trans ?_)
 have:jP [(jB,V.ref h)] nm=qb:=(JB ..).trans (if_neg hn)
 rw[this]
 exact(if_pos rfl).trans (qZ hc rfl)
theorem IS:(orc B (n+1)).iattr 269 jB=qe:=by kernel_rfl
theorem N9:(orc B (n+1)).cls 269 D8=qa 168:=by kernel_rfl
theorem Mg:(orc B (n+1)).cls 269 vn=qa 216:=by kernel_rfl
theorem qaC:(orc B (n+1)).cls 269 Bl=qa 221:=by kernel_rfl
theorem fE:(orc B (n+1)).cls 269 LW=qa 233:=by kernel_rfl
theorem qbC:(orc B (n+1)).cls 269 Jr=qa 259:=by kernel_rfl
theorem Fu (h:ze jB nm=qg):jB≠nm:=λe=>by rw[<-e,wZ,beq_self_eq_true] at h;cases h
theorem Px (hs:kK s=qe):(orc B (n+2)).fn 168 [v,.str s] [(w7,.bool b)] σ=qa (.str s,σ):=by
 rw[qco]
 refine(Au (m:=[qa v,qa (.str s),qa (.bool b),qb]) rfl rfl).trans ?_
 have e0:ex (orc B (n+1)) X7 [qa v,qa (.str s),qa (.bool b),qb] σ=qa (.next,[qa v,qa (.str s),qa (.bool b),qa (.val (.ref (cond b 141 146)))],σ):=by
  refine vK (i:=3) (m:=[qa v,qa (.str s),qa (.bool b),qb]) ((NC (bb:=b) (vp rfl (qX rfl))).trans ?_) (by simp)
  cases b <;> rfl
 have e1:ex (orc B (n+1)) TG [qa v,qa (.str s),qa (.bool b),qa (.val (.ref (cond b 141 146)))] σ=qa (.next,[qa v,qa (.str s),qa (.bool b),qa (.val (.ref (cond b 141 146)))],σ):=by
  have em:ev (orc B (n+1)) (.meth (.var 3) F8 [.var 1] [] []) [qa v,qa (.str s),qa (.bool b),qa (.val (.ref (cond b 141 146)))] σ=qa (.none,σ):=by
   refine(Ag (mk:=.vm (cond b 141 146) F8) (qX rfl) rfl (z4 (qX rfl) zF) zF).trans ?_
   show H9 B (cond b 141 146) F8 [.str s] σ=_
   refine if_pos ?_
   rw[hs]
   cases b <;> kernel_rfl
  exact(vX (bb:=qg) (lP rfl em)).trans ((if_neg jy).trans vL)
 have e2:ex (orc B (n+1)) Zv [qa v,qa (.str s),qa (.bool b),qb] σ=qa (.ret (.str s),[qa v,qa (.str s),qa (.bool b),qa (.val (.ref (cond b 141 146)))],σ):=by
  refine(vX (bb:=qe) (vp rfl (kV ((Gs (qX rfl)).trans ((WS ..).trans rfl)) CA (by kernel_rfl)))).trans ((if_pos rfl).trans ?_)
  exact(zY e0).trans ((zY e1).trans (vO (AT (qX rfl))))
 exact congrArg wY (vO (r:=[VT]) e2)
noncomputable def Bs (nm:qf)(e:qf×qf):Bool:=ze (zp e.1) (zp nm)
theorem qfn (h:(jC e).p (fz M σ) v):Aq σ v=qa [.str e.1,.str e.2]:=by
 obtain⟨x,y,e,p,q⟩:=Ol _ _ _ h
 obtain rfl:=p
 obtain rfl:=q
 exact e
theorem Kc (ha:Ax KM args []=qa [qa (.ref t),qa (.str nm),qa dv,qb,qb])(b:Gf M σ t d h es vs)(hc:kK (zp nm)=qe)(jh:jN (zp nm).length=qg)(hall:∀e∈es,jN (zp e.1).length=qg) :
  (orc B (n+3)).fn 216 args [] σ=qa ((match es.find? (Bs nm) with | some e=>.str e.2 | none=>dv),σ):=by
 rw[qaX]
 refine(Au rfl ha).trans ?_
 have e0:ex (orc B (n+2)) XL [qa (.ref t),qa (.str nm),qa dv,qb,qb] σ=qa (.next,[qa (.ref t),qa (.str (zp nm)),qa dv,qb,qb],σ):=by
  refine vK (i:=1) (m:=[qa (.ref t),qa (.str nm),qa dv,qb,qb]) ((Ag (qX rfl) (FJ N9 (Fu (by kernel_rfl)) b.inst b.ns) (z4 ((Ag (mk:=.bi "str.lower" GQ) (qX rfl) (by kernel_rfl) zF zF).trans ?_) zF) (z4 K6 zF)).trans (Px hc)) (by simp)
  show (if jN (zp nm).length=qe then qb else qa (V.str (zp nm),σ))=_
  rw[jh];rfl
 have hsm:small vs.length=qe:=Af (by rw[b.all.len];exact b.len)
 have loop:∀(es':List (qf×qf)) (ws:List V) (k0 v0:Option V),Fa jC (fz M σ) es' ws->(∀e∈es',jN (zp e.1).length=qg)->∃fl k1 v1,wP (.list h) vs (FH (orc B (n+2)) (.tup [3,4]) [Md]) ws [qa (.ref t),qa (.str (zp nm)),qa dv,k0,v0] σ=qa (fl,[qa (.ref t),qa (.str (zp nm)),qa dv,k1,v1],σ) /\
   (match es'.find? (Bs nm) with | some e=>fl=.ret (.str e.2) | none=>fl=.next):=by
  intro es'
  induction es' with
  | nil =>
   intro ws k0 v0 hw _
   cases hw
   refine⟨.next,k0,v0,PE (G1 b.list hsm),rfl⟩
  | cons e es' ih =>
   intro ws k0 v0 hw hl
   cases hw with
   | @cons _ u _ ws hw1 hw2 =>
   have hb:AP σ (.tup [3,4]) u [qa (.ref t),qa (.str (zp nm)),qa dv,k0,v0]=qa [qa (.ref t),qa (.str (zp nm)),qa dv,qa (.str e.1),qa (.str e.2)]:=qZ (qfn hw1) rfl
   have hlo:ev (orc B (n+2)) (.meth (.var 3) wG [] [] []) [qa (.ref t),qa (.str (zp nm)),qa dv,qa (.str e.1),qa (.str e.2)] σ=qa (.str (zp e.1),σ):=by
    refine(Ag (mk:=.bi "str.lower" GQ) (qX rfl) (by kernel_rfl) zF zF).trans ?_
    show (if jN (zp e.1).length=qe then qb else qa (V.str (zp e.1),σ))=_
    rw[hl e zB];rfl
   have ht:=vX (x:=[VJ]) (y:=[]) (vp (e:=.cmp .Eq (.meth (.var 3) wG [] [] []) (.var 1)) (bb:=Bs nm e) rfl (kV hlo (qX rfl) rfl))
   rw[AI]
   cases hf:Bs nm e with
   | true =>
    rw[hf,if_pos rfl] at ht
    have e1:FH (orc B (n+2)) (.tup [3,4]) [Md] u [qa (.ref t),qa (.str (zp nm)),qa dv,k0,v0] σ=qa (.ret (.str e.2),[qa (.ref t),qa (.str (zp nm)),qa dv,qa (.str e.1),qa (.str e.2)],σ) :=
     qZ hb (vO (ht.trans (vO (AT (qX rfl)))))
    refine⟨_,_,_,nP (G1 b.list hsm) e1,rfl⟩
   | false =>
    rw[hf,if_neg jy,vL] at ht
    have e1:FH (orc B (n+2)) (.tup [3,4]) [Md] u [qa (.ref t),qa (.str (zp nm)),qa dv,k0,v0] σ=qa (.next,[qa (.ref t),qa (.str (zp nm)),qa dv,qa (.str e.1),qa (.str e.2)],σ) :=
     qZ hb ((zY ht).trans vL)
    obtain⟨fl,k1,v1,e2,q⟩:=ih ws (qa (.str e.1)) (qa (.str e.2)) hw2 λx hx=>hl x (zI _ hx)
    refine⟨fl,k1,v1,(YP (G1 b.list hsm) e1).trans e2,q⟩
 obtain⟨fl,k1,v1,e1,q⟩:=loop es vs qb qb b.all hall
 have e2:ex (orc B (n+2)) Sw [qa (.ref t),qa (.str (zp nm)),qa dv,qb,qb] σ=qa (fl,[qa (.ref t),qa (.str (zp nm)),qa dv,k1,v1],σ) :=
  (O5 (UN (qX rfl) (N1 IS b)) (qZ ((za ..).trans b.list) rfl) (IX b.list hsm)).trans e1
 cases hf:es.find? (Bs nm) with
 | some e =>
  rw[hf] at q
  subst q
  exact congrArg wY ((zY e0).trans (vO e2))
 | none =>
  rw[hf] at q
  subst q
  exact congrArg wY ((zY e0).trans ((zY e2).trans (vO (r:=[]) (AT (qX rfl)))))
theorem pV (b:Gf M σ t d h es vs)(hc:kK (zp nm)=qe)(jh:jN (zp nm).length=qg)(hall:∀e∈es,jN (zp e.1).length=qg)(hf:es.find? (Bs nm)=qa e) :
  (orc B (n+4)).fn 259 [.ref t,.str nm,.str val] [] σ=qa (.str e.2,σ):=by
 rw[Yy]
 refine(Au (m:=[qa (.ref t),qa (.str nm),qa (.str val),qb]) rfl rfl).trans ?_
 have eg:=Kc (B:=B) (n:=n) (nm:=nm) (dv:=.none) (args:=[.ref t,.str nm]) rfl b hc jh hall
 rw[hf] at eg
 have e0:ex (orc B (n+3)) Pv [qa (.ref t),qa (.str nm),qa (.str val),qb] σ=qa (.next,[qa (.ref t),qa (.str nm),qa (.str val),qa (.str e.2)],σ) :=
  vK (i:=3) (m:=[qa (.ref t),qa (.str nm),qa (.str val),qb]) ((Ag (qX rfl) (FJ Mg (Fu (by kernel_rfl)) b.inst b.ns) (z4 (qX rfl) zF) zF).trans eg) (by simp)
 have e1:ex (orc B (n+3)) Q2 [qa (.ref t),qa (.str nm),qa (.str val),qa (.str e.2)] σ=qa (.ret (.str e.2),[qa (.ref t),qa (.str nm),qa (.str val),qa (.str e.2)],σ) :=
  (vX (bb:=qg) (vp rfl (kV (qX rfl) CV rfl))).trans ((if_neg jy).trans (vO (AT (qX rfl))))
 exact congrArg wY ((zY e0).trans (vO e1))
theorem xG (b:Gf M σ t d h es vs)(hth:t≠h)(hdh:d≠h)(hc:kK (zp nm)=qe)(jh:jN (zp nm).length=qg)(hall:∀e∈es,jN (zp e.1).length=qg)(hf:es.find? (Bs nm)=qb)(hcn:kK nm=qe)(hcv:kK val=qe) :
  (orc B (n+4)).fn 259 [.ref t,.str nm,.str val] [] σ=qa (.str val,(σ++[AObj.tuple [.str nm,.str val]]).set h (.list (vs++[.ref σ.length]))):=by
 rw[Yy]
 refine(Au (m:=[qa (.ref t),qa (.str nm),qa (.str val),qb]) rfl rfl).trans ?_
 have eg:=Kc (B:=B) (n:=n) (nm:=nm) (dv:=.none) (args:=[.ref t,.str nm]) rfl b hc jh hall
 rw[hf] at eg
 have e0:ex (orc B (n+3)) Pv [qa (.ref t),qa (.str nm),qa (.str val),qb] σ=qa (.next,[qa (.ref t),qa (.str nm),qa (.str val),qa .none],σ) :=
  vK (i:=3) (m:=[qa (.ref t),qa (.str nm),qa (.str val),qb]) ((Ag (qX rfl) (FJ Mg (Fu (by kernel_rfl)) b.inst b.ns) (z4 (qX rfl) zF) zF).trans eg) (by simp)
 have hm:∀{O:qE} {m:qx},z5 m 0=qa (.ref t)->O.iattr 269 jB=qe->ev O (.attr (.var 0) jB) m σ=qa (.ref h,σ):=λh1 h2=>UN (qX h1) (N1 h2 b)
 have et:ev (orc B (n+3)) (.tuple [.meth (.var 0) D8 [.var 1] [w7] [.bool qe],.meth (.var 0) D8 [.var 2] [w7] [.bool qg]]) [qa (.ref t),qa (.str nm),qa (.str val),qa .none] σ=qa (.ref σ.length,σ++[AObj.tuple [.str nm,.str val]]):=by
  refine rB (z4 ((Ag (qX rfl) (FJ N9 (Fu (by kernel_rfl)) b.inst b.ns) (z4 (qX rfl) zF) (z4 K6 zF)).trans (Px hcn)) (z4 ((Ag (qX rfl) (FJ N9 (Fu (by kernel_rfl)) b.inst b.ns) (z4 (qX rfl) zF) (z4 K6 zF)).trans (Px hcv)) zF)) rfl
 have hsm:small vs.length=qe:=Af (by rw[b.all.len];exact b.len)
 have ea:ex (orc B (n+3)) Tb [qa (.ref t),qa (.str nm),qa (.str val),qa .none] σ=qa (.next,[qa (.ref t),qa (.str nm),qa (.str val),qa .none],(σ++[AObj.tuple [.str nm,.str val]]).set h (.list (vs++[.ref σ.length]))):=by
  refine NK (v:=.none) ((Ag (hm rfl IS) (Io b.list P6) (z4 et zF) zF).trans ?_)
  refine(vQ (Fq b.list _)).trans ((if_pos hsm).trans ?_)
  rw[A3]
 have e1:ex (orc B (n+3)) Q2 [qa (.ref t),qa (.str nm),qa (.str val),qa .none] σ=qa (.ret (.str val),[qa (.ref t),qa (.str nm),qa (.str val),qa .none],(σ++[AObj.tuple [.str nm,.str val]]).set h (.list (vs++[.ref σ.length]))) :=
  (vX (bb:=qe) (vp rfl (kV (qX rfl) CV rfl))).trans ((if_pos rfl).trans ((zY ea).trans (vO (AT (qX rfl)))))
 exact congrArg wY ((zY e0).trans (vO e1))
noncomputable def DZ (k:Nat):qi:=[.ns [(jB,.ref (k+2))],.inst 269 k,.list []]
theorem uD (he:ev O e m σ=qa (v,σ₁))(ha:Cu O tg v m σ₁=qa (m',σ₂)):ex O (.assign tg e) m σ=qa (.next,m',σ₂):=z8 he (z8 ha rfl)
theorem qdm (ho:ev O o m σ=qa (ov,σ₁))(hs:II O σ₁ ov nm v=qa σ₂):Cu O (.attr o nm) v m σ=qa (m,σ₂):=z8 ho (qZ hs rfl)
noncomputable def Vz:S:=.assign (.var 1) (.ite (.cmp .IsNot (.var 1) .none) (.var 1) (.list []))
noncomputable def Zw:S:=.ifs (.cmp .IsNot (.call (.glob (.type "type")) [.var 1] [] []) (.glob (.type "list"))) [.bad] []
noncomputable def Xf:S:=.assign (.attr (.var 0) jB) (.var 1)
noncomputable def iR:List S:=[.expr (.meth (.var 0) D8 [.var 2] [w7] [.bool qe]),.expr (.meth (.var 0) D8 [.var 3] [w7] [.bool qg])]
noncomputable def hI3:S:=.ifs (.bool qe) [.for_ (.tup [2,3]) (.var 1) iR] []
theorem qfC:GX.code=[Vz,Zw,Xf,hI3]:=by rfl
theorem tM:(orc B (n+2)).fn 269 [] [] σ=qa (.ref (σ.length+1),σ++DZ σ.length):=by
 show OH (orc B (n+1)) [] [] σ=_
 have l0:(σ++[AObj.ns []]++[AObj.inst 269 σ.length]).length=σ.length+2:=by simp
 have g1:(σ++[AObj.ns []]++[AObj.inst 269 σ.length]++[AObj.list []])[σ.length+1]?=qa (.inst 269 σ.length):=by simp
 have g0:(σ++[AObj.ns []]++[AObj.inst 269 σ.length]++[AObj.list []])[σ.length]?=qa (.ns []):=by simp
 have g2:(σ++[AObj.ns []]++[AObj.inst 269 σ.length]++[AObj.list []])[σ.length+2]?=qa (.list []):=by simp
 have e0:ex (orc B (n+1)) Vz [qa (.ref (σ.length+1)),qa .none,qb,qb] (σ++[AObj.ns []]++[AObj.inst 269 σ.length])=qa (.next,[qa (.ref (σ.length+1)),qa (.ref (σ.length+2)),qb,qb],σ++[AObj.ns []]++[AObj.inst 269 σ.length]++[AObj.list []]):=by
  refine vK (i:=1) (m:=[qa (.ref (σ.length+1)),qa .none,qb,qb]) (v:=.ref (σ.length+2)) ((NC (bb:=qg) (vp rfl (kV (qX rfl) CV rfl))).trans ((if_neg jy).trans ((Xo zF rfl).trans ?_))) (by simp)
  rw[l0]
 have e1:ex (orc B (n+1)) Zw [qa (.ref (σ.length+1)),qa (.ref (σ.length+2)),qb,qb] (σ++[AObj.ns []]++[AObj.inst 269 σ.length]++[AObj.list []])=qa (.next,[qa (.ref (σ.length+1)),qa (.ref (σ.length+2)),qb,qb],σ++[AObj.ns []]++[AObj.inst 269 σ.length]++[AObj.list []]):=by
  refine(vX (bb:=qg) (vp rfl (kV (v:=.val (.type "list")) ((Gs (qX rfl)).trans ((WS ..).trans ?_)) CA (by kernel_rfl)))).trans ((if_neg jy).trans vL)
  exact qZ ((vQ g2).trans rfl) rfl
 have hs:II (orc B (n+1)) (σ++[AObj.ns []]++[AObj.inst 269 σ.length]++[AObj.list []]) (.ref (σ.length+1)) jB (.ref (σ.length+2))=qa (σ++DZ σ.length):=by
  refine(Xv (f:=λc d=>oN (σ++[AObj.ns []]++[AObj.inst 269 σ.length]++[AObj.list []]) d λes=>if (orc B (n+1)).iattr c jB&&decide (es.length<=5) then qa (CB (AObj.ns (wy es jB (V.ref (σ.length+2)))) (σ++[AObj.ns []]++[AObj.inst 269 σ.length]++[AObj.list []]) d) else qb) g1).trans ((Oc g0).trans ((if_pos (by rw[IS];rfl)).trans ?_))
  rw[A3,jq,jq,qim _ _ (qU _),HP];rfl
 have e2:ex (orc B (n+1)) Xf [qa (.ref (σ.length+1)),qa (.ref (σ.length+2)),qb,qb] (σ++[AObj.ns []]++[AObj.inst 269 σ.length]++[AObj.list []])=qa (.next,[qa (.ref (σ.length+1)),qa (.ref (σ.length+2)),qb,qb],σ++DZ σ.length) :=
  uD (qX rfl) (qdm (qX rfl) hs)
 have g3:(σ++DZ σ.length)[σ.length+2]?=qa (.list []):=by unfold DZ;simp
 have e3:ex (orc B (n+1)) hI3 [qa (.ref (σ.length+1)),qa (.ref (σ.length+2)),qb,qb] (σ++DZ σ.length)=qa (.next,[qa (.ref (σ.length+1)),qa (.ref (σ.length+2)),qb,qb],σ++DZ σ.length):=by
  refine(vX (bb:=qe) (vp rfl K6)).trans ((if_pos rfl).trans ((zY ((O5 (v:=.ref (σ.length+2)) (qX rfl) (i:=.list (σ.length+2)) (qZ ((za ..).trans g3) rfl) (IX g3 rfl)).trans (PE (G1 g3 rfl)))).trans vL))
 have er:zP GX (orc B (n+1)) [.ref (σ.length+1)] [] (σ++[AObj.ns []]++[AObj.inst 269 σ.length])=qa (.none,σ++DZ σ.length):=by
  refine(Au (m:=[qa (.ref (σ.length+1)),qa .none,qb,qb]) rfl rfl).trans ?_
  rw[qfC]
  exact congrArg wY ((zY e0).trans ((zY e1).trans ((zY e2).trans ((zY e3).trans vL))))
 exact z8 er rfl
theorem KA (h:J c a (vt es))(hc:c.O.cls 269 nm=qa f)(hn:ze jB nm=qg)(hf:Fn c.O f (vt es :: Ts) T)(hs:Js c args Ts):J c (.meth a nm args [] []) T:=λm σ s=>Dn.bnd (h m σ s) λv qM s1 p _=>by
 obtain⟨t,d,h',us,rfl,b⟩:=M2 p
 refine Dn.bn1 (FJ hc (Fu hn) b.inst b.ns) (Dn.bnd (hs m qM s1) λvs zZ s2 p2 g=>?_)
 obtain⟨w,σ3,e3,g3,p3⟩:=hf c.N zZ (.ref t :: vs) s2.bd (.cons ((vt es).mono (c.le g) p) p2)
 exact dn e3 s2 g3 p3
theorem UV (hO:c.O.iattr 269 jB=qe)(h:J c a (vt es)):J c (.attr a jB) (qv jC es):=λm σ s=>Dn.bnd (h m σ s) λv qM s1 p _=>by
 obtain⟨q,t,d,h',us,rfl,k1,k2,k3,k4⟩:=p
 exact Dn.bn1 (N1 hO ⟨(fz_get k1).1,(fz_get k2).1,(fz_get k3).1,k4,q⟩) (zO rfl s1 ⟨q,h',us,rfl,k3,k4⟩)
theorem fX (hl:es.length<=qF):Fn (orc B (n+2)) 221 [vt es] (qv qw (es.map Q3)):=Eg (n:=0) (qef · []) rfl (LB λ_=>rfl) λM s =>
 Em (Dt (J.iter (UV IS (qo (T:=vt es) rfl))) hl (λe=>Kd Ol rfl) λe _=>qo rfl)
theorem qgi (hl:es.length<=qF):Fn (orc B (n+2)) 233 [vt es] (qv jC es):=Eg (n:=0) (qcu · []) rfl (LB λ_=>rfl) λM s=>Em (KB (UV IS (qo (T:=vt es) rfl)).list AY AY (KY es) hl)
noncomputable def told (es:List (qf×qf))(nm:qf)(dv:V):V:=match es.find? (Bs nm) with | some e=>.str e.2 | none=>dv
theorem tX (hc:kK (zp nm)=qe)(jh:jN (zp nm).length=qg)(hall:∀e∈es,jN (zp e.1).length=qg):Fn (orc B (n+3)) 216 [vt es,qw nm] (zo (told es nm .none)):=λM σ vs hM p=>by
 obtain⟨v,w,rfl,p',rfl⟩:=KI p
 obtain⟨t,d,h,us,rfl,b⟩:=M2 p'
 exact B6 (Kc (dv:=.none) rfl b hc jh hall) λ_=>rfl
theorem rM (hc:kK (zp nm)=qe)(jh:jN (zp nm).length=qg)(hall:∀e∈es,jN (zp e.1).length=qg):Fn (orc B (n+3)) 216 [vt es,qw nm,qw dv] (zo (told es nm (.str dv))):=λM σ vs hM p=>by
 obtain⟨v,w,u,rfl,p',rfl,rfl⟩:=d9 p
 obtain⟨t,d,h,us,rfl,b⟩:=M2 p'
 exact B6 (Kc (dv:=.str dv) rfl b hc jh hall) λ_=>rfl
end
end
noncomputable section
open Mine.Internal.Sp
section
variable {B:Int->Option qf}{n:Nat}{es:List (qf×qf)}{a b:List Nat}{r:Wd}{wd:Nat->Wd}
theorem l5 (ls:List Wd):∀ql:Array Nat,(ls.map tx).foldl (λql (p:qf)=>ql++(⟨#[]⟩:qf).cps++p.cps) ql=ql++ls.flatten.toArray:=by
 induction ls with
 | nil=>intro ql;simp
 | cons x ls ih =>
  intro ql
  rw[z7,HB,ih]
  show ql++#[]++x.toArray++ls.flatten.toArray=_
  simp
theorem f7 (ls:List Wd):aK ⟨#[]⟩ (ls.map tx)=tx ls.flatten:=by
 show qit ⟨#[]⟩ (ls.map tx)=_
 unfold qit
 cases ls with
 | nil=>rfl
 | cons x ls =>
  rw[z7,List.drop_succ_cons,JS,l5]
  show (⟨x.toArray++ls.flatten.toArray⟩:qf)=tx (x :: ls).flatten
  unfold tx
  simp
theorem fO:Fn (orc B (n+1)) 136 [qw s] (qO (ze s ⟨#[32]⟩)):=λM σ vs hM p=>by
 obtain⟨v,rfl,rfl⟩:=GS p
 exact B6 (qcL s) λ_=>rfl
noncomputable def Bw (c:Nat):Bool:=ze ⟨#[c]⟩ ⟨#[32]⟩
theorem y8 (c:Nat):Bw c=decide (c=32):=by
 have:=Aw [c] [32]
 show ze (tx [c]) (tx [32])=_
 rw[this]
 simp
theorem ZQ {l:List Nat}(h:32∉l):∀c∈l,Bw c=qg:=λc hc=>by
 rw[y8];exact decide_eq_false λe=>h (e▸hc)
theorem qdw (ha:32∉a)(hb:32∉b):((((a++32 :: b).map Bw).map λb=>b == qe).countP λb=>b)=1:=by
 rw[wX,bI]
 have h0:∀l:List Nat,32∉l->l.countP ((λb=>b) ∘ (λb=>b == qe) ∘ Bw)=0:=λl hl=>List.countP_eq_zero.mpr λc hc=>by
  show ¬(Bw c == qe)=qe
  rw[ZQ hl c hc];decide
 rw[List.countP_append,cW,h0 a ha,h0 b hb]
 rfl
theorem gU (ha:32∉a):(((a++32 :: b).map Bw).map λb=>b == qe).findIdx? (λb=>b)=qa a.length:=by
 induction a with
 | nil=>rfl
 | cons c a ih =>
  have h1:Bw c=qg:=ZQ ha c zB
  rw[Q5,z7,z7,List.findIdx?_cons,h1,ih λh=>ha (zI _ h)]
  rfl
theorem eT (hl:∀c∈a++b,es.lookup ⟨#[c]⟩=qa (tx (wd c))){l:List Nat}(h:∀c∈l,c∈a++b):(l.map λc=>(es.lookup ⟨#[c]⟩).getD ⟨#[33]⟩)=(l.map wd).map tx:=by
 rw[wX]
 exact RT λc hc=>by rw[hl c (h c hc)];rfl
theorem Vs:∀l:List Wd,(∀w∈l,w.length<=3)->((l.map tx).map (·.length)).sum<=3 * l.length
 | [],_=>qU _
 | w :: l,h=>by
  have:=Vs l λx hx=>h x (zI _ hx)
  have h1:=h w zB
  simp only[z7,List.sum_cons,vV]
  have:(tx w).length=w.length:=rfl
  lia
theorem OD:∀l:List Wd,(∀w∈l,w.length<=3)->l.flatten.length<=3 * l.length
 | [],_=>qU _
 | w :: l,h=>by
  have:=OD l λx hx=>h x (zI _ hx)
  have h1:=h w zB
  rw[qgQ,zw,vV]
  lia
theorem u8 (h:a.head?≠b.head?):a.take 1≠b.take 1:=λe=>h (by
 cases a with
 | nil=>cases b with | nil=>rfl | cons=>cases e
 | cons x a=>cases b with | nil=>cases e | cons y b=>injection e with e _;rw[e];rfl)
theorem l4 (h:n<=10000):n<=qF:=zL (qu h (by decide))
theorem PT (l:List Nat)(hw:∀c,(wd c).length<=3):∀w∈l.map wd,w.length<=3:=λw h=>by obtain⟨c,_,rfl⟩:=qG.mp h;exact hw c
theorem rE (ha:32∉a)(hb:32∉b)(hh:a.head?≠b.head?)(hl:∀c∈a++b,es.lookup ⟨#[c]⟩=qa (tx (wd c)))(hw:∀c,(wd c).length<=3)(hr:r.length<=3)(ht:(a.map wd).flatten=(b.map wd).flatten++r)(hla:a.length<=10000)(hlb:b.length<=10000) :
  Fn (orc B (n+2)) 316 [qw (tx (a++32 :: b)),qC r,At qw es] (qP (a.map wd).flatten.length):=Eg (n:=4) (qdN · []) rfl (Wa λ_ _ _=>rfl) λM s=>by
 have hpl:(a++32 :: b).length<=20001:=by rw[zw,vV];exact AL hla (Ao hlb)
 have hpm:(tx (a++32 :: b)).length<=qF:=zL (qu hpl (by decide))
 have hbm:((a++32 :: b).map Bw).length<=qF:=by rw[qH];exact hpm
 have f1:(a.map wd).flatten.length<=30000:=qu (OD _ (PT a hw)) (by rw[qH];exact F7 3 hla)
 have f2:(b.map wd).flatten.length<=30000:=qu (OD _ (PT b hw)) (by rw[qH];exact F7 3 hlb)
 refine zX (T:=qv qO ((a++32 :: b).map Bw)) (Dt (J.chars (qo (T:=qw (tx (a++32 :: b))) rfl) hpm) hpm (λx=>Dm rfl) λx _=>ve fO (qJ (qo rfl) zG)) rfl ?_
 refine wH (b:=qg) (KL (BW (r:=qg) (J.test (J.to (l8 (pW (qo (T:=qv qO ((a++32 :: b).map Bw)) rfl).list) zD) ?_) rfl) λ_=>BW (r:=qg) (s:=qg) (J.test (J.to (Ky (q:=λx=>x == qg) (QS (i:=qg)) (Dt (T:=qO) (u:=λ_=>qe) (J.iter (qo (T:=qv qO ((a++32 :: b).map Bw)) rfl)) hbm (λx=>Dm rfl) λx _=>yN (qo rfl)).list λx=>QB).1 (congrArg qO ?_)) rfl) λ_=>KJ)) ?_
 ·rw[qdw ha hb];rfl
 ·rw[cX];intro x hx;obtain⟨_,_,rfl⟩:=qG.mp hx;decide
 have jx:∀{c:C},qy c.Γ 3=qa (qa (qv qO ((a++32 :: b).map Bw)))->J c (.meth (.var 3) ES [.bool qe] [] []) (qP a.length):=λh=>iU (qo h).list (gU ha)
 refine zX (T:=qC a) (Dd (qo (T:=qw (tx (a++32 :: b))) rfl) AY (w4 (jx rfl) (l4 hla)) hpm ((Il _ _).trans (congrArg qa cN))) rfl ?_
 refine zX (T:=qC b) (Dd (qo (T:=qw (tx (a++32 :: b))) rfl) (w4 (k:=a.length+1) (GN (jx rfl) zD) (zL (qu (Ao hla) (by decide)))) AY hpm ((Gp _ _).trans (congrArg qa ?_))) rfl ?_
 ·show (a++32 :: b).drop (a.length+1)=b
  rw[show a++32 :: b=(a++[32])++b by simp,List.drop_left' (by simp)]
 refine zX (T:=qv qC ([a,b].map λl:List Nat=>(l.map wd).flatten)) (Dt (T:=qC) (u:=λl:List Nat=>(l.map wd).flatten) (J.iter (wJ (R:=qC) (xs:=[a,b]) (qJ (qo rfl) (qJ (qo rfl) zG)) (zL (kJ rfl)))) (zL (kJ rfl)) (λx=>Dm rfl) λx hx=>?_) rfl ?_
 ·have h2:(∀c∈x,c∈a++b)/\x.length<=10000:=by
   rcases jJ.mp hx with rfl | hx
   ·refine⟨λc hc=>kH _ hc,hla⟩
   ·obtain rfl:=zE.mp hx
    refine⟨λc hc=>wV _ hc,hlb⟩
  refine J.to (mV (s:=⟨#[]⟩) (ss:=(x.map wd).map tx) vJ (J.to (Dt (T:=qw) (u:=λc=>(es.lookup ⟨#[c]⟩).getD ⟨#[33]⟩) (J.chars (qo (T:=qw (tx x)) rfl) (l4 h2.2)) (l4 h2.2) (λy=>Dm rfl) λy _=>qas (qo (T:=At qw es) rfl).dict (qo rfl) vJ) (congrArg (qv qw) (eT hl h2.1))).list ?_) (congrArg qw (f7 _))
  refine qu (AL (Vs _ (PT x hw)) (BK (Nat.mul_zero _))) ?_
  rw[qH]
  exact qu (F7 3 h2.2) (by decide)
 have jt:∀{c:C} {i:Nat} {w:Wd},qy c.Γ 6=qa (qa (qv qC ([a,b].map λl:List Nat=>(l.map wd).flatten)))->([a,b].map λl:List Nat=>(l.map wd).flatten)[i]?=qa w->J c (.idx (.var 6) (.int (i:Nat))) (qC w):=λh1 h2=>wg (qo h1).list zD h2
 refine Em (LS (r:=qe) (E4 (AM (r:=qe) (J.test (J.to (ZR (Dd (xs:=a.take 1) (qo (T:=qC a) rfl) AY (w4 (k:=1) zD (zL (kJ rfl))) (l4 hla) (Il a 1)) (Dd (xs:=b.take 1) (qo (T:=qC b) rfl) AY (w4 (k:=1) zD (zL (kJ rfl))) (l4 hlb) (Il b 1))) (congrArg qO ?_)) rfl) λ_ =>
  AM (r:=qe) (s:=qe) (J.test (J.to (CH (jt (i:=0) rfl rfl) (D9 (jt (i:=1) rfl rfl) (qo (T:=qC r) rfl) ?_)) (congrArg qO ?_)) rfl) λ_=>He)) (λ_=>Dc (jt (i:=0) rfl rfl) (zL (qu f1 (by decide)))) λh=>nomatch h)
 ·show (!ze (tx (a.take 1)) (tx (b.take 1)))=_
  rw[Aw,decide_eq_false (u8 hh)];rfl
 ·exact qu (AL f2 hr) (by decide)
 ·show ze (tx (a.map wd).flatten) (tx (b.map wd).flatten++tx r)=_
  rw[Cw,<-ht,Aw,decide_eq_true rfl]
end
end
noncomputable section
open Mine.Internal.Sp
noncomputable abbrev wr (x:Wd×Wd):Ty:=qv qC [x.1,x.2]
noncomputable def Gx (x:Wd×Wd):qf:=tx (x.1++32 :: x.2)
noncomputable def Cz (e:Be):qf:=Gx (qN e)
theorem U5:∀{a b a' b':Wd},32∉a->32∉a'->a++32 :: b=a'++32 :: b'->a=a'/\b=b'
 | [],b,[],b',_,_,h=>by injection h with _ h;refine⟨rfl,h⟩
 | [],b,c :: a',b',_,h2,h=>by injection h with h _;exact absurd (h▸zB) h2
 | c :: a,b,[],b',h1,_,h=>by injection h with h _;exact absurd (h▸zB) h1
 | c :: a,b,c' :: a',b',h1,h2,h=>by
  injection h with h h3
  obtain⟨q1,q2⟩:=U5 (λq=>h1 (zI _ q)) (λq=>h2 (zI _ q)) h3
  refine⟨by rw[h,q1],q2⟩
noncomputable def PW (ws:List Wd)(x:Wd×Wd):Prop:=(∃w∈ws,x.1 <:+ w)/\∃w∈ws,x.2 <:+ w
section
variable {ws:List Wd}{t:Nat}{x:Wd×Wd}{l fu:List (Wd×Wd)}{R:List Be}
theorem L4 (h3:∀w∈ws,w.length<=3)(k:∃w∈ws,r <:+ w):r.length<=3:=Je h3 k
theorem XK (h0:∀w∈ws,32∉w)(k:∃w∈ws,r <:+ w):32∉r:=λh=>by
 obtain⟨w,hw,s⟩:=k
 exact h0 w hw (s.subset h)
theorem Ye (h:PW ws x):PW ws (qN ⟨x.1,x.2,t⟩):=by
 rcases Fc ⟨x.1,x.2,t⟩ with q | q <;> rw[q]
 ·exact h
 ·refine⟨h.2,h.1⟩
theorem mF (h0:∀w∈ws,32∉w)(hR:∀e∈R,PW ws (qN e))(hy:PW ws y):((R.map Cz).any λs=>ze s (Gx y))=decide (y∈R.map qN):=by
 rw[k9,decide_eq_true_eq,JQ,C0]
 constructor
 ·rintro ⟨e,he,q⟩
  have q:ze (Cz e) (Gx y)=qe:=q
  have:=Bp (vG q)
  obtain⟨q1,q2⟩:=U5 (XK h0 (hR e he).1) (XK h0 hy.1) this
  exact qG.mpr ⟨e,he,qh5 q1 q2⟩
 ·intro h
  obtain⟨e,he,rfl⟩:=qG.mp h
  refine⟨e,he,?_⟩
  show ze (Cz e) (Gx (qN e))=qe
  rw[wZ];exact beq_self_eq_true _
theorem Nu [DecidableEq α]:∀{l u:List α},l.Nodup->(∀x∈l,x∈u)->l.length<=u.length
 | [],_,_,_=>zN _
 | x :: l,u,h,k=>by
  obtain⟨h1,h2⟩:=k7.mp h
  have hx:=k x zB
  have:=Nu (u:=u.erase x) h2 λy hy=>(List.mem_erase_of_ne (λe:y=x=>h1 (e▸hy))).mpr (k y (zI _ hy))
  rw[List.length_erase_of_mem hx] at this
  have hu:=List.length_pos_of_mem hx
  rw[vV]
  lia
theorem qd5 (h3:∀w∈ws,w.length<=3)(h5:ws.length<=5)(hR:∀e∈R,PW ws (qN e))(hn:(R.map qN).Nodup):R.length<=400:=by
 have h1:=Kg h3
 have h2:((j9 ws).flatMap λa=>(j9 ws).map λb=>(a,b)).length<=(j9 ws).length * (j9 ws).length:=Ee λa _=>by rw[qH];exact qU _
 have h4:(R.map qN).length<=_:=Nu (u:=(j9 ws).flatMap λa=>(j9 ws).map λb=>(a,b)) hn λy hy=>by
  obtain⟨e,he,rfl⟩:=qG.mp hy
  obtain⟨a,b⟩:=hR e he
  exact kU.mpr ⟨_,Gy.mpr a,qG.mpr ⟨_,Gy.mpr b,rfl⟩⟩
 rw[qH] at h4
 have h6:(j9 ws).length<=20:=by lia
 have h7:(j9 ws).length * (j9 ws).length<=20 * 20:=EG h6 h6
 lia
theorem VC (h:qN ⟨x.1,x.2,t⟩∈R.map qN):wI ws t x l fu R=(l,fu,R):=if_pos h
noncomputable def Bq (ws:List Wd)(n:Wd×Wd)(l:List (Wd×Wd)):List (Wd×Wd):=if n.2=[]/\n.1≠[] then l++ws.map λw=>(n.1,w) else l
noncomputable def BP (n:Wd×Wd)(fu:List (Wd×Wd)):List (Wd×Wd):=if n.2≠[]/\n.1.head?=n.2.head? then fu++[(n.1.drop 1,n.2.drop 1)] else fu
theorem Ub (h:qN ⟨x.1,x.2,t⟩∉R.map qN):wI ws t x l fu R=(Bq ws (qN ⟨x.1,x.2,t⟩) l,BP (qN ⟨x.1,x.2,t⟩) fu,R++[⟨x.1,x.2,t⟩]):=by
 have hle:=Lv ⟨x.1,x.2,t⟩
 refine(if_neg h).trans ?_
 generalize qN ⟨x.1,x.2,t⟩=n at hle
 obtain⟨a,b⟩:=n
 cases a with
 | nil=>cases b with
  | nil=>rfl
  | cons d b=>exact absurd hle (by simp)
 | cons c a=>cases b with
  | nil=>rfl
  | cons d b =>
   show (if c=d then _ else _)=_
   by_cases q:c=d
   ·subst q
    rw[if_pos rfl]
    unfold Bq BP
    rw[if_neg (λh=>nomatch h.1),if_pos ⟨JM _ _,rfl⟩];rfl
   ·rw[if_neg q]
    unfold Bq BP
    rw[if_neg (λh=>nomatch h.1),if_neg (λh=>q (zc h.2))]
theorem qdc (hn:PW ws n)(hl:∀y∈l,PW ws y):∀y∈Bq ws n l,PW ws y:=λy hy=>by
 unfold Bq at hy
 split at hy
 ·rcases zT.mp hy with h | h
  ·exact hl y h
  ·obtain⟨w,hw,rfl⟩:=qG.mp h
   refine⟨hn.1,w,hw,J9 w⟩
 ·exact hl y hy
theorem qbn (hn:PW ws n)(hl:∀y∈fu,PW ws y):∀y∈BP n fu,PW ws y:=λy hy=>by
 unfold BP at hy
 split at hy
 ·rcases zT.mp hy with h | h
  ·exact hl y h
  ·obtain rfl:=zE.mp h
   obtain⟨⟨w,hw,s⟩,v,hv,s'⟩:=hn
   refine⟨⟨w,hw,(J8 1 _).trans s⟩,v,hv,(J8 1 _).trans s'⟩
 ·exact hl y hy
theorem oO:(Bq ws n l).length<=l.length+ws.length:=by
 unfold Bq;split
 ·rw[zw,qH];exact qU _
 ·exact Ba ..
theorem iV:(BP n fu).length<=fu.length+1:=by
 unfold BP;split
 ·rw[zw];exact qU _
 ·exact Ba ..
end
end
noncomputable section
open Mine.Internal.Sp
noncomputable def kD (l:List (Wd×Nat)):List (qf×Nat):=l.map λe=>(tx e.1,e.2)
theorem Vg (l:List (Wd×Nat))(w:Wd):tx w∈(kD l).map (·.1)↔w∈l.map (·.1):=by
 unfold kD
 rw[wX,qG,qG]
 constructor
 ·rintro ⟨e,he,q⟩;refine⟨e,he,Bp q⟩
 ·rintro ⟨e,he,rfl⟩;refine⟨e,he,rfl⟩
theorem qe3 (l:List (Wd×Nat))(w:Wd):((kD l).any λe=>e.1 == tx w)=decide (w∈l.map (·.1)):=by
 rw[k9,C0,decide_eq_true_eq,<-Vg l w,qG]
 constructor
 ·rintro ⟨e,he,q⟩;refine⟨e,he,eq_of_beq q⟩
 ·rintro ⟨e,he,q⟩;refine⟨e,he,by rw[q];exact beq_self_eq_true _⟩
structure WO (ws:List Wd):Prop where
 h3:∀w∈ws,w.length<=3
 h5:ws.length<=5
 h0:∀w∈ws,32∉w
structure LI (ws:List Wd)(l fu:List (Wd×Wd))(R:List Be):Prop where
 pl:∀y∈l,PW ws y
 pf:∀y∈fu,PW ws y
 pR:∀e∈R,PW ws (qN e)
 nd:(R.map qN).Nodup
 ll:l.length<=425+5 * R.length
 lf:fu.length<=R.length
section
variable {ws:List Wd}{l fu:List (Wd×Wd)}{R:List Be}{t:Nat}{x:Wd×Wd}
theorem Uj:∀(R:List Be)(L:List (Wd×Nat)),(R.foldl DG L).length<=L.length+R.length
 | [],L=>qU _
 | e :: R,L=>by
  rw[HB,vV]
  have h2:(DG L e).length<=L.length+1:=by
   unfold DG;split
   ·rw[zw];exact qU _
   ·exact DU _
  exact qu (Uj R (DG L e)) (qu (qh6 h2 _) (BK (by rw[EA,Hu 1])))
theorem LI.len (w:WO ws)(h:LI ws l fu R):R.length<=400:=qd5 w.h3 w.h5 h.pR h.nd
theorem LI.ln (w:WO ws)(h:LI ws l fu R):(zH ws R).length<=401:=by
 have h0:(Dg ws).length<=1:=by unfold Dg;split <;> simp
 exact qu (Uj R (Dg ws)) (qu (AL h0 (h.len w)) (by decide))
theorem LI.lm (w:WO ws)(h:LI ws l fu R):(kD (zH ws R)).length<=qF:=zL (by unfold kD;rw[qH];exact qu (h.ln w) (by decide))
theorem LI.old (h:LI ws (x :: l) fu R):LI ws l fu R:=⟨λy hy=>h.pl y (.tail _ hy),h.pf,h.pR,h.nd,Bf h.ll,h.lf⟩
theorem LI.step (w:WO ws)(h:LI ws (x :: l) fu R):LI ws (wI ws t x l fu R).1 (wI ws t x l fu R).2.1 (wI ws t x l fu R).2.2:=by
 have hn:=Ye (t:=t) (h.pl x (.head _))
 by_cases hm:qN ⟨x.1,x.2,t⟩∈R.map qN
 ·rw[VC hm];exact h.old
 ·rw[Ub hm]
  have hl:l.length+1<=425+5 * R.length:=h.ll
  have hR:(R++[(⟨x.1,x.2,t⟩:Be)]).length=R.length+1:=zw
  refine⟨qdc hn h.old.pl,qbn hn h.pf,λe he=>(zT.mp he).elim (h.pR e) λhe=>by rw[zE.mp he];exact hn,?_,qu oO ?_,qu iV (by rw[hR];exact Ao h.lf)⟩
  ·rw[jQ]
   exact BJ.mpr ⟨h.nd,k7.mpr ⟨AH,vy⟩,λy hy z hz e=>hm (by rw[<-zE.mp hz,<-e];exact hy)⟩
  ·rw[hR,Nat.mul_succ,<-EA];exact AL (Bf hl) w.h5
theorem qbJ (R:List Be)(e:Be):zH ws (R++[e])=DG (zH ws R) e:=by unfold zH;rw[F3];rfl
theorem Tu (c:Nat)(w:List Nat):JN (tx (c :: w)) ((0:Nat):Int)=qa c:=by
 unfold JN
 rw[show (tx (c :: w)).length=w.length+1 from rfl,Yb (DN _)]
 show (tx (c :: w)).cps[0]?=qa c
 unfold tx
 simp
theorem VM {α:Type}{R:α->Ty}{c:C}{a b:E}{xs ys:List α}(ha:J c a (qv R xs))(hb:J c b (qv R ys))(hl:xs.length+ys.length<=qF):J c (.bin .Add a b) (qv R (xs++ys)):=λm σ s=>Dn.bnd (ha m σ s) λv qM s1 p _=>Dn.bnd (hb m qM s1) λw zZ s2 p2 g=>by
 obtain⟨_,i,vs,rfl,q1,f1⟩:=p
 obtain⟨_,j,us,rfl,q2,f2⟩:=p2
 exact Dn.of ((vQ (f:=λxs=>oL zZ j λys=>if small (xs.length+ys.length) then zM (.list (xs++ys)) zZ else qb) (g.get (fz_get q1).1)).trans (vQ (fz_get q2).1)) (Dn.ifp (Af (by rw[f1.len,f2.len];exact hl)) (Bj s2 λf hf ho=>⟨by rw[zw];exact hl,_,_,rfl,ho,(f1.mono ((c.le g).trans hf)).app (f2.mono hf)⟩))
noncomputable def Zd (ws:List Wd)(a s q:Nat)(L:List (Wd×Nat))(fu:List (Wd×Wd))(R:List Be):List (Nat×Co):=[(a,cD qP (kD L)),(s,cS (R.map Cz)),(q,cL wr fu)]
noncomputable def X9 (ws:List Wd)(a s q t:Nat)(l:List (Wd×Wd))(o6 o7:Option Ty):List (Option Ty):=[qa (qv qC ws),qa (zo (.ref a)),qa (qv wr l),qa (zo (.ref s)),qa (qP t),qa (zo (.ref q)),o6,o7]
noncomputable abbrev EL (c:C)(ws:List Wd)(a s q t:Nat)(L:List (Wd×Nat))(l fu:List (Wd×Wd))(R:List Be)(o6 o7:Option Ty):C:=c.w (Zd ws a s q L fu R,X9 ws a s q t l o6 o7)
variable {c:C}{a s q:Nat}
theorem U9 (h:J c e (qC w)):Jt c (.cmp .Eq e (.str ⟨#[]⟩)) (decide (w=[])):=J.test (J.to (CH (y:=tx []) h vJ) (congrArg qO (Aw ..))) rfl
theorem Ls (h:J c e (qC w)):Jt c (.cmp .NotEq e (.str ⟨#[]⟩)) (!decide (w=[])):=J.test (J.to (ZR (y:=tx []) h vJ) (congrArg (λb=>qO (!b)) (Aw ..))) rfl
theorem Jt.to (h:Jt c e b)(k:b=r):Jt c e r:=k▸h
theorem qeF (w:WO ws)(h:LI ws (x :: l) fu R){u v:Wd}(hu:u.length<=3)(hv:v.length<=3)(hle:v.length<=u.length){R':List Be} :
  X (EL c ws a s q t L l fu R' (qa (qC u)) (qa (qC v))) [UW] (nx (EL c ws a s q t L (Bq ws (u,v) l) (BP (u,v) fu) R' qb qb)):=by
 have fin:∀{l' fu'},Bq ws (u,v) l=l'->BP (u,v) fu=fu'->X (EL c ws a s q t L l' fu' R' (qa (qC u)) (qa (qC v))) [] (nx (EL c ws a s q t L (Bq ws (u,v) l) (BP (u,v) fu) R' qb qb)):=λh1 h2=>CM λm σ s=>by
  subst h1 h2
  exact(s.un 6).un 7
 have hl:l.length+1<=425+5 * R.length:=h.ll
 refine wH (b:=decide (v=[])&&(!decide (u=[])&&qe)) (E4 (AM (U9 (qo rfl)) λ_=>AM (Ls (qo rfl)) λ_=>He)) ?_
 by_cases hv0:v=[]
 ·by_cases hu0:u=[]
  ·rw[decide_eq_true hv0,decide_eq_true hu0]
   refine wH (b:=qg) (E4 (AM (r:=qg) (s:=qe) ((Ls (qo rfl)).to (by rw[hv0];rfl)) λh=>nomatch h)) ?_
   exact fin (if_neg λh=>h.2 hu0) (if_neg λh=>h.1 hv0)
  ·rw[decide_eq_true hv0,decide_eq_false hu0]
   refine zX (T:=qv wr (l++ws.map λw=>(u,w))) (VM (qo rfl) (Dt (T:=wr) (u:=λw=>(u,w)) (J.iter (qo (T:=qv qC ws) rfl)) (zL (qu w.h5 (by decide))) (λw=>Dm rfl) λw _=>wJ (R:=qC) (xs:=[u,w]) (qJ (qo rfl) (qJ (qo rfl) zG)) (zL (kJ rfl))) (zL ?_)) rfl (fin (if_pos ⟨hv0,hu0⟩) (if_neg λh=>h.1 hv0))
   rw[qH]
   exact qu (AL (qu (Bf hl) (F4 (F7 5 (h.len w)) _)) w.h5) (by decide)
 ·rw[decide_eq_false hv0]
  cases u with
  | nil=>exact absurd (cP.mp (RG.mp hle)) hv0
  | cons c1 u1=>cases v with
   | nil=>exact absurd rfl hv0
   | cons c2 v1 =>
    have hl1:Bq ws (c1 :: u1,c2 :: v1) l=l:=if_neg λh=>nomatch h.1
    refine wH (b:=qe&&(decide (c1=c2)&&qe)) (E4 (AM ((Ls (w:=c2 :: v1) (qo rfl)).to rfl) λ_=>AM (J.test (J.to (CH (XH (k:=0) (qo (T:=qC (c1 :: u1)) rfl) zD (zN _) (Tu c1 u1)) (XH (k:=0) (qo (T:=qC (c2 :: v1)) rfl) zD (zN _) (Tu c2 v1))) (congrArg qO ((Aw [c1] [c2]).trans ?_))) rfl) λ_=>He)) ?_
    ·simp
    ·by_cases hcc:c1=c2
     ·rw[decide_eq_true hcc]
      refine S7 (k:=2) (x:=(u1,v1)) (R:=wr) (xs:=fu) rfl rfl (zL (qu h.lf (qu (h.len w) (by decide)))) (wJ (R:=qC) (xs:=[u1,v1]) (qJ (Dd (xs:=u1) (qo (T:=qC (c1 :: u1)) rfl) (w4 (k:=1) zD (zL (kJ rfl))) AY (zL (qu hu (by decide))) (Gp (c1 :: u1) 1)) (qJ (Dd (xs:=v1) (qo (T:=qC (c2 :: v1)) rfl) (w4 (k:=1) zD (zL (kJ rfl))) AY (zL (qu hv (by decide))) (Gp (c2 :: v1) 1)) zG)) (zL (kJ rfl))) rfl ?_
      exact fin hl1 (if_pos ⟨JM _ _,congrArg qa hcc⟩)
     ·rw[decide_eq_false hcc]
      exact fin hl1 (if_neg λh=>hcc (zc h.2))
end
end
noncomputable section
open Mine.Internal.Sp
section
variable {B:Int->Option qf}{n:Nat}{ws:List Wd}{l fu:List (Wd×Wd)}{R:List Be}{t:Nat}{x:Wd×Wd}{c:C}{a s q:Nat}
noncomputable abbrev stp (c:C)(ws:List Wd)(a s q t:Nat)(p:List (Wd×Wd)×List (Wd×Wd)×List Be):C:=EL c ws a s q t (zH ws p.2.2) p.1 p.2.1 p.2.2 qb qb
theorem uI (w:WO ws)(h:LI ws (x :: l) fu R) :
  X (EL c ws a s q t (zH ws R) l fu R (qa (qC (qN ⟨x.1,x.2,t⟩).1)) (qa (qC (qN ⟨x.1,x.2,t⟩).2))) [QF] (nx (stp c ws a s q t (wI ws t x l fu R))):=by
 have hn:=Ye (t:=t) (h.pl x (.head _))
 have hle:=Lv ⟨x.1,x.2,t⟩
 have l1:=L4 w.h3 hn.1
 have l2:=L4 w.h3 hn.2
 have hki:=mF w.h0 h.pR hn
 have hst:zH ws (R++[(⟨x.1,x.2,t⟩:Be)])=if (qN ⟨x.1,x.2,t⟩).2=[]/\(qN ⟨x.1,x.2,t⟩).1∉(zH ws R).map (·.1) then zH ws R++[((qN ⟨x.1,x.2,t⟩).1,t+(qN ⟨x.1,x.2,t⟩).1.length)] else zH ws R:=qbJ R ⟨x.1,x.2,t⟩
 have hkb:(R++[(⟨x.1,x.2,t⟩:Be)]).map Cz=R.map Cz++[Gx (qN ⟨x.1,x.2,t⟩)]:=jQ
 have hold:=VC (ws:=ws) (t:=t) (x:=x) (l:=l) (fu:=fu) (R:=R)
 have hnew:=Ub (ws:=ws) (t:=t) (x:=x) (l:=l) (fu:=fu) (R:=R)
 generalize qN ⟨x.1,x.2,t⟩=y at *
 obtain⟨u,v⟩:=y
 have l1:u.length<=3:=l1
 have l2:v.length<=3:=l2
 have hle:v.length<=u.length:=hle
 have jkey:∀{c:C},qy c.Γ 6=qa (qa (qC u))->qy c.Γ 7=qa (qa (qC v))->J c (.bin .Add (.bin .Add (.var 6) (.str ⟨#[32]⟩)) (.var 7)) (qw (Gx (u,v))):=λh1 h2=>J.to (D9 (D9 (y:=tx [32]) (qo h1) vJ (qu (Ao l1) (by decide))) (qo h2) (by
  rw[Cw];show (u++[32]).length+v.length<=_
  rw[zw];exact qu (AL (Ao l1) l2) (by decide))) (congrArg qw (by rw[Cw,Cw,jq];rfl))
 refine wH (b:=!decide ((u,v)∈R.map qN)) (J.test (J.to (qdu (k:=1) (s:=s) (es:=R.map Cz) (jkey rfl rfl) rfl rfl) (congrArg (λb=>qO (!b)) hki)) rfl) ?_
 by_cases hm:(u,v)∈R.map qN
 ·rw[decide_eq_true hm,hold hm]
  exact CM λm σ s=>(s.un 6).un 7
 ·rw[decide_eq_false hm,hnew hm]
  refine tR (k:=1) (es:=R.map Cz) (ds:=(R++[(⟨x.1,x.2,t⟩:Be)]).map Cz) rfl rfl (by rw[qH];exact qu (h.len w) (by decide)) (by rw[hki];exact decide_eq_false hm) (jkey rfl rfl) hkb.symm ?_
  have next:=λL (hL:L=zH ws (R++[(⟨x.1,x.2,t⟩:Be)]))=>X.imp (P:=nx (stp c ws a s q t (Bq ws (u,v) l,BP (u,v) fu,R++[(⟨x.1,x.2,t⟩:Be)]))) (qeF (c:=c) (a:=a) (s:=s) (q:=q) (t:=t) (L:=L) (R':=R++[(⟨x.1,x.2,t⟩:Be)]) w h l1 l2 hle) λfl m σ p=>⟨p.1,by rw[stp,<-hL];exact p.2⟩
  refine wH (b:=decide (v=[])&&(!decide (u∈(zH ws R).map (·.1))&&qe)) (E4 (AM (U9 (qo rfl)) λ_=>AM (J.test (J.to (Nz (s:=tx u) (qo rfl) (Mi (k:=0) (R:=qP) (es:=kD (zH ws R)) rfl rfl (h.lm w))).2 (congrArg (λb=>qO (!b)) (qe3 ..))) rfl) λ_=>He)) ?_
  by_cases hc:v=[]/\u∉(zH ws R).map (·.1)
  ·rw[decide_eq_true hc.1,decide_eq_false hc.2]
   refine Sh (k:=0) (x:=t+u.length) (s:=tx u) (R:=qP) (es:=kD (zH ws R)) (ds:=kD (zH ws (R++[(⟨x.1,x.2,t⟩:Be)]))) rfl rfl (h.lm w) (λk=>hc.2 ((Vg ..).mp k)) (GN (qo (T:=qP t) rfl) (Dc (s:=tx u) (qo rfl) (zL (qu l1 (by decide))))) (qo rfl) (by rw[hst,if_pos hc];unfold kD;rw[jQ];rfl) ?_
   exact next _ rfl
  ·have eb:(decide (v=[])&&(!decide (u∈(zH ws R).map (·.1))&&qe))=qg:=by
    rw[aO]
    by_cases h1:v=[]
    ·rw[decide_eq_true (MQ λh2=>hc ⟨h1,h2⟩:u∈(zH ws R).map (·.1)),Bool.and_comm];rfl
    ·rw[decide_eq_false h1];rfl
   rw[eb]
   exact next (zH ws R) (by rw[hst,if_neg hc])
theorem lO (w:WO ws)(h:LI ws (x :: l) fu R):X (EL c ws a s q t (zH ws R) (x :: l) fu R o6 o7) [Y2,Wp,Zi,QF] (nx (stp c ws a s q t (wI ws t x l fu R))):=by
 have hx:=h.pl x (.head _)
 have lm:∀{k:Nat},k<=3->k<=qF:=λh=>zL (qu h (by decide))
 have l1:=L4 w.h3 hx.1
 have l2:=L4 w.h3 hx.2
 have rest:=uI (c:=c) (a:=a) (s:=s) (q:=q) (t:=t) w h
 refine LY (wg (R:=wr) (k:=0) (x:=x) (qo (T:=qv wr (x :: l)) rfl).list zD rfl) (K8 Zc rfl rfl) ?_ rfl
 refine zX (T:=qv wr l) (KB (qo (T:=qv wr (x :: l)) rfl).list (w4 (k:=1) zD (lm (by decide))) AY (Gp (x :: l) 1) (zL (qu h.old.ll (qu (F4 (F7 5 (h.len w)) _) (by decide))))) rfl ?_
 refine wH (b:=decide (x.1.length < x.2.length)) (J.test (J.to (Su (Dc (s:=tx x.1) (qo rfl) (lm l1)) (Dc (s:=tx x.2) (qo rfl) (lm l2))) (congrArg qO (decide_eq_decide.mpr wW))) rfl) ?_
 by_cases hl:x.1.length < x.2.length
 ·rw[decide_eq_true hl]
  rw[show qN ⟨x.1,x.2,t⟩=(x.2,x.1) from if_pos hl] at rest
  exact LY (N3 (Ts:=[qC x.2,qC x.1]) (qJ (qo rfl) (qJ (qo rfl) zG)) (lm (k:=2) (by decide))) (K8 YN rfl rfl) rest rfl
 ·rw[decide_eq_false hl]
  rw[show qN ⟨x.1,x.2,t⟩=(x.1,x.2) from if_neg hl] at rest
  exact rest
end
end
noncomputable section
open Mine.Internal.Sp
theorem eq_nil (q:α->β->Bool)(l:List α):wO q l []=decide (l=[]):=by cases l with | nil=>exact(decide_eq_true rfl).symm | cons=>exact(decide_eq_false (λh=>nomatch h)).symm
theorem UG {R:α->Ty}{e:E}{xs:List α}{q:α->α->Bool}(h:J c e (qv R xs))(hq:∀x y,vF 3 (R x) (R y) (q x y)):Jt c (.cmp .NotEq e (.list [])) (!decide (xs=[])) :=
 J.test (J.to (YT h (wJ (R:=R) (xs:=[]) zG (zN _)) (Fh hq)) (congrArg (λb=>qO (!b)) (eq_nil ..))) rfl
theorem Pg [Decidable p](h:(!decide p)=qg):p:=of_decide_eq_true (by cases q:decide p with | true=>rfl | false=>rw[q] at h;cases h)
theorem LJ (h:J c e (qP k))(hk:k<=qF):JI c (.call (.glob (.type "range")) [e] [] []) qP (zx k):=by
 have h2:rng 0 (k:Int)=(zx k).map λj:Nat=>(j:Int):=by
  have:=Lf 0 k
  rw[JT,<-Q8] at this
  exact this
 have h1:=(qcU h).rng (Int.le_refl 0) (Cj _) (Cj _) (FC hk).2
 rw[h2] at h1
 exact h1.un
theorem qf1 {e a b:E}{K:Co}{r:Bool}(h:Jt c e r)(k1:r=qe->Jn c a K)(k2:r=qg->Jn c b K):Jn c (.ite e a b) K:=λm σ s=>Dn.bnT (h m σ s) (λhr σ'=>k1 hr m σ') λhr σ'=>k2 hr m σ'
section
variable {B:Int->Option qf}{n:Nat}{ws:List Wd}{l fu fu1:List (Wd×Wd)}{R R1 S1:List Be}{t f g:Nat}{x:Wd×Wd}{c:C}{a s q:Nat}{r:List S}{P:Po}
theorem qa1:Bh ws t f [] fu R=qa (R,fu):=by cases f <;> rfl
theorem ZD:outer ws f (g+1) t (x :: l) R=match Bh ws t f (x :: l) [] R with
  | some p=>outer ws f g (t+1) p.2 p.1
  | none=>qb:=rfl
theorem qex:outer ws f g t [] R=qa R:=by cases g <;> rfl
theorem R8 (x y:Wd×Wd):vF (k+1) (wr x) (wr y) (wO (λa b=>ze (tx a) (tx b)) [x.1,x.2] [y.1,y.2]):=Fh λa b=>Eo
theorem qbT (w:WO ws)(hf:f < B8)(h:LI ws l fu R)(hl:Bh ws t f l fu R=qa (R1,fu1))(k:LI ws [] fu1 R1->X (stp c ws a s q t ([],fu1,R1)) r P):X (stp c ws a s q t (l,fu,R)) (X8 :: r) P :=
 Ip (ι:=(List (Wd×Wd)×List (Wd×Wd)×List Be)×Nat) (F:=λy=>(Zd ws a s q (zH ws y.1.2.2) y.1.2.1 y.1.2.2,X9 ws a s q t y.1.1 qb qb)) (I:=λy=>LI ws y.1.1 y.1.2.1 y.1.2.2/\Bh ws t y.2 y.1.1 y.1.2.1 y.1.2.2=qa (R1,fu1)) (μ:=λy=>y.2) (b:=λy=>!decide (y.1.1=[]))
  (λy _=>UG (qo rfl) R8) (λy hI hb=>by
   obtain⟨⟨l,fu,R⟩,f⟩:=y
   obtain⟨h,hl⟩:=hI
   cases l with
   | nil=>exact nomatch hb
   | cons x l=>cases f with
    | zero=>exact nn hl
    | succ f=>exact(lO w h).imp λfl m σ p=>⟨p.1,(wI ws t x l fu R,f),⟨h.step w,hl⟩,M0 f,p.2⟩) (λy hI hb=>by
   obtain⟨⟨l,fu,R⟩,f⟩:=y
   obtain⟨h,hl⟩:=hI
   obtain rfl:l=[]:=Pg hb
   rw[qa1] at hl
   cases hl
   exact k h) ((l,fu,R),f) ⟨h,hl⟩ hf
noncomputable def OE (ws:List Wd)(a s:Nat)(R:List Be):List (Nat×Co):=[(a,cD qP (kD (zH ws R))),(s,cS (R.map Cz))]
noncomputable def M5 (ws:List Wd)(a s t:Nat)(l:List (Wd×Wd)):List (Option Ty):=[qa (qv qC ws),qa (zo (.ref a)),qa (qv wr l),qa (zo (.ref s)),qa (qP t),qb,qb,qb]
theorem LI.next (h:LI ws [] fu R):LI ws fu [] R:=⟨h.pf,(λ_ h=>nomatch h),h.pR,h.nd,qu h.lf (qu (Nat.le_mul_of_pos_left _ (by decide)) (Rf ..)),zN _⟩
theorem xJ (w:WO ws)(hg:g < B8)(h:LI ws l [] R)(ho:outer ws 3000 g t l R=qa S1)(k:∀t,LI ws [] [] S1->X (c.w (OE ws a s S1,M5 ws a s t [])) r P):X (c.w (OE ws a s R,M5 ws a s t l)) (XM :: r) P :=
 Ip (ι:=List (Wd×Wd)×List Be×Nat×Nat) (F:=λy=>(OE ws a s y.2.1,M5 ws a s y.2.2.1 y.1)) (I:=λy=>LI ws y.1 [] y.2.1/\outer ws 3000 y.2.2.2 y.2.2.1 y.1 y.2.1=qa S1) (μ:=λy=>y.2.2.2) (b:=λy=>!decide (y.1=[]))
  (λy _=>UG (qo rfl) R8) (λy hI hb=>by
   obtain⟨l,R,t,g⟩:=y
   obtain⟨h,ho⟩:=hI
   cases l with
   | nil=>exact nomatch hb
   | cons x l=>cases g with
    | zero=>exact nn ho
    | succ g =>
     cases hlev:Bh ws t 3000 (x :: l) [] R with
     | none=>rw[ZD,hlev] at ho;exact nn ho
     | some p =>
      obtain⟨R1,fu1⟩:=p
      rw[ZD,hlev] at ho
      refine El (K:=cL wr []) (G2 (R:=wr) (xs:=[]) zG (zN _)) rfl λq=>?_
      refine qbT (c:=c) (q:=q) w (by decide) h hlev λh1=>?_
      refine zX (T:=zo (.ref q)) (qo rfl) rfl ?_
      refine Kt (i:=2) (k:=2) (q:=q) (R:=wr) (xs:=fu1) rfl rfl (zL (qu h1.lf (qu (h1.len w) (by decide)))) ?_
      refine zX (T:=qP (t+1)) (GN (qo (T:=qP t) rfl) zD) rfl ?_
      exact P5 λm σ s=>⟨rfl,(fu1,R1,t+1,g),⟨h1.next,ho⟩,M0 g,s.un 5⟩) (λy hI hb=>by
   obtain⟨l,R,t,g⟩:=y
   obtain⟨h,ho⟩:=hI
   obtain rfl:l=[]:=Pg hb
   rw[qex] at ho
   cases ho
   exact k t h) (l,R,t,g) ⟨h,ho⟩ hg
theorem any_nil (ws:List Wd):(ws.any λw=>ze (tx w) (tx []))=decide ([]∈ws):=by
 rw[k9,C0,decide_eq_true_eq]
 constructor
 ·rintro ⟨w,hw,q⟩;rw[Aw,decide_eq_true_eq] at q;exact q▸hw
 ·intro h;refine⟨[],h,by rw[Aw];exact decide_eq_true rfl⟩
theorem Wk (h5:ws.length<=5):(Ed ws).length<=25:=by
 have h1:=Vm (ws:=ws)
 rw[<-Wo,qH] at h1
 exact qu h1 (EG h5 h5)
theorem qbB (w:WO ws):LI ws (Ed ws) [] []:=⟨λy hy=>by
  obtain⟨i,hi,hy⟩:=kU.mp hy
  obtain⟨j,hj,rfl⟩:=qG.mp hy
  have hi:=jG.mp hi
  have hj:=jG.mp hj
  refine⟨⟨_,BB hi,J9 _⟩,_,BB (C7 hj hi),J9 _⟩,(λ_ h=>nomatch h),(λ_ h=>nomatch h),vy,qu (Wk w.h5) (by decide),zN _⟩
theorem gH (w:WO ws)(ho:outer ws 3000 3000 0 (Ed ws) []=qa S1):Fn (orc B (n+1)) 311 [qv qC ws] (At qP (kD (zH ws S1))):=Eg (n:=7) (dH · []) rfl (LB λ_=>rfl) λM s0=>by
 have lm5:∀{k:Nat},k<=5->k<=qF:=λh=>zL (qu h (by decide))
 have jt:Jt ⟨orc B n,M,s0,gN,[],[qa (qv qC ws),qb,qb,qb,qb,qb,qb,qb]⟩ (.cmp .In (.str ⟨#[]⟩) (.var 0)) (decide ([]∈ws)):=J.test (J.to (Ky (T:=qw (tx [])) (q:=λw=>ze (tx w) (tx [])) vJ (qo (T:=qv qC ws) rfl).list λw=>Eo).1 (congrArg qO (any_nil ws))) rfl
 refine El (K:=cD qP (kD (Dg ws))) (qf1 jt (λh m σ s=>?_) λh m σ s=>?_) rfl λa=>?_
 ·rw[show Dg ws=[([],0)] from if_pos (of_decide_eq_true h)]
  exact EM s ⟨[(tx [],.int 0)],rfl,rfl,.cons rfl .nil⟩
 ·rw[show Dg ws=[] from if_neg (of_decide_eq_false h)]
  exact EM s ⟨[],rfl,rfl,.nil⟩
 refine zX (T:=qv wr (Ed ws)) (qaj (i:=8) (u:=λi j=>(qI ws i,qI ws j)) (ys:=λi=>zx i) rfl (LJ (Mm (qo (T:=qv qC ws) rfl).list) (lm5 w.h5)) (zL (qu (Wk w.h5) (by decide))) (λi hi=>LJ (qo rfl) (lm5 (qu (va (jG.mp hi)) w.h5)))
  λi hi j hj=>wJ (R:=qC) (xs:=[qI ws i,qI ws j]) (qJ (wg (k:=i) (qo (T:=qv qC ws) rfl).list (qo rfl) (AN (jG.mp hi))) (qJ (wg (k:=j) (qo (T:=qv qC ws) rfl).list (qo rfl) (AN (C7 (jG.mp hj) (jG.mp hi)))) zG)) (lm5 (k:=2) (by decide))) rfl ?_
 refine El oW rfl λs=>?_
 refine zX (T:=qP 0) zD rfl ?_
 refine xJ (c:=⟨orc B n,M,s0,gN,[],[]⟩) (a:=a) (s:=s) (t:=0) w (by decide) (qbB w) ho λt h=>?_
 exact rC (i:=1) (k:=0) (q:=a) (R:=qP) (es:=kD (zH ws S1)) rfl rfl (h.lm w) (Em (qo rfl))
end
end
noncomputable section
open Mine.Internal.Sp
section
variable (cs:List Nat)
noncomputable def sg (l:List Nat):List Nat:=l.map λj=>cs.getD j 0
noncomputable abbrev Bv (e:Qe):Ty:=CQ [qP e.size,qC e.rest,qw (tx (sg cs e.ahead)),qw (tx (sg cs e.behind)),qP e.turned]
noncomputable def jD (e:Qe):qf:=if e.turned=1 then tx (up e.rest) else tx e.rest
noncomputable def kW (e:Qe):qf:=tx (sg cs e.ahead++32 :: sg cs e.behind)
noncomputable def zJ (e:Qe):qf×qf:=(jD e,kW cs e)
end
structure jV (B:Int->Option qf)(cs:List Nat)(wd:Nat->Wd):Prop where
 row:ku (cs.map wd)
 mean:∀c∈cs,EX B c (wd c)
 abc:∀w∈cs.map wd,∀c∈w,c∈abc
 len:∀c,(wd c).length<=3
 five:cs.length<=5
 sign:∀c∈cs,32 < c/\c≠127
theorem Ut:∀c∈abc,c < 123/\c≠32/\33<=c/\c≠127:=by decide
section
variable {B:Int->Option qf}{cs:List Nat}{wd:Nat->Wd}
theorem jV.wlen (g:jV B cs wd):∀w∈cs.map wd,w.length<=3:=λw hw=>by obtain⟨c,_,rfl⟩:=qG.mp hw;exact g.len c
theorem jV.w5 (g:jV B cs wd):(cs.map wd).length<=5:=by rw[qH];exact g.five
theorem jV.lt (g:jV B cs wd):∀w∈cs.map wd,∀c∈w,c < 123:=λw hw c hc=>(Ut c (g.abc w hw c hc)).1
theorem jV.no32 (g:jV B cs wd):∀w∈cs.map wd,32∉w:=λw hw hc=>(Ut 32 (g.abc w hw 32 hc)).2.1 rfl
theorem jV.rest (g:jV B cs wd)(h:∃w∈cs.map wd,r <:+ w):r∈kZ:=by
 obtain⟨w,hw,s⟩:=h
 exact qbx (λc hc=>g.abc w hw c (s.subset hc)) (qu s.length_le (g.wlen w hw))
structure kq (ws:List Wd)(f:Nat)(e:Qe):Prop where
 good:Cr ws e
 part:∃w∈ws,e.rest <:+ w
 turn:e.turned<=1
 la:e.ahead.length+f<=401
 lb:e.behind.length+f<=401
 ia:∀j∈e.ahead,j < ws.length
 ib:∀j∈e.behind,j < ws.length
theorem Ji (g:jV B cs wd)(h:∀j∈l,j < (cs.map wd).length):∀c∈sg cs l,c∈cs:=λc hc=>by
 obtain⟨j,hj,rfl⟩:=qG.mp hc
 have:=h j hj
 rw[qH] at this
 rw[BN,kh this]
 exact Q9 this
theorem uR (h:∀c∈l,32<=c/\c≠127)(hl:l.length<=1000000):kK (tx l)=qe:=by
 show ((tx l).cps.toList.all (λc=>RK 32 c&&!zQ c 127)&&small (tx l).length)=qe
 rw[jT,wS]
 refine⟨λc hc=>?_,decide_eq_true hl⟩
 obtain⟨h1,h2⟩:=h c hc
 rw[jT]
 refine⟨Nat.ble_eq_true_of_le h1,?_⟩
 cases q:zQ c 127 with
 | false=>rfl
 | true=>exact absurd (wn q) h2
theorem iF (g:jV B cs wd)(h:kq (cs.map wd) f e):kK (kW cs e)=qe:=by
 refine uR (λc hc=>?_) ?_
 ·rcases zT.mp hc with hc | hc
  ·have:=g.sign c (Ji g h.ia c hc);refine⟨va this.1,this.2⟩
  ·rcases jJ.mp hc with rfl | hc
   ·refine⟨qU _,by decide⟩
   ·have:=g.sign c (Ji g h.ib c hc);refine⟨va this.1,this.2⟩
 ·have h1:=h.la
  have h2:=h.lb
  rw[zw,vV,sg,sg,qH,qH]
  lia
noncomputable def Yp (w:Wd):Bool:=kK (tx w)&&kK (tx (up w))&&!jN (tx w).length&&!jN (tx (up w)).length
theorem qc7:kZ.all Yp=qe:=by decide +kernel
theorem A4 (h:w∈kZ):kK (tx w)=qe/\kK (tx (up w))=qe/\jN (tx w).length=qg/\jN (tx (up w)).length=qg:=by
 have:=wS.mp qc7 w h
 unfold Yp at this
 simp only[jT,F1] at this
 refine⟨this.1.1.1,this.1.1.2,this.1.2,this.2⟩
theorem DJ (h:e.rest∈kZ):zp (jD e)=tx e.rest:=by
 unfold jD
 split
 ·exact(Ep h).2.2.1
 ·exact(Ep h).1
theorem fM (h:e.rest∈kZ):kK (jD e)=qe:=by
 unfold jD
 split
 ·exact(A4 h).2.1
 ·exact(A4 h).1
variable {R:List Qe}{r:Wd}
theorem K4 (hR:∀e∈R,e.rest∈kZ)(hn:zp nm=tx r):(R.map (zJ cs)).find? (Bs nm)=(R.find? λe=>e.rest == r).map (zJ cs):=by
 induction R with
 | nil=>rfl
 | cons e R ih =>
  have he:=DJ (hR e zB)
  have hf:Bs nm (zJ cs e)=(e.rest == r):=by
   show ze (zp (jD e)) (zp nm)=_
   rw[he,hn,Aw,k9,decide_eq_true_eq,beq_iff_eq]
  rw[z7,AI,AI,hf,ih λx hx=>hR x (zI _ hx)]
  cases e.rest == r <;> rfl
theorem dF:(R.map λe=>(tx e.rest,e)).lookup (tx r)=R.find? λe=>e.rest == r:=by
 induction R with
 | nil=>rfl
 | cons e R ih =>
  rw[z7,Al,AI,ih]
  have:(tx r == tx e.rest)=(e.rest == r):=by
   rw[k9,beq_iff_eq,beq_iff_eq]
   refine⟨λh=>(Bp h).symm,λh=>by rw[h]⟩
  rw[this]
theorem qdG:((R.map λe=>(tx e.rest,e)).any λe=>e.1 == tx r)=decide (r∈R.map Qe.rest):=by
 rw[k9,decide_eq_true_eq,JQ,C0,qG]
 constructor
 ·rintro ⟨e,he,q⟩;refine⟨e,he,Bp (eq_of_beq q)⟩
 ·rintro ⟨e,he,rfl⟩;refine⟨e,he,beq_self_eq_true _⟩
theorem QO (h:r∉R.map Qe.rest):(R.find? λe=>e.rest == r)=qb:=by
 rw[b9]
 intro e he q
 exact h (qG.mpr ⟨e,he,eq_of_beq q⟩)
theorem Pq (h:r∈R.map Qe.rest):∃e∈R,(R.find? λe=>e.rest == r)=qa e/\e.rest=r:=by
 obtain⟨e,he,hr⟩:=qG.mp h
 cases q:R.find? λe=>e.rest == r with
 | none=>exact absurd (beq_iff_eq.mpr hr) (b9.mp q e he)
 | some e0=>refine⟨e0,cA q,rfl,(by have:=qhE q;exact eq_of_beq this)⟩
theorem UD (g:jV B cs wd)(hp:∀e∈R,∃w∈cs.map wd,e.rest <:+ w)(hn:(R.map Qe.rest).Nodup):R.length<=20:=by
 have h1:=Kg g.wlen
 have h2:=g.w5
 have h4:(R.map Qe.rest).length<=_:=Nu (u:=j9 (cs.map wd)) hn λy hy=>by
  obtain⟨e,he,rfl⟩:=qG.mp hy
  exact Gy.mpr (hp e he)
 rw[qH] at h4
 lia
end
end
noncomputable section
open Mine.Internal.Sp
theorem lm (h:n<=k)(hk:RK k 100000=qe:=by rfl):n<=qF:=zL (qu h (kJ hk))
theorem LM:2<=qF:=lm (qU 2)
section
variable {Q q R:List Qe}{x:Qe}{B:Int->Option qf}{cs:List Nat}{wd:Nat->Wd}
theorem kq.more {e:Qe}(h:kq ws f e)(hg:g<=f):kq ws g e:=⟨h.good,h.part,h.turn,qu (F4 hg _) h.la,qu (F4 hg _) h.lb,h.ia,h.ib⟩
theorem Xq {ws:List Wd}(h:∀i∈l,i < ws.length)(hj:j < ws.length):∀i∈l++[j],i < ws.length:=λi hi=>(zT.mp hi).elim (h i) λhi=>by rw[zE.mp hi];exact hj
theorem XC (h:l.length+(f+1)<=401):(l++[j]).length+f<=401:=by
 rw[zw,EA]
 show l.length+(1+f)<=401
 rw[Hu 1 f];exact h
noncomputable def IT (ws:List Wd)(x:Qe)(j:Nat):Qe:=⟨x.size - x.rest.length+(qI ws j).length,(qI ws j).drop x.rest.length,x.behind++[j],x.ahead,1 - x.turned⟩
noncomputable def Fz (x:Qe)(k j:Nat):Qe:=⟨x.size,x.rest.drop (k+1),x.ahead,x.behind++[j],x.turned⟩
noncomputable def kz (ws:List Wd)(i j:Nat):Qe:=⟨(qI ws j).length,(qI ws j).drop (qI ws i).length,[j],[i],0⟩
theorem U2 (zy:x.rest≠[]):ju ws x=((v3 ws x.rest 0).map (IT ws x))++(zx (x.rest.length - 1)).flatMap λk=>(wN ws (x.rest.take (k+1))).map (Fz x k):=if_neg zy
theorem kq.succ {f:Nat}{e e':Qe}(h:kq ws (f+1) e)(k:e'∈ju ws e):kq ws f e':=by
 have h1:=Va h.good k
 have h2:=W6 h.part k
 by_cases zy:e.rest=[]
 ·rw[show ju ws e=[] from if_pos zy] at k;cases k
 rw[U2 zy] at k
 rcases zT.mp k with k | k
 ·obtain⟨j,hj,rfl⟩:=qG.mp k
  refine⟨h1,h2,HF _ _,XC h.lb,Bf h.la,Xq h.ib (B1.mp hj).1,h.ia⟩
 ·obtain⟨i,_,k⟩:=kU.mp k
  obtain⟨j,hj,rfl⟩:=qG.mp k
  refine⟨h1,h2,h.turn,Bf h.la,XC h.lb,h.ia,Xq h.ib (Et.mp hj).1⟩
theorem qbv (a b c:Qe)(h1:decide (b.size < a.size)=qg)(h2:decide (c.size < b.size)=qg):decide (c.size < a.size)=qg :=
 decide_eq_false λh=>j7 _ (jH h (qu (Cm (of_decide_eq_false h1)) (Cm (of_decide_eq_false h2))))
theorem eP (h:jR Qe.size Q):Lk (λa b:Qe=>decide (a.size < b.size)) Q:=h.imp λh=>decide_eq_false (k8.mpr h)
theorem qcK (q l:List β)(x:β):zW size q (l++[x])=vY size x (zW size q l):=F3 ..
theorem WE (q l k:List β):zW size q (l++k)=zW size (zW size q l) k:=F3 ..
theorem Lp (h:zs++y :: ys=xs):zs.length < xs.length:=by
 rw[<-h,zw];exact Mt (DN _)
theorem Km (h:zs++y :: ys=xs):y∈xs:=h▸wV _ (.head _)
theorem IZ (h:j < (cs.map wd).length):cs[j]?=qa (cs.getD j 0):=by
 rw[qH] at h
 rw[BN,kh h];rfl
theorem IL (l:List Nat):(sg cs l).length=l.length:=qH ..
theorem kq.sz {x:Qe}(hx:kq ws k x):x.rest.length<=x.size:=by rw[hx.good.size,hx.good.text,zw];exact Rf ..
theorem uV (n:Nat):Ca 1 n=(zx n).map λk=>k+1:=by
 rw[qis];exact RT λk _=>Hu 1 k
theorem QE {e:Qe}(h:e∈BS ws):kq ws 400 e:=by
 have h1:=Uy h
 have h2:=Wz h
 unfold BS at h
 rcases zT.mp h with h | h
 ·obtain⟨j,hj,rfl⟩:=qG.mp h
  refine⟨h1,h2,zN _,qU _,DU 400,λi hi=>by rw[zE.mp hi];exact(Et.mp hj).1,λi hi=>nomatch hi⟩
 ·obtain⟨i,hi,h⟩:=kU.mp h
  obtain⟨j,hj,rfl⟩:=qG.mp h
  refine⟨h1,h2,zN _,qU _,qU _,λk hk=>by rw[zE.mp hk];exact(B1.mp hj).1,λk hk=>by rw[zE.mp hk];exact jG.mp hi⟩
theorem LC {R:List Qe}(g:jV B cs wd)(h:∀e∈R,kq (cs.map wd) k e):∀e∈R.map (zJ cs),jN (zp e.1).length=qg:=λe he=>by
 obtain⟨y,hy,rfl⟩:=qG.mp he
 have hr:=g.rest (h y hy).part
 exact(congrArg (λs:qf=>jN s.length) (DJ hr)).trans (A4 hr).2.2.1
theorem tI {R:List Qe}(hn:x.rest∉R.map Qe.rest):((R++[x]).find? λe=>e.rest == x.rest)=qa x:=by
 rw[bZ,QO hn,AI,beq_self_eq_true];rfl
theorem iX (h:l.Nodup)(k:a∉l):(l++[a]).Nodup:=BJ.mpr ⟨h,k7.mpr ⟨AH,vy⟩,λx hx b hb e=>k (by rw[<-zE.mp hb,<-e];exact hx)⟩
theorem Sx {a:α}{p:α->Prop}(h:∀e∈l,p e)(k:p a):∀e∈l++[a],p e:=λe he=>(zT.mp he).elim (h e) λhe=>(zE.mp he)▸k
noncomputable def wf (ws:List Wd)(x:Qe)(q R:List Qe):List Qe×List Qe:=if x.rest∈R.map Qe.rest then (q,R) else (zW Qe.size q (ju ws x),R++[x])
theorem OJ {ws:List Wd}:∀(k:Nat)(Q R R1:List Qe),jW Qe.rest Qe.size (ju ws) k Q R=qa R1->(∀e∈Q,kq ws k e)->(∀e∈R,kq ws 0 e)->∀e∈R1,kq ws 0 e
 | k,[],R,R1,h,_,h2=>zc (H3.symm.trans h)▸h2
 | 0,_ :: _,_,_,h,_,_=>nomatch h
 | k+1,x :: q,R,R1,h,h1,h2=>by
  have hx:=h1 x (.head _)
  have Kb:∀e∈q,kq ws k e:=λe he=>(h1 e (.tail _ he)).more (DU k)
  by_cases hin:x.rest∈R.map Qe.rest
  ·exact OJ k q R R1 ((if_pos hin).symm.trans (E7.symm.trans h)) Kb h2
  ·exact OJ k _ _ R1 ((if_neg hin).symm.trans (E7.symm.trans h)) (λe he=>(Dk.mp he).elim hx.succ (Kb e)) (Sx h2 (hx.more (zN _)))
theorem hY {R R1:List Qe}(h:jW Qe.rest Qe.size (ju ws) (k+1) (x :: q) R=qa R1):jW Qe.rest Qe.size (ju ws) k (wf ws x q R).1 (wf ws x q R).2=qa R1:=by
 unfold wf
 by_cases hin:x.rest∈R.map Qe.rest
 ·rw[if_pos hin];exact(if_pos hin).symm.trans (E7.symm.trans h)
 ·rw[if_neg hin];exact(if_neg hin).symm.trans (E7.symm.trans h)
theorem Pr:(∀e∈Bk ws,kq ws 400 e)/\(Bk ws).length<=ws.length/\jR Qe.size (Bk ws) :=
 ⟨λe he=>QE (kH _ he),by unfold Bk;rw[qH];exact Jz _,K5 (t:=0) λe he=>by obtain⟨i,_,rfl⟩:=qG.mp he;rfl⟩
theorem qbm (g:jV B cs wd):(zW Qe.size (Bk (cs.map wd)) (Jk (cs.map wd))).length<=30:=qu Sn (AL g.w5 (EG g.w5 g.w5))
theorem B4:∀(l:List Qe){Q:List Qe},jR Qe.size Q->jR Qe.size (zW Qe.size Q l)
 | [],_,h=>h
 | x :: l,_,h=>B4 l (Oe h)
theorem qau (g:jV B cs wd)(hp:∃w∈cs.map wd,x.rest <:+ w)(hl:q.length+1<=30+15 * R.length):(wf (cs.map wd) x q R).1.length<=30+15 * (wf (cs.map wd) x q R).2.length:=by
 unfold wf
 by_cases hin:x.rest∈R.map Qe.rest
 ·rw[if_pos hin];exact Bf hl
 ·rw[if_neg hin,E6,zw]
  have h3:=qu (SJ g.wlen hp) (DV 3 g.w5)
  show q.length+(ju (cs.map wd) x).length<=30+(15 * R.length+15)
  rw[<-EA]
  exact AL (Bf hl) h3
end
section
variable {c c':C}{α:Type}{R:α->Ty}{xs ys:List α}{x:α}{i k q:Nat}{e:E}{r:List S}{P:Po}{lt:α->α->Bool}{kvf:α->V}{O1 O2:qE}
theorem QC (hev:∀m σ,evs c.O kv m σ=qa (kvs,σ))(ha:∀v,IA q v (kn.zip kvs) key)(hO:∀args kw σ,c.O.fn 47 args kw σ=zP EO O1 args kw σ)(hO1:∀args kw σ,O1.fn 56 args kw σ=zP Bg O2 args kw σ)
  (hi:qy c.Γ i=qa (qa (zo (.ref q)))) (hk:qy c.H k=qa (q,cL R xs)) (h:J c e (R x)) (hl:xs.length<=1000)
  (BH:(key=.none/\∀M σ y w,(R y).p (fz M σ) w->w=kvf y)\/((∃a,key=.val (.ref a))/\(∀M σ y w,(R y).p (fz M σ) w->apply O2 key [w] [] σ=qa (kvf y,σ))/\∀M σ w,(R x).p (fz M σ) w->apply O1 key [w] [] σ=qa (kvf x,σ)))
  (qQ:∀y z,Do (kvf y) (kvf z)=qa (lt y z)) (tr:∀a b c,lt b a=qg->lt c b=qg->lt c a=qg) (hrow:Lk lt xs) (he:wM lt x xs=ys) (kk:X (c.tn k q (cL R ys)) r P):X c (.expr (.call (.glob (.ref 47)) [.var i,e] kn kv) :: r) P:=Id (λm σ s=>by
 subst he
 obtain⟨v,hv,rfl⟩:=s.mt i _ hi
 obtain⟨w,qM,e1,s1,p,g⟩:=h m σ s
 obtain⟨u,h1,vs,rfl,f⟩:=s1.hp _ (C8 hk)
 obtain⟨qW,r1,r2⟩:=xF (M:=c.N) (kv:=kvf) hO1 (ha w) h1 hl f p (BH.imp (λh=>⟨h.1,λy w=>h.2 _ _ y w⟩) λh=>⟨h.1,λy w=>h.2.1 _ _ y w,h.2.2 _ _ w p⟩) qQ tr hrow
 refine⟨.none,_,(DA CA (z4 (qX hv) (z4 e1 zF)) (hev m qM)).trans ((hO ..).trans r1),s1.turn hk ⟨qW,rfl,r2⟩⟩) kk rfl
theorem gR (p:Fa zo f T us):us=T:=by
 induction p with
 | nil=>rfl
 | cons h _ ih=>exact List.cons_eq_cons.mpr ⟨h,ih⟩
theorem oQ {cs:List Nat}{e:Qe}{v:V}(h:(Bv cs e).p (fz N τ) v):∃i,v=.ref i/\τ[i]?=qa (.tuple [.int (e.size:Nat),.str (tx e.rest),.str (tx (sg cs e.ahead)),.str (tx (sg cs e.behind)),.int (e.turned:Nat)]):=by
 obtain⟨_,i,us,rfl,h1,h2⟩:=h
 refine⟨i,rfl,(fz_get h1).1.trans (congrArg (λl=>qa (AObj.tuple l)) (gR (Fa.unmap (xs:=[.int (e.size:Nat),.str (tx e.rest),.str (tx (sg cs e.ahead)),.str (tx (sg cs e.behind)),.int (e.turned:Nat)]) (u:=zo) h2)))⟩
theorem Td {cs:List Nat}{k:Nat}{e:Qe}{v:V}(h:(Bv cs e).p (fz N τ) v):apply (orc B (k+1)) (.val (.ref 294)) [v] [] τ=qa (.int (e.size:Nat),τ):=by
 obtain⟨i,rfl,hi⟩:=oQ h
 exact qeV hi (jH (M0 4) (kJ rfl))
theorem Oi {cs:List Nat}{Q Q':List Qe}{x:Qe}(hO:c.O=orc B (n+4))(hi:qy c.Γ i=qa (qa (zo (.ref q))))(hk:qy c.H k=qa (q,cL (Bv cs) Q))(h:J c e (Bv cs x))(hl:Q.length<=1000)(hs:jR Qe.size Q)(he:vY Qe.size x Q=Q')(kk:X (c.tn k q (cL (Bv cs) Q')) r P):X c (.expr (.call (.glob (.ref 47)) [.var i,e] [ky] [.glob (.ref 294)]) :: r) P :=
 QC (O1:=orc B (n+3)) (O2:=orc B (n+2)) (key:=.val (.ref 294)) (kvs:=[.val (.ref 294)]) (kvf:=λe:Qe=>V.int (e.size:Nat)) (lt:=λa b:Qe=>decide (a.size < b.size)) (λm σ=>rfl) (λv=>.keyed _) (λargs kw σ=>by rw[hO];exact QJ args kw σ) Dh hi hk h hl
  (.inr ⟨⟨294,rfl⟩,λM σ y w hw=>Td hw,λM σ w hw=>Td hw⟩) (λy z=>congrArg qa (decide_eq_decide.mpr wW)) qbv (eP hs) ((TD ..).trans he) kk
noncomputable def I9 (h:Nat):Ty where
 p f v:=∃t d,v=.ref t/\f t=qa (.inst 269 d)/\f d=qa (.ns [(jB,.ref h)])
 mono hle:=by rintro ⟨t,d,rfl,a,b⟩;refine⟨t,d,rfl,hle _ _ a,hle _ _ b⟩
theorem qf0 (hO:c.O=orc B (n+2))(hi:z3 i c.Γ.length=qe)(kk:∀h,X { c with H:=c.H++[(h,cL jC [])],Γ:=c.Γ.set i (qa (I9 h)) } r P):X c (.assign (.var i) (.call (.glob (.ref 269)) [] [] []) :: r) P:=λm σ s=>by
 have key:∀τ,Gr σ τ->c.vw τ (σ.length+1)=qa (.inst 269 σ.length)->c.vw τ σ.length=qa (.ns [(jB,.ref τ.length)])->ev c.O (.call (.glob (.ref 269)) [] [] []) m σ=qa (.ref (σ.length+1),τ++[.list []])->XD P (exs c.O (.assign (.var i) (.call (.glob (.ref 269)) [] [] []) :: r) m σ):=λτ g f1 f2 e1=>by
  have t:=s.grow g
  refine Db (vK e1 (s.ln▸kE.mp hi)) (kk τ.length _ _ (t.other (K:=cL jC []) (o:=.list []) ⟨[],rfl,.nil⟩ (λe he=>(zT.mp he).elim .inl λh=>.inr (zE.mp h)) ?_ ((wo ..).trans (s.ln.trans (wo ..).symm)) λj U h=>?_))
  ·rw[jQ]
   exact BJ.mpr ⟨t.nd,k7.mpr ⟨AH,vy⟩,λa ha b hb e=>O0 t (show τ.length∈_ from (e.trans (zE.mp hb):a=τ.length)▸ha)⟩
  ·rw[Fk] at h
   rw[Gl]
   by_cases e:i=j
   ·rw[if_pos e,if_pos (kE.mp hi)] at h
    rw[if_pos e,if_pos (s.ln▸kE.mp hi)]
    exact .inl ⟨_,rfl,zc (zc h)▸⟨_,_,rfl,f1,f2⟩⟩
   ·rw[if_neg e] at h ⊢;exact .inl (t.mt j U h)
 have not:∀{j},σ.length<=j->j∉c.N:=λh hn=>j7 _ (AK h (s.bd _ hn))
 have hl:(σ++[AObj.ns [(jB,.ref (σ.length+2))],.inst 269 σ.length]).length=σ.length+2:=zw
 refine key (σ++[.ns [(jB,.ref (σ.length+2))],.inst 269 σ.length]) ⟨_,rfl⟩ (fz_of ?_ (not (DU _))) (fz_of ?_ (not (qU _))) ((DA CA zF zF).trans ?_)
 ·rw[J4 (DU _),qia (qU _),HP];rfl
 ·rw[J4 (qU _),HP,hl];rfl
 ·show c.O.fn 269 [] [] σ=_
  rw[hO,tM (n:=n),jq];rfl
theorem Xl {es ds:List (qf×qf)}{nm val:qf}{K:Nat}(hO:c.O=orc B (n+4))(ha:J c a (I9 h))(hb:J c b (qw nm))(hd:J c d (qw val))(hk:qy c.H K=qa (h,cL jC es))(hl:es.length<=qF)(hc:kK (zp nm)=qe)(jh:jN (zp nm).length=qg)(hall:∀e∈es,jN (zp e.1).length=qg)(he:es++[(nm,val)]=ds)(m:qx)(σ:qi)(s:St c m σ) :
  (∀e,es.find? (Bs nm)=qa e->∃σ',ev c.O (.meth a Jr [b,d] [] []) m σ=qa (.str e.2,σ')/\St c m σ') /\
  (es.find? (Bs nm)=qb->kK nm=qe->kK val=qe->∃σ',ev c.O (.meth a Jr [b,d] [] []) m σ=qa (.str val,σ')/\St (c.tn K h (cL jC ds)) m σ'):=by
 subst he
 obtain⟨v,qM,e1,s1,p,g1⟩:=ha m σ s
 obtain⟨t,dd,rfl,k1,k2⟩:=p
 obtain⟨vs,zZ,e2,s2,p2,g2⟩:=Kv hb hd m qM s1
 obtain rfl:vs=[.str nm,.str val]:=p2
 obtain⟨u,q1,us,rfl,f⟩:=s2.hp _ (C8 hk)
 have k1':=fz_get (c.le g2 _ _ k1)
 have k2':=fz_get (c.le g2 _ _ k2)
 have bk:Gf c.N zZ t dd h es us:=⟨k1'.1,k2'.1,q1,f,hl⟩
 have ev0:=Ag (nm:=Jr) (kn:=[]) e1 (FJ (by rw[hO];exact qbC) (Fu rfl) (fz_get k1).1 (fz_get k2).1) e2 zF
 have hin:=OW (C8 hk)
 refine⟨λe he=>⟨_,ev0.trans (by show c.O.fn 259 _ _ _=_;rw[hO];exact pV (n:=n) (val:=val) bk hc jh hall he),s2⟩,λhn h1 h2=>⟨_,ev0.trans (by show c.O.fn 259 _ _ _=_;rw[hO];exact xG (n:=n) bk (λe=>k1'.2 (e▸hin)) (λe=>k2'.2 (e▸hin)) hc jh hall hn h1 h2),(s2.grow (Gr.new ..)).turn hk ⟨_,rfl,(f.mono (c.le (Gr.new ..))).app (.cons ⟨LM,_,_,rfl,s2.new _,.cons rfl (.cons rfl .nil)⟩ .nil)⟩⟩⟩
theorem YH (h1:∀m σ,St c m σ->∃σ',ev c.O a m σ=qa (.str val,σ')/\St c' m σ')(hO:c'.O=c.O)(h2:J c' b (qw val))(hi:qy c.Γ i=qa (qa (zo (.ref q))))(hk:qy c.H k=qa (q,cL qO bs))(hk':qy c'.H k=qa (q,cL qO bs))(hl:bs.length<=qF)(he:bs++[qe]=ds)(kk:X (c'.tn k q (cL qO ds)) r P) :
  X c (.expr (.meth (.var i) DH [.cmp .Eq a b] [] []) :: r) P:=Id (λm σ s=>by
 obtain⟨v,hv,rfl⟩:=s.mt i _ hi
 obtain⟨u,q1,us,rfl,f⟩:=s.hp _ (C8 hk)
 obtain⟨qM,e1,s1⟩:=h1 m σ s
 obtain⟨w,zZ,e2,s2,rfl,g⟩:=h2 m qM s1
 obtain⟨u',q2,us',rfl,f'⟩:=s2.hp _ (C8 hk')
 have e2:ev c.O b m qM=qa (V.str val,zZ):=by rw[<-hO];exact e2
 have e3:=kV (O:=c.O) (op:=.Eq) (r:=qe) e1 e2 (congrArg (λb=>qa b) (show ze val val=qe by rw[wZ,beq_self_eq_true]))
 refine⟨.none,_,(Ag (qX hv) (Io q1 P6) (z4 e3 zF) zF).trans ((vQ q2).trans ((if_pos (Br f' hl)).trans (by rw[A3]))),s2.turn hk' ⟨_,rfl,he▸f'.app (.cons rfl .nil)⟩⟩) kk (by exact hO)
end
end
noncomputable section
open Mine.Internal.Sp
structure Sk where
 B:Int->Option qf
 n:Nat
 cs:List Nat
 wd:Nat->Wd
 g:jV B cs wd
 h:Nat
 f:Nat
 k:Nat
structure Rq where
 R:List Qe
 n:Nat
noncomputable abbrev Sk.ws (z:Sk):List Wd:=z.cs.map z.wd
noncomputable def Sk.H (z:Sk)(r:Rq)(q:Nat)(Q:List Qe):List (Nat×Co):=[(z.h,cL jC (r.R.map (zJ z.cs))),(z.f,cD (λe=>jC (zJ z.cs e)) (r.R.map λe=>(tx e.rest,e))),(z.k,cL qO (zS r.n qe)),(q,cL (Bv z.cs) Q)]
noncomputable def Sk.Γ (z:Sk)(q:Nat)(o5 o7:Option Ty)(l:List (Option Ty)):List (Option Ty):=qa (qv z9 z.cs) :: qa (qv qC z.ws) :: qa (I9 z.h) :: qa (zo (.ref z.f)) :: qa (zo (.ref z.k)) :: o5 :: qa (zo (.ref q)) :: o7 :: l
noncomputable def Cx:List (Option Ty):=[qb,qb,qb,qb,qb,qb,qb,qb,qb,qb]
noncomputable def Sk.X (z:Sk)(x:Qe)(l:List (Option Ty)):List (Option Ty):=qa (qP x.size) :: qa (qC x.rest) :: qa (qw (tx (sg z.cs x.ahead))) :: qa (qw (tx (sg z.cs x.behind))) :: qa (qP x.turned) :: l
section
variable {z:Sk}{c:C}{r:Rq}{q:Nat}{Q:List Qe}{x:Qe}{rs body:List S}{P:Po}{o5 o7:Option Ty}{l:List (Option Ty)}
theorem Qh (hj:JI (c.w (z.H r q Q,z.Γ q o5 qb l)) it qP js)(hl:Q.length+js.length<=1000)(hs:jR Qe.size Q)
  (step:∀g j Q',j∈js->Q'.length<=1000->jR Qe.size Q'->X ((c.w (z.H r q Q',z.Γ q o5 (qa (qP j)) l)).hold g) body (nx ((c.w (z.H r q (vY Qe.size (mk j) Q'),z.Γ q o5 qb l)).hold g)))
  (k:X (c.w (z.H r q (zW Qe.size Q (js.map mk)),z.Γ q o5 qb l)) rs P):X (c.w (z.H r q Q,z.Γ q o5 qb l)) (.for_ (.var 7) it body :: rs) P :=
 Go (F:=λzs=>(z.H r q (zW Qe.size Q (zs.map mk)),z.Γ q o5 qb l)) hj (λ_=>rfl) (λg zs y ys hz=>by
  rw[jQ,show zW Qe.size Q (zs.map mk++[y].map mk)=vY Qe.size (mk y) (zW Qe.size Q (zs.map mk)) from qcK ..]
  exact step g y _ (Km hz) (by rw[E6,qH];exact qu (F4 (va (Lp hz)) _) hl) (B4 _ hs)) k
theorem Sk.w3 (z:Sk)(h:j < z.ws.length):(qI z.ws j).length<=3:=z.g.wlen _ (BB h)
theorem m3 (h:n<=3):n<=qF:=lm h
structure Fr (z:Sk)(c:C):Prop where
 row:qy c.Γ 0=qa (qa (qv z9 z.cs))
 folds:qy c.Γ 1=qa (qa (qv qC z.ws))
variable {c':C}
theorem Fr.word (h:Fr z c')(hi:qy c'.Γ i=qa (qa (qP j)))(hj:j < z.ws.length):J c' (.idx (.var 1) (.var i)) (qC (qI z.ws j)):=wg (R:=qC) (qo h.folds).list (qo hi) (AN hj)
theorem Fr.len (h:Fr z c')(hi:qy c'.Γ i=qa (qa (qP j)))(hj:j < z.ws.length):J c' (.call (.glob (.builtin "len")) [.idx (.var 1) (.var i)] [] []) (qP (qI z.ws j).length):=Dc (h.word hi hj) (m3 (z.w3 hj))
theorem Fr.sign (h:Fr z c')(hi:qy c'.Γ i=qa (qa (qP j)))(hj:j < z.ws.length):J c' (.idx (.var 0) (.var i)) (qw (tx (sg z.cs [j]))):=wg (R:=z9) (qo h.row).list (qo hi) (IZ hj)
theorem Fr.more (h:Fr z c'){l:List Nat}(hk:qy c'.Γ k=qa (qa (qw (tx (sg z.cs l)))))(hi:qy c'.Γ i=qa (qa (qP j)))(hj:j < z.ws.length)(hl:l.length<=401):J c' (.bin .Add (.var k) (.idx (.var 0) (.var i))) (qw (tx (sg z.cs (l++[j])))) :=
 J.to (D9 (qo hk) (h.sign hi hj) (by
  show (sg z.cs l).length+1<=1000000
  rw[IL];exact qu (Ao hl) (kJ rfl))) (congrArg qw (by rw[Cw];unfold sg;rw[jQ]))
theorem Fr.begun (h:Fr z c')(hO:c'.O=orc z.B (z.n+4)){w:Wd}{lo:Nat}(j1:J c' e1 (qC w))(j2:J c' e2 (qP lo))(hw:w.length<=3)(hlo:lo<=z.ws.length):JI c' (.call (.glob (.ref 301)) [.var 1,e1,e2] [] []) qP (v3 z.ws w lo) :=
 (ve (by rw[hO];exact tV z.g.row z.g.lt (qu z.g.w5 (kJ rfl)) hlo (qu hw (kJ rfl))) (qJ (qo h.folds) (qJ j1 (qJ j2 zG)))).iter
theorem Fr.same (h:Fr z c')(hO:c'.O=orc z.B (z.n+4))(j:J c' e (qC y)):JI c' (.call (.glob (.type "range")) [.call (.glob (.ref 65)) [.var 1,e] [] [],.call (.glob (.ref 56)) [.var 1,e] [] []] [] []) qP (wN z.ws y):=by
 have i1:=FC (lm (qu (GM z.ws y z.g.row) z.g.w5))
 have i2:=FC (lm (qu (G5 z.ws y z.g.row) z.g.w5))
 have:=(Mj (ve (Pe (O:=c'.O) (ws:=z.ws) (x:=y) λargs kw σ=>by rw[hO];exact DI args kw σ) (qJ (qo h.folds) (qJ j zG))) (ve (Xi (O:=c'.O) (ws:=z.ws) (x:=y) λargs kw σ=>by rw[hO];exact Dh args kw σ) (qJ (qo h.folds) (qJ j zG)))).rng i1.1 i1.2 i2.1 i2.2
 rw[Lf,Sj z.g.row] at this
 exact this.un
theorem Oh {C:C}{a b:E}(ja:J C a (qC w))(jb:J C b (qP k))(hw:w.length<=3)(hk:k<=3):J C (.slice a b .none .none) (qC (w.drop k)):=Dd ja (w4 jb (m3 hk)) AY (m3 hw) (Gp w k)
theorem Ke {C:C}(ja:J C a A)(jb:J C b B)(jd:J C d D)(je:J C e E')(jf:J C f F):J C (.tuple [a,b,d,e,f]) (CQ [A,B,D,E',F]):=N3 (qJ ja (qJ jb (qJ jd (qJ je (qJ jf zG))))) (lm (qU 5))
theorem Vl {C:C}(ja:J C a (qP p))(jb:J C b (qP q))(h:q<=p):J C (.bin .Sub a b) (qP (p - q)):=J.to (Jd ja jb) (congrArg zb (cY h).symm)
theorem V1 {C:C}(ja:J C a (qP p))(jb:J C b (qP q)):J C (.bin .Add a b) (qP (p+q)):=GN ja jb
theorem qb5 (hO:c.O=orc z.B (z.n+4)){kk:Nat}(hx:kq z.ws kk x)(hl:Q.length<=990)(hs:jR Qe.size Q)
  (k:X (c.w (z.H r q (zW Qe.size Q ((v3 z.ws x.rest 0).map (IT z.ws x))),z.Γ q o5 qb (z.X x [qb,qb,qb,qb,qb]))) rs P):X (c.w (z.H r q Q,z.Γ q o5 qb (z.X x [qb,qb,qb,qb,qb]))) (Wc :: rs) P:=by
 have h3:=Je z.g.wlen hx.part
 refine Qh (mk:=IT z.ws x) (Fr.begun (z:=z) ⟨rfl,rfl⟩ (by exact hO) (lo:=0) (qo rfl) zD h3 (zN _)) (qu (AL hl (qu (Gv _ _) z.g.w5)) (by decide)) hs (λg j Q' hj hq hs'=>?_) k
 have hjl:=(B1.mp hj).1
 refine zX (T:=qP (IT z.ws x j).size) (V1 (Vl (qo rfl) (Dc (s:=tx x.rest) (qo rfl) (m3 h3)) hx.sz) (Fr.len (z:=z) ⟨rfl,rfl⟩ rfl hjl)) rfl ?_
 refine Oi (k:=3) (x:=IT z.ws x j) (Q:=Q') (B:=z.B) (n:=z.n) hO rfl rfl (Ke (qo rfl) (Oh (Fr.word (z:=z) ⟨rfl,rfl⟩ rfl hjl) (Dc (s:=tx x.rest) (qo rfl) (m3 h3)) (z.w3 hjl) h3) (Fr.more (z:=z) ⟨rfl,rfl⟩ rfl rfl hjl (qu (Ba ..) hx.lb)) (qo rfl) (Vl (p:=1) zD (qo rfl) hx.turn)) hq hs' rfl ?_
 exact CM λm σ s=>(s.un 7).un 16
end
end
noncomputable section
open Mine.Internal.Sp
section
variable {z:Sk}{c:C}{r:Rq}{q:Nat}{Q:List Qe}{x:Qe}{rs body:List S}{P:Po}{o5 o7:Option Ty}{l:List (Option Ty)}
theorem V7 {y:Nat}{F:Nat->List Qe}(hz:zs++y :: ys=is)(hl:is.length<=5)(hF:∀k,(F k).length<=5)(hq:Q.length<=800):(zW Qe.size Q (zs.flatMap F)).length<=825:=by
 rw[E6]
 exact AL hq (qu (Ee λa _=>hF a) (DV 5 (qu (va (Lp hz)) hl)))
theorem ZJ (zs:List Nat)(y:Nat):zW Qe.size Q ((zs++[y]).flatMap F)=zW Qe.size (zW Qe.size Q (zs.flatMap F)) (F y):=by
 rw[List.flatMap_append,M1,List.flatMap_nil,jF,WE]
theorem qbu (hO:c.O=orc z.B (z.n+4))(hx:kq z.ws kk x)(hl:Q.length<=800)(hs:jR Qe.size Q)
  (k:X (c.w (z.H r q (zW Qe.size Q ((zx (x.rest.length - 1)).flatMap λk=>(wN z.ws (x.rest.take (k+1))).map (Fz x k))),z.Γ q o5 qb (z.X x [qb,qb,qb,qb,qb]))) rs P):X (c.w (z.H r q Q,z.Γ q o5 qb (z.X x [qb,qb,qb,qb,qb]))) (Tf :: rs) P:=by
 have h3:=Je z.g.wlen hx.part
 refine Go (R:=λk:Nat=>qP (k+1)) (xs:=zx (x.rest.length - 1)) (F:=λzs=>(z.H r q (zW Qe.size Q (zs.flatMap λk=>(wN z.ws (x.rest.take (k+1))).map (Fz x k))),z.Γ q o5 qb (z.X x [qb,qb,qb,qb,qb]))) ?_ (λ_=>rfl) (λg zs y ys hz=>?_) k
 ·have i1:=FC (lm (qU 1))
  have i2:=FC (m3 h3)
  have:=(Mj (c:=c.w (z.H r q Q,z.Γ q o5 qb (z.X x [qb,qb,qb,qb,qb]))) (a:=.int 1) (zD (i:=((1:Nat):Int))) (Dc (s:=tx x.rest) (a:=.var 9) (qo rfl) (m3 h3))).rng i1.1 i1.2 i2.1 i2.2
  rw[show rng ((1:Nat):Int) ((tx x.rest).length:Nat)=_ from Lf 1 (tx x.rest).length,uV] at this
  exact this.un.un
 ·rw[ZJ]
  have hy3:y+1<=3:=qu (jH (jG.mp (Km hz)) (HF _ _)) h3
  have hq:=V7 (F:=λk=>(wN z.ws (x.rest.take (k+1))).map (Fz x k)) hz (by rw[Ck];exact qu (HF _ _) (qu h3 (by decide))) (λk=>by rw[qH];exact qu (Jz _) z.g.w5) hl
  refine Qh (c:=c.hold g) (r:=r) (q:=q) (Q:=zW Qe.size Q (zs.flatMap λk=>(wN z.ws (x.rest.take (k+1))).map (Fz x k))) (o5:=o5) (l:=z.X x [qb,qb,qb,qb,qa (qP (y+1))]) (mk:=Fz x y) (Fr.same (z:=z) ⟨rfl,rfl⟩ (by exact hO) (Dd (qo (T:=qC x.rest) rfl) AY (w4 (k:=y+1) (qo rfl) (m3 hy3)) (m3 h3) (Il _ _))) (qu (AL hq (qu (Jz _) z.g.w5)) (by decide)) (B4 _ hs) (λg' j Q' hj hq hs'=>?_) ?_
  ·have hjl:=(Et.mp hj).1
   refine Oi (k:=3) (x:=Fz x y j) (Q:=Q') (B:=z.B) (n:=z.n) hO rfl rfl (Ke (qo rfl) (Oh (qo rfl) (qo rfl) h3 hy3) (qo rfl) (Fr.more (z:=z) ⟨rfl,rfl⟩ rfl rfl hjl (qu (Ba ..) hx.lb)) (qo rfl)) hq hs' rfl ?_
   exact CM λm σ s=>s.un 7
  ·exact CM λm σ s=>s.un 17
theorem tT (hO:c.O=orc z.B (z.n+4))(hl:Q.length<=800)(hs:jR Qe.size Q)(k:X (c.w (z.H r q (zW Qe.size Q (Jk z.ws)),z.Γ q qb qb Cx)) rs P):X (c.w (z.H r q Q,z.Γ q qb qb Cx)) (Wt :: rs) P:=by
 have jh:z.ws.length=z.cs.length:=qH ..
 refine Go (R:=qP) (xs:=zx z.ws.length) (F:=λzs=>(z.H r q (zW Qe.size Q (zs.flatMap λi=>(v3 z.ws (qI z.ws i) (i+1)).map (kz z.ws i))),z.Γ q qb qb Cx)) ?_ (λ_=>rfl) (λg zs y ys hz=>?_) k
 ·rw[jh];exact LJ (Mm (qo (T:=qv z9 z.cs) rfl).list) (lm z.g.five)
 ·rw[ZJ]
  have hyl:=jG.mp (Km hz)
  have hq:=V7 (F:=λi=>(v3 z.ws (qI z.ws i) (i+1)).map (kz z.ws i)) hz (by rw[Ck];exact z.g.w5) (λk=>by rw[qH];exact qu (Gv _ _) z.g.w5) hl
  refine Qh (c:=c.hold g) (r:=r) (q:=q) (Q:=zW Qe.size Q (zs.flatMap λi=>(v3 z.ws (qI z.ws i) (i+1)).map (kz z.ws i))) (o5:=qa (qP y)) (l:=Cx) (mk:=kz z.ws y) (Fr.begun (z:=z) ⟨rfl,rfl⟩ (by exact hO) (lo:=y+1) (Fr.word (z:=z) ⟨rfl,rfl⟩ rfl hyl) (V1 (q:=1) (qo rfl) zD) (z.w3 hyl) hyl) (qu (AL hq (qu (Gv _ _) z.g.w5)) (by decide)) (B4 _ hs) (λg' j Q' hj hq hs'=>?_) ?_
  ·have hjl:=(B1.mp hj).1
   refine Oi (k:=3) (x:=kz z.ws y j) (Q:=Q') (B:=z.B) (n:=z.n) hO rfl rfl (Ke (Fr.len (z:=z) ⟨rfl,rfl⟩ rfl hjl) (Oh (Fr.word (z:=z) ⟨rfl,rfl⟩ rfl hjl) (Fr.len (z:=z) ⟨rfl,rfl⟩ rfl hyl) (z.w3 hjl) (z.w3 hyl)) (Fr.sign (z:=z) ⟨rfl,rfl⟩ rfl hjl) (Fr.sign (z:=z) ⟨rfl,rfl⟩ rfl hyl) zD) hq hs' rfl ?_
   exact CM λm σ s=>s.un 7
  ·exact CM λm σ s=>s.un 5
end
end
noncomputable section
open Mine.Internal.Sp
structure SI (ws:List Wd)(Q R:List Qe)(n k:Nat):Prop where
 okQ:∀e∈Q,kq ws k e
 okR:∀e∈R,kq ws 0 e
 nd:(R.map Qe.rest).Nodup
 srt:jR Qe.size Q
 kf:n+k<=401
theorem SI.step (h:SI ws (x :: Q) R n (k+1)):SI ws (wf ws x Q R).1 (wf ws x Q R).2 (n+1) k:=by
 have kf:n+1+k<=401:=by rw[EA,Hu 1];exact h.kf
 have Kb:∀e∈Q,kq ws k e:=λe he=>(h.okQ e (.tail _ he)).more (DU k)
 have hx:=h.okQ x (.head _)
 have hs:=(wq.mp h.srt).2
 unfold wf
 by_cases hin:x.rest∈R.map Qe.rest
 ·rw[if_pos hin];refine⟨Kb,h.okR,h.nd,hs,kf⟩
 ·rw[if_neg hin]
  refine⟨λe he=>(Dk.mp he).elim hx.succ (Kb e),Sx h.okR (hx.more (zN _)),by rw[jQ];exact iX h.nd hin,B4 _ hs,kf⟩
section
variable {z:Sk}{c:C}{R:List Qe}{n k q:Nat}{Q:List Qe}{x:Qe}{rs body:List S}{P:Po}
theorem SI.fit (h:SI z.ws Q R n k):R.length<=20:=UD z.g (λe he=>(h.okR e he).part) h.nd
theorem Sk.nm (z:Sk)(h:kq z.ws k x):zp (jD x)=tx x.rest/\kK (zp (jD x))=qe/\jN (zp (jD x)).length=qg/\kK (jD x)=qe:=by
 have hr:=z.g.rest h.part
 have e:=DJ hr
 rw[e]
 refine⟨rfl,(A4 hr).1,(A4 hr).2.2.1,fM hr⟩
noncomputable def LL (c:C)(z:Sk)(R:List Qe)(n:Nat)(Q:List Qe):Po:=λfl m σ=>fl=.next/\∃q,St (c.w (z.H ⟨R,n⟩ q Q,z.Γ q qb qb Cx)) m σ
theorem Jp:X (c.w (z.H ⟨R,n⟩ q Q,z.Γ q qb qb (z.X x [o13,o14,o15,qb,qb]))) [] (LL c z R n Q):=P5 λm σ s=>⟨rfl,q,(((((((s.un 8).un 9).un 10).un 11).un 12).un 13).un 14).un 15⟩
theorem YD (hO:c.O=orc z.B (z.n+4))(hx:kq z.ws k x)(hl:Q.length<=700)(hs:jR Qe.size Q):X (c.w (z.H ⟨R,n⟩ q Q,z.Γ q qb qb (z.X x [o13,o14,qa (qO b),qb,qb]))) [LQ] (LL c z R n (zW Qe.size Q (cond b (ju z.ws x) []))):=by
 refine wH (b:=b&&(!decide (x.rest=[])&&qe)) (E4 (AM (J.test (qo rfl) rfl) λ_=>AM (Ls (qo rfl)) λ_=>He)) ?_
 cases b with
 | false=>exact Jp
 | true =>
  by_cases zy:x.rest=[]
  ·rw[decide_eq_true zy,show ju z.ws x=[] from if_pos zy]
   exact Jp
  ·rw[decide_eq_false zy,show zW Qe.size Q (cond qe (ju z.ws x) [])=_ from congrArg (zW Qe.size Q) (U2 zy),WE]
   refine(OF 13 (OF 14 (OF 15 (qb5 (z:=z) (c:=c) (r:=⟨R,n⟩) (q:=q) (Q:=Q) (o5:=qb) hO hx (qu hl (by decide)) hs (qbu (z:=z) hO hx ?_ (B4 _ hs) Jp)))))
   rw[E6,qH]
   exact qu (AL hl (qu (Gv _ _) z.g.w5)) (by decide)
theorem qfN {C:C}(h9:qy C.Γ 9=qa (qa (qC x.rest)))(h12:qy C.Γ 12=qa (qa (qP x.turned)))(hx:kq z.ws k x):J C (.ite (.cmp .Eq (.var 12) (.int 1)) (.meth (.var 9) D6 [] [] []) (.var 9)) (qw (jD x)):=by
 have hr:=Ep (z.g.rest hx.part)
 refine LS (r:=decide (x.turned=1)) (J.test (J.to (Lo (x:=((x.turned:Nat):Int)) (y:=((1:Nat):Int)) (qo h12) zD) (congrArg qO (by rw[k9,beq_iff_eq,decide_eq_true_eq,cV]))) rfl) (λhb=>?_) λhb=>?_
 ·rw[show jD x=Cg (tx x.rest) from (if_pos (of_decide_eq_true hb)).trans hr.2.1.symm]
  exact WJ (qo h9) (by rw[hr.2.1];exact(A4 (z.g.rest hx.part)).2.2.2)
 ·rw[show jD x=tx x.rest from if_neg (of_decide_eq_false hb)]
  exact qo h9
theorem yI {C:C}(h10:qy C.Γ 10=qa (qa (qw (tx (sg cs x.ahead)))))(h11:qy C.Γ 11=qa (qa (qw (tx (sg cs x.behind)))))(hx:kq ws k x):J C (.bin .Add (.bin .Add (.var 10) (.str ⟨#[32]⟩)) (.var 11)) (qw (kW cs x)):=by
 have la:(sg cs x.ahead).length<=401:=by rw[IL];exact qu (Ba ..) hx.la
 have lb:(sg cs x.behind).length<=401:=by rw[IL];exact qu (Ba ..) hx.lb
 refine J.to (D9 (D9 (y:=tx [32]) (qo h10) vJ (qu (Ao la) (kJ rfl))) (qo h11) ?_) (congrArg qw (by rw[Cw,Cw,jq];rfl))
 rw[Cw,rJ,zw]
 exact qu (AL (Ao la) lb) (kJ rfl)
theorem said {C:C}{z:Sk}{K:Nat}{R:List Qe}{e:Qe}(h3:qy C.Γ 3=qa (qa (zo (.ref z.f))))(h9:qy C.Γ 9=qa (qa (qC x.rest)))(hk:qy C.H K=qa (z.f,cD (λe=>jC (zJ z.cs e)) (R.map λe=>(tx e.rest,e))))(hl:R.length<=21)(he:(R.find? λe=>e.rest == x.rest)=qa e):J C (.idx (.idx (.var 3) (.var 9)) (.int 1)) (qw (kW z.cs e)) :=
 Qg (k:=1) (Ts:=[qw (zJ z.cs e).1,qw (zJ z.cs e).2]) (Yl (R:=λe=>jC (zJ z.cs e)) (s:=tx x.rest) (x:=e) (Mi h3 hk (by rw[qH];exact lm hl)) (qo h9) (dF.trans he)) zD rfl
theorem rL (hO:c.O=orc z.B (z.n+4))(h:SI z.ws (x :: Q) R n (k+1))(hl:Q.length<=700) :
  X (c.w (z.H ⟨R,n⟩ q Q,z.Γ q qb qb (z.X x [qa (qw (jD x)),qa (qw (kW z.cs x)),qa (qO (!decide (x.rest∈R.map Qe.rest))),qb,qb]))) [PS,OT,LQ] (LL c z (wf z.ws x Q R).2 (n+1) (wf z.ws x Q R).1):=by
 have hx:=h.okQ x (.head _)
 have hs:=(wq.mp h.srt).2
 have hRl:=h.fit
 obtain⟨n1,n2,n3,n4⟩:=z.nm hx
 have ln:(zS n qe).length<=qF:=by rw[RP];exact lm (qu (Ba ..) h.kf)
 have lE:(R.map (zJ z.cs)).length<=qF:=by rw[qH];exact lm hRl
 have set:=λ{ds}=>Xl (c:=c.w (z.H ⟨R,n⟩ q Q,z.Γ q qb qb (z.X x [qa (qw (jD x)),qa (qw (kW z.cs x)),qa (qO (!decide (x.rest∈R.map Qe.rest))),qb,qb]))) (K:=0) (es:=R.map (zJ z.cs)) (ds:=ds) (n:=z.n) hO (a:=.var 2) (b:=.var 13) (d:=.var 14) (qo rfl) (qo rfl) (qo rfl) rfl lE n2 n3 (LC z.g h.okR)
 refine wH (J.test (qo rfl) rfl) ?_
 by_cases hin:x.rest∈R.map Qe.rest
 ·rw[decide_eq_true hin] at set ⊢
  rw[wf,if_pos hin]
  obtain⟨e0,h0,hf0,hr0⟩:=Pq hin
  refine YH (k:=2) (c':=c.w (z.H ⟨R,n⟩ q Q,z.Γ q qb qb (z.X x [qa (qw (jD x)),qa (qw (kW z.cs x)),qa (qO qg),qb,qb]))) (val:=kW z.cs e0) (bs:=zS n qe) (ds:=zS (n+1) qe) (λm σ s=>(set rfl m σ s).1 (zJ z.cs e0) ((K4 (λe he=>z.g.rest (h.okR e he).part) n1).trans (congrArg (qiu (zJ z.cs)) hf0))) rfl (said (z:=z) (K:=1) rfl rfl rfl (HN hRl) hf0) rfl rfl rfl ln (qiv ..).symm ?_
  exact YD (b:=qg) (R:=R) (n:=n+1) hO hx hl hs
 ·rw[decide_eq_false hin] at set ⊢
  rw[wf,if_neg hin]
  have hl21:(R++[x]).length<=21:=by rw[zw];exact Ao hRl
  refine Sh (k:=1) (x:=x) (s:=tx x.rest) (R:=λe=>jC (zJ z.cs e)) (es:=R.map λe=>(tx e.rest,e)) (ds:=(R++[x]).map λe=>(tx e.rest,e)) rfl rfl (by rw[qH];exact lm hRl) (λhm=>?_) (N3 (Ts:=[qw (jD x),qw (kW z.cs x)]) (qJ (qo rfl) (qJ (qo rfl) zG)) LM) (qo rfl) (by rw[jQ];rfl) ?_
  ·rw[wX,qG] at hm
   obtain⟨e,he,q⟩:=hm
   exact hin (qG.mpr ⟨e,he,Bp q⟩)
  have set:=λm σ=>Xl (c:=(c.w (z.H ⟨R,n⟩ q Q,z.Γ q qb qb (z.X x [qa (qw (jD x)),qa (qw (kW z.cs x)),qa (qO qe),qb,qb]))).tn 1 z.f (cD (λe=>jC (zJ z.cs e)) ((R++[x]).map λe=>(tx e.rest,e)))) (K:=0) (es:=R.map (zJ z.cs)) (ds:=(R++[x]).map (zJ z.cs)) (n:=z.n) hO (a:=.var 2) (b:=.var 13) (d:=.var 14) (nm:=jD x) (val:=kW z.cs x) (qo rfl) (qo rfl) (qo rfl) rfl lE n2 n3 (LC z.g h.okR) (by rw[jQ];rfl) m σ
  refine YH (k:=2) (c':=c.w (z.H ⟨R++[x],n⟩ q Q,z.Γ q qb qb (z.X x [qa (qw (jD x)),qa (qw (kW z.cs x)),qa (qO qe),qb,qb]))) (val:=kW z.cs x) (bs:=zS n qe) (ds:=zS (n+1) qe) (λm σ s=>(set m σ s).2 ((K4 (λe he=>z.g.rest (h.okR e he).part) n1).trans (congrArg (qiu (zJ z.cs)) (QO hin))) n4 (iF z.g hx)) rfl (said (z:=z) (K:=1) (R:=R++[x]) rfl rfl rfl hl21 (tI hin)) rfl rfl rfl ln (qiv ..).symm ?_
  exact YD (b:=qe) (R:=R++[x]) (n:=n+1) hO hx hl hs
theorem u9 (hO:c.O=orc z.B (z.n+4))(h:SI z.ws (x :: Q) R n (k+1))(hl:Q.length<=700) :
  X (c.w (z.H ⟨R,n⟩ q (x :: Q),z.Γ q qb qb Cx)) [Ux,UQ,UT,Xs,XB,PS,OT,LQ] (LL c z (wf z.ws x Q R).2 (n+1) (wf z.ws x Q R).1):=by
 have hx:=h.okQ x (.head _)
 have hm:(x :: Q).length<=qF:=lm (Ao hl)
 refine LY (T:=Bv z.cs x) (wg (R:=Bv z.cs) (k:=0) (Mc (k:=3) (xs:=x :: Q) rfl rfl hm) zD rfl) (K8 YN rfl rfl) ?_ rfl
 show X (c.w (z.H ⟨R,n⟩ q (x :: Q),z.Γ q qb qb (z.X x [qb,qb,qb,qb,qb]))) _ _
 refine qge (k:=3) (K:=cL (Bv z.cs) Q) (Wf (Mc (k:=3) (q:=q) (xs:=x :: Q) rfl rfl hm) (w4 (k:=1) zD (lm (qU 1))) AY (Gp (x :: Q) 1)) rfl λq'=>?_
 show X (c.w (z.H ⟨R,n⟩ q' Q,z.Γ q' qb qb (z.X x [qb,qb,qb,qb,qb]))) _ _
 refine zX (T:=qw (jD x)) (qfN (z:=z) rfl rfl hx) rfl ?_
 refine zX (T:=qw (kW z.cs x)) (yI rfl rfl hx) rfl ?_
 refine zX (T:=qO (!decide (x.rest∈R.map Qe.rest))) (J.to (Nz (s:=tx x.rest) (R:=λe=>jC (zJ z.cs e)) (es:=R.map λe=>(tx e.rest,e)) (qo rfl) (Mi (k:=1) rfl rfl (by rw[qH];exact lm h.fit))).2 (congrArg (λb=>qO (!b)) qdG)) rfl ?_
 exact rL (q:=q') hO h hl
theorem eK {α:Type}{R:α->Ty}{C:C}{e:E}{xs:List α}(ha:JL C e R xs):Jt C (.cmp .NotEq e (.list [])) (!decide (xs=[])):=J.test (r:=!decide (xs=[])) (λm σ s=>Dn.bnd (ha m σ s) λv qM s1 p _=>Dn.bnd (G2 (R:=λ_:Empty=>UA) (xs:=[]) zG (zN _) m qM s1) λw zZ s2 p2 g=>by
  obtain⟨hl,i,vs,rfl,q1,f⟩:=p
  obtain⟨τ,o,rfl,rfl,_,us,rfl,f2⟩:=p2
  cases f2
  have h4:=Uc (n:=3) (q:=λ_ _=>qe) (S:=λx:Empty=>UA) (λx y=>nomatch y) (g.get q1) (last_get τ (AObj.list [])) (f.mono (C.le g)) .nil hl
  rw[eq_nil] at h4
  exact Dn.bn1 (a:=!decide (xs=[])) (qZ h4 rfl) (zO rfl s2 rfl)) rfl
end
end
noncomputable section
open Mine.Internal.Sp
noncomputable def G8:Ty where
 p f v:=∃k,(qv qO (zS k qe)).p f v
 mono h:=by rintro ⟨k,p⟩;refine⟨k,(qv qO _).mono h p⟩
section
variable {z:Sk}{c:C}{R R1:List Qe}{n k q:Nat}{Q:List Qe}{x:Qe}{rs body:List S}{P:Po}{B:Int->Option qf}{cs:List Nat}{wd:Nat->Wd}
theorem qaT:jW Qe.rest Qe.size (ju ws) k [] R=qa R:=H3
theorem qbo (hO:c.O=orc z.B (z.n+4))(hk:k < B8)(h:SI z.ws Q R n k)(hr:jW Qe.rest Qe.size (ju z.ws) k Q R=qa R1)(hl:Q.length<=30+15 * R.length)
  (kk:∀q k n,SI z.ws [] R1 n k->X (c.w (z.H ⟨R1,n⟩ q [],z.Γ q qb qb Cx)) rs P):X (c.w (z.H ⟨R,n⟩ q Q,z.Γ q qb qb Cx)) (UE :: rs) P :=
 Ip (ι:=List Qe×List Qe×Nat×Nat×Nat) (F:=λy=>(z.H ⟨y.2.1,y.2.2.1⟩ y.2.2.2.2 y.1,z.Γ y.2.2.2.2 qb qb Cx)) (I:=λy=>SI z.ws y.1 y.2.1 y.2.2.1 y.2.2.2.1/\jW Qe.rest Qe.size (ju z.ws) y.2.2.2.1 y.1 y.2.1=qa R1/\y.1.length<=30+15 * y.2.1.length) (μ:=λy=>y.2.2.2.1) (b:=λy=>!decide (y.1=[]))
  (λy hI=>eK (Mc (k:=3) (q:=y.2.2.2.2) (R:=Bv z.cs) (xs:=y.1) rfl rfl (lm (qu hI.2.2 (F4 (F7 15 hI.1.fit) 30))))) (λy hI hb=>by
   obtain⟨Q,R,n,k,q⟩:=y
   obtain⟨h,hr,hl⟩:=hI
   cases Q with
   | nil=>exact nomatch hb
   | cons x Q=>cases k with
    | zero=>exact nomatch hr
    | succ k =>
     have hq:Q.length<=700:=qu (Bf hl) (qu (F4 (F7 15 h.fit) 30) (by decide))
     exact(u9 hO h hq).imp λfl m σ p=>⟨p.1,p.2.elim λq' s=>⟨((wf z.ws x Q R).1,(wf z.ws x Q R).2,n+1,k,q'),⟨h.step,hY hr,qau z.g (h.okQ x (.head _)).part hl⟩,M0 k,s⟩⟩) (λy hI hb=>by
   obtain⟨Q,R,n,k,q⟩:=y
   obtain⟨h,hr,hl⟩:=hI
   obtain rfl:Q=[]:=Pg hb
   rw[qaT] at hr
   obtain rfl:=zc hr
   exact kk q k n h) (Q,R,n,k,q) ⟨h,hr,hl⟩ hk
theorem qbi (h:SI z.ws [] R n k):X (C.w ⟨O,M,s,gN,[],[]⟩ (z.H ⟨R,n⟩ q [],z.Γ q qb qb Cx)) [RY] (Pf M s (qv id [vt (R.map (zJ z.cs)),qv jC (R.map (zJ z.cs)),G8])):=by
 have lR:=lm h.fit
 have lE:(R.map (zJ z.cs)).length<=qF:=by rw[qH];exact lR
 have ln:(zS n qe).length<=qF:=by rw[RP];exact lm (qu (Ba ..) h.kf)
 refine X.at (c':=C.fr _ 0 2 (vt (R.map (zJ z.cs)))) ?_ (λm σ s=>s.frz (U:=I9 z.h) (k:=0) (q:=z.h) (K:=cL jC (R.map (zJ z.cs))) rfl rfl λf o v hp ho hv=>?_) rfl
 ·refine Kt (i:=4) (k:=1) (q:=z.k) (R:=qO) (xs:=zS n qe) rfl rfl ln ?_
  refine Em (wJ (R:=id) (xs:=[vt (R.map (zJ z.cs)),qv jC (R.map (zJ z.cs)),G8]) (qJ (qo rfl) (qJ (Jg.imp (mM (R:=λe=>jC (zJ z.cs e)) (Mi (k:=0) (q:=z.f) (es:=R.map λe=>(tx e.rest,e)) rfl rfl (by rw[qH];exact lR)) (by rw[qH];exact lR)) λσ v p=>?_) (qJ (Jg.imp (qo (T:=qv qO (zS n qe)) rfl) λσ v p=>⟨n,p⟩) zG))) (lm (qU 3)))
  obtain⟨_,i,vs,rfl,a2,a3⟩:=p
  refine⟨lE,i,vs,rfl,a2,a3.unmap.map λx v h=>h⟩
 ·obtain⟨t,d,rfl,h1,h2⟩:=hv
  obtain⟨vs,rfl,p⟩:=hp
  refine⟨lE,t,d,z.h,vs,rfl,h1,h2,ho,p⟩
theorem qez (g:jV B cs wd)(hR:jW Qe.rest Qe.size (ju (cs.map wd)) 400 (DK (cs.map wd)) []=qa R1) :
  Fn (orc B (n+5)) 306 [qv z9 cs,qv qC (cs.map wd)] (qv id [vt (R1.map (zJ cs)),qv jC (R1.map (zJ cs)),G8]):=Eg (n:=16) (qa8 · []) rfl (eL λ_ _=>rfl) λM s=>by
 have lm5:cs.length<=qF:=lm g.five
 refine qf0 (B:=B) (n:=n+2) rfl rfl λh=>?_
 refine El (qfY (R:=λe=>jC (zJ cs e))) rfl λf=>?_
 refine El (G2 (R:=qO) (xs:=[]) zG (zN _)) rfl λk=>?_
 show X (C.w ⟨orc B (n+4),M,s,gN,[],[]⟩ ([(h,cL jC []),(f,cD (λe=>jC (zJ cs e)) []),(k,cL qO [])],[qa (qv z9 cs),qa (qv qC (cs.map wd)),qa (I9 h),qa (zo (.ref f)),qa (zo (.ref k)),qb,qb,qb,qb,qb,qb,qb,qb,qb,qb,qb,qb,qb])) _ _
 have hz:Bk (cs.map wd)=((zx cs.length).filter λj=>qI (cs.map wd) j == []).map λi=>⟨0,[],[i],[],0⟩:=by unfold Bk wN;rw[qH]
 have hw:∀{i},i∈zx cs.length->i < (cs.map wd).length:=λhi=>by rw[qH];exact jG.mp hi
 refine El (K:=cL (Bv cs) (Bk (cs.map wd))) (hz▸Sz (T:=Bv cs) (u:=λi=>⟨0,[],[i],[],0⟩) (q:=λj=>qI (cs.map wd) j == []) (LJ (Mm (qo (T:=qv z9 cs) rfl).list) lm5) (by rw[Ck];exact lm5) (λi=>Dm rfl)
  (λi hi=>J.test (J.to (CH (y:=tx []) (wg (R:=qC) (k:=i) (qo (T:=qv qC (cs.map wd)) rfl).list (qo rfl) (AN (hw hi))) vJ) (congrArg qO (by rw[Aw,k9,decide_eq_true_eq,beq_iff_eq]))) rfl)
  λi hi _=>Ke (A:=qP 0) (B:=qC []) (D:=qw (tx (sg cs [i]))) (E':=qw (tx (sg cs []))) (F:=qP 0) zD vJ (wg (R:=z9) (k:=i) (qo (T:=qv z9 cs) rfl).list (qo rfl) (IZ (hw hi))) vJ zD) rfl λq=>?_
 let z:Sk:=⟨B,n,cs,wd,g,h,f,k⟩
 refine tT (z:=z) (c:=⟨orc B (n+4),M,s,gN,[],[]⟩) (r:=⟨[],0⟩) (q:=q) rfl (qu Pr.2.1 (qu g.w5 (kJ rfl))) Pr.2.2 ?_
 refine qbo (z:=z) (c:=⟨orc B (n+4),M,s,gN,[],[]⟩) (k:=400) rfl (by decide) ⟨λe he=>QE ((K9 e).mp he),(λ_ h=>nomatch h),vy,B4 _ Pr.2.2,by decide⟩ hR (qbm g) λq k n h=>?_
 exact qbi h
end
end
noncomputable section
open Mine.Internal.Sp
noncomputable def Ap:List Wd:=[[97],[104],[107],[109],[112],[104,112],[112,104],[112,97],[109,97],[107,97],[107,107],[107,109],[104,112,97],[107,112,97],[109,112,97],[112,112,109],[]]
noncomputable def Ia:List Nat:=[13259,13271,13184,13187,13188,13261,13262,13169,13226,13227,13273]
noncomputable def KF:List Nat:=[173,847,6150,6155,6156,6157,8203,8204,8205,8288,65279]++Ca 65024 16
noncomputable def Na:List (Int×Int):=[(119971,8459),(119976,8499),(120075,8460),(120127,8461),(120135,8473)]
noncomputable def Ml (c:Int):Int:=(Na.lookup c).getD c
noncomputable def Az (k:Nat):Nat:=(Ap.getD k []).headD 0
noncomputable def w0 (k a b s:Nat):Nat :=
 if k=16 then KF.getD a 0 else if 4 < k then (if k=7/\b=1 then 13225 else Ia.getD (k - 5) 0) else if s < 2 then Az k - 32 * s else (Ml (119808+52 * ((s:Int) - 2)+(Az k:Nat) - 97)).toNat
noncomputable def GZ (x:Int):Nat:=(x.fmod 17).toNat
noncomputable def IE (x m:Int):Nat:=((x.fdiv 17).fmod m).toNat
noncomputable def kt (x:Int):Nat:=w0 (GZ x) (IE x 27) (IE x 2) (IE x 15)
noncomputable def Dj (x:Int):Wd:=Ap.getD (GZ x) []
theorem Es (x m:Int)(hm:0 < m):∃k:Nat,x.fmod m=(k:Nat)/\(k:Int) < m/\(x.fmod m).toNat=k:=by
 have h0:=Int.fmod_nonneg_of_pos x hm
 have h1:=Int.fmod_lt_of_pos x hm
 refine⟨(x.fmod m).toNat,(cZ h0).symm,by rw[cZ h0];exact h1,rfl⟩
noncomputable def Xw (es:List (Int×Int)):Ty where
 p f v:=∃i,v=.ref i/\f i=qa (.idict (es.map λe=>(e.1,V.int e.2)))
 mono h:=by rintro ⟨i,rfl,a⟩;refine⟨i,rfl,h _ _ a⟩
section
variable {B:Int->Option qf}{n:Nat}{c:C}{a k d:E}
theorem qeY:J c (.dconst es) (Xw es):=λm σ s=>Bj s λf _ ho=>⟨_,rfl,ho⟩
theorem mD (es:List (Int×Int))(x d:Int):(D7 (es.map λe=>(e.1,V.int e.2)) x).getD (.int d)=.int ((es.lookup x).getD d):=by
 unfold D7
 induction es with
 | nil=>rfl
 | cons e es ih =>
  rw[z7,AI,Al]
  have:(x == e.1)=(e.1 == x):=by rw[k9,beq_iff_eq,beq_iff_eq];exact eq_comm
  rw[this]
  cases e.1 == x with
  | true=>rfl
  | false=>exact ih
theorem oH (h:J c a (Xw es))(hk:J c k (zb x))(hd:J c d (zb y)):J c (.meth a vn [k,d] [] []) (zb ((es.lookup x).getD y)):=λm σ s=>Dn.bnd (h m σ s) λv qM s1 p _=>by
 obtain⟨i,rfl,h1⟩:=p
 refine Dn.bn1 (a:=Mk.bi "dict.get" E0) (qZ ((za ..).trans (fz_get h1).1) rfl) ?_
 exact(Dn.bndE (Kv hk hd m qM s1) λzZ s2 g2=>zO ((pO (f:=λes=>qa ((D7 es x).getD (.int y),zZ)) (g2.get (fz_get h1).1)).trans rfl) s2 (mD es x y))
noncomputable abbrev Qo (w:Wd)(c:Nat):Ty:=qv (λs=>qw s) [tx w,tx [c]]
theorem qfj:∀a,a < 27->((([173,847,6150,6155,6156,6157,8203,8204,8205,8288,65279]:List Int)++rng 65024 65040)[a]?=qa ((KF.getD a 0:Nat):Int))/\KF.getD a 0 < 1114112:=by decide +kernel
theorem qfd:∀a,a < 11->(([13259,13271,13184,13187,13188,13261,13262,13169,13226,13227,13273]:List Int)[a]?=qa ((Ia.getD a 0:Nat):Int))/\Ia.getD a 0 < 1114112:=by decide +kernel
theorem nJ:∀k,k < 5->tx (Ap.getD k [])=⟨#[Az k]⟩/\97<=Az k/\Az k < 123:=by
 intro k hk
 match k,hk with
 | 0,_=>refine⟨rfl,by decide,by decide⟩
 | 1,_=>refine⟨rfl,by decide,by decide⟩
 | 2,_=>refine⟨rfl,by decide,by decide⟩
 | 3,_=>refine⟨rfl,by decide,by decide⟩
 | 4,_=>refine⟨rfl,by decide,by decide⟩
 | _+5,h=>exact absurd h (by lia)
theorem qb1:∀k:Nat,k < 5->∀s:Nat,s < 15->2<=s->0<=Ml (119808+52 * ((s:Int) - 2)+(Az k:Nat) - 97)/\Ml (119808+52 * ((s:Int) - 2)+(Az k:Nat) - 97) < 1114112:=by decide +kernel
theorem Kz {k:Nat}(h:J c a (zb x))(hx:x=(k:Nat))(hk:k < 1114112):J c (.call (.glob (.builtin "chr")) [a] [] []) (qw (tx [k])):=by
 subst hx
 exact uA h (Cj _) (wW.mpr hk)
theorem Vp:∀ws:List Wd,Js c (ws.map λw=>E.str (tx w)) (ws.map qC)
 | []=>zG
 | _ :: ws=>qJ vJ (Vp ws)
theorem PR:∀l:List Int,Js c (l.map E.int) (l.map zb)
 | []=>zG
 | _ :: l=>qJ zD (PR l)
theorem OS (x y:Nat):((x:Int) == (y:Int))=decide (x=y):=by rw[k9,beq_iff_eq,decide_eq_true_eq,cV]
theorem qfs (x:Int):Fn (orc B (n+1)) 280 [zb x] (Qo (Dj x) (kt x)):=Eg (n:=9) (uJ · []) rfl (LB λ_=>rfl) λM s0=>by
 obtain⟨k,hk,hk17,hkn⟩:=Es x 17 (by decide)
 obtain⟨a,ha,ha27,han⟩:=Es (x.fdiv 17) 27 (by decide)
 obtain⟨b,hb,hb2,hbn⟩:=Es (x.fdiv 17) 2 (by decide)
 obtain⟨s,hs,hs15,hsn⟩:=Es (x.fdiv 17) 15 (by decide)
 rw[show kt x=w0 k a b s from by unfold kt GZ IE;rw[hkn,han,hbn,hsn],show Dj x=Ap.getD k [] from by unfold Dj GZ;rw[hkn]]
 have hk17:k < 17:=wW.mp hk17
 have hs15:s < 15:=wW.mp hs15
 have two:2<=qF:=LM
 have fin:∀{C:C} {e:E} {r:List S} {w:Wd} {ch:Nat},qy C.Γ 7=qa (qa (qC w))->J C (.call (.glob (.builtin "chr")) [e] [] []) (qw (tx [ch]))->X C (.ret (.list [(.var 7),(.call (.glob (.builtin "chr")) [e] [] [])]) :: r) (Pf C.M C.s (Qo w ch)):=λh7 j=>Em (wJ (R:=qw) (xs:=[_,_]) (qJ (qo h7) (qJ j zG)) LM)
 refine zX (wJ (R:=qC) (xs:=Ap) (Vp Ap) (lm (k:=17) (by decide))) rfl ?_
 refine zX (wJ (R:=zb) (xs:=[13259,13271,13184,13187,13188,13261,13262,13169,13226,13227,13273]) (PR _) (lm (k:=11) (by decide))) rfl ?_
 refine zX (qeY (es:=Na)) rfl ?_
 refine zX (VM (wJ (R:=zb) (xs:=[173,847,6150,6155,6156,6157,8203,8204,8205,8288,65279]) (PR _) (lm (k:=11) (by decide))) (U7 (Mj (zD (i:=65024)) (zD (i:=65040))) (by decide) (by rw[FL];decide) (by decide) (by rw[FL];decide)) (zL (by decide +kernel))) rfl ?_
 refine zX (T:=qP k) (J.to (Kr (x:=x) (qo rfl) zD rfl) (congrArg zb hk)) rfl ?_
 refine zX (T:=zb (x.fdiv 17)) (iJ (x:=x) (qo rfl) zD rfl) rfl ?_
 refine zX (T:=qC (Ap.getD k [])) (wg (k:=k) (R:=qC) (qo (T:=qv qC Ap) rfl).list (qo rfl) (by rw[BN,kh (show k < Ap.length from hk17)];rfl)) rfl ?_
 refine wH (b:=decide (k=16)) (J.test (J.to (Lo (x:=((k:Nat):Int)) (y:=((16:Nat):Int)) (qo rfl) zD) (congrArg qO (OS ..))) rfl) ?_
 by_cases h16:k=16
 ·rw[decide_eq_true h16,show w0 k a b s=KF.getD a 0 from if_pos h16]
  have hn:=qfj a (wW.mp ha27)
  exact fin rfl (Kz (wg (k:=a) (R:=zb) (qo (T:=qv zb (([173,847,6150,6155,6156,6157,8203,8204,8205,8288,65279]:List Int)++rng 65024 65040)) rfl).list (J.to (Kr (x:=x.fdiv 17) (qo rfl) zD rfl) (congrArg zb ha)) hn.1) rfl hn.2)
 rw[decide_eq_false h16]
 refine wH (b:=decide (4 < k)) (J.test (J.to (qeW (x:=((k:Nat):Int)) (y:=((4:Nat):Int)) (qo rfl) zD) (congrArg qO (decide_eq_decide.mpr wW))) rfl) ?_
 by_cases h4:4 < k
 ·have eN:w0 k a b s=(if k=7/\b=1 then 13225 else Ia.getD (k - 5) 0):=by unfold w0;rw[if_neg h16,if_pos h4]
  have hk11:k - 5 < 11:=(Nat.sub_lt_iff_lt_add h4).mpr (aA (MX hk17) h16)
  have hq:=qfd (k - 5) hk11
  rw[decide_eq_true h4,eN]
  refine fin rfl (Kz (x:=(((if k=7/\b=1 then 13225 else Ia.getD (k - 5) 0):Nat):Int)) (LS (r:=decide (k=7)&&(decide (b=1)&&qe)) (E4 (AM (J.test (J.to (Lo (x:=((k:Nat):Int)) (y:=((7:Nat):Int)) (qo rfl) zD) (congrArg qO (OS ..))) rfl) λ_=>AM (J.test (J.to (Lo (x:=((b:Nat):Int)) (y:=((1:Nat):Int)) (J.to (Kr (x:=x.fdiv 17) (qo rfl) zD rfl) (congrArg zb hb)) zD) (congrArg qO (OS ..))) rfl) λ_=>He)) (λht=>?_) λht=>?_) rfl ?_)
  ·rw[if_pos (show k=7/\b=1 by simpa using ht)]
   exact zD
  ·rw[if_neg λh=>by rw[decide_eq_true h.1,decide_eq_true h.2] at ht;cases ht]
   exact wg (k:=k - 5) (R:=zb) (qo (T:=qv zb [13259,13271,13184,13187,13188,13261,13262,13169,13226,13227,13273]) rfl).list (J.to (Jd (x:=((k:Nat):Int)) (y:=((5:Nat):Int)) (qo rfl) zD) (congrArg zb (cY h4).symm)) hq.1
  ·split
   ·decide
   ·exact hq.2
 rw[decide_eq_false h4]
 refine zX (T:=qP s) (J.to (Kr (x:=x.fdiv 17) (qo rfl) zD rfl) (congrArg zb hs)) rfl ?_
 have hk5:k < 5:=qig (Cm h4)
 obtain⟨q1,q2,q3⟩:=nJ k hk5
 have jo:∀{C:C},qy C.Γ 7=qa (qa (qC (Ap.getD k [])))->J C (.call (.glob (.builtin "ord")) [.var 7] [] []) (qP (Az k)):=λh=>qdE (ch:=Az k) (J.to (qo h) (congrArg qw q1))
 refine wH (b:=decide (s < 2)) (J.test (J.to (Su (x:=((s:Nat):Int)) (y:=((2:Nat):Int)) (qo rfl) zD) (congrArg qO (decide_eq_decide.mpr wW))) rfl) ?_
 by_cases h2s:s < 2
 ·rw[decide_eq_true h2s,show w0 k a b s=Az k - 32 * s from by unfold w0;rw[if_neg h16,if_neg h4,if_pos h2s]]
  have h32:32 * s<=Az k:=qu (F7 32 (MX h2s)) (qu (by decide) q2)
  refine fin rfl (Kz (Jd (x:=((Az k:Nat):Int)) (y:=32 * ((s:Nat):Int)) (jo rfl) (Un (x:=32) (y:=((s:Nat):Int)) zD (qo rfl) rfl ?_)) (cY h32).symm (AK (HF _ _) (C7 q3 (by decide))))
  exact decide_eq_true (C7 h2s (by decide))
 rw[decide_eq_false h2s]
 have h2s':=Cm h2s
 have hg:=qb1 k hk5 s hs15 h2s'
 rw[show w0 k a b s=(Ml (119808+52 * ((s:Int) - 2)+(Az k:Nat) - 97)).toNat from by unfold w0;rw[if_neg h16,if_neg h4,if_neg h2s]]
 have hs40:EQ ((s:Nat) - 2:Int)=qe:=decide_eq_true (by lia)
 refine zX (T:=zb (119808+52 * ((s:Int) - 2)+(Az k:Nat) - 97)) (Jd (GN (GN zD (Un zD (Jd (x:=((s:Nat):Int)) (y:=2) (qo rfl) zD) rfl hs40)) (jo rfl)) zD) rfl ?_
 exact fin rfl (Kz (oH (es:=Na) (qo rfl) (qo rfl) (qo rfl)) (cZ hg.1).symm ((Int.toNat_lt hg.1).mpr hg.2))
end
end
noncomputable section
open Mine.Internal.Sp
noncomputable def D4:List (Wd×Nat):=(zx 27).map (λa=>(Ap.getD 16 [],w0 16 a 0 0))++(Ca 5 11).flatMap (λk=>(zx 2).map λb=>(Ap.getD k [],w0 k 0 b 0))++(zx 5).flatMap λk=>(zx 15).map λs=>(Ap.getD k [],w0 k 0 0 s)
noncomputable def qD (c:Nat):Wd:=match D4.find? λe=>zQ e.2 c with | some e=>e.1 | none=>[]
noncomputable def Ko (k:Int):List (Int×qf)->Option qf
 | []=>qb
 | (a,x) :: r=>cond (decide (k=a)) (qa x) (Ko k r)
theorem SN (k:Int):∀l,Ko k l=l.lookup k
 | []=>rfl
 | (a,x) :: r=>by
  show cond (decide (k=a)) (qa x) (Ko k r)=_
  rw[Al,SN k r]
  by_cases h:k=a
  ·simp[h]
  ·have:(k == a)=qg:=by simpa using h
   simp[h,this]
noncomputable def B3 (c:Int):Option qf:=b3.lookup c
noncomputable def PM (c:Nat)(w:Wd):Bool:=cond (AV.any λx=>x == (c:Int)) w.isEmpty (match Ko c b3 with | some s=>ze s (tx w) | none=>ze (zp ⟨#[c]⟩) (tx w))
noncomputable def YG (e:Wd×Nat):Bool:=qD e.2 == e.1&&PM e.2 e.1&&!jN (zp ⟨#[e.2]⟩).length&&z3 32 e.2&&!zQ e.2 127
theorem oZ:D4.all YG=qe:=by decide +kernel
theorem pP:(D4.all λe=>RK e.1.length 3&&e.1.all λc=>abc.contains c)=qe:=by decide +kernel
theorem Ou (x:Int):(Dj x,kt x)∈D4:=by
 obtain⟨k,hk,hk17,hkn⟩:=Es x 17 (by decide)
 obtain⟨a,ha,ha27,han⟩:=Es (x.fdiv 17) 27 (by decide)
 obtain⟨b,hb,hb2,hbn⟩:=Es (x.fdiv 17) 2 (by decide)
 obtain⟨s,hs,hs15,hsn⟩:=Es (x.fdiv 17) 15 (by decide)
 have eS:kt x=w0 k a b s:=by unfold kt GZ IE;rw[hkn,han,hbn,hsn]
 have eW:Dj x=Ap.getD k []:=by unfold Dj GZ;rw[hkn]
 rw[eS,eW]
 have hk17:k < 17:=wW.mp hk17
 have ha27:a < 27:=wW.mp ha27
 have hb2:b < 2:=wW.mp hb2
 have hs15:s < 15:=wW.mp hs15
 unfold D4
 by_cases h16:k=16
 ·subst h16
  refine kH _ (kH _ (qG.mpr ⟨a,jG.mpr ha27,?_⟩))
  rfl
 by_cases h4:4 < k
 ·refine kH _ (wV _ (kU.mpr ⟨k,List.mem_range'_1.mpr (by lia),qG.mpr ⟨b,jG.mpr hb2,?_⟩⟩))
  unfold w0
  rw[if_neg h16,if_neg h16,if_pos h4,if_pos h4]
 ·refine wV _ (kU.mpr ⟨k,jG.mpr (by lia),qG.mpr ⟨s,jG.mpr hs15,?_⟩⟩)
  unfold w0
  rw[if_neg h16,if_neg h16,if_neg h4,if_neg h4]
theorem f8 (h:PM c w=qe):Ft B3 c=tx w:=by
 unfold PM at h
 unfold Ft B3
 rw[SN] at h
 cases q:AV.any λx=>x == (c:Int) with
 | true =>
  rw[q] at h
  have h:w.isEmpty=qe:=h
  rw[if_pos rfl]
  cases w with
  | nil=>rfl
  | cons=>cases h
 | false =>
  rw[q] at h
  rw[if_neg jy]
  have h:(match b3.lookup (c:Int) with | some s=>ze s (tx w) | none=>ze (zp ⟨#[c]⟩) (tx w))=qe:=h
  cases e:b3.lookup (c:Int) with
  | some s=>rw[e] at h;exact vG h
  | none=>rw[e] at h;exact vG h
theorem QT (h:e∈D4):qD e.2=e.1/\EX B3 e.2 e.1/\32 < e.2/\e.2≠127/\e.1.length<=3/\∀c∈e.1,c∈abc:=by
 have h1:=wS.mp oZ e h
 have h2:=wS.mp pP e h
 unfold YG at h1
 simp only[jT,F1] at h1
 obtain⟨⟨⟨⟨a1,a2⟩,a3⟩,a4⟩,a5⟩:=h1
 rw[jT] at h2
 refine⟨eq_of_beq a1,⟨f8 a2,a3⟩,kE.mp a4,λq=>?_,kJ h2.1,λc hc=>?_⟩
 ·rw[q] at a5;cases a5
 ·have:=wS.mp h2.2 c hc
  exact qhv.mp this
theorem Ph (c:Nat):(qD c).length<=3:=by
 unfold qD
 cases q:D4.find? λe=>zQ e.2 c with
 | none=>exact zN _
 | some e=>exact(QT (cA q)).2.2.2.2.1
theorem Qt (x:Int):Dj x=qD (kt x):=(QT (Ou x)).1.symm
end
noncomputable section
open Mine.Internal.Sp
theorem TU:∀{k:Nat}{v:List Nat},v.length=k->(∀x∈v,x < n)->v∈KD n k
 | 0,[],_,_=>zE.mpr rfl
 | k+1,x :: v,h,hx=>by
  exact kU.mpr ⟨v,TU (F6 h) λy hy=>hx y (zI _ hy),qG.mpr ⟨x,jG.mpr (hx x zB),rfl⟩⟩
section
variable {α:Type}(key:α->Wd)(xs:List α)
noncomputable def AD (x:α):Nat:=xs.countP λy=>qR (key y) (key x)
noncomputable def kl:List Nat:=xs.map (AD key xs)
variable {key xs}
theorem UU:∀{l:List α},(∀z∈l,p z=qe->q z=qe)->(∃y∈l,q y=qe/\p y=qg)->l.countP p < l.countP q
 | [],_,h=>by obtain⟨y,hy,_⟩:=h;cases hy
 | z :: l,h,k=>by
  rw[cW,cW]
  have hle:l.countP p<=l.countP q:=qiw λy hy=>h y (zI _ hy)
  obtain⟨y,hy,k1,k2⟩:=k
  rcases jJ.mp hy with rfl | hy
  ·rw[k1,k2,if_pos rfl,if_neg jy];lia
  ·have:=UU (λz hz=>h z (zI _ hz)) ⟨y,hy,k1,k2⟩
   have h0:=h z zB
   cases hp:p z with
   | true=>rw[h0 hp];simp;exact this
   | false=>rw[if_neg jy];split <;> lia
theorem Nl (hy:y∈xs):z3 (AD key xs y) (AD key xs x)=qR (key y) (key x):=by
 cases h:qR (key y) (key x) with
 | true =>
  exact kE.mpr (UU (λz _ hz=>Ff hz (OV h)) ⟨y,hy,h,GU _⟩)
 | false =>
  cases q:z3 (AD key xs y) (AD key xs x) with
  | false=>rfl
  | true =>
   have h1:=kE.mp q
   have h2:AD key xs x<=AD key xs y:=qiw λz _ hz=>Ff hz h
   lia
theorem OR:(kl key xs).length=xs.length:=qH ..
theorem xM {i:Nat}(h:xs[i]?=qa x):(kl key xs)[i]?=qa (AD key xs x):=by unfold kl;rw[wU,h];rfl
theorem Lh (i j:Nat):Kx (xs.map λx=>tx (key x)) i j=IN (kl key xs) i j:=by
 unfold Kx IN
 rw[za,za,za,za]
 unfold kl
 rw[wU,wU,wU,wU]
 cases hi:xs[i]? with
 | none=>rfl
 | some x =>
  cases hj:xs[j]? with
  | none=>rfl
  | some y =>
   show qa (wj (tx (key x)) (tx (key y)))=qa (z3 (AD key xs x) (AD key xs y))
   rw[Xx,Nl (wT hi)]
theorem LV (h:∀i j,f i j=g i j):∀t:KasT β,CC f t=CC g t:=λt=>by
 have:f=g:=funext λi=>funext λj=>h i j
 rw[this]
theorem pZ:Sp.canon (kl key xs)=qe:=by
 unfold Sp.canon
 rw[wS]
 intro r hr
 obtain⟨x,hx,rfl⟩:=qG.mp hr
 refine Nat.beq_eq.mpr ?_
 unfold kl
 rw[bI]
 unfold AD
 refine List.countP_congr λy hy=>?_
 show (qR (key y) (key x)=qe)↔(z3 (AD key xs y) (AD key xs x)=qe)
 rw[Nl hy]
theorem qeI:∀r∈kl key xs,r < xs.length:=λr hr=>by
 obtain⟨x,hx,rfl⟩:=qG.mp hr
 refine FY λh=>?_
 have h1:xs.countP (λy=>qR (key y) (key x))=xs.length:=Mq List.countP_le_length h
 have:=List.countP_eq_length.mp h1 x hx
 rw[GU] at this
 cases this
theorem Ly (hs:H4 n=qe)(hn:xs.length=n):∃p,CC (IN (kl key xs)) (MB n)=qa p/\p.toList=EW (kl key xs):=by
 have hm:kl key xs∈KD n n:=TU (OR.trans hn) λr hr=>hn▸qeI r hr
 have h1:=wS.mp hs _ hm
 rw[pZ] at h1
 have h1:PO (kl key xs)=qe:=h1
 unfold PO at h1
 rw[OR,hn] at h1
 cases q:CC (IN (kl key xs)) (MB n) with
 | none=>rw[q] at h1;cases h1
 | some p=>rw[q] at h1;refine⟨p,rfl,eq_of_beq h1⟩
theorem qcw (hn:xs.length<=5):∃p,CO (xs.map λx=>tx (key x))=qa p/\p.toList=EW (kl key xs):=by
 unfold CO
 rw[qH]
 match xs,hn with
 | [],_=>refine⟨_,rfl,rfl⟩
 | [a],_=>refine⟨_,rfl,rfl⟩
 | [a,b],_=>obtain⟨p,h,k⟩:=Ly (key:=key) (xs:=[a,b]) qaf rfl;refine⟨p,(if_neg (by simp)).trans ((LV Lh _).trans h),k⟩
 | [a,b,c],_=>obtain⟨p,h,k⟩:=Ly (key:=key) (xs:=[a,b,c]) tK rfl;refine⟨p,(if_neg (by simp)).trans ((LV Lh _).trans h),k⟩
 | [a,b,c,d],_=>obtain⟨p,h,k⟩:=Ly (key:=key) (xs:=[a,b,c,d]) qd3 rfl;refine⟨p,(if_neg (by simp)).trans ((LV Lh _).trans h),k⟩
 | [a,b,c,d,e],_=>obtain⟨p,h,k⟩:=Ly (key:=key) (xs:=[a,b,c,d,e]) yT rfl;refine⟨p,(if_neg (by simp)).trans ((LV Lh _).trans h),k⟩
 | _ :: _ :: _ :: _ :: _ :: _ :: _,h=>exact absurd h (by simp)
noncomputable def jZ (key:α->Wd)(xs:List α):List α:=xs.foldl (λl x=>wb key x l) []
theorem Lc {r:List Nat}:Dy r x (y :: l)=if r.getD x 0 < r.getD y 0 then x :: y :: l else y :: Dy r x l:=rfl
theorem XX:∀{l:List Nat},y∈Dy r x l->y=x\/y∈l
 | [],h=>.inl (zE.mp h)
 | z :: l,h=>by
  by_cases hl:r.getD x 0 < r.getD z 0
  ·exact jJ.mp (Eq.mp (congrArg (y∈·) (Lc.trans (if_pos hl))) h)
  ·exact(jJ.mp (Eq.mp (congrArg (y∈·) (Lc.trans (if_neg hl))) h)).elim (λh=>.inr (h▸zB)) λh=>(XX h).imp id (zI _)
theorem ZA:∀{l:List Nat},(Dy r x l).length=l.length+1
 | []=>rfl
 | z :: l=>by
  rw[Lc]
  by_cases hl:r.getD x 0 < r.getD z 0
  ·rw[if_pos hl];rfl
  ·rw[if_neg hl,vV,ZA,vV]
theorem S6 (x0:α){k:Nat}(hk:k < xs.length):∀{l:List Nat},(∀i∈l,i < xs.length)->(Dy (kl key xs) k l).map (λi=>xs.getD i x0)=wb key (xs.getD k x0) (l.map λi=>xs.getD i x0)
 | [],_=>rfl
 | y :: l,h=>by
  have hy:=h y zB
  have get:∀{i},(hi:i < xs.length)->xs[i]?=qa (xs.getD i x0):=λhi=>by rw[BN,kh hi];rfl
  have rk:∀{i},(hi:i < xs.length)->(kl key xs).getD i 0=AD key xs (xs.getD i x0):=λ{i} hi=>by rw[BN (l:=kl key xs),xM (get hi)];rfl
  have e:((kl key xs).getD k 0 < (kl key xs).getD y 0)↔qR (key (xs.getD k x0)) (key (xs.getD y x0))=qe:=by
   rw[rk hk,rk hy,<-Nl (wT (get hk)),kE]
  rw[Lc,z7,Ot]
  by_cases q:(kl key xs).getD k 0 < (kl key xs).getD y 0
  ·rw[if_pos q,if_pos (e.mp q)];rfl
  ·rw[if_neg q,if_neg (λh=>q (e.mpr h)),z7,S6 x0 hk λi hi=>h i (zI _ hi)]
theorem qdt (x0:α):(EW (kl key xs)).map (λi=>xs.getD i x0)=jZ key xs/\(∀i∈EW (kl key xs),i < xs.length)/\(EW (kl key xs)).length=xs.length:=by
 have step:∀k,k<=xs.length->let l:=(zx k).foldl (λl x=>Dy (kl key xs) x l) [];l.map (λi=>xs.getD i x0)=(xs.take k).foldl (λl x=>wb key x l) []/\(∀i∈l,i < xs.length)/\l.length=k:=by
  intro k
  induction k with
  | zero=>intro _;refine⟨rfl,(λ_ h=>nomatch h),rfl⟩
  | succ k ih =>
   intro hk
   obtain⟨h1,h2,h3⟩:=ih (Bf hk)
   dsimp only
   rw[qh9,F3]
   show (Dy (kl key xs) k _).map _=_/\_/\_
   have hk':k < xs.length:=hk
   refine⟨?_,λi hi=>?_,by rw[HB,List.foldl_nil,ZA,h3]⟩
   ·rw[S6 x0 hk' h2,h1,qgx,F3,kh hk',BN,kh hk'];rfl
   ·rcases XX hi with rfl | hi
    ·exact hk'
    ·exact h2 i hi
 have:=step xs.length (qU _)
 dsimp only at this
 rw[MG] at this
 unfold EW
 rw[OR]
 exact this
end
end
noncomputable section
open Mine.Internal.Sp
section
variable {α:Type}{R:α->Ty}{key:α->Wd}{xs:List α}{O:qE}{M:List Nat}
theorem YA (hj:σ[j]?=qa (.lam b)):∀{xs:List α}{vs:List V},Fa R (fz M σ) xs vs->(∀x∈xs,∀v,(R x).p (fz M σ) v->O.lam b v σ=qa (.str (tx (key x)),σ))->Bz O j vs σ=qa (xs.map λx=>tx (key x),σ)
 | [],_,a,_=>by cases a;rfl
 | x :: xs,_,a,h=>by
  cases a with
  | cons a1 a2 =>
   refine(ZY (f:=λb=>bnd (O.lam b _ σ) λv σ=>vS v λs=>bnd (Bz O j _ σ) λks σ=>qa (s :: ks,σ)) hj).trans (z8 (h x zB _ a1) ?_)
   exact z8 (YA hj a2 λx hx=>h x (zI _ hx)) rfl
theorem U0 (vs:List V):∀{l:List Nat},(∀i∈l,i < vs.length)->Ef vs l=qa (l.map λi=>vs.getD i .none)
 | [],_=>rfl
 | i :: l,h=>by
  have hi:=h i zB
  refine qZ (a:=vs.getD i .none) ((za ..).trans (by rw[BN,kh hi];rfl)) (qZ (U0 vs λi hi=>h i (zI _ hi)) rfl)
theorem Xj (a:Fa R f xs vs)(x0:α):∀{l:List Nat},(∀i∈l,i < xs.length)->Fa R f (l.map λi=>xs.getD i x0) (l.map λi=>vs.getD i .none)
 | [],_=>.nil
 | i :: l,h=>by
  have hi:=h i zB
  refine .cons ?_ (Xj a x0 λi hi=>h i (zI _ hi))
  obtain⟨v,h1,h2⟩:=a.get (kh hi)
  show (R (xs.getD i x0)).p f (vs.getD i V.none)
  rw[BN,BN,h1,kh hi]
  exact h2
theorem HV:∀xs:List α,(jZ key xs).Perm xs:=λxs=>by
 have key':∀(xs l:List α),(xs.foldl (λl x=>wb key x l) l).Perm (xs++l):=by
  intro xs
  induction xs with
  | nil=>exact λl=>.refl _
  | cons x xs ih =>
   intro l
   rw[HB]
   refine(ih _).trans ?_
   refine((P1 x l).append_left xs).trans ?_
   exact List.perm_middle
 have:=key' xs []
 rw[jF] at this
 exact this
theorem Od (xs:List α):(jZ key xs).Pairwise λa b=>qR (key b) (key a)=qg:=by
 have key':∀(xs l:List α),(l.Pairwise λa b=>qR (key b) (key a)=qg)->((xs.foldl (λl x=>wb key x l) l).Pairwise λa b=>qR (key b) (key a)=qg):=by
  intro xs
  induction xs with
  | nil=>exact λl h=>h
  | cons x xs ih=>exact λl h=>ih _ (Xc x h)
 exact key' xs [] bT
theorem qbE (xs:List α)(x:α):jZ key (xs++[x])=wb key x (jZ key xs):=by unfold jZ;rw[F3];rfl
theorem qdr:ev O (.call (.glob u) es kn kv) m σ=bnd (evs O es m σ) λvs σ=>bnd (evs O kv m σ) λks σ=>vP O vs (kn.zip ks) σ u:=rfl
theorem sI (ha:JL c a R xs)(hn:xs.length<=5)(hk:∀x∈xs,∀v M σ,(R x).p (fz M σ) v->c.O.lam b v σ=qa (.str (tx (key x)),σ)):J c (.call (.glob (.builtin "sorted")) [a] [ky] [.lam b]) (qv R (jZ key xs)):=λm σ s =>
 Dn.of qdr (Dn.bnd (KN ha m σ s) λvs0 qM s1 p0 _=>by
 obtain⟨_,rfl,hl,i,vs,rfl,q1,p1⟩:=p0
 have q2:=Fq q1 [AObj.lam b]
 have p2:=p1.mono (c.le (Gr.new qM (AObj.lam b)))
 have hl':=last_get qM (AObj.lam b)
 obtain⟨p,hp,hpl⟩:=qcw (key:=key) hn
 have hvl:vs.length=xs.length:=p1.len
 have hks:=YA (O:=c.O) (key:=key) hl' p2 λx hx v hv=>hk x hx v _ _ hv
 have hres:∃ws,Ef vs p.toList=qa ws/\p.size=vs.length/\Fa R (c.vw (qM++[AObj.lam b])) (jZ key xs) ws:=by
  match xs,p2,hpl,hvl with
  | [],p2,hpl,hvl =>
   have hz:p.toList=[]:=hpl
   have:vs=[]:=List.eq_nil_of_length_eq_zero hvl
   subst this
   refine⟨[],by rw[hz];rfl,by rw[<-MK,hz];rfl,.nil⟩
  | x0 :: xs,p2,hpl,hvl =>
   obtain⟨h1,h2,h3⟩:=qdt (key:=key) (xs:=x0 :: xs) x0
   rw[<-hpl] at h1 h2 h3
   refine⟨_,U0 vs (λi hi=>by rw[hvl];exact h2 i hi),by rw[<-MK,h3,hvl],?_⟩
   rw[<-h1]
   exact Xj p2 x0 h2
 obtain⟨ws,r1,r2,r3⟩:=hres
 refine Dn.bnd (x:=evs c.O [.lam b] m qM) (D:=λσ ks=>ks=[V.ref qM.length]/\σ=qM++[AObj.lam b]) (dn (b:=[V.ref qM.length]) rfl s1 (Gr.new qM (AObj.lam b)) ⟨rfl,rfl⟩) λks zZ s2 pk g=>?_
 obtain⟨rfl,rfl⟩:=pk
 have h63:(ze ky ky && "sorted" == "sorted" && decide (vs.length<=63))=qe:=by rw[decide_eq_true (by rw[hvl];exact qu hn (by decide))];rfl
 refine Dn.of (y:=zM (.list ws) (qM++[AObj.lam b])) ?_ (Bj s2 λf hf ho=>⟨by rw[(HV xs).length_eq];exact hl,_,ws,rfl,ho,r3.mono hf⟩)
 refine(vQ (f:=λvs=>oF (qM++[AObj.lam b]) qM.length λb'=>if ze ky ky && "sorted" == "sorted" && decide (vs.length<=63) then bnd (Bz c.O qM.length vs (qM++[AObj.lam b])) λks σ=>bn1 (CO ks) λp=>if decide (p.size=vs.length) then bn1 (Ef vs p.toList) λws=>zM (.list ws) σ else qb else qb) q2).trans ((ZY hl').trans ((if_pos h63).trans (z8 hks (qZ hp ((if_pos (decide_eq_true r2)).trans (qZ r1 rfl)))))))
end
end
noncomputable section
open Mine.Internal.Sp
noncomputable abbrev jO (c:Nat):Ty:=Qo (qD c) c
noncomputable def Ac (ss:List Nat)(x:Int):List Nat:=if kt x∈ss then ss else ss++[kt x]
noncomputable def AU (xs:List Int):List Nat:=xs.foldl Ac []
theorem Ok:∀(xs:List Int)(ss:List Nat),(∀c∈ss,∃x,c=kt x)->ss.Nodup->(∀c∈xs.foldl Ac ss,∃x,c=kt x)/\(xs.foldl Ac ss).Nodup/\(xs.foldl Ac ss).length<=ss.length+xs.length/\ss.length<=(xs.foldl Ac ss).length
 | [],ss,h,k=>⟨h,k,qU _,qU _⟩
 | x :: xs,ss,h,k=>by
  rw[HB]
  have key:(∀c∈Ac ss x,∃x,c=kt x)/\(Ac ss x).Nodup/\(Ac ss x).length<=ss.length+1/\ss.length<=(Ac ss x).length:=by
   unfold Ac
   by_cases q:kt x∈ss
   ·rw[if_pos q];refine⟨h,k,DU _,qU _⟩
   ·rw[if_neg q]
    refine⟨λc hc=>?_,BJ.mpr ⟨k,k7.mpr ⟨AH,vy⟩,λa ha b hb e=>?_⟩,by rw[zw];exact qU _,by rw[zw];exact Ba ..⟩
    ·rcases zT.mp hc with hc | hc
     ·exact h c hc
     ·refine⟨x,zE.mp hc⟩
    ·obtain rfl:=zE.mp hb
     exact q (e▸ha)
  obtain⟨a1,a2,a3,a4⟩:=Ok xs (Ac ss x) key.1 key.2.1
  refine⟨a1,a2,?_,qu key.2.2.2 a4⟩
  have:=key.2.2.1
  rw[vV]
  lia
noncomputable def Kh (c s:Nat):Bool:=wO (λa b=>ze a b) [tx (qD c),tx [c]] [tx (qD s),tx [s]]
theorem V6 (c s:Nat):Kh c s=decide (c=s):=by
 unfold Kh
 rw[NX (λx y=>by rw[wZ,k9,beq_iff_eq,decide_eq_true_eq])]
 rw[k9,decide_eq_true_eq,decide_eq_true_eq]
 constructor
 ·intro h
  have:=(qix (qix h).2).1
  have:=Bp this
  injection this
 ·intro h;rw[h]
noncomputable def G4 (c:Nat):Ty where
 p f v:=v=.str ⟨#[c]⟩/\∃x,c=kt x
 mono h:=λa=>a
theorem Gj (h:∃x,c=kt x):EX B3 c (qD c)/\32 < c/\c≠127/\(qD c).length<=3/\∀d∈qD c,d∈abc:=by
 obtain⟨x,rfl⟩:=h
 obtain⟨a1,a2,a3,a4,a5,a6⟩:=QT (Ou x)
 rw[Qt] at a2 a5 a6
 refine⟨a2,a3,a4,a5,a6⟩
section
variable {n:Nat}{ss:List Nat}
theorem oB (h:(jO c).p (fz M σ) v):(orc B (n+1)).lam (.idx (.var 0) (.int 0)) v σ=qa (.str (tx (qD c)),σ):=by
 obtain⟨_,i,us,rfl,h1,h2⟩:=h
 cases h2 with | cons a p=>cases p with | cons b p =>
 cases p;cases a;cases b
 show ev (orc B n) (.idx (.var 0) (.int 0)) [qa (.ref i)] σ=_
 exact NW (qX rfl) BV ((Gd (fz_get h1).1).trans ((L7 _ _).trans (KH (k:=0) rfl (zL (kJ rfl)))))
theorem iD (xs:List α):Lk (λa b=>qR (key a) (key b)) (jZ key xs):=Od xs
theorem Sg (key:α->Wd):∀a b c:α,qR (key b) (key a)=qg->qR (key c) (key b)=qg->qR (key c) (key a)=qg:=λa b c h1 h2=>by
 cases q:qR (key c) (key a) with
 | false=>rfl
 | true=>rw[Ff q h1] at h2;cases h2
end
structure SG (ss:List Nat):Prop where
 all:∀c∈ss,∃x,c=kt x
 nd:ss.Nodup
 le:ss.length<=5
section
variable {n q:Nat}{ss:List Nat}{G:Gh}
theorem SG.row (h:SG ss):SG (jZ qD ss):=⟨λc hc=>h.all c ((HV ss).mem_iff.mp hc),(HV ss).nodup_iff.mpr h.nd,by rw[(HV ss).length_eq];exact h.le⟩
theorem qbP (h:∃x,c=kt x):Fn (orc B3 (n+3)) 287 [z9 c] (qC (qD c)):=λM σ vs hM p=>by
 obtain⟨_,rfl,rfl⟩:=GS p
 have:=(Gj h).1
 refine B6 (OX c this.fit) λ_=>?_
 rw[this.fold];rfl
theorem qgc (a b:Nat):vF 3 (jO a) (jO b) (Kh a b):=Fh λa b=>Eo
noncomputable def stF (q:Nat)(zs:List Int):List (Nat×Co)×List (Option Ty):=([(q,cL jO (AU zs))],[qb,qa (zo (.ref q)),qb,qb,qb,qb,qb,qb,qb,qb,qb,qb,qb,qb,qb,qb])
theorem yB (zs:List Int)(y:Int):AU (zs++[y])=Ac (AU zs) y:=by unfold AU;rw[F3];rfl
theorem iG {B:Int->Option qf}{c:C}(hO:c.O=orc B (n+1))(hl:(AU zs).length<=5):X ((c.w (stF q zs)).up 2 (zb y)) [Pw,OB] (nx (c.w (stF q (zs++[y])))):=by
 have lm5:(AU zs).length<=qF:=lm hl
 rw[show stF q (zs++[y])=([(q,cL jO (Ac (AU zs) y))],[qb,qa (zo (.ref q)),qb,qb,qb,qb,qb,qb,qb,qb,qb,qb,qb,qb,qb,qb]) from by unfold stF;rw[yB]]
 refine zX (T:=jO (kt y)) (by rw[jO,<-Qt];exact ve (by show Fn c.O 280 _ _;rw[hO];exact qfs y) (qJ (qo rfl) zG)) rfl ?_
 refine wH (b:=!decide (kt y∈AU zs)) (J.test (J.to (Ky (T:=jO (kt y)) (R:=jO) (xs:=AU zs) (q:=λc=>Kh c (kt y)) (qo rfl) (Mc (k:=0) (q:=q) rfl rfl lm5) λc=>qgc c (kt y)).2 (congrArg (λb=>qO (!b)) ?_)) rfl) ?_
 ·rw[k9,C0,decide_eq_true_eq]
  constructor
  ·rintro ⟨c,hc,h⟩
   rw[V6,decide_eq_true_eq] at h
   exact h▸hc
  ·intro h
   refine⟨_,h,by rw[V6];exact decide_eq_true rfl⟩
 by_cases hin:kt y∈AU zs
 ·rw[decide_eq_true hin,Ac,if_pos hin]
  exact CM λm σ s=>(s.un 2).un 3
 ·rw[decide_eq_false hin,Ac,if_neg hin]
  refine S7 (k:=0) (q:=q) (R:=jO) (xs:=AU zs) (x:=kt y) rfl rfl lm5 (qo rfl) rfl ?_
  exact CM λm σ s=>(s.un 2).un 3
theorem R2:(AU zs).length<=zs.length:=qu (Ok zs [] (λ_ h=>nomatch h) vy).2.2.1 (BK (Mu _))
theorem stock_run {B:Int->Option qf}{c:C}{xs:List Int}{vs:List V}{it:It}{g:Gh}{m:qx}{σ:qi}(hO:c.O=orc B (n+1))(hl:xs.length<=5)(h6:∀M' σ',g.p (fz M' σ')->w8 σ' it vs=qe)(s:St (c.w (stF q [])) m σ)(h5:g.p ((c.w (stF q [])).vw σ))(h4:Fa zb ((c.w (stF q [])).vw σ) xs vs) :
  ∃jp σ₂,wP it vs (FH c.O (.var 2) [Pw,OB]) vs m σ=qa (.next,jp,σ₂)/\St (c.w (stF q xs)) jp σ₂ :=
 ZE (R:=zb) (F:=stF q) (λ_=>rfl) h6 (λg zs y ys hz=>iG (c:=c.hold g) hO (qu R2 (qu (va (Lp hz)) hl))) s h5 h4
theorem stock_sg (h:xs.length<=5):SG (AU xs):=by
 obtain⟨a1,a2,a3,_⟩:=Ok xs [] (λ_ h=>nomatch h) vy
 refine⟨a1,a2,qu R2 h⟩
noncomputable abbrev Jh (n:Nat)(G:Gh)(H:List (Nat×Co))(o1 o4 o5 o6 o7 o8:Option Ty):C:=⟨orc B3 (n+5),[],[],G,H,[qb,o1,qb,qb,o4,o5,o6,o7,o8,qb,qb,qb,qb,qb,qb,qb]⟩
theorem hJ (h:SG ss)
  (k:∀{o},X (Jh n G [] o (qa (qv jO (jZ qD ss))) (qa (qv z9 (jZ qD ss))) (qa (qv qC ((jZ qD ss).map qD))) qb (qa (qv qC ((jZ qD ss).map qD)))) r P) :
  X (Jh n G [(q,cL jO ss)] (qa (zo (.ref q))) qb qb qb qb qb) (NJ :: M8 :: O3 :: PL :: N4 :: r) P:=by
 have lm5:∀{l:List Nat},l.length<=5->l.length<=qF:=λh=>lm h
 have hil:∀zs:List Nat,zs.length<=5->(jZ qD zs).length<=5:=λzs h=>by rw[(HV zs).length_eq];exact h
 have hrl:=hil ss h.le
 refine Kt (i:=1) (k:=0) (q:=q) (R:=jO) (xs:=ss) rfl rfl (lm h.le) ?_
 refine zX (T:=qv jO (jZ qD ss)) (sI (key:=qD) (qo (T:=qv jO ss) rfl).list h.le λc hc v M σ hv=>oB hv) rfl ?_
 refine El (G2 (R:=G4) (xs:=[]) zG (zN _)) rfl λa=>?_
 refine El (G2 (R:=qC) (xs:=[]) zG (zN _)) rfl λb=>?_
 refine Go (c:=Jh n G [] qb qb qb qb qb qb) (R:=jO) (xs:=ss) (F:=λzs=>([(a,cL G4 (jZ qD zs)),(b,cL qC ((jZ qD zs).map qD))],[qb,qa (qv jO ss),qb,qb,qa (qv jO (jZ qD ss)),qa (zo (.ref a)),qa (zo (.ref b)),qb,qb,qb,qb,qb,qb,qb,qb,qb])) (J.iter (qo rfl)) (λ_=>rfl) (λg zs y ys hz=>?_) ?_
 ·have hy:=h.all y (Km hz)
  have hzl:zs.length<=5:=qu (va (Lp hz)) h.le
  have hfold:∀{k:Nat} (M:List Nat) (σ:qi) (y:Nat) (w:V),(G4 y).p (fz M σ) w->apply (orc B3 (k+3)) (.val (.ref 287)) [w] [] σ=qa (.str (tx (qD y)),σ):=λ{k} M σ y w hw=>by
   obtain⟨rfl,hy⟩:=hw
   have:=(Gj hy).1
   rw[<-this.fold]
   exact OX y this.fit
  rw[qbE]
  refine QC (k:=0) (q:=a) (R:=G4) (xs:=jZ qD zs) (x:=y) (O1:=orc B3 (n+4)) (O2:=orc B3 (n+3)) (key:=.val (.ref 287)) (kvs:=[.val (.ref 287)]) (kvf:=λy:Nat=>V.str (tx (qD y))) (lt:=λy z:Nat=>qR (qD y) (qD z)) (λm σ=>rfl) (λv=>.keyed _) QJ Dh rfl rfl (Jg.imp (wg (k:=1) (R:=qw) (qo (T:=jO y) rfl).list zD rfl) λσ v p=>⟨p,hy⟩) (qu (hil zs hzl) (by decide)) (.inr ⟨⟨287,rfl⟩,hfold,λM σ w hw=>hfold M σ y w hw⟩) (λy z=>Ha _ _) (Sg qD) (iD zs) (P4 ..) ?_
  refine QC (k:=1) (q:=b) (R:=qC) (xs:=(jZ qD zs).map qD) (ys:=(wb qD y (jZ qD zs)).map qD) (x:=qD y) (O1:=orc B3 (n+4)) (O2:=orc B3 (n+3)) (key:=.none) (kvs:=[]) (kvf:=λy:Wd=>V.str (tx y)) (lt:=λy z:Wd=>qR y z) (λm σ=>rfl) (λv=>.plain) QJ Dh rfl rfl (wg (k:=0) (R:=qw) (qo (T:=jO y) rfl).list zD rfl) (by rw[qH];exact qu (hil zs hzl) (by decide)) (.inl ⟨rfl,λM σ y w hw=>hw⟩) (λy z=>Ha _ _) (Sg id) (RU.mpr (Od zs)) (by
   have gi:=P4 (word:=id) (qD y) ((jZ qD zs).map qD)
   rw[show (λy z:Wd=>qR y z)=λa b=>qR (id a) (id b) from rfl,gi,<-Yh]) ?_
  exact CM λm σ s=>s.un 7
 ·refine X.at (c':=C.fr _ 0 5 (qv z9 (jZ qD ss))) ?_ (λm σ s=>s.frz (U:=zo (.ref a)) (k:=0) (q:=a) (K:=cL G4 (jZ qD ss)) rfl rfl λf o v hp ho hv=>?_) rfl
  ·refine Kt (i:=6) (k:=0) (q:=b) (R:=qC) (xs:=(jZ qD ss).map qD) rfl rfl (by rw[qH];exact lm hrl) ?_
   refine zX (T:=qv qC ((jZ qD ss).map qD)) (Dt (T:=qC) (u:=qD) (J.iter (qo (T:=qv z9 (jZ qD ss)) rfl)) (lm hrl) (λc=>Dm rfl) λc hc=>ve (qbP (n:=n+2) (h.row.all c hc)) (qJ (qo rfl) zG)) rfl ?_
   exact k
  ·obtain⟨vs,rfl,p⟩:=hp
   refine⟨lm hrl,a,vs,hv,ho,Fa.imp (R:=G4) (S:=z9) (λx _ v hv=>hv.1) p⟩
end
end
noncomputable section
open Mine.Internal.Sp
noncomputable def Ho (c:Nat):Bool:=AV.any λx=>x == (c:Int)
theorem qd6:(D4.all λe=>Ho e.2 == e.1.isEmpty)=qe:=by decide +kernel
theorem qe6 {c:Nat}(h:∃x,c=kt x):Ho c=ze (tx (qD c)) (tx []):=by
 obtain⟨x,rfl⟩:=h
 have h1:=eq_of_beq (wS.mp qd6 _ (Ou x))
 have h1:Ho (kt x)=(Dj x).isEmpty:=h1
 rw[h1,<-Qt,Aw]
 cases Dj x <;> rfl
theorem M4:∀{l:List α},(∀x∈l,q x x=qe)->wO q l l=qe
 | [],_=>rfl
 | x :: l,h=>by
  show (q x x&&wO q l l)=qe
  rw[h x zB,M4 λy hy=>h y (zI _ hy)];rfl
theorem I7 (s:qf):ze s s=qe:=by rw[wZ];exact beq_self_eq_true s
section
variable {c:C}{T U:Ty}{α β:Type}{R:α->Ty}{xs ys:List α}{i n:Nat}{a b e elt:E}{r:List S}{P:Po}
theorem eD (h:qy c.Γ i=qa x)(Δ:List (Option Ty)):qy (c.ex Δ).Γ i=qa x:=by
 show qy (c.Γ++Δ) i=_
 rw[FG,if_pos (kF.mp ((za ..).symm.trans h)).1];exact h
theorem Gc (h:qy c.Γ i=qa (qa T)):J (c.ex Δ) (.var i) T:=qo (eD h Δ)
theorem PU (hL:c.Γ.length=i)(k:Nat)(h:qy Δ k=qa (qa T)):J (c.ex Δ) (.var (i+k)) T:=qo (by
 show qy (c.Γ++Δ) (i+k)=_
 rw[FG,if_neg (by rw[hL];exact k8.mpr (Ba ..)),hL,Nat.add_sub_cancel_left];exact h)
theorem CI (hL:c.Γ.length=16):J (c.ex [qb,qa U]) (.var 17) U:=PU hL 1 rfl
theorem jm {T:β->Ty}(hL:c.Γ.length=16)(h:JI c e R xs)(hm:xs.length<=qF)(hb:∀x∈xs,J (c.ex [qb,qa (R x)]) elt (T (u x))):J c (.lcomp 2 elt (.var 17) e [] []) (qv T (xs.map u)):=Dt h hm (λx=>Dm hL) hb
theorem GW {q:α->α->Bool}(he:∀x y,vF 3 (R x) (R y) (q x y))(hq:∀x,q x x=qe)(ha:J c a (qv R xs))(hb:J c b (qv R xs)):J c (.cmp .NotEq a b) (qO qg)/\J c (.cmp .Eq a b) (qO qe):=by
 have e0:wO q xs xs=qe:=M4 λx _=>hq x
 refine⟨(YT ha hb (Fh he)).to (by rw[e0];rfl),(W2 ha hb (Fh he)).to (by rw[e0])⟩
theorem qaW (h:J c a (qv R [x])):J c (.bin .Mult a (.int 2)) (qv R [x,x]):=λm σ s =>
 Dn.bnd (h m σ s) λv qM s1 p _=>Dn.bndE (b:=V.int 2) (zO rfl s1 rfl) λzZ s2 g=>by
  obtain⟨_,i,vs,rfl,h1,h2⟩:=p
  have q1:=(fz_get (c.le g _ _ h1)).1
  cases h2 with | @cons _ v _ _ h2 h3 =>
  cases h3
  have h2:=(R x).mono (c.le g) h2
  refine Dn.of (y:=zM (.list [v,v]) zZ) ?_ (Bj s2 λf hf ho=>⟨zL (kJ rfl),_,_,rfl,ho,.cons ((R x).mono hf h2) (.cons ((R x).mono hf h2) .nil)⟩)
  exact(vQ (f:=λxs=>if decide ((0:Int)<=2)&&decide ((2:Int)<=1000)&&decide (xs.length<=1000) then zM (.list (BX xs (2:Int).toNat)) zZ else qb) q1).trans rfl
theorem KX {xs:List qf}(ha:J c a (qv qw xs))(hb:J c b (qv qw xs)):J c (.cmp .NotEq a b) (qO qg)/\J c (.cmp .Eq a b) (qO qe):=GW (λa b=>Eo) I7 ha hb
theorem qfE {c:Nat}:Fn (orc B (n+2)) 83 [z9 c] (qO (Ho c)):=λM σ vs hM p=>by
 obtain⟨_,rfl,rfl⟩:=GS p
 exact B6 (Yt c) λ_=>rfl
theorem qaF (h:SG ss)(hO:c.O=orc B3 (n+5))(hL:c.Γ.length=16)(h8:qy c.Γ 8=qa (qa (qv qC (ss.map qD))))(h6:qy c.Γ 6=qa (qa (qv qC (ss.map qD))))(h5:qy c.Γ 5=qa (qa (qv z9 ss)))(h4:qy c.Γ 4=qa (qa (qv jO ss)))(k:X c r P):X c (QY :: r) P:=by
 have hle:=lm h.le
 have j4:=J.iter (qo h4)
 have j0:∀x,J (c.ex [qb,qa (jO x)]) (.idx (.var 17) (.int 0)) (qC (qD x)):=λx=>wg (k:=0) (R:=qw) (xs:=[tx (qD x),tx [x]]) (CI (U:=jO x) hL).list zD rfl
 have jw:J c (.lcomp 2 (.idx (.var 17) (.int 0)) (.var 17) (.var 4) [] []) (qv qC (ss.map qD)):=jm hL j4 hle λx _=>j0 x
 have t1:J c (.lcomp 2 (.idx (.var 17) (.int 1)) (.var 17) (.var 4) [] []) (qv z9 ss):=(jm (T:=z9) (u:=λx=>x) hL j4 hle λx _=>wg (k:=1) (R:=qw) (xs:=[tx (qD x),tx [x]]) (CI (U:=jO x) hL).list zD rfl).to (by rw[c9])
 have l2:(2:Nat)<=qF:=zL (kJ rfl)
 have t2:=GW (R:=qv qC) (xs:=[ss.map qD,ss.map qD]) (λa b=>Fh λx y=>Eo) (λl=>M4 λx _=>I7 _) (wJ (xs:=[ss.map qD,ss.map qD]) (qJ (qo h8) (qJ (qo h6) zG)) l2) (qaW (wJ (xs:=[ss.map qD]) (qJ jw zG) (Bf l2)))
 have t3:J c (.lcomp 2 (.call (.glob (.type "str")) [(.call (.glob (.ref 83)) [(.var 17)] [] [])] [] []) (.var 17) (.var 5) [] []) (qv qw (ss.map λx=>cond (Ho x) GP Gu)):=jm hL (J.iter (qo h5)) hle λx _=>YE (ve (by show Fn c.O 83 _ _;rw[hO];exact qfE (n:=n+3)) (qJ (CI hL) zG))
 have t4:J c (.lcomp 2 (.call (.glob (.type "str")) [(.cmp .Eq (.idx (.var 17) (.int 0)) (.str ⟨#[]⟩))] [] []) (.var 17) (.var 4) [] []) (qv qw (ss.map λx=>cond (Ho x) GP Gu)):=jm hL j4 hle λx hx=>by
  rw[qe6 (h.all x hx)]
  exact YE (CH (y:=tx []) (j0 x) vJ)
 exact wH (b:=qg) (KL (BW (J.test (GW (λa b=>Q0) (λx=>decide_eq_true rfl) (qo h5) t1).1 rfl) λ_=>BW (J.test t2.1 rfl) λ_=>BW (J.test (KX t3 t4).1 rfl) λ_=>KJ)) k
end
end
noncomputable section
open Mine.Internal.Sp
section
variable {c:C}{a:E}{r:List S}{P:Po}{n:Nat}{cs:List Nat}{R1:List Qe}{S1:List Be}
theorem SG.given (h:SG cs)(hr:ku (cs.map qD)):jV B3 cs qD where
 row:=hr
 mean:=λc hc=>(Gj (h.all c hc)).1
 abc:=λw hw d hd=>by
  obtain⟨c,hc,rfl⟩:=qG.mp hw
  exact(Gj (h.all c hc)).2.2.2.2 d hd
 len:=Ph
 five:=h.le
 sign:=λc hc=>⟨(Gj (h.all c hc)).2.1,(Gj (h.all c hc)).2.2.1⟩
structure AX (cs:List Nat)(R1:List Qe)(S1:List Be):Prop where
 run:jW Qe.rest Qe.size (ju (cs.map qD)) 400 (DK (cs.map qD)) []=qa R1
 out:outer (cs.map qD) 3000 3000 0 (Ed (cs.map qD)) []=qa S1
 nd:(R1.map Qe.rest).Nodup
 srt:jR Qe.size R1
 ok:∀e∈R1,kq (cs.map qD) 0 e
 ndS:((zH (cs.map qD) S1).map (·.1)).Nodup
 mem:∀r,r∈R1.map Qe.rest↔r∈(zH (cs.map qD) S1).map (·.1)
 at_:∀e∈R1,(e.rest,e.size)∈zH (cs.map qD) S1
theorem xP (g:jV B3 cs qD):∃R1 S1,AX cs R1 S1:=by
 obtain⟨R,S,h1,h2,h3,h4,h5,h6,h7,h8⟩:=qcf g.row g.wlen g.w5
 refine⟨R,S,h1,h2,h3,h4,OJ 400 _ _ _ h1 (λe he=>QE ((K9 e).mp he)) (λ_ h=>nomatch h),h6,h7,h8⟩
theorem IV (g:jV B3 cs qD)(rc:AX cs R1 S1):R1.length<=20:=UD g (λe he=>(rc.ok e he).part) rc.nd
theorem YV (hO:c.O=orc B3 (n+5))(hl:es.length<=qF)(h:J c a (vt es)):J c (.meth a Bl [] [] []) (qv qw (es.map Q3)) :=
 KA h (by rw[hO];exact qaC) rfl (by show Fn c.O 221 _ _;rw[hO];exact fX hl) zG
theorem Xr (hO:c.O=orc B3 (n+5))(hl:es.length<=qF)(h:J c a (vt es)):J c (.meth a LW [] [] []) (qv jC es) :=
 KA h (by rw[hO];exact fE) rfl (by show Fn c.O 233 _ _;rw[hO];exact qgi hl) zG
noncomputable abbrev L8 (n:Nat)(G:Gh)(o:Option Ty)(cs:List Nat)(R1:List Qe)(S1:List Be)(o14 o15:Option Ty):C:=⟨orc B3 (n+5),[],[],G,[],[qb,o,qb,qb,qa (qv jO cs),qa (qv z9 cs),qa (qv qC (cs.map qD)),qb,qa (qv qC (cs.map qD)),qa (vt (R1.map (zJ cs))),qa (qv jC (R1.map (zJ cs))),qa G8,qa (At qP (kD (zH (cs.map qD) S1))),qa (qv qC (R1.map Qe.rest)),o14,o15]⟩
theorem qad (g:jV B3 cs qD)(rc:AX cs R1 S1)(k:X (L8 n G o cs R1 S1 qb qb) r P) :
  X (Jh n G [] o (qa (qv jO cs)) (qa (qv z9 cs)) (qa (qv qC (cs.map qD))) qb (qa (qv qC (cs.map qD)))) (NB :: PF :: O9 :: r) P:=by
 refine LY (T:=qv id [vt (R1.map (zJ cs)),qv jC (R1.map (zJ cs)),G8]) (ve (qez g rc.run) (qJ (qo rfl) (qJ (qo rfl) zG))) (K8 Zc rfl rfl) ?_ rfl
 refine zX (T:=At qP (kD (zH (cs.map qD) S1))) (ve (gH (n:=n+4) ⟨g.wlen,g.w5,g.no32⟩ rc.out) (qJ (qo rfl) zG)) rfl ?_
 have hl:R1.length<=qF:=zL (qu (IV g rc) (by decide))
 refine zX (T:=qv qC (R1.map Qe.rest)) (jm (u:=Qe.rest) rfl (JI.un (R:=qw) (u:=jD) (J.iter ((YV (n:=n) (es:=R1.map (zJ cs)) rfl (by rw[qH];exact hl) (qo rfl)).to (by rw[wX];rfl)))) hl λe he=>?_) rfl k
 have hr:=g.rest (rc.ok e he).part
 rw[qC,<-DJ hr]
 exact PA (s:=jD e) (CI (U:=qw (jD e)) rfl) (by rw[DJ hr];exact(A4 hr).2.2.1)
end
end
noncomputable section
open Mine.Internal.Sp
section
variable {c:C}{a:E}{r:List S}{P:Po}{n:Nat}{cs:List Nat}{R1:List Qe}{S1:List Be}
noncomputable def Cs (e:Qe):qf:=if ze (jD e) (tx e.rest)=qe then tx (up e.rest) else tx e.rest
theorem n9 (hn:(R1.map Qe.rest).Nodup)(he:e∈R1):(R1.find? λx=>x.rest == e.rest)=qa e:=by
 obtain⟨e0,h0,h1,h2⟩:=Pq (R:=R1) (r:=e.rest) (qG.mpr ⟨e,he,rfl⟩)
 rw[h1,Ie hn h0 he h2]
theorem SU (g:jV B3 cs qD)(rc:AX cs R1 S1)(he:e∈R1):zp (Cs e)=tx e.rest:=by
 have hr:=g.rest (rc.ok e he).part
 unfold Cs
 split
 ·exact(Ep hr).2.2.1
 ·exact(Ep hr).1
theorem NA (g:jV B3 cs qD)(rc:AX cs R1 S1)(he:e∈R1):told (R1.map (zJ cs)) (Cs e) .none=.str (kW cs e):=by
 unfold told
 rw[K4 (λx hx=>g.rest (rc.ok x hx).part) (SU g rc he),n9 rc.nd he];rfl
theorem qaO (g:jV B3 cs qD)(rc:AX cs R1 S1)(hO:c.O=orc B3 (n+5))(hL:c.Γ.length=16)(h9:qy c.Γ 9=qa (qa (vt (R1.map (zJ cs)))))(h10:qy c.Γ 10=qa (qa (qv jC (R1.map (zJ cs)))))(h11:qy c.Γ 11=qa (qa G8))(k:X c r P):X c (PG :: r) P:=by
 have hl1:=IV g rc
 have hl:R1.length<=qF:=zL (qu hl1 (by decide))
 have hl':(R1.map (zJ cs)).length<=qF:=by rw[qH];exact hl
 have t1:J c (.cmp .In (.bool qg) (.var 11)) (qO qg):=(Me (T:=qO qg) QS (qo h11) λσ v w p q=>by
  obtain⟨kk,hk,i,vs,rfl,a,f⟩:=q
  refine qZ ((za ..).trans (fz_get a).1) ((if_pos (Br f hk)).trans (qZ (PI (q:=λb=>b == qg) (λx w hw=>QB _ _ _ _ hw p) f) (congrArg qa ?_)))
  show ((zS kk qe).map λb=>b == qg).any id=qg
  rw[cX]
  intro b hb
  obtain⟨x,hx,rfl⟩:=qG.mp hb
  rw[List.eq_of_mem_replicate hx];decide).1
 have jw:=J.iter (qo h10)
 have jk:=YV hO hl' (qo h9)
 have p0:∀e:qf×qf,J (c.ex [qb,qa (jC e)]) (.idx (.var 17) (.int 0)) (qw e.1):=λe=>Qg (k:=0) (Ts:=[qw e.1,qw e.2]) (CI (U:=jC e) hL) zD rfl
 have p1:∀e:qf×qf,J (c.ex [qb,qa (jC e)]) (.idx (.var 17) (.int 1)) (qw e.2):=λe=>Qg (k:=1) (Ts:=[qw e.1,qw e.2]) (CI (U:=jC e) hL) zD rfl
 have t2:=GW (λx y=>qa7 Eo Eo) (λx=>by rw[I7,I7];rfl) (Xr hO hl' (qo h9)) (qo h10)
 have t3:=KX jk (jm hL jw hl' λe _=>p0 e)
 have t4:J c (.cmp .NotEq (.lcomp 2 (.meth (.var 9) vn [(.ite (.cmp .Eq (.var 17) (.meth (.var 17) wG [] [] [])) (.meth (.var 17) D6 [] [] []) (.meth (.var 17) wG [] [] []))] [] []) (.var 17) (.meth (.var 9) Bl [] [] []) [] []) (.lcomp 2 (.idx (.var 17) (.int 1)) (.var 17) (.var 10) [] [])) (qO qg):=by
  refine(KX (xs:=R1.map (kW cs)) (jm (u:=kW cs) hL (JI.un (R:=qw) (u:=jD) (J.iter (jk.to (by rw[wX];rfl)))) hl λe he=>?_) ((jm (T:=qw) (u:=qgj) hL jw hl' λe _=>p1 e).to (by rw[wX];rfl))).1
  have hr:=g.rest (rc.ok e he).part
  have jv:J (c.ex [qb,qa (qw (jD e))]) (.var 17) (qw (jD e)):=CI hL
  have jl:=PA jv (by rw[DJ hr];exact(A4 hr).2.2.1)
  rw[DJ hr] at jl
  have hlo:=SU g rc he
  have ji:J (c.ex [qb,qa (qw (jD e))]) (.ite (.cmp .Eq (.var 17) (.meth (.var 17) wG [] [] [])) (.meth (.var 17) D6 [] [] []) (.meth (.var 17) wG [] [] [])) (qw (Cs e)):=by
   refine LS (J.test (CH jv jl) rfl) (λhb=>?_) λhb=>?_
   ·have e1:jD e=tx e.rest:=vG hb
    have e2:Cs e=Cg (jD e):=by unfold Cs;rw[if_pos hb,e1,(Ep hr).2.1]
    rw[e2]
    exact WJ jv (by rw[e1,(Ep hr).2.1];exact(A4 hr).2.2.2)
   ·have e2:Cs e=tx e.rest:=by unfold Cs;rw[if_neg (by rw[hb];exact jy)]
    rw[e2]
    exact jl
  refine(KA (T:=zo (told (R1.map (zJ cs)) (Cs e) .none)) (Gc h9) (by rw[show (c.ex [qb,qa (qw (jD e))]).O=orc B3 (n+5) from hO];exact Mg) rfl (by show Fn c.O 216 _ _;rw[hO];exact tX (nm:=Cs e) (by rw[hlo];exact(A4 hr).1) (by rw[hlo];exact(A4 hr).2.2.1) (LC g rc.ok)) (qJ ji zG)).to (by rw[NA g rc he])
 exact wH (b:=qg) (KL (BW (J.test t1 rfl) λ_=>BW (J.test t2.1 rfl) λ_=>BW (J.test t3.1 rfl) λ_=>BW (J.test t4 rfl) λ_=>KJ)) k
end
end
noncomputable section
open Mine.Internal.Sp
section
variable {c:C}{a:E}{r:List S}{P:Po}{n:Nat}{cs:List Nat}{R1:List Qe}{S1:List Be}
theorem fV {a b:List qf}(p:a.Perm b):Bu a=Bu b:=NT ((E2 a).trans p) (Kw WW Nv a)
theorem VF (rc:AX cs R1 S1):(R1.map Qe.rest).Perm ((zH (cs.map qD) S1).map (·.1)):=(List.perm_ext_iff_of_nodup rc.nd rc.ndS).mpr rc.mem
theorem tY (g:jV B3 cs qD)(rc:AX cs R1 S1):(zH (cs.map qD) S1).length<=20:=by
 have:=(VF rc).length_eq
 rw[qH,qH] at this
 have:=IV g rc
 lia
theorem rX (e:Qe):ze (kW cs e) (tx [33])=qg:=by
 cases q:ze (kW cs e) (tx [33]) with
 | false=>rfl
 | true =>
  have h:=Bp (vG q)
  have:(32:Nat)∈([33]:List Nat):=h▸wV _ zB
  exact absurd this (by decide)
theorem qeX:((kD (zH (cs.map qD) S1)).any λe=>e.1 == tx [])=decide ([]∈(zH (cs.map qD) S1).map (·.1)):=by
 rw[kD,k9,decide_eq_true_eq,JQ,C0,qG]
 constructor
 ·rintro ⟨e,he,q⟩;refine⟨e,he,Bp (eq_of_beq q)⟩
 ·rintro ⟨e,he,q⟩
  refine⟨e,he,?_⟩
  show (tx e.1 == tx [])=qe
  rw[q];exact beq_self_eq_true _
theorem J.as (h:J c a (qv (λx=>R (u x)) xs)):J c a (qv R (xs.map u)):=h.imp λσ v p=>by
 obtain⟨hl,i,vs,e,q,f⟩:=p
 refine⟨by rw[qH];exact hl,i,vs,e,q,Fa.map (λx v h=>h) f⟩
theorem qgd (g:jV B3 cs qD)(rc:AX cs R1 S1)(hO:c.O=orc B3 (n+5))(h9:qy c.Γ 9=qa (qa (vt (R1.map (zJ cs)))))(h12:qy c.Γ 12=qa (qa (At qP (kD (zH (cs.map qD) S1)))))(h13:qy c.Γ 13=qa (qa (qv qC (R1.map Qe.rest))))(k:X c r P):X c (Pj :: r) P:=by
 have hl1:=IV g rc
 have hl2:=tY g rc
 have jd:=(qo h12).dict
 have t1:=(KX ((gD (J.as (R:=qw) (u:=tx) (qo h13)).list (by rw[qH,qH];exact qu hl1 (by decide))).to (congrArg (qv qw) (fV (b:=(kD (zH (cs.map qD) S1)).map (·.1)) (by
  have:=(VF rc).map tx
  rw[wX (l:=zH (cs.map qD) S1)] at this
  rw[kD,wX (l:=zH (cs.map qD) S1)]
  exact this)))) (xB jd (by rw[kD,qH];exact qu hl2 (by decide)))).1
 have hw:=A4 (w:=[]) (kH _ (kH _ zB))
 have hlo:zp (tx [])=tx []:=(Ep (w:=[]) (kH _ (kH _ zB))).1
 have jn:=(Nz (s:=tx []) (a:=.str ⟨#[]⟩) vJ jd).2
 rw[qeX] at jn
 have jg:J c (.meth (.var 9) vn [(.str ⟨#[]⟩),(.str ⟨#[33]⟩)] [] []) (zo (told (R1.map (zJ cs)) (tx []) (.str (tx [33])))):=KA (qo h9) (by rw[hO];exact Mg) rfl (by show Fn c.O 216 _ _;rw[hO];exact rM (nm:=tx []) (dv:=tx [33]) (by rw[hlo];exact hw.1) (by rw[hlo];exact hw.2.2.1) (LC g rc.ok)) (qJ vJ (qJ vJ zG))
 unfold told at jg
 rw[K4 (cs:=cs) (R:=R1) (r:=[]) (λx hx=>g.rest (rc.ok x hx).part) (nm:=tx []) hlo] at jg
 have t2:J c (.cmp .NotEq (.cmp .Eq (.meth (.var 9) vn [(.str ⟨#[]⟩),(.str ⟨#[33]⟩)] [] []) (.str ⟨#[33]⟩)) (.cmp .NotIn (.str ⟨#[]⟩) (.var 12))) (qO qg):=by
  by_cases hin:[]∈R1.map Qe.rest
  ·obtain⟨e0,h0,h1,h2⟩:=Pq hin
   rw[h1] at jg
   rw[decide_eq_true ((rc.mem []).mp hin)] at jn
   exact(Yr (CH (x:=kW cs e0) (y:=tx [33]) jg vJ) jn).to (by rw[rX];rfl)
  ·rw[QO hin] at jg
   rw[decide_eq_false λh=>hin ((rc.mem []).mpr h)] at jn
   exact(Yr (CH (x:=tx [33]) (y:=tx [33]) jg vJ) jn).to (by rw[I7];rfl)
 exact wH (b:=qg) (KL (BW (J.test t1 rfl) λ_=>BW (J.test t2 rfl) λ_=>KJ)) k
theorem Ps (h:∀j∈l,j < (cs.map qD).length):(sg cs l).map qD=l.map (qI (cs.map qD)):=by
 unfold sg
 rw[wX]
 refine RT λj hj=>?_
 have hw:(cs.map qD)[j]?=qa (qD (cs.getD j 0)):=by rw[wU,IZ (h j hj)];rfl
 exact(CG hw).2.symm
theorem qfa (hn:cs.Nodup){a b:List Nat}(ha:∀j∈a,j < (cs.map qD).length)(hb:∀j∈b,j < (cs.map qD).length)(h:a.head?≠b.head?):(sg cs a).head?≠(sg cs b).head?:=by
 have e:∀l:List Nat,(sg cs l).head?=l.head?.map λj=>cs.getD j 0:=λl=>by cases l <;> rfl
 rw[e,e]
 intro q
 cases a with
 | nil=>cases b with
  | nil=>exact h rfl
  | cons=>cases q
 | cons i a=>cases b with
  | nil=>cases q
  | cons j b =>
   have q:cs.getD i 0=cs.getD j 0:=zc q
   have hi:=ha i zB
   have hj:=hb j zB
   have h1:=IZ hi
   have h2:=IZ hj
   rw[q,<-h2] at h1
   rw[qH] at hi
   have:=(qiq hi hn).mp h1
   exact h (by rw[this];rfl)
theorem mO (g:jV B3 cs qD)(hn:cs.Nodup)(rc:AX cs R1 S1)(he:e∈R1):Fn (orc B3 (n+2)) 316 [qw (kW cs e),qC e.rest,At qw (cs.map λc=>(tx [c],tx (qD c)))] (qP e.size):=by
 have ok:=rc.ok e he
 have hg:=ok.good
 have h32:∀{l:List Nat},(∀j∈l,j < (cs.map qD).length)->32∉sg cs l:=λh hm=>by
  have:=(g.sign 32 (Ji g h 32 hm)).1;lia
 have hla:=ok.la
 have hlb:=ok.lb
 have zu:((sg cs e.ahead).map qD).flatten.length=e.size:=by rw[Ps ok.ia,hg.size];rfl
 rw[<-zu]
 refine rE (wd:=qD) (h32 ok.ia) (h32 ok.ib) (qfa hn ok.ia ok.ib hg.head) (λc hc=>?_) Ph (Je g.wlen ok.part) ?_ (by rw[IL];lia) (by rw[IL];lia)
 ·have hcs:c∈cs:=by
   rcases zT.mp hc with hc | hc
   ·exact Ji g ok.ia c hc
   ·exact Ji g ok.ib c hc
  clear hla hlb zu hg ok he rc hc g hn h32
  induction cs with
  | nil=>cases hcs
  | cons d cs ih =>
   rw[z7,Al]
   by_cases q:c=d
   ·subst q
    have:((⟨#[c]⟩:qf) == tx [c])=qe:=beq_self_eq_true (tx [c])
    rw[this]
   ·have:((⟨#[c]⟩:qf) == tx [d])=qg:=by
     refine beq_eq_false_iff_ne.mpr λh=>q ?_
     have h:tx [c]=tx [d]:=h
     have:=Bp h
     injection this
    rw[this]
    rcases jJ.mp hcs with h | h
    ·exact absurd h q
    ·exact ih h
 ·rw[Ps ok.ia,Ps ok.ib]
  exact hg.text
end
end
noncomputable section
open Mine.Internal.Sp
theorem ZW:∀(ps es:List (qf×V)),(es++ps).map (·.1) |>.Nodup->(ps.map λp=>(V.str p.1,p.2)).foldl (λql e=>bn1 ql λes=>vS e.1 λs=>qa (wy es s e.2)) (qa es)=qa (es++ps)
 | [],es,_=>by rw[jF];rfl
 | p :: ps,es,h=>by
  have h1:p.1∉es.map (·.1):=λhm=>by
   rw[jQ,z7] at h
   exact(BJ.mp h).2.2 _ hm _ zB rfl
  rw[z7,HB]
  show aL _ (qa (wy es p.1 p.2)) _=_
  rw[WN _ _ _ h1,ZW ps (es++[p]) (by rw[jq];exact h),jq];rfl
section
variable {α:Type}{R:α->Ty}{xs:List α}{c:C}{a k w e:E}{r:List S}{P:Po}{n:Nat}{cs:List Nat}{R1:List Qe}{S1:List Be}
noncomputable def T9 (key:α->qf)(S:α->Ty):α->FV->V×V->Prop:=λx f p=>p.1=.str (key x)/\(S x).p f p.2
theorem Fp.kv {key:α->qf}{S:α->Ty}(h:Fp (T9 key S) f xs ps):∃us,Fa S f xs us/\ps=((xs.map key).zip us).map λp=>(V.str p.1,p.2):=by
 induction h with
 | nil=>refine⟨[],.nil,rfl⟩
 | @cons x p xs ps h _ ih =>
  obtain⟨us,f,e⟩:=ih
  obtain⟨p1,p2⟩:=p
  obtain⟨h1,h2⟩:=h
  obtain rfl:p1=_:=h1
  refine⟨p2 :: us,.cons h2 f,by rw[e];rfl⟩
theorem qaP {key:α->qf}{S:β->Ty}{u:α->β}{Δ:α->List (Option Ty)}(h:JI c e R xs)(hm:xs.length<=qF)(jE:(xs.map key).Nodup)(hn:∀x,Bn c m0 t (R x) (Δ x))(hk:∀x∈xs,J (c.ex (Δ x)) k (qw (key x)))(hw:∀x∈xs,J (c.ex (Δ x)) w (S (u x))):J c (.dcomp m0 k w t e [] []) (At S (xs.map λx=>(key x,u x))):=λm σ s =>
 Xp (fr:=λm=>m++zS m0 qb) (Q:=T9 key λx=>S (u x)) (g:=λx=>[x]) (λx f g p hf h=>⟨h.1,(S (u x)).mono hf h.2⟩) h (by rw[GD,c9];exact hm) (λx hx m σ v ql s p hl=>by
  obtain⟨m',e1,s'⟩:=hn x m σ v s p
  exact Dn.bn1 e1 (Dn.back (Dn.bndE (hk x hx m' σ s') λqM s1 _=>Dn.bnd (hw x hx m' qM s1) λw zZ s2 p2 _=>Dn.ifp (Af (Bf hl)) (zO rfl s2 ⟨[(V.str (key x),w)],rfl,.cons ⟨rfl,p2⟩ .nil⟩)) s)) s λps σ' s' p=>by
 rw[GD,c9] at p
 obtain⟨us,f,rfl⟩:=p.kv
 have hz:((xs.map key).zip us).map (·.1)=xs.map key:=by rw[List.map_fst_zip];rw[qH,f.len];exact qU _
 have hy:((xs.map key).zip us).map (·.2)=us:=by rw[List.map_snd_zip];rw[qH,f.len];exact qU _
 refine Dn.bn1 (ZW ((xs.map key).zip us) [] (by rw[MV,hz];exact jE)) (Bj s' λf' hf ho=>⟨by rw[qH];exact hm,_,_,rfl,ho,?_⟩)
 refine⟨by rw[MV,hz,wX];rfl,by rw[MV,hy];exact Fa.map (λx v h=>h) (f.mono hf)⟩
theorem qbD (rc:AX cs R1 S1){e:Qe}(he:e∈R1):(kD (zH (cs.map qD) S1)).lookup (tx e.rest)=qa e.size:=by
 unfold kD
 have h1:=rc.at_ e he
 have h2:=rc.ndS
 generalize zH (cs.map qD) S1=L at *
 clear rc he
 induction L with
 | nil=>cases h1
 | cons d L ih =>
  rw[z7] at h2
  obtain⟨k1,k2⟩:=k7.mp h2
  rw[z7,Al]
  rcases jJ.mp h1 with q | q
  ·subst q
   have:((tx e.rest) == tx e.rest)=qe:=beq_self_eq_true _
   rw[this]
  ·have zy:e.rest≠d.1:=λq2=>k1 (qG.mpr ⟨_,q,q2⟩)
   have:((tx e.rest) == tx d.1)=qg:=beq_eq_false_iff_ne.mpr λh=>zy (Bp h)
   rw[this]
   exact ih q k2
theorem iO (rc:AX cs R1 S1):Gb ((R1.map Qe.size).map λk:Nat=>(k:Int))=(R1.map Qe.size).map λk:Nat=>(k:Int):=by
 refine(R9 (.refl _) ?_).symm
 rw[wX]
 refine RU.mpr (rc.srt.imp λ{a b} h=>decide_eq_false ?_)
 show ¬((b.size:Int) < (a.size:Int))
 lia
theorem qdT (h:SG cs)(g:jV B3 cs qD)(rc:AX cs R1 S1)(G:Gh)(o:Option Ty):X (L8 n G o cs R1 S1 qb qb) [Nd,NL,Nk] λfl _ _=>fl=.ret (.bool qe):=by
 have hl1:=IV g rc
 have hl:R1.length<=qF:=zL (qu hl1 (by decide))
 have hcl:=lm h.le
 have jE:(cs.map λc=>tx [c]).Nodup:=by
  refine RU.mpr (h.nd.imp λ{a b} hab q=>hab ?_)
  have:=Bp q
  injection this
 have dr:∀{Γ:List (Option Ty)} (hΓ:Γ.length=16) (k:Nat) (T:Ty) (x:Nat) (hT:([tx (qD x),tx [x]].map qw)[k]?=qa T),J (C.ex ⟨orc B3 (n+5),[],[],G,[],Γ⟩ [qb,qa (jO x)]) (.idx (.var 17) (.int (k:Nat))) T:=λhΓ k T x hT=>by
  obtain⟨s,hs,rfl⟩:=My.mp ((wU ..).symm.trans hT)
  exact wg (k:=k) (R:=qw) (CI (U:=jO x) hΓ).list zD hs
 refine zX (T:=At qw (cs.map λc=>(tx [c],tx (qD c)))) (qaP (key:=λc:Nat=>tx [c]) (S:=qw) (u:=λc=>tx (qD c)) (J.iter (qo (T:=qv jO cs) rfl)) hcl jE (λx=>Dm rfl) (λx _=>dr rfl 1 _ x rfl) λx _=>dr rfl 0 _ x rfl) rfl ?_
 refine zX (T:=qv qP (R1.map Qe.size)) (Dt (u:=Qe.size) (Δ:=λe=>[qb,qa (qw (jD e)),qa (qw (kW cs e))]) (JI.un (R:=jC) (u:=zJ cs) (J.iter (Xr (n:=n) rfl (by rw[qH];exact hl) (qo rfl)))) hl (λe=>Kd Ol rfl) λe he=>?_) rfl ?_
 ·have hr:=g.rest (rc.ok e he).part
  refine ve (Ts:=[qw (kW cs e),qC e.rest,At qw (cs.map λc=>(tx [c],tx (qD c)))]) (mO (n:=n+3) g h.nd rc he) (qJ (PU (i:=16) rfl 2 rfl) (qJ ?_ (qJ (Gc (i:=14) rfl) zG)))
  rw[qC,<-DJ hr]
  exact PA (s:=jD e) (PU (i:=16) rfl 1 rfl) (by rw[DJ hr];exact(A4 hr).2.2.1)
 have jz:∀{T:Ty} {i:Nat},qy (L8 n G o cs R1 S1 (qa (At qw (cs.map λc=>(tx [c],tx (qD c))))) (qa (qv qP (R1.map Qe.size)))).Γ i=qa (qa T)->J (L8 n G o cs R1 S1 (qa (At qw (cs.map λc=>(tx [c],tx (qD c))))) (qa (qv qP (R1.map Qe.size)))) (.var i) T:=λh=>qo h
 have ja:=(GW (R:=qP) (λa b=>Py) (λx=>decide_eq_true rfl) (jz (i:=15) rfl) (jm (u:=Qe.size) rfl (JI.un (R:=qC) (u:=Qe.rest) (J.iter (jz (i:=13) rfl))) hl λe he=>Yl (R:=qP) (s:=tx e.rest) (Gc (i:=12) rfl).dict (CI (U:=qC e.rest) rfl) (qbD rc he))).2
 have ji:=J.as (R:=zb) (u:=λk:Nat=>(k:Int)) (jz (T:=qv qP (R1.map Qe.size)) (i:=15) rfl)
 have jb:=(GW (R:=zb) (λa b=>Ym) (λx=>beq_self_eq_true x) ji ((sB ji.list (by rw[qH,qH];exact qu hl1 (by decide))).to (congrArg (qv zb) (iO rc)))).2
 have jc:=(Ky (T:=qO qg) (q:=λb=>b == qg) QS (J.list (jm (T:=qO) (u:=λ_=>qe) (xs:=cs.map qD) rfl (J.iter (jz (i:=8) rfl)) (by rw[qH];exact hcl) λw hw=>ve (mY g.row g.mean g.lt Ph (g.wlen w hw) h.le) (qJ (Gc (i:=5) rfl) (qJ (Gc (i:=8) rfl) (qJ (J.as (R:=Ma) (u:=λc=>(qD c,c)) (Gc (T:=qv jO cs) (i:=4) rfl)) (qJ (CI (U:=qC w) rfl) zG)))))) λx=>QB).2
 refine KO (T:=qO qe) ((Sf (Ib ja λ_=>Ib jb λ_=>Yo jc)).to ?_) λv m σ s p=>congrArg Fl.ret p
 have:(((cs.map qD).map λ_=>qe).any λb=>b == qg)=qg:=by
  rw[cX]
  intro b hb
  obtain⟨_,_,rfl⟩:=qG.mp hb
  decide
 rw[this];rfl
end
end
noncomputable section
open Mine.Internal.Sp
theorem law_rest (h:SG ss) :
  X (Jh n G [(q,cL jO ss)] (qa (zo (.ref q))) qb qb qb qb qb) [NJ,M8,O3,PL,N4,QY,NB,PF,O9,PG,Pj,Nd,NL,Nk] λfl _ _=>fl=.ret (.bool qe):=by
 have g:=h.row.given (RU.mpr (Od ss))
 obtain⟨R1,S1,rc⟩:=xP g
 exact hJ h (qaF h.row rfl rfl rfl rfl rfl rfl (qad g rc (qaO g rc rfl rfl rfl rfl rfl (qgd g rc rfl rfl rfl rfl (qdT h.row g rc _ _)))))
end
end Mine.Internal.J
namespace Mine.Internal
open PySem PySem.W PyProof.Rows
section
open PySem.SeqAt
noncomputable abbrev j8:zg:=AA.scope.names
noncomputable abbrev k6:List qf:=zA AA.scope.names
noncomputable def kY:qj:=327
section
variable {P:zC}{led:Bool}{D:Nat->zk}{w:qK}{O:qE}{env:q0}{ρ qr:List qj}{h h':Heap}{m m':qx}{σ σ':qi}
structure Ej (env:q0)(ρ:List qj)(h:Heap):Prop where
 out:kY∉ρ
 own:¬vd env j8 kY
 at_:∃o,h.get? kY=qa o/\o.cls≠.type "frame"
noncomputable def ZB (P:zC)(led:Bool)(D:Nat->zk)(w:qK)(h h':Heap):Prop:=(∀o,h.get? kY=qa o->h'.get? kY=qa o)/\∃ρ σ,qt pw w (H1 P led D) gG tabs h' ρ σ
theorem sF:(H1 P led D).objs.size<=kY:=by rw[Ce];decide
theorem Ej.step (x:Ej env ρ h)(S:qY (H1 P led D) (vd env j8) ρ h qr h'):Ej env qr h'/\∀o,h.get? kY=qa o->h'.get? kY=qa o:=by
 obtain⟨x1,x2,o,x3,x4⟩:=x
 have e:=(S.keep kY o sF x1 x2 x3).1 x4
 refine⟨⟨S.notin x1 x3,x2,o,e,x4⟩,λo' ho=>by obtain rfl:=sj x3 ho;exact e⟩
theorem Si {env:q0}{M:A9}{A:zh}{E:qh->qk->Prop}(hΓ:Γ.In A):∀(l:List z6){s:qk}{p:qT},
  j6 M Γ (jS l env) (λf _ s'=>match f with | .next=>qq M A (jS r env) Q E s' | f=>Q f s') (λe _ s'=>E e s') p s->j6 M Γ (jS (l++r) env) (λf _ s'=>Q f s') (λe _ s'=>E e s') p s
 | [],s,p=>@λh=>(show qq M A (jS r env) Q E s from h) Γ p hΓ
 | st :: l,s,p=>@λh=>by
  have e:∀l,jS (st :: l) env=(Hv st env >>= λf=>match f with | .next=>jS l env | f=>pure f):=λ_=>rfl
  rw[e,vU] at h
  rw[Q5,e,vU]
  refine Am M Γ _ (λf p' s' q=>?_) (λ_ _ _ q=>q) _ _ h
  cases f with
  | next=>exact Si hΓ l q
  | _=>exact q
theorem qcn {env:q0}{M:A9}{A:zh}{E:qh->qk->Prop}(l:List z6)
  (h:qq M A (jS l env) (λf s'=>match f with | .next=>qq M A (jS r env) Q E s' | f=>Q f s') E s):qq M A (jS (l++r) env) Q E s:=λΓ p hΓ=>Si hΓ l (h Γ p hΓ)
variable {B:Int->Option qf}
end
noncomputable def GF:qf:=⟨#[115,99,114,105,112,116]⟩
noncomputable def XA:qf:=⟨#[103,105,118,101,110]⟩
noncomputable def N7:qf:=⟨#[108,101,110]⟩
noncomputable def EU (c:Nat):PySem.Expr:=.Subscript (.Name GF ⟨234,c,234,c+6⟩) (.Slice qb (qa (.Constant (.int 5) 0 ⟨234,c+8,234,c+9⟩)) qb ⟨234,c+7,234,c+9⟩) ⟨234,c,234,c+10⟩
noncomputable def five:PySem.Expr:=.List [.Constant (.int 15) 0 ⟨234,31,234,33⟩,.Constant (.int 4) 0 ⟨234,35,234,36⟩,.Constant (.int 14) 0 ⟨234,38,234,40⟩,.Constant (.int 7) 0 ⟨234,42,234,43⟩,.Constant (.int 10) 0 ⟨234,45,234,47⟩] ⟨234,30,234,48⟩
noncomputable def Kp:PySem.Expr:=.Call (.Name N7 ⟨234,49,234,52⟩) [EU 53] [] ⟨234,49,234,64⟩
noncomputable def QK:PySem.Expr:=.Subscript five (.Slice (qa Kp) qb qb ⟨234,49,234,65⟩) ⟨234,30,234,66⟩
noncomputable def Ny:PySem.Expr:=.BinOp (EU 17) .Add QK ⟨234,17,234,66⟩
noncomputable def Ks:List z6:=match AA.body.drop 1 with | .For _ _ b _ _ :: _=>b | _=>[]
noncomputable def iM:qT:=match AA.body.drop 1 with | .For _ _ _ _ p :: _=>p | _=>default
noncomputable def Ov:z6:=.For (.Name XA ⟨234,8,234,13⟩) Ny Ks [] iM
theorem nZ:AA.body=AA.body.take 1++Ov :: AA.body.drop 2:=by kernel_rfl
noncomputable def F9:V:=.val (.ref kY)
noncomputable def mS:qx:=[qa F9,qb,qb,qb,qb,qb,qb,qb,qb,qb,qb,qb,qb,qb,qb,qb]
theorem i5:Hc AA [(GF,F9)]=mS:=by kernel_rfl
noncomputable def FA:qx:=[qa F9,qa (.ref 0),qb,qb,qb,qb,qb,qb,qb,qb,qb,qb,qb,qb,qb,qb]
theorem tW:cSs gG (AA.body.take 1) j8 k6=[gZ]:=by kernel_rfl
theorem u7:cSs gG Ks j8 k6=[Pw,OB]:=by kernel_rfl
theorem hE:we j8 k6 (.Name XA ⟨234,8,234,13⟩)=qa (Tg.var 2):=by kernel_rfl
theorem qes:cSs gG (AA.body.drop 2) j8 k6=[NJ,M8,O3,PL,N4,QY,NB,PF,O9,PG,Pj,Nd,NL,Nk]:=by kernel_rfl
section
variable {P:zC}{led:Bool}{D:Nat->zk}{w:qK}{O:qE}{σ σ':qi}{items:Array qh}{nn:Nat}{zs:List Int}
noncomputable def Iq (zs:List Int)(items:Array qh):Prop:=qL [] (zs.map V.int) items.toList/\zs.length<=63
theorem pJ (zs:List Int):w9 (zs.map V.int) qb (qa 5) qb=qa ((zs.take 5).map V.int):=by
 rw[W0]
 simp only[Option.elim_none,JS,Option.elim_some,JT]
 congr 1
 rw[List.map_take]
 have h:jU (zs.map V.int).length 5=min 5 zs.length:=(J.clip_nat _ 5).trans (by rw[qH])
 rw[h]
 rcases Rt 5 zs.length with q | q
 ·rw[AJ q]
 ·rw[Bd q,FO (by simp),FO (by simpa using q)]
theorem WA {env:q0}(g:j5 pw w (H1 P led D) gG tabs 10 O)(hi:Iq zs items)(c:Nat)
  (rm:zf 10 A) (X:zi (H1 P led D) tabs env j8 k6 FA ρ s.heap) (I:qt pw w (H1 P led D) gG tabs s.heap ρ σ) (sc:Ej env ρ s.heap) (hl:Ch s.heap kY items nn)
  (R:zd pw w (H1 P led D) gG tabs Q ρ s (.ref σ.length) (σ++[.list ((zs.take 5).map V.int)])):qq (qp pw w) A (zR (EU c) env) Q Ex s:=by
 unfold EU
 rw[aY]
 refine qm ((v6 g (.Name GF ⟨234,c,234,c+6⟩)).se j8 k6 rm X I (v:=F9) (σ':=σ) (by rw[show cE gG (.Name GF ⟨234,c,234,c+6⟩) j8 k6=.var 0 by kernel_rfl];rfl) λo' zj h1 qV S1 I1 r1=>?_)
 obtain rfl:=r1.val_inv
 refine qm (zV ?_)
 rw[aZ]
 refine qm (HY rm (X.step S1) (s:={ s with heap:=h1,toks:=qV }) I1 (k:=j8) (Γ:=k6) (O:=O) (v:=.none) (σ':=σ) rfl λl' zv h2 zl S2 I2 r2=>?_)
 refine qm (zV (Te ((v6 g (.Constant (.int 5) 0 ⟨234,c+8,234,c+9⟩)).se j8 k6) rm ((X.step S1).step S2) (s:={ s with heap:=h2,toks:=zl }) I2 (v:=.int 5) (σ':=σ) rfl λu' ρ3 h3 tk3 S3 I3 r3=>?_))
 refine qm (zV (HY rm (((X.step S1).step S2).step S3) (s:={ s with heap:=h3,toks:=tk3 }) I3 (k:=j8) (Γ:=k6) (O:=O) (v:=.none) (σ':=σ) rfl λs' ρ4 h4 tk4 S4 I4 r4=>?_))
 have S:=S1.trans (S2.trans (S3.trans S4))
 obtain rfl:=r2.none_inv
 obtain⟨tt,rfl⟩:=r3.int_inv
 obtain rfl:=r4.none_inv
 have hl4:Ch h4 kY items nn:=((sc.step (wD S)).2 _ hl)
 have hk:∀b o,h4.get? b=qa o->(h4.push { cls:=.type "slice", data:=.fields #[.none,.int 5 tt,.none] }).get? b=qa o:=λb o e=>Heap.get?_push_of_some _ e
 have I':qt pw w (H1 P led D) gG tabs (h4.push { cls:=.type "slice", data:=.fields #[.none,.int 5 tt,.none] }) ρ4 σ:=I4.keeps g.base.tlt hk
 have St:qY (H1 P led D) vr ρ4 h4 ρ4 (h4.push { cls:=.type "slice", data:=.fields #[.none,.int 5 tt,.none] }):=.keeps hk
 obtain⟨q1,q2⟩:=hi
 have r0:qL ρ4 (zs.map V.int) items.toList:=q1.mono ⟨ρ4,rfl⟩
 obtain⟨r5,n0⟩:=YM r0 (pJ zs)
 have zu:items.size=zs.length:=by have:=q1.length;simpa using this
 refine EK (Q:=λi s₁=>qq (qp pw w) A (aT (.Name GF ⟨234,c,234,c+6⟩) (.Slice qb (qa (.Constant (.int 5) 0 ⟨234,c+8,234,c+9⟩)) qb ⟨234,c+7,234,c+9⟩) (.ref kY) i) Q Ex s₁) ?_ (λi s₁ hq=>qm (jM hq)) λ_ _ x=>x
 unfold aX
 refine HG ?_ (by size_fits)
 have l1:Ch (h4.push { cls:=.type "slice", data:=.fields #[.none,.int 5 tt,.none] }) kY items nn:=hk _ _ hl4
 have R':zd pw w (H1 P led D) gG tabs Q ρ4 { s with heap:=h4.push { cls:=.type "slice", data:=.fields #[.none,.int 5 tt,.none] },toks:=tk4 } (.ref σ.length) (σ++[.list ((zs.take 5).map V.int)]):=λv' qr h' tk a b c=>R v' qr h' tk (S.trans (St.trans a)) b c
 exact HE (T := "list") l1.isList.typeIs aU.lookup (qg7 l1.isList (.new ..) .none (.int _ _) .none n0 (R'.push g.base I' ⟨_,0,JP _ _,r5.mono ⟨_,rfl⟩⟩ _) (by unfold vH;lia)) rfl
noncomputable def wF (zs:List Int):List V:=(zs.take 5).map V.int
noncomputable def Wn:List Int:=[15,4,14,7,10]
noncomputable def Df:List V:=[.int 15,.int 4,.int 14,.int 7,.int 10]
noncomputable def Cp (zs:List Int):qi:=[.list [],.list (wF zs),.list Df,.list (wF zs),.list (Df.drop (zs.take 5).length),.list (wF zs++Df.drop (zs.take 5).length)]
noncomputable def A1 (zs:List Int):List Int:=zs.take 5++Wn.drop (zs.take 5).length
theorem qdV (zs:List Int):wF zs++Df.drop (zs.take 5).length=(A1 zs).map V.int:=by
 unfold A1 wF
 rw[jQ,List.map_drop];rfl
theorem Uz (zs:List Int):(A1 zs).length<=5:=by
 unfold A1
 rw[zw,aW]
 have:Wn.length=5:=rfl
 have:(zs.take 5).length<=5:=by rw[Ra];lia
 lia
theorem qd9 {env:q0}(g:j5 pw w (H1 P led D) gG tabs 10 O)(hi:Iq zs items)
  (rm:zf 10 A) (X:zi (H1 P led D) tabs env j8 k6 FA ρ s.heap) (I:qt pw w (H1 P led D) gG tabs s.heap ρ σ) (sc:Ej env ρ s.heap) (hl:Ch s.heap kY items nn)
  (R:zd pw w (H1 P led D) gG tabs Q ρ s (.int (zs.take 5).length) (σ++[.list (wF zs)])):qq (qp pw w) A (zR Kp env) Q Ex s:=by
 unfold Kp
 refine wpAny_Call_ofName ((v6 g (.Name N7 ⟨234,49,234,52⟩)).se j8 k6 rm X I (v:=.val (.builtin "len")) (σ':=σ) (by rw[show cE gG (.Name N7 ⟨234,49,234,52⟩) j8 k6=.glob (.builtin "len") by kernel_rfl];rfl) λf' zj h1 qV S1 I1 r1=>?_)
 obtain rfl:=r1.val_inv
 refine Nc (by rfl) (by rfl) ?_
 have hs:DR [EU 53] env=[(qg,zR (EU 53) env)]:=rfl
 obtain⟨sc1,k1⟩:=sc.step (wD S1)
 refine Calls.evalArgs_plain (spliced_more (e:=EU 53) (rest:=[]) ?_ rfl)
 refine WA g hi 53 rm (X.step S1) (s:={ s with heap:=h1,toks:=qV }) I1 sc1 (k1 _ hl) λv' zv h2 zl S2 I2 r2=>?_
 refine Calls.spliced_nil ⟨Iv _,?_⟩
 have hb:Im (σ++[.list (wF zs)]) "len" [.ref σ.length]=qa (.int (zs.take 5).length,σ++[.list (wF zs)]):=by
  have hl:(wF zs).length=(zs.take 5).length:=qH ..
  rw[Wq,<-hl]
  exact(vQ (J.last_get ..)).trans (if_pos (decide_eq_true (by rw[hl,Ra];lia)))
 exact Tj g.base g.sorted rm (s:={ s with heap:=h2,toks:=zl }) I2 (.cons r2 .nil) hb λv' ρ3 h3 tk3 S3 I3 r3=>R v' ρ3 h3 tk3 (S1.trans (S2.trans S3)) I3 r3
theorem qb8:cE gG five j8 k6=.list [.int 15,.int 4,.int 14,.int 7,.int 10]:=by kernel_rfl
theorem lA:∀zs:List Int,Gq ([.list [],.list (wF zs),.list Df]++[.list (wF zs)]) (.ref 2) (.int (zs.take 5).length) .none .none=qa (.ref 4,(Cp zs).take 5)
 | []=>by kernel_rfl
 | [a]=>by kernel_rfl
 | [a,b]=>by kernel_rfl
 | [a,b,c]=>by kernel_rfl
 | [a,b,c,d]=>by kernel_rfl
 | a :: b :: c :: d :: e :: r=>by kernel_rfl
theorem qe2 {env:q0}(g:j5 pw w (H1 P led D) gG tabs 10 O)(hi:Iq zs items)
  (rm:zf 10 A) (X:zi (H1 P led D) tabs env j8 k6 FA ρ s.heap) (I:qt pw w (H1 P led D) gG tabs s.heap ρ [.list [],.list (wF zs)]) (sc:Ej env ρ s.heap) (hl:Ch s.heap kY items nn)
  (R:zd pw w (H1 P led D) gG tabs Q ρ s (.ref 4) ((Cp zs).take 5)):qq (qp pw w) A (zR QK env) Q Ex s:=by
 unfold QK
 rw[aY]
 refine qm ((v6 g five).se j8 k6 rm X I (v:=.ref 2) (σ':=[.list [],.list (wF zs),.list Df]) (by rw[qb8];exact Xo (z4 BV (z4 BV (z4 BV (z4 BV (z4 BV zF))))) (by decide)) λo' zj h1 qV S1 I1 r1=>?_)
 refine qm (zV ?_)
 obtain⟨sc1,k1⟩:=sc.step (wD S1)
 rw[aZ]
 refine qm (qd9 g hi rm (X.step S1) (s:={ s with heap:=h1,toks:=qV }) I1 sc1 (k1 _ hl) λl' zv h2 zl S2 I2 r2=>?_)
 refine qm (zV (HY rm ((X.step S1).step S2) (s:={ s with heap:=h2,toks:=zl }) I2 (k:=j8) (Γ:=k6) (O:=O) (v:=.none) rfl λu' ρ3 h3 tk3 S3 I3 r3=>?_))
 refine qm (zV (HY rm (((X.step S1).step S2).step S3) (s:={ s with heap:=h3,toks:=tk3 }) I3 (k:=j8) (Γ:=k6) (O:=O) (v:=.none) rfl λs' ρ4 h4 tk4 S4 I4 r4=>?_))
 have S:=S1.trans (S2.trans (S3.trans S4))
 have he:=lA zs
 exact EK (ZV (s:={ s with heap:=h4,toks:=tk4 }) (A:=A) (Ex:=Ex) (value:=five) (slice:=.Slice (qa Kp) qb qb ⟨234,49,234,65⟩) g.base I4 (((r1.mono S2.ext).mono S3.ext).mono S4.ext) ((r2.mono S3.ext).mono S4.ext) (r3.mono S4.ext) r4 he
  (Q:=Q) (λv' ρ5 h5 tk5 S5 I5 r5=>R v' ρ5 h5 tk5 (S.trans S5) I5 r5) (λa=>⟨_,rfl⟩)) (λi s₁ hq=>qm (jM hq)) λ_ _ x=>x
theorem qdz (hi:σ[i]?=qa (.list xs))(hj:σ[j]?=qa (.list ys))(hs:small (xs.length+ys.length)=qe):Dx σ .Add (.ref i) (.ref j)=zM (.list (xs++ys)) σ :=
 (vQ (f:=λxs=>oL σ j λys=>if small (xs.length+ys.length) then zM (.list (xs++ys)) σ else qb) hi).trans ((vQ hj).trans (if_pos hs))
theorem eX (h:σ[i]?=qa (.list vs)):vu σ (.ref i)=qa (.list i):=qZ ((za ..).trans h) rfl
noncomputable def QA:J.C:=⟨orc J.B3 5,[],[],J.gN,[],[]⟩
theorem oA (zs:List Int):J.St (QA.w (J.stF 0 [])) FA (Cp zs) :=
 ⟨⟨_,rfl⟩,λe _=>zN _,(λ_ h=>nomatch h),k7.mpr ⟨AH,vy⟩,λe he=>(by
  obtain rfl:=zE.mp he
  refine⟨.list [],rfl,[],rfl,.nil⟩),trivial,rfl,λi T h=>(by
  match i,h with
  | 1,h=>refine⟨.ref 0,rfl,(zc (zc h))▸rfl⟩
  | i+16,h=>rw[za] at h;cases h)⟩
theorem qfk {env:q0}(g:j5 pw w (H1 P led D) gG tabs 10 (orc J.B3 5))(hi:Iq zs items)
  (rm:zf 10 A) (X:zi (H1 P led D) tabs env j8 k6 FA ρ s.heap) (I:qt pw w (H1 P led D) gG tabs s.heap ρ [.list []]) (sc:Ej env ρ s.heap) (hl:Ch s.heap kY items nn)
  (h:∀qr h' tk m' σ',qY (H1 P led D) (vd env j8) ρ s.heap qr h'->zi (H1 P led D) tabs env j8 k6 m' qr h'->qt pw w (H1 P led D) gG tabs h' qr σ'->J.St (QA.w (J.stF 0 (A1 zs))) m' σ'->Q .next { s with heap:=h',toks:=tk }) :
  qq (qp pw w) A (Hv Ov env) Q Ex s:=by
 unfold Ov
 refine wpAny_For ?_ λx=>Mb (λes n p q=>by unfold Ny at q;cases q) env x
 unfold Ny
 refine qg8 (WA g hi 17 rm X I sc hl λa' zj h1 qV S1 I1 r1=>?_)
 obtain⟨sc1,k1⟩:=sc.step (wD S1)
 refine qe2 g hi rm (X.step S1) (s:={ s with heap:=h1,toks:=qV }) I1 sc1 (k1 _ hl) λb' zv h2 zl S2 I2 r2=>?_
 have hb:Dx ((Cp zs).take 5) .Add (.ref 1) (.ref 4)=qa (.ref 5,Cp zs):=by
  have h4:(wF zs).length<=5:=by simp[wF];lia
  have h5:(Df.drop (zs.take 5).length).length<=5:=by simp[Df]
  have hs:small ((wF zs).length+(Df.drop (zs.take 5).length).length)=qe:=decide_eq_true (by lia)
  exact qdz (σ:=(Cp zs).take 5) rfl rfl hs
 refine VI g.base rm (s:={ s with heap:=h2,toks:=zl }) I2 (r1.mono S2.ext) r2 hb λv' ρ3 h3 tk3 S3 I3 r3=>?_
 have S:=S1.trans (S2.trans S3)
 have hg:(Cp zs)[5]?=qa (.list ((A1 zs).map V.int)):=congrArg (λx=>qa (AObj.list x)) (qdV zs)
 have hgl:=Uz zs
 have hsm:small ((A1 zs).map V.int).length=qe:=decide_eq_true (by rw[qH];lia)
 obtain⟨m',σ',e,ss⟩:=J.stock_run (B:=J.B3) (c:=QA) (n:=4) (q:=0) (xs:=A1 zs) (vs:=(A1 zs).map V.int) (it:=.list 5) (g:=⟨λf=>f 5=qa (.list ((A1 zs).map V.int)),λh k=>h _ _ k⟩) rfl hgl (λM' σ' h=>G1 (J.fz_get h).1 hsm) (oA zs) (J.fz_of hg (by decide)) (J.fa_ints _)
 have e2:vu (Cp zs) (.ref 5)=qa (.list 5):=eX hg
 have e3:jX (Cp zs) (.list 5)=qa ((A1 zs).map V.int):=IX hg hsm
 refine KC (s:={ s with heap:=h3,toks:=tk3 }) I3 r3 e2 e3 λo hit=>?_
 have kp:∀b o',h3.get? b=qa o'->(h3.push o).get? b=qa o':=λb o' e=>Heap.get?_push_of_some _ e
 have hIρ:h3.objs.size∉ρ3:=λhm=>(by obtain⟨o,ho⟩:=I3.here hm;exact absurd (Heap.lt_size ho) (j7 _))
 have e':wP (.list 5) ((A1 zs).map V.int) (λx m σ=>bn1 (AP σ (Tg.var 2) x m) λm=>exs (orc J.B3 5) (cSs gG Ks j8 k6) m σ) ((A1 zs).map V.int) FA (Cp zs)=qa (.next,m',σ'):=by rw[u7];exact e
 exact VR g.base hE (ss_ok g Ks j8 k6) e3 (hp:=h3) (ρp:=ρ3) (B0 _) (g.base.size _ I3.old) (s:={ s with heap:=h3.push o,toks:=tk3 }) rm ⟨(X.step S).keeps kp,I3.keeps g.base.tlt kp,hIρ,hit,.keeps kp⟩ rfl (zN _) e'
  λfl2 ρ4 h4 tk4 S4 X4 I4 r4=>(by cases r4;exact h ρ4 h4 tk4 m' σ' ((wD S).trans S4) X4 I4 ss)
end
section
variable {P:zC}{led:Bool}{D:Nat->zk}{w:qK}
theorem qc2 (hk:∀b o,(H1 P led D).get? b=qa o->h.get? b=qa o)(ht:∃o es n,h.get? Ab=qa o/\o.cls=.type "frame" /\ o.data=.dict es n):qt pw w (H1 P led D) gG tabs h [] [] where
 top:=⟨by rw[Ce];decide,by simp,ht⟩
 old:=λb o e _=>hk b o e
 len:=rfl
 nodup:=vy
 above:=by simp
 tab:=λx hx=>by
  obtain⟨h1,h2⟩:=Zx (P:=P) (led:=led) (D:=D) x hx
  refine⟨#[],h1.keeps hk,h2.keeps hk,⟨#[],#[],h2,rfl⟩,λq pos v _ e=>by cases e⟩
 objs:=λi o e=>by simp at e
theorem qeP (E:CP P led D w J.B3){s:qk}{items:Array qh}{nn:Nat}{zs:List Int}(hk:∀b o,(H1 P led D).get? b=qa o->s.heap.get? b=qa o)(zu:s.heap.objs.size=328)(hl:Ch s.heap kY items nn)(hi:Iq zs items)
  {R:AF->qk->Prop} (hR:∀h' tk,ZB P led D w s.heap h'->R (.ok (.ret (.bool qe))) { s with heap:=h',toks:=tk }):C4 (qp pw w) RV (.call (.ref 326) ⟨[.ref kY],[]⟩) R s:=by
 have g:=qbb E
 refine qdO IM lC lD (λb o e _=>hk b o e) (ρ:=[]) (by simp) (args:=[F9]) (kw:=[]) (binds:=[(GF,F9)]) (by kernel_rfl) (xZ (by kernel_rfl)) (by kernel_rfl) (by simp) (.cons (.val _) .nil) .nil (by decide) λenv h1 tk X kp hlo hf hsc hbl hgl hfo own=>?_
 rw[i5] at X
 rw[zu] at hlo hf hfo
 have I:qt pw w (H1 P led D) gG tabs h1 [] []:=qc2 (λb o e=>kp _ _ (hk b o e)) hfo
 have hsk:env.scope.kind=.function:=by rw[hsc];kernel_rfl
 have room:zf 10 (RV.deeper env):=by
  refine⟨rfl,?_,?_,⟨env,[],rfl,by rw[hsc];kernel_rfl,by rw[hsc];kernel_rfl,hbl,hgl⟩,λ_=>⟨env,rfl,hf,by rw[hsk];decide⟩⟩
  ·show RV.depth+1+10 * 10<=800;decide
  ·show RV.units+3+60 * 10<=9000;decide
 have hl1:Ch h1 kY items nn:=kp _ _ hl
 have scO:¬vd env j8 kY:=λhw=>by
  have:=own _ hw
  rw[show s.heap.get? kY=_ from hl] at this
  cases this
 have sc:Ej env [] h1:=⟨by simp,scO,⟨_,hl1,CK rfl (by decide)⟩⟩
 rw[nZ]
 have e0:exs (orc J.B3 5) (cSs gG (AA.body.take 1) j8 k6) mS []=qa (.next,FA,[.list []]):=by
  rw[tW]
  exact(zY (vK (i:=1) (v:=.ref 0) (σ':=[.list []]) rfl (by decide))).trans rfl
 refine qcn _ (ss_ok g (AA.body.take 1) _ _ room X (s:={ s with heap:=h1,toks:=tk }) I e0 λfl' zv h2 zl S2 X2 I2 rf=>?_)
 cases rf
 obtain⟨sc2,k2⟩:=sc.step S2
 refine qhB (qfk g hi (s:={ s with heap:=h2,toks:=zl }) room X2 I2 sc2 (k2 _ hl1) λρ3 h3 tk3 m3 σ' S3 X3 I3 ss=>?_)
 obtain⟨sc3,k3⟩:=sc2.step S3
 obtain⟨fl,m',σ₂,e1,rfl⟩:=J.law_rest (n:=0) (q:=0) (G:=J.gN) (J.stock_sg (Uz zs)) m3 σ' ss
 refine ss_ok g (AA.body.drop 2) _ _ room X3 (s:={ s with heap:=h3,toks:=tk3 }) I3 (by rw[qes];exact e1) λfl' ρ4 h4 tk4 S4 X4 I4 rf=>?_
 cases rf with
 | ret r =>
  obtain rfl:=r.bool_inv
  obtain⟨sc4,k4⟩:=sc3.step S4
  exact hR h4 tk4 ⟨λo e=>k4 _ (k3 _ (k2 _ (kp _ _ e))),ρ4,σ₂,I4⟩
end
theorem YL:∀{ds:List WData},qiy [] ds .int=qe->∃zs:List Int,ds=zs.map .int
 | [],_=>⟨[],rfl⟩
 | d :: ds,h=>by
  unfold qiy at h
  rw[jT] at h
  obtain⟨zs,rfl⟩:=YL h.2
  have h1:=h.1
  cases d <;> first | (unfold dA at h1;cases h1;done) | skip
  refine⟨_ :: zs,rfl⟩
theorem rZ (h:WShape.hasAll [] ds [.list .int]=qe):∃zs:List Int,ds=[.list (zs.map .int)]:=by
 obtain⟨d,r,rfl,h1,h2⟩:=hasAllW_cons h
 obtain rfl:=hasAllW_nil h2
 cases d <;> first | (unfold dA at h1;cases h1;done) | skip
 unfold dA at h1
 rw[show (WShape.list .int).arms=[.list .int] from rfl,FS,List.any_nil,qhg] at h1
 obtain⟨zs,rfl⟩:=YL h1
 refine⟨zs,rfl⟩
noncomputable def Yi:WTm:=.and (.not (.lt (.lit (.int 63)) (.len (.arg 0)))) (.lit (.bool qe))
theorem n5 {zs:List Int}(h:Yi.holds [] { args:=[.list (zs.map .int)] }=qe):zs.length<=63:=by
 unfold Yi at h
 simp only[qiz,WTm.value,List.getElem?_cons_zero,qH] at h
 rw[show less? (.int 63) (.int (zs.length:Int))=qa (decide ((63:Int) < (zs.length:Int))) from rfl] at h
 by_cases q:(63:Int) < (zs.length:Int)
 ·rw[decide_eq_true q] at h;cases h
 ·omega
theorem Ui:∀(zs:List Int)(s:qk),∃vs tk,RW [] cl P ord (zs.map .int) s=qa (vs,{ s with toks:=tk })/\qL [] (zs.map V.int) vs
 | [],s=>⟨[],s.toks,rfl,.nil⟩
 | z :: zs,s=>by
  obtain⟨vs,tk,e,r⟩:=Ui zs { s with toks:=s.toks+1 }
  refine⟨.int z s.toks :: vs,tk,?_,.cons (.int ..) r⟩
  rw[z7]
  unfold RW layW
  dsimp only
  rw[e]
theorem uK (zs:List Int)(s:qk):∃vs tk,RW [] cl P ord [.list (zs.map .int)] s=qa ([.ref s.heap.objs.size],{ s with heap:=s.heap.push { cls:=.type "list", data:=.seq vs.toArray },toks:=tk })/\qL [] (zs.map V.int) vs:=by
 obtain⟨vs,tk,e,r⟩:=Ui (cl:=cl) (P:=P) (ord:=ord) zs s
 refine⟨vs,tk,?_,r⟩
 unfold RW layW
 dsimp only
 rw[e]
 rfl
variable {P:zC}{led:Bool}{D:Nat->zk}{w:qK}
theorem qeo (hv:G0 vs b3)(hd:(Bb (TB P led D) nB {}).DictOf (jL pw w) nA vs)(hl:wt nA (Bb (TB P led D) nB {})):CP P led D w J.B3:=by
 refine⟨full hl,vs,?_,λc=>?_⟩
 ·obtain⟨o,es,ep,e,r⟩:=hd
  refine⟨o,es,ep,(V3 (by decide) (by decide)).trans e,r⟩
 ·exact NA hv
theorem sK (E:CP P led D w J.B3)(hk:∀b o,(H1 P led D).get? b=qa o->h.get? b=qa o)(zu:h.objs.size=328)(A:ZB P led D w h h'):OldK h h':=by
 have key:∀b o,h.get? b=qa o->asItWas h h' b o:=λb o e=>by
  have hb:=Heap.lt_size e
  rw[zu] at hb
  by_cases q:b=kY
  ·subst q;exact .inl (A.1 o e)
  ·have hb':b < (H1 P led D).objs.size:=by rw[Ce];exact aA (MX hb) q
   obtain⟨o',e'⟩:=E.full b hb'
   have:=hk _ _ e'
   obtain rfl:=sj e this
   obtain⟨ρ,σ,I⟩:=A.2
   by_cases ht:∃x∈tabs,b=x.2
   ·obtain⟨x,hx,rfl⟩:=ht
    obtain⟨ps,_,h2,⟨A5,kQ,h3,rfl⟩,_⟩:=I.tab x hx
    have h4:=h3.keeps hk
    have:=h3.2
    obtain rfl:=sj e' this
    exact .inr (.inl ⟨h4.isCodeTable,rfl,A5,kQ,rfl,h2.2⟩)
   ·exact .inl (I.old b o e' λx hx q=>ht ⟨x,hx,q⟩)
 refine⟨key,λb o e=>?_⟩
 rcases key b o e with x | ⟨_,_,vs,kQ,_,x⟩ | ⟨_,_,⟨o',_,_,x,_⟩,_⟩
 ·refine⟨_,x⟩
 ·refine⟨_,x⟩
 ·refine⟨_,x⟩
noncomputable abbrev I6:qf:=wR "law"
theorem mB:isTheDefsW pw (H1 P led D) I6:=by
 refine⟨326,_,_,_,_,_,?_,VY,rfl,?_,rfl,rfl,rfl,rfl,rfl,rfl,rfl,rfl,?_⟩
 ·rw[qgJ (IP P led D)];kernel_rfl
 ·kernel_rfl
 ·refine⟨.inl ⟨by kernel_rfl,rfl⟩,[],by kernel_rfl,.inl ⟨rfl,rfl⟩⟩
theorem qep:(H1 P led D).nsMap kT I6=qa (.ref 326):=by kernel_rfl
theorem qbI {c:ClaimW}(hp:c.prog=pw)(hr:c.records=[])(hpre:∀args,c.pre args=qe->∃zs:List Int,args=[.list (zs.map .int)]/\zs.length<=63)
  (hpost:∀args,c.pre args=qe->c.post args (.bool qe) args=qe) (hraises:∀args cls,c.raises args cls=qg) (hsame:c.same=qb) (hwi:c.within=[]) (hid:∀a b,c.ident a b=qe) (hmk:c.makers=[])
  (hwit:∃args,c.pre args=qe/\WData.layableAll args=qe) (hbare:c.prog.bare) (hopen:opensWell c.prog=qe):c.HoldsOpenBy (callStub I6) [I6] keeps qg:=by
 refine⟨⟨hbare,hopen,hmk⟩,hwit,λw=>?_⟩
 rw[hp]
 refine⟨(behind w).1,λs hs=>?_⟩
 obtain⟨s₀,h1,h2,s₁,os,h3,h4,hR⟩:=(behind w).2 s hs
 refine⟨s₀,h1,h2,s₁,h3,?_⟩
 obtain⟨D,vs,rfl,hv,hd,hl⟩:=hR
 generalize (!w.params.followText "set-order")=led at *
 have E:CP w.params led D w J.B3:=qeo hv hd hl
 refine⟨λn hn=>?_,λx hx=>?_,λx hx=>?_,?_⟩
 ·rw[zE] at hn;subst hn;exact mB
 ·rw[hr] at hx;cases hx
 ·rw[hr] at hx;cases hx
 refine ClaimW.callFrom_of_specG (tree:=λvs=>do match <-nsGet C2 I6 with | some f=>do ret (<-PySem.call f vs) | none=>unsupported "claim.caller:no-such-global") h4 rfl λargs ha hly ord hord=>?_
 obtain⟨zs,rfl,hz⟩:=hpre _ ha
 obtain⟨xs,tk,e,r⟩:=uK (cl:=classAt (stF w.params led D os).abs.heap) (P:=w.params) (ord:=ord) zs (stF w.params led D os).abs
 rw[<-hr] at e
 refine⟨_,_,e,?_⟩
 have keeps:=layAllW_keeps _ _ _ e
 have hal:=layAllW_rest _ _ _ e
 obtain⟨as,hrd,hin,hold⟩:=reads_layAllW hord _ _ _ e hly _ (λ_ _ e=>e)
 have L:Laid c.records w _ _ _ _ as:=⟨⟨ord,hord,e⟩,hrd,hin,hold,keeps,hal.1,hal.2.2.1⟩
 rw[hp]
 have hns:(H1 w.params led D).Ns kT ((H1 w.params led D).nsMap kT):=Heap.Ns.of_isNs (IP _ _ _)
 have zu:(H1 w.params led D).objs.size=327:=Ce _ _ _
 refine qm (bW (hns.keeps keeps) ?_)
 rw[qep]
 have G:=enter_call (c:=c) (cl:=classAt (H1 w.params led D)) (mean:=qji (H1 w.params led D)) (args:=[.list (zs.map .int)])
  (qeP E (s:={ heap:=(stF w.params led D os).abs.heap.push { cls:=EI "list", data:=Data.seq xs.toArray },gens:=(stF w.params led D os).abs.gens,drawn:=(stF w.params led D os).abs.drawn,toks:=tk,os:=(stF w.params led D os).abs.os })
   (items:=xs.toArray) (nn:=0) (zs:=zs) keeps ?_ ?_ ⟨by simpa using r,hz⟩ λh' tk' A=>⟨.inl ⟨.bool qe,.bool qe,[],rfl,λcls=>hraises _ cls,.bool qe,hpost _ ha,λ_=>⟨vy,λa ha=>nomatch ha⟩⟩,sK E keeps ?_ A,rfl,.of_eq rfl⟩)
 ·refine qm (EK G (λv s' g=>qB ⟨_,rfl,?_⟩) (λe s' g=>?_))
  ·have z:=g.laid (c:=c) hsame hwi hid L
   refine⟨z.1,z.2.1,z.2.2,λq=>nomatch q⟩
  ·have z:=g.laid (c:=c) hsame hwi hid L
   refine⟨z.1,z.2.1,z.2.2,λq=>nomatch q⟩
 ·show (Heap.push _ _).objs.size=328
  rw[Heap.size_push];exact congrArg (· + 1) zu
 ·exact JP _ _
 ·show (Heap.push _ _).objs.size=328
  rw[Heap.size_push];exact congrArg (· + 1) zu
end
theorem qgh:PySem.Challenge.pw_ti0076_01=pw:=by unfold pw;rfl
theorem qfX:PySem.Challenge.pw_ti0076_01.bare:=⟨rfl,rfl,rfl,rfl,by kernel_rfl,by kernel_rfl⟩
theorem hX:opensWell PySem.Challenge.pw_ti0076_01=qe:=by kernel_rfl
theorem law_promised:PySem.Challenge.rw_ti0076_01.row.toRowW.promised:=⟨[.list [.int 3,.int 1]],by decide +kernel,by decide +kernel⟩
theorem law_claim:PySem.Challenge.rw_ti0076_01.row.toRowW.claim.HoldsOpenBy (callStub PySem.Challenge.rw_ti0076_01.row.name) (if PySem.Challenge.rw_ti0076_01.row.pinned then [PySem.Challenge.rw_ti0076_01.row.name] else []) PySem.Challenge.rw_ti0076_01.row.keeps PySem.Challenge.rw_ti0076_01.row.writes:=by
 refine qbI qgh rfl (λargs h=>?_) (λargs h=>?_) (λargs cls=>rfl) rfl rfl (λa b=>?_) rfl law_promised.witness qfX hX
 ·obtain⟨h1,h2⟩:=z0.mp h
  obtain⟨zs,rfl⟩:=rZ h1
  refine⟨zs,rfl,n5 h2⟩
 ·show (qe&&qiz [] (.eq .res (.lit (.bool qe))) { args:=args,res:=qa (.bool qe),after:=args })=qe
  kernel_rfl
 ·exact ident_freeW rfl rfl rfl a b
theorem said:PySem.Challenge.rw_ti0076_01.wellSaid=qe:=by decide +kernel
end Mine.Internal
end
open PySem PySem.W
theorem PySem.Challenge.cw_ti0076_01_holds : PySem.Challenge.rw_ti0076_01.Holds :=
 holds_law Mine.Internal.said λsaid => ⟨said, Mine.Internal.law_promised, Mine.Internal.law_claim⟩
