import PyProof.Rows.All
import Wide.All
import Flt.RightMore
import Flt.Lists
import OpenK.AllK
import Wide.FinOn
import PySem.Challenge.RW_xh0036_01
set_option maxRecDepth 100000
set_option Elab.async false
set_option genSizeOf false
set_option linter.all false
set_option exponentiation.threshold 3000
open Array renaming append_assoc->xY,append_empty->acO,ext_getElem?->ub,getElem?_append_left->xU,getElem?_append_right->acD,getElem?_eq_getElem->acA,getElem?_modify->nV,getElem?_push->ue,getElem?_push_size->Jo,mem_toList_iff->Jx,toList_inj->adx
open Bool renaming and_eq_true->fg,and_eq_true_iff->mH,and_false->nU,bne_true->JR,false_and->Cq,false_eq_true->jc,false_ne_true->o9,not_eq_true->Kl,or_eq_true_iff->yf
open Classical renaming byContradiction->aQ
open ForInStep renaming yield->kI
open Function renaming comp->Kn
open Int renaming add_assoc->xM,add_comm->xN,add_le_add->fE,add_le_add_right->aco,add_nonneg->I7,add_zero->o6,eq_ofNat_of_zero_le->ym,fdiv->n8,fmod->yy,fmod_nonneg_of_pos->adA,le_natAbs->Jd,le_of_eq->xJ,le_of_lt->xH,le_refl->lF,le_trans->fD,lt_of_le_of_lt->t9,lt_trichotomy->C7,max_eq_right->act,mul_add->Kr,natAbs_of_nonneg->acj,natCast_nonneg->nS,neg_le_of_neg_le->xG,not_lt->Jg,not_lt_of_ge->acm,ofNat->et,ofNat_le->j7,ofNat_lt->nR,ofNat_natAbs_of_nonpos->aci,one_mul->Jh,sub_right_le_of_le_add->acr,sub_zero->uw,toNat_natCast->mM,toNat_of_nonneg->Cm,zero_add->xL
open Int.ofNat renaming inj->ack
open LawfulBEq renaming eq_of_beq->dN
open LawfulMonad renaming bind_assoc->xS,pure_bind->xT
open List renaming all_cons->gX,all_eq_true->c8,any_cons->JQ,any_eq_true->J9,append_assoc->eO,append_nil->gW,cons_append->rA,contains_iff_mem->pp,drop_eq_getElem_cons->JB,ext_getElem?->adl,filterMap_cons->ad6,filter_cons_of_neg->uJ,filter_cons_of_pos->rW,filter_eq_nil_iff->Jl,filter_nil->Kp,filter_sublist->adB,find?_cons->C2,find?_cons_of_neg->acL,find?_cons_of_pos->acK,findIdx?_cons->JA,flatMap_cons->yx,foldl_cons->ada,forIn_cons->ry,forIn_nil->Cr,getD_eq_getElem?_getD->yn,getElem?_append->CQ,getElem?_cons_succ->acX,getElem?_cons_zero->JI,getElem?_eq_getElem->gv,getElem?_eq_none->lK,getElem?_eq_none_iff->rH,getElem?_eq_some_iff->je,getElem?_map->fR,getElem?_range->rJ,getElem?_set_ne->ed,getElem?_set_self->fT,getElem?_toArray->im,getElem?_zipWith->ad4,getElem?_zip_eq_some->CR,getElem_mem->Km,isEmpty_cons->acB,isEmpty_iff->n5,length->j9,length_append->cU,length_cons->cK,length_drop->yi,length_eq_zero_iff->CS,length_filter_le->Kq,length_map->dm,length_nil->iJ,length_range->kc,length_set->fH,length_tail->J1,length_zip->adr,lookup_cons->pj,map_append->mO,map_congr_left->us,map_cons->cB,map_eq_nil_iff->adC,map_id->Jp,map_map->il,map_nil->rS,map_reverse->ad0,mem_append->fQ,mem_append_left->J6,mem_append_right->J5,mem_cons->bP,mem_cons_of_mem->acF,mem_cons_self->Cx,mem_erase_of_ne->uI,mem_filter->uK,mem_filterMap->JH,mem_iff_getElem?->acW,mem_map->eh,mem_map_of_mem->Ko,mem_of_getElem?->ke,mem_range->eu,mem_replicate->yj,mem_reverse->CT,mem_singleton->jd,nil_append->eE,nodup_append->pz,nodup_cons->gu,not_mem_nil->dP,pairwise_cons->acZ,perm_append_singleton->Ks,perm_cons_erase->lR,range->aO,range'->Ct,range'_succ->Cu,range_eq_range'->acC,range_succ->Kk,range_succ_eq_map->adc,replicate->CP,reverse_perm->Kt,singleton_append->rz,size_toArray->eY,take->Co,take_of_length_le->uB,take_succ_eq_append_getElem->ad9,zip_cons_cons->uv
open List.cons renaming injEq->adz
open Nat renaming add_assoc->mD,add_comm->rm,add_le_add->Jc,add_le_add_left->lD,add_le_add_right->ro,add_right_cancel->acp,add_right_comm->xI,add_sub_cancel'->I9,add_zero->ua,beq->mG,ble->jr,ble_eq->Cw,blt->yw,le_add_of_sub_le->acs,le_add_right->dI,le_antisymm->Jz,le_of_add_left_le->acE,le_of_add_right_le->xK,le_of_ble_eq_true->xE,le_of_eq->gV,le_of_lt->j8,le_of_lt_succ->acw,le_of_not_lt->Ci,le_of_succ_le->jN,le_refl->cu,le_sub_of_add_le->I8,le_succ->mE,le_succ_of_le->uq,le_trans->bf,lt_add_of_pos_right->Ja,lt_irrefl->cQ,lt_of_add_right_lt->acn,lt_of_le_of_lt->ff,lt_of_lt_of_le->ck,lt_of_not_le->acu,lt_of_succ_lt_succ->acY,lt_or_ge->ux,lt_succ_of_le->Jj,lt_succ_of_lt->rN,lt_succ_self->pe,lt_trans->t8,min_le_right->adf,mod_lt->nT,mul_assoc->yv,mul_comm->uF,mul_le_mul_left->Cj,mul_le_mul_right->acx,mul_zero->Cs,ne_of_gt->nW,ne_of_lt->dW,not_lt->lG,not_succ_le_self->adg,one_mul->I6,pow_add->Kf,pow_le_pow_right->xZ,pow_succ->yu,sub_add_cancel->Ji,sub_eq_zero_of_le->Jf,sub_le_of_le_add->acq,sub_le_sub_right->acv,succ_le_succ->Ch,succ_ne_self->ads,succ_pos->Jb,two_pow_pos->Kg,zero_add->xO,zero_le->lE
open Nat.succ renaming inj->yl
open OfNat renaming ofNat->nQ
open Option renaming bind->Cn,bind_some->ip,getD_none->C9,getD_some->JJ,isSome_iff_exists->pr,isSome_some->acz,map->rp,map_eq_some_iff->yc,map_some->mF,none->nZ,none_or->JG
open Option.some renaming inj->bw,injEq->lL
open Ordering renaming gt->pg,lt->jO
open PUnit renaming unit->kH
open Prod renaming snd->CC
open Prod.mk renaming inj->ye,injEq->mK
open PyProof.Rows renaming AllBare->mI,args_cons->lJ,args_nil->n4,callWith_builtin1->Jy,callWith_type1->kb,lt'->fh,plain1->jv,slot_tuple_getitem->CE,tail_any->CD
open PySem renaming Addr->aJ,Around->bx,CmpOp->gq,Comprehension->C0,DictEntry->cW,Env->cz,Expr->iG,Frame->rt,FuncData->um,GenState->Cp,Heap->bh,IntMulOk->Cz,IsZip->rR,Keyword->uz,Model->kJ,Obj->bK,Operator->gf,OsState->lH,Params->bX,Pos->br,Program->rq,PyData->pf,Result->o8,Sem->bA,Shared->aL,Stmt->dw,Tok->dz,Value->aI,World->aY,assign->iN,assignEach->jt,assignInOrder->CH,attributeBase->n6,backTo->ka,behindInMarks->rE,binaryOp->CA,bindArgs->yk,builtinsNs->n0,cLine->rP,call->Jr,callType_newIn->J2,call_range_1->JP,cellsFrom->g6,codeAny->mL,codeAny_call_function->JN,codeAny_func->JO,codeAny_of_tree->yh,compPost->yo,compareOp->CB,comprehension->yp,dictPut->xR,dictSet->uc,draw->cV,evalPairs->Cv,firstIterPos->J7,foldedSetIterable->rL,getItem->uh,hashInt->iH,holding->js,intKind->xX,keysApartInt->Jq,keywordEach->JS,letOwnedTupleGo->yb,mainGlobals->nY,mergeMapping->Jm,newFunctionEnv->CK,noteFrame->CM,nsFind->rG,pushCells->uu,pyIter->jP,pyNext->mJ,rawHash->ru,rawInt->gY,runOwn->rO,seqIndex?->ui,sizeLine->kG,sliceBounds->kK,slicePick->CW,spliced->ug,standAt->gJ,starEach->ju,subDict->ud,swappedStores->nX,swapsWithSole->rB,sysModules->pb,theTreesLotGoes->JM,treeTable->fF,unpackItems->CG,valueAt->ya,wpAny->bc,wpAny_Assign_stores->yg,wpAny_BinOp->x9,wpAny_Call_method->rM,wpAny_Compare1->Jw,wpAny_Constant_int->Jv,wpAny_Name->rD,wpAny_assignInOrder_more->JF,wpAny_assignInOrder_none->acV,wpAny_assign_Name->yd,wpAny_bind->ba,wpAny_callSpecial?_slot->uy,wpAny_call_entry->rK,wpAny_execs_cons->JL,wpAny_execs_nil->JK,wpAny_field->jw,wpAny_holding->fG,wpAny_isTrue_Compare1->CF,wpAny_list_append_plain->JV,wpAny_loadName_local->x0,wpAny_mono->iM,wpAny_newObj_type->uC,wpAny_noted->CN,wpAny_of_eq->J8,wpAny_onRaise->CO,wpAny_pure->cm,wpAny_pyIter_list->JD,wpAny_pyIter_zip->CV,wpAny_pyNext_list_end->acQ,wpAny_pyNext_list_item->acP,wpAny_rule->C1,wpAny_seqItems->uD,wpAny_setField_rec->yr,wpAny_specialOf->JC,wpAny_standAt->gr,wpAny_storeName_cell->acU,wpAny_storeName_local->acT,wpAny_truthy_bool->uk,wpAny_unpackItems_tuple->JE
open PySem.AutoFloatOps renaming gt_0->acJ
open PySem.Builtin.Int renaming intBits->acG
open PySem.Builtin.Range renaming rangeFitsLong->ad3,small->ad2
open PySem.Builtin.Slice renaming sliceAdjust->J4,sliceApplied->ade,slicePlaces->CZ
open PySem.Builtin.SmallTypes renaming nextOf->pv,ownedTupleHandOut->adm,ownedTupleIsFree->C4
open PySem.Builtin.Str renaming glued->ady,occurrences->acI
open PySem.Builtin.Tuple renaming tupleExact->J3
open PySem.Calls renaming Name_function_global->acM,callWith_builtin->uA
open PySem.Challenge renaming rw_xh0036_01->uf
open PySem.F renaming args_tuple_iterator_next_1->adj,args_zip_next_1->ado,called_zip->adp,entry_tuple_iterator_next->adi,entry_zip_new->adq,entry_zip_next->adn,plainAttrs_dict->ad1,plainAttrs_list->JW,plainAttrs_str->pu,slot_dict_get->adh,slot_dict_itemiterator_iter->acS,slot_list_remove->ad8,slot_str_count->Kb,slot_str_join->adt,slot_tuple_iterator_next->C3,slot_zip_next->C5,type_list_append->ad7,type_str_count->Kc,type_str_join->adu
open PySem.Float64 renaming abs->fU,cmp->rC,cmpInt->Ju,isNaN->uG,mul->c9,ofFrac->Js,ofInt->bZ,sub->dk
open PySem.Flt renaming NumIs->JX,bestBits->Ki,gtB->adb,iter_list_->JY,maxOfBits->n7
open PySem.Heap renaming ExtBut->ur,SameBut->gZ,dictOf_iff->ph,get?_push_of_some->cA,get?_push_size->dx,get?_update_self->pa,lt_size->cg,size_push->eQ
open PySem.Heap.SameBut renaming update->uo
open PySem.IntMulOk renaming of_left->acH
open PySem.IsRange renaming new->CU
open PySem.NameKind renaming cell->CJ,free->pq
open PySem.Obj renaming data_mapFields->adk,mapSeq->pt
open PySem.P renaming chr_of_int->ad5
open PySem.Sem renaming bind_eq_wrap'->acy
open PySem.Shared renaming heap->yt,setGen->acN
open PySem.Str renaming ofString->aK
open PySem.Txt renaming charAt->JU,count->CX,lower->JT
open PySem.Value renaming builtin->Jn,int->Jt,isInt->lN,isInt_shape->acR,none->yq,ref->rQ
open PySem.Value.ref renaming inj->CY
open PySem.W renaming ReadsAllW->C6,absHeap->xV,behindTheImports->Jk,boot_heap->o7,cellsFrom_some->CL,emptyDict->uE,instObj->lI,piece_app->Cy,piecesOf->xQ,plainGet_of->Ka,segRunT->xP,segRun_of->xW,topRun->jb
open PySem.W.Num renaming settled->C8,sumFloats->adw,sumInts->lM
open PySem.W.WData renaming float->lQ,int->jQ,list->Ke
open PySem.W.WTm renaming holds->Kd
open PySem.Walks renaming list->JZ
open Rat renaming div_mul_cancel->gh,intCast_add->lP,intCast_le_intCast->gg,intCast_mul->gK,intCast_neg->rV,intCast_nonneg->uH,intCast_pow->mN,intCast_sub->lO,le_of_lt->o5,le_of_mul_le_mul_left->adv,le_of_mul_le_mul_right->rU,le_refl->I3,le_trans->dj,mul_le_mul_of_nonneg_left->I5,mul_le_mul_of_nonneg_right->rT,mul_nonneg->xF,mul_pos->Kh,natCast_add->Kj,natCast_nonneg->I4,ne_of_lt->Je,pow_pos->px,sub_eq_add_neg->ach,sub_self->Ck
namespace Mine.Internal
section
section
variable{A B C D E F H I0 J0 K:Sort _}{G0:Prop}
theorem bn{a P1:Prop}(h:a/\P1)(k:a->P1->G0):G0:=h.elim k
theorem aU{a:A->Prop}(h:∃ v0,a v0)(k:∀ v0,a v0->G0):G0:=h.elim k
theorem bO{a P1 b:Prop}(h:a/\P1/\b)(k:a->P1->b->G0):G0:=h.elim λx h=>bn h (k x)
theorem aV{a P1:A->Prop}(h:∃ v0,a v0/\P1 v0)(k:∀ v0,a v0->P1 v0->G0):G0:=aU h λb h=>bn h (k b)
theorem gU{a:A->B->Prop}(h:∃ v0 v1,a v0 v1)(k:∀ v0 v1,a v0 v1->G0):G0:=h.elim λx h=>aU h (k x)
theorem fW{a P1 b c:Prop}(h:a/\P1/\b/\c)(k:a->P1->b->c->G0):G0:=h.elim λx h=>bO h (k x)
theorem V6{a P1:Prop}{b:A->Prop}(h:a/\P1/\∃ v0,b v0)(k:a->P1->∀ v0,b v0->G0):G0:=bO h λc d h=>aU h (k c d)
theorem ej{a:Prop}{P1 b:A->Prop}(h:a/\∃ v0,P1 v0/\b v0)(k:a->∀ v0,P1 v0->b v0->G0):G0:=bn h λc h=>aV h (k c)
theorem eo{a P1 b:A->Prop}(h:∃ v0,a v0/\P1 v0/\b v0)(k:∀ v0,a v0->P1 v0->b v0->G0):G0:=aU h λc h=>bO h (k c)
theorem eA{a P1:A->B->Prop}(h:∃ v0 v1,a v0 v1/\P1 v0 v1)(k:∀ v0 v1,a v0 v1->P1 v0 v1->G0):G0:=gU h λb c h=>bn h (k b c)
theorem eZ{b:A->B->C->Prop}(h:∃ v0 v1 a,b v0 v1 a)(k:∀ v0 v1 a,b v0 v1 a->G0):G0:=h.elim λx h=>gU h (k x)
theorem gl{a P1 b c d:Prop}(h:a/\P1/\b/\c/\d)(k:a->P1->b->c->d->G0):G0:=h.elim λx h=>fW h (k x)
theorem oU{a P1:Prop}{b c:A->Prop}(h:a/\P1/\∃ v0,b v0/\c v0)(k:a->P1->∀ v0,b v0->c v0->G0):G0:=bO h λd e h=>aV h (k d e)
theorem vG{a:Prop}{P1 b c:A->Prop}(h:a/\∃ v0,P1 v0/\b v0/\c v0)(k:a->∀ v0,P1 v0->b v0->c v0->G0):G0:=bn h λd h=>eo h (k d)
theorem ng{a P1 b c:A->Prop}(h:∃ v0,a v0/\P1 v0/\b v0/\c v0)(k:∀ v0,a v0->P1 v0->b v0->c v0->G0):G0:=aU h λd h=>fW h (k d)
theorem lr{a P1:A->Prop}{b:A->B->Prop}(h:∃ v0,a v0/\P1 v0/\∃ v1,b v0 v1)(k:∀ v0,a v0->P1 v0->∀ v1,b v0 v1->G0):G0:=aU h λc h=>V6 h (k c)
theorem DB{a:A->Prop}{P1 b:A->B->Prop}(h:∃ v0,a v0/\∃ v1,P1 v0 v1/\b v0 v1)(k:∀ v0,a v0->∀ v1,P1 v0 v1->b v0 v1->G0):G0:=aU h λc h=>ej h (k c)
theorem bG{a P1 b:A->B->Prop}(h:∃ v0 v1,a v0 v1/\P1 v0 v1/\b v0 v1)(k:∀ v0 v1,a v0 v1->P1 v0 v1->b v0 v1->G0):G0:=gU h λc d h=>bO h (k c d)
theorem my{b P1:A->B->C->Prop}(h:∃ v0 v1 a,b v0 v1 a/\P1 v0 v1 a)(k:∀ v0 v1 a,b v0 v1 a->P1 v0 v1 a->G0):G0:=eZ h λc d e h=>bn h (k c d e)
theorem OJ{c:A->B->C->D->Prop}(h:∃ v0 v1 a b,c v0 v1 a b)(k:∀ v0 v1 a b,c v0 v1 a b->G0):G0:=h.elim λx h=>eZ h (k x)
theorem oe{a P1 b c d e:Prop}(h:a/\P1/\b/\c/\d/\e)(k:a->P1->b->c->d->e->G0):G0:=h.elim λx h=>gl h (k x)
theorem AN{a P1 b c d:A->Prop}(h:∃ v0,a v0/\P1 v0/\b v0/\c v0/\d v0)(k:∀ v0,a v0->P1 v0->b v0->c v0->d v0->G0):G0:=aU h λe h=>gl h (k e)
theorem l8{a P1 b c:A->B->Prop}(h:∃ v0 v1,a v0 v1/\P1 v0 v1/\b v0 v1/\c v0 v1)(k:∀ v0 v1,a v0 v1->P1 v0 v1->b v0 v1->c v0 v1->G0):G0:=gU h λd e h=>fW h (k d e)
theorem s7{b P1 c:A->B->C->Prop}(h:∃ v0 v1 a,b v0 v1 a/\P1 v0 v1 a/\c v0 v1 a)(k:∀ v0 v1 a,b v0 v1 a->P1 v0 v1 a->c v0 v1 a->G0):G0:=eZ h λd e f h=>bO h (k d e f)
theorem qE{c:A->B->C->D->E->Prop}(h:∃ v0 v1 a b v4,c v0 v1 a b v4)(k:∀ v0 v1 a b v4,c v0 v1 a b v4->G0):G0:=h.elim λx h=>OJ h (k x)
theorem sx{a P1 b c d e f:Prop}(h:a/\P1/\b/\c/\d/\e/\f)(k:a->P1->b->c->d->e->f->G0):G0:=h.elim λx h=>oe h (k x)
theorem VM{a P1:Prop}{b c d:A->B->Prop}(h:a/\P1/\∃ v0 v1,b v0 v1/\c v0 v1/\d v0 v1)(k:a->P1->∀ v0 v1,b v0 v1->c v0 v1->d v0 v1->G0):G0:=bO h λe f h=>bG h (k e f)
theorem U5{b:Prop}{P1 c d:A->B->C->Prop}(h:b/\∃ v0 v1 a,P1 v0 v1 a/\c v0 v1 a/\d v0 v1 a)(k:b->∀ v0 v1 a,P1 v0 v1 a->c v0 v1 a->d v0 v1 a->G0):G0:=bn h λe h=>s7 h (k e)
theorem nN{a P1 b c d:A->B->Prop}(h:∃ v0 v1,a v0 v1/\P1 v0 v1/\b v0 v1/\c v0 v1/\d v0 v1)(k:∀ v0 v1,a v0 v1->P1 v0 v1->b v0 v1->c v0 v1->d v0 v1->G0):G0:=gU h λe f h=>gl h (k e f)
theorem gH{b P1 c d:A->B->C->Prop}(h:∃ v0 v1 a,b v0 v1 a/\P1 v0 v1 a/\c v0 v1 a/\d v0 v1 a)(k:∀ v0 v1 a,b v0 v1 a->P1 v0 v1 a->c v0 v1 a->d v0 v1 a->G0):G0:=eZ h λe f g h=>fW h (k e f g)
theorem Hf{c P1:A->B->C->D->E->Prop}(h:∃ v0 v1 a b v4,c v0 v1 a b v4/\P1 v0 v1 a b v4)(k:∀ v0 v1 a b v4,c v0 v1 a b v4->P1 v0 v1 a b v4->G0):G0:=qE h λd e f g i h=>bn h (k d e f g i)
theorem Aj{d:A->B->C->D->E->F->Prop}(h:∃ v0 v1 a b v4 c,d v0 v1 a b v4 c)(k:∀ v0 v1 a b v4 c,d v0 v1 a b v4 c->G0):G0:=h.elim λx h=>qE h (k x)
theorem LK{a P1 b c d e f g:Prop}(h:a/\P1/\b/\c/\d/\e/\f/\g)(k:a->P1->b->c->d->e->f->g->G0):G0:=h.elim λx h=>sx h (k x)
theorem Sg{c:A->Prop}{P1 d e:A->B->C->D->Prop}(h:∃ v0,c v0/\∃ v1 a b,P1 v0 v1 a b/\d v0 v1 a b/\e v0 v1 a b)(k:∀ v0,c v0->∀ v1 a b,P1 v0 v1 a b->d v0 v1 a b->e v0 v1 a b->G0):G0:=aU h λf h=>U5 h (k f)
theorem iy{a P1 b c d e:A->B->Prop}(h:∃ v0 v1,a v0 v1/\P1 v0 v1/\b v0 v1/\c v0 v1/\d v0 v1/\e v0 v1)(k:∀ v0 v1,a v0 v1->P1 v0 v1->b v0 v1->c v0 v1->d v0 v1->e v0 v1->G0):G0:=gU h λf g h=>oe h (k f g)
theorem WH{c P1 d:A->B->C->D->E->Prop}(h:∃ v0 v1 a b v4,c v0 v1 a b v4/\P1 v0 v1 a b v4/\d v0 v1 a b v4)(k:∀ v0 v1 a b v4,c v0 v1 a b v4->P1 v0 v1 a b v4->d v0 v1 a b v4->G0):G0:=qE h λe f g i j h=>bO h (k e f g i j)
theorem Yl{d:A->B->C->D->E->F->H->Prop}(h:∃ v0 v1 a b v4 c v6,d v0 v1 a b v4 c v6)(k:∀ v0 v1 a b v4 c v6,d v0 v1 a b v4 c v6->G0):G0:=h.elim λx h=>Aj h (k x)
theorem Gm{a P1 b c d e f g i:Prop}(h:a/\P1/\b/\c/\d/\e/\f/\g/\i)(k:a->P1->b->c->d->e->f->g->i->G0):G0:=h.elim λx h=>LK h (k x)
theorem G8{a P1 b c d e f:A->B->Prop}(h:∃ v0 v1,a v0 v1/\P1 v0 v1/\b v0 v1/\c v0 v1/\d v0 v1/\e v0 v1/\f v0 v1)(k:∀ v0 v1,a v0 v1->P1 v0 v1->b v0 v1->c v0 v1->d v0 v1->e v0 v1->f v0 v1->G0):G0:=gU h λg i h=>sx h (k g i)
theorem FX{c P1:A->B->Prop}{d e f:A->B->C->D->Prop}(h:∃ v0 v1,c v0 v1/\P1 v0 v1/\∃ a b,d v0 v1 a b/\e v0 v1 a b/\f v0 v1 a b)(k:∀ v0 v1,c v0 v1->P1 v0 v1->∀ a b,d v0 v1 a b->e v0 v1 a b->f v0 v1 a b->G0):G0:=gU h λg i h=>VM h (k g i)
theorem Bt{b P1 c d e f:A->B->C->Prop}(h:∃ v0 v1 a,b v0 v1 a/\P1 v0 v1 a/\c v0 v1 a/\d v0 v1 a/\e v0 v1 a/\f v0 v1 a)(k:∀ v0 v1 a,b v0 v1 a->P1 v0 v1 a->c v0 v1 a->d v0 v1 a->e v0 v1 a->f v0 v1 a->G0):G0:=eZ h λg i j h=>oe h (k g i j)
theorem HR{d P1 e:A->B->C->D->E->F->Prop}(h:∃ v0 v1 a b v4 c,d v0 v1 a b v4 c/\P1 v0 v1 a b v4 c/\e v0 v1 a b v4 c)(k:∀ v0 v1 a b v4 c,d v0 v1 a b v4 c->P1 v0 v1 a b v4 c->e v0 v1 a b v4 c->G0):G0:=Aj h λf g i j l m h=>bO h (k f g i j l m)
theorem Fv{a P1 b c d e f g i j:Prop}(h:a/\P1/\b/\c/\d/\e/\f/\g/\i/\j)(k:a->P1->b->c->d->e->f->g->i->j->G0):G0:=h.elim λx h=>Gm h (k x)
theorem Sh{a:Prop}{P1 b c d e f g:A->B->Prop}(h:a/\∃ v0 v1,P1 v0 v1/\b v0 v1/\c v0 v1/\d v0 v1/\e v0 v1/\f v0 v1/\g v0 v1)(k:a->∀ v0 v1,P1 v0 v1->b v0 v1->c v0 v1->d v0 v1->e v0 v1->f v0 v1->g v0 v1->G0):G0:=bn h λi h=>G8 h (k i)
theorem GB{b P1 c d e f g:A->B->C->Prop}(h:∃ v0 v1 a,b v0 v1 a/\P1 v0 v1 a/\c v0 v1 a/\d v0 v1 a/\e v0 v1 a/\f v0 v1 a/\g v0 v1 a)(k:∀ v0 v1 a,b v0 v1 a->P1 v0 v1 a->c v0 v1 a->d v0 v1 a->e v0 v1 a->f v0 v1 a->g v0 v1 a->G0):G0:=eZ h λi j l h=>sx h (k i j l)
theorem QR{c P1 d e f:A->B->C->D->E->Prop}(h:∃ v0 v1 a b v4,c v0 v1 a b v4/\P1 v0 v1 a b v4/\d v0 v1 a b v4/\e v0 v1 a b v4/\f v0 v1 a b v4)(k:∀ v0 v1 a b v4,c v0 v1 a b v4->P1 v0 v1 a b v4->d v0 v1 a b v4->e v0 v1 a b v4->f v0 v1 a b v4->G0):G0:=qE h λg i j l m h=>gl h (k g i j l m)
theorem TE{b P1 c d e f g i j l a:Prop}(h:b/\P1/\c/\d/\e/\f/\g/\i/\j/\l/\a)(k:b->P1->c->d->e->f->g->i->j->l->a->G0):G0:=h.elim λx h=>Fv h (k x)
theorem YG{b:A->Prop}{P1 c d e f g i:A->B->C->Prop}(h:∃ v0,b v0/\∃ v1 a,P1 v0 v1 a/\c v0 v1 a/\d v0 v1 a/\e v0 v1 a/\f v0 v1 a/\g v0 v1 a/\i v0 v1 a)(k:∀ v0,b v0->∀ v1 a,P1 v0 v1 a->c v0 v1 a->d v0 v1 a->e v0 v1 a->f v0 v1 a->g v0 v1 a->i v0 v1 a->G0):G0:=aU h λj h=>Sh h (k j)
theorem Ee{c P1 d e f g:A->B->C->D->E->Prop}(h:∃ v0 v1 a b v4,c v0 v1 a b v4/\P1 v0 v1 a b v4/\d v0 v1 a b v4/\e v0 v1 a b v4/\f v0 v1 a b v4/\g v0 v1 a b v4)(k:∀ v0 v1 a b v4,c v0 v1 a b v4->P1 v0 v1 a b v4->d v0 v1 a b v4->e v0 v1 a b v4->f v0 v1 a b v4->g v0 v1 a b v4->G0):G0:=qE h λi j l m n h=>oe h (k i j l m n)
theorem Pi{c P1 d e f g i j l m a b:Prop}(h:c/\P1/\d/\e/\f/\g/\i/\j/\l/\m/\a/\b)(k:c->P1->d->e->f->g->i->j->l->m->a->b->G0):G0:=h.elim λx h=>TE h (k x)
theorem abl{b P1 c d e f g i j:A->B->C->Prop}(h:∃ v0 v1 a,b v0 v1 a/\P1 v0 v1 a/\c v0 v1 a/\d v0 v1 a/\e v0 v1 a/\f v0 v1 a/\g v0 v1 a/\i v0 v1 a/\j v0 v1 a)(k:∀ v0 v1 a,b v0 v1 a->P1 v0 v1 a->c v0 v1 a->d v0 v1 a->e v0 v1 a->f v0 v1 a->g v0 v1 a->i v0 v1 a->j v0 v1 a->G0):G0:=eZ h λl m n h=>Gm h (k l m n)
theorem Yo{c P1 d e f g i:A->B->C->D->E->Prop}(h:∃ v0 v1 a b v4,c v0 v1 a b v4/\P1 v0 v1 a b v4/\d v0 v1 a b v4/\e v0 v1 a b v4/\f v0 v1 a b v4/\g v0 v1 a b v4/\i v0 v1 a b v4)(k:∀ v0 v1 a b v4,c v0 v1 a b v4->P1 v0 v1 a b v4->d v0 v1 a b v4->e v0 v1 a b v4->f v0 v1 a b v4->g v0 v1 a b v4->i v0 v1 a b v4->G0):G0:=qE h λj l m n o h=>sx h (k j l m n o)
theorem WP{d P1 e f g i j l m n a b c:Prop}(h:d/\P1/\e/\f/\g/\i/\j/\l/\m/\n/\a/\b/\c)(k:d->P1->e->f->g->i->j->l->m->n->a->b->c->G0):G0:=h.elim λx h=>Pi h (k x)
theorem PV{b P1 c d e f g i j l:A->B->C->Prop}(h:∃ v0 v1 a,b v0 v1 a/\P1 v0 v1 a/\c v0 v1 a/\d v0 v1 a/\e v0 v1 a/\f v0 v1 a/\g v0 v1 a/\i v0 v1 a/\j v0 v1 a/\l v0 v1 a)(k:∀ v0 v1 a,b v0 v1 a->P1 v0 v1 a->c v0 v1 a->d v0 v1 a->e v0 v1 a->f v0 v1 a->g v0 v1 a->i v0 v1 a->j v0 v1 a->l v0 v1 a->G0):G0:=eZ h λm n o h=>Fv h (k m n o)
theorem Y7{d P1 e f g i:A->B->C->D->E->F->H->Prop}(h:∃ v0 v1 a b v4 c v6,d v0 v1 a b v4 c v6/\P1 v0 v1 a b v4 c v6/\e v0 v1 a b v4 c v6/\f v0 v1 a b v4 c v6/\g v0 v1 a b v4 c v6/\i v0 v1 a b v4 c v6)(k:∀ v0 v1 a b v4 c v6,d v0 v1 a b v4 c v6->P1 v0 v1 a b v4 c v6->e v0 v1 a b v4 c v6->f v0 v1 a b v4 c v6->g v0 v1 a b v4 c v6->i v0 v1 a b v4 c v6->G0):G0:=Yl h λj l m n o p q h=>oe h (k j l m n o p q)
theorem Lc{e P1 f g i j l m n o a b c d:Prop}(h:e/\P1/\f/\g/\i/\j/\l/\m/\n/\o/\a/\b/\c/\d)(k:e->P1->f->g->i->j->l->m->n->o->a->b->c->d->G0):G0:=h.elim λx h=>WP h (k x)
theorem EM{i P1 j l m n o p q r d e f g:A->B->C->D->E->F->Prop}(h:∃ v0 v1 a b v4 c,i v0 v1 a b v4 c/\P1 v0 v1 a b v4 c/\j v0 v1 a b v4 c/\l v0 v1 a b v4 c/\m v0 v1 a b v4 c/\n v0 v1 a b v4 c/\o v0 v1 a b v4 c/\p v0 v1 a b v4 c/\q v0 v1 a b v4 c/\r v0 v1 a b v4 c/\d v0 v1 a b v4 c/\e v0 v1 a b v4 c/\f v0 v1 a b v4 c/\g v0 v1 a b v4 c)(k:∀ v0 v1 a b v4 c,i v0 v1 a b v4 c->P1 v0 v1 a b v4 c->j v0 v1 a b v4 c->l v0 v1 a b v4 c->m v0 v1 a b v4 c->n v0 v1 a b v4 c->o v0 v1 a b v4 c->p v0 v1 a b v4 c->q v0 v1 a b v4 c->r v0 v1 a b v4 c->d v0 v1 a b v4 c->e v0 v1 a b v4 c->f v0 v1 a b v4 c->g v0 v1 a b v4 c->G0):G0:=Aj h λs t u v w x h=>Lc h (k s t u v w x)
theorem dE{c:A->B->Prop}(a:A)(b:B)(h0:c a b):∃ a b,c a b:=⟨a,⟨b,h0⟩⟩
theorem dF{d:A->B->C->Prop}(a:A)(b:B)(c:C)(h0:d a b c):∃ a b c,d a b c:=⟨a,dE b c h0⟩
theorem vR{e:A->B->C->D->Prop}(a:A)(b:B)(c:C)(d:D)(h0:e a b c d):∃ a b c d,e a b c d:=dF a b c ⟨d,h0⟩
theorem qc{f:A->B->C->D->E->Prop}(a:A)(b:B)(c:C)(d:D)(e:E)(h0:f a b c d e):∃ a b c d e,f a b c d e:=dF a b c (dE d e h0)
theorem vK{g:A->B->C->D->E->F->Prop}(a:A)(b:B)(c:C)(d:D)(e:E)(f:F)(h0:g a b c d e f):∃ a b c d e f,g a b c d e f:=dF a b c (dF d e f h0)
theorem GA{h:A->B->C->D->E->F->H->Prop}(a:A)(b:B)(c:C)(d:D)(e:E)(f:F)(g:H)(h0:h a b c d e f g):∃ a b c d e f g,h a b c d e f g:=dF a b c (dF d e f ⟨g,h0⟩)
theorem Pa{j:A->B->C->D->E->F->H->I0->J0->Prop}(a:A)(b:B)(c:C)(d:D)(e:E)(f:F)(g:H)(h:I0)(i:J0)(h0:j a b c d e f g h i):∃ a b c d e f g h i,j a b c d e f g h i:=dF a b c (dF d e f (dF g h i h0))
theorem KH{k:A->B->C->D->E->F->H->I0->J0->K->Prop}(a:A)(b:B)(c:C)(d:D)(e:E)(f:F)(g:H)(h:I0)(i:J0)(j:K)(h0:k a b c d e f g h i j):∃ a b c d e f g h i j,k a b c d e f g h i j:=dF a b c (dF d e f (dF g h i ⟨j,h0⟩))
theorem aS{b P1:A->Prop}(a:A)(h0:b a)(h1:P1 a):∃ a,b a/\P1 a:=⟨a,⟨h0,h1⟩⟩
theorem fu{b:Prop}{P1 c:A->Prop}(h0:b)(a:A)(h1:P1 a)(h2:c a):b/\∃ a,P1 a/\c a:=⟨h0,a,⟨h1,h2⟩⟩
theorem cI{b P1 c:A->Prop}(a:A)(h0:b a)(h1:P1 a)(h2:c a):∃ a,b a/\P1 a/\c a:=⟨a,⟨h0,h1,h2⟩⟩
theorem iz{c P1:A->B->Prop}(a:A)(b:B)(h0:c a b)(h1:P1 a b):∃ a b,c a b/\P1 a b:=dE a b ⟨h0,h1⟩
theorem j0{b P1 c d:A->Prop}(a:A)(h0:b a)(h1:P1 a)(h2:c a)(h3:d a):∃ a,b a/\P1 a/\c a/\d a:=⟨a,⟨h0,h1,h2,h3⟩⟩
theorem cE{c P1 d:A->B->Prop}(a:A)(b:B)(h0:c a b)(h1:P1 a b)(h2:d a b):∃ a b,c a b/\P1 a b/\d a b:=dE a b ⟨h0,h1,h2⟩
theorem nw{b P1 c d e:A->Prop}(a:A)(h0:b a)(h1:P1 a)(h2:c a)(h3:d a)(h4:e a):∃ a,b a/\P1 a/\c a/\d a/\e a:=⟨a,⟨h0,h1,h2,h3,h4⟩⟩
theorem mQ{d:A->Prop}{P1 e:A->B->C->Prop}(a:A)(h0:d a)(b:B)(c:C)(h1:P1 a b c)(h2:e a b c):∃ a,d a/\∃ b c,P1 a b c/\e a b c:=⟨a,⟨h0,dE b c ⟨h1,h2⟩⟩⟩
theorem qD{c P1 d e:A->B->Prop}(a:A)(b:B)(h0:c a b)(h1:P1 a b)(h2:d a b)(h3:e a b):∃ a b,c a b/\P1 a b/\d a b/\e a b:=dE a b ⟨h0,h1,h2,h3⟩
theorem qf{c P1 d e f:A->B->Prop}(a:A)(b:B)(h0:c a b)(h1:P1 a b)(h2:d a b)(h3:e a b)(h4:f a b):∃ a b,c a b/\P1 a b/\d a b/\e a b/\f a b:=dE a b ⟨h0,h1,h2,h3,h4⟩
theorem fw{d P1 e f:A->B->C->Prop}(a:A)(b:B)(c:C)(h0:d a b c)(h1:P1 a b c)(h2:e a b c)(h3:f a b c):∃ a b c,d a b c/\P1 a b c/\e a b c/\f a b c:=dF a b c ⟨h0,h1,h2,h3⟩
theorem jz{c P1 d e f g:A->B->Prop}(a:A)(b:B)(h0:c a b)(h1:P1 a b)(h2:d a b)(h3:e a b)(h4:f a b)(h5:g a b):∃ a b,c a b/\P1 a b/\d a b/\e a b/\f a b/\g a b:=dE a b ⟨h0,h1,h2,h3,h4,h5⟩
end
local macro_rules |`(tactic| grind)=>`(tactic| grind -abstractProof)
local macro_rules |`(tactic| lia)=>`(tactic| lia -abstractProof)
theorem lk{a k n:Nat}(e:a=k)(h:jr (k+1) n=true):a<n:=e▸xE h
theorem dt{a:Rat}:a<=a:=I3
theorem ch{a b c d:Rat}(h:a<=b)(k:c<=d):a+c<=b+d:=dj (Rat.add_le_add_right.mpr h) (Rat.add_le_add_left.mpr k)
theorem DQ{a b:Rat}(h:a<=b):-b<=-a:=Rat.neg_le_neg h
theorem dA{a b c d:Rat}(h:a<=b)(k:c<=d):a-d<=b-c:=ach a d▸ach b c▸ch h (DQ k)
theorem zO(m:Nat):0<=(nQ m:Rat):=I4
theorem wJ{a b:Rat}{m:Nat}(h:a<=b):(nQ m:Rat)*a<=nQ m*b:=I5 h (zO m)
theorem MO(m n:Nat):(0:Rat)<=nQ m/nQ n:=by
 rcases Rat.le_iff_lt_or_eq.mp (zO n)with q|q
 ·exact Rat.div_def _ _▸xF (zO m) (o5 (Rat.inv_pos.mpr q))
 ·rw[<- q,Rat.div_def,Rat.inv_zero,Rat.mul_zero];exact I3
theorem dX{a b:Rat}{m n:Nat}(h:a<=b):(nQ m:Rat)/nQ n*a<=nQ m/nQ n*b:=I5 h (MO m n)
theorem mf{x:Int}{n:Nat}(h1:x<=n)(h2:-(n:Int)<=x):x.natAbs<=n:=by
 cases x with
 |ofNat k=>exact j7.mp h1
 |negSucc k=>exact j7.mp (xG h2)
theorem KJ{c:Nat}{a b:Int}(h:a+b<=((2^(c:Nat):Nat):Int))(k:-((2^(c:Nat):Nat):Int)<=a+b):(a+b).natAbs<=1*2^(c:Nat):=(I6 _).symm▸mf h k
theorem Wl{a:Int}(h:0<=a/\a<=45):a.natAbs<=45:=mf h.2 (fD (by decide) h.1)
theorem NX{a:Int}(h:0<=a)(k:a<=45):a.natAbs<=2^6:=mf (fD k (by decide)) (fD (by decide) h)
theorem FV{a:Int}(h:0<a)(k:a<=640000):a.natAbs<=2^20:=mf (fD k (by decide)) (fD (by decide) (xH h))
theorem Vz{a b c:Int}(h1:0<=a)(h2:a<=45)(h3:0<=b)(h4:b<=45)(h5:0<=c)(h6:c<=45):0<=a+b+c/\a+b+c<=135:=⟨I7 (I7 h1 h3) h5,fE (fE h2 h4) h6⟩
theorem Ou{a b c d:Int}(h:0<=a/\a<=c)(k:0<=b/\b<=d):0<=a+b/\a+b<=c+d:=⟨I7 h.1 k.1,fE h.2 k.2⟩
theorem NM{a b c:Nat}(h:c+(a+1)<=b):a<b-c:=I8 (rm c (a+1)▸h)
theorem MV{a b c:Nat}(h:b<=c)(k:(a:Int)<(b:Int)):a+(b-a)<=c:=bf (gV (I9 (j8 (nR.mp k)))) h
theorem Nv{a b:Nat}(h:a+(b+1)=15):a<15:=h▸Ja (Jb b)
theorem SD{a b:Nat}(h:a+(b+1)<900):a+1<1000:=t8 (ff (lD (Ch (lE b)) a) h) (by decide)
theorem Me{a b c d e:Nat}(h:a+b<=e)(k:e+c<=d):a+(b+c)<=d:=mD a b c▸bf (ro h c) k
theorem Lo{a b c d e f:Int}(h:0<=c)(k:f<=d+e)(l:b<=f):a+b<=a+c+(d+e):=fE (Int.le_add_of_nonneg_right h) (fD l k)
theorem Wx{a b c:Nat}(h:a<=2000)(k:b<=2000*(c+1)):a+b<=2000*(c+1+1):=bf (Jc h k) (gV (rm ..))
theorem Ol{a b c d:Nat}(h:a<=d+c)(k:d<=b+1):a<=b+(c+1):=bf h (bf (ro k c) (gV (xI b 1 c)))
theorem SH{a b c:Nat}(h:c+(b+1)<=1000000)(k:a<=c+1):a+b<=1000000:=bf (ro k b) (bf (gV (xI c 1 b)) h)
theorem NF{a:Int}(h:a<0):-((a.natAbs:Nat):Int)=a:=(congrArg Neg.neg (aci (xH h))).trans (Int.neg_neg a)
theorem Lw{a:Int}(h:a.natAbs<2^64):a<2^64:=t9 Jd (nR.mpr h)
theorem Hw{a b:Int}(h:0<b)(k:a.natAbs<=b.natAbs):a<=b:=fD Jd (fD (j7.mpr k) (xJ (acj (xH h))))
theorem QN{a b:Int}(h:0<a)(k:b.natAbs<=a.natAbs):-a<=b:=xG (Hw h ((Int.natAbs_neg b).symm▸k))
theorem dU{a:Nat}(_:a<=1000):a<=1000000:=bf ‹_› (by decide)
theorem jU{a:Int}(_:a<=45):a<=64:=fD ‹_› (by decide)
theorem kD{a b:Nat}(_:a+(b+1)<=1000000):a<=1000000:=xK ‹_›
theorem kx{a:Nat}:0<=(a:Int):=nS _
theorem m0{a b:Nat}(_:a+(b+1)<=1000000):a+1+b<=1000000:=by simp_all+arith
theorem nO{a:Nat}(_:a<=6):a<=1000:=bf ‹_› (by decide)
theorem Gj{a b:Nat}:a+(b+1)=a+1+b:=Eq.symm (Nat.succ_add_eq_add_succ a b)
theorem pY{a b:Rat}(h:-(9/20)<=b)(i:a<=9/20):8*(a-b)<=8:=dj (wJ (dA i h)) (by decide+kernel)
theorem ra{a b:Rat}(h:b<=9/20)(i:-(9/20)<=a):-8<=8*(a-b):=dj (by decide+kernel) (wJ (dA i h))
theorem pQ{a:Rat}(h:-(9/20)<=a):-8<=a:=dj (by decide+kernel) h
theorem qU{a:Rat}(_:0<a):a≠0:=Ne.symm (Je ‹_›)
theorem qa{a:Rat}(h:a<=9/20):a<=8:=dj h (by decide+kernel)
theorem tK{a b:Nat}(_:a+(b+1)<=1000000):a+b<=1000000:=jN ‹_›
theorem xg{a b:Nat}(_:a<b):a<b+1:=Nat.lt_add_one_of_lt ‹_›
theorem sE{a b:Nat}(_:b<=6)(_:a<=b):a<=6:=bf ‹_› ‹_›
theorem tW{a b:Nat}(_:¬a=b):¬(a:Int)=(b:Int):=λh=>‹¬_› (ack h)
theorem sV{a:Nat}(_:a=114\/a=103\/a=98\/a=13191):a=114\/a=103\/a=98\/a=13191:=by assumption
theorem vL{a b:Int}(_:a<b):1*a<1*b:=by simp;omega
theorem wK{a b:Int}(_:a=b):a<=b:=xJ ‹_›
theorem xc{a b:Int}(_:b=a):a<=b:=xJ (id (Eq.symm ‹_›))
theorem wS{a b:Nat}(_:a<=b):a+1<=b+1:=ro ‹_› 1
theorem Oo{a b:Rat}(_:b<=a):0<=a-b:=(λa b=>(Rat.le_iff_sub_nonneg a b).mp) b a ‹_›
theorem WL{a:Int}(h:-1000001<=a)(k:a<=1000001):-2^63<=a/\a<2^63:=⟨fD (by decide) h,t9 k (by decide)⟩
theorem Fk{a:Int}(_:0<=a)(_:a<=45):0<=a/\a<=45:=⟨‹_›,‹_›⟩
theorem Bl{a:Int}:a=0+a:=Eq.symm (xL a)
theorem uS{a:Nat}(h:a<3):a=0\/a=1\/a=2:=(by decide:∀ a<3,a=0\/a=1\/a=2) a h
theorem tQ{a:Nat}(h:a=0\/a=1\/a=2\/a=3\/a=4\/a=5):a<6:=h.elim (lk · rfl) λh=>h.elim (lk · rfl) λh=>h.elim (lk · rfl) λh=>h.elim (lk · rfl) λh=>h.elim (lk · rfl) (lk · rfl)
theorem vB{a:Nat}(_:a=52):33<a:=by simp[*]
theorem xu{a:Nat}(_:a<=1000):a<=999999:=bf ‹_› (by decide)
theorem uQ{a:Nat}(_:a<=60):1074+a<=2000:=by lia
theorem xz{a:Nat}:54<=1074+a:=by simp+arith
theorem vD{a:Nat}:¬(a:Int)<0:=Int.not_ofNat_neg a
theorem wE{a:Rat}(h:0<=a):-1<=a:=dj (by decide+kernel) h
theorem wI{a:Rat}(_:a<=1/2^20):(1+1/2^52)*(8+a)<=64:=by grind
theorem xo{a:Rat}(_:a<=1/2^20):1/2^52*(8+a)+1*a+1/2^48<=a+1/2^47:=by grind
theorem Ez{a b c d:Int}:a+b+(c+d)=a+c+(b+d):=by simp+arith
theorem yU{a b c d:Rat}(_:-a<=d)(_:-b<=c-d):-(a+b)<=c:=by grind
theorem BX{a b c d:Rat}(_:d<=b)(_:a-d<=c):a<=b+c:=by grind
theorem IE{a b c:Int}:a+(b+c)=a+b+c:=Eq.symm (xM a b c)
theorem F3{a b c:Nat}(_:b-a=c+1):a<b:=Nat.lt_of_sub_eq_succ ‹_›
theorem Ar{a b:Int}(_:b<a):¬a<b:=Int.lt_asymm ‹_›
theorem zL{a b:Int}(_:b<=a):¬a<b:=acm ‹_›
theorem z9{a b:Nat}(_:a+(b+1)<=1000):a<1000:=acn ‹_›
theorem Ew{a b:Nat}(_:a-b=0):a<=b:=Nat.le_of_sub_eq_zero ‹_›
theorem BD{a b:Nat}(_:a<b):(a:Int)<(b:Int):=nR.mpr ‹_›
theorem BL{a b:Rat}(h:0<=b)(i:a<=3/4):8*(a-b)<=8:=dj (wJ (dA i h)) (by decide+kernel)
theorem zN{a b:Rat}(h:b<=3/4)(i:0<=a):-8<=8*(a-b):=dj (by decide+kernel) (wJ (dA i h))
theorem Bx{a:Int}(_:0<(a:Rat)):(a:Rat)≠0:=Ne.symm (Je ‹_›)
theorem Aw{a:Nat}(_:0<a):(a:Int)≠0:=by lia
theorem xn{a:Nat}(h:a<6):a=0\/a=1\/a=2\/a=3\/a=4\/a=5:=(by decide:∀ a<6,a=0\/a=1\/a=2\/a=3\/a=4\/a=5) a h
theorem BE{a:Nat}(_:a=16):a<=1000000:=by subst_vars;decide
theorem A3{a:Nat}:1074+a-54=1020+a:=by simp+arith
theorem zv{a:Nat}:¬a<a:=cQ a
theorem Bs{a:Rat}(h:0<=a):-8<=a:=dj (by decide+kernel) h
theorem z8{a:Rat}(h:a<=3/4):a<=8:=dj h (by decide+kernel)
theorem Ho{a b c d e f:Int}:a+b+(c+d)+(e+f)=a+c+e+(b+d+f):=by simp+arith
theorem Ed{a b c:Nat}(_:a+(b+1)<=c):a+b<c:=by assumption
theorem Zv{a b c:Nat}(_:b=c)(_:a<c):a<b:=by simp[*]
theorem FC{a b:Int}(_:a<b):a<=b:=xH ‹_›
theorem Dv{a b:Int}:a+b=b+a:=xN a b
theorem IQ{a b:Nat}(_:(a:Int)<(b:Int)):a<b:=nR.mp ‹_›
theorem IH{a b:Nat}(_:11<=a):11<=a+1+b:=by lia
theorem HM{a b:Nat}(_:a+(b+1)<900):a<1000:=by lia
theorem IL{a b:Nat}(_:a<b+1)(_:a≠b):a<b:=by lia
theorem Hq{a b:Nat}(_:a=b)(_:b<=1000):a<=1000000:=by simp[*];lia
theorem HU{a b:Nat}(_:a≠b)(_:¬a<b):¬a<b+1:=by lia
theorem Gn{a b:Nat}(_:a<=b):a<=b+1:=Nat.le_add_right_of_le ‹_›
theorem El{a b:Nat}(_:b=6)(_:a<6):a<b:=by simp[*]
theorem HE{a b:Nat}(_:b<=1000)(_:a<=b):a<=1000000:=by lia
theorem HC{a b:Nat}(_:b<=3)(_:a=2*b):a<=1000:=by simp[*];lia
theorem Fo{a b:Nat}(_:¬b<a+1):a+1<=b:=Ci ‹_›
theorem RN{a b:Nat}:a+3*(b+1)=a+3+3*b:=by simp+arith
theorem GI{a b:Nat}:a≠a+1+b:=by simp+arith
theorem Ea{a b:Nat}:a<=a+1+b:=by simp+arith
theorem HB{a b:Nat}:max 0 (min (-(a:Int)+(b:Int)) (b:Int))=((b-a:Nat):Int):=(congrArg _ (Int.min_eq_left (fD (aco (Int.neg_nonpos_of_nonneg (nS a)) b) (xJ (xL _))))).trans ((Int.max_comm ..).trans ((congrArg (max · 0) (xN ..)).trans (Int.toNat_sub b a▸(Int.ofNat_toNat _).symm)))
theorem Gx{a b:Rat}(_:0<a*b):a*b≠0:=Ne.symm (Je ‹_›)
theorem Gk{a b:Rat}(h:0<=a)(i:b<=1):-1<=a-b:=dj (by decide+kernel) (dA h i)
theorem Im{a b:Rat}(h:0<=a)(i:b<=1):-2<=a-b-1/2^54-1/2^48:=dj (by decide+kernel) (dA (dA (dA h i) dt) dt)
theorem GH{a b:Rat}(h:a<=1)(i:0<=b):a-b+1/2^54+1/2^48<=2:=dj (ch (ch (dA h i) dt) dt) (by decide+kernel)
theorem FN{a b:Rat}(h:a<=1)(i:0<=b):a-b<=1:=dj (dA h i) (by decide+kernel)
theorem I2{a:Int}(_:(a:Rat)<=45):(a:Rat)/64<=1:=by grind
theorem Ic{a:Int}{b:Rat}:-(a:Rat)/b=-((a:Rat)/b):=by grind
theorem HH{a:Nat}(_:0<a):-(a:Int)<0:=by simp[*]
theorem Dd{a:Nat}(_:0<a):a-1<a:=Nat.sub_one_lt_of_lt ‹_›
theorem GO{a:Nat}(_:a+10<=1000000):a<=1000000:=xK ‹_›
theorem FO{a:Nat}(_:a+10<=1000000):a<=999999:=by lia
theorem DJ{a:Nat}(_:a+1<17):¬a=16:=by lia
theorem IS{a:Nat}(_:a+1=17):a=16:=acp ‹_›
theorem FY{a:Nat}(_:a=17):15<a:=by simp[*]
theorem Eg{a:Nat}(_:a=52):32<a:=by simp[*]
theorem DD{a:Nat}(_:a<=100):a<=1000:=bf ‹_› (by decide)
theorem Hv{a:Nat}(_:a<=1000):(a:Int).natAbs<=1000000:=bf ‹_› (by decide)
theorem GJ{a:Nat}(_:a<=3):2*a<=1000:=by lia
theorem Ht{a:Nat}(_:a<=3):a<=1000:=bf ‹_› (by decide)
theorem HQ{a:Nat}(_:a<=3):a<=1000000:=bf ‹_› (by decide)
theorem GX{a:Nat}(_:a<=6):a<=1000000:=bf ‹_› (by decide)
theorem F7{a:Nat}:(a:Int)≠-1:=not_eq_of_beq_eq_false rfl
theorem Dt{a:Nat}:a-1<=a-1:=cu (a-1)
theorem Do{a:Rat}(h:-(9/20)<=a):-1<=a:=dj (by decide+kernel) h
theorem Ft{a:Rat}(_:0<=a):a+(a+1/2^47)+1/2^48+(a+1/2^47)+1/2^48<=4*a+1/2^44:=by grind
theorem Fc{a:Rat}(_:a-0<=0/\-0<=a-0):a=0:=by grind
theorem Da{a:Rat}(h:a<=9/20):a<=1:=dj h (by decide+kernel)
theorem IM{a:Rat}:¬a<a:=Rat.lt_irrefl
theorem Fn{b:Nat}{a:Int}(h:0<=a/\a<(b:Int)/\b<=1000000):a<2^63:=Int.lt_trans h.2.1 (t9 (j7.mpr h.2.2) (by decide))
theorem F4{b:Nat}{a:Int}{c:Rat}(_:(a:Rat)<=c*2^(b:Nat)):(a:Rat)<=2^(b:Nat)*c:=by grind
theorem Kv{a b c d e f g i j k l m n o p:Int}(h1:a<=3)(h2:b<=3)(h3:c<=3)(h4:d<=3)(h5:e<=3)(h6:f<=3)(v:g<=3)(w:i<=3)(x:j<=3)(h:k<=3)(q:l<=3)(r:m<=3)(s:n<=3)(t:o<=3)(u:p<=3):a+(b+(c+(d+(e+0))))+(f+(g+(i+(j+0)))+(k+(l+(m+0))+(n+(o+0)+(p+0+(0+0)))))<=45:=fE (fE h1 (fE h2 (fE h3 (fE h4 (fE h5 (lF 0)))))) (fE (fE h6 (fE v (fE w (fE x (lF 0))))) (fE (fE h (fE q (fE r (lF 0)))) (fE (fE s (fE t (lF 0))) (fE (fE u (lF 0)) (lF (0+0))))))
theorem Yx{a b c d e f g i j k l m n o p:Int}:a+(b+(c+(d+(e+(f+(g+(i+(j+(k+(l+(m+(n+(o+(p+0))))))))))))))=a+(b+(d+(g+(l+0))))+(c+(e+(i+(m+0)))+(f+(j+(n+0))+(k+(o+0)+(p+0+(0+0))))):=by lia
theorem Su{a b c d e f g i j k:Int}:10^12*(a+b+(c+d)+(e+f))+10^6*(g+i)+(j+k)=10^12*(a+c+e)+10^6*g+j+(10^12*(b+d+f)+10^6*i+k):=by simp+arith
theorem Qm{a b c d e f g i j k:Rat}(_:-e<=f-j*k)(_:-(a*(b+c))<=(j-g)*k)(_:-(d*c)<=g*(k-i)):-(a*(b+c)+d*c+e)<=f-g*i:=by grind
theorem X3{a b c d e f g i j k:Rat}(_:a-j*k<=i)(_:(j-b)*k<=d*(e+f))(_:b*(k-c)<=g*f):a-b*c<=d*(e+f)+g*f+i:=by grind
theorem RF{a b c d e f g i:Rat}(_:-a<=g-e)(_:-b<=i-f)(_:-c<=d-(g+i)):-(a+b+c)<=d-(e+f):=by grind
theorem aa2{a b c d e f g i:Rat}(_:-a<=g-e)(_:i-f<=b)(_:-c<=d-(g-i)):-(a+b+c)<=d-(e-f):=by grind
theorem abV{a b c d e f g i:Rat}(_:g-b<=d)(_:-e<=i-c)(_:a-(g-i)<=f):a-(b-c)<=d+e+f:=by grind
theorem aau{a b c d e f g i:Rat}(_:g-b<=d)(_:i-c<=e)(_:a-(g+i)<=f):a-(b+c)<=d+e+f:=by grind
theorem MJ{a b c d e f g:Rat}(_:(d+e)*(f+g)<=a)(_:-((d+e)*(f+g))<=b*c):-a<=b*c:=by grind
theorem S4{a b c d e f g:Rat}(_:-a<=d+e-f-g)(_:-f<=b-d)(_:-g<=c-e):-a<=b+c:=by grind
theorem PA{a b c d e f g:Rat}(_:-a<=d-e-f-g)(_:-f<=b-d)(_:c-e<=g):-a<=b-c:=by grind
theorem R8{a b c d e f g:Rat}(_:d+e+f+g<=c)(_:a-d<=f)(_:b-e<=g):a+b<=c:=by grind
theorem Zl{a b c d e f g:Rat}(_:d-e+f+g<=c)(_:a-d<=f)(_:-g<=b-e):a-b<=c:=by grind
theorem K5{a b c d e f:Int}:(((2130:Int):Rat)*((a:Rat)+(b:Rat))-((5251:Int):Rat)*((c:Rat)+(d:Rat))+((3121:Int):Rat)*((e:Rat)+(f:Rat)))/640000=(((2130:Int):Rat)*(a:Rat)-((5251:Int):Rat)*(c:Rat)+((3121:Int):Rat)*(e:Rat))/640000+(((2130:Int):Rat)*(b:Rat)-((5251:Int):Rat)*(d:Rat)+((3121:Int):Rat)*(f:Rat))/640000:=by simp;grind
theorem PF{a b c d e f:Int}:(((30:Int):Rat)*((a:Rat)+(b:Rat))+((59:Int):Rat)*((c:Rat)+(d:Rat))+((11:Int):Rat)*((e:Rat)+(f:Rat)))/6400=(((30:Int):Rat)*(a:Rat)+((59:Int):Rat)*(c:Rat)+((11:Int):Rat)*(e:Rat))/6400+(((30:Int):Rat)*(b:Rat)+((59:Int):Rat)*(d:Rat)+((11:Int):Rat)*(f:Rat))/6400:=by simp;grind
theorem Rf{a b c d e f:Int}:(((5990:Int):Rat)*((a:Rat)+(b:Rat))-((2773:Int):Rat)*((c:Rat)+(d:Rat))-((3217:Int):Rat)*((e:Rat)+(f:Rat)))/640000=(((5990:Int):Rat)*(a:Rat)-((2773:Int):Rat)*(c:Rat)-((3217:Int):Rat)*(e:Rat))/640000+(((5990:Int):Rat)*(b:Rat)-((2773:Int):Rat)*(d:Rat)-((3217:Int):Rat)*(f:Rat))/640000:=by simp;grind
theorem abU{a b c d e f:Int}:a+b+(c+d)+(e+f)=b+d+f+(a+c+e):=by simp+arith
theorem MM{a b c d e f:Int}:a+b+c+(d+e+f)=a+d+(b+e)+(c+f):=by simp+arith
theorem Zw{a b c d e f:Nat}(_:d=e+2+f)(_:a+3000*(f+1)<=1000000)(_:b<=2000)(_:d=e+2+(c+1)):a+b+3000*(c+1)<=1000000:=by lia
theorem La{a b c d e f:Rat}:8*(a-b)+410/433*(8*(c-d))+270/433*(8*(e-f))=8*(a+410/433*c+270/433*e-(b+410/433*d+270/433*f)):=by grind
theorem Mw{a b c d e f:Rat}:8*(a-b)-480/433*(8*(c-d))+740/433*(8*(e-f))=8*(a-480/433*c+740/433*e-(b-480/433*d+740/433*f)):=by grind
theorem VF{a b c d e f:Rat}:8*(a-b)-7020/25547*(8*(c-d))-16240/25547*(8*(e-f))=8*(a-7020/25547*c-16240/25547*e-(b-7020/25547*d-16240/25547*f)):=by grind
theorem Nr{a b c d e:Int}(_:0<=d)(_:b<=c+e):a+b<=a+c+(d+e):=by lia
theorem Pv{a b c d e:Int}:1*(a+b+c)*10^12+(d*10^6+(e*1+0))=10^12*(a+b+c)+10^6*d+e:=by simp+arith
theorem XN{a b c d e:Rat}(_:-(1/2^48)<=b-(c+d))(_:e-(c-b)<=1/2^48)(_:a-(e+d)<=1/2^48):a<=3/2^48:=by grind
theorem Rk{a b c d e:Rat}(_:-(1/2^48)<=b-(c+d))(_:e-(d-b)<=1/2^48)(_:a-(e+c)<=1/2^48):a<=3/2^48:=by grind
theorem Mf{a b c d e:Rat}(_:b*d=e)(_:a*(c*d)=e*c):(a-b)*(c*d)=0:=by grind
theorem V8{a b c d e:Rat}(_:b-(c+d)<=1/2^48)(_:-(1/2^48)<=e-(c-b))(_:-(1/2^48)<=a-(e+d)):-(3/2^48)<=a:=by grind
theorem Q3{a b c d e:Rat}(_:b-(c+d)<=1/2^48)(_:-(1/2^48)<=e-(d-b))(_:-(1/2^48)<=a-(e+c)):-(3/2^48)<=a:=by grind
theorem X6{a b c d:Int}(_:a<=c)(_:b<=d):a+b<=c+d:=by lia
theorem SM{a b c d:Int}(_:c<d):10^12*a+10^6*b+c<10^12*a+10^6*b+d:=by simp[*]
theorem UP{a b c d:Int}(_:c<=b)(_:a<=c/\d<=c):a<=b:=by lia
theorem P5{a b c d:Int}(_:c<=b)(_:d<=c/\a<=c):a<=b:=by lia
theorem RP{a b c d:Int}:a+b+c=d+b+(a+c)-d:=by simp+arith
theorem U2{a b c d:Nat}(_:a+100<=1000000)(_:d=5)(_:b<=d)(_:c<=5):a+b+(0+1)+c<=1000000:=by lia
theorem TX{a b c d:Nat}(_:b+c+d=a):(a:Int)=(b:Int)+(c:Int)+(d:Int):=by lia
theorem UJ{a b c d:Nat}(_:b=c)(_:d<c)(_:a<d):a<b:=by simp[*];lia
theorem W1{a b c d:Nat}(h:d<2*c)(k:b+d=a+c):a-b+(b-a)<=c:=by
 rcases Nat.le_total a b with q|q
 ·rw[Jf q,xO];exact acq (rm c a▸k▸dI b d)
 ·rw[Jf q,ua];exact acq (rm b c▸Nat.le_of_add_le_add_right (k▸mD b c c▸lD (Nat.two_mul c▸j8 h) b))
theorem QX{a b c d:Nat}(h:d<=1000)(k:a+3000<=1000000)(l:b<=d)(m:c<=d):a+b+c<=1000000:=bf (Jc (lD (bf l h) a) (bf m h)) (bf (gV (mD ..)) (bf (lD (by decide) a) k))
theorem Um{a b c d:Rat}(_:-(1/2^48)<=c-(b+d))(_:a-(d-c)<=1/2^48):a+b<=64:=by grind
theorem ZH{a b c d:Rat}(_:-(1/2^48)<=c-(d+b))(_:a-(d-c)<=1/2^48):a+b<=64:=by grind
theorem WB{a b c d:Rat}(_:-a<=c)(_:-(1+1/2)<=d)(_:-(1/2^48)<=b-(c+d)):-(a+2)<=b:=by grind
theorem Uo{a b c d:Rat}(_:-a<=c)(_:-(3/2^48)<=d)(_:-(1/2^54)<=b-(c+d)):-(a+4/2^48)<=b:=by grind
theorem LV{a b c d:Rat}(_:-a<=d)(_:-(1/2^48)<=b-(c+d)):-(a+1/2^48)<=b-c:=by grind
theorem Yt{a b c d:Rat}(_:-b<=c-d)(_:-d<=a-c):-a<=b:=by grind
theorem YB{a b c d:Rat}(_:c+d<=b)(_:a-c<=d):a<=b:=by grind
theorem Ky{a b c d:Rat}(_:c-(b+d)<=1/2^48)(_:-(1/2^48)<=a-(d-c)):-64<=a+b:=by grind
theorem TA{a b c d:Rat}(_:c-(d+b)<=1/2^48)(_:-(1/2^48)<=a-(d-c)):-64<=a+b:=by grind
theorem XT{a b c d:Rat}(_:c<=b)(_:d<=1+1/2)(_:a-(c+d)<=1/2^48):a<=b+2:=by grind
theorem Pb{a b c d:Rat}(_:c<=b)(_:d<=3/2^48)(_:a-(c+d)<=1/2^54):a<=b+4/2^48:=by grind
theorem VP{a b c d:Rat}(h:d<=1/2^20)(i:-8<=a)(j:-8<=b)(k:-8<=c):-64<=a+410/433*b+270/433*c-(d+(d+1/2^47)+1/2^48)-(d+1/2^47):=dj (by decide+kernel) (dA (dA (ch (ch i (dX j)) (dX k)) (ch (ch h (ch h dt)) dt)) (ch h dt))
theorem VE{a b c d:Rat}(h:d<=1/2^20)(i:-8<=a)(j:b<=8)(k:-8<=c):-64<=a-480/433*b+740/433*c-(d+(6/5*d+1/2^47)+1/2^48)-(9/5*d+1/2^47):=dj (by decide+kernel) (dA (dA (ch (dA i (dX j)) (dX k)) (ch (ch h (ch (dX h) dt)) dt)) (ch (dX h) dt))
theorem abL{a b c d:Rat}(h:d<=1/2^20)(i:-8<=a)(j:b<=8)(k:c<=8):-64<=a-7020/25547*b-16240/25547*c-(d+(d+1/2^47)+1/2^48)-(d+1/2^47):=dj (by decide+kernel) (dA (dA (dA (dA i (dX j)) (dX k)) (ch (ch h (ch h dt)) dt)) (ch h dt))
theorem Zf{a b c d:Rat}(h:d<=1/2^20)(i:a<=8)(j:-8<=b)(k:-8<=c):a-7020/25547*b-16240/25547*c+(d+(d+1/2^47)+1/2^48)+(d+1/2^47)<=64:=dj (ch (ch (dA (dA i (dX j)) (dX k)) (ch (ch h (ch h dt)) dt)) (ch h dt)) (by decide+kernel)
theorem Nz{a b c d:Rat}(h:d<=1/2^20)(i:a<=8)(j:-8<=b)(k:c<=8):a-480/433*b+740/433*c+(d+(6/5*d+1/2^47)+1/2^48)+(9/5*d+1/2^47)<=64:=dj (ch (ch (ch (dA i (dX j)) (dX k)) (ch (ch h (ch (dX h) dt)) dt)) (ch (dX h) dt)) (by decide+kernel)
theorem Uv{a b c d:Rat}(h:d<=1/2^20)(i:a<=8)(j:b<=8)(k:c<=8):a+410/433*b+270/433*c+(d+(d+1/2^47)+1/2^48)+(d+1/2^47)<=64:=dj (ch (ch (ch (ch i (dX j)) (dX k)) (ch (ch h (ch h dt)) dt)) (ch h dt)) (by decide+kernel)
theorem Mb{a b c d:Rat}(_:d<=a)(_:-d<=b-c):-a<=b-c:=by grind
theorem PJ{a b c d:Rat}(_:d<=c)(_:a-(b+d)<=1/2^48):a-b<=c+1/2^48:=by grind
theorem aa0{a b c:Int}(_:0<=a)(_:0<=b)(_:0<=c):0<=30*a+59*b+11*c:=by lia
theorem aaZ{a b c:Int}(_:0<=a)(_:a<=45)(_:0<=b)(_:b<=45)(_:0<=c)(_:c<=45):(30*a+59*b+11*c).natAbs<=300000/\(5990*a-2773*b-3217*c).natAbs<=300000/\(2130*a-5251*b+3121*c).natAbs<=300000:=⟨mf (by omega) (by omega),mf (by omega) (by omega),mf (by omega) (by omega)⟩
theorem Xa{a b c:Int}(_:0<=a)(_:b<=45)(_:0<=c):-288000<=2130*a-5251*b+3121*c:=by lia
theorem Rc{a b c:Int}(_:0<=a)(_:b<=45)(_:c<=45):-288000<=5990*a-2773*b-3217*c:=by lia
theorem ac9{a b c:Int}(_:0<=b)(_:0<=c):a<=a+b+c:=by lia
theorem Nh{a b c:Int}(_:a<=45)(_:0<=b)(_:0<=c):5990*a-2773*b-3217*c<=288000:=by lia
theorem YC{a b c:Int}(_:a<=45)(_:0<=b)(_:c<=45):2130*a-5251*b+3121*c<=288000:=by lia
theorem KG{a b c:Int}(_:a<=45)(_:b<=45)(_:c<=45):30*a+59*b+11*c<=4500:=by lia
theorem R3{a b c:Int}:(((30:Int):Rat)*(a:Rat)+((59:Int):Rat)*(b:Rat)+((11:Int):Rat)*(c:Rat))/6400+410/433*((((5990:Int):Rat)*(a:Rat)-((2773:Int):Rat)*(b:Rat)-((3217:Int):Rat)*(c:Rat))/640000)+270/433*((((2130:Int):Rat)*(a:Rat)-((5251:Int):Rat)*(b:Rat)+((3121:Int):Rat)*(c:Rat))/640000)=(a:Rat)/64:=by simp;grind
theorem ZM{a b c:Int}:(((30:Int):Rat)*(a:Rat)+((59:Int):Rat)*(b:Rat)+((11:Int):Rat)*(c:Rat))/6400-480/433*((((5990:Int):Rat)*(a:Rat)-((2773:Int):Rat)*(b:Rat)-((3217:Int):Rat)*(c:Rat))/640000)+740/433*((((2130:Int):Rat)*(a:Rat)-((5251:Int):Rat)*(b:Rat)+((3121:Int):Rat)*(c:Rat))/640000)=(c:Rat)/64:=by simp;grind
theorem MB{a b c:Int}:(((30:Int):Rat)*(a:Rat)+((59:Int):Rat)*(b:Rat)+((11:Int):Rat)*(c:Rat))/6400-7020/25547*((((5990:Int):Rat)*(a:Rat)-((2773:Int):Rat)*(b:Rat)-((3217:Int):Rat)*(c:Rat))/640000)-16240/25547*((((2130:Int):Rat)*(a:Rat)-((5251:Int):Rat)*(b:Rat)+((3121:Int):Rat)*(c:Rat))/640000)=(b:Rat)/64:=by simp;grind
theorem Xi{a b c:Int}:-2*a+(0+(a+b)+(a+(0+c)))=0+(c+b):=by lia
theorem Sy{a b c:Int}:-2*a+-2*b+-2*c=-2*(a+b+c):=by simp+arith
theorem Wb{a b c:Int}:3/10*((a:Rat)/64)+59/100*((b:Rat)/64)+11/100*((c:Rat)/64)=(((30:Int):Rat)*(a:Rat)+((59:Int):Rat)*(b:Rat)+((11:Int):Rat)*(c:Rat))/6400:=by simp;grind
theorem VS{a b c:Int}:48/100*((a:Rat)/64-(3/10*((a:Rat)/64)+59/100*((b:Rat)/64)+11/100*((c:Rat)/64)))+41/100*((c:Rat)/64-(3/10*((a:Rat)/64)+59/100*((b:Rat)/64)+11/100*((c:Rat)/64)))=(((2130:Int):Rat)*(a:Rat)-((5251:Int):Rat)*(b:Rat)+((3121:Int):Rat)*(c:Rat))/640000:=by simp;grind
theorem Tn{a b c:Int}:74/100*((a:Rat)/64-(3/10*((a:Rat)/64)+59/100*((b:Rat)/64)+11/100*((c:Rat)/64)))-27/100*((c:Rat)/64-(3/10*((a:Rat)/64)+59/100*((b:Rat)/64)+11/100*((c:Rat)/64)))=(((5990:Int):Rat)*(a:Rat)-((2773:Int):Rat)*(b:Rat)-((3217:Int):Rat)*(c:Rat))/640000:=by simp;grind
theorem UX{a b c:Int}:a+(b+c)=b+a+c:=by simp+arith
theorem V9{a b c:Int}:a+b+c=0+b+(a+c):=by simp+arith
theorem MD{a b c:Int}{d:Rat}:((a:Rat)-((b:Rat)+(c:Rat)))/d=(a:Rat)/d-((b:Rat)/d+(c:Rat)/d):=by grind
theorem UT{a b c:Nat}(_:a+(b+1)<c):a+1+b<c:=by simp_all+arith
theorem RU{a b c:Nat}(_:a+(b+1)<=c):a+1+b<=c:=by simp_all+arith
theorem QI{a b c:Nat}(_:a+(b+c)=63)(_:1<=b)(_:1<=a):1<=a/\a<=62:=by simp[*];lia
theorem Zo{a b c:Nat}(_:a+(b+c)<=1000):a+b<=1000:=by lia
theorem Qo{a b c:Nat}(_:a+1+b<=c):a+(b+1)<=c:=by simp_all+arith
theorem XJ{a b c:Nat}(_:a+10*(c+1)<=1000)(_:b<=10):a+b+10*c<=1000:=by lia
theorem Lb{a b c:Nat}(_:a+10*(c+1+1)<=1000000)(_:b<=2):a+b+10*(c+1)<=1000000:=by lia
theorem Va{a b c:Nat}(_:a+100<=1000000)(_:c+1=5)(_:b<=5):a+b+(0+1)+(c+1)<=1000000:=by simp[*];lia
theorem aad{a b c:Nat}(_:a+100<=1000000)(_:c=5)(_:b<=c):a+b<=1000000:=by lia
theorem KP{a b c:Nat}(h:a+20000+10009*(c+1)<=1000000)(k:b<=10009):a+b+20000+10009*c<=1000000:=bf (ro (ro (lD k a) 20000) _) (bf (gV (by rw[Nat.mul_succ,xI a,mD (a+20000),rm 10009])) h)
theorem Tr{a b c:Nat}(_:a+20000<=1000000)(_:b<=10000)(_:c<=3):a+b+c+10<=1000000:=by simp;lia
theorem YT{a b c:Nat}(_:a=b)(_:c<b):0<a:=by lia
theorem abR{a b c:Nat}(_:a=b+2+(c+1)):a=b+1+2+c:=by simp+arith [*]
theorem OX{a b c:Nat}(_:a<=10000)(_:b<=3)(_:c<=6):a+b+c<=10009:=by lia
theorem V0{a b c:Nat}(_:a<=10009)(_:b<=10009*c):a+b<=10009*(c+1):=by lia
theorem KE{a b c:Nat}(_:a<=2)(_:b<=2*c):a+b<=2*(c+1):=by lia
theorem Ue{a b c:Nat}(_:a<=c)(_:c+1<=b):a<=b:=by lia
theorem X1{a b c:Nat}(_:b+(a+c)=63):a+b+c=63:=by simp_all+arith
theorem Rh{a b c:Nat}(_:b+1+c=5)(_:a=b+1+1):a<=6:=by simp[*];lia
theorem Yi{a b c:Nat}(_:b+1+c=5)(_:a=c):a<=100:=by simp[*];lia
theorem XZ{a b c:Nat}(_:b+1<=c)(_:c<=a):a≠0:=by lia
theorem aae{a b c:Nat}(_:b+c<=1000)(_:a<=b+c):a<=1000000:=by lia
theorem Qv{a b c:Nat}(h:b-a+(a-b)<=c):(a:Int)-(b:Int)<=(c:Int)/\-(c:Int)<=(a:Int)-(b:Int):=
 ⟨acr (j7.mpr (acs (bf (Nat.le_add_left _ _) h))),
  Int.neg_sub (b:Int) a▸Int.neg_le_neg (acr (j7.mpr (acs (bf (dI _ _) h))))⟩
theorem QG{a b c:Nat}(_:b=16)(_:a+(c+1)=15):a<b:=by lia
theorem Li{a b c:Nat}(_:b=c)(_:1<=(a:Int)/\(a:Int)<(c:Int)/\c<=1000000):a<b:=by simp_all
theorem R9{a b c:Nat}(_:b=c)(_:c=a):a=b:=by simp[*]
theorem aaD{a b c:Nat}(_:b<=6)(_:b=a+2+c):a<=1000:=by lia
theorem US{a b c:Nat}(_:b<=6)(_:c+2=b)(_:a<=2000*(c+1)):a<=10000:=by lia
theorem SJ{a b c:Nat}(_:c<b)(_:a<c):a<b:=t8 ‹_› ‹_›
theorem abQ{a b c:Nat}(_:c=b)(_:a<c):a<b:=by simp_all
theorem OQ{a b c:Nat}(_:c<=1000)(_:a<=c)(_:b<=c):a+b<=2000:=by lia
theorem YH{a b c:Nat}(_:c<=6)(_:a+20000<=1000000)(_:b+2=c):a+3000*(b+1)<=1000000:=by lia
theorem UE{a b c:Nat}(_:c<=6)(_:a<=c)(_:b<=c):a+b<=1000:=by lia
theorem aaE{a b c:Rat}(_:-(1+1/2)<=b)(_:-(1/2^54)<=c-0)(_:-(1/2^48)<=a-(c+b)):-2<=a:=by grind
theorem LG{a b c:Rat}(_:-(64*(1/2^54))<=64*a-c)(_:b*64=c):-(1/2^54)<=a-b:=by grind
theorem Sr{a b c:Rat}(_:-2<=c)(_:-(1/2^48)<=b-(a+c)):a-b<=64:=by grind
theorem Wi{a b c:Rat}(_:-58<=c)(_:-(1/2^48)<=b-(c+a)):a-b<=64:=by grind
theorem abr{a b c:Rat}(_:-60<=a)(_:-c<=b)(_:c<=1):-64<=a+b:=by grind
theorem KO{a b c:Rat}(h:0<=a)(i:0<=b)(j:0<=c):-2<=3/10*a+59/100*b+11/100*c-1/2^49-1/2^51:=dj (by decide+kernel) (dA (dA (ch (ch (dX h) (dX i)) (dX j)) dt) dt)
theorem abY{a b c:Rat}(_:0<=a)(_:c<=1)(_:-1<=a-b):-2<=37/50*(a-b)-27/100*(c-b)-(1/2^46-1/2^54)-(1/2^46-1/2^54):=by grind
theorem Pc{a b c:Rat}(_:0<=a)(_:c<=1)(_:a-b<=1):12/25*(a-b)+41/100*(c-b)+(1/2^46-1/2^54)+(1/2^46-1/2^54)<=2:=by grind
theorem VQ{a b c:Rat}(_:64*a-c<=64*(1/2^54))(_:b*64=c):a-b<=1/2^54:=by grind
theorem Z9{a b c:Rat}(_:a<=1)(_:0<=c)(_:-1<=a-b):-2<=12/25*(a-b)+41/100*(c-b)-(1/2^46-1/2^54)-(1/2^46-1/2^54):=by grind
theorem KL{a b c:Rat}(_:a<=1)(_:0<=c)(_:a-b<=1):37/50*(a-b)-27/100*(c-b)+(1/2^46-1/2^54)+(1/2^46-1/2^54)<=2:=by grind
theorem LB{a b c:Rat}(h:a<=1)(i:b<=1)(j:c<=1):3/10*a+59/100*b+11/100*c+1/2^49+1/2^51<=2:=dj (ch (ch (ch (ch (dX h) (dX i)) (dX j)) dt) dt) (by decide+kernel)
theorem LX{a b c:Rat}(_:a<=60)(_:b<=c)(_:c<=1):a+b<=64:=by grind
theorem M9{a b c:Rat}(_:b<=1+1/2)(_:c-0<=1/2^54)(_:a-(c+b)<=1/2^48):a<=2:=by grind
theorem ab2{a b c:Rat}(_:b<=1/2)(_:-1<=c)(_:-b<=a-c):-(1+1/2)<=a:=by grind
theorem aas{a b c:Rat}(_:b<=1/2)(_:c<=1)(_:a-c<=b):a<=1+1/2:=by grind
theorem aaU{a b c:Rat}(_:c<=2)(_:b-(a+c)<=1/2^48):-64<=a-b:=by grind
theorem Xu{a b c:Rat}(_:c<=58)(_:b-(c+a)<=1/2^48):-64<=a-b:=by grind
theorem Uj{a b c:Rat}(_:c<=a)(_:-a<=c):-(a+1/2^48)<=b-b:=by grind
theorem Mt{a b c:Rat}(_:c<=b)(_:-b<=c):a-a<=b+1/2^48:=by grind
theorem UH{a b c:Rat}:12/25*(a-(3/10*a+59/100*b+11/100*c))+41/100*(c-(3/10*a+59/100*b+11/100*c))=48/100*(a-(3/10*a+59/100*b+11/100*c))+41/100*(c-(3/10*a+59/100*b+11/100*c)):=by grind
theorem MT{a b c:Rat}:37/50*(a-(3/10*a+59/100*b+11/100*c))-27/100*(c-(3/10*a+59/100*b+11/100*c))=74/100*(a-(3/10*a+59/100*b+11/100*c))-27/100*(c-(3/10*a+59/100*b+11/100*c)):=by grind
theorem NP{a b c:Rat}:a*b*c*c=a*c*(b*c):=by grind
theorem Wt{a b:Int}(_:(a:Rat)<=(b:Rat)):(a:Rat)<=1*(b:Rat):=by simp;omega
theorem VK{a b:Int}(_:-(a:Rat)<=(b:Rat)):-1*(a:Rat)<=(b:Rat):=by grind
theorem Vf{a b:Int}(_:0<=a)(_:0<=b):0<=a+b:=by lia
theorem Y1{a b:Int}(_:0<=b)(_:0<=a):0<=a+b:=by lia
theorem acd{a b:Int}(_:0<=b/\b<=a/\a<=1000000):(a-b).toNat<=2^24:=by simp;lia
theorem Ps{a b:Int}(_:a=b):¬a<b:=by simp[*]
theorem Pj{a b:Int}(_:a<=45)(_:0<=b):a-b<=45:=by lia
theorem OK{a b:Int}(_:a<=b)(_:b<=45):0+a<=45:=by lia
theorem Om{a b:Int}(_:b=a):¬a<b:=by simp[*]
theorem LW{a b:Int}:8*((a:Rat)/64-(b:Rat)/64)=8*(((a:Rat)-(b:Rat))/64):=by grind
theorem Zz{a b:Nat}(h:0+a<=12521):a+(12+b)+(12600-12-a)=12600+b:=by
 rw[xI a,I9 (bf (xO a▸h) (by decide)),<- mD]
theorem K2{a b:Nat}(_:0+b=5)(_:a=b):a=5:=by simp_all
theorem Vj{a b:Nat}(_:2^(b:Nat)<=2^4)(_:a+1=2^(b:Nat)):a<=100:=by lia
theorem aaq{a b:Nat}(_:a+(b+1)<17):a+(0+1)+b<17:=by simp_all+arith
theorem O1{a b:Nat}(_:a+(b+1)<17):a+1<17:=by lia
theorem SW{a b:Nat}(_:a+(b+1)<900):a+1+b<900:=by simp_all+arith
theorem aa7{a b:Nat}(_:a+(b+1)=15):a+1+b=15:=by simp_all+arith
theorem VN{a b:Nat}(_:a+(b+1)=15):a<=1000:=by lia
theorem S7{a b:Nat}(_:a+(b+1)=32):a+1+b=32:=by simp_all+arith
theorem RE{a b:Nat}(h:a+(b+1)=32):a<32:=h▸Ja (Jb b)
theorem QT{a b:Nat}(_:a+(b+1)=32):a<=1000:=by lia
theorem Wy{a b:Nat}(_:a+(b+1)<=1000000):a+(0+1)+b<=1000000:=by simp_all+arith
theorem aaM{a b:Nat}(_:a+(b+1+1)=17):a+(0+1)+(b+1)=17:=by simp_all+arith
theorem VX{a b:Nat}(_:a+(b+1+1)=17):a+1<17:=by lia
theorem WG{a b:Nat}(_:a+1+b=5):a+(b+1)=5:=by simp_all+arith
theorem Xk{a b:Nat}(_:a+10*(b+1+1)<=1000000):a+10<=1000000:=by simp;lia
theorem VA{a b:Nat}(_:a+100<=1000000)(_:b=5):a+b<=1000000:=by simp[*];lia
theorem Nk{a b:Nat}(_:a+10<=1000000)(_:b<=6):a+b<=1000000:=by lia
theorem Nl{a b:Nat}(_:a+2*(b+1)<=1000):a+2+2*b<=1000:=by simp_all+arith
theorem Ru{a b:Nat}(_:a+20000+10009*(b+1)<=1000000):a+20000<=1000000:=bf (dI _ _) ‹_›
theorem Yn{a b:Nat}(_:a+20000<=1000000)(_:b<=10000):a+b+10<=1000000:=by simp;lia
theorem LY{a b:Nat}(_:a+3000*(b+1)<=1000000):a+3000<=1000000:=by simp;lia
theorem WY{a b:Nat}(h:a+8*(b+1)<9000):a+(5+1)<9900:=t8 (ff (lD (bf (by decide:5+1<=8*1) (Cj 8 (Ch (lE b)))) a) h) (by decide)
theorem Se{a b:Nat}(h:a+8*(b+1)<9000):a+3+8*b<9000:=ff (bf (gV (mD ..)) (lD (bf (ro (by decide:3<=8) _) (gV (rm ..))) a)) h
theorem M8{a b:Nat}(h:a+8*(b+1)<9000):a<9900:=t8 (ff (dI _ _) h) (by decide)
theorem LD{a b:Nat}(_:a+b<=1000):a+b<=1000:=by assumption
theorem V1{a b:Nat}(_:a+b<=1000):a+b<=1000000:=bf ‹_› (by decide)
theorem O6{a b:Nat}(_:a+b<=1000000):a+b<=16777216:=bf ‹_› (by decide)
theorem KA{a b:Nat}(_:a=b%2^63):a%2^52=b%2^52:=by simp[*]
theorem NH{a b:Nat}(_:a=b%2^63):a/2^63=0:=by simp[*]
theorem Tw{a b:Nat}(_:a=b):a<b+1:=by simp[*]
theorem Vu{a b:Nat}(_:a=b):a=b:=by assumption
theorem TH{a b:Nat}(_:a=b+1+1):2<=a:=by simp[*]
theorem ZG{a b:Nat}(_:a=b+1+1):a-1=b+1:=by simp;omega
theorem Mk{a b:Nat}(_:a<=1000000):a+b*0<=1000000:=by assumption
theorem PR{a b:Nat}(_:a<=30)(_:b<=60000):a+b+100<=1000000:=by simp;lia
theorem Lp{a b:Nat}(_:a<=6)(_:b<=6):a+b<=1000000:=by lia
theorem Hb{a b:Nat}:max 0 (min (a:Int) (b:Int))=((min a b:Nat):Int):=match Nat.le_total a b with|.inl h=>(congrArg (max 0) (Int.min_eq_left (j7.mpr h))).trans ((act (nS a)).trans (congrArg _ (Nat.min_eq_left h).symm))|.inr h=>(congrArg (max 0) (Int.min_eq_right (j7.mpr h))).trans ((act (nS b)).trans (congrArg _ (Nat.min_eq_right h).symm))
theorem Sw{a b:Nat}(_:a<=b):max 0 (min (a:Int) (b:Int))=(a:Int):=Hb.trans (congrArg _ (Nat.min_eq_left ‹_›))
theorem PD{a b:Nat}(_:a<=b):min (a:Int) (b:Int)=(a:Int):=by grind
theorem ace{a b:Nat}(_:b+1+a=5):a<=4:=by lia
theorem aat{a b:Nat}(_:b+2=a):a=2+b:=by simp+arith [*]
theorem XS{a b:Nat}(h:b=16):((a%16:Nat):Int)<(b:Int):=nR.mpr (h.symm▸nT a (Jb 15))
theorem SG{a b:Nat}(_:b=a+2)(_:b<=6):a<=4:=by simp_all
theorem MS{a b:Nat}(_:b=a+2)(_:b<=6):a<=5:=by lia
theorem Lg{a b:Nat}(_:b=a+2):a+2=b:=acp (congrFun (congrArg HAdd.hAdd (id (Eq.symm ‹_›))) a)
theorem ac6{a b:Nat}(_:b<=1000)(_:a+3000<=1000000):a+b<=1000000:=by lia
theorem ZF{a b:Nat}(_:b<=1000)(_:a<=1000):a+b<=1000000:=by lia
theorem TR{a b:Nat}(_:b<=1000)(_:a<=b):a<=999999:=by lia
theorem Qc{a b:Nat}(_:b<=6)(_:a<=b):a<=1000:=by lia
theorem Ua{a b:Nat}(h:b<=6)(k:b=a+2):((a+1:Nat):Int).natAbs<=1000000:=bf (show a+1<=6 from bf (mE _) (show a+2<=6 from k▸h)) (by decide)
theorem ac3{a b:Nat}(_:b<=6)(_:b=a+2):a<=4:=by simp_all
theorem PX{a b:Nat}(_:b<=6)(_:b=a+2):a<=6:=by lia
theorem SI{a b:Nat}(h:¬(b:Int)<(a:Int)):a-b=0:=Jf (j7.mp (Jg.mp h))
theorem Up{a b:Nat}(_:¬a=b):(a:Int)≠(b:Int):=λh=>‹¬_› (ack h)
theorem Rv{a b:Nat}:((a:Int)+1*(b:Int)).toNat=a+b:=congrArg (λx=>((a:Int)+x).toNat) (Jh b)
theorem Qe{a b:Nat}:((a:Int)-(b:Int)+1-1).toNat=a-b:=by simp
theorem ZY{a b:Nat}:(a:Int)-((b+1:Nat):Int)=(a:Int)-(b:Int)-1:=by simp+arith
theorem OP{a b:Nat}:a+1+13*b+5+6*b<=a+6+19*b:=by simp+arith
theorem Vq{a b:Nat}:a+1+3*b+10*b=a+1+13*b:=by simp+arith
theorem Yy{a b:Nat}:a+10*(b+1)=a+10+10*b:=by simp+arith
theorem PY{a b:Nat}:a+13*(b+1)=a+13+13*b:=by simp+arith
theorem YQ{a b:Nat}:a+2*b+b=a+3*b:=by simp+arith
theorem WJ{a b:Nat}:a+2+13*b+5+6*b<=a+7+19*b:=by simp+arith
theorem RJ{a b:Nat}:a+330*(b+1)=a+7+19*17+330*b:=by simp+arith
theorem PB{a b:Nat}:a+6*(b+1)=a+6+6*b:=by simp+arith
theorem PH{a b:Nat}:a+b=0+b+a:=by simp+arith
theorem X0{a b:Nat}:min (min a b) b=min a b:=by simp
theorem QO{a b:Nat}{d:Int}{c:Rat}(_:-((a:Rat)*c-(d:Rat))<=(a:Rat)*(2^(b:Nat)/2^54)):-((a:Rat)*(2^(b:Nat)/2^54))<=(a:Rat)*c-(d:Rat):=by grind
theorem YE{a b:Rat}(_:-(1+1/2)<=b)(_:-(1/2^54)<=a-0):-64<=a+b:=by grind
theorem Vl{a b:Rat}(_:-b<=a)(_:b+2*0<=58):-60<=a:=by grind
theorem Qq{a b:Rat}(_:a-b=0):a=b:=by grind
theorem Xy{a b:Rat}(_:a<=b)(_:b+2*0<=58):a<=60:=by grind
theorem aaW{a b:Rat}(_:b<=1+1/2)(_:a-0<=1/2^54):a+b<=64:=by grind
theorem YZ{a b:Rat}(_:¬b<a)(_:¬a<b):a=b:=by grind -linarith
theorem MK{a c:Int}{b:Rat}:(a:Rat)/b+(c:Rat)/b=((a:Rat)+(c:Rat))/b:=by grind
theorem Tz{a c:Nat}{b:Int}(h:a=c)(k:0<=b+(c:Int)/\b+(c:Int)<(c:Int)):-(a:Int)<=b:=h▸Int.le_of_sub_nonneg ((Int.sub_neg b c).symm▸k.1)
theorem Ox{a:Int}(h:-1000<=a/\a<=1000):-9223372036854775808<=a/\a<9223372036854775808:=⟨fD (by decide) h.1,t9 h.2 (by decide)⟩
theorem Xm{a:Int}(_:0<(a:Rat)):-640000<=(a:Rat):=by grind
theorem abz{a:Int}(_:0<=(a:Rat)):-1<=(a:Rat)/64:=by grind
theorem RW{a:Int}(_:0<=(a:Rat)):0<=(a:Rat)/64:=by grind
theorem aam{a:Int}(_:0<=a)(_:a<=8):a.natAbs<=2^4:=by lia
theorem WQ{a:Int}(_:0<=a):0<=a:=by assumption
theorem aaB{a:Int}(h:a.natAbs<2^64):-2^64<a:=Int.neg_lt_of_neg_lt (t9 ((Int.natAbs_neg a)▸Jd) (nR.mpr h))
theorem Mp{a:Int}(h:a=1\/a=2\/a=3):a=0\/a=1\/a=2\/a=3\/a=4\/a=5\/a=6:=.inr (h.imp id (Or.imp id .inl))
theorem Lj{a:Int}(_:a=4\/a=5\/a=6):a=0\/a=1\/a=2\/a=3\/a=4\/a=5\/a=6:=by simp[*]
theorem S8{a:Int}(_:a≠0)(_:a.natAbs<2^64):¬(a=0\/2^64<=a.natAbs):=by simp[*]
theorem Wu{a:Int}(_:a<=3):a<=45:=fD ‹_› (by decide)
theorem W2{a:Int}(_:¬a<=0):0<a:=Int.lt_of_not_ge ‹_›
theorem Q5{a:Int}:(a:Rat)-(a:Rat)+(1/2^25+1/2^34+1/2^54)<=1/2^24:=by grind
theorem aa8{a:Int}:(a:Rat)-(a:Rat)+(300/2^40+1/2^50+1/2^53)<=1/2^31:=by grind
theorem Vs{a:Int}:(a:Rat)-(a:Rat)+(330/2^40+1/2^48+1/2^53)<=1/2^31:=Ck.symm▸by decide+kernel
theorem Na{a:Int}:(a:Rat)-(a:Rat)+1/2^25+1/2^34<=1:=Ck.symm▸by decide+kernel
theorem Vx{a:Int}:(a:Rat)-(a:Rat)+300/2^40+1/2^50<=2:=by grind
theorem Mm{a:Int}:(a:Rat)-(a:Rat)+330/2^40+1/2^48<=2:=by grind
theorem aaA{a:Int}:-(1/2^24)<=(a:Rat)-(a:Rat)-(1/2^25+1/2^34+1/2^54):=Ck.symm▸by decide+kernel
theorem aa3{a:Int}:-(1/2^31)<=(a:Rat)-(a:Rat)-(300/2^40+1/2^50+1/2^53):=by grind
theorem ZX{a:Int}:-(1/2^31)<=(a:Rat)-(a:Rat)-(330/2^40+1/2^48+1/2^53):=by grind
theorem abA{a:Int}:-1<=(a:Rat)-(a:Rat)-1/2^25-1/2^34:=by grind
theorem aaO{a:Int}:-2<=(a:Rat)-(a:Rat)-300/2^40-1/2^50:=Ck.symm▸by decide+kernel
theorem M1{a:Int}:-2<=(a:Rat)-(a:Rat)-330/2^40-1/2^48:=by grind
theorem Lh{a:Int}:64*((a:Rat)/64)=(a:Rat):=by grind
theorem T9{a:Int}:a+0<=a+0+(0+0):=Int.le.intro (0+0) rfl
theorem Rn{a:Int}{b:Prop}(_:(b/\0<=a)/\a<=1114111):a.toNat<=1114111:=by simp[*]
theorem UO{a:Int}{b:Rat}(_:0<=(a:Rat))(_:-(1/2^21)<=b-(a:Rat)):-((a:Rat)+1/2^21)<=b:=by grind
theorem abv{a:Int}{b:Rat}(_:0<=a/\a<=8/\8*b=(a:Rat)):a.natAbs<=8:=by lia
theorem Uw{a:Int}{b:Rat}:-((a:Rat)/b)=-(a:Rat)/b:=by grind
theorem MX{a:Nat}(_:(a:Int)<=64):a<=64*2^0:=j7.mp ‹_›
theorem ZE{a:Nat}(_:(a:Rat)<=14):0+4/2^48*(a:Rat)<=1:=by grind
theorem LS{a:Nat}(_:(a:Rat)<=14):2+2*(a:Rat)<=58:=by grind
theorem V5{a:Nat}(_:0<a):0<(a:Int):=nR.mpr ‹_›
theorem OY{a:Nat}(_:0<a):a=a-1+1:=by simp_all+arith
theorem Pg{a:Nat}(_:2^(a:Nat)<=2^4):2^(a:Nat)<=1000:=bf ‹_› (by decide)
theorem ZC{a:Nat}(_:2<=a):a=a-2+2:=by simp[*]
theorem Ot{a:Nat}(_:3^(a:Nat)<=3^4):((3^(a:Nat):Nat):Int).natAbs<2^64:=ff ‹_› (by decide)
theorem Wk{a:Nat}(h:54<=a):a-53=a-54+1:=(Ji (show 1<=a-53 from I8 h)).symm.trans (congrArg (·+1) (Nat.sub_sub a 53 1))
theorem acg{a:Nat}(h:63-a<a):63-(a:Int)<(a:Int):=Int.sub_right_lt_of_lt_add (nR.mpr (acu λq=>cQ a (ff (I8 q) h)))
theorem NA{a:Nat}(_:a*2<=1000):a+a<=1000:=by simp_all+arith
theorem aaQ{a:Nat}(_:a+0=15):a=15:=by assumption
theorem Ph{a:Nat}(_:a+0=32):a=32:=by assumption
theorem X9{a:Nat}(h:a+100000<=1000000):a+20000+10009*5<=1000000:=bf (mD a _ _▸lD (by decide) a) h
theorem KY{a:Nat}(_:a+10<=1000000):a<=999998:=by lia
theorem YA{a:Nat}(_:a+1<52):a<51:=by simp_all+arith
theorem K7{a:Nat}(_:a+a<=1000):a+a<=1000000:=bf ‹_› (by decide)
theorem MU{a:Nat}(_:a+a<=1000):a<=1000000:=by lia
theorem UU{a:Nat}(_:a<12):(a:Int)<12:=nR.mpr ‹_›
theorem XQ{a:Nat}(h:a<15):a-12<3:=ff (acv (acw h) 12) (by decide)
theorem Qy{a:Nat}(_:a<2^64):(a:Int).natAbs<2^64:=by assumption
theorem aak{a:Nat}(_:a<4):(a:Int)<=1000000:=by lia
theorem M0{a:Nat}(_:a<6):(a:Int)<=1000000:=by lia
theorem VW{a:Nat}(_:a<64):a<9000:=ck ‹_› (by decide)
theorem ME{a:Nat}(_:a=114\/a=103\/a=98\/a=13191)(_:¬a=13191):a=114\/a=103\/a=98:=by simp_all
theorem Xr{a:Nat}(_:a=16):15<a:=by simp[*]
theorem Uh{a:Nat}(_:a=16):a<=1000:=by subst_vars;decide
theorem KZ{a:Nat}(_:a=17):a<=1000:=by subst_vars;decide
theorem L9{a:Nat}(_:a=5):a<=1000000:=by subst_vars;decide
theorem Wf{a:Nat}(_:a=6):a<=1000:=by subst_vars;decide
theorem ZU{a:Nat}(_:a=6):a<=1000000:=by subst_vars;decide
theorem Ml{a:Nat}(_:a=650):a<=1000:=by subst_vars;decide
theorem abO{a:Nat}(_:a<=10):a<=1000:=bf ‹_› (by decide)
theorem ZS{a:Nat}(_:a<=1000):a<=1000:=by assumption
theorem abt{a:Nat}(_:a<=1000):a<=999998:=bf ‹_› (by decide)
theorem UZ{a:Nat}(_:a<=1000):¬2^24+1<a:=by lia
theorem VO{a:Nat}(_:a<=1000000):(a:Int)<2^63:=by lia
theorem Ti{a:Nat}(_:a<=1000000):a<=5592405:=bf ‹_› (by decide)
theorem Qf{a:Nat}(_:a<=1000000):¬2^63<=(a:Int):=by lia
theorem Re{a:Nat}(_:a<=10000000):a<2^61-1:=ff ‹_› (by decide)
theorem SR{a:Nat}(_:a<=10009*5):a<=60000:=bf ‹_› (by decide)
theorem YS{a:Nat}(_:a<=1001):a<=1000000:=bf ‹_› (by decide)
theorem QA{a:Nat}(_:a<=1114111):0<=(a:Int)/\(a:Int)<=1114111:=by simp;lia
theorem Pz{a:Nat}(_:a<=15):0+a<=1000:=by simp;lia
theorem abe{a:Nat}(_:a<=15):a<=1000:=bf ‹_› (by decide)
theorem NW{a:Nat}(_:a<=15):a<=15:=by assumption
theorem aax{a:Nat}(_:a<=2*15):a<=30:=by assumption
theorem abn{a:Nat}(_:a<=20):a<30:=ff ‹_› (by decide)
theorem Pf{a:Nat}(_:a<=30):a+100000<=1000000:=by simp;lia
theorem Q8{a:Nat}(_:a<=4):(a:Int)<=1000000:=by lia
theorem O7{a:Nat}(h:a<=4):a=0\/a=1\/a=2\/a=3\/a=4:=(by decide:∀ a<5,a=0\/a=1\/a=2\/a=3\/a=4) a (Jj h)
theorem WE{a:Nat}(_:a<=4):a<=1000:=bf ‹_› (by decide)
theorem aaa{a:Nat}(_:a<=4):a<=999:=bf ‹_› (by decide)
theorem aaf{a:Nat}(_:a<=4):a<=999998:=bf ‹_› (by decide)
theorem KV{a:Nat}(h:a<=62):a-1<62:=ff (acv h 1) (by decide)
theorem Q6{a:Nat}(_:a<=62):a<64:=ff ‹_› (by decide)
theorem WV{a:Nat}(_:a<=63):a<=1000000:=bf ‹_› (by decide)
theorem R1{a:Nat}(_:¬2^52<=a):2*a<=2^53:=by lia
theorem Ux{a:Nat}(h:¬63-a<a):¬63-(a:Int)<(a:Int):=Jg.mpr (Int.le_sub_right_of_add_le (j7.mpr ((Nat.le_sub_iff_add_le (bf (Ci h) (Nat.sub_le _ _))).mp (Ci h))))
theorem K4{a:Nat}(_:¬a%2=1):a%2=0:=by simp_all
theorem Tp{a:Nat}(h:¬a<12):(a:Int)-12=((a-12:Nat):Int):=(Int.ofNat_sub (lG.mp h)).symm
theorem ac8{a:Nat}(_:¬a<12):¬(a:Int)<12:=by lia
theorem PO{a:Nat}(_:¬a<=63):63<(a:Int):=by lia
theorem UI{a:Nat}:((a%4:Nat):Int).natAbs<=1000000:=bf (j8 (nT a (by decide))) (by decide)
theorem ZW{a:Nat}:((a+2:Nat):Int)-1=((a+1:Nat):Int):=by simp+arith
theorem LR{a:Nat}:(-(a:Int)+1074).toNat=1074-a:=(congrArg Int.toNat (xN (-(a:Int)) 1074)).trans (Int.toNat_sub 1074 a)
theorem UK{a:Nat}:(0+(a:Int)*1).toNat=0+a:=by simp
theorem KF{a:Nat}:(0<=-1+((a:Int)+1)/\-1+((a:Int)+1)<(a:Int)+1)/\(-1+((a:Int)+1)).toNat=a:=have e:-1+((a:Int)+1)=a:=(xN ..).trans ((xM ..).trans (o6 _));e.symm▸⟨⟨nS _,Int.lt_succ _⟩,rfl⟩
theorem YD{a:Nat}:(a:Int)-(a:Int)<=0:=by simp
theorem aaH{a:Nat}:-1000<=((a%3:Nat):Int)/\((a%3:Nat):Int)<=1000:=⟨fD (by decide) (nS _),j7.mpr (bf (j8 (nT a (by decide))) (by decide))⟩
theorem Vt{a:Nat}:0+(a:Int)*1=(a:Int):=by simp
theorem QQ{a:Nat}:0+a%4<=1000000:=by simp;grind
theorem XM{a:Nat}:0+a<=a:=by simp
theorem abq{a:Nat}:a%3<3:=by grind
theorem Ri{a:Nat}:a%4<=3:=by grind
theorem Sv{a:Nat}:a+(a+1)+1=(a+1)*2:=by simp+arith
theorem NK{a:Nat}:a+1+2+13*17+330*37+6+19*4<=a+12520:=by simp only[mD];exact lD (by decide) a
theorem Zi{a:Nat}:a≠a+1+1:=by simp+arith
theorem NZ{a:Nat}{b c d:Int}(_:-((b:Rat)/2^1074-((c:Rat)/2^1074+(d:Rat)/2^1074))<=2^(a:Nat)/2^54):-(2^(a:Nat)/2^54)<=(b:Rat)/2^1074-((c:Rat)/2^1074+(d:Rat)/2^1074):=by grind
theorem LN{a:Nat}{b c d:Int}(_:-((b:Rat)/2^1074-(c:Rat)/2^1074*((d:Rat)/2^1074))<=2^(a:Nat)/2^54):-(2^(a:Nat)/2^54)<=(b:Rat)/2^1074-(c:Rat)/2^1074*((d:Rat)/2^1074):=by grind
theorem UV{a:Nat}{b c d:Rat}(_:-(2^(a:Nat)/2^54)<=b-(c+-d)):-(2^(a:Nat)/2^54)<=b-(c-d):=by grind
theorem TL{a:Nat}{b c:Rat}(_:-2^(a:Nat)<=b-c):-2^(a:Nat)<=b+-c:=by grind
theorem Np{a:Nat}{b c:Rat}:2^(a:Nat)/b*(c*b)=2^(a:Nat)/b*b*c:=by grind
theorem K9{a:Nat}{b:Int}{c:Prop}(h:a<=1000/\0<=b/\b<=1114111/\c):a+(a+1)*1<=16777216:=bf (Jc h.1 (acx 1 (Ch h.1))) (by decide)
theorem XU{a:Rat}(_:0<=a):-a<=a:=by grind
theorem P3{a:Rat}(_:a+4/2^48*0<=1):a<=1:=by grind
theorem abC{a:Rat}(_:a-1<=0/\-0<=a-1):a=1:=by grind
theorem Rg{a:Rat}(_:a=0):-0<=a:=Std.le_of_eq (id (Eq.symm ‹_›))
theorem Yu{a:Rat}(_:a<=1/2^20):(6/5+1/2^52)*(8+a)<=64:=by grind
theorem Oe{a:Rat}(_:a<=1/2^20):(9/5+1/2^52)*(8+a)<=64:=by grind
theorem YK{a:Rat}(_:a<=1/2^20):1/2^52*(8+a)+6/5*a+1/2^48<=6/5*a+1/2^47:=by grind
theorem aab{a:Rat}(_:a<=1/2^20):1/2^52*(8+a)+9/5*a+1/2^48<=9/5*a+1/2^47:=by grind
theorem aav{a:Rat}:-0<=a-a:=by grind -linarith
theorem Nu{a:Rat}:a+(6/5*a+1/2^47)+1/2^48+(9/5*a+1/2^47)+1/2^48<=4*a+1/2^44:=by grind
theorem Ud{a:Rat}:a-a<=0:=by grind -linarith
theorem SN{b c:Nat}{a:Int}(_:c<=b)(_:a<(c:Int)):a<(b:Int)+1:=by lia
theorem LQ{b f:Nat}{d:Int}{a c e:Rat}(_:-((b:Rat)*(e*2^(f:Nat)))<=a*((b:Rat)*c-(d:Rat))):a*-((b:Rat)*c-(d:Rat))<=(b:Rat)*(e*2^(f:Nat)):=by grind
theorem Nd{b:Int}{a c:Rat}(_:(b:Rat)*a<=(b:Rat)*c):a*(b:Rat)<=(b:Rat)*c:=by grind
theorem UN{b:Int}{a:Rat}(_:8*a=(b:Rat))(_:(b:Rat)<=8):a<=1:=by grind
theorem RQ{b:Int}{a:Rat}(_:8*a=(b:Rat))(_:0<=(b:Rat)):-1<=a:=by grind
theorem XY{b:Int}{a:Rat}(_:a-(b:Rat)<=1/2^21):a<=(b:Rat)+1/2^21:=by grind
theorem X8{b:Nat}{a c d e f g:Rat}(_:-(1/2^48)<=g-(d+e))(_:-(a+4/2^48+5/2^48*(b:Rat)+1/2^48)<=c-(g+f)):-(a+5/2^48*((b:Rat)+1)+1/2^48)<=c-(d+(e+f)):=by grind
theorem Ku{b:Nat}{a:Int}(_:1<=a/\a<(b:Int)/\b<=1000000):0<=a:=by lia
theorem WW{b:Nat}{a:Int}(h:b=114\/b=103\/b=98)(c:65<=a):a+(b:Int)-97=(((a+(b:Int)-97).toNat:Nat):Int):=
 (Cm (Int.sub_nonneg_of_le (fD (by rcases h with rfl|rfl|rfl<;>decide) (aco c b)))).symm
theorem RD{b:Nat}{a:Int}(h:b<=6)(k:0<=a/\a<=135*(b:Int)):a.natAbs<2^64:=ff (mf (n:=810) (fD k.2 (Int.mul_le_mul_of_nonneg_left (j7.mpr h) (by decide))) (fD (by decide) k.1)) (by decide)
theorem Wo{b:Nat}{a:Int}:a+(b:Int)*1=a+(b:Int):=by simp
theorem QK{b:Nat}{a:Int}{c:Prop}(_:b<=1000/\0<=a/\a<=1114111/\c):0<=a/\a<=1114111:=by simp[*]
theorem aaw{b:Nat}{a:Rat}(_:a+2*((b:Rat)+1)<=58):a+2+2*(b:Rat)<=58:=by grind
theorem Mq{b:Nat}{a:Rat}(_:a+4/2^48*((b:Rat)+1)<=1):a+4/2^48+4/2^48*(b:Rat)<=1:=by grind
theorem aaS{c:Int}{a b d e:Rat}(_:b<=1)(_:(c:Rat)*b<=1/2)(_:d<=b)(_:d*e<=d*((c:Rat)+1/2^21))(_:d*(c:Rat)<=(c:Rat)*b)(_:a-d*e<=1/2^54):a<1:=by grind
theorem Nf{c:Nat}{a b d:Rat}(_:b*a<=(c:Rat)*(d*b)):a*b<=(c:Rat)*d*b:=by grind
theorem QD{c:Nat}{a b:Int}(_:-2^(c:Nat)<=(a:Rat)/2^1074+(b:Rat)/2^1074):-((a:Rat)/2^1074+(b:Rat)/2^1074)<=2^(c:Nat):=by grind
theorem RT{c:Nat}{a b:Int}{d:Rat}(_:-2^(c:Nat)*d*d<=(a:Rat)*(b:Rat)):-((a:Rat)*(b:Rat))<=2^(c:Nat)*d*d:=by grind
theorem Op{c:Nat}{a b:Rat}(_:-b<=a)(_:b+2*((c:Rat)+1)<=58):-58<=a:=by grind
theorem ZR{c:Nat}{a b:Rat}(_:a-b<=2^(c:Nat)):a+-b<=2^(c:Nat):=by grind
theorem Sp{c:Nat}{a b:Rat}(_:a<=b)(_:b+2*((c:Rat)+1)<=58):a<=58:=by grind
theorem LZ{c:Nat}{a b:Rat}(_:b*a<=2^(c:Nat)):a*b<=2^(c:Nat):=by grind
theorem Ts{c:Nat}{a:Int}{b:Rat}(_:(a:Rat)<=2^(c:Nat)*b):(a:Rat)<=b*2^(c:Nat):=by grind
theorem Y2{d e:Int}{a b c:Rat}(_:(d:Rat)+1<=(e:Rat))(_:b<=640000)(_:a*b=(d:Rat))(_:c*b=(e:Rat)):(a+1/2^20)*b<=c*b:=by grind
theorem Q7{d e:Nat}{a b c:Rat}(_:a*b*c<=(d:Rat)*(a*2^(e:Nat))):a*(b*c)<=a*((d:Rat)*2^(e:Nat)):=by grind
theorem LH{d:Int}{a b c:Rat}(_:c<=1)(_:(d:Rat)*c<=1/2)(_:a<=c)(_:-(a*((d:Rat)+1/2^21))<=a*b)(_:a*(d:Rat)<=(d:Rat)*c):-1<=a*b:=by grind
theorem Py{d:Int}{a b c:Rat}(_:c<=1)(_:(d:Rat)*c<=1/2)(_:a<=c)(_:a*b<=a*((d:Rat)+1/2^21))(_:a*(d:Rat)<=(d:Rat)*c):a*b<=1:=by grind
theorem LI{d:Nat}{a b c:Int}(_:-2^(1074+d-54:Nat)<=a-(b+c)):-(a-(b+c))<=2^(1074+d-54:Nat):=xG ‹_›
theorem Qd{d:Nat}{a b c:Rat}(_:-c<=a)(_:c+4/2^48*((d:Rat)+1)<=1)(_:-(3/2^48)<=b):-1<=a+b:=by grind
theorem Ry{d:Nat}{a b c:Rat}(_:a*b*(a*b)*c<=a*b*(a*2^(d:Nat))):a*b*a*(b*c)<=a*b*a*2^(d:Nat):=by grind
theorem MQ{d:Nat}{a b c:Rat}(_:a-(b+-c)<=2^(d:Nat)/2^54):a-(b-c)<=2^(d:Nat)/2^54:=by grind
theorem abo{d:Nat}{a b c:Rat}(_:a<=c)(_:c+4/2^48*((d:Rat)+1)<=1)(_:b<=3/2^48):a+b<=1:=by grind
theorem aaP{f:Nat}{a b c d e g:Rat}(_:-(1/2^54)<=c-0)(_:-(1/2^48)<=d-(c+e))(_:(f:Rat)<=14)(_:-(0+5/2^48*(f:Rat)+1/2^48)<=a-(d+g))(_:-(((f:Rat)+1)*(1/2^45))<=e+g-b):-(1/2^40)<=a-b:=by grind
theorem UR{f:Nat}{a b c d e g:Rat}(_:c-0<=1/2^54)(_:d-(c+e)<=1/2^48)(_:(f:Rat)<=14)(_:a-(d+g)<=0+5/2^48*(f:Rat)+1/2^48)(_:e+g-b<=((f:Rat)+1)*(1/2^45)):a-b<=1/2^40:=by grind
theorem ZI{f:Nat}{a b c d e g:Rat}(_:g-(b+c)<=1/2^48)(_:a-(g+d)<=e+4/2^48+5/2^48*(f:Rat)+1/2^48):a-(b+(c+d))<=e+5/2^48*((f:Rat)+1)+1/2^48:=by grind
theorem Mc{f:Nat}{b c d:Int}{a e:Rat}(_:-(a*(e*2^(f:Nat)))<=a*a*((b:Rat)/a-(c:Rat)/a*((d:Rat)/a))):a*a*-((b:Rat)/a-(c:Rat)/a*((d:Rat)/a))<=a*(e*2^(f:Nat)):=by grind
end
theorem aX{J b:Type _}{o:Option J}{k:J->Option b}{r:b}{P:Prop}(c:∀ a,o=some a->k a=some r->P):o.bind k=some r->P:=λh=>by
 cases o with
 |none=>exact nomatch h
 |some a=>exact c a rfl h
theorem bJ{J d e:Type _}{o:Option (J×d)}{k:J×d->Option e}{r:e}{P:Prop}(c:∀ a b,o=some (a,b)->k (a,b)=some r->P):o.bind k=some r->P:=aX λa=>c a.1 a.2
theorem qb{J e f g:Type _}{o:Option (J×e×f)}{k:J×e×f->Option g}{r:g}{P:Prop}(c:∀ a b d,o=some (a,b,d)->k (a,b,d)=some r->P):o.bind k=some r->P:=aX λa=>c a.1 a.2.1 a.2.2
theorem cb{J b:Type _}{o:Option J}{k:J->b}{r:b}{P:Prop}(c:∀ a,o=some a->k a=r->P):o.map k=some r->P:=λh=>by
 cases o with
 |none=>exact nomatch h
 |some a=>exact c a rfl (bw h)
theorem km{J d e:Type _}{o:Option (J×d)}{k:J×d->e}{r:e}{P:Prop}(c:∀ a b,o=some (a,b)->k (a,b)=r->P):o.map k=some r->P:=cb λa=>c a.1 a.2
theorem bD{J:Type _}{r:J}{P:Prop}(h:(none:Option J)=some r):P:=nomatch h
theorem ca{J:Type _}{c:Prop}{a:Decidable c}{o:Option J}{r:J}{P:Prop}(k:c->o=some r->P):(@ite _ c a o none)=some r->P:=λh=>by
 by_cases q:c
 ·rw[if_pos q]at h;exact k q h
 ·rw[if_neg q]at h;exact bD h
theorem AU{J:Type _}{c:Prop}{a:Decidable c}{o:Option J}{r:J}{P:Prop}(k:¬c->o=some r->P):(@ite _ c a none o)=some r->P:=λh=>by
 by_cases q:c
 ·rw[if_pos q]at h;exact bD h
 ·rw[if_neg q]at h;exact k q h
theorem ni{P:Prop}(h:false=true):P:=nomatch h
theorem ee{a b:Bool}(h:(a&&b)=true):a=true/\b=true:=by
 cases a with
 |false=>exact ni h
 |true=>exact⟨rfl,h⟩
theorem aT{J b:Type _}{o:Option J}{a:J}{k:J->Option b}{r:Option b}(h:o=some a)(e:k a=r):o.bind k=r:=(congrArg (Cn · k) h).trans e
theorem da{J b:Type _}{o:Option J}{a:J}{k:J->b}{r:Option b}(h:o=some a)(e:some (k a)=r):o.map k=r:=(congrArg (rp k) h).trans e
theorem we{J:Type _}{a b:Option J}{r:J}{P:Prop}(h1:a=some r->P)(h2:b=some r->P)(h:a.or b=some r):P:=by
 cases a with
 |none=>exact h2 h
 |some x=>exact h1 h
noncomputable def D2{J:Type _}:List J->Option J
 |[]=>none
 |a::l=>match l with
  |[]=>some a
  |_::_=>none
theorem Xb{J:Type _}{l:List J}{a:J}(h:D2 l=some a):l=[a]:=by
 cases l with
 |nil=>exact nomatch h
 |cons b l=>
  cases l with
  |nil=>exact bw h▸rfl
  |cons=>exact nomatch h
theorem g8{J c:Type _}{a x:J}{b y:c}{P:J->c->Prop}(k:P a b):some (a,b)=some (x,y)->P x y:=λh=>by cases h;exact k
theorem dR{J c:Type _}{a x:J}{b y:c}{P:J->c->Prop}(k:P a b):(a,b)=(x,y)->P x y:=λh=>by cases h;exact k
theorem U8{b:Bool}(h:(!b)=true):b=false:=by cases b<;>first|rfl|cases h
open PySem PySem.W PySem.Calls PyProof.Rows
noncomputable abbrev pw:rq:=PySem.Challenge.pw_xh0036_01
noncomputable def bB(i:Nat):dw:=(pw.main.body[i]?).getD (.Pass ⟨0,0,0,0⟩)
noncomputable def sP:dw->Arguments×List dw×Scope×iG×List iG×br
 |.FunctionDef _ a b _ _ _ s ..=>(a,b,s,default)
 |.ClassDef _ _ _ b ..=>(default,b,default)
 |.Assign t v q=>(default,[],default,v,t,q)
 |_=>default
noncomputable def fA(s:dw):Arguments:=(sP s).1
noncomputable def fB(s:dw):List dw:=(sP s).2.1
noncomputable def fS(s:dw):Scope:=(sP s).2.2.1
noncomputable def ox(i j:Nat):dw:=((fB (bB i))[j]?).getD (.Pass ⟨0,0,0,0⟩)
noncomputable def eP:iG->List (Option iG)×List iG×Const
 |.Dict k v _=>(k,v,.none)
 |.Constant c _ _=>([],[],c)
 |_=>([],[],.none)
noncomputable def wW(s:dw):List (Option iG):=(eP (sP s).2.2.2.1).1
noncomputable def vg(s:dw):List iG:=(eP (sP s).2.2.2.1).2.1
noncomputable def mc(s:dw):br:=(sP s).2.2.2.1.pos
noncomputable def cN:Const->Option Nat
 |.int (.ofNat k)=>some k
 |_=>none
noncomputable def cS:Const->Option Str
 |.str x=>some x
 |_=>none
noncomputable def Fq(e:Option iG):Option Nat:=e.bind λe=>cN (eP e).2.2
noncomputable def GV(e:iG):Option Str:=cS (eP e).2.2
noncomputable def vm:List (Option iG)->List iG->Option (List (Nat×Str))
 |[],a=>if a.isEmpty=true then some []else none
 |k::b,a=>(Fq k).bind λk=>a.head?.bind λv=>(GV v).bind λx=>(vm b a.tail).map ((k,x)::·)
noncomputable def nI:List (Nat×Str):=(vm (wW (bB 11)) (vg (bB 11))).getD []
noncomputable def qp:List (Int×Str):=nI.map λx=>(et x.1,x.2)
noncomputable def pG:Nat->List (Int×Str)->List cW
 |_,[]=>[]
 |j,(k,v)::r=>(if j<646 then⟨k,.int k (364+3*j),.str v (365+3*j)⟩else⟨k,.int k (2302+2*(j-646)),.str v (2303+2*(j-646))⟩)::pG (j+1) r
noncomputable def kA:List cW:=pG 0 qp
noncomputable def BS(n:Nat):bK:=⟨.type "dict",none,.dict (kA.take n).toArray n,#[]⟩
noncomputable def NO(i:Nat):bK:=⟨.type "dict",none,.dict ((kA.drop (17*i)).take 17).toArray (if i=38 then 4 else 17),#[]⟩
noncomputable def pA:br:=⟨0,0,0,0⟩
noncomputable def pB:br:=⟨0,0,0,0⟩
noncomputable def p0:br:=⟨61,0,61,8⟩
noncomputable def p1:br:=⟨62,0,62,6⟩
noncomputable def p2:br:=⟨63,0,64,30⟩
noncomputable def p3:br:=⟨65,0,65,13⟩
noncomputable def p4:br:=⟨96,0,166,63⟩
noncomputable def hs(s:String)(t:Nat):aI:=.str (aK s) t
noncomputable def hD(P:bX)(n:Nat)(l:List (String×Nat×aI)):bK:=⟨.type "dict",none,.dict (l.map λx=>⟨PyData.keyHash P (aK x.1),hs x.1 x.2.1,x.2.2⟩).toArray n,#[]⟩
noncomputable def hq(s:String)(n:Nat)(l:List aI):bK:=⟨.type s,none,.seq l.toArray n,#[]⟩
noncomputable def hT(l:List aI):bK:=hq "tuple" 0 l
noncomputable def hV(t:Nat):List String->List aI
 |[]=>[]
 |s::r=>hs s t::hV (t+1) r
noncomputable def hi(t:Nat):List Int->List aI
 |[]=>[]
 |s::r=>.int s t::hi (t+1) r
noncomputable def hF(v:aI)(l:List aI):bK:=⟨v,none,.fields l.toArray,#[]⟩
noncomputable def hC(nm q:String)(t u:Nat)(c d e k:Int)(a:Nat)(b:Bool)(x y z:aI):bK:=
 hF (.type "code") [hs nm t,hs q (t+1),hs "/claim/cut.py" (t+2),.int c 0,.int d 0,.int 0 0,.int 0 0,.int e 0,.ref a,.bool b,.int k 0,.ref (a+1),.none,x,y,z,.int u 0,.int c 0,hs "/claim/cut.py" (u+1)]
noncomputable def hU(v:aI)(nm q:String)(s:dw)(g:Nat)(a c:aI):bK:=⟨v,none,.func {name:=aK nm,qualname:=aK q,params:=fA s,body:=.stmts (fB s),scope:=fS s,globals:=g,closure:=[],defaults:=.none,kwdefaults:=.none,doc:=.none,pyModule:=a,annotations:=none,code:=c,closureTuple:=.none,builtins:=0},#[]⟩
noncomputable def hG(a t:Nat)(nm q:String)(s:dw)(b c:Int)(d:aI):List String->List bK
 |[]=>[hT [],hF .none [],hU .none nm q s 0 .none .none,hC nm q t (t+3) b c 3 181 a true .none .none (.ref (a+2)),hU (.type "function") nm q s 3 d (.ref (a+3))]
 |v=>[hT [],hF .none [],hT (hV (t+3) v),hT [],hU .none nm q s 0 .none .none,hC nm q t (t+3+v.length) b c 3 181 a true (.ref (a+2)) (.ref (a+3)) (.ref (a+4)),hU (.type "function") nm q s 3 d (.ref (a+5))]
noncomputable def hR(f d:Nat)(a:aI):bK:=⟨.type "frame",none,.plain,#[some (.ref f),some (.ref 3),some (.ref d),none,some a,none,some (.ref 0)]⟩
noncomputable def bT(l:List bK):Nat->Nat->Nat->BT
 |0,_,_=>.nil
 |d+1,i,s=>match l[i]? with
  |none=>.nil
  |some o=>.node o (bT l d (i+s) (s+s)) (bT l d (i+s+s) (s+s))
noncomputable def hN(P:bX)(s:String)(t n k:Nat):bK:=hD P k (("__name__",165,hs s t)::Co n [("__doc__",166,.none),("__package__",167,.none),("__loader__",168,.builtin "__main__.__loader__#opaque"),("__spec__",169,.none),("__annotations__",170,.ref 6),("__builtins__",171,.ref 4),("__file__",173,hs "/claim/cut.py" 172),("__cached__",174,.none),("TupleComp",230,.ref 38),("add_func_stats",248,.ref 49),("add_callers",259,.ref 56),("count_calls",268,.ref 63),("rgb_to_yiq",282,.ref 70),("yiq_to_rgb",294,.ref 77),("b1_set",356,.ref 85),("in_table_b1",363,.ref 95),("b3_exceptions",2314,.ref 96),("map_table_b3",2322,.ref 141),("_law_typed",2339,.ref 148),("_law_whole",2349,.ref 155),("_law_rank",2355,.ref 160),("_law_row",2361,.ref 165),("law",2367,.ref 170)])
noncomputable def hK(n:Nat):bK:=hF .none ((Co n [(2,20),(16,48),(20,55),(33,62),(39,69),(44,76),(63,94),(66,140),(72,147),(86,154),(89,159),(91,164),(96,169)]).flatMap λx:Int×Nat=>[.int x.1 0,.int 0 0,.ref x.2])
noncomputable def AG(P:bX):bK:=hD P 159 [("__name__",1,hs "builtins" 160),("__doc__",2,.builtin "builtins.__doc__:str#opaque"),("__package__",3,.builtin "builtins.__package__:str#opaque"),("__loader__",4,.builtin "builtins.__loader__:shared#opaque"),("__spec__",5,.builtin "builtins.__spec__#opaque"),("__build_class__",6,.builtin "__build_class__"),("__import__",7,.builtin "__import__"),("abs",8,.builtin "abs"),("all",9,.builtin "all"),("any",10,.builtin "any"),("ascii",11,.builtin "ascii"),("bin",12,.builtin "bin"),("breakpoint",13,.builtin "breakpoint"),("callable",14,.builtin "callable"),("chr",15,.builtin "chr"),("compile",16,.builtin "compile"),("delattr",17,.builtin "delattr"),("dir",18,.builtin "dir"),("divmod",19,.builtin "divmod"),("eval",20,.builtin "eval"),("exec",21,.builtin "exec"),("format",22,.builtin "format"),("getattr",23,.builtin "getattr"),("globals",24,.builtin "globals"),("hasattr",25,.builtin "hasattr"),("hash",26,.builtin "hash"),("hex",27,.builtin "hex"),("id",28,.builtin "id"),("input",29,.builtin "input"),("isinstance",30,.builtin "isinstance"),("issubclass",31,.builtin "issubclass"),("iter",32,.builtin "iter"),("aiter",33,.builtin "aiter"),("len",34,.builtin "len"),("locals",35,.builtin "locals"),("max",36,.builtin "max"),("min",37,.builtin "min"),("next",38,.builtin "next"),("anext",39,.builtin "anext"),("oct",40,.builtin "oct"),("ord",41,.builtin "ord"),("pow",42,.builtin "pow"),("print",43,.builtin "print"),("repr",44,.builtin "repr"),("round",45,.builtin "round"),("setattr",46,.builtin "setattr"),("sorted",47,.builtin "sorted"),("sum",48,.builtin "sum"),("vars",49,.builtin "vars"),("None",50,.none),("Ellipsis",51,.ellipsis),("NotImplemented",52,.notImplemented),("False",53,.bool false),("True",54,.bool true),("bool",55,.type "bool"),("memoryview",56,.type "memoryview"),("bytearray",57,.type "bytearray"),("bytes",58,.type "bytes"),("classmethod",59,.type "classmethod"),("complex",60,.type "complex"),("dict",61,.type "dict"),("enumerate",62,.type "enumerate"),("filter",63,.type "filter"),("float",64,.type "float"),("frozenset",65,.type "frozenset"),("property",66,.type "property"),("int",67,.type "int"),("list",68,.type "list"),("map",69,.type "map"),("object",70,.type "object"),("range",71,.type "range"),("reversed",72,.type "reversed"),("set",73,.type "set"),("slice",74,.type "slice"),("staticmethod",75,.type "staticmethod"),("str",76,.type "str"),("super",77,.type "super"),("tuple",78,.type "tuple"),("type",79,.type "type"),("zip",80,.type "zip"),("__debug__",81,.bool true),("BaseException",82,.type "BaseException"),("BaseExceptionGroup",83,.type "BaseExceptionGroup"),("Exception",84,.type "Exception"),("GeneratorExit",85,.type "GeneratorExit"),("KeyboardInterrupt",86,.type "KeyboardInterrupt"),("SystemExit",87,.type "SystemExit"),("ArithmeticError",88,.type "ArithmeticError"),("AssertionError",89,.type "AssertionError"),("AttributeError",90,.type "AttributeError"),("BufferError",91,.type "BufferError"),("EOFError",92,.type "EOFError"),("ImportError",93,.type "ImportError"),("LookupError",94,.type "LookupError"),("MemoryError",95,.type "MemoryError"),("NameError",96,.type "NameError"),("OSError",97,.type "OSError"),("ReferenceError",98,.type "ReferenceError"),("RuntimeError",99,.type "RuntimeError"),("StopAsyncIteration",100,.type "StopAsyncIteration"),("StopIteration",101,.type "StopIteration"),("SyntaxError",102,.type "SyntaxError"),("SystemError",103,.type "SystemError"),("TypeError",104,.type "TypeError"),("ValueError",105,.type "ValueError"),("Warning",106,.type "Warning"),("FloatingPointError",107,.type "FloatingPointError"),("OverflowError",108,.type "OverflowError"),("ZeroDivisionError",109,.type "ZeroDivisionError"),("BytesWarning",110,.type "BytesWarning"),("DeprecationWarning",111,.type "DeprecationWarning"),("EncodingWarning",112,.type "EncodingWarning"),("FutureWarning",113,.type "FutureWarning"),("ImportWarning",114,.type "ImportWarning"),("PendingDeprecationWarning",115,.type "PendingDeprecationWarning"),("ResourceWarning",116,.type "ResourceWarning"),("RuntimeWarning",117,.type "RuntimeWarning"),("SyntaxWarning",118,.type "SyntaxWarning"),("UnicodeWarning",119,.type "UnicodeWarning"),("UserWarning",120,.type "UserWarning"),("BlockingIOError",121,.type "BlockingIOError"),("ChildProcessError",122,.type "ChildProcessError"),("ConnectionError",123,.type "ConnectionError"),("FileExistsError",124,.type "FileExistsError"),("FileNotFoundError",125,.type "FileNotFoundError"),("InterruptedError",126,.type "InterruptedError"),("IsADirectoryError",127,.type "IsADirectoryError"),("NotADirectoryError",128,.type "NotADirectoryError"),("PermissionError",129,.type "PermissionError"),("ProcessLookupError",130,.type "ProcessLookupError"),("TimeoutError",131,.type "TimeoutError"),("IndentationError",132,.type "IndentationError"),("_IncompleteInputError",133,.type "_IncompleteInputError"),("IndexError",134,.type "IndexError"),("KeyError",135,.type "KeyError"),("ModuleNotFoundError",136,.type "ModuleNotFoundError"),("NotImplementedError",137,.type "NotImplementedError"),("PythonFinalizationError",138,.type "PythonFinalizationError"),("RecursionError",139,.type "RecursionError"),("UnboundLocalError",140,.type "UnboundLocalError"),("UnicodeError",141,.type "UnicodeError"),("BrokenPipeError",142,.type "BrokenPipeError"),("ConnectionAbortedError",143,.type "ConnectionAbortedError"),("ConnectionRefusedError",144,.type "ConnectionRefusedError"),("ConnectionResetError",145,.type "ConnectionResetError"),("TabError",146,.type "TabError"),("UnicodeDecodeError",147,.type "UnicodeDecodeError"),("UnicodeEncodeError",148,.type "UnicodeEncodeError"),("UnicodeTranslateError",149,.type "UnicodeTranslateError"),("ExceptionGroup",150,.type "ExceptionGroup"),("EnvironmentError",151,.type "OSError"),("IOError",152,.type "OSError"),("open",153,.builtin "open"),("quit",154,.builtin "builtins.quit#opaque"),("exit",155,.builtin "builtins.exit#opaque"),("copyright",156,.builtin "builtins.copyright#opaque"),("credits",157,.builtin "builtins.credits#opaque"),("license",158,.builtin "builtins.license#opaque"),("help",159,.builtin "builtins.help#opaque")]
noncomputable def H9(P:bX):bK:=hD P 2 [("builtins",162,.ref 4),("__main__",163,.ref 5)]
noncomputable def Ix(P:bX):bK:=⟨.none,none,(.dict (List.toArray []) 0),#[]⟩
noncomputable def sS(P:bX):bK:=⟨(.type "module"),(some 0),.plain,#[]⟩
noncomputable def nD(P:bX):bK:=⟨.type "set",none,.set (([(65024,313),(65025,314),(65026,315),(65027,316),(65028,317),(65029,318),(6150,299),(65030,319),(65031,320),(65032,321),(65033,322),(6155,300),(6156,301),(6157,302),(8203,303),(8204,304),(8205,305),(65034,323),(65035,324),(65036,325),(65037,326),(65038,327),(65039,328),(173,297),(847,298),(8288,306),(65279,307)]:List (Nat×Nat)).map λx=>(x.1,.int x.1 x.2)).toArray 29 {mask:=127,place:=#[0,1,2,3,4,5,6,7,8,9,10,11,12,13,14,15,16,17,18,19,20,21,22,45,79,96,127],dummies:=#[],finger:=0,led:=!P.followText "set-order",moves:=2,plain:=true},#[]⟩
noncomputable def vP(P:bX):bK:=hN P "law_xh0036_01" 2323 23 24
noncomputable def QY(P:bX):bK:=hC "__init__" "TupleComp.__init__" 201 206 4 2 3 181 22 true (.ref 24) (.ref 25) (.ref 26)
noncomputable def Pq(P:bX):bK:=hU (.type "function") "__init__" "TupleComp.__init__" (ox 1 0) 3 (hs "cpy313.pstats" 187) (.ref 27)
noncomputable def LJ(P:bX):bK:=hF .none []
noncomputable def Hz(P:bX):bK:=hC "add_callers" "add_callers" 249 257 20 2 3 181 50 true (.ref 52) (.ref 53) (.ref 54)
noncomputable def Xw(P:bX):bK:=hC "law" "law" 2362 2365 96 1 3 181 166 true .none .none (.ref 168)
noncomputable def h0(P:bX)(o:bK):List bK:=[AG P,H9 P,Ix P,o,sS P,⟨(.type "module"),(some 3),.plain,#[]⟩,hD P 0 [],hT [],hF .none [],hC "<module>" "<module>" 176 179 1 0 0 175 7 false .none .none .none,hR 9 3 (hs "__main__" 164)]
noncomputable def h1(k:Nat):List bK:=[hT [],hK k,hC "<module>" "<module>" 182 185 1 0 0 181 11 false .none .none .none,hR 13 3 (hs "__main__" 164)]
noncomputable def h2(P:bX):List bK:=[hT [],hF (.type "builtin_function_or_method") [(.builtin "type.__prepare__"),(.type "type")],hD P 6 [("__module__",196,hs "cpy313.pstats" 187),("__qualname__",198,hs "TupleComp" 197),("__firstlineno__",200,.int 2 199),("__init__",208,.ref 28),("compare",221,.ref 35),("__static_attributes__",223,.ref 36)],hT [],hF .none [(.int 4 0),(.int 4 0),(.ref 27),(.int 7 0),(.int 4 0),(.ref 34)],hC "TupleComp" "TupleComp" 191 194 2 0 0 181 18 false .none .none .none,hR 20 17 (hs "cpy313.pstats" 187)]++hG 22 201 "__init__" "TupleComp.__init__" (ox 1 0) 4 2 (hs "cpy313.pstats" 187) ["self","comp_select_list"]++hG 29 209 "compare" "TupleComp.compare" (ox 1 1) 7 3 (hs "cpy313.pstats" 187) ["self","left","right","index","direction","l","r"]++[hT [hs "comp_select_list" 222],hD P 4 [("__module__",196,hs "cpy313.pstats" 187),("__firstlineno__",200,.int 2 199),("__init__",208,.ref 28),("compare",221,.ref 35),("__static_attributes__",223,.ref 36),("__dict__",225,.ref 39),("__weakref__",227,.ref 40),("__doc__",228,.none)],⟨(.type "type"),none,(.cls {name:=(aK "TupleComp"),bases:=[(.type "object")],mro:=[(.ref 38),(.type "object")],ns:=37,qualname:=(aK "TupleComp"),hasDict:=true,slotNames:=[],subclasses:=[],abstract:=false,collection:=none,hasDel:=false}),#[none,none,some (hs "TupleComp" 189),some (hs "TupleComp" 197),some (.builtin "object.__new__"),some (.bool true)]⟩,hF (.type "getset_descriptor") [hs "__dict__" 224,(.ref 38),(.builtin "function.__dict__"),(.builtin "function.__dict__#set")],hF (.type "getset_descriptor") [hs "__weakref__" 226,(.ref 38),(.builtin "ExceptionGroup.__weakref__"),.none],hF (.type "super") [(.ref 38),(.ref 38),(.ref 38)],hF (.type "builtin_function_or_method") [(.builtin "object.__init_subclass__"),(.ref 38)]]++hG 43 231 "add_func_stats" "add_func_stats" (bB 2) 16 2 (hs "cpy313.pstats" 187) ["target","source","cc","nc","tt","ct","callers","t_cc","t_nc","t_tt","t_ct","t_callers"]++hG 50 249 "add_callers" "add_callers" (bB 3) 20 2 (hs "cpy313.pstats" 187) ["target","source","new_callers","func","caller"]++hG 57 260 "count_calls" "count_calls" (bB 4) 33 1 (hs "cpy313.pstats" 187) ["callers","nc","calls"]++hG 64 271 "rgb_to_yiq" "rgb_to_yiq" (bB 6) 39 3 (hs "cpy313.colorsys" 269) ["r","g","b","y","i","q"]++hG 71 283 "yiq_to_rgb" "yiq_to_rgb" (bB 7) 44 3 (hs "cpy313.colorsys" 269) ["y","i","q","r","g","b"]
noncomputable def h3(P:bX):List bK:=[hq "list" 0 (hi 297 [173,847,6150,6155,6156,6157,8203,8204,8205,8288,65279]),hF (.type "range") [(.int 65024 308),(.int 65040 309),(.int 1 310)],hq "list" 18 (hi 313 [65024,65025,65026,65027,65028,65029,65030,65031,65032,65033,65034,65035,65036,65037,65038,65039]),hF (.type "range_iterator") [(.int 65040 0),(.int 0 0),(.int 1 0)],hT [],hF (.type "StopIteration") [(.ref 82),.none,.none,.none,(.bool false),.none],hq "list" 0 (hi 297 [173,847,6150,6155,6156,6157,8203,8204,8205,8288,65279]++hi 313 [65024,65025,65026,65027,65028,65029,65030,65031,65032,65033,65034,65035,65036,65037,65038,65039]),nD P,hF (.type "list_iterator") [.none,(.int 27 0)],hT [],hF (.type "StopIteration") [(.ref 87),.none,.none,.none,(.bool false),.none]]
noncomputable def h4:List bK:=hG 89 357 "in_table_b1" "in_table_b1" (bB 10) 63 1 (hs "cpy313.stringprep" 295) ["code"]
noncomputable def h5:List bK:=BS 650::(aO 38).map λi=>NO (i+1)
noncomputable def h6:List bK:=hG 135 2315 "map_table_b3" "map_table_b3" (bB 12) 66 1 (hs "cpy313.stringprep" 295) ["code","r"]++hG 142 2325 "_law_typed" "_law_typed" (bB 14) 72 2 (hs "law_xh0036_01" 2323) ["word","style","unseen","bases","other","typed","place","sign","kind"]++hG 149 2340 "_law_whole" "_law_whole" (bB 15) 86 1 (hs "law_xh0036_01" 2323) ["light","r","g","b"]++hG 156 2350 "_law_rank" "_law_rank" (bB 16) 89 2 (hs "law_xh0036_01" 2323) []++hG 161 2356 "_law_row" "_law_row" (bB 17) 91 3 (hs "law_xh0036_01" 2323) []++hG 166 2362 "law" "law" (bB 18) 96 1 (hs "law_xh0036_01" 2323) []
noncomputable def lB(P:bX):List bK:=h0 P (hN P "__main__" 164 8 9)++h1 0
noncomputable def l0(P:bX):List bK:=h0 P (hN P "cpy313.stringprep" 295 14 15)++h1 6++h2 P
noncomputable def l1(P:bX):List bK:=h0 P (hN P "cpy313.stringprep" 295 15 16)++h1 6++h2 P++h3 P
noncomputable def l2(P:bX):List bK:=h0 P (hN P "cpy313.stringprep" 295 16 17)++h1 7++h2 P++h3 P++h4
noncomputable def l3(P:bX):List bK:=h0 P (hN P "cpy313.stringprep" 295 17 18)++h1 7++h2 P++h3 P++h4++h5
noncomputable def l4(P:bX):List bK:=h0 P (vP P)++h1 13++h2 P++h3 P++h4++h5++h6
noncomputable def TB(P:bX):BT:=bT (lB P) 9 0 1
noncomputable def T0(P:bX):BT:=bT (l0 P) 9 0 1
noncomputable def T1(P:bX):BT:=bT (l1 P) 9 0 1
noncomputable def T2(P:bX):BT:=bT (l2 P) 9 0 1
noncomputable def T3(P:bX):BT:=bT (l3 P) 9 0 1
noncomputable def T4(P:bX):BT:=bT (l4 P) 9 0 1
noncomputable def HA(P:bX):bh:=⟨(lB P).toArray,{}⟩
noncomputable def HF(P:bX):bh:=⟨(l4 P).toArray,{}⟩
noncomputable def tb:=fF
noncomputable def fK:Option aI:=some (.ref 6)
noncomputable def ey:cz:={scope:=pw.main.scope,locals:=mainNs,globals:=mainNs,cells:=[],code:=.ref 13,frame:=some 14}
noncomputable def fm:Code:=.body (Jk pw) ey
noncomputable def i4:List rt:=[topFrame ⟨0,0,0,0⟩]
noncomputable def g0:List dw:=[bB 0,bB 1,bB 2,bB 3,bB 4,bB 5,bB 6,bB 7,bB 8]
noncomputable def g1:List dw:=[bB 9]
noncomputable def g2:List dw:=[bB 10]
noncomputable def g3:List dw:=[bB 11]
noncomputable def g4:List dw:=[bB 12,bB 13,bB 14,bB 15,bB 16,bB 17,bB 18]
noncomputable abbrev fj(T:bX->BT)(n k:Nat)(w:aY)(os:lH):SharedT:=⟨T w.params,n,{},#[],{},k,os⟩
theorem Si(w:aY):(λos=>xP fF pw w 11 fK 1 459 (fj TB 15 187 w os) (xQ g0 ey fm pB i4))=λos=>some (.next,fj T0 78 297 w os,fm,p0):=by
 kernel_rfl
theorem YU(w:aY):(λos=>xP fF pw w 11 fK 1 30 (fj T1 89 357 w os) (xQ g2 ey fm p1 i4))=λos=>some (.next,fj T2 96 364 w os,fm,p2):=by
 kernel_rfl
theorem abF(w:aY):(λos=>xP fF pw w 11 fK 1 187 (fj T3 135 2315 w os) (xQ g4 ey fm p3 i4))=λos=>some (.next,fj T4 171 2368 w os,fm,p4):=by
 kernel_rfl
noncomputable def SZ(w:aY)(os:lH):aL:=⟨o7 w.params,#[],boot_drawn,boot_toks,os⟩
noncomputable def SA(w:aY)(os:lH):aL:=⟨HA w.params,#[],{},187,os⟩
noncomputable def SF(w:aY)(os:lH):aL:=⟨HF w.params,#[],{},2368,os⟩
theorem W3(w:aY):(λos=>topGo fF pw w 11 fK 12 (SZ w os) (topStub pw))=λos=>some (SA w os,⟨denote fF fm,fm,pA,i4⟩):=by
 kernel_rfl
theorem Z6(w:aY):(λos=>segRun fF pw w 11 fK 1 1 (SA w os) (blockOf (Jk pw) ey fm pA i4))=λos=>some (.next,(fj TB 15 187 w os).abs,fm,pB):=by
 kernel_rfl
theorem Nn(w:aY):(λos=>jb fF pw w 11 fK 2 (fj T4 171 2368 w os).abs ⟨doneF .next,fm,p4,i4⟩)=λos=>some (SF w os):=by
 kernel_rfl
def P1(w:aY):Prop:=(λos=>xP fF pw w 11 fK 1 999 (fj T0 78 297 w os) (xQ g1 ey fm p0 i4))=λos=>some (.next,fj T1 89 357 w os,fm,p1)
def mj(w:aY):Prop:=(λos=>PySem.W.Fast.tw10110043849684766642 PySem.W.Fast.tw14364793385576792824 pw w 11 fK 1 999 (fj T0 78 297 w os) (xQ g1 ey fm p0 i4))=λos=>some (.next,fj T1 89 357 w os,fm,p1)
theorem wX{w:aY}(h:mj w):P1 w:=by
 unfold P1;rw[PySem.W.Fast.te10110043849684766642,PySem.W.Fast.te14364793385576792824];exact h
theorem aaN(w:aY):mj ((w.withFollow "special-get-raises" false).withFollow "set-order" false):=by
 unfold mj;kernel_rfl
theorem abJ(w:aY):mj ((w.withFollow "special-get-raises" true).withFollow "set-order" false):=by
 unfold mj;kernel_rfl
theorem acb(w:aY):mj ((w.withFollow "special-get-raises" false).withFollow "set-order" true):=by
 unfold mj;kernel_rfl
theorem aar(w:aY):mj ((w.withFollow "special-get-raises" true).withFollow "set-order" true):=by
 unfold mj;kernel_rfl
theorem M5(w:aY):P1 w:=
 byRow2 "set-order" (P:=P1)
  (λw=>byRow2 "special-get-raises" (P:=λw=>P1 (w.withFollow "set-order" false)) (λw=>wX (aaN w)) (λw=>wX (abJ w)) w)
  (λw=>byRow2 "special-get-raises" (P:=λw=>P1 (w.withFollow "set-order" true)) (λw=>wX (acb w)) (λw=>wX (aar w)) w) w
section
variable{w:aY}{J β:Type}{n₀:Nat}{ann:Option aI}{tb:String->Option Builtin}{prog:rq}
def Go(tb:String->Option Builtin)(prog:rq)(w:aY)(n₀:Nat)(ann:Option aI){J:Type}(m:bA J)(s:aL)(p:br)(b:Nat)(a:J)(e:aL)(f:br)(d:Nat):Prop:=
 ∃ n,b+n<=d/\∀ (K:J->bA Fin) (H:aI->bA Fin) (g:Bool->Bool) (h:List aI->List aI) (B:List rt) (c:Code) (N:Nat) (r:aL),
  jb tb prog w n₀ ann N e ⟨K a,c,f,B⟩=some r->jb tb prog w n₀ ann (n+N) s ⟨m.wrap K H g h,c,p,B⟩=some r
variable{x x1 x2:Nat}{s s1 s' s2:aL}{p p1 p' p2:br}{a:J}{b:β}{m:bA J}
theorem Go.pure:Go tb prog w n₀ ann (.pure a) s p x a s p x:=(aS 0 (cu _) (λK H d e B c N r h=>by rw[xO];exact h))
theorem Go.mono(h:Go tb prog w n₀ ann m s p x a s1 p1 x1)(c:x1<=x2):Go tb prog w n₀ ann m s p x a s1 p1 x2:=by
 exact aV h λn d h=>(aS n (bf d c) h)
theorem Go.wrap{d:J->bA β}{e:aI->bA β}{g1:Bool->Bool}{l1:List aI->List aI}(h1:Go tb prog w n₀ ann m s p x a s1 p1 x1)(h2:Go tb prog w n₀ ann (d a) s1 p1 x1 b s2 p2 x2):
  Go tb prog w n₀ ann (m.wrap d e g1 l1) s p x b s2 p2 x2:=by
 refine aQ λf=>aV h1 λg i h1=>?_;obtain⟨j,k,h2⟩:=h2;refine f (aS (g+j) (Me i k) (λK H l n B c N r h=>?_));rw[Sem.wrap_wrap,mD];exact h1 _ _ _ _ _ _ _ _ (h2 _ _ _ _ _ _ _ _ h)
theorem Go.bind{f:J->bA β}(h1:Go tb prog w n₀ ann m s p x a s1 p1 x1)(h2:Go tb prog w n₀ ann (f a) s1 p1 x1 b s2 p2 x2):Go tb prog w n₀ ann (m >>= f) s p x b s2 p2 x2:=by
 rw[acy];exact h1.wrap h2
theorem Go.keep{c:List aI}(h1:Go tb prog w n₀ ann m s p x a s1 p1 x1):Go tb prog w n₀ ann (m.keep c) s p x a s1 p1 x1:=by
 rw[Sem.keep_eq_wrap];exact h1.wrap .pure
theorem Go.holding{c:List aI}(h1:Go tb prog w n₀ ann m s p x a s1 p1 x1):Go tb prog w n₀ ann (holding c m) s p x a s1 p1 x1:=by
 delta js
 generalize List.filter _ c=l;cases l with
 |nil=>exact h1
 |cons=>exact h1.keep
theorem Go.onRaise{h:aI->bA Unit}(h1:Go tb prog w n₀ ann m s p x a s1 p1 x1):Go tb prog w n₀ ann (m.onRaise h) s p x a s1 p1 x1:=by
 rw[Sem.onRaise_eq_wrap];exact h1.wrap .pure
theorem Go.one {i:bA J} (hs:∀ (K:J->bA Fin) (H:aI->bA Fin) (d:Bool->Bool) (f:List aI->List aI) (B:List rt) (c:Code),
   through ⟨m.wrap K H d f,c,p,B⟩=false/\stepOk n₀ ann ⟨m.wrap K H d f,c,p,B⟩=true/\step (denote tb) prog w s ⟨m.wrap K H d f,c,p,B⟩=.go s1 ⟨i.wrap K H d f,c,p1,B⟩)
  (h:Go tb prog w n₀ ann i s1 p1 (x+1) a s2 p2 x2):Go tb prog w n₀ ann m s p x a s2 p2 x2:=by
 refine aQ λg=>aV h λn e h=>g (aS (n+1) (by exact Qo e) (λK H d f B c N r q=>aQ λg=>?_));obtain⟨h1,h2,h3⟩:=hs K H d f B c;refine g ?_;rw[show n+1+N=(n+N)+1 by exact(xI _ 1 _)];unfold jb;rw[h1,h2,h3];exact h _ _ _ _ _ _ _ _ q
variable{ht:bh}{gens:Array Cp}{drawn:Drawn}{toks:Nat}{os:lH}
theorem Go.rule{t:String}{k:Unit->bA J}(h:Go tb prog w n₀ ann (k ()) ⟨ht,gens,drawn,toks,os⟩ p (x+1) a s2 p2 x2):Go tb prog w n₀ ann (.rule t k) ⟨ht,gens,drawn,toks,os⟩ p x a s2 p2 x2:=
 .one (λK H d e B c=>⟨nU _,rfl,rfl⟩) h
theorem Go.at{q:br}{k:Unit->bA J}(h:Go tb prog w n₀ ann (k ()) ⟨ht,gens,drawn,toks,os⟩ q (x+1) a s2 p2 x2):Go tb prog w n₀ ann (.at q k) ⟨ht,gens,drawn,toks,os⟩ p x a s2 p2 x2:=
 .one (λK H d e B c=>⟨nU _,rfl,rfl⟩) h
theorem Go.ask{k:Setting->bA J}(h:Go tb prog w n₀ ann (k ⟨prog,w.params⟩) ⟨ht,gens,drawn,toks,os⟩ p (x+1) a s2 p2 x2):Go tb prog w n₀ ann (.ask k) ⟨ht,gens,drawn,toks,os⟩ p x a s2 p2 x2:=
 .one (λK H d e B c=>⟨nU _,rfl,rfl⟩) h
theorem Go.fresh{k:dz->bA J}(h:Go tb prog w n₀ ann (k toks) ⟨ht,gens,drawn,toks+1,os⟩ p (x+1) a s2 p2 x2):Go tb prog w n₀ ann (.fresh k) ⟨ht,gens,drawn,toks,os⟩ p x a s2 p2 x2:=
 .one (λK H d e B c=>⟨nU _,rfl,rfl⟩) h
theorem Go.alloc{o:bK}{k:aJ->bA J}(h:Go tb prog w n₀ ann (k ht.objs.size) ⟨ht.push o,gens,drawn,toks,os⟩ p (x+1) a s2 p2 x2):Go tb prog w n₀ ann (.alloc o k) ⟨ht,gens,drawn,toks,os⟩ p x a s2 p2 x2:=
 .one (λK H d e B c=>⟨nU _,rfl,rfl⟩) h
theorem Go.load{d:aJ}{part:Option aI}{k:bK->bA J}{o:bK}(e:ht.get? d=some o)(h:Go tb prog w n₀ ann (k o) ⟨ht,gens,drawn,toks,os⟩ p (x+1) a s2 p2 x2):Go tb prog w n₀ ann (.load d part k) ⟨ht,gens,drawn,toks,os⟩ p x a s2 p2 x2:=
 .one (λK H f g B c=>⟨nU _,rfl,by simp only[Sem.wrap,step,e]⟩) h
theorem Go.update{d:aJ}{part:Option aI}{f:bK->bK}{k:Unit->bA J}{o:bK}(hd:n₀<=d)(e:ht.get? d=some o)(h:Go tb prog w n₀ ann (k ()) ⟨ht.update d f,gens,drawn,toks,os⟩ p (x+1) a s2 p2 x2):Go tb prog w n₀ ann (.update d part f k) ⟨ht,gens,drawn,toks,os⟩ p x a s2 p2 x2:=
 .one (λK H g i B c=>⟨nU _,by simp only[Sem.wrap,stepOk,fg];exact⟨rfl,by rw[Nat.ble_eq_true_of_le hd];rfl⟩,by simp only[Sem.wrap,step,e,acz,if_true]⟩) h
end
abbrev d8(w:aY){J:Type}(m:bA J)(s:aL)(p:br)(b:Nat)(a:J)(d:aL)(e:br)(c:Nat):Prop:=Go fF pw w 11 fK m s p b a d e c
section
variable{w:aY}{J β:Type}{x x1 x2:Nat}{p p1 p' p2:br}{s s1 s2:aL}{a:J}{b:β}
variable{ht:bh}{gens:Array Cp}{drawn:Drawn}{toks:Nat}{os:lH}
theorem Ex(k:Int)(t:dz):specialOf (.int k t) "__hash__"=.pure (some (.builtin "int.__hash__")):=by kernel_rfl
theorem Tq(k:Int)(t:dz):bindSpecial (.builtin "int.__hash__") (.int k t)=.pure (.builtin "int.__hash__",[.int k t]):=by kernel_rfl
theorem xq{tb:String->Option Builtin}{c:rq}{d:Nat}{e:Option aI}{t f:Thread}{N:Nat}(h1:through t=false)(h2:stepOk d e t=true)(h3:step (denote tb) c w s t=.go s1 f):
  jb tb c w d e (N+1) s t=jb tb c w d e N s1 f:=by
 show(match through t with|true=>_|false=>_)=_;exact h1▸h2▸h3▸rfl
theorem L8(k:Nat)(t:dz):denote fF (.call (.builtin "int.__hash__") ⟨[.int (et k) t],[]⟩)=.pure (.again (.builtin "int.__hash__" ⟨[.int (et k) t],[]⟩)):=by kernel_rfl
theorem Mj(k:Nat)(t:dz):denote fF (.builtin "int.__hash__" ⟨[.int (et k) t],[]⟩)=.fresh λu=>.pure (.done (.ret (.int (ru (et k)) u))):=by kernel_rfl
theorem VC(k:Nat)(t:dz)(N:Nat)(g:Bool)(l:List aI)(d:o8->bA Fin)(c:Code)(B:List rt):
  jb fF pw w 11 fK (N+4) ⟨ht,gens,drawn,toks,os⟩ ⟨.call (.call (.builtin "int.__hash__") ⟨[.int (et k) t],[]⟩) none g l d,c,p,B⟩
   = jb fF pw w 11 fK N ⟨ht,gens,drawn,toks+1,os⟩ ⟨d (.ok (.ret (.int (ru (et k)) toks))),c,p,B⟩:=by
 rw[xq (by exact nU _) rfl rfl];rw[L8,xq (by exact Cq _) (by kernel_rfl) (step_again ..),Mj,xq (by exact nU _) (by kernel_rfl) rfl,xq (by exact Cq _) (by kernel_rfl) rfl]
theorem Go.aek {f v:aI} {args:List aI} (h:∀ (N:Nat) (g:Bool) (l:List aI) (d:o8->bA Fin) (c:Code) (B:List rt),
  jb fF pw w 11 fK (N+4) s ⟨.call (.call f ⟨args,[]⟩) none g l d,c,p,B⟩=jb fF pw w 11 fK N s1 ⟨d (.ok (.ret v)),c,p1,B⟩):d8 w (call f args) s p x v s1 p1 (x+4):=by
 refine(aS 4 (cu _) (λK H e i B c N r q=>?_));rw[rm];exact(h N _ _ _ c B).trans q
theorem Q4(k:Nat)(t:dz):d8 w (pyHash (.int (et k) t)) ⟨ht,gens,drawn,toks,os⟩ p x (iH (et k)) ⟨ht,gens,drawn,toks+1,os⟩ p (x+5):=by
 have d:=rawHash_range (et k);unfold pyHash pyHashByItsType;refine Go.bind (a:=()) (b:=iH (et k)) .pure ?_;rw[Ex];refine Go.bind .pure ?_;rw[if_neg (by rw[beq_builtin_none];exact o9)];refine Go.bind .pure (Go.bind (a:=some (.int (ru (et k)) toks)) (s1:=⟨ht,gens,drawn,toks+1,os⟩) (p1:=p) (x1:=x+5) ?_ ?_)
 ·unfold callSpecialIfBoundUnlessNone?;refine .holding (Go.bind (a:=some (.builtin "int.__hash__",[.int (et k) t])) (s1:=⟨ht,gens,drawn,toks,os⟩) (p1:=p) (x1:=x+1) ?_ ?_)
  ·unfold bindSpecialIfBound?;rw[Ex];refine Go.bind .pure (Go.ask ?_);show d8 w (if _ then _ else _) _ _ _ _ _ _ _;rw[Tq];split
   ·exact .pure
   ·exact .pure
  ·show d8 w (if _ then _ else _) _ _ _ _ _ _ _;rw[if_neg (by intro h;cases h)];exact Go.bind (Go.aek λN g l e c B=>VC k t N g l e c B) .pure
 ·show d8 w (if (decide (-(2:Int)^63<=ru (et k))&&decide (ru (et k)<2^63))=true then _ else _) _ _ _ _ _ _ _;rw[if_pos (by rw[decide_eq_true d.1,decide_eq_true d.2];rfl)];exact .pure
end
section
variable{w:aY}{J β:Type}{c c1:Nat}{p p1 p' p2:br}{s s1 s2:aL}{a:J}{b:β}
variable{ht:bh}{gens:Array Cp}{drawn:Drawn}{toks:Nat}{os:lH}
theorem D8{h:bh}{d:aJ}{o:bK}(f:h.get? d=some o):h.objs[d]?=some o:=by
 delta Heap.get? at f
 revert f;generalize h.objs[d]?=q;intro f;cases q with
 |none=>exact nomatch f
 |some x=>cases x with
  |mk c e y s=>cases y with
   |freed=>exact nomatch f
   |_=>exact f
noncomputable def dO(d:List cW)(n:Nat):bK:={cls:=.type "dict",data:=.dict d.toArray n}
theorem Go.ld{d:aJ}{part:Option aI}{o:bK}(e:ht.get? d=some o):d8 w (loadPart d part) ⟨ht,gens,drawn,toks,os⟩ p c o ⟨ht,gens,drawn,toks,os⟩ p (c+1):=.load e .pure
theorem aaY{n:Nat}{f:Nat->Option Int}{h:Int}(d:∀ i,i<n->f i≠some h):placesWithHash n f h=[]:=by
 unfold placesWithHash;refine Jl.mpr ?_;intro i hi;simpa using d i (eu.mp hi)
theorem Di{d:aJ}{f:List cW}{n:Nat}(g:ht.get? d=some (dO f n)){k:Int}{t:dz}{h:Int}(j:∀ e∈f,e.hash≠h):
  d8 w (dictFind d (.int k t) h) ⟨ht,gens,drawn,toks,os⟩ p c none ⟨ht,gens,drawn,toks,os⟩ p (c+1):=by
 unfold dictFind;refine .holding (Go.bind (a:=f.toArray) (Go.bind (Go.ld g) .pure) ?_);dsimp only;rw[aaY (λi hi=>by
  rw[acA hi,mF];intro e;exact j _ (by simpa using Array.getElem_mem hi) (bw e))]
 exact .pure
theorem N8{h:bh}{d:aJ}{o:bK}{f g:bK->bK}(k:h.get? d=some o)(e:f o=g o):h.update d f=h.update d g:=by
 have hd:h.objs[d]?=some o:=D8 k;obtain⟨j,l⟩:=h;show(⟨j.modify d f,l⟩:bh)=⟨j.modify d g,l⟩;congr 1;refine ub λi=>?_;rw[nV,nV];split
 ·next q=>subst q;change j[d]?=some o at hd;refine hd▸?_;simp[e]
 ·rfl
noncomputable def hX(d:List cW)(n:Nat)(e:cW):bK->bK:=λ_=>dO (d++[e]) (n+1)
theorem Qs{ht:bh}{d:aJ}{part:Option aI}{e:List cW}{n:Nat}(f:ht.get? d=some (dO e n))(g:e.length<=1000):
  d8 w (lookBehind d part) ⟨ht,gens,drawn,toks,os⟩ p c () ⟨ht,gens,drawn,toks,os⟩ p (c+1):=by
 unfold lookBehind;refine Go.bind (Go.ld f) ?_;have:(dO e n).data.pastItsLine=none:=by
  show(if e.toArray.size>kG+1 then some "dict:memory" else none)=none;exact(if_neg (by rw[eY];unfold kG;exact UZ g))
 exact this▸.pure
theorem EK{d:aJ}{part:Option aI}{f:List cW}{n:Nat}{e:cW}(g:ht.get? d=some (dO f n))(hd:11<=d)(h:f.length<1000):
  d8 w (updateDictKeys d (·.push e) part) ⟨ht,gens,drawn,toks,os⟩ p c () ⟨ht.update d (hX f n e),gens,drawn,toks,os⟩ p (c+3):=by
 unfold updateDictKeys;refine Go.bind (Go.ld g) (Go.bind (a:=()) (s1:=⟨ht.update d (hX f n e),gens,drawn,toks,os⟩) (p1:=p) (x1:=c+2) ?_ ?_)
 ·exact(show ht.update d (hX f n e)=ht.update d (Obj.mapDictKeys (·.push e))from N8 g (congrArg (λl=>Obj.mk (.type "dict") none (.dict l (n+1)) #[]) (List.push_toArray ..).symm))▸(Go.update hd g .pure)
 ·exact Qs (pa _ g rfl) (by simp;exact(acw h))
theorem Ds{d:aJ}{f:List cW}{n:Nat}(g:ht.get? d=some (dO f n))(hd:11<=d)(h:f.length<1000){k:Nat}{t:dz}{v:aI}(i:∀ e∈f,e.hash≠iH (et k)):
  d8 w (uc d (.int (et k) t) v) ⟨ht,gens,drawn,toks,os⟩ p c () ⟨ht.update d (hX f n ⟨iH (et k),.int (et k) t,v⟩),gens,drawn,toks+1,os⟩ p (c+10):=by
 unfold uc;refine .holding (Go.bind (Q4 k t) ?_);unfold dictSetHashed;refine .holding (Go.bind (Di g i) ?_);dsimp only;exact Go.bind (Go.rule .pure) (EK g hd h)
theorem Qh{d:aJ}{f:List cW}{n:Nat}(g:ht.get? d=some (dO f n))(hd:11<=d)(i:f.length<1000){k:Int}{h:Int}{t:dz}{v:aI}(j:∀ e∈f,e.hash≠h):
  d8 w (xR d h (.int k t) v) ⟨ht,gens,drawn,toks,os⟩ p c () ⟨ht.update d (hX f n ⟨h,.int k t,v⟩),gens,drawn,toks,os⟩ p (c+4):=by
 unfold xR;refine Go.bind (Di g j) ?_;dsimp only;exact EK g hd i
structure aaG (w:aY) (kv:bA aI×bA aI) (k:Nat) (x:Str) (q:br):Prop where
 key:∀ ht gens drawn toks os p c,d8 w kv.1 ⟨ht,gens,drawn,toks,os⟩ p c (.int (et k) toks) ⟨ht,gens,drawn,toks+1,os⟩ p (c+1)
 val:∀ ht gens drawn toks os p c,d8 w kv.2 ⟨ht,gens,drawn,toks,os⟩ p c (.str x toks) ⟨ht,gens,drawn,toks+1,os⟩ q (c+2)
noncomputable def gi(k:Nat)(x:Str)(t:Nat):cW:=⟨iH (et k),.int (et k) t,.str x (t+1)⟩
noncomputable def ew:List (Nat×Str)->Nat->List cW
 |[],_=>[]
 |(k,x)::l,t=>gi k x t::ew l (t+3)
theorem Au{t:Nat}:ew [] t=[]:=rfl
theorem zR{p:Nat×Str}{l:List (Nat×Str)}{t:Nat}:ew (p::l) t=gi p.1 p.2 t::ew l (t+3):=rfl
noncomputable def Apart:List cW->List (Nat×Str)->Prop
 |_,[]=>True
 |d,(k,x)::l=>(∀ e∈d,e.hash≠iH (et k))/\∀ t,Apart (d++[gi k x t]) l
inductive gD (w:aY) (q:br):List (bA aI×bA aI)->List (Nat×Str)->Prop
 |nil:gD w q [] []
 |cons {kv l k x m}:aaG w kv k x q->gD w q l m->gD w q (kv::l) ((k,x)::m)
theorem gD.length{q:br}{l:List (bA aI×bA aI)}{m:List (Nat×Str)}(h:gD w q l m):l.length=m.length:=by
 induction h with
 |nil=>rfl
 |cons _ _ d=>simp[d]
theorem Bd(h:bh)(d:aJ)(a b:bK):(h.update d λ_=>a).update d (λ_=>b)=h.update d λ_=>b:=by
 obtain⟨e,l⟩:=h;show(⟨(e.modify d _).modify d _,l⟩:bh)=⟨e.modify d _,l⟩;congr 1;refine ub λi=>?_;rw[nV,nV,nV];split
 ·cases e[i]?<;>rfl
 ·rfl
theorem zV{h:bh}{d:aJ}{o:bK}(f:h.get? d=some o):h.update d (λ_=>o)=h:=by
 have hd:h.objs[d]?=some o:=D8 f;obtain⟨e,l⟩:=h;show(⟨e.modify d _,l⟩:bh)=⟨e,l⟩;congr 1;refine ub λi=>nV▸?_;split
 ·next q=>subst q;change e[d]?=some o at hd;refine hd▸?_;rfl
 ·rfl
theorem P4{d:aJ}(hd:11<=d){q:br}{l:List (bA aI×bA aI)}{m:List (Nat×Str)}(h:gD w q l m):∀ (e:List cW) (n:Nat) (ht:bh) (toks:Nat) (p:br) (c:Nat),
  ht.get? d=some (dO e n)->e.length+m.length<=1000->Apart e m->d8 w (forIn l kH λ(o:bA aI×bA aI) _=>do
    let k <- o.1;let v <- js [k] o.2
    js [k,v] (uc d k v)
    pure (kI kH)) ⟨ht,gens,drawn,toks,os⟩ p c kH ⟨ht.update d (λ_=>dO (e++ew m toks) (n+m.length)),gens,drawn,toks+3*m.length,os⟩ (if m.isEmpty then p else q) (c+13*m.length):=by
 induction h with
 |nil=>
  intro e n ht toks p c i j f;rw[Cr];simp only[Au,zR,gW,iJ,ua,Cs,zV i];exact .pure
 |@cons o l k x m t y u=>
  intro e n ht toks p c i j f;have r:e.length<1000:=by simp only[cK]at j;exact z9 j
  have g:=u (e++[gi k x toks]) (n+1) (ht.update d (hX e n (gi k x toks))) (toks+3) q (c+13) (pa _ i rfl) (by simp only[cU,cK,iJ]at j ⊢;lia) (f.2 toks);rw[ry];refine Go.bind (Go.bind (t.key ..) (Go.bind (Go.holding (t.val ..)) (Go.bind (Go.holding (Ds i hd r f.1)) .pure))) ?_;dsimp only;unfold hX at g;rw[Bd,ite_self]at g;simp only[Au,zR,eO,rz,cK,acB,jc,if_false]at g ⊢;refine(show n+(m.length+1)=n+1+m.length by lia)▸(show toks+3*(m.length+1)=toks+3+3*m.length by lia)▸(show c+13*(m.length+1)=c+13+13*m.length by exact PY)▸?_;unfold hX;exact g
theorem EC{q:br}{l:List (bA aI×bA aI)}{m:List (Nat×Str)}(h:gD w q l m)(f:15<m.length)(k:m.length<=1000)(n:11<=ht.objs.size)(j:Apart [] m):
  d8 w (ud l) ⟨ht,gens,drawn,toks,os⟩ p c ht.objs.size ⟨ht.push (dO (ew m toks) m.length),gens,drawn,toks+3*m.length,os⟩ q (c+2+13*m.length):=by
 unfold ud;refine Go.bind (Go.alloc .pure) (Go.bind (a:=()) (s1:=⟨ht.push (dO (ew m toks) m.length),gens,drawn,toks+3*m.length,os⟩) (p1:=q) (x1:=c+2+13*m.length) ?_ .pure);refine .holding ?_;rw[if_neg (by rw[h.length];exact(Nat.not_le_of_lt f))];refine Go.bind (Go.rule .pure) ?_;have o:(ht.push (dO [] 0)).get? ht.objs.size=some (dO [] 0):=dx _ rfl;have g:=P4 (w:=w) (gens:=gens) (drawn:=drawn) (os:=os) n h [] 0 _ toks p (c+2) o (by simpa using k) j;have e:(ht.push (dO [] 0)).update ht.objs.size (λ_=>dO ([]++ew m toks) (0+m.length))=ht.push (dO (ew m toks) m.length):=by
  obtain⟨d,l⟩:=ht;show(⟨(d.push _).modify d.size _,l⟩:bh)=⟨d.push _,l⟩;congr 1;refine ub λi=>nV▸?_;by_cases q:d.size=i
  ·subst q;simp
  ·rw[if_neg q,ue,ue,if_neg (Ne.symm q),if_neg (Ne.symm q)]
 replace g:=e▸g;have r:(if m.isEmpty then p else q)=q:=by cases m with
  |nil=>cases f
  |cons=>rfl
 replace g:=r▸g;exact Go.bind g .pure
theorem DP{d:aJ}{e:List cW}{n:Nat}(f:ht.get? d=some (dO e n)):d8 w (typeOf (.ref d)) ⟨ht,gens,drawn,toks,os⟩ p c (.type "dict") ⟨ht,gens,drawn,toks,os⟩ p (c+1):=
 Go.bind (Go.load f .pure) .pure
theorem LP:isSubtype (.type "dict") (.type "dict")=.pure true:=by kernel_rfl
theorem abm:typeLookup (.type "dict") "__iter__"=.pure (some (.builtin "dict.__iter__")):=by kernel_rfl
theorem yM{d:aJ}{part:Option aI}{e:List cW}{n:Nat}(f:ht.get? d=some (dO e n)):d8 w (dictEntries d part) ⟨ht,gens,drawn,toks,os⟩ p c e.toArray ⟨ht,gens,drawn,toks,os⟩ p (c+1):=
 Go.bind (Go.ld f) .pure
theorem DR{d:aJ}{part:Option aI}{e:List cW}{n:Nat}(f:ht.get? d=some (dO e n)):d8 w (dictEpoch d part) ⟨ht,gens,drawn,toks,os⟩ p c n ⟨ht,gens,drawn,toks,os⟩ p (c+1):=
 Go.bind (Go.ld f) .pure
noncomputable def tY:List cW->List cW->Prop
 |_,[]=>True
 |d,x::l=>(∃ k t,x.key=.int k t)/\(∀ e∈d,e.hash≠x.hash)/\tY (d++[x]) l
theorem aay{d a:aJ}(hd:11<=d)(q:d≠a){n':Nat}:∀ (post pre f:List cW) (n:Nat) (ht:bh) (c:Nat),ht.get? d=some (dO f n)->ht.get? a=some (dO (pre++post) n')->
  f.length+post.length<=1000->tY f post->d8 w (forIn (Ct pre.length post.length) kH λi (_:PUnit)=>do
    let A <- dictEntries a;match A[i]? with
    |some e=>do
     js [e.key,e.val] (if false=true then do
          let hit <- dictFind d e.key e.hash
          if hit.isSome=true then do
            rule "dict.merge.duplicate-key"
            let r <- newExc (.type "KeyError") [e.key]
            raiseNew r
            xR d e.hash e.key e.val
           else xR d e.hash e.key e.val
         else xR d e.hash e.key e.val)
     let B <- dictEpoch a
     if (B != n')=true then do
      unsupported "dict.changed-during-merge"
      pure (kI kH)
     else pure (kI kH)
    |_=>do
     unsupported "dict.changed-during-merge"
     pure (kI kH)) ⟨ht,gens,drawn,toks,os⟩ p c kH ⟨ht.update d (λ_=>dO (f++post) (n+post.length)),gens,drawn,toks,os⟩ p (c+6*post.length):=by
 intro u;induction u with
 |nil=>
  intro pre f n ht c l v m o;rw[iJ,List.range'_zero,Cr];simp only[gW,ua,Cs,zV l];exact .pure
 |cons x post y=>
  intro pre f n ht c l v m o;refine aQ λC=>bO o λD E o=>?_;obtain⟨k,t,hk⟩:=D;refine C ?_;have z:f.length<1000:=by simp only[cK]at m;exact z9 m
  rw[cK,Cu,ry];have j:(ht.update d (hX f n x)).get? a=some (dO (pre++x::post) n'):=by rw[Heap.get?_update_other _ _ q];exact v
  have g:=y (pre++[x]) (f++[x]) (n+1) (ht.update d (hX f n x)) (c+6) (pa _ l rfl)
   (by rw[eO,rz];exact j) (by simp only[cU,cK,iJ]at m ⊢;lia) o
  refine Go.bind (a:=kI kH) (s1:=⟨ht.update d (hX f n x),gens,drawn,toks,os⟩) (p1:=p) (x1:=c+6) ?_ ?_
  ·refine Go.bind (yM v) ((show(pre++x::post).toArray[pre.length]?=some x by simp)▸?_);dsimp only;refine Go.bind (a:=()) (s1:=⟨ht.update d (hX f n x),gens,drawn,toks,os⟩) (p1:=p) (x1:=c+5) (Go.holding ?_) (Go.bind (DR j) ?_)
   ·obtain⟨h,key,val⟩:=x;subst hk;rw[if_neg (by simp)];exact Qh l hd z E
   ·rw[if_neg (by simp)];exact .pure
  ·dsimp only;unfold hX at g;rw[Bd,eO,rz,cU,List.length_singleton]at g;refine(show n+(post.length+1)=n+1+post.length by lia)▸(show c+6*(post.length+1)=c+6+6*post.length by exact PB)▸?_;unfold hX;exact g
theorem TW{d:aJ}{e:List cW}{n:Nat}(f:ht.get? d=some (dO e n)):d8 w (isInstance (.ref d) (.type "dict")) ⟨ht,gens,drawn,toks,os⟩ p c true ⟨ht,gens,drawn,toks,os⟩ p (c+1):=by
 unfold isInstance;refine Go.bind (DP f) ?_;refine LP▸?_;exact .pure
theorem acf{d:aJ}{e:List cW}{n:Nat}(f:ht.get? d=some (dO e n)):d8 w (specialOf (.ref d) "__iter__") ⟨ht,gens,drawn,toks,os⟩ p c (some (.builtin "dict.__iter__")) ⟨ht,gens,drawn,toks,os⟩ p (c+1):=by
 unfold specialOf;refine Go.bind (DP f) ?_;refine abm▸?_;exact .pure
theorem DE{d a:aJ}(hd:11<=d)(f:a≠pb)(i:d≠a){e post:List cW}{n n':Nat}(k:ht.get? d=some (dO e n))(h:ht.get? a=some (dO post n'))
  (j:e≠[]) (l:e.length+post.length<=1000) (m:tY e post) :
  d8 w (Jm d (.ref a) false) ⟨ht,gens,drawn,toks,os⟩ p c () ⟨ht.update d (λ_=>dO (e++post) (n+post.length)),gens,drawn,toks,os⟩ p (c+5+6*post.length):=by
 unfold Jm;refine Go.bind (TW h) ?_;rw[if_pos rfl];refine Go.bind (acf h) (Go.bind (a:=true) (by rw[show(some (Jn "dict.__iter__")==some (Jn "dict.__iter__"))=true by simp];exact .pure) ?_);dsimp only;rw[if_neg (by simpa using f)];refine Go.bind (yM k) ?_;rw[if_neg (by cases e with|nil=>exact absurd rfl j|cons=>simp)];refine Go.bind (yM h) (Go.bind (DR h) ?_);have g:=aay (w:=w) (gens:=gens) (drawn:=drawn) (toks:=toks) (os:=os) (p:=p) hd i (n':=n') post [] e n ht (c+5) k h l m;rw[iJ,<- acC]at g;rw[eY];exact Go.bind g .pure
noncomputable def vals2:List (Nat×Str)->Nat->List (aI×aI)
 |[],_=>[]
 |(k,x)::l,t=>(.int (et k) t,.str x (t+1))::vals2 l (t+2)
theorem zu{t:Nat}:vals2 [] t=[]:=rfl
theorem Ba{p:Nat×Str}{l:List (Nat×Str)}{t:Nat}:vals2 (p::l) t=(.int (et p.1) t,.str p.2 (t+1))::vals2 l (t+2):=rfl
noncomputable def fN:List (Nat×Str)->Nat->List cW
 |[],_=>[]
 |(k,x)::l,t=>gi k x t::fN l (t+2)
theorem BR{t:Nat}:fN [] t=[]:=rfl
theorem zr{p:Nat×Str}{l:List (Nat×Str)}{t:Nat}:fN (p::l) t=gi p.1 p.2 t::fN l (t+2):=rfl
theorem aal{q:br}{l:List (bA aI×bA aI)}{m:List (Nat×Str)}(h:gD w q l m):∀ (ht:bh) (toks:Nat) (p:br) (c:Nat),
  d8 w (Cv l) ⟨ht,gens,drawn,toks,os⟩ p c (vals2 m toks) ⟨ht,gens,drawn,toks+2*m.length,os⟩ (if m.isEmpty then p else q) (c+3*m.length):=by
 induction h with
 |nil=>intro ht toks p c;exact .pure
 |@cons f l k x m d i e=>
  intro ht toks p c;have g:=e ht (toks+2) q (c+3);rw[ite_self]at g;unfold Cv;simp only[zu,Ba,cK,acB,jc,if_false];rw[show toks+2*(m.length+1)=toks+2+2*m.length by lia,show c+3*(m.length+1)=c+3+3*m.length by exact RN];exact Go.bind (d.key ..) (Go.bind (Go.holding (d.val ..)) (Go.bind (Go.holding g) .pure))
theorem go_short{d:aJ}(hd:11<=d):∀ (m:List (Nat×Str)) (f:Nat) (e:List cW) (n:Nat) (ht:bh) (toks:Nat) (p:br) (c:Nat),
  ht.get? d=some (dO e n)->e.length+m.length<=1000->Apart e m->d8 w (forIn (vals2 m f) kH λ(o:aI×aI) _=>do
    uc d o.1 o.2
    pure (kI kH)) ⟨ht,gens,drawn,toks,os⟩ p c kH ⟨ht.update d (λ_=>dO (e++fN m f) (n+m.length)),gens,drawn,toks+m.length,os⟩ p (c+10*m.length):=by
 intro m;induction m with
 |nil=>
  intro f e n ht toks p c i j h;simp only[zu,Ba,Cr,BR,zr,gW,iJ,ua,Cs,zV i];exact .pure
 |cons q m r=>
  obtain⟨k,x⟩:=q;intro f e n ht toks p c i j h;have l:e.length<1000:=by simp only[cK]at j;exact z9 j
  have g:=r (f+2) (e++[gi k x f]) (n+1) (ht.update d (hX e n (gi k x f))) (toks+1) p (c+10) (pa _ i rfl) (by simp only[cU,cK,iJ]at j ⊢;lia) (h.2 f);simp only[zu,Ba,ry];refine Go.bind (Go.bind (Ds i hd l h.1) .pure) ?_;dsimp only;unfold hX at g;rw[Bd]at g;simp only[BR,zr,eO,rz,cK]at g ⊢;rw[show n+(m.length+1)=n+1+m.length by lia,show toks+(m.length+1)=toks+1+m.length by lia,show c+10*(m.length+1)=c+10+10*m.length by exact Yy];unfold hX;exact g
theorem X2(ht:bh)(a b:bK):(ht.push a).update ht.objs.size (λ_=>b)=ht.push b:=by
 obtain⟨d,l⟩:=ht;show(⟨(d.push _).modify d.size _,l⟩:bh)=⟨d.push _,l⟩;congr 1;refine ub λi=>?_;rw[nV];by_cases q:d.size=i
 ·subst q;simp
 ·rw[if_neg q,ue,ue,if_neg (Ne.symm q),if_neg (Ne.symm q)]
theorem PK{q:br}{l:List (bA aI×bA aI)}{m:List (Nat×Str)}(h:gD w q l m)(d:m.length<=15)(e:m≠[])(i:11<=ht.objs.size)(f:Apart [] m):
  d8 w (ud l) ⟨ht,gens,drawn,toks,os⟩ p c ht.objs.size ⟨ht.push (dO (fN m toks) m.length),gens,drawn,toks+3*m.length,os⟩ q (c+1+13*m.length):=by
 unfold ud;refine Go.bind (Go.alloc .pure) (Go.bind (a:=()) (s1:=⟨ht.push (dO (fN m toks) m.length),gens,drawn,toks+3*m.length,os⟩) (p1:=q) (x1:=c+1+13*m.length) ?_ .pure);refine .holding ?_;rw[if_pos (by rw[h.length];exact NW d)];have g1:=aal (w:=w) (gens:=gens) (drawn:=drawn) (os:=os) h (ht.push (dO [] 0)) toks p (c+1);rw[if_neg (by cases m with|nil=>exact absurd rfl e|cons=>simp)]at g1;refine Go.bind g1 (.holding ?_);have j:(ht.push (dO [] 0)).get? ht.objs.size=some (dO [] 0):=dx _ rfl;have g:=go_short (w:=w) (gens:=gens) (drawn:=drawn) (os:=os) i m toks [] 0 _ (toks+2*m.length) q (c+1+3*m.length) j (by simp only[iJ];exact Pz d) f;rw[X2,eE,xO,show toks+2*m.length+m.length=toks+3*m.length by exact YQ,show c+1+3*m.length+10*m.length=c+1+13*m.length by exact Vq]at g;exact Go.bind g .pure
noncomputable abbrev so(x:bA aI×bA aI):Option (bA aI)×bA aI:=(some x.1,x.2)
theorem II(f:(Option (bA aI)×bA aI)->(Option aJ×List (bA aI×bA aI))->bA (ForInStep (Option aJ×List (bA aI×bA aI))))(jx:List (bA aI×bA aI)->Option aJ->bA (Option aJ))
  (h1:∀ x d run,run.length+1<17->f (so x) (d,run)=pure (.yield (d,run++[x])))
  (h2:∀ x d run,run.length+1=17->f (so x) (d,run)=(jx (run++[x]) d >>= λm=>pure (.yield (m,[])))) (rest:List (bA aI×bA aI)) (d:Option aJ) :
  ∀ (c run:List (bA aI×bA aI)),c≠[]->run.length+c.length=17->forIn ((c++rest).map so) (d,run) f=(jx (run++c) d >>= λm=>forIn (rest.map so) (m,[]) f):=by
 intro g;induction g with
 |nil=>
  intro _ h _;exact absurd rfl h
 |cons x c i=>
  intro run _ e;rw[rA,cB,ry];simp only[cK]at e;cases c with
  |nil=>
   rw[h2 x d run (by simpa using e),xS];simp only[xT,eE]
  |cons y c=>
   simp only[cK]at e;rw[h1 x d run (VX e),xT];dsimp only;rw[i (run++[x]) (by simp) (by simp only[cU,cK,iJ];exact aaM e),eO,rz]
theorem N9(f:(Option (bA aI)×bA aI)->(Option aJ×List (bA aI×bA aI))->bA (ForInStep (Option aJ×List (bA aI×bA aI))))
  (h1:∀ x d run,run.length+1<17->f (so x) (d,run)=pure (.yield (d,run++[x]))) (d:Option aJ) :
  ∀ (c run:List (bA aI×bA aI)),run.length+c.length<17->forIn (c.map so) (d,run) f=pure (d,run++c):=by
 intro e;induction e with
 |nil=>
  intro run _;simp
 |cons x c g=>
  intro run h;simp only[cK]at h;rw[cB,ry,h1 x d run (O1 h),xT];have:=g (run++[x]) (by simp only[cU,cK,iJ];exact aaq h);simpa using this
theorem gD.split{q:br}:∀ {l:List (bA aI×bA aI)} {e d:List (Nat×Str)},gD w q l (e++d)->∃ l1 l2,l=l1++l2/\gD w q l1 e/\gD w q l2 d:=by
 intro f g;revert f;induction g with
 |nil=>
  intro l d h;exact(cE [] l rfl .nil h)
 |cons x e i=>
  intro _ d h;cases h with
  |cons j k=>
   refine aQ λm=>bG (i k) λl1 l2 n h1 h2=>?_;subst n;exact m (cE (_::l1) l2 rfl (.cons j h1) h2)
noncomputable def gN:Nat->List (Nat×Str)->Bool
 |_,[]=>true
 |lo,(k,_)::l=>jr lo k&&jr k 10000000&&gN (k+1) l
theorem Hu{t:Nat}:gN t []=true:=rfl
theorem F0{p:Nat×Str}{l:List (Nat×Str)}{lo:Nat}:gN lo (p::l)=(jr lo p.1&&jr p.1 10000000&&gN (p.1+1) l):=rfl
def Below(d:List cW)(lo:Nat):Prop:=∀ e∈d,e.hash<(lo:Int)
theorem Iw{k:Nat}(h:k<=10000000):iH (et k)=(k:Int):=by
 have:ru (et k)=(k:Int):=by
  unfold ru;have h1:(et k).natAbs=k:=rfl;rw[h1];have h2:k%(2^61-1:Nat)=k:=Nat.mod_eq_of_lt (Re h);have h3:((k:Int)%((2^61-1:Nat):Int))=(k:Int):=by rw[<- Int.natCast_emod,h2]
  simp only[h3];have h4:¬(et k<0):=by have:(0:Int)<=et k:=nS k;exact(acm this)
  rw[if_neg h4];have h5:((k:Int)==-1)=false:=by
   rw[beq_eq_false_iff_ne];exact F7
  rw[h5];rfl
 unfold iH;rw[this];have h5:((k:Int)==-1)=false:=by
  rw[beq_eq_false_iff_ne];exact F7
 rw[h5];rfl
theorem vA{lo k:Nat}{x:Str}{l:List (Nat×Str)}(h:gN lo ((k,x)::l)=true):lo<=k/\k<=10000000/\gN (k+1) l=true:=by
 simp only[Hu,F0,fg,Cw]at h;exact⟨h.1.1,h.1.2,h.2⟩
theorem Below.cons{d:List cW}{lo k:Nat}{x:Str}(h:Below d lo)(h1:lo<=k)(h2:k<=10000000)(t:Nat):Below (d++[gi k x t]) (k+1):=by
 intro e f;rcases fQ.mp f with q|q
 ·have:=h e q;have h3:(lo:Int)<=(k:Int):=by exact_mod_cast h1
  have h4:((k+1:Nat):Int)=(k:Int)+1:=by norm_cast
  rw[h4];exact SN h1 this
 ·rw[jd]at q;subst q;show iH (et k)<_;rw[Iw h2]
  exact_mod_cast pe k
theorem Below.ne{d:List cW}{lo k:Nat}(h:Below d lo)(h1:lo<=k)(h2:k<=10000000):∀ e∈d,e.hash≠iH (et k):=by
 intro e f q;have:=h e f;rw[q,Iw h2]at this;have h3:(lo:Int)<=(k:Int):=by exact_mod_cast h1
 lia
theorem zk:∀ {m:List (Nat×Str)} {d:List cW} {lo:Nat},gN lo m=true->Below d lo->Apart d m:=by
 intro e;induction e with
 |nil=>
  intro _ _ _ _;exact trivial
 |cons f m g=>
  obtain⟨k,x⟩:=f;intro d lo h i;exact bO (vA h) λh1 h2 h3=>⟨i.ne h1 h2,λt=>g h3 (i.cons h1 h2 t)⟩
theorem abM:∀ {m:List (Nat×Str)} {d:List cW} {lo:Nat} (t:Nat),gN lo m=true->Below d lo->tY d (ew m t):=by
 intro e;induction e with
 |nil=>
  intro _ _ _ _ _;exact trivial
 |cons f m g=>
  obtain⟨k,x⟩:=f;intro d lo t h i;exact bO (vA h) λh1 h2 h3=>⟨(dE _ _ rfl),i.ne h1 h2,g _ h3 (i.cons h1 h2 t)⟩
theorem Xx:∀ {m:List (Nat×Str)} {d:List cW} {lo:Nat} (t:Nat),gN lo m=true->Below d lo->tY d (fN m t):=by
 intro e;induction e with
 |nil=>
  intro _ _ _ _ _;exact trivial
 |cons f m g=>
  obtain⟨k,x⟩:=f;intro d lo t h i;exact bO (vA h) λh1 h2 h3=>⟨(dE _ _ rfl),i.ne h1 h2,g _ h3 (i.cons h1 h2 t)⟩
theorem Gh:∀ {e f:List (Nat×Str)} {lo:Nat},gN lo (e++f)=true->gN lo e=true/\∃ hi,lo<=hi/\gN hi f=true/\∀ (d:List cW) (t:Nat),Below d lo->Below (d++ew e t) hi:=by
 intro g;induction g with
 |nil=>
  intro f lo h;exact⟨rfl,(cI lo (cu _) h (λd t i=>(gW d).symm▸i))⟩
 |cons j e l=>
  obtain⟨k,x⟩:=j;intro f lo h;refine aQ λm=>bO (vA h) λh1 h2 h3=>vG (l h3) λh4 hi h5 h6 n=>m ⟨(by simp only[Hu,F0,fg,Cw];exact⟨⟨h1,h2⟩,h4⟩),(cI hi (Ue h1 h5) h6 (λd t i=>?_))⟩;have:=n (d++[gi k x t]) (t+3) (i.cons h1 h2 t);rw[eO,rz]at this;exact this
theorem qq(m:List (Nat×Str)):∀ t,(ew m t).length=m.length:=by
 induction m with
 |nil=>intro t;rfl
 |cons x m d=>intro t;obtain⟨k,x⟩:=x;simp[Au,zR,d]
theorem FJ(m:List (Nat×Str)):∀ t,(fN m t).length=m.length:=by
 induction m with
 |nil=>intro t;rfl
 |cons x m d=>intro t;obtain⟨k,x⟩:=x;simp[BR,zr,d]
noncomputable def hA(ht:bh)(e:List cW)(d:List bK):bh:=⟨(ht.objs.push (dO e e.length))++d.toArray,ht.life⟩
theorem Gd(ht:bh)(e:List cW)(d:List bK):(hA ht e d).get? ht.objs.size=some (dO e e.length):=by
 unfold hA Heap.get?;rw[xU (by simp),Jo];rfl
theorem xA(ht:bh)(e:List cW)(d:List bK):(hA ht e d).objs.size=ht.objs.size+1+d.length:=by
 unfold hA;simp;exact Gj
theorem xh(ht:bh)(e:List cW)(d:List bK)(o:bK):(hA ht e d).push o=hA ht e (d++[o]):=by
 unfold hA Heap.push;simp
theorem Ii(ht:bh)(g e:List cW)(d:List bK):(hA ht g d).update ht.objs.size (λ_=>dO e e.length)=hA ht e d:=by
 unfold hA;show(⟨_,_⟩:bh)=⟨_,_⟩;congr 1;refine ub λi=>?_;rw[nV];by_cases q:ht.objs.size=i
 ·subst q;rw[if_pos rfl,xU (by simp),xU (by simp),Jo,Jo];rfl
 ·rw[if_neg q];by_cases f:i<ht.objs.size+1
  ·rw[xU (by simpa using f),xU (by simpa using f),ue,ue,if_neg (Ne.symm q),if_neg (Ne.symm q)]
  ·rw[acD (by simp;exact Fo f),acD (by simp;exact Fo f)];simp
noncomputable def jx(run:List (bA aI×bA aI))(e:Option aJ):bA (Option aJ):=do
 if run.isEmpty then return e
 match e with
 |none=>return some (<- ud run)
 |some d=>
  let sub <- holding [.ref d] (ud run)
  (holding [.ref d,.ref sub] (Jm d (.ref sub) false)).onRaise λx=>do let _ <- holding [.ref d,x] (runValue (.builtin "proto.let_go" {}))
  return some d
theorem RA{q:br}{l:List (bA aI×bA aI)}{m:List (Nat×Str)}{d:List cW}{subs:List bK}{lo:Nat}(h:gD w q l m)(f:15<m.length)(n:d.length+m.length<=1000)(i:11<=ht.objs.size)
  (j:d≠[]) (hi:gN lo m=true) (k:Below d lo) :
  d8 w (jx l (some ht.objs.size)) ⟨hA ht d subs,gens,drawn,toks,os⟩ p c (some ht.objs.size) ⟨hA ht (d++ew m toks) (subs++[dO (ew m toks) m.length]),gens,drawn,toks+3*m.length,os⟩ q (c+7+19*m.length):=by
 unfold jx;rw[if_neg (by cases h with|nil=>simp at f|cons=>simp)];dsimp only;have g:=EC (w:=w) (ht:=hA ht d subs) (gens:=gens) (drawn:=drawn) (os:=os) (toks:=toks) (p:=p) (c:=c) h f (acE n) (by rw[xA];exact IH i) (zk hi (λe o=>by cases o));rw[xh]at g;refine Go.bind (Go.holding g) (Go.bind (a:=()) (x1:=c+7+19*m.length) (Go.onRaise (Go.holding ?_)) .pure);have hs:(hA ht d subs).objs.size=ht.objs.size+1+subs.length:=xA ..;have e:hA ht (d++ew m toks) (subs++[dO (ew m toks) m.length])=(hA ht d (subs++[dO (ew m toks) m.length])).update ht.objs.size (λ_=>dO (d++ew m toks) (d.length+(ew m toks).length)):=by
  rw[<- cU,Ii]
 rw[e];refine(DE (c:=c+2+13*m.length) i ?_ ?_ (Gd ..) (n':=m.length) ?_ j (by rw[qq];exact n) (abM _ hi k)).mono (by rw[qq];exact WJ)
 ·rw[hs];exact nW (ck (by decide) (bf i (Ea)))
 ·rw[hs];show(ht.objs.size:Nat)≠ht.objs.size+1+subs.length;exact GI
 ·rw[<- xh];exact dx _ rfl
theorem K3{q:br}{l:List (bA aI×bA aI)}{m:List (Nat×Str)}{d:List cW}{subs:List bK}{lo:Nat}(h:gD w q l m)(f:m.length<=15)(n:m≠[])(o:d.length+m.length<=1000)(i:11<=ht.objs.size)
  (j:d≠[]) (hi:gN lo m=true) (k:Below d lo) :
  d8 w (jx l (some ht.objs.size)) ⟨hA ht d subs,gens,drawn,toks,os⟩ p c (some ht.objs.size) ⟨hA ht (d++fN m toks) (subs++[dO (fN m toks) m.length]),gens,drawn,toks+3*m.length,os⟩ q (c+6+19*m.length):=by
 unfold jx;rw[if_neg (by cases h with|nil=>exact absurd rfl n|cons=>simp)];dsimp only;have g:=PK (w:=w) (ht:=hA ht d subs) (gens:=gens) (drawn:=drawn) (os:=os) (toks:=toks) (p:=p) (c:=c) h f n (by rw[xA];exact IH i) (zk hi (λe r=>by cases r));rw[xh]at g;refine Go.bind (Go.holding g) (Go.bind (a:=()) (x1:=c+6+19*m.length) (Go.onRaise (Go.holding ?_)) .pure);have hs:(hA ht d subs).objs.size=ht.objs.size+1+subs.length:=xA ..;have e:hA ht (d++fN m toks) (subs++[dO (fN m toks) m.length])=(hA ht d (subs++[dO (fN m toks) m.length])).update ht.objs.size (λ_=>dO (d++fN m toks) (d.length+(fN m toks).length)):=by
  rw[<- cU,Ii]
 rw[e];refine(DE (c:=c+1+13*m.length) i ?_ ?_ (Gd ..) (n':=m.length) ?_ j (by rw[FJ];exact o) (Xx _ hi k)).mono (by rw[FJ];exact OP)
 ·rw[hs];exact nW (ck (by decide) (bf i (Ea)))
 ·rw[hs];show(ht.objs.size:Nat)≠ht.objs.size+1+subs.length;exact GI
 ·rw[<- xh];exact dx _ rfl
theorem XO{q:br}{l:List (bA aI×bA aI)}{m:List (Nat×Str)}(h:gD w q l m)(d:15<m.length)(f:m.length<=1000)(i:11<=ht.objs.size)(hi:gN 0 m=true):
  d8 w (jx l none) ⟨ht,gens,drawn,toks,os⟩ p c (some ht.objs.size) ⟨hA ht (ew m toks) [],gens,drawn,toks+3*m.length,os⟩ q (c+2+13*m.length):=by
 unfold jx;rw[if_neg (by cases h with|nil=>simp at d|cons=>simp)];dsimp only;have g:=EC (w:=w) (ht:=ht) (gens:=gens) (drawn:=drawn) (os:=os) (toks:=toks) (p:=p) (c:=c) h d f i (zk hi (λe j=>by cases j));have e:ht.push (dO (ew m toks) m.length)=hA ht (ew m toks) []:=by unfold hA Heap.push;rw[qq];simp
 rw[e]at g;exact Go.bind g .pure
noncomputable def o0:List (List (Nat×Str))->Nat->List cW
 |[],_=>[]
 |m::d,t=>ew m t++o0 d (t+51)
theorem GY{t:Nat}:o0 [] t=[]:=rfl
theorem Hp{m:List (Nat×Str)}{d:List (List (Nat×Str))}{t:Nat}:o0 (m::d) t=ew m t++o0 d (t+51):=rfl
noncomputable def oY:List (List (Nat×Str))->Nat->List bK
 |[],_=>[]
 |m::d,t=>dO (ew m t) 17::oY d (t+51)
theorem FU{t:Nat}:oY [] t=[]:=rfl
theorem DI{m:List (Nat×Str)}{d:List (List (Nat×Str))}{t:Nat}:oY (m::d) t=dO (ew m t) 17::oY d (t+51):=rfl
theorem NC(f:(Option (bA aI)×bA aI)->(Option aJ×List (bA aI×bA aI))->bA (ForInStep (Option aJ×List (bA aI×bA aI))))
  (h1:∀ x h run,run.length+1<17->f (so x) (h,run)=pure (.yield (h,run++[x])))
  (h2:∀ x h run,run.length+1=17->f (so x) (h,run)=(jx (run++[x]) h >>= λm=>pure (.yield (m,[])))) {q:br} (I:11<=ht.objs.size) {tail:List (Nat×Str)} (A:tail.length<=15) (B:tail≠[])
  (k:Option aJ×List (bA aI×bA aI)->bA aI) (hk:∀ h run,k (h,run)=(jx run h >>= λm=>match m with|some d=>pure (.ref d)|none=>newDict)) :
  ∀ (j:List (List (Nat×Str))) (l:List (bA aI×bA aI)) (n:List cW) (i:List bK) (lo toks:Nat) (p:br) (c:Nat),(∀ m∈j,m.length=17)->gD w q l (j.flatten++tail)->
   n.length+(j.flatten++tail).length<=1000->n≠[]->gN lo (j.flatten++tail)=true->Below n lo->
   d8 w (forIn (l.map so) ((some ht.objs.size:Option aJ),([]:List (bA aI×bA aI))) f >>= k) ⟨hA ht n i,gens,drawn,toks,os⟩ p c (.ref ht.objs.size)
    ⟨hA ht (n++o0 j toks++fN tail (toks+51*j.length)) (i++oY j toks++[dO (fN tail (toks+51*j.length)) tail.length]),gens,drawn,toks+51*j.length+3*tail.length,os⟩ q (c+330*j.length+6+19*tail.length):=by
 intro C;induction C with
 |nil=>
  intro l n i lo toks p c D v y o hi r;rw[N9 f h1 _ l [] (by rw[v.length];simp;lia),xT,hk,eE];simp only[List.flatten_nil,eE]at v y hi;have g:=K3 (w:=w) (ht:=ht) (gens:=gens) (drawn:=drawn) (os:=os) (toks:=toks) (p:=p) (c:=c) (subs:=i) v A B y I o hi r;simp only[GY,Hp,FU,DI,gW,iJ,Cs,ua];exact(Go.bind g .pure)
 |cons m j E=>
  intro l n i lo toks p c D v y o hi r;rw[List.flatten_cons,eO]at v y hi;refine aQ λF=>bG v.split λl1 l2 K z G=>?_;subst K;refine F ?_;have t:m.length=17:=D m (Cx ..);have u:l1.length=17:=z.length.trans t;rw[cU]at y;refine aQ λF=>vG (Gh hi) λL H P M N=>F ?_;rw[II f jx h1 h2 l2 _ l1 [] (by intro e;rw[e]at u;cases u) (by simpa using u),eE,xS];have g:=RA (w:=w) (ht:=ht) (gens:=gens) (drawn:=drawn) (os:=os) (toks:=toks) (p:=p) (c:=c) (subs:=i) z (by exact FY t) (Zo y) I o L r;refine Go.bind g ?_;have g2:=E l2 (n++ew m toks) (i++[dO (ew m toks) m.length]) H (toks+3*m.length) q (c+7+19*m.length) (λx O=>D x (acF _ O)) G
   (by rw[cU,qq];lia) (by simp[o]) M (N n toks r)
  rw[t]at g2 ⊢;simp only[GY,Hp,FU,DI,cK,eO,rz,rA]at g2 ⊢;rw[show toks+51*(j.length+1)=toks+3*17+51*j.length by lia,show c+330*(j.length+1)=c+7+19*17+330*j.length by exact RJ];exact g2
theorem aaL{q:br}(z:11<=ht.objs.size){n:List (Nat×Str)}{j:List (List (Nat×Str))}{tail:List (Nat×Str)}{l:List (bA aI×bA aI)}(h0:n.length=17)(t:tail.length<=15)(u:tail≠[])(B:∀ m∈j,m.length=17)
  (C:gD w q l (n++(j.flatten++tail))) (A:(n++(j.flatten++tail)).length<=1000) (hi:gN 0 (n++(j.flatten++tail))=true) :
  d8 w (dictDisplay (l.map so)) ⟨ht,gens,drawn,toks,os⟩ p c (.ref ht.objs.size)
   ⟨hA ht (ew n toks++o0 j (toks+51)++fN tail (toks+51+51*j.length)) (oY j (toks+51)++[dO (fN tail (toks+51+51*j.length)) tail.length]),gens,drawn,toks+51+51*j.length+3*tail.length,os⟩ q (c+2+13*17+330*j.length+6+19*tail.length):=by
 refine aQ λD=>bG C.split λl1 l2 E r v=>?_;subst E;have o:l1.length=17:=r.length.trans h0;refine vG (Gh hi) λF y K G H=>D ?_;rw[cU]at A;unfold dictDisplay;dsimp only;rw[II _ jx (λx i run h=>by
   have d:((run++[(x.1,x.2)]).length==17)=false:=by simp;exact DJ h
   simp only[d,jc,if_false]) (λx i run h=>by
   have d:((run++[(x.1,x.2)]).length==17)=true:=by simp;exact IS h
   simp only[d,if_true];rfl) l2 none l1 [] (by intro e;rw[e]at o;cases o) (by simpa using o),eE,xS]
 have g:=XO (w:=w) (ht:=ht) (gens:=gens) (drawn:=drawn) (os:=os) (toks:=toks) (p:=p) (c:=c) r (FY h0) (KZ h0) z F;refine Go.bind g ?_;have g2:=λf h1 h2 k hk=>NC (w:=w) (ht:=ht) (gens:=gens) (drawn:=drawn) (os:=os) f h1 h2 z t u k hk j l2 (ew n toks) [] y (toks+3*n.length) q (c+2+13*n.length) B v
   (by rw[qq];exact LD A) (by intro e;have:=congrArg j9 e;rw[qq,h0]at this;cases this) G (H [] toks (λe I=>by cases I))
 rw[h0]at g2 ⊢;simp only[eE]at g2;refine g2 _ (λx i run h=>by
   have d:((run++[(x.1,x.2)]).length==17)=false:=by simp;exact DJ h
   simp only[d,jc,if_false]) (λx i run h=>by
   have d:((run++[(x.1,x.2)]).length==17)=true:=by simp;exact IS h
   simp only[d,if_true];rfl) _ (λi run=>rfl)
theorem SQ{e:Option iG}{k:Nat}(h:Fq e=some k):∃ n q,e=some (.Constant (.int (.ofNat k)) n q):=by
 cases e with
 |none=>exact bD h
 |some e=>cases e with
  |Constant c n q=>cases c with
   |int i=>cases i with
    |ofNat j=>exact(dE n q (bw h▸rfl))
    |negSucc=>exact bD h
   |_=>exact bD h
  |_=>exact bD h
theorem abc{e:iG}{x:Str}(h:GV e=some x):∃ n q,e=.Constant (.str x) n q:=by
 cases e with
 |Constant c n q=>cases c with
  |str y=>exact(dE n q (bw h▸rfl))
  |_=>exact bD h
 |_=>exact bD h
theorem WI(d:cz)(k:Nat)(n:Nat)(q:br):d8 w (eval (.Constant (.int (.ofNat k)) n q) d) ⟨ht,gens,drawn,toks,os⟩ p c (.int (et k) toks) ⟨ht,gens,drawn,toks+1,os⟩ p (c+1):=Go.fresh .pure
theorem RR(d:cz)(x:Str)(n:Nat)(q:br):d8 w (eval (.Constant (.str x) n q) d) ⟨ht,gens,drawn,toks,os⟩ p c (.str x toks) ⟨ht,gens,drawn,toks+1,os⟩ p (c+1):=Go.fresh .pure
theorem QP(d:cz)(q:br):∀ (g:List (Option iG)) (f:List iG) (m:List (Nat×Str)),vm g f=some m->
  ∃ l,(evalEachOpt g d).zip ((evalEach f d).map λv=>do let x <- v;gJ q;pure x)=l.map so/\gD w q l m:=by
 intro i;induction i with
 |nil=>
  intro j;cases j with
  |nil=>
   intro m h;exact bw h▸(aS [] rfl .nil)
  |cons v f=>
   intro m h;exact bD (J:=List (Nat×Str)) h
 |cons E g o=>
  intro r;cases r with
  |nil=>
   intro m h;revert h;exact aX λ_ _=>bD
  |cons v f=>
   intro m h;revert h;refine aX λk h1=>aX λF z=>aX λx h2=>cb λA B e=>?_;obtain rfl:=bw z;refine gU (SQ h1) λn t C=>gU (abc h2) λu y D=>aV (o f A B) λl g1 g2=>?_;subst e C D;refine(aS ((eval (.Constant (.int (.ofNat k)) n t) d,(do let x <- eval (.Constant (.str x) u y) d;gJ q;pure x))::l) ?_ (.cons (k:=k) (x:=x) ⟨λht gens drawn toks os p c=>WI d k n t,λht gens drawn toks os p c=>Go.bind (RR d x u y) (Go.bind (Go.at .pure) .pure)⟩ g2));rw[cB,<- g1];rfl
noncomputable def qk(s:dw):List iG:=(sP s).2.2.2.2.1
noncomputable def qJ(s:dw):br:=(sP s).2.2.2.2.2
theorem Pr:vm (wW (bB 11)) (vg (bB 11))=some nI:=by kernel_rfl
theorem NB:bB 11=.Assign (qk (bB 11)) (.Dict (wW (bB 11)) (vg (bB 11)) (mc (bB 11))) (qJ (bB 11)):=by kernel_rfl
theorem WD:gN 0 nI=true:=by kernel_rfl
theorem Pm:nI.length=650:=by kernel_rfl
noncomputable def F1:Nat->List (Nat×Str)->List (List (Nat×Str))
 |0,_=>[]
 |n+1,l=>l.take 17::F1 n (l.drop 17)
noncomputable def Dw:List (Nat×Str):=nI.take 17
noncomputable def tH:List (List (Nat×Str)):=F1 37 (nI.drop 17)
noncomputable def oL:List (Nat×Str):=nI.drop 646
theorem zm:nI=Dw++(tH.flatten++oL):=by kernel_rfl
theorem PL:tH.all (λm=>mG m.length 17)=true:=by kernel_rfl
theorem LL:tH.length=37:=by kernel_rfl
end
section
variable{w:aY}{os:lH}{c:Nat}
noncomputable def qL(P:bX):BT:=(T3 P).set 3 (λ_=>((T2 P).get 3).getD default)
noncomputable def uM:List cW:=ew Dw 364++o0 tH 415++fN oL 2302
noncomputable def BA:List bK:=oY tH 415++[dO (fN oL 2302) 4]
theorem Tc:uM.length=650:=by kernel_rfl
theorem ab3(P:bX):(qL P).list 135=(T2 P).list 96++(dO uM 650::BA):=by kernel_rfl
theorem Ly(P:bX):hA (xV (T2 P) 96 {}) uM BA=xV (qL P) 135 {}:=by
 unfold hA xV;rw[ab3,Tc];simp
noncomputable def ms:iG:=.Dict (wW (bB 11)) (vg (bB 11)) (mc (bB 11))
noncomputable def rZ(v:aI):bA Flow:=do
 let x <- nX (qk (bB 11)) ms ey
 assignStores ey v x ((jt (qk (bB 11)) ey).map (·.2))
theorem Lk:rB (qk (bB 11)) ms (qJ (bB 11)).line ey=.pure false:=by kernel_rfl
theorem YW:exec (bB 11) ey=(do
  gJ (qJ (bB 11))
  let b <- rB (qk (bB 11)) ms (qJ (bB 11)).line ey
  if b=true then do
   evalThenUse ms ey λv=>assignAll v ((jt (qk (bB 11)) ey).map (·.2))
   pure .next
  else do
   let v <- eval ms ey
   rZ v):=by
 rw[NB];rfl
theorem UQ:d8 w (eval ms ey) (fj T2 96 364 w os).abs p c (.ref 96) (fj qL 135 2314 w os).abs (mc (bB 11)) (c+12520):=by
 refine aQ λd=>aV (QP (w:=w) ey (mc (bB 11)) _ _ _ Pr) λl h1 h2=>d ?_;unfold ms;rw[arm_eval_Dict,h1];rw[zm]at h2;have a:(xV (T2 w.params) 96 {}).objs.size=96:=absHeap_size ..;have hi:=WD;rw[zm]at hi;have b:=Pm;rw[zm]at b;have g:=aaL (w:=w) (ht:=xV (T2 w.params) 96 {}) (gens:=#[]) (drawn:={}) (os:=os) (toks:=364) (p:=mc (bB 11)) (c:=c+1) (by rw[a];decide) (by kernel_rfl) (by show oL.length<=15;rw[show oL.length=4 by kernel_rfl];decide)
  (by intro e;have:oL.length=4:=(by kernel_rfl);rw[e]at this;cases this) (λm f=>Nat.eq_of_beq_eq_true (c8.mp PL m f)) h2 (Ml b) hi
 rw[LL,a,show oL.length=4 by kernel_rfl]at g;have e:=Ly w.params;unfold uM BA at e;rw[e]at g;exact(Go.bind (Go.at .pure) g).mono (NK)
theorem Xc(w:aY):(λos=>xP fF pw w 11 fK 1 12 (fj qL 135 2314 w os) ⟨(rZ (.ref 96)).wrap doneF deadEnd id id,fm,mc (bB 11),i4⟩)=λos=>some (.next,fj T3 135 2315 w os,fm,p3):=by
 kernel_rfl
theorem L7(K:Flow->bA Fin)(H:aI->bA Fin){N:Nat}{r:aL}(h:jb fF pw w 11 fK N (fj T3 135 2315 w os).abs ⟨K .next,fm,p3,i4⟩=some r):
  jb fF pw w 11 fK (12600+N) (fj T2 96 364 w os).abs ⟨(execs g3 ey).wrap K H id id,fm,p2,i4⟩=some r:=by
 have e:(execs g3 ey).wrap K H id id=(exec (bB 11) ey).wrap (λf=>match f with|.next=>K .next|f=>K f) H id id:=by
  unfold g3;rw[execs_cons_wrap];refine Sem.wrap_congr _ _ _ (λf=>?_) λ_=>rfl;cases f<;>rfl
 obtain⟨a,d,hN⟩:=seg_top (res:=id) (K':=λf=>match f with|.next=>K .next|f=>K f) (H':=H) (gd:=id) (lv:=id) (B:=i4) rfl 12 (fj qL 135 2314 w os).abs ⟨(rZ (.ref 96)).wrap doneF deadEnd id id,fm,mc (bB 11),i4⟩
  ⟨(rZ (.ref 96)).wrap (λf=>match f with|.next=>K .next|f=>K f) H id id,fm,mc (bB 11),i4⟩ _ _ _ _ ⟨rfl,rfl,.inl ⟨rfl,rfl,(aS _ rfl rfl)⟩⟩ (xW (congrFun (Xc w) os))
 obtain rfl:a=.next:=d;have b:=hN N r h;have i:exec (bB 11) ey=((do gJ (qJ (bB 11));eval ms ey) >>= rZ):=by
  rw[YW,Lk];rw[xS];rfl
 refine aQ λj=>?_;obtain⟨n,k,g⟩:d8 w (do gJ (qJ (bB 11));eval ms ey) (fj T2 96 364 w os).abs p2 0 (.ref 96) (fj qL 135 2314 w os).abs (mc (bB 11)) 12521:=Go.bind (a:=()) (Go.at .pure) UQ;refine j ?_;have l:jb fF pw w 11 fK (n+(12+N)) (fj T2 96 364 w os).abs ⟨(execs g3 ey).wrap K H id id,fm,p2,i4⟩=some r:=by
  rw[e,i,acy,Sem.wrap_wrap];exact g _ _ _ _ _ _ _ _ b
 have:=topRun_mono (12600-12-n) _ _ _ _ l;rw[show n+(12+N)+(12600-12-n)=12600+N by exact Zz k]at this;exact this
end
theorem YN:Jk pw=g0++(g1++(g2++(g3++(g4++[])))):=by kernel_rfl
theorem S5{w:aY}{os:lH}{rest:List dw}{N:Nat}{r:aL}(k:jb fF pw w 11 fK N (fj T3 135 2315 w os).abs (restOf rest ey fm p3 [topFrame ⟨0,0,0,0⟩])=some r):
  jb fF pw w 11 fK (12600+N) (fj T2 96 364 w os).abs (restOf (g3++rest) ey fm p2 [topFrame ⟨0,0,0,0⟩])=some r:=by
 unfold restOf;rw[execs_app_wrap];exact L7 (K:=λf=>match f with|.next=>(execs rest ey).wrap doneF (leaveH ey) id id|f=>doneF f) (leaveH ey) k
theorem TY(w:aY)(os:lH):jb fF pw w 11 fK (12+(1+(459+(999+(30+(12600+(187+2))))))) (SZ w os) (topStub pw)=some (SF w os):=by
 refine go_top (congrFun (W3 w) os) (piece_block (congrFun (Z6 w) os) ?_);rw[YN];exact Cy (xW (congrFun (Si w) os)) (Cy (xW (congrFun (M5 w) os)) (Cy (xW (congrFun (YU w) os)) (S5 (Cy (xW (congrFun (abF w) os)) (piece_nil (congrFun (Nn w) os))))))
theorem SK(w:aY):(fencedOpening fF pw w 20000).map (λs=>(s.heap,s.gens,s.drawn,s.toks))=some (o7 w.params,#[],boot_drawn,boot_toks):=
 boot_open (p:=pw) (N:=20000) (by kernel_rfl) rfl (λs=>by kernel_rfl) w
theorem Wg(w:aY):((o7 w.params).isNs nY&&(#[]:Array Cp).size==0,(o7 w.params).objs.size,(o7 w.params).nsMap nY "__annotations__")=(true,11,fK):=by kernel_rfl
noncomputable abbrev vq:rq:=view pw [1,2,3,4,6,7,9,10,11,12,14,15,16,17,18]
noncomputable abbrev qv:List Str:=[aK "b1_set",aK "b3_exceptions"]
noncomputable def wB:List aJ:=aO 171
noncomputable def qK(P:bX):Frag:=wB.map λa=>(a,((HF P).get? a).getD default)
theorem abZ(P:bX):wB=(qK P).map (·.1):=by
 unfold qK;rw[il];exact(Jp _).symm
noncomputable abbrev hk:Hook:=kHook qK wB abZ
noncomputable abbrev dr:=uf.row
theorem kU{J e:Type _}{a c:J}{b d:e}(h:a=c)(k:b=d):(a,b)=(c,d):=h▸k▸rfl
theorem ls{a b:Bool}(h:a=true)(k:b=true):(a&&b)=true:=mH.mpr ⟨h,k⟩
noncomputable def AM:Int->List (pf×pf)->Bool
 |_,[]=>true
 |lo,(.int k,_)::D=>decide (lo<k)&&AM k D
 |_,_=>false
theorem PQ(k:Int):∀ (D:List (pf×pf)) (lo:Int),k<=lo->AM lo D=true->hasIntKey k D=false:=by
 intro D;induction D with
 |nil=>exact λ_ _ _=>rfl
 |cons x D b=>
  intro lo h e;obtain⟨a,v⟩:=x;cases a with
  |int j=>
   have q:=mH.mp e;have l:=t9 h (of_decide_eq_true q.1);show(j==k||hasIntKey k D)=false;rw[b j (xH l) q.2,beq_false_of_ne (Int.ne_of_gt l)];rfl
  |_=>exact nomatch e
theorem M6:∀ (D:List (pf×pf)) (lo:Int),AM lo D=true->Jq D=true:=by
 intro D;induction D with
 |nil=>exact λ_ _=>rfl
 |cons x D b=>
  intro lo e;obtain⟨a,v⟩:=x;cases a with
  |int j=>
   have q:=(mH.mp e).2;show(!hasIntKey j D&&Jq D)=true;rw[PQ j D j (lF j) q,b j q];rfl
  |_=>exact nomatch e
theorem aag (w:aY) {D:List (pf×pf)} (h:(tabIntOf vq (aK "b3_exceptions")).getD []=D):(HF w.params).tabIntOk (aK "b3_exceptions") D=true:=by
 have h1:(HF w.params).nsMap nY (aK "b3_exceptions")=some (.ref 96):=by kernel_rfl
 have h2:(HF w.params).get? 96=some (BS 650):=by kernel_rfl
 subst h;unfold Heap.tabIntOk;rw[h1];dsimp only;rw[h2];show("dict"=="dict"&&(#[]:Array aI).size==0&&entriesAreInt (kA.take 650).toArray.toList _&&Jq _&&(96 != pb))=true;rw[M6 _ (-1) (by kernel_rfl)];kernel_rfl
theorem VT(w:aY):(λ(os:lH)=>((staticsOk (importedModules pw.main.body) (o7 w.params) (HF w.params)&&namesBound pw (HF w.params)&&gensDone ⟨HF w.params,#[],{},2368,os⟩&&laidKept (o7 w.params) (HF w.params)),
    openSeen vq qv (importedModules pw.main.body) (λs=>xlAt vq [] s&&recOk dr.toRowW.records s) true ⟨HF w.params,#[],{},2368,os⟩,hk.obs ⟨HF w.params,#[],{},2368,os⟩))=λ_=>(true,openGood vq qv,hk.val w):=by
 have a:tablesOk vq (HF w.params)=true:=by
  have b:valNames vq=qv:=by kernel_rfl
  unfold tablesOk;rw[b];refine ls (by kernel_rfl) (ls (ls (by kernel_rfl) ?_) rfl);cases h:tabIntOf vq (aK "b3_exceptions")with
  |none=>rfl
  |some D=>exact aag w (h▸rfl)
 exact funext λos=>kU (by kernel_rfl) (kU (kU (by kernel_rfl) (kU (by kernel_rfl) (kU (ls (ls (ls (ls (ls (ls (by kernel_rfl) (by kernel_rfl)) (by kernel_rfl)) (by kernel_rfl)) a) (by kernel_rfl)) (by kernel_rfl)) (kU (by kernel_rfl) (kU (by kernel_rfl) (kU (by kernel_rfl) (kU (by kernel_rfl) (kU (by kernel_rfl) (by kernel_rfl))))))))) (by kernel_rfl))
theorem VY:LeftO pw vq qv (λs=>xlAt vq [] s&&recOk dr.toRowW.records s) hk.obs hk.val 20000:=
 LeftO.of_pieces (H₀:=o7) (H₁:=HF) (gs₀:=#[]) (gs₁:=#[]) (d₀:=boot_drawn) (d₁:={}) (k₀:=boot_toks) (k₁:=2368) (m₀:=11) (ann:=fK) (M:=12+(1+(459+(999+(30+(12600+(187+2)))))))
  SK Wg TY (by decide) VT
theorem row_said:uf.row.wellSaid=true:=by kernel_rfl
theorem ZZ:uf.wellSaid=true:=by
 iterate 18 refine ls ?_ (by kernel_rfl)
 exact row_said
theorem head (call:∀ d a,defOf vq (aK "law")=some (d,a)->WalkO vq qv (XL vq []) (hk.says) dr.toRowW d a λf c=>Jr f c):uf.Holds:=by
 refine holds_law ZZ λb=>holds_open (q:=vq) (loose:=qv) (Xt:=λs=>xlAt vq [] s&&recOk dr.toRowW.records s) (XP:=XL vq []) (Yf:=hk.obs) (Ya:=hk.val) (YP:=hk.says) (N:=20000) VY hk.of hk.keeps
  (λs e=>xl_of s (mH.mp e).1) XL.keeps (by rfl) (by rfl) (by rfl) (λs e=>recFacts_of (mH.mp e).2) (by rfl) b (by decide+kernel) ⟨rfl,rfl,rfl,rfl,rfl,by decide+kernel⟩ ?hw ?hc
 case hw=>w_witness2
 case hc=>exact call _ _ (by rfl)
theorem IZ{J:Type}{M:kJ}{A:bx}{t:bA J}{Q:J->aL->Prop}{E:aI->aL->Prop}{s:aL}(h:∀ b:J->aL->Prop,(∀ a s,Q a s->b a s)->bc M A t b E s):bc M A t Q E s:=h Q λ_ _ x=>x
inductive T where
 |none|bool (b:Bool)|int (i:Int)|flt (b:UInt64)|str (s:Str)
 |tup (l:List T)|lst (l:List T)|dct (l:List (Int×T))|inst (t:T)
 deriving Inhabited
noncomputable def T.int?:T->Option Int
 |.int i=>some i
 |.none|.bool _|.flt _|.str _|.tup _|.lst _|.dct _|.inst _=>nZ
noncomputable def T.adU:T->Option UInt64
 |.flt i=>some i
 |.none|.bool _|.int _|.str _|.tup _|.lst _|.dct _|.inst _=>nZ
noncomputable def T.adK:T->Option Str
 |.str i=>some i
 |.none|.bool _|.int _|.flt _|.tup _|.lst _|.dct _|.inst _=>nZ
theorem T.adV{t:T}{i:Int}(h:t.int?=some i):t=.int i:=by
 cases t with
 |int j=>exact congrArg T.int (bw h)
 |_=>exact bD h
theorem T.ael{t:T}{i:UInt64}(h:t.adU=some i):t=.flt i:=by
 cases t with
 |flt j=>exact congrArg T.flt (bw h)
 |_=>exact bD h
theorem T.str_eq{t:T}{i:Str}(h:t.adK=some i):t=.str i:=by
 cases t with
 |str j=>exact congrArg T.str (bw h)
 |_=>exact bD h
abbrev Fz:=aJ->Option bK
def Le(Z a:Fz):Prop:=∀ b o,Z b=some o->a b=some o
def On(Z:Fz)(h:bh):Prop:=∀ b o,Z b=some o->h.get? b=some o
theorem Le.refl(Z:Fz):Le Z Z:=λ_ _ e=>e
theorem Le.trans{Z d c:Fz}(a:Le Z d)(b:Le d c):Le Z c:=λx o e=>b x o (a x o e)
def M2(o:bK)(a:List aI):Prop:=o.cls=.type "tuple"/\∃ n,o.data=.seq a.toArray n
def RZ(o:bK)(a:List aI):Prop:=o.cls=.type "list"/\∃ n,o.data=.seq a.toArray n
noncomputable abbrev ik(w:aY):KeyKind pw w Int:=xX pw w
noncomputable abbrev eV:aJ:=38
noncomputable abbrev lg:aJ:=55
noncomputable abbrev eB:aJ:=51
def Ow(o:bK)(d:aJ):Prop:=o=lI eV d
def Ze(o:bK)(v:aI):Prop:=∃ h k n,o=dictOf [⟨h,.str (aK "comp_select_list") k,v⟩] n
section
variable(w:aY)(Z:Fz)
mutual
noncomputable def Rd:T->aI->Prop
 |.none,v=>v=.none
 |.bool b,v=>v=.bool b
 |.int i,v=>∃ t,v=.int i t
 |.flt b,v=>∃ t,v=.float b t
 |.str x,v=>∃ t,v=.str x t
 |.tup l,v=>∃ a o c,v=.ref a/\Z a=some o/\M2 o c/\bm l c
 |.lst l,v=>∃ a o c,v=.ref a/\Z a=some o/\RZ o c/\bm l c
 |.dct l,v=>∃ a o e,v=.ref a/\Z a=some o/\o.IsDictOf (ik w) e/\bY l e
 |.inst t,v=>∃ a o d f x,v=.ref a/\Z a=some o/\Ow o d/\Z d=some f/\Ze f x/\Rd t x
noncomputable def bm:List T->List aI->Prop
 |[],a=>a=[]
 |t::r,a=>∃ v b,a=v::b/\Rd t v/\bm r b
noncomputable def bY:List (Int×T)->List (Int×aI)->Prop
 |[],a=>a=[]
 |(k,t)::r,a=>∃ v b,a=(k,v)::b/\Rd t v/\bY r b
end
end
mutual
theorem Rd.mono{w:aY}{Z k:Fz}(c:Le Z k):∀ (t:T) {v:aI},Rd w Z t v->Rd w k t v
 |.none,_,h=>h
 |.bool _,_,h=>h
 |.int _,_,h=>h
 |.flt _,_,h=>h
 |.str _,_,h=>h
 |.tup l,_,h=>gH h λa o i e b f g=>(fw a o i e (c _ _ b) f (bm.mono c l g))
 |.lst l,_,h=>gH h λa o i e b f g=>(fw a o i e (c _ _ b) f (bm.mono c l g))
 |.dct l,_,h=>gH h λa o i e b f g=>(fw a o i e (c _ _ b) f (bY.mono c l g))
 |.inst t,_,h=>Ee h λa o d m x e b f hd j g=>(qc a o d m x ⟨e,c _ _ b,f,c _ _ hd,j,Rd.mono c t g⟩)
theorem bm.mono{w:aY}{Z a:Fz}(b:Le Z a):∀ (l:List T) {c:List aI},bm w Z l c->bm w a l c
 |[],_,h=>h
 |t::r,_,h=>bG h λv d e h1 h2=>(cE v d e (Rd.mono b t h1) (bm.mono b r h2))
theorem bY.mono{w:aY}{Z a:Fz}(b:Le Z a):∀ (l:List (Int×T)) {c:List (Int×aI)},bY w Z l c->bY w a l c
 |[],_,h=>h
 |(k,t)::r,_,h=>bG h λv d e h1 h2=>(cE v d e (Rd.mono b t h1) (bY.mono b r h2))
end
inductive X where
 |v (t:T)|fr (l:List T)|frd (l:List (Int×T))|bo (i:Nat) (l:List T)|bod (i:Nat) (l:List (Int×T))|nts
inductive S where
 |no|v (t:T)|own (l:List T)|ownd (l:List (Int×T))|nts
 deriving Inhabited
def S.adD:S->Prop
 |.own _|.ownd _=>True
 |_=>False
def Mu(a:Option aJ)(b:aJ):Prop:=a=some b\/b=eB
def fq(w:aY)(Z:Fz)(c:Option aJ)(Y:List T)(h:bh):Prop:=match c with
 |none=>Y=[]
 |some a=>Z a=none/\∃ b,h.PlainList a b.toArray/\bm w Z Y b
def Md(w:aY)(Z:Fz):Prop:=(∀ a o,(HF w.params).get? a=some o->a≠eB->Z a=some o)/\Z eB=none
def jy(h:bh)(a:Array aI):Prop:=h.TableAt lg eB a/\TriplesOk a.toList
structure Nx (w:aY) (nt:Option aJ) (Z:Fz) (s:aL) (Z':Fz) (ν':List T) (s':aL):Prop where
 le:Le Z Z'
 new:∀ b,b<s.heap.objs.size->Z' b=Z b
 on:On Z' s'.heap
 ext:∀ b o,¬Mu nt b->s.heap.get? b=some o->s'.heap.get? b=some o
 size:s.heap.objs.size<=s'.heap.objs.size
 nts:fq w Z' nt ν' s'.heap
 gens:mI s.gens->mI s'.gens
 os:s'.os=s.os
 tab:∀ ps,jy s.heap ps->∃ more,jy s'.heap (ps++more)
theorem Nx.trans{w:aY}{g:Option aJ}{Z j d:Fz}{s k f:aL}{i c:List T}(a:Nx w g Z s j i k)(b:Nx w g j k d c f):Nx w g Z s d c f where
 le:=a.le.trans b.le
 new:=λx h=>(b.new x (ck h a.size)).trans (a.new x h)
 on:=b.on
 ext:=λx o h e=>b.ext x o h (a.ext x o h e)
 size:=bf a.size b.size
 nts:=b.nts
 gens:=λh=>b.gens (a.gens h)
 os:=b.os.trans a.os
 tab:=λl h=>by
  exact aQ λm=>aU (a.tab l h) λn h1=>aU (b.tab _ h1) λp h2=>m ⟨n++p,by refine xY▸?_;exact h2⟩
structure Fx where
 nt:Option aJ
 h₀:bh
 env:cz
 nm:List (Option Str)
 fa:List aJ
 wr:List Nat
structure A1 (F:Fx):Prop where
 kf:F.env.scope.kind=.function
 eg:F.env.globals=nY
 eb:F.env.builtins=n0
 cap:∀ x y c,F.env.cells.lookup x=some c->F.env.cells.lookup y=some c->x=y
 fah:∀ a∈F.fa,F.h₀.objs.size<=a
 loc:F.env.locals∈F.fa
 ntf:∀ a,F.nt=some a->a∉F.fa
 big:171<=F.h₀.objs.size
 celk:∀ x,F.env.kindOf x=some .cell\/F.env.kindOf x=some .free->(F.env.cells.lookup x).isSome=true
 nmi:∀ (i j:Nat) x,F.nm[i]?=some (some x)->F.nm[j]?=some (some x)->i=j
 wrk:∀ i∈F.wr,∀ x,F.nm[i]?=some (some x)->F.env.kindOf x=some .local\/(F.env.kindOf x=some .cell/\∃ c,F.env.cells.lookup x=some c/\c∈F.fa)
def Look(a:cz)(m:Str->Option aI)(h:bh)(x:Str)(v:aI):Prop:=
 (a.kindOf x=some .local/\m x=some v)\/((a.kindOf x=some .cell\/a.kindOf x=some .free)/\∃ c,a.cells.lookup x=some c/\h.IsCell c (some v))
def dY(w:aY)(e:Option aJ)(Z:Fz)(h:bh)(a:aJ):S->aI->Prop
 |.no,_=>True
 |.v t,v=>Rd w Z t v
 |.own l,v=>v=.ref a/\∃ d,h.PlainList a d.toArray/\bm w Z l d
 |.ownd l,v=>v=.ref a/\∃ c,h.DictOf (ik w) a c/\bY w Z l c
 |.nts,v=>∃ b,e=some b/\v=.ref b
structure St (w:aY) (F:Fx) (J:Nat->aJ) (Z:Fz) (O:List S) (Y:List T) (s:aL):Prop where
 ok:A1 F
 on:On Z s.heap
 md:Md w Z
 nts:fq w Z F.nt Y s.heap
 gens:mI s.gens
 base:∀ b o,¬Mu F.nt b->F.h₀.get? b=some o->s.heap.get? b=some o
 tab:∃ ps,jy s.heap ps
 fz:∀ a∈F.fa,Z a=none/\a<s.heap.objs.size
 cel:∀ x c,F.env.cells.lookup x=some c->∃ v,s.heap.IsCell c v
 vars:∃ m,s.heap.Ns F.env.locals m/\∀ i x S,F.nm[i]?=some (some x)->O[i]?=some S->S≠.no->∃ v,Look F.env m s.heap x v/\dY w F.nt Z s.heap (J i) S v
 own:∀ (i:Nat) (S:Mine.Internal.S),O[i]?=some S->S.adD->Z (J i)=none/\F.h₀.objs.size<=J i/\F.nt≠some (J i)/\J i<s.heap.objs.size/\J i∉F.fa
 inj:∀ (i j:Nat) (S:Mine.Internal.S) (S':Mine.Internal.S),O[i]?=some S->S.adD->O[j]?=some S'->S'.adD->J i=J j->i=j
section
variable{w:aY}{Z Z':Fz}{h h':bh}
theorem Md.le(M:Md w Z)(b:Le Z Z')(c:Z' eB=Z eB):Md w Z':=⟨λa o e n=>b a o (M.1 a o e n),c.trans M.2⟩
theorem qu{a:aJ}{m:Str->Option aI}(n:h.Ns a m)(k:∀ o,h.get? a=some o->h'.get? a=some o):h'.Ns a m:=
 my n λo b c d r=>dF o b c ⟨k _ d,r⟩
theorem jq{a:aJ}{v:Option aI}(n:h.IsCell a v)(k:∀ o,h.get? a=some o->h'.get? a=some o):h'.IsCell a v:=
 aV n λo b r=>aS o (k _ b) r
theorem m9{a:aJ}{v:Array aI}(n:h.PlainList a v)(k:∀ o,h.get? a=some o->h'.get? a=some o):h'.PlainList a v:=aU n λm e=>⟨m,k _ e⟩
theorem oa{a:aJ}{v:Array aI}(n:h.IsList a v)(k:∀ o,h.get? a=some o->h'.get? a=some o):h'.IsList a v:=
 aV n λo b r=>aS o (k _ b) r
theorem vV{a:aJ}{v:List (Int×aI)}(n:h.DictOf (ik w) a v)(k:∀ o,h.get? a=some o->h'.get? a=some o):h'.DictOf (ik w) a v:=
 my n λo b c d r=>dF o b c ⟨k _ d,r⟩
theorem Dn{c:Option aJ}{Y:List T}{d:Array aI}{b:aJ}{o:bK}(f:fq w Z c Y h)(g:jy h d)(e:h.get? b=some o)
  (hd:match o.data with|.seq ..=>False|.fields _=>o.cls≠.none|_=>True):¬Mu c b:=by
 rintro (rfl|rfl)
 ·refine ej f λ_ j i _=>?_;obtain⟨n,a⟩:=i;replace a:=e▸a;cases a;exact hd
 ·have:=g.1.2;replace this:=e▸this;cases this;exact hd rfl
theorem zF{a:Option aJ}{Y:List T}{c:Array aI}{b:aJ}{m:Str->Option aI}(d:fq w Z a Y h)(f:jy h c)(e:h.Ns b m):¬Mu a b:=by
 exact s7 e λo i j g hd _=>Dn d f g (by refine hd▸?_;trivial)
theorem vf{a:Option aJ}{Y:List T}{c:Array aI}{b:aJ}{v:Option aI}(d:fq w Z a Y h)(f:jy h c)(e:h.IsCell b v):¬Mu a b:=by
 exact aV e λo g hd=>Dn d f g (by refine hd▸?_;trivial)
theorem Look.ext{b:cz}{m:Str->Option aI}{x:Str}{v:aI}(l:Look b m h x v)(k:∀ c o,b.cells.lookup x=some c->h.get? c=some o->h'.get? c=some o):Look b m h' x v:=by
 rcases l with l|⟨a,c,hc,d⟩
 ·exact .inl l
 ·exact .inr (fu a c hc (jq d λo=>k c o hc))
theorem dY.ext{d:Option aJ}{a:aJ}{S:S}{v:aI}(x:dY w d Z h a S v)(b:Le Z Z')(k:S.adD->∀ o,h.get? a=some o->h'.get? a=some o):dY w d Z' h' a S v:=by
 cases S with
 |no=>trivial
 |v t=>exact Rd.mono b t x
 |own l=>exact⟨x.1,aV x.2 λc y z=>aS c (m9 y (k trivial)) (bm.mono b l z)⟩
 |ownd l=>exact⟨x.1,aV x.2 λc y z=>aS c (vV y (k trivial)) (bY.mono b l z)⟩
 |nts=>exact x
end
section
variable{w:aY}{F:Fx}{J:Nat->aJ}{Z Z':Fz}{O:List S}{Y ν':List T}{s s':aL}
theorem St.ae0(H:St w F J Z O Y s){i:Nat}{S:S}(e:O[i]?=some S)(o:S.adD):¬Mu F.nt (J i):=by
 refine aQ λc=>fW (H.own i S e o) λ_ a b _=>c ?_;rintro (h|h)
 ·exact b h
 ·have:=H.ok.big;replace a:=h▸a;exact absurd (bf this a) (by decide)
theorem St.next(H:St w F J Z O Y s)(N:Nx w F.nt Z s Z' ν' s'):St w F J Z' O ν' s':=by
 refine aU H.tab λq j=>⟨H.ok,N.on,H.md.le N.le (N.new _ (cg j.1.2)),N.nts,N.gens H.gens,λb o n e=>N.ext b o n (H.base b o n e),?_,λa k=>⟨(N.new a (H.fz a k).2).trans (H.fz a k).1,ck (H.fz a k).2 N.size⟩,λx c hc=>?_,?_,λi S e o=>?_,H.inj⟩
 ·exact aU (N.tab q j) λmore h=>⟨_,h⟩
 ·exact aU (H.cel x c hc) λv g=>⟨v,jq g λo=>N.ext c o (vf H.nts j g)⟩
 ·refine aV H.vars λm p g=>(aS m (qu p λo=>N.ext _ o (zF H.nts j p)) (λi x S hi hs r=>aQ λt=>aV (g i x S hi hs r) λv u g=>t (aS v (u.ext λc o hc=>?_) (g.ext N.le λy o=>N.ext _ o (H.ae0 hs y)))));exact aU (H.cel x c hc) λz l=>N.ext c o (vf H.nts j l)
 ·exact gl (H.own i S e o) λa b c d f=>⟨(N.new _ d).trans a,b,c,ck d N.size,f⟩
theorem St.nx(H:St w F J Z O Y s):Nx w F.nt Z s Z Y s:=
 ⟨.refl Z,λ_ _=>rfl,H.on,λ_ _ _ e=>e,cu _,H.nts,id,rfl,λa h=>⟨#[],h⟩⟩
def RX(w:aY)(F:Fx)(J:Nat->aJ)(O:List S)(n:Nat)(Z:Fz)(h:bh):X->aI->Prop
 |.v t,v=>Rd w Z t v
 |.fr l,v=>∃ a d,v=.ref a/\n<=a/\Z a=none/\F.nt≠some a/\h.PlainList a d.toArray/\bm w Z l d
 |.frd l,v=>∃ a c,v=.ref a/\n<=a/\Z a=none/\F.nt≠some a/\h.DictOf (ik w) a c/\bY w Z l c
 |.bo i l,v=>v=.ref (J i)/\O[i]?=some (.own l)/\∃ d,h.PlainList (J i) d.toArray/\bm w Z l d
 |.bod i l,v=>v=.ref (J i)/\O[i]?=some (.ownd l)/\∃ c,h.DictOf (ik w) (J i) c/\bY w Z l c
 |.nts,v=>∃ b,F.nt=some b/\v=.ref b
theorem jn{h:bh}{a:aJ}{b:Array aI}(x:h.PlainList a b):a<h.objs.size:=aU x λ_ e=>cg e
theorem mU{h:bh}{a:aJ}{b:Array aI}(x:h.IsList a b):a<h.objs.size:=aV x λ_ e _=>cg e
theorem tU{h:bh}{a:aJ}{b:List (Int×aI)}(x:h.DictOf (ik w) a b):a<h.objs.size:=my x λ_ _ _ e _=>cg e
theorem RX.next{n:Nat}{x:X}{v:aI}(c:171<=n)(H:St w F J Z O Y s)(r:RX w F J O n Z s.heap x v)(N:Nx w F.nt Z s Z' ν' s'):RX w F J O n Z' s'.heap x v:=by
 have fin {a:aJ} (h1:n<=a) (h2:F.nt≠some a):¬Mu F.nt a:=by
  rintro (h|h)
  ·exact h2 h
  ·replace h1:=h▸h1;exact absurd (bf c h1) (by decide)
 cases x with
 |v t=>exact Rd.mono N.le t r
 |fr l=>
  exact iy r λa b e h1 h2 h3 h4 h5=>(jz a b e h1 ((N.new a (jn h4)).trans h2) h3 (m9 h4 λo=>N.ext a o (fin h1 h3)) (bm.mono N.le l h5))
 |frd l=>
  exact iy r λa b e h1 h2 h3 h4 h5=>(jz a b e h1 ((N.new a (tU h4)).trans h2) h3 (vV h4 λo=>N.ext a o (fin h1 h3)) (bY.mono N.le l h5))
 |bo i l=>
  exact oU r λe h1 b h2 h3=>⟨e,h1,(aS b (m9 h2 λo=>N.ext _ o (H.ae0 h1 trivial)) (bm.mono N.le l h3))⟩
 |bod i l=>
  exact oU r λe h1 b h2 h3=>⟨e,h1,(aS b (vV h2 λo=>N.ext _ o (H.ae0 h1 trivial)) (bY.mono N.le l h3))⟩
 |nts=>exact r
structure di (n:Nat) (A:bx):Prop where
 d:A.depth+n<900
 u:A.units+8*n<9000
 h:A.handled=none
def Ev(w:aY)(A:bx)(F:Fx)(J:Nat->aJ)(Z:Fz)(O:List S)(s:aL)(e:Expr)(x:X)(ν':List T):Prop:=
 ∀ (Q:aI->aL->Prop) (E:aI->aL->Prop),(∀ v Z' s',Nx w F.nt Z s Z' ν' s'->RX w F J O s.heap.objs.size Z' s'.heap x v->Q v s')->bc (model pw w) A (eval e F.env) Q E s
end
inductive Nm where
 |i (a:Int)|f (a:UInt64)|b (a:Bool)
noncomputable def T.nm?:T->Option Nm
 |.int a=>some (.i a)
 |.flt a=>some (.f a)
 |.bool a=>some (.b a)
 |_=>nZ
noncomputable def Bk(op:gf)(a b:Int):Option T:=match op with
 |.Add=>some (.int (a+b))
 |.Sub=>some (.int (a-b))
 |.Mult=>if a.natAbs<2^64\/b.natAbs<2^64 then some (.int (a*b))else none
 |.FloorDiv=>if b=0\/2^64<=b.natAbs then none else some (.int (a.fdiv b))
 |.Mod=>if b=0 then none else some (.int (a.fmod b))
 |.Pow=>if 0<=b/\b<=1000000/\a.natAbs<2^64 then some (.int (a^b.toNat))else none
 |.RShift=>if 0<=b then some (.int (a.fdiv (2^b.toNat)))else none
 |.BitAnd=>some (.int (Builtin.bitAnd a b))
 |.BitXor=>some (.int (Builtin.bitXor a b))
 |.Div=>if b=0\/Float64.isInf (Js (decide (a<0) != decide (b<0)) a.natAbs b.natAbs)=true then none else some (.flt (Js (decide (a<0) != decide (b<0)) a.natAbs b.natAbs))
 |.MatMult=>none
 |.LShift=>none
 |.BitOr=>none
noncomputable def zl(op:gf)(a b:UInt64):Option T:=if op=.Add then some (.flt (Float64.add a b))else if op=.Sub then some (.flt (dk a b))else if op=.Mult then some (.flt (c9 a b))else none
noncomputable def zn(op:gf)(a:UInt64)(b:Int):Option T:=if op=.Mult then(if b.natAbs<2^64 then some (.flt (c9 a (bZ b)))else none)else if op=.Sub then(if b.natAbs<2^64 then some (.flt (dk a (bZ b)))else none)else none
noncomputable def Cd(op:gf)(a:Int)(b:UInt64):Option T:=if op=.Mult then(if a.natAbs<2^64 then some (.flt (c9 (bZ a) b))else none)else if op=.Add then(if a.natAbs<2^64 then some (.flt (Float64.add (bZ a) b))else none)else none
noncomputable def oZ(op:gf):Nm->Nm->Option T
 |.i a,.i b=>Bk op a b
 |.f a,.f b=>zl op a b
 |.f a,.i b=>zn op a b
 |.i a,.f b=>Cd op a b
 |.b a,.b b=>if op=.Sub then some (.int (b2i a-b2i b))else none
 |.b _,.i _=>none
 |.b _,.f _=>none
 |.i _,.b _=>none
 |.f _,.b _=>none
noncomputable def dp(op:gf)(x y:T):Option T:=x.nm?.bind λa=>y.nm?.bind λb=>oZ op a b
theorem kT{J:Type _}{c:Prop}[Decidable c]{a r:J}(h:(if c then some a else none)=some r):c/\a=r:=by
 by_cases q:c
 ·rw[if_pos q]at h;exact⟨q,bw h⟩
 ·rw[if_neg q]at h;exact nomatch h
theorem yz{J:Type _}{c:Prop}[Decidable c]{a r:J}(h:(if c then none else some a)=some r):¬c/\a=r:=by
 by_cases q:c
 ·rw[if_pos q]at h;exact nomatch h
 ·rw[if_neg q]at h;exact⟨q,bw h⟩
theorem pK{J:Type _}{c:Prop}[Decidable c]{a b:Option J}{r:J}(h:(if c then a else b)=some r):c/\a=some r\/¬c/\b=some r:=by
 by_cases q:c
 ·rw[if_pos q]at h;exact .inl ⟨q,h⟩
 ·rw[if_neg q]at h;exact .inr ⟨q,h⟩
theorem wH{n:Nat}(h:n<2^64):n<2^1023:=ck h (xZ (by decide) (by decide))
theorem FH{a:Int}(h:a.natAbs<2^64):acG a<=64:=intBits_le_64 (aaB h) (Lw h)
theorem Ym{a b:Int}(h:Cz a b):Cz b a:=by
 unfold Cz at h ⊢;rw[xN,Bool.and_comm (decide (acG b>shortFactorBits))];exact h
theorem mulOk_of{a b:Int}(h:a.natAbs<2^64\/b.natAbs<2^64):Cz a b:=by
 rcases h with h|h
 ·exact acH (FH h)
 ·exact Ym (acH (FH h))
theorem Oq{a b:Int}(h:¬(2^64<=b.natAbs)):Builtin.divisionGoesByPylong a b=false:=by
 refine PyProof.noPylong_of_log2 ?_;by_cases h0:b.natAbs=0
 ·rw[h0];decide
 ·have:b.natAbs.log2<64:=(Nat.log2_lt h0).mpr (acu h);exact VW this
section
variable{w:aY}{A:bx}{E:aI->aL->Prop}{s:aL}{Z:Fz}
def Nm.At:Nm->aI->Prop
 |.i a,v=>∃ k,v=.int a k
 |.f a,v=>∃ k,v=.float a k
 |.b a,v=>v=.bool a
theorem Bb{a:Int}{v:aI}(h:(Nm.i a).At v):∃ k,v=.int a k:=h
theorem Ae{a:UInt64}{v:aI}(h:(Nm.f a).At v):∃ k,v=.float a k:=h
theorem Dj{a:Bool}{v:aI}(h:(Nm.b a).At v):v=.bool a:=h
theorem Fa{t:T}{n:Nm}{v:aI}(h:t.nm?=some n)(r:Rd w Z t v):n.At v:=by
 cases t with
 |int a=>cases h;exact r
 |flt a=>cases h;exact r
 |bool a=>cases h;exact r
 |none=>exact bD h
 |str _=>exact bD h
 |tup _=>exact bD h
 |lst _=>exact bD h
 |dct _=>exact bD h
 |inst _=>exact bD h
def sZ(w:aY)(A:bx)(E:aI->aL->Prop)(s:aL)(op:gf)(v1 a:aI)(t:T):Prop:=
 ∀ Q:aI->aL->Prop,(∀ v k,(∀ Z,Rd w Z t v)->Q v {s with toks:=k})->bc (model pw w) A (CA op v1 a) Q E s
theorem jR{a:Int}{k:dz}(Z:Fz):Rd w Z (.int a) (.int a k):=(⟨k,rfl⟩:∃ t,Jt a k=Jt a t)
theorem Ng{a:Str}{k:dz}(Z:Fz):Rd w Z (.str a) (.str a k):=(⟨k,rfl⟩:∃ t,Value.str a k=Value.str a t)
theorem gG{t:T}{v:aI}{i:Int}(e:t.int?=some i)(r:Rd w Z t v):∃ k,v=.int i k:=by rw[T.adV e]at r;exact r
theorem FD{t:T}{v:aI}{i:UInt64}(e:t.adU=some i)(r:Rd w Z t v):∃ k,v=.float i k:=by rw[T.ael e]at r;exact r
theorem DX{t:T}{v:aI}{i:Str}(e:t.adK=some i)(r:Rd w Z t v):∃ k,v=.str i k:=by rw[T.str_eq e]at r;exact r
theorem l6{a:UInt64}{k:dz}(Z:Fz):Rd w Z (.flt a) (.float a k):=(⟨k,rfl⟩:∃ t,Value.float a k=Value.float a t)
theorem K6{op:gf}{a b:Int}{e f:dz}{t:T}(h:Bk op a b=some t):sZ w A E s op (.int a e) (.int b f) t:=by
 cases op with
 |Add=>cases h;exact λQ c=>PyProof.Rows.add_int (c _ _ jR)
 |Sub=>cases h;exact λQ c=>PyProof.Rows.sub_int (c _ _ jR)
 |Mult=>refine bn (kT h) λhc d=>?_;subst d;exact λQ c=>PyProof.Rows.mul_int (c _ _ jR) (mulOk_of hc)
 |FloorDiv=>refine bn (yz h) λhc d=>?_;subst d;exact λQ c=>PyProof.Rows.floordiv_int (λx=>hc (.inl x)) (c _ _ jR) (.inl (Oq λx=>hc (.inr x)))
 |Mod=>refine bn (yz h) λhc d=>?_;subst d;exact λQ c=>PyProof.Rows.mod_int' hc (c _ _ jR)
 |Pow=>refine bn (kT h) λhc d=>?_;subst d;exact λQ c=>PyProof.Rows.pow_int_small hc.1 hc.2.1 hc.2.2 (c _ _ jR)
 |RShift=>refine bn (kT h) λhc d=>?_;subst d;exact λQ c=>PyProof.Rows.rshift_int hc (c _ _ jR)
 |BitAnd=>cases h;exact λQ c=>PyProof.Rows.and_int (c _ _ jR)
 |BitXor=>cases h;exact λQ c=>PyProof.Rows.xor_int (c _ _ jR)
 |Div=>refine bn (yz h) λhc d=>?_;subst d;exact λQ c=>AutoIntOps.truediv_2 (λx=>hc (.inl (by simpa using x))) (λx=>hc (.inr x)) (c _ _ l6)
 |MatMult=>exact bD h
 |LShift=>exact bD h
 |BitOr=>exact bD h
theorem Pp{op:gf}{a b:UInt64}{d e:dz}{t:T}(h:zl op a b=some t):sZ w A E s op (.float a d) (.float b e) t:=by
 rcases pK h with ⟨rfl,h⟩|⟨_,h⟩
 ·cases h;exact λQ c=>PyProof.Rows.add_float (c _ _ l6)
 ·rcases pK h with ⟨rfl,h⟩|⟨_,h⟩
  ·cases h;exact λQ c=>PyProof.Rows.sub_float (c _ _ l6)
  ·refine bn (kT h) λf g=>?_;subst f;subst g;exact λQ c=>PyProof.Rows.mul_float (c _ _ l6)
theorem Ll{op:gf}{a:UInt64}{b:Int}{e f:dz}{t:T}(h:zn op a b=some t):sZ w A E s op (.float a e) (.int b f) t:=by
 rcases pK h with ⟨rfl,h⟩|⟨_,h⟩
 ·refine bn (kT h) λhc c=>?_;subst c;exact λQ d=>PyProof.Rows.mul_fi_fits (wH hc) (d _ _ l6)
 ·rcases pK h with ⟨rfl,h⟩|⟨_,h⟩
  ·refine bn (kT h) λhc c=>?_;subst c;exact λQ d=>PyProof.Rows.sub_fi_fits (wH hc) (d _ _ l6)
  ·exact bD h
theorem YV{op:gf}{a:Int}{b:UInt64}{e f:dz}{t:T}(h:Cd op a b=some t):sZ w A E s op (.int a e) (.float b f) t:=by
 rcases pK h with ⟨rfl,h⟩|⟨_,h⟩
 ·refine bn (kT h) λhc c=>?_;subst c;exact λQ d=>PyProof.Rows.mul_if_fits (wH hc) (d _ _ l6)
 ·rcases pK h with ⟨rfl,h⟩|⟨_,h⟩
  ·refine bn (kT h) λhc c=>?_;subst c;exact λQ d=>PyProof.Rows.add_if_fits (wH hc) (d _ _ l6)
  ·exact bD h
theorem KU{op:gf}{a b:Int}{t:T}(h:oZ op (.i a) (.i b)=some t):Bk op a b=some t:=h
theorem Vo{op:gf}{a:UInt64}{b:Int}{t:T}(h:oZ op (.f a) (.i b)=some t):zn op a b=some t:=h
theorem MF{op:gf}{a b:UInt64}{t:T}(h:oZ op (.f a) (.f b)=some t):zl op a b=some t:=h
theorem Os{op:gf}{a:Int}{b:UInt64}{t:T}(h:oZ op (.i a) (.f b)=some t):Cd op a b=some t:=h
theorem MW{op:gf}{a b:Bool}{t:T}(h:oZ op (.b a) (.b b)=some t):op=.Sub/\T.int (b2i a-b2i b)=t:=kT h
set_option maxHeartbeats 2000000 in
theorem XB{op:gf}{x y:Nm}{t:T}{v1 j:aI}(h:oZ op x y=some t)(e:x.At v1)(d:y.At j):sZ w A E s op v1 j t:=by
 cases x with
 |i a=>
  refine aU (Bb e) λk c=>?_;subst c;cases y with
  |i b=>refine aU (Bb d) λg c=>?_;subst c;exact K6 (KU h)
  |f b=>refine aU (Ae d) λg c=>?_;subst c;exact YV (Os h)
  |b b=>exact bD h
 |f a=>
  refine aU (Ae e) λk c=>?_;subst c;cases y with
  |i b=>refine aU (Bb d) λg c=>?_;subst c;exact Ll (Vo h)
  |f b=>refine aU (Ae d) λg c=>?_;subst c;exact Pp (MF h)
  |b b=>exact bD h
 |b a=>
  obtain rfl:=Dj e;cases y with
  |i b=>exact bD h
  |f b=>exact bD h
  |b b=>
   obtain rfl:=Dj d;refine bn (MW h) λl c=>?_;subst l;subst c;exact λQ m=>PyProof.Rows.sub_bool (m _ _ λZ=>⟨_,rfl⟩)
theorem Ib{op:gf}{a b t:T}{v1 c:aI}{Q:aI->aL->Prop}(h:dp op a b=some t)(d:Rd w Z a v1)(e:Rd w Z b c)
  (f:∀ v k,(∀ Z,Rd w Z t v)->Q v {s with toks:=k}):bc (model pw w) A (CA op v1 c) Q E s:=by
 revert h;exact aX λx h1=>aX λy h2 h=>XB h (Fa h1 d) (Fa h2 e) Q f
end
noncomputable def FL(op:gq)(a b:Int):Option Bool:=match op with
 |.Eq=>some (a==b)
 |.NotEq=>some (a != b)
 |.Lt=>some (decide (a<b))
 |.LtE=>none
 |.Gt=>some (decide (b<a))
 |.GtE=>none
 |.Is=>none
 |.IsNot=>none
 |.In=>none
 |.NotIn=>none
noncomputable def Ir(op:gq)(a b:UInt64):Option Bool:=match op with
 |.Eq=>none
 |.NotEq=>none
 |.Lt=>some (rC a b==some jO)
 |.LtE=>none
 |.Gt=>some (rC a b==some pg)
 |.GtE=>none
 |.Is=>none
 |.IsNot=>none
 |.In=>none
 |.NotIn=>none
noncomputable def pS(o op:gq)(r:Bool):Option Bool:=if op=o then some r else none
noncomputable def d9(op:gq)(x y:T):Option Bool:=match x with
 |.int a=>(match y with
  |.int b=>FL op a b
  |_=>none)
 |.flt a=>(match y with
  |.flt b=>Ir op a b
  |.int b=>pS .Lt op (Ju a b==some jO)
  |_=>none)
 |.str a=>(match y with
  |.str b=>pS .In op (!(acI b a 0 b.length 1).isEmpty)
  |.none=>pS .IsNot op true
  |_=>none)
 |.bool a=>(match y with
  |.bool b=>pS .Is op (a==b)
  |_=>none)
 |.none=>(match y with
  |.none=>pS .IsNot op false
  |_=>none)
 |_=>none
section
variable{w:aY}{A:bx}{E:aI->aL->Prop}{s:aL}{Z:Fz}
theorem Am{a:Int}{v:aI}(h:Rd w Z (.int a) v):∃ k,v=.int a k:=h
theorem HI{a:UInt64}{v:aI}(h:Rd w Z (.flt a) v):∃ k,v=.float a k:=h
theorem GU{a:Str}{v:aI}(h:Rd w Z (.str a) v):∃ k,v=.str a k:=h
theorem GQ{a:Bool}{v:aI}(h:Rd w Z (.bool a) v):v=.bool a:=h
theorem zB{v:aI}(h:Rd w Z .none v):v=.none:=h
theorem tD{o op:gq}{r b:Bool}{P:gq->Bool->Prop}(h:pS o op r=some b)(k:P o r):P op b:=by
 refine bn (kT h) λa c=>?_;subst a;subst c;exact k
def nP(w:aY)(A:bx)(E:aI->aL->Prop)(s:aL)(op:gq)(v1 a:aI)(b:Bool):Prop:=∀ Q:aI->aL->Prop,Q (.bool b) s->bc (model pw w) A (CB op v1 a) Q E s
theorem Wc{op:gq}{a b:Int}{d e:dz}{r:Bool}(h:FL op a b=some r):nP w A E s op (.int a d) (.int b e) r:=by
 cases op with
 |Lt=>cases h;exact λQ c=>PyProof.Rows.lt_int c
 |Gt=>cases h;exact λQ c=>PyProof.Rows.gt_int c
 |Eq=>cases h;exact λQ c=>PyProof.Rows.eq_int c
 |NotEq=>cases h;exact λQ c=>PyProof.Rows.ne_int c
 |_=>exact bD h
theorem V4{op:gq}{a b:UInt64}{d e:dz}{r:Bool}(h:Ir op a b=some r):nP w A E s op (.float a d) (.float b e) r:=by
 cases op with
 |Lt=>cases h;exact λQ c=>AutoFloatOps.lt_0 c
 |Gt=>cases h;exact λQ c=>acJ c
 |_=>exact bD h
theorem TS{op:gq}{i e:T}{b:Bool}{v1 k:aI}(h:d9 op i e=some b)(g:Rd w Z i v1)(f:Rd w Z e k):nP w A E s op v1 k b:=by
 cases i with
 |int a=>
  refine aU (Am g) λl c=>?_;subst c;cases e with
  |int b=>refine aU (Am f) λj c=>?_;subst c;exact Wc h
  |_=>exact bD h
 |flt a=>
  refine aU (HI g) λl c=>?_;subst c;cases e with
  |flt b=>refine aU (HI f) λj c=>?_;subst c;exact V4 h
  |int b=>refine aU (Am f) λj c=>?_;subst c;exact tD (P:=λo r=>nP w A E s o _ _ r) h λQ d=>PyProof.Rows.lt_fi d
  |_=>exact bD h
 |str a=>
  refine aU (GU g) λl c=>?_;subst c;cases e with
  |str b=>refine aU (GU f) λj c=>?_;subst c;exact tD (P:=λo r=>nP w A E s o _ _ r) h λQ d=>PyProof.Rows.in_str d
  |none=>obtain rfl:=zB f;exact tD (P:=λo r=>nP w A E s o _ _ r) h λQ d=>PyProof.Rows.isnot_none_ne (by intro x;cases x) d
  |_=>exact bD h
 |bool a=>
  obtain rfl:=GQ g;cases e with
  |bool b=>obtain rfl:=GQ f;exact tD (P:=λo r=>nP w A E s o _ _ r) h λQ d=>PyProof.Rows.is_bool d
  |_=>exact bD h
 |none=>
  obtain rfl:=zB g;cases e with
  |none=>obtain rfl:=zB f;exact tD (P:=λo r=>nP w A E s o _ _ r) h λQ d=>PyProof.Rows.isnot_none_none d
  |_=>exact bD h
 |_=>exact bD h
theorem DA{op:gq}{a c:T}{b:Bool}{v1 d:aI}{Q:aI->aL->Prop}(h:d9 op a c=some b)(e:Rd w Z a v1)(f:Rd w Z c d)
  (g:Q (.bool b) s):bc (model pw w) A (CB op v1 d) Q E s:=TS h e f Q g
end
noncomputable def oh:T->Option Bool
 |.bool b=>some b
 |.int i=>some (decide (i≠0))
 |_=>none
section
variable{w:aY}{A:bx}{F:Fx}{J:Nat->aJ}{Z Z':Fz}{O:List S}{Y ν':List T}{s s':aL}
theorem St.tok(H:St w F J Z O Y s)(k:dz):Nx w F.nt Z s Z Y {s with toks:=k}:={H.nx with}
theorem St.k(H:St w F J Z O Y s)(k:dz):St w F J Z O Y {s with toks:=k}:=H.next (H.tok k)
theorem Ev.of(x:X)(h:∀ (Q:aI->aL->Prop) (E:aI->aL->Prop),(∀ v Z' s',Nx w F.nt Z s Z' ν' s'->RX w F J O s.heap.objs.size Z' s'.heap x v->Q v s')->bc (model pw w) A (eval e F.env) Q E s):
  Ev w A F J Z O s e x ν':=h
theorem St.sz(H:St w F J Z O Y s):171<=s.heap.objs.size:=by
 have h1:=H.ok.big;have h2:=(H.fz _ H.ok.loc).2;have h3:=H.ok.fah _ H.ok.loc;exact bf h1 (j8 (ff h3 h2))
theorem Yr(H:St w F J Z O Y s){i:Int}{k pos}:Ev w A F J Z O s (.Constant (.int i) k pos) (.v (.int i)) Y:=
 λQ E a=>Jv (a _ _ _ (H.tok _) ⟨_,rfl⟩)
theorem Th(H:St w F J Z O Y s){i:Str}{k pos}:Ev w A F J Z O s (.Constant (.str i) k pos) (.v (.str i)) Y:=
 λQ E a=>wpAny_Constant_str (a _ _ _ (H.tok _) ⟨_,rfl⟩)
theorem NJ(H:St w F J Z O Y s){k pos}:Ev w A F J Z O s (.Constant .none k pos) (.v .none) Y:=
 λQ E a=>wpAny_Constant_none (a _ _ _ H.nx rfl)
theorem Yv(H:St w F J Z O Y s){b:Bool}{k pos}:Ev w A F J Z O s (.Constant (.bool b) k pos) (.v (.bool b)) Y:=
 λQ E a=>wpAny_Constant_bool (a _ _ _ H.nx rfl)
theorem Wd(H:St w F J Z O Y s){b:UInt64}{k pos}:Ev w A F J Z O s (.Constant (.float b) k pos) (.v (.flt b)) Y:=
 λQ E a=>wpAny_Constant_float (a _ _ _ (H.tok _) ⟨_,rfl⟩)
noncomputable def S.x(i:Nat):S->Option X
 |.no=>none
 |.v t=>some (.v t)
 |.own l=>some (.bo i l)
 |.ownd l=>some (.bod i l)
 |.nts=>some .nts
theorem wV{e:cz}{m:Str->Option aI}{x:Str}{v:aI}{Q:aI->aL->Prop}{E:aI->aL->Prop}(hk:e.scope.kind=.function)(f:s.heap.Ns e.locals m)(l:Look e m s.heap x v)(h:Q v s)
  (hc:(x==("__classdict__":Str))=false):bc (model pw w) A (loadName e x) Q E s:=by
 rcases l with ⟨a,b⟩|⟨a|a,c,b,d⟩
 ·exact x0 hk a f b h
 ·exact wpAny_loadName_cell hk a b d h
 ·exact wpAny_loadName_free hk a b d h hc
theorem Sz(H:St w F J Z O Y s){id:Str}{i:Nat}{S:S}{x:X}{pos}(hi:F.nm[i]?=some (some id))(hs:O[i]?=some S)(b:S.x i=some x)
  (hd:(id==("__debug__":Str))=false) (hc:(id==("__classdict__":Str))=false):Ev w A F J Z O s (.Name id pos) x Y:=λQ E c=>by
 refine rD ?_ hd;refine aV H.vars λm d a=>aV (a i id S hi hs (by rintro rfl;cases b)) λv e a=>wV H.ok.kf d e (c v Z s H.nx ?_) hc;cases S with
 |no=>cases b
 |v t=>cases b;exact a
 |own l=>cases b;exact⟨a.1,hs,a.2⟩
 |ownd l=>cases b;exact⟨a.1,hs,a.2⟩
 |nts=>cases b;exact a
theorem PC(H:St w F J Z O Y s){a b:Expr}{op:gf}{pos}{d g t:T}{G c:List T}(h1:Ev w A F J Z O s a (.v d) G)
  (h2:∀ Z' s',Nx w F.nt Z s Z' G s'->Ev w A F J Z' O s' b (.v g) c) (h:dp op d g=some t):Ev w A F J Z O s (.BinOp a op b pos) (.v t) c:=λQ E i=>by
 refine x9 (h1 _ _ λv1 j l e m=>h2 j l e _ _ λq r u f n=>Ib h (Rd.mono f.le d m) n λv k o=>?_);have p:=(H.next e).next f;exact i _ _ _ ((e.trans f).trans (p.tok k)) (o _)
theorem Un(H:St w F J Z O Y s){a b:Expr}{op:gq}{pos}{e f:T}{c:Bool}{G d:List T}(h1:Ev w A F J Z O s a (.v e) G)
  (h2:∀ Z' s',Nx w F.nt Z s Z' G s'->Ev w A F J Z' O s' b (.v f) d) (i:d9 op e f=some c) (j:rE op b=false):Ev w A F J Z O s (.Compare a [op] [b] pos) (.v (.bool c)) d:=λQ E k=>by
 refine Jw (h1 _ _ λv1 l m g n=>h2 l m g _ _ λp q r h o=>?_) j;exact DA i (Rd.mono h.le e n) o (k _ _ _ (g.trans h) rfl)
end
noncomputable def X.t?:X->Option T
 |.v t=>some t
 |.fr l=>some (.lst l)
 |.frd l=>some (.dct l)
 |_=>none
noncomputable def X.vt?:X->Option T
 |.v t=>some t
 |.fr _|.frd _|.bo _ _|.bod _ _|.nts=>none
theorem X.adW{x:X}{t:T}(h:x.vt?=some t):x=.v t:=by
 cases x with
 |v j=>exact congrArg X.v (bw h)
 |_=>exact bD h
noncomputable def X.int?(x:X):Option Int:=x.vt?.bind T.int?
noncomputable def X.adU(x:X):Option UInt64:=x.vt?.bind T.adU
noncomputable def X.adK(x:X):Option Str:=x.vt?.bind T.adK
theorem kE{w:aY}{F:Fx}{J:Nat->aJ}{O:List S}{n:Nat}{Z:Fz}{h:bh}{a:Int}{k:dz}:RX w F J O n Z h (.v (.int a)) (.int a k):=jR (w:=w) Z
theorem Nw{w:aY}{F:Fx}{J:Nat->aJ}{O:List S}{n:Nat}{Z:Fz}{h:bh}{a:UInt64}{k:dz}:RX w F J O n Z h (.v (.flt a)) (.float a k):=l6 (w:=w) Z
theorem oo{w:aY}{F:Fx}{J:Nat->aJ}{O:List S}{n:Nat}{Z:Fz}{h:bh}{a:Str}{k:dz}:RX w F J O n Z h (.v (.str a)) (.str a k):=Ng (w:=w) Z
theorem j2{w:aY}{F:Fx}{J:Nat->aJ}{O:List S}{n:Nat}{Z:Fz}{h:bh}{x:X}{v:aI}{i:Int}(e:x.int?=some i)(r:RX w F J O n Z h x v):∃ k,v=.int i k:=by
 revert e;exact aX λt a b=>gG (w:=w) (Z:=Z) b (by rw[X.adW a]at r;exact r)
theorem abu{w:aY}{F:Fx}{J:Nat->aJ}{O:List S}{n:Nat}{Z:Fz}{h:bh}{x:X}{v:aI}{i:UInt64}(e:x.adU=some i)(r:RX w F J O n Z h x v):∃ k,v=.float i k:=by
 revert e;exact aX λt a b=>FD (w:=w) (Z:=Z) b (by rw[X.adW a]at r;exact r)
theorem kr{w:aY}{F:Fx}{J:Nat->aJ}{O:List S}{n:Nat}{Z:Fz}{h:bh}{x:X}{v:aI}{i:Str}(e:x.adK=some i)(r:RX w F J O n Z h x v):∃ k,v=.str i k:=by
 revert e;exact aX λt a b=>DX (w:=w) (Z:=Z) b (by rw[X.adW a]at r;exact r)
noncomputable def X.adH:X->Option (List T)
 |.v (.lst l)=>some l
 |.fr l=>some l
 |.bo _ l=>some l
 |_=>none
noncomputable def X.adJ:X->Option (List T)
 |.v (.tup l)=>some l
 |_=>none
noncomputable def X.adL:X->Option (List (Int×T))
 |.v (.dct l)=>some l
 |.frd l=>some l
 |.bod _ l=>some l
 |_=>none
section
variable{w:aY}{A:bx}{F:Fx}{J:Nat->aJ}{Z Z':Fz}{O:List S}{Y ν':List T}{s s':aL}
def LstAt(w:aY)(Z:Fz)(h:bh)(l:List T)(v:aI):Prop:=∃ a b,v=.ref a/\h.IsList a b.toArray/\bm w Z l b
def TupAt(w:aY)(Z:Fz)(h:bh)(l:List T)(v:aI):Prop:=∃ a b,v=.ref a/\IsTup h a b.toArray/\bm w Z l b
def Zy(w:aY)(Z:Fz)(h:bh)(l:List (Int×T))(v:aI):Prop:=∃ a b,v=.ref a/\h.DictOf (ik w) a b/\bY w Z l b
theorem RX.lst{n:Nat}{x:X}{v:aI}{l:List T}{h:bh}(f:On Z h)(r:RX w F J O n Z h x v)(e:x.adH=some l):LstAt w Z h l v:=by
 cases x with
 |v t=>cases t with
  |lst c=>exact bw e▸gH r λa o b e g d j=>(cE a b e (cI o (f _ _ g) d.1 d.2) j)
  |_=>exact bD e
 |fr c=>exact bw e▸iy r λa b e _ _ _ h4 h5=>(cE a b e h4.isList h5)
 |bo i c=>exact bw e▸oU r λe _ b h4 h5=>(cE _ b e h4.isList h5)
 |_=>exact bD e
theorem RX.tup{n:Nat}{x:X}{v:aI}{l:List T}{h:bh}(c:On Z h)(r:RX w F J O n Z h x v)(e:x.adJ=some l):TupAt w Z h l v:=by
 cases x with
 |v t=>cases t with
  |tup i=>exact bw e▸gH r λa o d e f b g=>(cE a d e (cI o (c _ _ f) b.1 b.2) g)
  |_=>exact bD e
 |_=>exact bD e
theorem RX.dct{n:Nat}{x:X}{v:aI}{l:List (Int×T)}{h:bh}(d:On Z h)(r:RX w F J O n Z h x v)(e:x.adL=some l):Zy w Z h l v:=by
 cases x with
 |v t=>cases t with
  |dct c=>exact bw e▸gH r λa o b e f g j=>(cE a b e (ph.mpr (aS o (d _ _ f) g)) j)
  |_=>exact bD e
 |frd c=>exact bw e▸iy r λa b e _ _ _ h4 h5=>(cE a b e h4 h5)
 |bod i c=>exact bw e▸oU r λe _ b h4 h5=>(cE _ b e h4 h5)
 |_=>exact bD e
noncomputable def put(Z:Fz)(h:bh)(a:aJ):Fz:=λb=>if b=a then h.get? a else Z b
theorem gS{h:bh}{a:aJ}:put Z h a a=h.get? a:=if_pos rfl
theorem jD{h:bh}{a b:aJ}(q:b≠a):put Z h a b=Z b:=if_neg q
theorem gc{h:bh}{a:aJ}(c:Z a=none):Le Z (put Z h a):=λb o e=>(jD λq=>bD (c.symm.trans (q▸e))).trans e
theorem vJ{h:bh}{a:aJ}(c:On Z h):On (put Z h a) h:=λb o e=>by
 by_cases q:b=a
 ·subst q;exact gS.symm.trans e
 ·exact c b o ((jD q).symm.trans e)
theorem fq.imp{b:Option aJ}{h d:bh}(e:fq w Z b Y h)(f:Le Z Z')(k:∀ a,b=some a->Z a=none->Z' a=none)(kp:∀ a c,b=some a->h.PlainList a c->d.PlainList a c):fq w Z' b Y d:=by
 cases b with
 |none=>exact e
 |some a=>exact ej e λx c y z=>(fu (k a rfl x) c (kp a _ rfl y) (bm.mono f _ z))
theorem fq.put{b:Option aJ}{h:bh}{a:aJ}(d:fq w Z b Y h)(h2:Z a=none)(h3:b≠some a):fq w (put Z h a) b Y h:=
 d.imp (gc h2) (λc e x=>(jD λq=>h3 (e.trans (congrArg some q))).trans x) λ_ _ _ y=>y
theorem Nx.put(N:Nx w F.nt Z s Z' ν' s'){a:aJ}(h1:s.heap.objs.size<=a)(h2:Z' a=none)(h3:F.nt≠some a):Nx w F.nt Z s (put Z' s'.heap a) ν' s' where
 le:=N.le.trans (gc h2)
 new:=λb c=>(jD (dW (ck c h1))).trans (N.new b c)
 on:=vJ N.on
 ext:=N.ext
 size:=N.size
 nts:=N.nts.put h2 h3
 gens:=N.gens
 os:=N.os
 tab:=N.tab
theorem RX.frz{x:X}{v:aI}{t:T}(r:RX w F J O s.heap.objs.size Z' s'.heap x v)(N:Nx w F.nt Z s Z' ν' s')(e:x.t?=some t):
  ∃ c,Nx w F.nt Z s c ν' s'/\Le Z' c/\(∀ b,b<s.heap.objs.size->c b=Z' b)/\Rd w c t v:=by
 cases x with
 |v i=>exact bw e▸(j0 Z' N (.refl _) (λ_ _=>rfl) r)
 |fr l=>exact bw e▸iy r λa d e h1 h2 h3 h4 h5=>eo h4.isList λo f hc h=>
   (j0 _ (N.put h1 h2 h3) (gc h2) (λb g=>jD (dW (ck g h1))) (fw a o d e (gS.trans f) ⟨hc,h⟩ (bm.mono (gc h2) _ h5)))
 |frd l=>exact bw e▸iy r λa d e h1 h2 h3 h4 h5=>aV (ph.mp h4) λo f hc=>
   (j0 _ (N.put h1 h2 h3) (gc h2) (λb g=>jD (dW (ck g h1))) (fw a o d e (gS.trans f) hc (bY.mono (gc h2) _ h5)))
 |_=>exact bD e
theorem Ev.frz{e:Expr}{x:X}{t:T}(h:Ev w A F J Z O s e x ν')(b:x.t?=some t):Ev w A F J Z O s e (.v t) ν':=λQ E c=>
 h _ _ λv Z' s' N r=>ng (r.frz N b) λa d _ _ f=>c v a s' d f
theorem Nx.push(N:Nx w F.nt Z s Z' ν' s')(o:bK):Nx w F.nt Z s Z' ν' {s' with heap:=s'.heap.push o} where
 le:=N.le
 new:=N.new
 on:=λb a e=>cA o (N.on b a e)
 ext:=λb a c e=>cA o (N.ext b a c e)
 size:=bf N.size (by show s'.heap.objs.size<=(s'.heap.push o).objs.size;rw[eQ];exact mE _)
 nts:=N.nts.imp (.refl _) (λ_ _ x=>x) λ_ _ _ y=>m9 y λa e=>cA o e
 gens:=N.gens
 os:=N.os
 tab:=λd h=>aV (N.tab d h) λmore f h4=>bn f λy h3=>eA y λa g h1 h2=>
  (aS more ⟨(iz a g (cA o h1) h2),cA o h3⟩ h4)
theorem Nx.fresh(N:Nx w F.nt Z s Z' ν' s'):Z' s'.heap.objs.size=none:=by
 cases h:Z' s'.heap.objs.size with
 |none=>rfl
 |some o=>exact absurd (cg (N.on _ _ h)) (cQ _)
theorem Nx.adP(N:Nx w F.nt Z s Z' ν' s'):F.nt≠some s'.heap.objs.size:=λe=>
 ej (show fq w Z' (some s'.heap.objs.size) ν' s'.heap from e▸N.nts) λ_ a y _=>cQ _ (jn y)
def qx(w:aY)(A:bx)(F:Fx)(J:Nat->aJ)(Z:Fz)(O:List S)(s:aL)(pos:br)(b:List Expr)(l:List T)(ν':List T):Prop:=
 ∀ (Q:List aI->aL->Prop) (E:aI->aL->Prop),(∀ a Z' s',Nx w F.nt Z s Z' ν' s'->bm w Z' l a->Q a s')->bc (model pw w) A (ug (ka pos (ju b F.env))) Q E s
noncomputable def dS(e:Expr):Bool:=!(e.ctorIdx.beq 22)
theorem eG{e:Expr}{rest:List Expr}{a:cz}(h:dS e=true):ju (e::rest) a=(false,eval e a)::ju rest a:=by
 cases e<;>first|rfl|cases h
theorem EO(H:St w F J Z O Y s){pos}:qx w A F J Z O s pos [] [] Y:=λQ E a=>n4 (a [] Z s H.nx rfl)
theorem Vy(H:St w F J Z O Y s){pos}{e:Expr}{b:List Expr}{t:T}{l G a:List T}(h1:Ev w A F J Z O s e (.v t) G)
  (h2:∀ Z' s',Nx w F.nt Z s Z' G s'->qx w A F J Z' O s' pos b l a) (f:dS e=true):qx w A F J Z O s pos (e::b) (t::l) a:=λQ E g=>
 lJ (h1 _ _ λv1 h i c j=>h2 h i c _ _ λm n o d k=>g _ _ _ (c.trans d) (cE _ _ rfl (Rd.mono d.le t j) k)) (eG f)
theorem bm.length{Z:Fz}:∀ {l:List T} {c:List aI},bm w Z l c->c.length=l.length:=by
 intro a;induction a with
 |nil=>
  intro _ h;exact congrArg j9 h
 |cons t r b=>
  intro _ h;exact bG h λv e d _ h2=>(congrArg j9 d).trans (congrArg (·+1) (b h2))
theorem bm.get{Z:Fz}:∀ {l:List T} {f:List aI},bm w Z l f->∀ {i:Nat} {t:T},l[i]?=some t->∃ v,f[i]?=some v/\Rd w Z t v:=by
 intro a;induction a with
 |nil=>
  intro _ h i t e;exact bD e
 |cons t r b=>
  intro _ h c;cases c with
  |zero=>
   intro g e;exact bG h λv j d h1 h2=>(aS v (d▸rfl) (bw e▸h1))
  |succ i=>
   intro g e;exact bG h λv j d h1 h2=>aV (b (i:=i) (t:=g) h2 e) λu h3 h4=>(aS u (d▸h3) h4)
theorem eD(H:St w F J Z O Y s){a:List Expr}{l:List T}{k pos}(h:qx w A F J Z O s pos a l ν')(c:l.length<=kG):Ev w A F J Z O s (.Tuple a k pos) (.v (.tup l)) ν':=λQ E d=>by
 refine wpAny_Tuple (h _ _ λb Z' s' N r=>⟨by rw[bm.length r];exact c,?_⟩);have e:=N.push {cls:=.type "tuple",data:=.seq b.toArray};have f:Z' s'.heap.objs.size=none:=N.fresh;exact d _ _ _ (e.put N.size f N.adP) (fw _ _ b rfl (gS.trans (dx _ rfl)) ⟨rfl,0,rfl⟩ (bm.mono (gc f) _ r))
theorem gp(H:St w F J Z O Y s){a:List Expr}{l:List T}{pos}(h:qx w A F J Z O s pos a l ν')(c:l.length<=kG):Ev w A F J Z O s (.List a pos) (.fr l) ν':=λQ E d=>by
 refine wpAny_List (h _ _ λb Z' s' N r=>⟨by rw[bm.length r];exact c,?_⟩);exact d _ _ _ (N.push {cls:=.type "list",data:=.seq b.toArray}) (jz _ b rfl N.size N.fresh N.adP ⟨0,dx _ rfl⟩ r)
theorem Zp(H:St w F J Z O Y s){pos}:Ev w A F J Z O s (.Dict [] [] pos) (.frd []) Y:=λQ E a=>by
 refine wpAny_Dict_empty (a _ _ _ (H.nx.push {cls:=.type "dict",data:=.dict #[]}) (jz _ [] rfl (cu _) H.nx.fresh H.nx.adP ?_ (by show _=_;rfl)));exact ph.mpr (mQ _ (dx _ rfl) (#[]) 0 ⟨rfl,rfl,rfl⟩ ⟨rfl,(λ_ b=>by simp at b),.nil,.nil⟩)
end
noncomputable def mY(e:Expr):Bool:=!(e.ctorIdx.beq 26)
theorem wc{e:Expr}(h:mY e=true)(o i:aI):subscripted e false o i=operate [o,i] (uh o i):=by
 cases e<;>first|rfl|cases h
noncomputable def tm(k:Int):Bool:=decide (-(2^63)<=k)&&decide (k<2^63)
noncomputable def lZ(l:List T)(k:Int):Option T:=if tm k then(ui k l.length).bind λj=>l[j]? else none
noncomputable def iP(l:List (Int×T))(k:Int):Option T:=(l.find? λp=>p.1=k).map (·.2)
noncomputable def X.item(x:X)(i:T):Option T:=i.int?.bind λk=>(x.adH.bind (lZ · k)).or ((x.adJ.bind (lZ · k)).or (x.adL.bind (iP · k)))
section
variable{w:aY}{A:bx}{F:Fx}{J:Nat->aJ}{Z Z':Fz}{O:List S}{Y ν':List T}{s s':aL}
theorem mZ{k:Int}{u:dz}:(ik w).is k (.int k u)=true:=decide_eq_true rfl
theorem abh{a k:Int}{t:T}{r:List (Int×T)}:iP ((a,t)::r) k=if a=k then some t else iP r k:=by
 by_cases q:a=k
 ·rw[if_pos q];exact congrArg (rp CC) (acK (p:=λp:Int×_=>decide (p.1=k)) (decide_eq_true q))
 ·rw[if_neg q];exact congrArg (rp CC) (acL (p:=λp:Int×_=>decide (p.1=k)) λh=>q (of_decide_eq_true h))
theorem Ik{a k:Int}{t:aI}{r:List (Int×aI)}:ya ((a,t)::r) k=if a=k then some t else ya r k:=by
 by_cases q:a=k
 ·rw[if_pos q];exact congrArg (rp CC) (acK (p:=λp:Int×_=>decide (p.1=k)) (decide_eq_true q))
 ·rw[if_neg q];exact congrArg (rp CC) (acL (p:=λp:Int×_=>decide (p.1=k)) λh=>q (of_decide_eq_true h))
theorem zW{Z:Fz}:∀ {l:List (Int×T)} {a:List (Int×aI)},bY w Z l a->∀ {k:Int} {t:T},iP l k=some t->∃ v,ya a k=some v/\Rd w Z t v:=by
 intro b;induction b with
 |nil=>
  intro _ h k t e;exact bD e
 |cons c r d=>
  obtain⟨f,i⟩:=c;intro _ h k t e;exact bG h λv j g h1 h2=>by
    subst g;rw[abh]at e;rw[Ik];by_cases q:f=k
    ·rw[if_pos q]at e ⊢;exact(aS v rfl (bw e▸h1))
    ·rw[if_neg q]at e ⊢;exact d h2 e
theorem Ta{x:X}{v:aI}{k:Int}{u:dz}{t:T}{n:Nat}{value slice:Expr}{Q:aI->aL->Prop}{E:aI->aL->Prop}(z:On Z s.heap)(r:RX w F J O n Z s.heap x v)
  (B:mY slice=true) (q:∀ v D,Rd w Z t v->Q v {s with toks:=D}):((x.adH.bind (lZ · k)).or ((x.adJ.bind (lZ · k)).or (x.adL.bind (iP · k))))=some t->bc (model pw w) A (subscriptTail value slice v (.int k u)) Q E s:=by
 have sm:tm k=true->-(2^63)<=k/\k<2^63:=λh=>bn (ee h) λa b=>⟨of_decide_eq_true a,of_decide_eq_true b⟩;refine we (aX λl h1=>ca λhk=>aX λj g C=>?_) (we (aX λl h2=>ca λhk=>aX λj g C=>?_) (aX λl h3 e=>?_))
 ·refine bG (r.lst z h1) λa G p d i=>?_;subst p;refine aV (bm.get i C) λy m c=>CD d.typeIs slot_list_getitem.lookup ?_ (wc B _ _);have f:=bm.length i;revert g;unfold ui;by_cases h0:k<0
  ·rw[if_pos h0];refine ca λH g=>?_;obtain rfl:=bw g;refine wpAny_getItem_list_neg d h0 (by rw[eY];exact Tz f (bn (ee H) λa b=>⟨of_decide_eq_true a,of_decide_eq_true b⟩)) (sm hk).1 ?_ (q y s.toks c);rw[eY,f,im];exact m
  ·rw[if_neg h0];refine ca λ_ g=>?_;obtain rfl:=bw g;exact wpAny_getItem_list d (Jg.mp h0) (sm hk).2 (im.trans m) (q y s.toks c)
 ·refine bG (r.tup z h2) λa G p d i=>?_;subst p;refine aV (bm.get i C) λy m c=>CD (eo d λo I hc _=>(aS o I hc)) CE.lookup ?_ (wc B _ _);exact PyProof.Rows.getItem_tuple d (sm hk).1 (sm hk).2 (by rw[eY,bm.length i];exact g) (im.trans m) (q y s.toks c)
 ·refine bG (r.dct z h3) λa K p d i=>?_;subst p;refine aV (zW i e) λy m c=>CD d.mapOf.typeIs slot_dict_getitem.lookup ?_ (wc B _ _);exact wpAny_getItem_of (knd:=ik w) (k:=k) mZ d.mapOf m (q y _ c)
theorem bM(H:St w F J Z O Y s){a b:Expr}{pos}{x:X}{k t:T}{G c:List T}(h1:Ev w A F J Z O s a x G)
  (h2:∀ Z' s',Nx w F.nt Z s Z' G s'->Ev w A F J Z' O s' b (.v k) c) (h:x.item k=some t) (i:mY b=true):Ev w A F J Z O s (.Subscript a b pos) (.v t) c:=λQ E j=>by
 refine Subscript_ (h1 _ _ λv1 l m d n=>h2 l m d _ _ λz B C e o=>?_);have f:=H.next d;have g:=f.next e;revert h;refine aX λk p=>?_;refine aU (gG p o) λu q=>?_;subst q;exact Ta g.on (RX.next H.sz f n e) i λv r y=>j _ _ _ ((d.trans e).trans (g.tok r)) y
def Et(w:aY)(A:bx)(F:Fx)(J:Nat->aJ)(Z:Fz)(O:List S)(s:aL)(e:Expr)(b:Bool)(ν':List T):Prop:=
 ∀ (Q:Bool->aL->Prop) (E:aI->aL->Prop),(∀ Z' s',Nx w F.nt Z s Z' ν' s'->Q b s')->bc (model pw w) A (isTrue e F.env (eval e F.env)) Q E s
noncomputable def IW(e:Expr):Bool:=!([0,3,5,15].elem e.ctorIdx)
theorem truthy_T{t:T}{b:Bool}{v:aI}{Q:Bool->aL->Prop}{E:aI->aL->Prop}(h:oh t=some b)(r:Rd w Z t v)(a:Q b s):bc (model pw w) A (truthy v) Q E s:=by
 cases t with
 |bool c=>
  obtain rfl:v=_:=r;obtain rfl:=bw h;exact uk a
 |int i=>
  refine aU r λk d=>?_;obtain rfl:=bw h;exact d▸PyProof.Rows.truthy_int ((show(i != 0)=decide (i≠0)by by_cases q:i=0<;>simp[q])▸a)
 |_=>exact nomatch h
theorem Sx{e:Expr}{t:T}{b:Bool}(h:Ev w A F J Z O s e (.v t) ν')(c:oh t=some b)(a:IW e=true):Et w A F J Z O s e b ν':=λQ E d=>by
 refine wpAny_isTrue_value (h _ _ λv Z' s' N r=>truthy_T c r (d _ _ N)) ?_;cases e<;>first|rfl|cases a|(rename_i op _ _;cases op<;>first|rfl|cases a)
theorem M7(H:St w F J Z O Y s){a b:Expr}{op:gq}{pos}{e f:T}{c:Bool}{G d:List T}(h1:Ev w A F J Z O s a (.v e) G)
  (h2:∀ Z' s',Nx w F.nt Z s Z' G s'->Ev w A F J Z' O s' b (.v f) d) (i:d9 op e f=some c) (j:rE op b=false):Et w A F J Z O s (.Compare a [op] [b] pos) c d:=λQ E k=>by
 refine CF (h1 _ _ λv1 l m g n=>h2 l m g _ _ λp q r h o=>?_) j;exact DA i (Rd.mono h.le e n) o (uk (k _ _ (g.trans h)))
theorem Pe{e:Expr}{pos}{b:Bool}(h:Et w A F J Z O s e b ν'):Et w A F J Z O s (.UnaryOp .Not e pos) (!b) ν':=λQ E a=>
 wpAny_isTrue_Not (h _ _ λZ' s' N=>a _ _ N)
theorem Z8(H:St w F J Z O Y s){c a b:Expr}{pos}{x:X}{t:Bool}{G d:List T}(h1:Et w A F J Z O s c t G)
  (h2:∀ Z' s',Nx w F.nt Z s Z' G s'->Ev w A F J Z' O s' (if t then a else b) x d):Ev w A F J Z O s (.IfExp c a b pos) x d:=λQ E i=>by
 refine wpAny_IfExp (h1 _ _ λj k g=>?_);have go:=h2 j k g Q E λv m n o f=>i v m n (g.trans o) ?_
 ·cases t<;>exact go
 ·cases x with
  |fr l=>refine bG f λa h e p1 p2=>?_;clear f;exact(cE a h e (bf g.size p1) p2)
  |frd l=>refine bG f λa h e p1 p2=>?_;clear f;exact(cE a h e (bf g.size p1) p2)
  |_=>exact f
end
noncomputable def GF(o:bK):Array cW:=match o.data with
 |.dict a _=>a
 |_=>#[]
noncomputable def gE(P:bX):Array cW:=GF (vP P)
noncomputable def bE(P:bX):Array cW:=GF (AG P)
noncomputable def Dr:List (String×aI):=[("TupleComp",.ref 38),("add_func_stats",.ref 49),("add_callers",.ref 56),("count_calls",.ref 63),("rgb_to_yiq",.ref 70),("yiq_to_rgb",.ref 77),("b1_set",.ref 85),
 ("in_table_b1",.ref 95),("b3_exceptions",.ref 96),("map_table_b3",.ref 141),("_law_typed",.ref 148),("_law_whole",.ref 155),("_law_rank",.ref 160),("_law_row",.ref 165)]
noncomputable def As:List (String×aI):=[("enumerate",.type "enumerate"),("range",.type "range"),("zip",.type "zip"),("len",.builtin "len"),("sum",.builtin "sum"),("list",.type "list"),("isinstance",.builtin "isinstance"),
 ("bool",.type "bool"),("str",.type "str"),("min",.builtin "min"),("tuple",.type "tuple"),("dict",.type "dict"),("max",.builtin "max"),("chr",.builtin "chr"),("ord",.builtin "ord"),("abs",.builtin "abs")]
theorem Nb(P:bX):(Dr.all λp=>rG (gE P) (aK p.1)==some p.2)=true:=by kernel_rfl
theorem YM(P:bX):(As.all λp=>rG (gE P) (aK p.1)==none)=true:=by kernel_rfl
theorem S9(P:bX):(As.all λp=>rG (bE P) (aK p.1)==some p.2)=true:=by kernel_rfl
noncomputable def MG:aI->Bool
 |.str ..=>true
 |_=>false
theorem EI{a:Array cW}(h:(a.toList.all λe=>MG e.key)=true):StrKeys a:=λe b=>by
 have:=c8.mp h e (Jx.mpr b);revert this;cases q:e.key<;>intro h<;>first|exact(dE _ _ rfl)|cases h
theorem WK(P:bX):StrKeys (gE P):=EI (by kernel_rfl)
theorem X7(P:bX):StrKeys (bE P):=EI (by kernel_rfl)
theorem HK(P:bX):(HF P).get? 3=some (vP P):=by kernel_rfl
theorem PP(P:bX):(HF P).get? 0=some (AG P):=by kernel_rfl
theorem KD(P:bX):(HF P).get? 2=some (Ix P):=by kernel_rfl
section
variable{w:aY}{A:bx}{F:Fx}{J:Nat->aJ}{Z Z':Fz}{O:List S}{Y ν':List T}{s s':aL}{h:bh}
theorem i6(M:Md w Z)(b:On Z h){a:aJ}{o:bK}(e:(HF w.params).get? a=some o)(n:a≠eB):h.get? a=some o:=b _ _ (M.1 _ _ e n)
theorem AE(M:Md w Z)(a:On Z h):h.Ns nY (rG (gE w.params)):=(fw _ (gE w.params) _ (i6 M a (HK _) (by decide)) rfl (WK _) (λ_=>rfl))
theorem XC(M:Md w Z)(a:On Z h):h.Ns n0 (rG (bE w.params)):=(fw _ (bE w.params) _ (i6 M a (PP _) (by decide)) rfl (X7 _) (λ_=>rfl))
theorem rY(M:Md w Z)(a:On Z h):h.NoLimit:=(aS (λ_=>none) (fw _ (#[]) 0 (i6 M a (KD _) (by decide)) rfl (λ_ b=>by simp at b) (λ_=>rfl)) rfl)
noncomputable def AL(x:String):Option aI:=Dr.lookup x
noncomputable def qM(x:String):Option aI:=As.lookup x
theorem AY{J a:Type _}[BEq J]{x y:J}{b v:a}{l:List (J×a)}{P:Prop}(h1:(x==y)=true->b=v->P)(h2:l.lookup x=some v->P)(e:((y,b)::l).lookup x=some v):P:=by
 rw[pj]at e;cases q:x==y with
 |true=>rw[q]at e;exact h1 q (bw e)
 |false=>rw[q]at e;exact h2 e
theorem BO{a:Type}[BEq a]:∀ {l:List (String×a)} {x:String} {v:a},l.lookup x=some v->(x,v)∈l:=by
 intro c;induction c with
 |nil=>
  intro _ _;exact bD
 |cons d l f=>
  obtain⟨y,b⟩:=d;intro x v;exact AY (λq e=>e▸dN q▸.head _) λe=>.tail _ (f e)
theorem uY(H:St w F J Z O Y s){x:String}{v:aI}{pos}{Q:aI->aL->Prop}{E:aI->aL->Prop}(a:F.env.kindOf (aK x)=some .globalImplicit)(b:AL x=some v)(c:Q v s)
  (hd:(aK x==("__debug__":Str))=false):bc (model pw w) A (eval (.Name (aK x) pos) F.env) Q E s:=by
 refine acM H.ok.kf a ?_ hd;have:=c8.mp (Nb w.params) _ (BO b);exact loadGlobal_global (by rw[H.ok.eg];exact AE H.md H.on) (dN this) c
theorem h9(H:St w F J Z O Y s){x:String}{v:aI}{pos}{Q:aI->aL->Prop}{E:aI->aL->Prop}(b:F.env.kindOf (aK x)=some .globalImplicit)(a:qM x=some v)(c:Q v s)
  (hd:(aK x==("__debug__":Str))=false):bc (model pw w) A (eval (.Name (aK x) pos) F.env) Q E s:=by
 refine acM H.ok.kf b ?_ hd;have h1:=c8.mp (YM w.params) _ (BO a);have h2:=c8.mp (S9 w.params) _ (BO a);exact loadGlobal_builtin (by rw[H.ok.eg];exact AE H.md H.on) (dN h1) (by rw[H.ok.eb];exact XC H.md H.on) (dN h2) c
theorem RX.le{n c:Nat}{x:X}{v:aI}(r:RX w F J O n Z h x v)(d:c<=n):RX w F J O c Z h x v:=by
 cases x with
 |fr l=>refine bG r λa b e p1 p2=>?_;clear r;exact(cE a b e (bf d p1) p2)
 |frd l=>refine bG r λa b e p1 p2=>?_;clear r;exact(cE a b e (bf d p1) p2)
 |_=>exact r
noncomputable def cR(w:aY)(F:Fx)(J:Nat->aJ)(O:List S)(n:Nat)(Z:Fz)(h:bh):List X->List aI->Prop
 |[],a=>a=[]
 |x::c,a=>∃ v b,a=v::b/\RX w F J O n Z h x v/\cR w F J O n Z h c b
theorem cR.le{n d:Nat}(i:d<=n):∀ {f:List X} {g:List aI},cR w F J O n Z h f g->cR w F J O d Z h f g:=by
 intro a;induction a with
 |nil=>
  intro _ r;exact r
 |cons _ _ b=>
  intro _ c;exact bG c λv j e k l=>(cE v j e (k.le i) (b l))
theorem cR.next{n:Nat}(g:171<=n)(H:St w F J Z O Y s)(N:Nx w F.nt Z s Z' ν' s'):∀ {d:List X} {f:List aI},cR w F J O n Z s.heap d f->cR w F J O n Z' s'.heap d f:=by
 intro a;induction a with
 |nil=>
  intro _ r;exact r
 |cons _ _ b=>
  intro _ c;exact bG c λv i e j k=>(cE v i e (RX.next g H j N) (b k))
def gn(w:aY)(A:bx)(F:Fx)(J:Nat->aJ)(Z:Fz)(O:List S)(s:aL)(pos:br)(b:List Expr)(c:List X)(ν':List T):Prop:=
 ∀ (Q:List aI->aL->Prop) (E:aI->aL->Prop),(∀ a Z' s',Nx w F.nt Z s Z' ν' s'->cR w F J O s.heap.objs.size Z' s'.heap c a->Q a s')->bc (model pw w) A (ug (ka pos (ju b F.env))) Q E s
theorem AO(H:St w F J Z O Y s){pos}:gn w A F J Z O s pos [] [] Y:=λQ E a=>n4 (a [] Z s H.nx rfl)
theorem BC(H:St w F J Z O Y s){pos}{e:Expr}{c:List Expr}{x:X}{d:List X}{G a:List T}(h1:Ev w A F J Z O s e x G)
  (h2:∀ Z' s',Nx w F.nt Z s Z' G s'->gn w A F J Z' O s' pos c d a) (g:dS e=true):gn w A F J Z O s pos (e::c) (x::d) a:=λQ E i=>
 lJ (h1 _ _ λv1 j k b l=>h2 j k b _ _ λn o p f m=>i _ _ _ (b.trans f) (cE _ _ rfl (RX.next H.sz (H.next b) l f) (m.le b.size))) (eG g)
theorem jg{env:cz}{pos:br}:∀ {a:List Expr},a.all dS=true->(ka pos (ju a env)).any (·.1)=false:=by
 intro b;induction b with
 |nil=>
  intro _;exact rfl
 |cons e a c=>
  intro h;rw[gX,fg]at h;rw[eG h.1];show(false||(ka pos (ju a env)).any (·.1))=false;rw[c h.2];rfl
def mC(w:aY)(A:bx)(F:Fx)(J:Nat->aJ)(Z:Fz)(O:List S)(s:aL)(f:aI)(a:List aI)(x:X)(ν':List T):Prop:=
 ∀ (Q:aI->aL->Prop) (E:aI->aL->Prop),(∀ v Z' s',Nx w F.nt Z s Z' ν' s'->RX w F J O s.heap.objs.size Z' s'.heap x v->Q v s')->bc (model pw w) A (call f a) Q E s
theorem gM{func:Expr}{args:List Expr}{pos:br}{a:cz}{Q:aI->aL->Prop}{E:aI->aL->Prop}(c:(!(func.ctorIdx.beq 20))=true)
  (h:bc (model pw w) A (eval func a) (λf b=>bc (model pw w) A (callWith pos f [] (ka pos (ju args a)) []) Q E b) E s):bc (model pw w) A (eval (.Call func args [] pos) a) Q E s:=by
 refine Call_ h ?_;cases func<;>first|rfl|cases c
theorem OV(H:St w F J Z O Y s){x:String}{id:String}{p pos:br}{e:Expr}{d:List Expr}{g:List X}{r:X}{G a:List T}(i:F.env.kindOf (aK x)=some .globalImplicit)(j:qM x=some (.builtin id))
  (hd:(aK x==("__debug__":Str))=false) (k:gn w A F J Z O s pos (e::d) g G) (f:(e::d).all dS=true)
  (hc:∀ b Z' s',St w F J Z' O G s'->s.heap.objs.size<=s'.heap.objs.size->cR w F J O s.heap.objs.size Z' s'.heap g b->mC w A F J Z' O s' (.builtin id) b r a) :
  Ev w A F J Z O s (.Call (.Name (aK x) p) (e::d) [] pos) r a:=λQ E l=>by
 refine gM rfl (h9 H i j ?_ hd);rw[gX,fg]at f;refine Jy (k _ _ λb m n c o=>hc b m n (H.next c) c.size o _ _ λv q t u y=>l v q t (c.trans u) (y.le c.size)) (eG f.1) (jg f.2)
theorem abE(H:St w F J Z O Y s){x:String}{id:String}{p pos:br}{e:Expr}{d:List Expr}{g:List X}{r:X}{G a:List T}(i:F.env.kindOf (aK x)=some .globalImplicit)(j:qM x=some (.type id))
  (hd:(aK x==("__debug__":Str))=false) (k:gn w A F J Z O s pos (e::d) g G) (f:(e::d).all dS=true)
  (hc:∀ b Z' s',St w F J Z' O G s'->s.heap.objs.size<=s'.heap.objs.size->cR w F J O s.heap.objs.size Z' s'.heap g b->mC w A F J Z' O s' (.type id) b r a) :
  Ev w A F J Z O s (.Call (.Name (aK x) p) (e::d) [] pos) r a:=λQ E l=>by
 refine gM rfl (h9 H i j ?_ hd);rw[gX,fg]at f;refine kb (k _ _ λb m n c o=>hc b m n (H.next c) c.size o _ _ λv q t u y=>l v q t (c.trans u) (y.le c.size)) (eG f.1) (jg f.2)
theorem VZ(H:St w F J Z O Y s){x:String}{f:aJ}{o:bK}{fd:um}{p pos:br}{e:Expr}{g:List Expr}{j:List X}{r:X}{G b:List T}(l:F.env.kindOf (aK x)=some .globalImplicit)(m:AL x=some (.ref f))
  (hd:(aK x==("__debug__":Str))=false) (n:(HF w.params).get? f=some o) (c:o.data=.func fd) (i:f≠eB)
  (q:gn w A F J Z O s pos (e::g) j G) (k:(e::g).all dS=true)
  (hc:∀ d Z' s',St w F J Z' O G s'->s.heap.objs.size<=s'.heap.objs.size->cR w F J O s.heap.objs.size Z' s'.heap j d->mC w A F J Z' O s' (.ref f) d r b) :
  Ev w A F J Z O s (.Call (.Name (aK x) p) (e::g) [] pos) r b:=λQ E t=>by
 refine gM rfl (uY H l m ?_ hd);rw[gX,fg]at k;refine PyProof.Rows.callWith_def c (q _ _ λd u y a z=>⟨i6 (H.next a).md (H.next a).on n i,hc d u y (H.next a) a.size z _ _ λv B C D I=>t v B C (a.trans D) (I.le a.size)⟩) (eG k.1)
end
theorem Gp(h:bh)(a:aJ)(f:bK->bK):(h.update a f).objs.size=h.objs.size:=(uo ..).1
theorem Iq{M:kJ}{b:Ctx}{p:br}{t:bA Fin}{c:List rt}{s a:aL}{e:End}(h:Runs M b p t c s e a):s.heap.objs.size<=a.heap.objs.size:=by
 induction h<;>(try simp only[acN,Gp,eQ]at*)<;>lia
theorem abP{M:kJ}{b:Ctx}{p:br}{s a:aL}{r:o8}(h:Returns M b p s r a):s.heap.objs.size<=a.heap.objs.size:=Iq h
theorem Fg{M:kJ}{l:Ctx}{p:br}{g:Nat}{r:Resume}{s i:aL}{res:GenResult}{P:Prop}
  (a:∀ {j m t n e f},Runs M j m t n (s.setGen g .running) e f->i=f.setGen g e.genState->P) (b:i=s->P) (c:i=s.setGen g .finished->P):Wakes M l p g r s res i->P:=by
 unfold Wakes;cases s.gens[g]? with
 |none=>exact False.elim
 |some st=>
  cases st with
  |fresh d=>
   cases r with
   |send v=>
    cases v with
    |none=>exact λh=>l8 h λ_ _ k _ _ y=>a k y
    |_=>exact λh=>b h.2
   |throw x=>exact λh=>c h.2
  |suspended=>exact λh=>l8 h λ_ _ k _ _ y=>a k y
  |running=>exact λh=>b h.2
  |finished=>exact λh=>b h.2
theorem QM{M:kJ}{c:Ctx}{p:br}{g:Nat}{r:Resume}{s b:aL}{res:GenResult}:Wakes M c p g r s res b->s.heap.objs.size<=b.heap.objs.size:=
 Fg (λ{_ _ _ _ _ a} d y=>y▸(Iq d:(s.setGen g .running).heap.objs.size<=a.heap.objs.size)) (λy=>y▸cu _) (λy=>y▸cu _)
open Sem in
theorem ac2{J:Type}(M:kJ)(l:Ctx)(n:Nat)(t:bA J):∀ (Q:J->br->aL->Prop) (E:aI->br->aL->Prop) (p:br) (s:aL),n<=s.heap.objs.size->wp M l t Q E p s->
  wp M l t (λa j i=>n<=i.heap.objs.size/\Q a j i) (λe j i=>n<=i.heap.objs.size/\E e j i) p s:=by
 induction t with
 |pure a=>intro Q E p s b h;exact⟨b,h⟩
 |raise e=>intro Q E p s b h;exact⟨b,h⟩
 |unsupported _=>intro Q E p s _ h;exact h
 |finish _=>intro Q E p s _ h;exact h
 |rule _ k d=>intro Q E p s b h;exact d () Q E p s b h
 |«at» j k d=>intro Q E p s b h;exact d () Q E j s b h
 |load a _ k d=>intro Q E p s b h;refine aV h λo v h=>?_;exact(aS o v (d o Q E p s b h))
 |update a _ f k d=>intro Q E p s b h;exact⟨h.1,d () Q E p _ (by show n<=(s.heap.update a f).objs.size;rw[Gp];exact b) h.2⟩
 |loadIfAlive a k d=>intro Q E p s b h;exact d _ Q E p s b h
 |point _ k d=>intro Q E p s b h;exact d () Q E p s b h
 |register _ _=>intro Q E p s _ h;exact h
 |alloc o k d=>intro Q E p s b h;exact d _ Q E p _ (by show n<=(s.heap.push o).objs.size;rw[eQ];exact uq b) h
 |fresh k d=>intro Q E p s b h;exact d _ Q E p _ b h
 |ask k d=>intro Q E p s b h;exact d _ Q E p s b h
 |choose w m k d=>intro Q E p s b h;exact⟨h.1,d _ Q E p _ b h.2⟩
 |os q _ k d=>intro Q E p s b h;exact d _ Q E p _ b h
 |call c hd _ _ k d=>intro Q E p s b h;refine eA h λr i u h=>?_;exact(iz r i u (d r Q E p i (bf b (abP u)) h))
 |handled own k d=>intro Q E p s b h;exact d _ Q E p s b h
 |genState g k d=>intro Q E p s b h;refine aV h λst hs h=>?_;exact(aS st hs (d _ Q E p s b h))
 |newGen c k d=>intro Q E p s b h;exact d _ Q E p _ b h
 |resume g r _ k d=>intro Q E p s b h;refine eA h λres i hw h=>?_;exact(iz res i hw (d res Q E p i (bf b (QM hw)) h))
 |yield _ _ _ _=>intro Q E p s _ h;exact h
 |stack k d=>intro Q E p s b h;exact d _ Q E p s b h
 |fork _ _=>intro Q E p s _ h;exact h
 |thread k d=>intro Q E p s b h;exact d _ Q E p s b h
 |await _ _ _ _ _=>intro Q E p s _ h;exact h
section
variable{J:Type}{M:kJ}{A:bx}{s:aL}
theorem QW{t:bA J}{Q:J->aL->Prop}{E:aI->aL->Prop}(h:bc M A t Q E s):
  bc M A t (λa b=>s.heap.objs.size<=b.heap.objs.size/\Q a b) (λe b=>s.heap.objs.size<=b.heap.objs.size/\E e b) s:=
 λd p c=>ac2 M d _ t _ _ p s (cu _) (h d p c)
theorem e9{t:bA J}{Q:J->aL->Prop}{E:aI->aL->Prop}
  (h:bc M A t (λa b=>s.heap.objs.size<=b.heap.objs.size->Q a b) (λe b=>s.heap.objs.size<=b.heap.objs.size->E e b) s):bc M A t Q E s:=
 iM (QW h) (λ_ _ x=>x.2 x.1) (λ_ _ x=>x.2 x.1)
end
structure cZ (w:aY) (nt:Option aJ) (W:List aJ) (Z:Fz) (s:aL) (Z':Fz) (ν':List T) (s':aL):Prop where
 le:Le Z Z'
 new:∀ b,b<s.heap.objs.size->Z' b=Z b
 on:On Z' s'.heap
 ext:∀ b o,¬Mu nt b->b∉W->s.heap.get? b=some o->s'.heap.get? b=some o
 size:s.heap.objs.size<=s'.heap.objs.size
 nts:fq w Z' nt ν' s'.heap
 gens:mI s.gens->mI s'.gens
 os:s'.os=s.os
 tab:∀ ps,jy s.heap ps->∃ more,jy s'.heap (ps++more)
section
variable{w:aY}{A:bx}{nt:Option aJ}{Z Z' Z'':Fz}{s s' s'':aL}{Y ν' ν'':List T}{W W':List aJ}
theorem Nx.toW(N:Nx w nt Z s Z' ν' s')(W:List aJ):cZ w nt W Z s Z' ν' s':={N with ext:=λb o h _ e=>N.ext b o h e}
theorem cZ.mono(N:cZ w nt W Z s Z' ν' s')(h:∀ b∈W,b∈W'):cZ w nt W' Z s Z' ν' s':={N with ext:=λb o h1 h2 e=>N.ext b o h1 (λq=>h2 (h b q)) e}
theorem cZ.trans(a:cZ w nt W Z s Z' ν' s')(b:cZ w nt W Z' s' Z'' ν'' s''):cZ w nt W Z s Z'' ν'' s'' where
 le:=a.le.trans b.le
 new:=λx h=>(b.new x (ck h a.size)).trans (a.new x h)
 on:=b.on
 ext:=λx o h h2 e=>b.ext x o h h2 (a.ext x o h h2 e)
 size:=bf a.size b.size
 nts:=b.nts
 gens:=λh=>b.gens (a.gens h)
 os:=b.os.trans a.os
 tab:=λc h=>by
  exact aQ λd=>aU (a.tab c h) λf h1=>aU (b.tab _ h1) λg h2=>d ⟨f++g,by refine xY▸?_;exact h2⟩
theorem cZ.nx(N:cZ w nt W Z s Z' ν' s')(h:∀ b∈W,s.heap.objs.size<=b):Nx w nt Z s Z' ν' s':=
 {N with ext:=λb o h1 e=>N.ext b o h1 (λq=>absurd (cg e) (lG.mpr (h b q))) e}
def fb(nt:Option aJ)(Z:Fz)(W:List aJ):Prop:=∀ b∈W,Z b=none/\171<=b/\nt≠some b
theorem eH(c:fq w Z nt Y s.heap)(d:On Z s.heap)(hw:fb nt Z W){h':bh}{tk:dz}(keep:∀ b o,b∉W->s.heap.get? b=some o->h'.get? b=some o)(hs:s.heap.objs.size<=h'.objs.size):
  cZ w nt W Z s Z Y {s with heap:=h',toks:=tk} where
 le:=.refl _
 new:=λ_ _=>rfl
 on:=λb o e=>keep b o (λq=>by replace e:=(hw b q).1▸e;cases e) (d b o e)
 ext:=λb o _ h2 e=>keep b o h2 e
 size:=hs
 nts:=c.imp (.refl _) (λ_ _ x=>x) λ_ _ e y=>m9 y λf g=>keep _ f (λq=>(hw _ q).2.2 e) g
 gens:=id
 os:=rfl
 tab:=λl h=>bn h λi h4=>bn i λy h3=>eA y λo j h1 h2=>
  have a:∀ b,b<171->b∉W:=λb k q=>absurd k (lG.mpr (hw b q).2.1)
  ⟨#[],acO▸⟨⟨(iz o j (keep _ _ (a _ (by decide)) h1) h2),keep _ _ (a _ (by decide)) h3⟩,h4⟩⟩
theorem cZ.put(N:cZ w nt W Z s Z' ν' s'){a:aJ}(h1:s.heap.objs.size<=a)(h2:Z' a=none)(h3:nt≠some a):cZ w nt W Z s (Mine.Internal.put Z' s'.heap a) ν' s' where
 le:=N.le.trans (gc h2)
 new:=λb c=>(jD (dW (ck c h1))).trans (N.new b c)
 on:=vJ N.on
 ext:=N.ext
 size:=N.size
 nts:=N.nts.put h2 h3
 gens:=N.gens
 os:=N.os
 tab:=N.tab
noncomputable def ja(e:Expr):Bool:=e.ctorIdx.beq 25
structure It (w:aY) (A:bx) (nt:Option aJ) (tg:Bool) (I0:aJ) (fp W:List aJ) (items:List T) (P:Nat->Fz->bh->Prop) (Mid:Nat->aI->Fz->bh->Prop):Prop where
 sub:∀ b∈W,b∈fp
 ok:∀ i Z h,P i Z h->fb nt Z W
 lt:∀ i Z h,P i Z h->∀ b∈fp,b<h.objs.size
 frame:∀ i Z Z' h h',P i Z h->Le Z Z'->fb nt Z' W->(∀ b∈fp,∀ o,h.get? b=some o->h'.get? b=some o)->P i Z' h'
 item:∀ i t Z (s:aL) Y (Q:Option aI->aL->Prop) (E:aI->aL->Prop),items[i]?=some t->P i Z s.heap->On Z s.heap->fq w Z nt Y s.heap->
  (∀ v Z' s',cZ w nt W Z s Z' Y s'->Rd w Z' t v->Mid i v Z' s'.heap->Q (some v) s')->bc (model pw w) A (mJ (.ref I0)) Q E s
 go:∀ tgt i v Z (s:aL) Y (Q:Unit->aL->Prop) (E:aI->aL->Prop),(tg=true->ja tgt=true)->Mid i v Z s.heap->On Z s.heap->fq w Z nt Y s.heap->
  (∀ s',cZ w nt W Z s Z Y s'->P (i+1) Z s'.heap->Q () s')->bc (model pw w) A (yb tgt (.ref I0) v) Q E s
 done:∀ i Z (s:aL) Y (Q:Option aI->aL->Prop) (E:aI->aL->Prop),items[i]?=none->P i Z s.heap->On Z s.heap->fq w Z nt Y s.heap->
  (∀ s',cZ w nt W Z s Z Y s'->Q none s')->bc (model pw w) A (mJ (.ref I0)) Q E s
 self:∀ i Z (s:aL) (Q:aI->aL->Prop) (E:aI->aL->Prop),P i Z s.heap->Q (.ref I0) s->bc (model pw w) A (jP (.ref I0)) Q E s
noncomputable def zp:List String:=["enumerate","zip","dict_itemiterator","dict_reverseitemiterator","odict_iterator","itertools.zip_longest","itertools.pairwise"]
theorem H7{a:Expr}{c:aJ}{v:aI}{o:bK}{n:String}{Q:Unit->aL->Prop}{E:aI->aL->Prop}(e:s.heap.get? c=some o)(hc:o.cls=.type n)(f:zp.contains n=false)(b:Q () s):
  bc (model pw w) A (yb a (.ref c) v) Q E s:=by
 have key:∀ T,bc (model pw w) A (do
   let o <- load c;match o.cls,o.data with
   |.type n,.fields d=>
    if ["enumerate","zip","dict_itemiterator","dict_reverseitemiterator","odict_iterator","itertools.zip_longest","itertools.pairwise"].contains n&&d[0]?==some (gY T)then
     rule "for.unpacks-the-owned-tuple"
     updateField c 0 .none
   |_,_=>pure ()) Q E s:=λT=>by
  refine ba (wpAny_load e (hc▸?_));cases o.data with
  |fields d=>
   show bc _ A (if (zp.contains n&&d[0]?==some (gY T))=true then _ else _) Q E s;rw[f,Cq];exact cm b
  |_=>exact cm b
 cases a with
 |Tuple=>cases v<;>first|exact key _|exact cm b
 |List=>cases v<;>first|exact key _|exact cm b
 |_=>exact cm b
theorem in1{b a:aJ}(h:b∈[a]):b=a:=jd.mp h
theorem Rb{b a l:aJ}(h:b∈[a,l]){P:aJ->Prop}(p:P a)(q:P l):P b:=(bP.mp h).elim (λe=>e▸p) λe=>in1 e▸q
theorem Bg{a:aJ}{h c:bh}(hs:ur a h c):∀ b o,b∉[a]->h.get? b=some o->c.get? b=some o:=λb o d e=>hs b o (λq=>d (q▸.head _)) e
theorem It.mk2(c l:aJ)(m:l≠c)(items:List T)(a:bh->Nat->Prop)(IsL:bh->Prop)(R:Fz->Prop)
  (B:∀ {h i},a h i->∃ o n,h.get? c=some o/\o.cls=.type n/\zp.contains n=false) (D:∀ {h},IsL h->l<h.objs.size)
  (F:∀ {h d i},a h i->(∀ o,h.get? c=some o->d.get? c=some o)->a d i) (C:∀ {h d},IsL h->(∀ o,h.get? l=some o->d.get? l=some o)->IsL d) (G:∀ {Z Z'},Le Z Z'->R Z->R Z')
  (H:∀ {i t Z} {s:aL} {Q:Option aI->aL->Prop} {E:aI->aL->Prop},items[i]?=some t->a s.heap i->IsL s.heap->R Z->
   (∀ v d,gZ c s.heap d->a d (i+1)->Rd w Z t v->Q (some v) {s with heap:=d})->bc (model pw w) A (mJ (.ref c)) Q E s)
  (I:∀ {i Z} {s:aL} {Q:Option aI->aL->Prop} {E:aI->aL->Prop},items[i]?=none->a s.heap i->IsL s.heap->R Z->
   (∀ d,ur c s.heap d->s.heap.objs.size<=d.objs.size->Q none {s with heap:=d})->bc (model pw w) A (mJ (.ref c)) Q E s)
  (J:∀ {i} {s:aL} {Q:aI->aL->Prop} {E:aI->aL->Prop},a s.heap i->Q (.ref c) s->bc (model pw w) A (jP (.ref c)) Q E s) :
  It w A nt false c [c,l] [c] items (λi Z h=>a h i/\IsL h/\R Z/\fb nt Z [c]) (λi _ Z h=>a h (i+1)/\IsL h/\R Z/\fb nt Z [c]) where
 sub:=λb q=>in1 q▸.head _
 ok:=λi Z h p=>p.2.2.2
 lt:=λi Z h p b q=>Rb q (P:=(·<h.objs.size)) (bG (B p.1) λo n r _ _=>cg r) (D p.2.1)
 frame:=λi Z Z' h d p f hw k=>⟨F p.1 (k c (.head _)),C p.2.1 (k l (.tail _ (.head _))),G f p.2.2.1,hw⟩
 item:=λi t Z s Y Q E u p f j g=>H u p.1 p.2.1 p.2.2.1 λv d hs hi K=>
  g v Z _ (eH j f p.2.2.2 (Bg hs.extBut) (gV hs.1.symm)) K ⟨hi,C p.2.1 λo=>hs.extBut l o m,p.2.2⟩
 go:=λL i v Z s Y Q E _ p f j g=>bG (B p.1) λo n r hc x=>H7 r hc x (g s (eH j f p.2.2.2 (λ_ _ _ e=>e) (cu _)) p)
 done:=λi Z s Y Q E u p f j g=>I u p.1 p.2.1 p.2.2.1 λd y z=>g _ (eH j f p.2.2.2 (Bg y) z)
 self:=λi Z s Q E p g=>J p.1 g
theorem It.list(j:A.handled=none)(a l:aJ)(d:l≠a)(items:List T)(b:List aI):
  It w A nt false a [a,l] [a] items (λi Z h=>h.IsListIter a l i/\h.IsList l b.toArray/\bm w Z items b/\fb nt Z [a]) (λi v Z h=>h.IsListIter a l (i+1)/\h.IsList l b.toArray/\bm w Z items b/\fb nt Z [a]):=
 It.mk2 a l d items (λh=>h.IsListIter a l) (λh=>h.IsList l b.toArray) (λZ=>bm w Z items b) (λp=>eo p λo m hc _=>(cE o _ m hc rfl)) mU (λp k=>aU p λo r=>(aS o (k o r.1) r.2)) oa (λn=>bm.mono n _)
  (λe p q r f=>aV (bm.get r e) λv t u=>acP p q (x:=v) (im.trans t) λy c g=>f v y g c u)
  (λe p q r f=>e9 (acQ j p q (im.trans (lK (by refine bm.length r▸?_;exact rH.mp e))) f))
  wpAny_pyIter_listiter
theorem It.tuple(m:A.handled=none)(a l:aJ)(d:l≠a)(items:List T)(b:List aI):
  It w A nt false a [a,l] [a] items (λi Z h=>h.IsTupleIter a l i/\h.IsTuple l b.toArray/\bm w Z items b/\fb nt Z [a]) (λi v Z h=>h.IsTupleIter a l (i+1)/\h.IsTuple l b.toArray/\bm w Z items b/\fb nt Z [a]):=
 It.mk2 a l d items (λh=>h.IsTupleIter a l) (λh=>h.IsTuple l b.toArray) (λZ=>bm w Z items b) (λp=>eo p λo e hc _=>(cE o _ e hc rfl)) (λp=>aV p λo e _=>cg e) (λp k=>aU p λo r=>(aS o (k o r.1) r.2)) (λp k=>aU p λo r=>(aS o (k o r.1) r.2)) (λn=>bm.mono n _)
  (λf p q r g=>aV (bm.get r f) λv t u=>wpAny_pyNext_tuple_item p q (x:=v) (im.trans t) λy c j=>g v y j c u)
  (λf p q r g=>e9 (wpAny_pyNext_tuple_end m p q (im.trans (lK (by refine bm.length r▸?_;exact rH.mp f))) g))
  wpAny_pyIter_tupleiter
theorem It.range(C:A.handled=none)(c:aJ)(a:Int)(n:Nat):
  It w A nt false c [c] [c] ((aO n).map λ(j:Nat)=>T.int (a+j*1)) (λi Z h=>i<=n/\IsRangeIter h c (a+(i:Nat)*1) ((n:Int)-(i:Nat)) 1/\fb nt Z [c]) (λi v Z h=>i+1<=n/\IsRangeIter h c (a+((i+1:Nat):Int)*1) ((n:Int)-((i+1:Nat):Int)) 1/\fb nt Z [c]) where
 sub:=λb d=>d
 ok:=λi Z h p=>p.2.2
 lt:=λi Z h p b d=>by
  simp only[bP,dP,or_false]at d;subst d;exact cg p.2.1
 frame:=λi Z Z' h u p g hw k=>⟨p.1,k c (by simp) _ p.2.1,hw⟩
 item:=λi t Z s Y Q E l p g m f=>by
  have hi:i<n:=by
   have:=je.mp l;refine aU this λx _=>?_;clear this;simpa using x
  have y:t=.int (a+i*1):=by
   rw[fR,rJ hi]at l;simpa using l.symm
  refine wpAny_pyNext_range_item p.2.1 (by lia) λu q r=>?_;have keep:∀ b o,b∉[c]->s.heap.get? b=some o->u.get? b=some o:=λb o d e=>r.extBut b o (λh=>d (by simp[h])) e;refine f _ Z _ (eH m g p.2.2 keep (by rw[r.1];exact cu _)) (by rw[y];exact⟨_,rfl⟩) ⟨hi,?_,p.2.2⟩;rw[show a+((i+1:Nat):Int)*1=a+(i:Nat)*1+1 by lia,show(n:Int)-((i+1:Nat):Int)=(n:Int)-(i:Nat)-1 by exact ZY];exact q
 go:=λD i v Z s Y Q E _ p g m f=>H7 p.2.1 rfl rfl (f s (eH m g p.2.2 (λ_ _ _ e=>e) (cu _)) p)
 done:=λi Z s Y Q E l p g m f=>by
  have hi:i=n:=by
   have:=rH.mp l;simp only[dm,kc]at this;exact Jz p.1 this
  subst hi;exact e9 (wpAny_pyNext_range_end C p.2.1 (YD) λu z B=>f _ (eH m g p.2.2 (λb o d e=>z b o (λh=>d (by simp[h])) e) B))
 self:=λi Z s Q E p f=>wpAny_pyIter_rangeiter p.2.1 f
theorem bY.length{Z:Fz}:∀ {l:List (Int×T)} {d:List (Int×aI)},bY w Z l d->d.length=l.length:=by
 intro a;induction a with
 |nil=>
  intro _ h;exact congrArg j9 h
 |cons b r c=>
  obtain⟨k,t⟩:=b;intro _ h;exact bG h λv f e _ h2=>(congrArg j9 e).trans (congrArg (·+1) (c h2))
theorem bY.get{Z:Fz}:∀ {l:List (Int×T)} {g:List (Int×aI)},bY w Z l g->∀ {i:Nat} {p:Int×T},l[i]?=some p->∃ v,g[i]?=some (p.1,v)/\Rd w Z p.2 v:=by
 intro a;induction a with
 |nil=>
  intro _ h i p e;exact bD e
 |cons b r c=>
  obtain⟨k,m⟩:=b;intro _ h d;cases d with
  |zero=>
   intro p e;exact bG h λv j f h1 h2=>(aS v (f▸bw e▸rfl) (bw e▸h1))
  |succ i=>
   intro p e;exact bG h λv j f h1 h2=>aV (c (i:=i) h2 e) λu h3 h4=>(aS u (f▸h3) h4)
theorem bY.at{Z:Fz}{l:List (Int×T)}{a:List (Int×aI)}(h:bY w Z l a){i:Nat}{t:T}{f:Int×T->T}(e:(l.map f)[i]?=some t):∃ p v,f p=t/\a[i]?=some (p.1,v)/\Rd w Z p.2 v:=
 aV (yc.mp (fR.symm.trans e)) λp hk b=>aV (bY.get h hk) λv c d=>(cE p v b c d)
theorem bY.end_{Z:Fz}{l:List (Int×T)}{a:List (Int×aI)}(h:bY w Z l a){i:Nat}{f:Int×T->T}(e:(l.map f)[i]?=none):a[i]?=none:=
 lK (by rw[bY.length h,<- dm f];exact rH.mp e)
theorem tX{h c:bh}{a:aJ}{b:List (Int×aI)}{d:Nat}(x:h.DictAt (ik w) a b d)(k:∀ o,h.get? a=some o->c.get? a=some o):c.DictAt (ik w) a b d:=
 eA x λo e f r=>iz o e (k _ f) r
theorem HT{h:bh}{a:aJ}{b:List (Int×aI)}{c:Nat}(x:h.DictAt (ik w) a b c):a<h.objs.size:=eA x λo _ d _=>cg d
theorem It.keys(t:A.handled=none)(b l:aJ)(g:l≠b)(items:List (Int×T))(a:List (Int×aI))(c:Nat):
  It w A nt false b [b,l] [b] (items.map λp=>T.int p.1) (λi Z h=>h.IsKeyIter b l i a.length c/\h.DictAt (ik w) l a c/\bY w Z items a/\fb nt Z [b]) (λi v Z h=>h.IsKeyIter b l (i+1) a.length c/\h.DictAt (ik w) l a c/\bY w Z items a/\fb nt Z [b]):=
 It.mk2 b l g _ (λh i=>h.IsKeyIter b l i a.length c) (λh=>h.DictAt (ik w) l a c) (λZ=>bY w Z items a) (λp=>eo p λo x hc _=>(cE o _ x hc rfl)) HT (λp k=>aU p λo r=>(aS o (k o r.1) r.2)) tX (λy=>bY.mono y _)
  (λj p q r m=>bG (r.at j) λD v e z E=>wpAny_pyNext_dict_item p q z λkey B d f n=>aU (acR d) λu C=>m key B n f (e▸⟨u,C⟩))
  (λj p q r m=>e9 (wpAny_pyNext_dict_end t p q (r.end_ j) m))
  wpAny_pyIter_keyiter
theorem It.vals(n:A.handled=none)(b l:aJ)(f:l≠b)(items:List (Int×T))(a:List (Int×aI))(c:Nat):
  It w A nt false b [b,l] [b] (items.map λp=>p.2) (λi Z h=>h.IsValIter b l i a.length c/\h.DictAt (ik w) l a c/\bY w Z items a/\fb nt Z [b]) (λi v Z h=>h.IsValIter b l (i+1) a.length c/\h.DictAt (ik w) l a c/\bY w Z items a/\fb nt Z [b]):=
 It.mk2 b l f _ (λh i=>h.IsValIter b l i a.length c) (λh=>h.DictAt (ik w) l a c) (λZ=>bY w Z items a) (λp=>eo p λo t hc _=>(cE o _ t hc rfl)) HT (λp k=>aU p λo r=>(aS o (k o r.1) r.2)) tX (λu=>bY.mono u _)
  (λg p q r j=>bG (r.at g) λB v e x y=>wpAny_pyNext_values_item p q x λz d m=>j v z m d (e▸y))
  (λg p q r j=>e9 (wpAny_pyNext_values_end n p q (r.end_ g) j))
  wpAny_pyIter_valiter
theorem Vv:entryFor table "dict_itemiterator.__iter__"=some Builtin.«dict_keyiterator.__iter__»:=
 entryFor_alias (id':="dict_keyiterator.__iter__") (by kernel_rfl) rfl (by decide+kernel) (by kernel_rfl)
theorem ZJ{E:aI->aL->Prop}{a d:aJ}{i n b:Nat}{ok c:aI}{Q:aI->aL->Prop}(hit:IsItemIter s.heap a d i n b ok c)(h:Q (.ref a) s):bc (model pw w) A (jP (.ref a)) Q E s:=by
 have hT:s.TypeIs (.ref a) "dict_itemiterator":=(aS _ hit rfl);refine wpAny_pyIter_slot hT acS (rK acS hT Vv ?_ (F.args_dict_itemiterator_iter_1 _));show bc _ _ (ret (.ref a)) _ _ s;exact cm (mQ _ rfl ("dict_itemiterator") _ hT ⟨F.slot_dict_itemiterator_next.lookup,h⟩)
theorem YL{a:Expr}(h:ja a=true):∃ b k pos,a=.Tuple b k pos:=by cases a<;>first|exact(dF _ _ _ rfl)|cases h
theorem It.items(S:A.handled=none)(d l:aJ)(D:l≠d)(items:List (Int×T))(g:List (Int×aI))(K:Nat):
  It w A nt true d [d,l] [d] (items.map λp=>T.tup [T.int p.1,p.2]) (λi Z h=>(∃ ok x,IsItemIter h d l i g.length K ok x)/\h.DictAt (ik w) l g K/\bY w Z items g/\fb nt Z [d])
   (λi v Z h=>(∃ a ok x,v=.ref a/\IsItemIterOut h d l (i+1) g.length K ok x a)/\h.DictAt (ik w) l g K/\bY w Z items g/\fb nt Z [d]) where
 sub:=λb c=>by simp at c;simp[c]
 ok:=λi Z h p=>p.2.2.2
 lt:=λi Z h p b c=>by
  simp only[bP,dP,or_false]at c;rcases c with rfl|rfl
  ·refine gU p.1 λ_ _ z=>?_;exact cg z
  ·refine eA p.2.1 λo _ z _=>?_;exact cg z
 frame:=λi Z Z' h m p r hw k=>⟨gU p.1 λa b z=>dE a b (k d (by simp) _ z),tX p.2.1 λo e=>k l (by simp) o e,bY.mono r _ p.2.2.1,hw⟩
 item:=λi t Z s Y Q E L p r B C=>by
  rw[fR]at L;refine aQ λF=>aV (yc.mp L) λn hk U=>?_;obtain⟨k,t'⟩:=n;subst U;refine aV (bY.get p.2.2.1 hk) λv V X=>fW p λn hd j hw=>?_;clear p;obtain⟨ok,x,hit⟩:=n;refine F (wpAny_pyNext_items_item hit hd V λkey m G H hT I M=>?_);have keep:∀ b o,b∉[d]->s.heap.get? b=some o->m.get? b=some o:=λb o c e=>M b o (by simpa using c) e;refine aU (acR G) λu y1=>?_;subst y1;have N0:cZ w nt [d] Z s Z Y {s with heap:=m}:=eH B r hw keep (by rw[I];exact mE _);have f:Z s.heap.objs.size=none:=by
   cases q:Z s.heap.objs.size with
   |none=>rfl
   |some o=>exact absurd (cg (r _ _ q)) (cQ _)
  have f2:nt≠some s.heap.objs.size:=λe=>by
   rw[e]at B;exact ej B λ_ vs y _=>absurd (jn y) (cQ _)
  have N:=N0.put (cu _) f f2;have hI:d<s.heap.objs.size:=cg hit;refine C _ _ {s with heap:=m} N ?_ ⟨(dF _ _ _ ⟨rfl,H⟩),tX hd λo e=>keep l o (by simpa using D) e,bY.mono N.le _ j,λb c=>?_⟩
  ·exact(fw _ _ [.int k u,v] rfl (gS.trans hT) ⟨rfl,0,rfl⟩ (dE _ _ ⟨rfl,⟨_,rfl⟩,(cE _ _ rfl (Rd.mono N.le _ X) rfl)⟩))
  ·refine bO (hw b c) λa1 a2 a3=>⟨?_,a2,a3⟩;simp only[bP,dP,or_false]at c;subst c;show(if b=s.heap.objs.size then _ else _)=_;rw[if_neg (dW hI)];exact a1
 go:=λa0 i v Z s Y Q E O p r B C=>by
  refine aQ λF=>eZ (YL (O rfl)) λes k pos y3=>?_;subst y3;refine fW p λn hd j hw=>?_;clear p;obtain⟨a,ok,x,rfl,z⟩:=n;refine F (wpAny_letOwnedTupleGo_items z λm hi J=>?_);have keep:∀ b o,b∉[d]->s.heap.get? b=some o->m.get? b=some o:=λb o c e=>J.extBut b o (λh=>c (by simp[h])) e;exact C {s with heap:=m} (eH B r hw keep (by rw[J.1];exact cu _)) ⟨(dE _ _ hi),tX hd λo e=>keep l o (by simpa using D) e,j,hw⟩
 done:=λi Z s Y Q E L p r B C=>by
  refine aQ λF=>fW p λn hd j hw=>?_;clear p;obtain⟨ok,x,hit⟩:=n;refine F (e9 (wpAny_pyNext_items_end S hit hd (lK (by rw[bY.length j];simpa using rH.mp L)) λm P R=>?_));exact C {s with heap:=m} (eH B r hw (λb o c e=>P b o (λh=>c (by simp[h])) e) R)
 self:=λi Z s Q E p C=>by refine bn p λn _=>?_;clear p;obtain⟨ok,x,hit⟩:=n;exact ZJ hit C
end
inductive PT where
 |nm (i:Nat)|tp (l:List PT)
noncomputable def T.seq?:T->Option (List T)
 |.tup l=>some l
 |.lst l=>some l
 |.none|.bool _|.int _|.flt _|.str _|.dct _|.inst _=>nZ
mutual
noncomputable def bU(a:List Nat):PT->T->List S->Option (List S)
 |.nm i,t,O=>if a.contains i/\i<O.length then some (O.set i (.v t))else none
 |.tp l,t,O=>t.seq?.bind λb=>kF a l b O
noncomputable def kF(b:List Nat):List PT->List T->List S->Option (List S)
 |[],a,O=>if a.isEmpty=true then some O else none
 |p::c,a,O=>a.head?.bind λt=>(bU b p t O).bind λU=>kF b c a.tail U
end
noncomputable def pE:Expr->Option Str×Option (List Expr)
 |.Name x _=>(some x,none)
 |.Tuple a _ _=>(none,some a)
 |_=>(none,none)
noncomputable def Lf(o:Option (Option Str))(e:Expr):Bool:=(pE e).1.any λx=>o==some (some x)
noncomputable def Kw(e:Expr):Option (List Expr):=(pE e).2
mutual
noncomputable def gP(nm:List (Option Str)):PT->Expr->Bool
 |.nm i,e=>Lf nm[i]? e
 |.tp l,e=>match Kw e with
  |some a=>oW nm l a
  |none=>false
noncomputable def oW(nm:List (Option Str)):List PT->List Expr->Bool
 |[],a=>a.isEmpty
 |p::b,a=>match a with
  |[]=>false
  |e::a=>gP nm p e&&dS e&&oW nm b a
end
theorem IR{nm:List (Option Str)}{i:Nat}{e:Expr}(h:gP nm (.nm i) e=true):∃ x pos,e=.Name x pos/\nm[i]?=some (some x):=by
 cases e with
 |Name x p=>exact(iz x p rfl (dN h))
 |_=>exact ni h
theorem Z7{nm:List (Option Str)}{l:List PT}{e:Expr}(h:gP nm (.tp l) e=true):∃ a k pos,e=.Tuple a k pos/\oW nm l a=true:=by
 cases e with
 |Tuple a k p=>exact(dF a k p ⟨rfl,h⟩)
 |_=>exact ni h
section
variable{w:aY}{A:bx}{F:Fx}{J:Nat->aJ}{Z Z':Fz}{O U:List S}{Y ν':List T}{s s':aL}
theorem qn{h:bh}{a c:aJ}{m}{v}(x:h.Ns a m)(y:h.IsCell c v):a≠c:=by
 rintro rfl;refine aQ λe=>s7 x λo g i f hd _=>aV y λj b d=>e ?_;replace b:=f▸b;cases b;replace d:=hd▸d;cases d
theorem St.faW(H:St w F J Z O Y s):fb F.nt Z F.fa:=λb a=>⟨(H.fz b a).1,bf H.ok.big (H.ok.fah b a),λe=>H.ok.ntf b e a⟩
theorem St.turn(H:St w F J Z O Y s){c:aJ}{g:bh}{p:dz}(hc:c∈F.fa)(hs:gZ c s.heap g)
  (k:∀ x d,F.env.cells.lookup x=some d->∃ v,g.IsCell d v)
  (z:∃ m,g.Ns F.env.locals m/\∀ i x S,F.nm[i]?=some (some x)->U[i]?=some S->S≠.no->∃ v,Look F.env m g x v/\dY w F.nt Z g (J i) S v)
  (l:∀ (i:Nat) (S:Mine.Internal.S),U[i]?=some S->S.adD->O[i]?=some S):St w F J Z U Y {s with heap:=g,toks:=p}:=by
 have keep:∀ b o,b∉F.fa->s.heap.get? b=some o->g.get? b=some o:=λb o n e=>(hs.2 b (λq=>n (q▸hc))).trans e;have N:=eH (tk:=p) H.nts H.on H.faW keep (gV hs.1.symm);refine aU H.tab λB C=>⟨H.ok,N.on,H.md,N.nts,H.gens,λb o n e=>?_,?_,λa r=>⟨(H.fz a r).1,?_⟩,k,z,λi S e q=>?_,λi j S t D u E y=>H.inj i j S t (l i S D u) u (l j t E y) y⟩
 ·have h1:=H.base b o n e;have:b≠c:=λq=>absurd (cg e) (lG.mpr (q▸H.ok.fah c hc));exact(hs.2 b this).trans h1
 ·refine aU (N.tab B C) λmore h=>?_;exact⟨_,h⟩
 ·show a<g.objs.size;refine hs.1▸?_;exact(H.fz a r).2
 ·exact gl (H.own i S (l i S e q) q) λa b G d f=>⟨a,b,G,by show _<g.objs.size;refine hs.1▸?_;exact d,f⟩
theorem Look.other{d:cz}{m g:Str->Option aI}{h i:bh}{x:Str}{v:aI}(l:Look d m h x v)(j:d.kindOf x=some .local->g x=m x)(hc:∀ c,d.cells.lookup x=some c->h.IsCell c (some v)->i.IsCell c (some v)):Look d g i x v:=by
 rcases l with ⟨a,b⟩|⟨a,c,e,f⟩
 ·exact .inl ⟨a,(j a).trans b⟩
 ·exact .inr (fu a c e (hc c e f))
theorem AX(H:St w F J Z O Y s){i:Nat}{x:Str}{t:T}{v:aI}{Q:Unit->aL->Prop}{E:aI->aL->Prop}(hi:F.nm[i]?=some (some x))(hw:i∈F.wr)(N:i<O.length)(r:Rd w Z t v)
  (V:∀ s',cZ w F.nt F.fa Z s Z Y s'->St w F J Z (O.set i (.v t)) Y s'->Q () s'):bc (model pw w) A (storeName F.env x v) Q E s:=by
 refine aQ λD=>aV H.vars λm G W=>D ?_;have z:∀ (j:Nat) (S:Mine.Internal.S),(O.set i (.v t))[j]?=some S->S.adD->O[j]?=some S:=λj S e q=>by
  by_cases g:i=j
  ·subst g;replace e:=fT N▸e;cases e;exact q.elim
  ·rwa [ed g]at e
 have I:∀ (h:bh) (X:dz) (c:aJ),c∈F.fa->gZ c s.heap h->cZ w F.nt F.fa Z s Z Y {s with heap:=h,toks:=X}:=λh X c hc hs=>
  eH H.nts H.on H.faW (λb o hb e=>(hs.2 b (λq=>hb (q▸hc))).trans e) (gV hs.1.symm)
 have other:∀ (h:bh) (c:aJ),c∈F.fa->gZ c s.heap h->∀ (j:Nat) (S:Mine.Internal.S) (u:aI),O[j]?=some S->dY w F.nt Z s.heap (J j) S u->dY w F.nt Z h (J j) S u:=λh c hc hs j S u e so=>
  so.ext (.refl _) λq o k=>(hs.2 (J j) (λ(q2:J j=c)=>(H.own j S e q).2.2.2.2 (q2.symm▸hc))).trans k
 rcases H.ok.wrk i hw x hi with hk|⟨hk,c,l,hc⟩
 ·refine acT hk G (λh n hs=>?_) (by refine H.ok.kf▸?_;rfl);refine V _ (I h _ _ H.ok.loc hs) (H.turn H.ok.loc hs (λy d hd=>?_) (aS _ n (λj y S g a P=>?_)) z)
  ·exact aU (H.cel y d hd) λu M=>⟨u,jq M λo k=>(hs.2 d (λq=>qn G M q.symm)).trans k⟩
  ·by_cases f:i=j
   ·subst f;replace a:=fT N▸a;cases a;replace g:=hi▸g;cases g;exact(aS v (.inl ⟨hk,if_pos rfl⟩) r)
   ·replace a:=ed f▸a;refine aQ λD=>aV (W j y S g a P) λu B C=>D (aS u (B.other (λ_=>if_neg (λ(q:y=x)=>f (H.ok.nmi i j x hi (by refine q▸?_;exact g)))) λd hd p=>jq p λo k=>(hs.2 d (λq=>qn G p q.symm)).trans k) (other h _ H.ok.loc hs j S u a C))
 ·refine aU (H.cel x c l) λu0 K=>acU H.ok.kf hk l K λh n hs=>?_;have R:F.env.locals≠c:=qn G K;refine V _ (I h _ _ hc hs) (H.turn hc hs (λy d hd=>?_) (aS m (qu G λo k=>(hs.2 _ R).trans k) (λj y S g a P=>?_)) z)
  ·by_cases L:d=c
   ·exact⟨_,L▸n⟩
   ·exact aU (H.cel y d hd) λu M=>⟨u,jq M λo k=>(hs.2 d L).trans k⟩
  ·by_cases f:i=j
   ·subst f;replace a:=fT N▸a;cases a;replace g:=hi▸g;cases g;exact(aS v (.inr (fu (.inl hk) c l n)) r)
   ·replace a:=ed f▸a;refine aQ λD=>aV (W j y S g a P) λu B C=>D (aS u (B.other (λ_=>rfl) λd hd p=>jq p λo k=>(hs.2 d λ(q:d=c)=>?_).trans k) (other h _ hc hs j S u a C));subst q;have:=H.ok.cap x y d l hd;subst this;exact f (H.ok.nmi i j x hi g)
theorem FM{b:cz}{a:List Expr}{k:Nat}{pos:br}{v:aI}{n:Nat}{Q:Unit->aL->Prop}{E:aI->aL->Prop}(e:(jt a b).length=n)(c:(jt a b).findIdx? (·.1)=none)
  (h:bc (model pw w) A (CG v n none) (λf d=>bc (model pw w) A (CH ((jt a b).map (·.2)) f) Q E d) E s) :
  bc (model pw w) A (iN (.Tuple a k pos) b v) Q E s:=by
 subst e;show bc _ _ (do gJ pos;unpack v (jt a b)) _ _ _;refine ba (gr ?_);unfold unpack;exact c▸(ba (fG h))
theorem BQ{env:cz}:∀ {es:List Expr},es.all dS=true->(jt es env).length=es.length/\(jt es env).findIdx? (·.1)=none/\(jt es env).map (·.2)=es.map λe=>iN e env:=by
 intro d;induction d with
 |nil=>
  intro _;exact⟨rfl,rfl,rfl⟩
 |cons e es f=>
  intro h;exact bn (ee h) λh1 h2=>bO (f h2) λa b c=>by
    have:jt (e::es) env=(false,iN e env)::jt es env:=by
     cases e with
     |Starred=>exact ni h1
     |_=>rfl
    exact this▸⟨congrArg (·+1) a,(JA).trans (congrArg (rp (·+1)) b),congrArg (iN e env::·) c⟩
theorem Gg{nm:List (Option Str)}:∀ {d:List PT} {c:List Expr},oW nm d c=true->c.all dS=true/\d.length=c.length:=by
 intro f;induction f with
 |nil=>
  intro c h;refine n5.mp h▸?_;exact⟨rfl,rfl⟩
 |cons p d g=>
  intro i;cases i with
  |nil=>
   intro h;exact ni h
  |cons e c=>
   intro h;exact bn (ee h) λh1 h2=>bn (g h2) λa b=>⟨by rw[gX,(ee h1).2,a];rfl,congrArg (·+1) b⟩
theorem Tg{e:List Nat}:∀ {a:List PT} {ts:List T} {O U:List S},kF e a ts O=some U->a.length=ts.length:=by
 intro b;induction b with
 |nil=>
  intro ts O U;exact ca λh _=>(congrArg j9 (n5.mp h)).symm
 |cons p a c=>
  intro d;cases d with
  |nil=>
   intro _ _;exact bD
  |cons t ts=>
   intro O U;exact aX λf _=>aX λI _ h2=>congrArg (·+1) (c (ts:=ts) h2)
theorem P9{e l:aJ}{items:List aI}(j:l≠e):∀ (n i:Nat) (s:aL) (Q:List aI->aL->Prop) (E:aI->aL->Prop),s.heap.IsListIter e l i->s.heap.IsList l items.toArray->i+n<=items.length->
  (∀ k,k.IsListIter e l (i+n)->gZ e s.heap k->Q ((items.drop i).take n) {s with heap:=k})->bc (model pw w) A (cV (.ref e) n) Q E s:=by
 intro m;induction m with
 |zero=>
  intro i s Q E hit _ _ o;exact cm (by simpa using o s.heap hit (Heap.SameBut.refl ..))
 |succ n p=>
  intro i s Q E hit q f o;have g:i<items.length:=by exact(acn f)
  show bc _ _ (mJ (.ref e) >>= _) Q E s;refine ba (acP hit q (x:=items[i]) (by simp[g]) λr b a=>ba (fG (p (i+1) _ _ _ b (q.extBut a.extBut j) (by exact RU f) λh c d=>cm ?_)));have hd:items.drop i=items[i]::items.drop (i+1):=JB g;have:=o h (by refine(show i+(n+1)=i+1+n by exact Gj)▸?_;exact c) (a.trans d);replace this:=List.take_succ_cons▸hd▸this;exact this
theorem MZ{l:aJ}{items:List aI}{Q:List aI->aL->Prop}{E:aI->aL->Prop}(p:A.handled=none)(g:s.heap.IsList l items.toArray)
  (q:∀ k,ur s.heap.objs.size s.heap k->Q items {s with heap:=k}):bc (model pw w) A (CG (.ref l) items.length none) Q E s:=by
 have h:l≠s.heap.objs.size:=by refine aV g λo r _=>?_;clear g;exact dW (cg r)
 have a:(s.heap.push {cls:=.type "list_iterator",data:=.fields #[.ref l,.int 0 0]}).IsList l items.toArray:=oa g λo e=>cA _ e;unfold CG;refine ba ?_;unfold notIterableAtAll;refine ba (JC g.typeIs PySem.F.slot_list_iter.lookup (cm ?_));simp only[jc,if_false];refine ba (fG (JD g (ba (fG (P9 h items.length 0 _ _ _ (cI _ (dx _ rfl) rfl rfl) a (XM) λm d c=>?_)))));have i:Co items.length (List.drop 0 items)=items:=by simp
 rw[i,if_neg (by simp)];refine ba (fG (acQ p d (a.extBut c.extBut h) (by simp) λj f=>?_));simp only[Option.isSome_none,jc,if_false];exact cm (q j λb o n e=>f b o n (c.extBut b o n (cA _ e)))
theorem Zg(q:A.handled=none)(H:St w F J Z O Y s){t:T}{u:List T}{v:aI}(e:t.seq?=some u)(r:Rd w Z t v):
  ∃ d,bm w Z u d/\∀ {n:Nat} {Q:List aI->aL->Prop} {E:aI->aL->Prop},n=d.length->(∀ s',Nx w F.nt Z s Z Y s'->Q d s')->bc (model pw w) A (CG v n none) Q E s:=by
 have fin:∀ {Q:List aI->aL->Prop} {d:List aI},(∀ s',Nx w F.nt Z s Z Y s'->Q d s')->∀ g,ur s.heap.objs.size s.heap g->s.heap.objs.size<=g.objs.size->Q d {s with heap:=g}:=λf g x h=>
  f _ ((eH (tk:=s.toks) (W:=[]) H.nts H.on (λb i=>nomatch i) (λb o _ e=>x b o (dW (cg e)) e) h).nx (λb i=>nomatch i))
 cases t with
 |tup l=>
  obtain rfl:=bw e;exact gH r λa o d j k c m=>(aS d m (λ{n Q E} p f=>by
   subst j p;exact e9 (JE q (cI o (H.on _ _ k) c.1 c.2) (fin f))))
 |lst l=>
  obtain rfl:=bw e;exact gH r λa o d j k c m=>(aS d m (λ{n Q E} p f=>by
   subst j p;exact e9 (MZ q (cI o (H.on _ _ k) c.1 c.2) (fin f))))
 |_=>exact bD e
mutual
theorem vv(g:A.handled=none):∀ (p:PT) {a:Expr} {t:T} {v:aI} {O U:List S} {s:aL} {Q:Unit->aL->Prop} {E:aI->aL->Prop},gP F.nm p a=true->St w F J Z O Y s->Rd w Z t v->bU F.wr p t O=some U->
  (∀ s',cZ w F.nt F.fa Z s Z Y s'->St w F J Z U Y s'->Q () s')->bc (model pw w) A (iN a F.env v) Q E s
 |.nm i,a,t,v,O,U,s,Q,E,d,H,r,b,e=>by
  refine eA (IR d) λx pos y j=>?_;subst y;revert b;refine ca λhc b=>?_;obtain rfl:=bw b;exact yd (AX H j (pp.mp hc.1) hc.2 r e)
 |.tp l,a,t,v,O,U,s,Q,E,d,H,r,b,e=>by
  refine my (Z7 d) λq k pos y c=>?_;subst y;revert b;refine aX λu m b=>?_;exact aV (Zg g H m r) λz h un=>bn (Gg c) λh1 h2=>bO (BQ (env:=F.env) h1) λa1 a2 a3=>FM rfl a2 (un (by exact a1▸bm.length h▸Tg b▸h2▸rfl) λs' N=>a3▸(De g l c (H.next N) h b λf n o=>e f ((N.toW F.fa).trans n) o))
theorem De(k:A.handled=none):∀ (c:List PT) {f:List Expr} {g:List T} {b:List aI} {O U:List S} {s:aL} {Q:Unit->aL->Prop} {E:aI->aL->Prop},oW F.nm c f=true->St w F J Z O Y s->bm w Z g b->kF F.wr c g O=some U->
  (∀ s',cZ w F.nt F.fa Z s Z Y s'->St w F J Z U Y s'->Q () s')->bc (model pw w) A (CH (f.map λe=>iN e F.env) b) Q E s
 |[],f,g,b,O,U,s,Q,E,d,H,r,a,h=>by
  revert a;refine ca λl a=>?_;obtain rfl:=bw a;replace r:=n5.mp l▸r;exact n5.mp d▸(show b=[]from r)▸(acV (h s (H.nx.toW _) H))
 |p::c,[],g,b,O,U,s,Q,E,d,H,r,a,h=>ni d
 |p::c,e::f,[],b,O,U,s,Q,E,d,H,r,a,h=>bD a
 |p::c,e::f,t::g,b,O,U,s,Q,E,d,H,r,a,h=>by
  refine bn (ee d) λp1 p2=>?_;revert a;refine aX λC m=>aX λI i j=>?_;obtain rfl:=bw m;refine bG r λv D n o q=>?_;subst n;exact JF (vv k p (ee p1).1 H o i λG u x=>De k c p2 x q j λy z B=>h y (u.trans z) B)
end
end
noncomputable def jK(b:cz):List (Str×NameKind)->List (Str×aJ)->List (Str×aJ)
 |[],a=>a
 |(n,k)::r,a=>jK b r (if k==.free then(n,(b.cells.lookup n).getD 0)::a else a)
theorem PN{b:cz}{a:List (Str×aJ)}:jK b [] a=a:=rfl
theorem Xf{a:cz}{p:Str×NameKind}{r:List (Str×NameKind)}{b:List (Str×aJ)}:jK a (p::r) b=jK a r (if p.2==.free then(p.1,(a.cells.lookup p.1).getD 0)::b else b):=rfl
theorem OB{d:Scope}{b:cz}(h:∀ x∈d.names,x.2=.free->(b.cells.lookup x.1).isSome=true):closureFor d b=pure (jK b d.names []):=by
 have key:∀ (l:List (Str×NameKind)) (e:List (Str×aJ)),(∀ x∈l,x.2=.free->(b.cells.lookup x.1).isSome=true)->
   (forIn l e λ(x:Str×NameKind) (r:List (Str×aJ))=>(match x with|(name,kind)=>if (kind==pq)=true then(do let a <- cellOf b name;pure (kI ((name,a)::r)))else pure (kI r):bA (ForInStep (List (Str×aJ)))))=(pure (jK b l e):bA _):=by
  intro l;induction l with
  |nil=>intro e _;rfl
  |cons x l i=>
   intro e f;obtain⟨n,k⟩:=x;rw[ry];show _=pure (jK b l (if k==.free then(n,(b.cells.lookup n).getD 0)::e else e));by_cases hk:(k==pq)=true
   ·have hs:=f (n,k) (.head _) (dN hk);refine aU (pr.mp hs) λc hc=>?_;have:cellOf b n=pure c:=by unfold cellOf;exact hc▸rfl
    simp only[hk,if_true,this];refine(i _ λy g=>f y (.tail _ g))▸?_;show(forIn l ((n,c)::e) _:bA _)=forIn l ((n,(b.cells.lookup n).getD 0)::e) _;refine hc▸?_;rfl
   ·simp only[hk];rw[if_neg (by simp)];exact i e λy g=>f y (.tail _ g)
 simp only[closureFor];have:=key d.names [] h;first
  |(refine this▸?_;rfl)
  |(refine Eq.trans (congrArg (λz=>z >>= pure) this) rfl)
theorem RV{b:cz}{x:Str}:∀ (l:List (Str×NameKind)) (a:List (Str×aJ)),(jK b l a).lookup x=if (x,pq)∈l then some ((b.cells.lookup x).getD 0)else a.lookup x:=by
 intro c;induction c with
 |nil=>
  intro a;simp[PN,Xf]
 |cons d l e=>
  obtain⟨n,k⟩:=d;intro a;rw[show jK b ((n,k)::l) a=jK b l (if k==.free then(n,(b.cells.lookup n).getD 0)::a else a)from rfl,e];by_cases h:(x,pq)∈l
  ·rw[if_pos h,if_pos (.tail _ h)]
  ·refine if_neg h▸?_;by_cases hk:(k==pq)=true
   ·rw[if_pos hk,pj];have f:=dN hk;subst f;by_cases g:x=n
    ·subst g;simp
    ·have:(x==n)=false:=by simpa using g
     rw[this,if_neg];intro q;rcases bP.mp q with q|q
     ·exact g (ye q).1
     ·exact h q
   ·rw[if_neg hk,if_neg];intro q;rcases bP.mp q with q|q
    ·exact hk (by refine(ye q).2▸?_;rfl)
    ·exact h q
theorem Db:∀ (b:List (Str×NameKind)) (n:Nat) (a:List (Str×aJ)),g6 n b a=g6 n b []++a:=by
 intro d;induction d with
 |nil=>
  intro n a;exact rfl
 |cons e r c=>
  obtain⟨x,k⟩:=e;intro n a;by_cases h:(k==.cell)=true
  ·exact(if_pos h).trans ((c (n+1) ((x,n)::a)).trans ((eO _ [(x,n)] a).symm.trans (congrArg (·++a) ((c (n+1) [(x,n)]).symm.trans (if_pos h).symm))))
  ·exact(if_neg h).trans ((c n a).trans (congrArg (·++a) (if_neg h).symm))
theorem EP{f:Type}{x:Str}:∀ (a b:List (Str×f)),(a++b).lookup x=(a.lookup x).or (b.lookup x):=by
 intro c;induction c with
 |nil=>
  intro b;simp
 |cons d a e=>
  obtain⟨y,v⟩:=d;intro b;rw[rA,pj,pj];cases x==y with
  |true=>rfl
  |false=>exact e b
theorem UF{x:Str}:∀ (a:List (Str×NameKind)) (n:Nat),((g6 n a []).lookup x).isSome=true->(x,CJ)∈a:=by
 intro d;induction d with
 |nil=>
  intro n h;exact nomatch h
 |cons e r b=>
  obtain⟨y,k⟩:=e;intro n h;by_cases hk:(k==.cell)=true
  ·rw[show g6 n ((y,k)::r) []=_ from if_pos hk,Db,EP]at h;cases q:(g6 (n+1) r []).lookup x with
   |some c=>exact .tail _ (b (n+1) (by refine q▸?_;rfl))
   |none=>
    replace h:=JG▸q▸h;exact aU (pr.mp h) λc=>AY (λf _=>dN f▸dN hk▸.head _) bD
  ·exact .tail _ (b n (by rw[show g6 n ((y,k)::r) []=_ from if_neg hk]at h;exact h))
theorem aaJ{x:Str}(g:Str->NameKind->NameKind):∀ (l:List (Str×NameKind)),(l.map λp=>(p.1,g p.1 p.2)).lookup x=(l.lookup x).map (g x):=by
 intro a;induction a with
 |nil=>
  exact rfl
 |cons b l c=>
  obtain⟨y,k⟩:=b;rw[cB,pj,pj];cases h:x==y with
  |true=>refine dN h▸?_;rfl
  |false=>exact c
theorem VD{a:Scope}{b:cz}{x:Str}:(relabel a b).names.lookup x=(a.names.lookup x).map λk=>if (k==.free&&b.scope.kind==.function&&b.kindOf x==some .cell)=true then .cell else k:=by
 unfold relabel;refine(aaJ (λn k=>if (k==.free&&b.scope.kind==.function&&b.kindOf n==some .cell)=true then .cell else k) a.names)▸?_;show List.lookup x _=List.lookup x _;congr 1;refine us λp _=>?_;obtain⟨n,k⟩:=p;show(if _ then _ else _)=_;split<;>simp_all
noncomputable def T8(c a:Scope)(nm b:List (Option Str))(d:List Nat):Bool:=
 decide (a.kind=.function)&&decide (c.kind=.function)&&decide ((a.names.map (·.1)).Nodup)&&decide ((b.filterMap id).Nodup)&&
 (a.names.all λp=>p.2 != .free||c.names.lookup p.1==some .cell||c.names.lookup p.1==some .free)&&
 b.zipIdx.all λp=>match p.1 with
  |none=>true
  |some x=>if d.contains p.2 then(a.names.lookup x==some .local||a.names.lookup x==some .cell)
   else nm[p.2]?==some (some x)&&a.names.lookup x==some .free
noncomputable def mm(F:Fx)(a:Scope)(n:Nat):cz:=
 {newEnv a n F.env.globals (g6 (n+1) a.names (jK F.env a.names [])) F.env.qual none .none (some F.env) n0 with scope:=relabel a F.env}
noncomputable def eJ(F:Fx)(a:Scope)(b:List (Option Str))(c:List Nat)(n:Nat):Fx:=
 {nt:=F.nt,h₀:=F.h₀,env:=mm F a n,nm:=b,fa:=n::(g6 (n+1) a.names []).map (·.2),wr:=c}
structure lY (sc scope:Scope) (nm nm':List (Option Str)) (wr':List Nat):Prop where
 kf:scope.kind=.function
 ko:sc.kind=.function
 nd:(scope.names.map (·.1)).Nodup
 nn:(nm'.filterMap id).Nodup
 fr:∀ p∈scope.names,p.2=.free->sc.names.lookup p.1=some .cell\/sc.names.lookup p.1=some .free
 wr:∀ i x,nm'[i]?=some (some x)->i∈wr'->scope.names.lookup x=some .local\/scope.names.lookup x=some .cell
 cp:∀ i x,nm'[i]?=some (some x)->i∉wr'->nm[i]?=some (some x)/\scope.names.lookup x=some .free
theorem HJ{a:Type}{l:List a}{i:Nat}{b:a}(h:l[i]?=some b):(b,i)∈l.zipIdx:=by
 rw[acW];exact⟨i,by rw[List.getElem?_zipIdx,h];simp⟩
theorem eI{d a:Scope}{nm b:List (Option Str)}{c:List Nat}(h:T8 d a nm b c=true):lY d a nm b c:=
 bn (ee h) λh h6=>bn (ee h) λh h5=>bn (ee h) λh h4=>bn (ee h) λh h3=>bn (ee h) λh1 h2=>
 ⟨of_decide_eq_true h1,of_decide_eq_true h2,of_decide_eq_true h3,of_decide_eq_true h4,
  λp f g=>(yf.mp (c8.mp h5 p f)).elim (λe=>.inl ((yf.mp e).elim (λe=>absurd g (bne_iff_ne.mp e)) dN)) λe=>.inr (dN e),
  λi x hi hw=>(yf.mp ((if_pos (pp.mpr hw)).symm.trans (c8.mp h6 (some x,i) (HJ hi)))).imp dN dN,
  λi x hi hw=>(ee ((if_neg λe=>hw (pp.mp e)).symm.trans (c8.mp h6 (some x,i) (HJ hi)))).imp dN dN⟩
theorem DO{l:List (Option Str)}(h:(l.filterMap id).Nodup):∀ {i j:Nat} {x:Str},l[i]?=some (some x)->l[j]?=some (some x)->i=j:=by
 induction l with
 |nil=>intro i j x a;simp at a
 |cons a l c=>
  intro i j x hi b;have d:∀ k:Nat,l[k]?=some (some x)->x∈l.filterMap id:=λk hk=>JH.mpr (aS (some x) (ke hk) rfl);cases a with
  |none=>
   rw[show(nZ::l).filterMap id=l.filterMap id from rfl]at h;cases i with
   |zero=>simp at hi
   |succ i=>cases j with
    |zero=>simp at b
    |succ j=>exact congrArg _ (c h (by simpa using hi) (by simpa using b))
  |some y=>
   rw[show(some y::l).filterMap id=y::l.filterMap id from rfl]at h;refine bn (gu.mp h) λh1 h2=>?_;cases i with
   |zero=>cases j with
    |zero=>rfl
    |succ j=>
     simp only[JI,lL]at hi;subst hi;exact absurd (d j (by simpa using b)) h1
   |succ i=>cases j with
    |zero=>
     simp only[JI,lL]at b;subst b;exact absurd (d i (by simpa using hi)) h1
    |succ j=>exact congrArg _ (c h2 (by simpa using hi) (by simpa using b))
theorem SX{l:List (Str×NameKind)}(h:(l.map (·.1)).Nodup){x:Str}{a b:NameKind}(d:(x,a)∈l)(g:(x,b)∈l):a=b:=by
 induction l with
 |nil=>cases d
 |cons p l i=>
  rw[cB,gu]at h;have e:∀ k,(x,k)∈l->x∈l.map (·.1):=λk hk=>eh.mpr (aS _ hk rfl);rcases bP.mp d with f|h1<;>rcases bP.mp g with c|h2
  ·rw[<- f]at c;exact(ye c).2.symm
  ·exact absurd (by rw[<- f];exact e _ h2) h.1
  ·exact absurd (by rw[<- c];exact e _ h1) h.1
  ·exact i h.2 h1 h2
theorem RI(a:List (Str×NameKind)):∀ h:bh,h.objs.size<=(uu h a).objs.size:=by
 induction a with
 |nil=>intro h;exact cu _
 |cons p r b=>
  intro h;obtain⟨x,k⟩:=p;unfold uu;split
  ·exact bf (by rw[eQ];exact mE _) (b _)
  ·exact b h
section
variable{w:aY}{A:bx}{F:Fx}{J:Nat->aJ}{Z Z':Fz}{O U:List S}{Y ν':List T}{s s':aL}
theorem wv{a:Scope}{n:Nat}{x:Str}:(mm F a n).cells.lookup x=((g6 (n+1) a.names []).lookup x).or (if (x,pq)∈a.names then some ((F.env.cells.lookup x).getD 0)else none):=by
 show(g6 (n+1) a.names (jK F.env a.names [])).lookup x=_;rw[Db,EP,RV];rfl
theorem A5{scope:Scope}{n:Nat}{x:Str}:(mm F scope n).kindOf x=(scope.names.lookup x).map λk=>if (k==.free&&F.env.scope.kind==.function&&F.env.kindOf x==some .cell)=true then .cell else k:=VD
theorem QZ(H:St w F J Z O Y s){g:Scope}{r:List (Option Str)}{l:List Nat}(h:lY F.env.scope g F.nm r l)(a0:∀ i∈l,∀ x,r[i]?=some (some x)->O[i]?=some .no){Q:cz->aL->Prop}{E:aI->aL->Prop}
  (hQ:∀ B h',{B with scope:=relabel g F.env}=mm F g s.heap.objs.size->B.locals=s.heap.objs.size->St w (eJ F g r l s.heap.objs.size) J Z O Y {s with heap:=h'}->Nx w F.nt Z s Z Y {s with heap:=h'}->
   (∀ x c,(mm F g s.heap.objs.size).cells.lookup x=some c->s.heap.objs.size+1<=c\/F.env.cells.lookup x=some c)->(∀ a∈(eJ F g r l s.heap.objs.size).fa,s.heap.objs.size<=a)->Q B {s with heap:=h'}) :
  bc (model pw w) A (CK g F.env.globals (jK F.env g.names []) [] F.env.qual none .none (some F.env)) Q E s:=by
 have hh:=H;generalize z:s.heap.objs.size=n at hQ;simp only[CK,acz,if_true];refine ba (wpAny_alloc ?_);rw[z];refine ba (wpAny_layCells _ (λname kind a1=>by cases a2:kind==CJ<;>simp[a2]) _ _ _ _ ?_);have a3:({s with heap:=s.heap.push {cls:=.type "dict",data:=.dict #[]}}:aL).heap.objs.size=n+1:=by
  show(s.heap.push _).objs.size=_;rw[eQ,z]
 rw[a3];show bc _ _ (pure _) _ _ _;have keep:∀ b o,s.heap.get? b=some o->(uu (s.heap.push {cls:=.type "dict",data:=.dict #[]}) g.names).get? b=some o:=λb o e=>pushCells_keeps _ _ b o (cA _ e);have ok:=cellsFrom_ok g.names (s.heap.push {cls:=.type "dict",data:=.dict #[]}) (n+1) [] ⟨λ_ _ t=>(nomatch t),List.Pairwise.nil⟩ (by rw[eQ,z];exact cu _);rw[eQ,z]at ok;have C:n+1<=(uu (s.heap.push {cls:=.type "dict",data:=.dict #[]}) g.names).objs.size:=bf (by rw[eQ,z];exact cu _) (RI _ _);have N:Nx w F.nt Z s Z Y {s with heap:=uu (s.heap.push {cls:=.type "dict",data:=.dict #[]}) g.names}:=
  (eH (tk:=s.toks) (W:=[]) H.nts H.on (nofun) (λb o _ e=>keep b o e) (by rw[z];exact jN C)).nx (nofun)
 have ns:(uu (s.heap.push {cls:=.type "dict",data:=.dict #[]}) g.names).Ns n λ_=>none:=by
  rw[<- z];exact(Heap.Ns.new s.heap (.type "dict")).keeps (pushCells_keeps _ _)
 have old:∀ x c,F.env.cells.lookup x=some c->c<n:=λx c hc=>by
  refine aQ λM=>eA (H.cel x c hc) λv o ho _=>M ?_;rw[<- z];exact cg ho
 have fresh:∀ b,n<=b->Z b=none:=λb hb=>by
  cases q:Z b with
  |none=>rfl
  |some o=>exact absurd (cg (H.on _ _ q)) (by rw[z];exact lG.mpr hb)
 have h0:F.h₀.objs.size<=n:=by
  rw[<- z];exact j8 (ff (H.ok.fah _ H.ok.loc) (H.fz _ H.ok.loc).2)
 have bound:∀ x,(x,pq)∈g.names->(F.env.cells.lookup x).isSome=true:=λx P=>H.ok.celk x ((h.fr _ P rfl).imp id id);have D:∀ x c,(g6 (n+1) g.names []).lookup x=some c->n+1<=c/\(x,c)∈g6 (n+1) g.names []:=λx c hc=>⟨(ok.empty x c (mem_of_lookup hc)).2,mem_of_lookup hc⟩;have split:∀ x c,(mm F g n).cells.lookup x=some c->((x,c)∈g6 (n+1) g.names []/\n+1<=c)\/(F.env.cells.lookup x=some c/\c<n):=λx c hc=>by
  rw[wv]at hc;cases q:(g6 (n+1) g.names []).lookup x with
  |some d=>rw[q]at hc;simp only[Option.some_or,lL]at hc;subst hc;exact .inl ⟨(D x d q).2,(D x d q).1⟩
  |none=>
   rw[q,JG]at hc;revert hc;refine ca λR hc=>?_;refine aU (pr.mp (bound x R)) λd hd=>?_;rw[hd]at hc;simp only[JJ,lL]at hc;subst hc;exact .inr ⟨hd,old x d hd⟩
 have F':A1 (eJ F g r l n):=by
  refine⟨h.kf,H.ok.eg,H.ok.eb,λx y c P hy=>?_,λa u=>?_,.head _,λa u t=>?_,H.ok.big,λx hk=>?_,λi j x hi hj=>DO h.nn hi hj,λi hi x P=>?_⟩
  ·rcases split x c P with ⟨a,V⟩|⟨a,V⟩<;>rcases split y c hy with ⟨b,b'⟩|⟨b,b'⟩
   ·exact name_of_addr ok.apart a b
   ·exact absurd (ck b' (jN V)) (cQ _)
   ·exact absurd (ck V (jN b')) (cQ _)
   ·exact H.ok.cap x y c a b
  ·rcases bP.mp u with rfl|u
   ·exact h0
   ·refine aV (eh.mp u) λp I K=>?_;subst K;exact bf h0 (jN (ok.empty p.1 p.2 I).2)
  ·have:a<n:=by
    have:=H.nts;rw[show F.nt=some a from u]at this;refine aQ λM=>ej this λ_ vs y _=>M ?_;rw[<- z];exact jn y
   rcases bP.mp t with rfl|t
   ·exact cQ _ this
   ·refine aV (eh.mp t) λp I K=>?_;subst K;exact cQ _ (ck this (jN (ok.empty p.1 p.2 I).2))
  ·show((mm F g n).cells.lookup x).isSome=true;rw[wv];have G:((g.names.lookup x).map λk=>if (k==.free&&F.env.scope.kind==.function&&F.env.kindOf x==some .cell)=true then CJ else k)=some .cell\/((g.names.lookup x).map λk=>if (k==.free&&F.env.scope.kind==.function&&F.env.kindOf x==some .cell)=true then CJ else k)=some .free:=by
    have e:(eJ F g r l n).env.kindOf x=_:=A5 (F:=F) (scope:=g) (n:=n) (x:=x);rw[e]at hk;exact hk
   cases q:g.names.lookup x with
   |none=>rw[q]at G;simp at G
   |some k=>
    have t:=mem_of_lookup q;by_cases R:k=.free
    ·subst R;refine aU (pr.mp (bound x t)) λd hd=>?_;rw[if_pos t];cases (g6 (n+1) g.names []).lookup x<;>simp
    ·have hc:k=.cell:=by
      rw[q]at G;have:(k==pq)=false:=by simpa using R
      simp only[this,Cq,mF,lL,jc,if_false]at G;rcases G with e|e
      ·exact e
      ·exact absurd e R
     subst hc;have:=CL (x:=x) g.names (n+1) [] (.inl q);refine aU (pr.mp this) λd hd=>?_;rw[hd];rfl
  ·have e:(eJ F g r l n).env.kindOf x=_:=A5 (F:=F) (scope:=g) (n:=n) (x:=x);rw[e];rcases h.wr i x P hi with q|q
   ·left;rw[q];rfl
   ·right;refine⟨by rw[q];rfl,?_⟩;have:=CL (x:=x) g.names (n+1) [] (.inl q);refine aU (pr.mp this) λd hd=>(aS d ?_ (.tail _ (eh.mpr (aS _ (mem_of_lookup hd) rfl))));show(mm F g n).cells.lookup x=some d;rw[wv,hd];rfl
 refine cm (hQ _ _ rfl rfl ?_ N (λx c hc=>(split x c hc).symm.imp And.left And.right |>.symm) λa u=>?_)
 rotate_left
 ·rcases bP.mp u with rfl|u
  ·exact cu _
  ·refine aV (eh.mp u) λp I K=>?_;subst K;exact jN (ok.empty p.1 p.2 I).2
 have HN:=H.next N;refine⟨F',N.on,H.md,N.nts,H.gens,HN.base,HN.tab,λa u=>?_,λx c hc=>?_,(aS _ ns (λi x S hi he X=>?_)),λi S e q=>?_,H.inj⟩
 ·rcases bP.mp u with rfl|u
  ·exact⟨fresh _ (cu _),Nat.lt_of_succ_le C⟩
  ·refine aV (eh.mp u) λp I K=>?_;subst K;have:=ok.empty p.1 p.2 I;exact⟨fresh _ (jN this.2),this.1.lt⟩
 ·rcases split x c hc with ⟨a,_⟩|⟨a,_⟩
  ·exact⟨none,(ok.empty x c a).1⟩
  ·exact aU (H.cel x c a) λv hv=>⟨v,jq hv λo=>keep c o⟩
 ·by_cases hw:i∈l
  ·exact absurd (bw (he.symm.trans (a0 i hw x hi))) X
  ·refine bn (h.cp i x hi hw) λh1 h2=>aQ λM=>aV H.vars λm t hv=>aV (hv i x S h1 he X) λv hl a4=>M ?_;have L:=mem_of_lookup h2;have a5:=h.fr _ L rfl;refine(aS v ?_ (a4.ext (.refl _) λq o ho=>keep _ o ho));rcases hl with ⟨a,_⟩|⟨a,c,hc,a6⟩
   ·have V:F.env.scope.names.lookup x=some .local:=a;rcases a5 with e|e<;>(have e':F.env.scope.names.lookup x=_:=e;rw[V]at e';cases e')
   ·right;have a7:(eJ F g r l n).env.kindOf x=_:=A5 (F:=F) (scope:=g) (n:=n) (x:=x);refine(fu ?_ c ?_ (jq a6 λo=>keep c o))
    ·rw[a7,h2];simp only[mF,lL];split
     ·exact .inl rfl
     ·exact .inr rfl
    ·show(mm F g n).cells.lookup x=some c;rw[wv];have:(g6 (n+1) g.names []).lookup x=none:=by
      cases q:(g6 (n+1) g.names []).lookup x with
      |none=>rfl
      |some d=>
       have:=SX h.nd (UF g.names (n+1) (by rw[q];rfl)) L;cases this
     rw[this,JG,if_pos L,hc];rfl
 ·refine gl (H.own i S e q) λa b c d f=>?_;have d':J i<n:=by rw[<- z];exact d
  refine⟨a,b,c,ck d' (jN C),λt=>?_⟩;rcases bP.mp t with e|t
  ·rw[e]at d';exact cQ _ d'
  ·refine aV (eh.mp t) λp I e=>?_;rw[<- e]at d';exact cQ _ (ck d' (jN (ok.empty p.1 p.2 I).2))
end
section
variable{w:aY}{A:bx}{F:Fx}{J:Nat->aJ}{Z Z':Fz}{O U:List S}{Y ν':List T}{s s':aL}{W:List aJ}
structure Ap (F:Fx) (J:Nat->aJ) (O:List S) (b:aJ):Prop where
 fa:b∉F.fa
 cel:∀ x,F.env.cells.lookup x≠some b
 own:∀ (i:Nat) (S:Mine.Internal.S),O[i]?=some S->S.adD->J i≠b
 base:F.h₀.objs.size<=b
theorem St.adR(H:St w F J Z O Y s)(N:cZ w F.nt W Z s Z' ν' s')(ap:∀ b∈W,Ap F J O b):St w F J Z' O ν' s':=by
 refine aU H.tab λt j=>⟨H.ok,N.on,H.md.le N.le (N.new _ (cg j.1.2)),N.nts,N.gens H.gens,λb o n e=>?_,?_,λa k=>⟨(N.new a (H.fz a k).2).trans (H.fz a k).1,ck (H.fz a k).2 N.size⟩,λx c hc=>?_,?_,λi S e o=>?_,H.inj⟩
 ·exact N.ext b o n (λq=>absurd (cg e) (lG.mpr (ap b q).base)) (H.base b o n e)
 ·exact aU (N.tab t j) λmore h=>⟨_,h⟩
 ·exact aU (H.cel x c hc) λv g=>⟨v,jq g λo=>N.ext c o (vf H.nts j g) λq=>(ap c q).cel x hc⟩
 ·refine aV H.vars λm p g=>(aS m (qu p λo=>N.ext _ o (zF H.nts j p) λq=>(ap _ q).fa H.ok.loc) (λi x S hi hs u=>aQ λy=>aV (g i x S hi hs u) λv z g=>y (aS v (z.ext λc o hc=>?_) (g.ext N.le λr o=>N.ext _ o (H.ae0 hs r) λq=>(ap _ q).own i S hs r rfl))));exact aU (H.cel x c hc) λB l=>N.ext c o (vf H.nts j l) λq=>(ap c q).cel x hc
 ·exact gl (H.own i S e o) λa b c d f=>⟨(N.new _ d).trans a,b,c,ck d N.size,f⟩
def gz(U O:List S):Prop:=∀ (i:Nat) (S:Mine.Internal.S),U[i]?=some S->S.adD->O[i]?=some S
theorem gz.refl(O:List S):gz O O:=λ_ _ e _=>e
theorem gz.trans{a b c:List S}(x:gz a b)(y:gz b c):gz a c:=λi S e o=>y i S (x i S e o) o
theorem gz.set{i:Nat}{t:T}:gz (O.set i (.v t)) O:=λj S e q=>by
 by_cases a:i=j
 ·subst a;by_cases b:i<O.length
  ·replace e:=fT b▸e;cases e;exact q.elim
  ·replace e:=List.set_eq_of_length_le (Ci b)▸e;exact e
 ·rwa [ed a]at e
theorem Ap.sub{b:aJ}(a:Ap F J O b)(h:gz U O):Ap F J U b:=⟨a.fa,a.cel,λi S e o=>a.own i S (h i S e o) o,a.base⟩
mutual
theorem tO{a:List Nat}:∀ {p:PT} {t:T} {O U:List S},bU a p t O=some U->gz U O
 |.nm i,t,O,U=>ca λ_ h=>bw h▸gz.set
 |.tp b,t,O,U=>aX λc _ h=>Fm h
theorem Fm{c:List Nat}:∀ {b:List PT} {a:List T} {O U:List S},kF c b a O=some U->gz U O
 |[],a,O,U=>ca λ_ h=>bw h▸.refl _
 |p::b,a,O,U=>aX λt _=>aX λI h1 h2=>(Fm h2).trans (tO h1)
end
structure Acc (w:aY) (F:Fx) (J:Nat->aJ) (O:List S) (D:aJ) (l:List T) (Z:Fz) (h:bh):Prop where
 z:Z D=none
 at_:∃ vs,h.PlainList D vs.toArray/\bm w Z l vs
 nt:F.nt≠some D
 lo:171<=D
 ap:Ap F J O D
theorem Acc.mu{D:aJ}{l:List T}{h:bh}(a:Acc w F J O D l Z h):¬Mu F.nt D:=by
 rintro (h|h)
 ·exact a.nt h
 ·have:=a.lo;replace this:=h▸this;exact absurd this (by decide)
theorem Acc.next{D:aJ}{l:List T}(a:Acc w F J O D l Z s.heap)(N:cZ w F.nt W Z s Z' ν' s')(hD:D∉W)(hs:gz U O):Acc w F J U D l Z' s'.heap:=by
 exact aV a.at_ λb h1 h2=>⟨(N.new D (jn h1)).trans a.z,(aS b (m9 h1 λo=>N.ext D o a.mu hD) (bm.mono N.le _ h2)),a.nt,a.lo,a.ap.sub hs⟩
theorem bm.app{Z:Fz}:∀ {l b:List T} {c a:List aI},bm w Z l c->bm w Z b a->bm w Z (l++b) (c++a):=by
 intro d;induction d with
 |nil=>
  intro b c a h e;replace h:_=_:=h;subst h;exact e
 |cons t r f=>
  intro b c a h e;refine aQ λg=>bG h λv i j h1 h2=>?_;clear h;subst j;refine g ?_;show bm w Z (t::(r++b)) (v::(i++a));exact(cE v _ rfl h1 (f h2 e))
end
section
variable{w:aY}{A:bx}{F:Fx}{J:Nat->aJ}{Z Z':Fz}{O U σ0:List S}{Y ν':List T}{s s':aL}{W fp:List aJ}
abbrev Ve:=List S->List T->Option (T×List T)
abbrev dc:=List S->List T->Option (Bool×List T)
def kN(w:aY)(A:bx)(F:Fx)(J:Nat->aJ)(d:List Expr)(a:dc):Prop:=
 ∀ ⦃O Y b ν' Z s⦄,St w F J Z O Y s->a O Y=some (b,ν')->∀ (Q:Bool->aL->Prop) (E:aI->aL->Prop),(∀ Z' s',Nx w F.nt Z s Z' ν' s'->Q b s')->
  bc (model pw w) A (forIn d true λc r=>if r=true then do let ok <- isTrue c F.env (eval c F.env);pure (kI ok)else pure (kI r)) Q E s
theorem fM:kN w A F J [] (λ_ Y=>some (true,Y)):=λ_ _ _ _ _ _ H h=>by
 cases h
 intro Q E a;exact wpAny_tests_nil (a _ _ H.nx)
theorem oP{c:Expr}{f:dc}(a:∀ {O Y b ν' Z s},St w F J Z O Y s->f O Y=some (b,ν')->Et w A F J Z O s c b ν'):kN w A F J [c] f:=λ_ _ _ _ _ _ H h Q E d=>
 wpAny_tests_one (a H h Q E d)
noncomputable def one(f:Ve):List S->List T->Option (List T×List T):=λO Y=>(f O Y).map λq=>([q.1],q.2)
def Ei(w:aY)(A:bx)(F:Fx)(J:Nat->aJ)(Z:Fz)(O:List S)(s:aL)(e:Expr)(f:Bool)(g:Option Nat)(items:List T)(ν':List T):Prop:=
 ∀ (Q:aI->aL->Prop) (E:aI->aL->Prop),(∀ d fp W P c Z' s',Nx w F.nt Z s Z' ν' s'->It w A F.nt f d fp W items P c->P 0 Z' s'.heap->(∀ b∈W,s.heap.objs.size<=b)->(∀ b∈fp,¬Mu F.nt b)->
   (∀ b∈fp,b∉F.fa/\∀ (j:Nat) (S:Mine.Internal.S),O[j]?=some S->S.adD->J j=b->g=some j)->Q (.ref d) s')->
  bc (model pw w) A (eval e F.env) (λx a=>bc (model pw w) A (jP x) Q E a) E s
noncomputable def jV(e:Expr):Bool:=!(e.ctorIdx.beq 7)
theorem yZ{e:Expr}{a:cz}(h:jV e=true)(x:aI):rL e a x=pure x:=by
 cases e<;>first|rfl|cases h
theorem abp{l:List (Str×NameKind)}(h:(l.map (·.1)).Nodup){x:Str}{a:NameKind}(b:(x,a)∈l):l.lookup x=some a:=by
 induction l with
 |nil=>cases b
 |cons p l d=>
  obtain⟨y,k⟩:=p;rw[cB,gu]at h;rw[pj];rcases bP.mp b with e|c
  ·cases e;simp
  ·have:x≠y:=by rintro rfl;exact h.1 (eh.mpr (aS _ c rfl))
   exact(show(x==y)=false by simpa using this)▸(d h.2 c)
theorem St.low(H:St w F J Z O Y s):F.h₀.objs.size<=s.heap.objs.size:=j8 (ff (H.ok.fah _ H.ok.loc) (H.fz _ H.ok.loc).2)
end
inductive Fl where
 |nx|ret (x:X)
section
variable{w:aY}{A:bx}{F:Fx}{mt mt':List Nat}{J α' α'':Nat->aJ}{Z Z' Z'':Fz}{O U σ'' σ0:List S}{Y ν' ν'':List T}{s s' s'':aL}{W V fp:List aJ}
def v8(w:aY)(F:Fx)(J:Nat->aJ)(O:List S)(Z:Fz)(h:bh):Fl->Flow->Prop
 |.nx,f=>f=.next
 |.ret x,f=>∃ v,f=.ret v/\RX w F J O F.h₀.objs.size Z h x v
structure cY (w:aY) (F:Fx) (mt:List Nat) (V:List aJ) (J:Nat->aJ) (O:List S) (Z:Fz) (s:aL) (α':Nat->aJ) (U:List S) (Z':Fz) (s':aL):Prop where
 le:Le Z Z'
 new:∀ b,b<s.heap.objs.size->Z' b=Z b
 ext:∀ b o,¬Mu F.nt b->b∉F.fa->b∉V->(∀ i∈mt,∀ (S:Mine.Internal.S),O[i]?=some S->S.adD->J i≠b)->s.heap.get? b=some o->s'.heap.get? b=some o
 size:s.heap.objs.size<=s'.heap.objs.size
 os:s'.os=s.os
 gens:mI s.gens->mI s'.gens
 tab:∀ ps,jy s.heap ps->∃ more,jy s'.heap (ps++more)
 own:∀ (i:Nat) (S:Mine.Internal.S),U[i]?=some S->S.adD->(∃ (S':Mine.Internal.S),O[i]?=some S'/\S'.adD/\J i=α' i)\/s.heap.objs.size<=α' i
theorem cY.trans(a:cY w F mt V J O Z s α' U Z' s')(b:cY w F mt V α' U Z' s' α'' σ'' Z'' s''):cY w F mt V J O Z s α'' σ'' Z'' s'' where
 le:=a.le.trans b.le
 new:=λx h=>(b.new x (ck h a.size)).trans (a.new x h)
 ext:=λx o h1 h2 hV h3 e=>b.ext x o h1 h2 hV (λi j S hi c q=>by
  rcases a.own i S hi c with ⟨d,h4,h5,h6⟩|h4
  ·exact h3 i j d h4 h5 (h6.trans q)
  ·replace h4:=q▸h4;exact absurd (ck (cg e) h4) (cQ _)) (a.ext x o h1 h2 hV h3 e)
 size:=bf a.size b.size
 os:=b.os.trans a.os
 gens:=λh=>b.gens (a.gens h)
 tab:=λk h=>by
  exact aQ λl=>aU (a.tab k h) λm h1=>aU (b.tab _ h1) λn h2=>l ⟨m++n,by refine xY▸?_;exact h2⟩
 own:=λi S hi c=>by
  rcases b.own i S hi c with ⟨d,h4,h5,h6⟩|h4
  ·rcases a.own i d h4 h5 with ⟨f,g,p,r⟩|g
   ·exact .inl (cI f g p (r.trans h6))
   ·exact .inr (h6▸g)
  ·exact .inr (bf a.size h4)
theorem cY.ofW(N:cZ w F.nt W Z s Z' ν' s')(hw:∀ b∈W,b∈F.fa\/b∈V\/∃ i∈mt,∃ (S:Mine.Internal.S),O[i]?=some S/\S.adD/\J i=b)(hs:∀ (i:Nat) (S:Mine.Internal.S),U[i]?=some S->S.adD->∃ (c:Mine.Internal.S),O[i]?=some c/\c.adD):cY w F mt V J O Z s J U Z' s' where
 le:=N.le
 new:=N.new
 ext:=λb o h1 h2 hV h3 e=>N.ext b o h1 (λq=>by
  rcases hw b q with q|q|⟨i,d,S,h4,h5,h6⟩
  ·exact h2 q
  ·exact hV q
  ·exact h3 i d S h4 h5 h6) e
 size:=N.size
 os:=N.os
 gens:=N.gens
 tab:=N.tab
 own:=λi S hi f=>.inl (aV (hs i S hi f) λc a b=>cI c a b rfl)
theorem cY.adM(N:Nx w F.nt Z s Z' ν' s'):cY w F mt V J O Z s J O Z' s':=.ofW (N.toW []) (nofun) λi S hi a=>(aS S hi a)
theorem cY.adX(N:cZ w F.nt F.fa Z s Z' ν' s')(hs:gz U O):cY w F mt V J O Z s J U Z' s':=.ofW N (λb c=>.inl c) λi S hi a=>(aS S (hs i S hi a) a)
theorem cY.more(N:cY w F mt V J O Z s α' U Z' s')(h:∀ i∈mt,i∈mt'):cY w F mt' V J O Z s α' U Z' s':={N with ext:=λb o h1 h2 hV h3 e=>N.ext b o h1 h2 hV (λi hi=>h3 i (h i hi)) e}
theorem cY.aej{V':List aJ}(N:cY w F mt V J O Z s α' U Z' s')(h:∀ b∈V,b∈V'):cY w F mt V' J O Z s α' U Z' s':={N with ext:=λb o h1 h2 hV h3 e=>N.ext b o h1 h2 (λq=>hV (h b q)) h3 e}
theorem cY.strip(N:cY w F mt V J O Z s α' U Z' s')(h:∀ b∈V,s.heap.objs.size<=b):cY w F mt [] J O Z s α' U Z' s':={N with ext:=λb o h1 h2 _ h3 e=>N.ext b o h1 h2 (λq=>absurd (cg e) (lG.mpr (h b q))) h3 e}
abbrev aP:=List S->List T->Option (X×List T)
abbrev bC:=List S->List T->Option (Fl×List S×List T)
def bu(w:aY)(A:bx)(F:Fx)(e:Expr)(f:aP):Prop:=∀ ⦃J O Y x ν' Z s⦄,St w F J Z O Y s->f O Y=some (x,ν')->Ev w A F J Z O s e x ν'
def dn(w:aY)(A:bx)(F:Fx)(mt:List Nat)(a:List dw)(g:bC):Prop:=∀ ⦃J O Y b U ν' Z s⦄,St w F J Z O Y s->g O Y=some (b,U,ν')->
 ∀ (Q:Flow->aL->Prop) (E:aI->aL->Prop),(∀ f α' Z' s',cY w F mt [] J O Z s α' U Z' s'->St w F α' Z' U ν' s'->v8 w F α' U Z' s'.heap b f->Q f s')->bc (model pw w) A (execs a F.env) Q E s
def eT(w:aY)(A:bx)(F:Fx)(mt:List Nat)(st:dw)(g:bC):Prop:=∀ ⦃J O Y a U ν' Z s⦄,St w F J Z O Y s->g O Y=some (a,U,ν')->
 ∀ (Q:Flow->aL->Prop) (E:aI->aL->Prop),(∀ f α' Z' s',cY w F mt [] J O Z s α' U Z' s'->St w F α' Z' U ν' s'->v8 w F α' U Z' s'.heap a f->Q f s')->bc (model pw w) A (exec st F.env) Q E s
noncomputable def cs:bC:=λO Y=>some (.nx,O,Y)
noncomputable def aZ(g1 g2:bC):bC:=λO Y=>(g1 O Y).bind λr=>match r.1 with
 |.nx=>g2 r.2.1 r.2.2
 |.ret x=>some (.ret x,r.2.1,r.2.2)
theorem cG:dn w A F mt [] cs:=λ_ _ _ _ _ _ _ _ H h=>by
 cases h
 intro Q E a;exact JK (a _ _ _ _ (.adM H.nx) H rfl)
theorem bq{st:dw}{a:List dw}{g1 g2:bC}(h1:eT w A F mt st g1)(h2:dn w A F mt a g2):dn w A F mt (st::a) (aZ g1 g2):=λJ O Y B U ν' Z s H=>by
 refine qb λb I G k h=>?_;intro Q E g;refine JL (h1 H k _ _ λf1 c l m i j d=>?_);cases b with
 |nx=>
  subst d;exact h2 j h Q E λf2 e n o p q t=>g f2 e n o (i.trans p) q t
 |ret x=>
  simp only[lL,mK]at h;refine aQ λu=>bO h λy f z=>?_;clear h;subst y;subst f;subst z;refine aV d λv f r=>?_;clear d;subst f;exact u (g _ c l m i j (aS v rfl r))
noncomputable def hY(f:aP):bC:=λO Y=>(f O Y).map λr=>(.ret r.1,O,r.2)
theorem i5{e:Expr}{pos:br}{f:aP}(h:bu w A F e f):eT w A F mt (.Return (some e) pos) (hY f):=λ_ _ _ _ _ _ _ _ H=>by
 refine km λx G a h2=>?_;simp only[mK]at h2;refine aQ λb=>bO h2 λc d g=>?_;clear h2;subst c;subst d;subst g;refine b ?_;intro Q E i;exact wpAny_Return_some (h H a _ _ λv Z' s' N r=>i _ _ Z' s' (.adM N) (H.next N) (aS v rfl (r.le H.low)))
noncomputable def gx(c:dc)(a b:bC):bC:=λO Y=>(c O Y).bind λr=>if r.1 then a O r.2 else b O r.2
def gA(w:aY)(A:bx)(F:Fx)(e:Expr)(f:dc):Prop:=∀ ⦃J O Y x ν' Z s⦄,St w F J Z O Y s->f O Y=some (x,ν')->Et w A F J Z O s e x ν'
theorem jj{c:Expr}{a b:List dw}{pos:br}{f:dc}{m n:bC}(h:gA w A F c f)(p:dn w A F mt a m)(q:dn w A F mt b n):eT w A F mt (.If c a b pos) (gx f m n):=λ_ _ _ _ _ _ _ _ H=>by
 refine bJ λt G r h2=>?_;intro Q E o;refine wpAny_If (h H r _ _ λu v e=>?_);cases t with
 |true=>exact p (H.next e) (by simpa using h2) Q E λf2 d g i j k l=>o f2 d g i ((cY.adM e).trans j) k l
 |false=>exact q (H.next e) (by simpa using h2) Q E λf2 d g i j k l=>o f2 d g i ((cY.adM e).trans j) k l
noncomputable def qX(value:Expr)(targets:List Expr):Bool:=match targets with
 |[_]=>!([8,9,10].elem value.ctorIdx)
 |_=>false
theorem AV{value t:Expr}{line:Nat}{a:cz}(h:qX value [t]=true):rB [t] value line a=pure false:=by
 show swapsWith value (some t) line a=pure false;cases value<;>first|rfl|cases h
noncomputable def bW(a:List Nat)(p:PT)(f:aP):bC:=λO Y=>(f O Y).bind λr=>(r.1.t?).bind λt=>(bU a p t O).map λU=>(.nx,U,r.2)
theorem xw(d:A.handled=none){t e:Expr}{pos:br}{p:PT}{f:aP}(h:bu w A F e f)(g:gP F.nm p t=true)(a:dS t=true)(hs:qX e [t]=true)(hw:nX [t] e F.env=pure none):
  eT w A F mt (.Assign [t] e pos) (bW F.wr p f):=λ_ _ _ _ _ _ _ _ H=>by
 refine bJ λx G i=>aX λB j=>cb λI b h4=>?_;simp only[mK]at h4;refine aQ λk=>bO h4 λl m n=>?_;clear h4;subst l;subst m;subst n;refine k ?_;intro Q E o;refine yg ((h H i).frz j _ _ λv q C c r=>?_) (AV hs) hw;have:(jt [t] F.env).map (·.2)=[iN t F.env]:=(BQ (env:=F.env) (es:=[t]) (by rw[gX,a];rfl)).2.2;refine this▸?_;show bc _ _ (iN t F.env v) _ _ _;exact vv d p g (H.next c) r b λu y z=>o _ _ q u ((cY.adM c).trans (.adX y (tO b))) z rfl
end
section
variable{w:aY}{A:bx}{F:Fx}{mt mt':List Nat}{J α' α'':Nat->aJ}{Z Z' Z'':Fz}{O U σ'' σ0:List S}{Y ν' ν'':List T}{s s' s'':aL}{W fp:List aJ}
noncomputable def j4(J:Nat->aJ)(i:Nat)(a:aJ):Nat->aJ:=λj=>if j=i then a else J j
theorem mB{i:Nat}{a:aJ}:j4 J i a i=a:=if_pos rfl
theorem ki{i j:Nat}{a:aJ}(h:j≠i):j4 J i a j=J j:=if_neg h
structure vE (F:Fx) (J:Nat->aJ) (Z:Fz) (O:List S) (s:aL) (i:Nat) (a:aJ):Prop where
 z:Z a=none
 lo:F.h₀.objs.size<=a
 nt:F.nt≠some a
 lt:a<s.heap.objs.size
 fa:a∉F.fa
 ap:∀ (j:Nat) (S:Mine.Internal.S),j≠i->O[j]?=some S->S.adD->J j≠a
theorem ww(H:St w F J Z O Y s){i:Nat}{x:Str}{K:Mine.Internal.S}{a:aJ}{v:aI}{Q:Unit->aL->Prop}{E:aI->aL->Prop}(hi:F.nm[i]?=some (some x))(hw:i∈F.wr)(hl:i<O.length)(r:dY w F.nt Z s.heap a K v)(l:K.adD)(D:vE F J Z O s i a)
  (hQ:∀ s',cZ w F.nt F.fa Z s Z Y s'->St w F (j4 J i a) Z (O.set i K) Y s'->Q () s'):bc (model pw w) A (storeName F.env x v) Q E s:=by
 refine aQ λnG=>aV H.vars λm M hv=>nG ?_;have G:∀ (f:bh) (L:dz) (c:aJ),c∈F.fa->gZ c s.heap f->cZ w F.nt F.fa Z s Z Y {s with heap:=f,toks:=L}:=λf L c hc hs=>
  eH H.nts H.on H.faW (λb o hb e=>(hs.2 b (λq=>hb (q▸hc))).trans e) (gV hs.1.symm)
 have gi:∀ (j:Nat) (S:Mine.Internal.S),(O.set i K)[j]?=some S->(j=i/\S=K)\/(j≠i/\O[j]?=some S):=λj S e=>by
  by_cases n:i=j
  ·subst n;replace e:=fT hl▸e;cases e;exact .inl ⟨rfl,rfl⟩
  ·replace e:=ed n▸e;exact .inr ⟨λq=>n q.symm,e⟩
 have other:∀ (f:bh) (c:aJ),c∈F.fa->gZ c s.heap f->∀ (j:Nat) (S:Mine.Internal.S) (u:aI),O[j]?=some S->dY w F.nt Z s.heap (J j) S u->dY w F.nt Z f (J j) S u:=λf c hc hs j S u e so=>
  so.ext (.refl _) λq o l=>(hs.2 (J j) (λ(q2:J j=c)=>(H.own j S e q).2.2.2.2 (q2.symm▸hc))).trans l
 have fin:∀ (f:bh) (L:dz) (c:aJ),c∈F.fa->gZ c s.heap f->(∀ y d,F.env.cells.lookup y=some d->∃ u,f.IsCell d u)->
   (∃ P,f.Ns F.env.locals P/\Look F.env P f x v/\∀ (j:Nat) y S u,j≠i->F.nm[j]?=some (some y)->O[j]?=some S->Look F.env m s.heap y u->Look F.env P f y u)->
   St w F (j4 J i a) Z (O.set i K) Y {s with heap:=f,toks:=L}:=λf L c hc hs R ⟨P,p,a1,V⟩=>by
  have N:=G f L c hc hs;refine aU H.tab λps ht=>⟨H.ok,N.on,H.md,N.nts,H.gens,λb o hb e=>?_,?_,λa ha=>⟨(H.fz a ha).1,?_⟩,R,(aS P p (λj y S n he a2=>?_)),λj S e q=>?_,λj k S S' e1 q1 e2 q2 g=>?_⟩
  ·have h1:=H.base b o hb e;have:b≠c:=λq=>absurd (cg e) (lG.mpr (q▸H.ok.fah c hc));exact(hs.2 b this).trans h1
  ·refine aU (N.tab ps ht) λmore h=>?_;exact⟨_,h⟩
  ·show a<f.objs.size;refine hs.1▸?_;exact(H.fz a ha).2
  ·rcases gi j S he with ⟨rfl,rfl⟩|⟨h1,h2⟩
   ·replace n:=hi▸n;cases n;exact(aS v a1 (mB▸(r.ext (.refl _) λ_ o l=>(hs.2 a (λ(q:a=c)=>D.fa (q.symm▸hc))).trans l)))
   ·exact aV (hv j y S n h2 a2) λu t a3=>(aS u (V j y S u h1 n h2 t) (ki h1▸(other f c hc hs j S u h2 a3)))
  ·rcases gi j S e with ⟨rfl,rfl⟩|⟨h1,h2⟩
   ·exact mB▸⟨D.z,D.lo,D.nt,by show a<f.objs.size;refine hs.1▸?_;exact D.lt,D.fa⟩
   ·exact ki h1▸(gl (H.own j S h2 q) λb1 b2 b3 b4 b5=>⟨b1,b2,b3,by show _<f.objs.size;refine hs.1▸?_;exact b4,b5⟩)
  ·rcases gi j S e1 with ⟨rfl,rfl⟩|⟨h1,h2⟩<;>rcases gi k S' e2 with ⟨rfl,rfl⟩|⟨h3,h4⟩
   ·rfl
   ·replace g:=ki h3▸mB▸g;exact absurd g.symm (D.ap k S' h3 h4 q2)
   ·replace g:=mB▸ki h1▸g;exact absurd g (D.ap j S h1 h2 q1)
   ·replace g:=ki h3▸ki h1▸g;exact H.inj j k S S' h2 q1 h4 q2 g
 rcases H.ok.wrk i hw x hi with hk|⟨hk,c,B,hc⟩
 ·refine acT hk M (λf p hs=>?_) (by refine H.ok.kf▸?_;rfl);refine hQ _ (G f _ _ H.ok.loc hs) (fin f _ _ H.ok.loc hs (λy d hd=>?_) (cI _ p (.inl ⟨hk,if_pos rfl⟩) (λj y S u I n he t=>?_)))
  ·exact aU (H.cel y d hd) λu hu=>⟨u,jq hu λo l=>(hs.2 d (λq=>qn M hu q.symm)).trans l⟩
  ·exact t.other (λ_=>if_neg (λ(q:y=x)=>I (H.ok.nmi j i x (by refine q▸?_;exact n) hi))) λd hd C=>jq C λo l=>(hs.2 d (λq=>qn M C q.symm)).trans l
 ·refine aU (H.cel x c B) λu0 X=>acU H.ok.kf hk B X λf p hs=>?_;have a4:F.env.locals≠c:=qn M X;refine hQ _ (G f _ _ hc hs) (fin f _ _ hc hs (λy d hd=>?_) (cI m (qu M λo l=>(hs.2 _ a4).trans l) (.inr (fu (.inl hk) c B p)) (λj y S u I n he t=>?_)))
  ·by_cases a0:d=c
   ·exact⟨_,a0▸p⟩
   ·exact aU (H.cel y d hd) λu hu=>⟨u,jq hu λo l=>(hs.2 d a0).trans l⟩
  ·refine t.other (λ_=>rfl) λd hd C=>jq C λo l=>(hs.2 d λ(q:d=c)=>?_).trans l;subst q;have:=H.ok.cap x y d B hd;subst this;exact I (H.ok.nmi j i x n hi)
noncomputable def X.own?:X->Option S
 |.fr l=>some (.own l)
 |.frd l=>some (.ownd l)
 |_=>none
noncomputable def jB(a:List Nat)(i:Nat)(f:aP):bC:=λO Y=>(f O Y).bind λr=>r.1.own?.bind λS=>if a.contains i/\i<O.length then some (.nx,O.set i S,r.2)else none
theorem IG(H:St w F J Z O Y s)(N:Nx w F.nt Z s Z' ν' s'){x:X}{b:Mine.Internal.S}{v:aI}(r:RX w F J O s.heap.objs.size Z' s'.heap x v)(e:x.own?=some b)(i:Nat):
  ∃ a,s.heap.objs.size<=a/\dY w F.nt Z' s'.heap a b v/\b.adD/\vE F J Z' O s' i a:=by
 have mk:∀ a,s.heap.objs.size<=a->Z' a=none->F.nt≠some a->a<s'.heap.objs.size->vE F J Z' O s' i a:=λa h1 h2 h3 h4=>
  ⟨h2,bf H.low h1,h3,h4,λq=>absurd (ck (H.fz a q).2 h1) (cQ _),λj S _ f g q=>absurd (ck (H.own j S f g).2.2.2.1 (q.symm▸h1)) (cQ _)⟩
 cases x with
 |fr l=>
  cases e
  exact iy r λa c e p1 p2 p3 p4 d=>(j0 a p1 (fu e c p4 d) trivial (mk a p1 p2 p3 (jn p4)))
 |frd l=>
  cases e
  exact iy r λa c e p1 p2 p3 p4 d=>(j0 a p1 (fu e c p4 d) trivial (mk a p1 p2 p3 (tU p4)))
 |_=>exact bD e
theorem GD{i:Nat}{a:aJ}{c:Mine.Internal.S}{n:Nat}(N:cZ w F.nt F.fa Z s Z' ν' s')(d:s.heap.objs.size<=a)(f:i<O.length):cY w F mt [] J O Z s (j4 J i a) (O.set i c) Z' s':=
 {cY.adX (J:=J) (O:=O) N (.refl _)with
  own:=λj S b e=>by
   by_cases h:i=j
   ·subst h;exact .inr (by refine mB▸?_;exact d)
   ·replace b:=ed h▸b;exact .inl (cI S b e ((ki (λq=>h q.symm)).symm))}
theorem aaz{y:Str}{e:Expr}{py pos:br}{i:Nat}{f:aP}(h:bu w A F e f)(hi:F.nm[i]?=some (some y))(hs:qX e [.Name y py]=true)(hw:nX [.Name y py] e F.env=pure none):
  eT w A F mt (.Assign [.Name y py] e pos) (jB F.wr i f):=λJ O Y D U ν' Z s H=>by
 refine bJ λx G j=>aX λk l=>ca λhc h3=>?_;simp only[lL,mK]at h3;refine aQ λb=>bO h3 λm o p=>?_;clear h3;subst m;subst o;subst p;refine b ?_;intro Q E q;refine yg (h H j _ _ λv d I c r=>?_) (AV hs) hw;show bc _ _ (iN (.Name y py) F.env v) _ _ _;refine aQ λb=>ng (IG H c r l i) λa t so u z=>b (yd (ww (H.next c) hi (by simpa using hc.1) hc.2 so u z λg B C=>q _ _ d g ?_ C rfl));exact {(GD (n:=0) ((c.toW F.fa).trans B) t hc.2:cY w F mt [] J O Z s (j4 J i a) (O.set i k) d g)with}
end
section
variable{w:aY}{A:bx}{F:Fx}{mt mt':List Nat}{J α' α'':Nat->aJ}{Z Z' Z'':Fz}{O U σ'' σ0:List S}{Y ν' ν'':List T}{s s' s'':aL}{W V fp:List aJ}
noncomputable def em(bind:T->List S->Option (List S))(g:bC):List T->bC
 |[],O,Y=>some (.nx,O,Y)
 |t::a,O,Y=>(bind t O).bind λI=>(g I Y).bind λr=>match r.1 with
  |.nx=>em bind g a r.2.1 r.2.2
  |.ret x=>some (.ret x,r.2.1,r.2.2)
structure mR (F:Fx) (mt:List Nat) (fp W:List aJ) (J:Nat->aJ) (O:List S):Prop where
 w:∀ b∈W,∀ (j:Nat) (S:Mine.Internal.S),O[j]?=some S->S.adD->J j≠b
 f:∀ b∈fp,∀ j∈mt,∀ (S:Mine.Internal.S),O[j]?=some S->S.adD->J j≠b
theorem mR.next(h:mR F mt fp W J O)(N:cY w F mt V J O Z s α' U Z' s')(e:∀ b∈fp,b<s.heap.objs.size)(g:∀ b∈W,b∈fp):mR F mt fp W α' U where
 w:=λb i j S k l=>by
  rcases N.own j S k l with ⟨m,a,c,d⟩|a
  ·refine d▸?_;exact h.w b i j m a c
  ·exact λq=>absurd (ck (e b (g b i)) (q▸a)) (cQ _)
 f:=λb i j n S k l=>by
  rcases N.own j S k l with ⟨m,a,c,d⟩|a
  ·refine d▸?_;exact h.f b i j n m a c
  ·exact λq=>absurd (ck (e b i) (q▸a)) (cQ _)
theorem Wp(hh:A.handled=none){tg:Bool}{I0:aJ}{items:List T}{P:Nat->Fz->bh->Prop}{a6:Nat->aI->Fz->bh->Prop}(h:It w A F.nt tg I0 fp W items P a6){target:Expr}{body:List dw}{p:PT}{g:bC}
  (a7:tg=true->ja target=true) (z:gP F.nm p target=true) (hB:dn w A F mt body g) (B:∀ b∈fp,b∉F.fa) (a8:∀ b∈fp,¬Mu F.nt b) (C:∀ b∈W,∀ x,F.env.cells.lookup x≠some b) (a9:∀ b∈W,F.h₀.objs.size<=b) {R:o8->aL->Prop} :
  ∀ (m:List T) (i:Nat) (J:Nat->aJ) (Z:Fz) (O:List S) (Y:List T) (s:aL) (D:Fl) (U:List S) (ν':List T),items.drop i=m->P i Z s.heap->St w F J Z O Y s->mR F mt fp W J O->
   em (bU F.wr p) g m O Y=some (D,U,ν')->
   (∀ f α' Z' s',cY w F mt W J O Z s α' U Z' s'->St w F α' Z' U ν' s'->v8 w F α' U Z' s'.heap D f->R (.ok f) s')->
   mL (model pw w) A (.forLoop target (.ref I0) body [] F.env) R s:=by
 have n:∀ {J:Nat->aJ} {O:List S},mR F mt fp W J O->∀ b∈W,Ap F J O b:=λl b c=>⟨λq=>B b (h.sub b c) q,C b c,l.w b c,a9 b c⟩;intro m;induction m with
 |nil=>
  intro i J Z O Y s D U ν' a hP H l d hR;cases d;refine yh ?_;show bc _ A ((forTurn target (.ref I0) body [] F.env).onRaise (λx=>do CM x F.env;JM x)) _ _ s;refine CN ?_
  delta forTurn
  refine ba (gr (ba (CO (h.done i Z s Y _ _ (by have:=congrArg j9 a;simp at this;exact lK (Ew this)) hP H.on H.nts λs1 E=>?_))));have G:=H.adR E (n l);exact cm ⟨rfl,codeAny_block (JK (hR _ J Z s1 (.ofW E (λb c=>.inr (.inl c)) λi S hi K=>(aS S hi K)) G rfl))⟩
 |cons t m ih=>
  intro i J Z O Y s D U ν' a hP H l d hR;have aj:i<items.length:=by
   have:=congrArg j9 a;simp only[yi,cK]at this;exact F3 this
  have aa:items[i]?=some t:=by
   have:(items.drop i)[0]?=some t:=by refine a▸?_;rfl
   simpa using this
  have k:items.drop (i+1)=m:=by
   have:(items.drop i).drop 1=m:=by refine a▸?_;rfl
   rwa [List.drop_drop]at this
  revert d;refine aX λI c=>?_;refine qb λab ad ae hg d=>yh ?_;show bc _ A ((forTurn target (.ref I0) body [] F.env).onRaise (λx=>do CM x F.env;JM x)) _ _ s;refine CN ?_
  delta forTurn
  refine ba (gr (ba (CO (h.item i t Z s Y _ _ aa hP H.on H.nts λv L s1 E r1 af=>?_))));have G:=H.adR E (n l);refine ba (h.go target i v L s1 Y _ _ a7 af G.on G.nts λs2 N2 M=>?_);have H2:=G.adR N2 (n l);refine ba (vv hh p z H2 (Rd.mono N2.le t r1) c λs3 N3 H3=>?_);have ag:cY w F mt W J O Z s J O L s2:=.ofW (E.trans N2) (λb c=>.inr (.inl c)) λi S hi K=>(aS S hi K);have S3:cY w F mt W J O L s2 J I L s3:=.adX N3 (tO c);have mT:=h.lt _ _ _ M;have fr:∀ {Za Zb:Fz} {sa sb:aL} {u αb:Nat->aJ} {y σb:List S},mR F mt fp W u y->∀ j,P j Za sa.heap->cY w F mt [] u y Za sa αb σb Zb sb->P j Zb sb.heap:=λ{Za Zb sa sb u αb y σb} Q j z N=>
   h.frame j Za Zb _ _ z N.le (λb c=>bO (h.ok _ _ _ z b c) λa1 a2 a3=>⟨(N.new b (h.lt _ _ _ z b (h.sub b c))).trans a1,a2,a3⟩) λb c o e=>N.ext b o (a8 b c) (B b c) (λq=>by cases q) (λi hi S hs K=>Q.f b c i hi S hs K) e
  have X:P (i+1) L s3.heap:=fr (αb:=J) (σb:=I) l _ M (.adX N3 (tO c));have a0:mR F mt fp W J I:=l.next S3 mT h.sub;refine ba (hB H3 hg _ _ λf a4 Z4 s4 N4 H4 o4=>?_);have a5:=(ag.trans S3).trans (N4.aej (V':=W) nofun);cases ab with
  |nx=>
   subst o4;have ah:=fr a0 _ X N4;have ai:=a0.next N4 (h.lt _ _ _ X) h.sub;exact cm ⟨rfl,ih (i+1) a4 Z4 ad ae s4 D U ν' k ah H4 ai d λf α' Z' s' N' H' o'=>hR f α' Z' s' (a5.trans N') H' o'⟩
  |ret x=>
   cases d
   refine aV o4 λv y1 r=>?_;subst y1;exact cm (hR _ a4 Z4 s4 a5 H4 (aS v rfl r))
noncomputable def fc(a:List Nat)(p:PT)(b:List S->List T->Option (List T×List T))(g:bC):bC:=λO Y=>(b O Y).bind λr=>em (bU a p) g r.1 O r.2
def gT(w:aY)(A:bx)(F:Fx)(e:Expr)(a:Bool)(b:Option Nat)(f:List S->List T->Option (List T×List T)):Prop:=∀ ⦃J O Y x ν' Z s⦄,St w F J Z O Y s->f O Y=some (x,ν')->Ei w A F J Z O s e a b x ν'
theorem Tb(B:A.handled=none){target iter:Expr}{body:List dw}{pos:br}{p:PT}{g:bC}{t:List S->List T->Option (List T×List T)}{u:Bool}{y:Option Nat}(C:gT w A F iter u y t)(c:jV iter=true)
  (k:u=true->ja target=true) (D:gP F.nm p target=true) (I:dn w A F mt body g) (l:∀ i∈mt,y≠some i):eT w A F mt (.For target iter body [] pos) (fc F.wr p t g):=λJ O Y K U ν' Z s H=>by
 refine bJ λitems G L h2=>?_;intro Q E M;refine wpAny_For (C H L _ _ λI0 fp W P N R X z IT m h n d=>?_) (yZ c);have H1:=H.next z;have hf:mR F mt fp W J O:=⟨λb a j S r e q=>absurd (ck (H.own j S r e).2.2.2.1 (q▸h b a)) (cQ _),λb a j hm S r e q=>l j hm ((d b a).2 j S r e q)⟩;refine Wp B IT k D I (λb a=>(d b a).1) n (λb a x q=>?_) (λb a=>bf H.low (h b a)) items 0 J R O G X K U ν' rfl m H1 hf h2 λf α' Z' s' N' H' o'=>?_
 ·exact eA (H.cel x b q) λv o e _=>absurd (ck (cg e) (h b a)) (cQ _)
 ·exact M f α' Z' s' (((cY.adM z).trans N').strip h) H' o'
end
structure tJ (scope:Scope) (nm:List (Option Str)) (ps:List Str):Prop where
 kf:scope.kind=.function
 nd:(scope.names.map (·.1)).Nodup
 nn:(nm.filterMap id).Nodup
 nf:∀ p∈scope.names,p.2≠.free
 lc:∀ (i:Nat) x,nm[i]?=some (some x)->scope.names.lookup x=some .local\/scope.names.lookup x=some .cell
 pd:ps.Nodup
 pk:∀ x∈ps,scope.names.lookup x=some .local\/scope.names.lookup x=some .cell
 pn:∀ (j:Nat) x,ps[j]?=some x->nm[j]?=some (some x)
 pl:∀ (i:Nat) x,nm[i]?=some (some x)->ps.length<=i->x∉ps
noncomputable def zb(a:Scope)(nm:List (Option Str))(b:List Str):Bool:=
 decide (a.kind=.function)&&decide ((a.names.map (·.1)).Nodup)&&decide ((nm.filterMap id).Nodup)&&(a.names.all λp=>p.2 != .free)&&
 (nm.all λo=>match o with|none=>true|some x=>a.names.lookup x==some .local||a.names.lookup x==some .cell)&&
 decide (b.Nodup)&&(b.all λx=>a.names.lookup x==some .local||a.names.lookup x==some .cell)&&((nm.take b.length)==b.map some)&&decide (b.length<=nm.length)&&
 ((nm.drop b.length).all λo=>match o with|none=>true|some x=>!(b.contains x))
theorem B8{a:Scope}{nm:List (Option Str)}{d:List Str}(h:zb a nm d=true):tJ a nm d:=
 bn (ee h) λh b=>bn (ee h) λh m=>bn (ee h) λh f=>bn (ee h) λh g=>bn (ee h) λh h6=>bn (ee h) λh h5=>bn (ee h) λh h4=>bn (ee h) λh h3=>bn (ee h) λh1 h2=>
 ⟨of_decide_eq_true h1,of_decide_eq_true h2,of_decide_eq_true h3,λp k=>bne_iff_ne.mp (c8.mp h4 p k),λi x hi=>(yf.mp (c8.mp h5 _ (ke hi))).imp dN dN,
  of_decide_eq_true h6,λx c=>(yf.mp (c8.mp g x c)).imp dN dN,
  λj x e=>(List.getElem?_take_of_lt (je.mp e).1).symm.trans ((congrArg (·[j]?) (dN f)).trans (fR.trans (congrArg (rp some) e))),
  λi x hi l c=>o9 ((U8 (c8.mp b (some x) (ke (List.getElem?_drop.trans ((I9 l).symm▸hi))))).symm.trans (pp.mpr c))⟩
theorem VG{k:Str->Option NameKind}{x:Str}:∀ (d:List (Str×aI)) (m:Str->Option aI),x∉d.map (·.1)->bindL k d m x=m x:=by
 intro a;induction a with
 |nil=>
  intro m _;exact rfl
 |cons b r c=>
  obtain⟨n,v⟩:=b;intro m h;simp only[cB,bP,not_or]at h;unfold bindL;rw[c _ h.2];split
  ·exact if_neg h.1
  ·rfl
theorem HZ{k:Str->Option NameKind}{x:Str}{v:aI}(hk:k x=some .local):∀ (c:List (Str×aI)) (m:Str->Option aI),(c.map (·.1)).Nodup->(x,v)∈c->bindL k c m x=some v
 |[],m,b,a=>(dP a).elim
 |(n,u)::r,m,b,a=>by
  rw[cB,gu]at b;unfold bindL;rcases bP.mp a with e|a
  ·cases e
   rw[VG r _ b.1,if_pos hk,if_pos rfl]
  ·exact HZ hk r _ b.2 a
theorem WN{k:Str->Option NameKind}{x:Str}:∀ (d:List (Str×aI)) (m:Str->Option aI),x∉d.map (·.1)->bindC k d m x=m x:=by
 intro a;induction a with
 |nil=>
  intro m _;exact rfl
 |cons b r c=>
  obtain⟨n,v⟩:=b;intro m h;simp only[cB,bP,not_or]at h;unfold bindC;rw[c _ h.2];split
  ·rfl
  ·exact if_neg h.1
theorem EW{k:Str->Option NameKind}{x:Str}{v:aI}(hk:k x≠some .local):∀ (c:List (Str×aI)) (m:Str->Option aI),(c.map (·.1)).Nodup->(x,v)∈c->bindC k c m x=some v
 |[],m,b,a=>(dP a).elim
 |(n,u)::r,m,b,a=>by
  rw[cB,gu]at b;unfold bindC;rcases bP.mp a with e|a
  ·cases e
   rw[WN r _ b.1,if_neg hk,if_pos rfl]
  ·exact EW hk r _ b.2 a
noncomputable def X.s?:X->Option S
 |.v t=>some (.v t)
 |.nts=>some .nts
 |_=>none
section
variable{w:aY}{A:bx}{F:Fx}{J:Nat->aJ}{Z Z':Fz}{O U:List S}{Y ν':List T}{s s':aL}
noncomputable def cH(c:Option aJ)(b:bh)(a:cz)(nm:List (Option Str)):Fx:={nt:=c,h₀:=b,env:=a,nm:=nm,fa:=a.locals::nm.filterMap (λo=>o.bind λx=>a.cells.lookup x),wr:=aO nm.length}
noncomputable def ic(nm:List (Option Str))(a:List S):List S:=a++CP (nm.length-a.length) .no
theorem Fd(Hn:fq w Z F.nt Y s.heap)(a5:On Z s.heap)(aa:Md w Z)(Hg:mI s.gens)(a6:∃ ps,jy s.heap ps)(ab:171<=s.heap.objs.size){d:Scope}{nm:List (Option Str)}{ps:List Str}{a0:Str}{f:aJ}{cd:aI}(h:tJ d nm ps){m:List X}{k:List aI}{ss:List S}(l:cR w F J O s.heap.objs.size Z s.heap m k)(hs:m.map X.s?=ss.map some)(a1:ps.length=m.length){Q:cz->aL->Prop}{E:aI->aL->Prop}
  (hQ:∀ g s',g.scope=d->g.qual=a0->g.code=cd->g.func=some f->g.frame=some g.locals->St w (cH F.nt s.heap g nm) J Z (ic nm ss) Y s'->Nx w F.nt Z s Z Y s'->Q g s') :
  bc (model pw w) A (CK d nY [] (ps.zip k) a0 (some f) cd none n0) Q E s:=by
 have ad:∀ {m:List X} {k:List aI},cR w F J O s.heap.objs.size Z s.heap m k->k.length=m.length:=by
  intro m;induction m with
  |nil=>intro k r;rw[show k=[]from r];rfl
  |cons x m ih=>rintro k ⟨v,vr,rfl,_,r⟩;rw[cK,cK,ih r]
 have ae:∀ x∈ps.zip k,d.names.lookup x.1=some .local\/(d.names.lookup x.1=some .cell/\((g6 (s.heap.objs.size+1) d.names []).lookup x.1).isSome=true):=λx l=>by
  have P:=(List.of_mem_zip l).1;rcases h.pk x.1 P with q|q
  ·exact .inl q
  ·exact .inr ⟨q,CL _ _ _ (.inl q)⟩
 refine wpAny_newFunctionEnv_cells h.kf ae λg he s' I0=>aQ λnG=>?_;obtain⟨⟨hh,tk,a2⟩,R,z,a3⟩:=I0.toInCall;refine nG ?_;have a7:s.heap.objs.size<=s'.heap.objs.size:=by
  exact my R λo es ep ho _=>j8 (ff a3 (cg ho))
 have N:Nx w F.nt Z s Z Y s':=by
  have:=(eH (tk:=tk) (W:=[]) (h':=hh) Hn a5 (nofun) (λb o _ e=>by have:=z b o e;rw[a2]at this;exact this) (by rw[a2]at a7;exact a7)).nx (nofun);rw[a2];exact this
 have B:g.scope=d:=by rw[he];rfl
 have V:g.cells=g6 (s.heap.objs.size+1) d.names []:=by rw[he];rfl
 have ek:∀ x,g.kindOf x=d.names.lookup x:=λx=>by rw[<- B];rfl
 have fresh:∀ b,s.heap.objs.size<=b->Z b=none:=λb hb=>by
  cases q:Z b with
  |none=>rfl
  |some o=>exact absurd (cg (a5 _ _ q)) (lG.mpr hb)
 have C:∀ {x c},g.cells.lookup x=some c->(x,c)∈g.cells:=λe=>mem_of_lookup e;have a9:∀ x c,(x,c)∈g.cells->g.locals<c:=I0.above;have D:∀ a∈(cH F.nt s.heap g nm).fa,a=g.locals\/∃ x,g.cells.lookup x=some a:=λa M=>by
  rcases bP.mp M with e|M
  ·exact .inl e
  ·refine aV (JH.mp M) λo ho e=>?_;cases o with
   |none=>simp at e
   |some x=>exact .inr ⟨x,e⟩
 have G:∀ a∈(cH F.nt s.heap g nm).fa,s.heap.objs.size<=a:=λa M=>by
  rcases D a M with e|⟨x,l⟩
  ·rw[e];exact a3
  ·exact j8 (ff a3 (I0.above x a (C l)))
 have n:∀ x,d.names.lookup x=some .cell->(g.cells.lookup x).isSome=true:=λx l=>by
  rw[V];exact CL _ _ _ (.inl l)
 have F':A1 (cH F.nt s.heap g nm):=by
  refine⟨by show g.scope.kind=_;rw[B];exact h.kf,by show g.globals=_;rw[he];rfl,by show g.builtins=_;rw[he];rfl,λx y c l hy=>name_of_addr I0.apart (C l) (C hy),G,.head _,λa M P=>?_,ab,λx hk=>?_,λi j x hi hj=>DO h.nn hi hj,λi hi x l=>?_⟩
  ·have a4:a<s.heap.objs.size:=by
    have:=Hn;rw[show F.nt=some a from M]at this;exact ej this λ_ k y _=>jn y
   exact absurd (ck a4 (G a P)) (cQ _)
  ·have af:d.names.lookup x=some .cell\/d.names.lookup x=some .free:=by
    have e:(cH F.nt s.heap g nm).env.kindOf x=d.names.lookup x:=ek x;rw[e]at hk;exact hk
   rcases af with q|q
   ·exact n x q
   ·exact absurd rfl (h.nf _ (mem_of_lookup q))
  ·have e:(cH F.nt s.heap g nm).env.kindOf x=d.names.lookup x:=ek x;rw[e];rcases h.lc i x l with q|q
   ·exact .inl q
   ·exact aU (pr.mp (n x q)) λc hc=>.inr (fu q c hc (.tail _ (JH.mpr (aS (some x) (ke l) hc))))
 have a8:ss.length=ps.length:=by
  have:=congrArg j9 hs;simp only[dm]at this;exact R9 a1 this
 have H:∀ (i:Nat) (S:Mine.Internal.S),(ic nm ss)[i]?=some S->S.adD->False:=λi S e o=>by
  unfold ic at e;rw[CQ]at e;split at e
  ·have P:some S∈ss.map some:=eh.mpr (aS S (ke e) rfl);rw[<- hs]at P;refine aQ λnG=>aV (eh.mp P) λx _ l=>nG ?_;cases x<;>first|(obtain rfl:=bw l;exact o)|exact nomatch l
  ·have:=ke e;rw[yj]at this;rw[this.2]at o;exact o
 have I:(ps.zip k).map (·.1)=ps:=by
  rw[List.map_fst_zip];rw[ad l,a1];exact cu _
 refine hQ g s' B (by rw[he];rfl) (by rw[he];rfl) (by rw[he];rfl) (by rw[he];rfl) ?_ N;refine⟨F',N.on,aa,N.nts,(N.gens Hg),λb o _ e=>z b o e,(a6.elim λps ht=>(N.tab ps ht).elim λmore h=>⟨_,h⟩),λa M=>⟨fresh a (G a M),?_⟩,λx c hc=>⟨_,I0.cell x c hc⟩,(aS _ R (λi x S hi K ag=>?_)),λi S e o=>(H i S e o).elim,λi j S S' e o=>(H i S e o).elim⟩
 ·rcases D a M with e|⟨x,l⟩
  ·rw[e];refine my R λo es ep ho _=>?_;clear R;exact cg ho
  ·refine aV (I0.cell x a l) λo ho _=>?_;exact cg ho
 ·unfold ic at K;rw[CQ]at K;split at K
  ·rename_i a4;have ah:ps[i]?=some x:=by
    have hp:i<ps.length:=abQ a8 a4;have e1:ps[i]?=some ps[i]:=gv hp;have:=h.pn i _ e1;have ai:nm[i]?=some (some x):=hi;rw[ai]at this;simp only[lL]at this;rw[e1,this]
   obtain⟨v,hv,r⟩:∃ v,k[i]?=some v/\∃ p,m[i]?=some p/\p.s?=some S/\RX w F J O s.heap.objs.size Z s.heap p v:=by
    have u:∃ p,m[i]?=some p/\p.s?=some S:=by
     have:(ss.map some)[i]?=some (some S):=by rw[fR,K];rfl
     rw[<- hs,fR]at this;revert this;refine cb λp h1 h2=>?_;exact(aS p h1 h2)
    refine aQ λnG=>aV u λp h1 h2=>?_;clear u;refine nG ?_;have key:∀ (m:List X) (k:List aI) (i:Nat),cR w F J O s.heap.objs.size Z s.heap m k->m[i]?=some p->∃ v,k[i]?=some v/\RX w F J O s.heap.objs.size Z s.heap p v:=by
     intro m;induction m with
     |nil=>intro k i _ e;simp at e
     |cons y ys ih=>
      rintro k i ⟨v,vr,rfl,r1,r2⟩ e;cases i with
      |zero=>simp only[JI,lL]at e;subst e;exact(aS v rfl r1)
      |succ i=>simp only[acX]at e ⊢;exact ih vr i r2 e
    exact aV (key m k i l h1) λv h3 h4=>(aS v h3 (cI p h1 h2 h4))
   refine aQ λnG=>eo r λp _ u rx=>?_;clear r;refine nG ?_;have P:(x,v)∈ps.zip k:=by
    rw[acW];exact⟨i,by rw[CR];exact⟨ah,hv⟩⟩
   refine(aS v ?_ ?_)
   ·have e:(cH F.nt s.heap g nm).env.kindOf x=d.names.lookup x:=ek x;rcases h.lc i x hi with q|q
    ·left;exact⟨e.trans q,HZ (e.trans q) _ _ (by rw[I];exact h.pd) P⟩
    ·right;refine aU (pr.mp (n x q)) λc hc=>?_;have L:=I0.cell x c hc;rw[EW (by rw[show g.kindOf x=_ from e,q];simp) _ _ (by rw[I];exact h.pd) P]at L;exact(fu (.inl (e.trans q)) c hc L)
   ·cases p with
    |v t=>obtain rfl:=bw u;exact Rd.mono N.le t rx
    |nts=>obtain rfl:=bw u;exact rx
    |_=>exact nomatch u
  ·have:=ke K;rw[yj]at this;exact absurd this.2 ag
theorem KI(H:St w F J Z O Y s){b:Scope}{nm:List (Option Str)}{e:List Str}{c:Str}{f:aJ}{i:aI}(h:tJ b nm e){g:List X}{j:List aI}{k:List S}(l:cR w F J O s.heap.objs.size Z s.heap g j)(hs:g.map X.s?=k.map some)(d:e.length=g.length){Q:cz->aL->Prop}{E:aI->aL->Prop}
  (m:∀ a s',a.scope=b->a.qual=c->a.code=i->a.func=some f->a.frame=some a.locals->St w (cH F.nt s.heap a nm) J Z (ic nm k) Y s'->Nx w F.nt Z s Z Y s'->Q a s') :
  bc (model pw w) A (CK b nY [] (e.zip j) c (some f) i none n0) Q E s:=
 Fd H.nts H.on H.md H.gens H.tab H.sz h l hs d m
end
noncomputable def X.res?:X->Option T
 |.v t=>some t
 |.fr l=>some (.lst l)
 |.frd l=>some (.dct l)
 |.bo _ l=>some (.lst l)
 |.bod _ l=>some (.dct l)
 |.nts=>none
noncomputable def AZ(nm:List (Option Str))(g:bC)(a:List S)(Y:List T):Option (T×List T):=(g (ic nm a) Y).bind λr=>match r.1 with
 |.ret x=>x.res?.map λt=>(t,r.2.2)
 |.nx=>none
section
variable{w:aY}{A:bx}{F:Fx}{J α':Nat->aJ}{Z Z':Fz}{O U:List S}{Y ν':List T}{s s':aL}
theorem RX.res{n:Nat}{x:X}{v:aI}{t:T}(H:St w F J Z O Y s)(y:F.h₀.objs.size<=n)(r:RX w F J O n Z s.heap x v)(e:x.res?=some t):
  ∃ c,Le Z c/\(∀ b,b<F.h₀.objs.size->c b=Z b)/\On c s.heap/\fq w c F.nt Y s.heap/\Rd w c t v:=by
 have mk:∀ a,F.h₀.objs.size<=a->Z a=none->F.nt≠some a->Le Z (put Z s.heap a)/\(∀ b,b<F.h₀.objs.size->put Z s.heap a b=Z b)/\On (put Z s.heap a) s.heap/\fq w (put Z s.heap a) F.nt Y s.heap:=λa h1 h2 h3=>by
  exact⟨gc h2,λb z=>jD (dW (ck z h1)),vJ H.on,fq.put H.nts h2 h3⟩
 cases x with
 |v D=>cases e;exact(nw Z (.refl _) (λ_ _=>rfl) H.on H.nts r)
 |fr l=>
  cases e
  refine aQ λf=>iy r λa g e h1 h2 h3 h h5=>?_;clear r;exact eo h.isList λo j hc hk=>fW (mk a (bf y h1) h2 h3) λd k m3 m=>f (nw _ d k m3 m (by exact(fw a o g e (gS.trans j) ⟨hc,hk⟩ (bm.mono d _ h5))))
 |frd l=>
  cases e
  refine aQ λf=>iy r λa g e h1 h2 h3 h4 h5=>?_;clear r;exact aV (ph.mp h4) λo j hc=>fW (mk a (bf y h1) h2 h3) λd k m3 m=>f (nw _ d k m3 m (by exact(fw a o g e (gS.trans j) hc (bY.mono d _ h5))))
 |bo i l=>
  cases e
  refine aQ λf=>oU r λe h1 g h h5=>?_;clear r;exact eo h.isList λo j hc hk=>gl (H.own i _ h1 trivial) λp q u B C=>fW (mk _ q p u) λd k m3 m=>f (nw _ d k m3 m (by exact(fw _ o g e (gS.trans j) ⟨hc,hk⟩ (bm.mono d _ h5))))
 |bod i l=>
  cases e
  refine aQ λf=>oU r λe h1 g h4 h5=>?_;clear r;exact aV (ph.mp h4) λo j hc=>gl (H.own i _ h1 trivial) λp q u B C=>fW (mk _ q p u) λd k m3 m=>f (nw _ d k m3 m (by exact(fw _ o g e (gS.trans j) hc (bY.mono d _ h5))))
 |nts=>exact bD e
theorem di.deeper{n:Nat}{A:bx}(r:di (n+1) A)(a:cz):di n (A.deeper a):=⟨by show A.depth+1+n<900;have:=r.d;exact SW this,by show A.units+3+8*n<9000;have:=r.u;exact Se this,r.h⟩
theorem Hl{n:Nat}(hR:di (n+1) A)(H:St w F J Z O Y s){fd:um}{f c:aJ}{o oc:bK}{body:List dw}{nm:List (Option Str)}{D:List Str}{mt:List Nat}{g:bC}{u:Array aI}{tk:dz}
  (ho:(HF w.params).get? f=some o) (hd:o.data=.func fd) (a0:f≠eB) (a3:(HF w.params).get? c=some oc) (a4:oc.data=.fields u) (hq:u[1]?=some (.str fd.qualname tk)) (K:c≠eB) (k:fd.code=.ref c)
  (a5:fd.scope.isCoroutine=false) (L:fd.scope.isGenerator=false) (y:fd.body=.stmts body) (a6:fd.globals=nY) (a7:fd.closure=[]) (a8:fd.builtins=n0)
  (a9:tJ fd.scope nm D) (z:∀ j:List aI,j.length=D.length->yk fd ⟨j,[]⟩=pure (D.zip j))
  (hB:∀ (A':bx) (nt:Option aJ) (M:bh) (a:cz),di n A'->a.scope=fd.scope->a.qual=fd.qualname++".<locals>."->a.code=.ref c->a.func=some f->a.frame=some a.locals->dn w A' (cH nt M a nm) mt body g)
  {l:List X} {j:List aI} {V:List S} {t:T} (N:cR w F J O s.heap.objs.size Z s.heap l j) (hs:l.map X.s?=V.map some) (m:D.length=l.length) (P:AZ nm g V Y=some (t,ν')) :
  mC w A F J Z O s (.ref f) j (.v t) ν':=λQ E hQ=>by
 unfold AZ at P;revert P;refine qb λfl U G e1 h2=>?_;cases fl with
 |nx=>exact bD h2
 |ret x=>
 revert h2;refine cb λt' e2 h3=>?_;simp only[mK]at h3;refine bn h3 λy0 y1=>?_;clear h3;subst y0;subst y1;have aa:∀ {l:List X} {j:List aI},cR w F J O s.heap.objs.size Z s.heap l j->j.length=l.length:=by
  intro l;induction l with
  |nil=>intro j r;refine(show j=[]from r)▸?_;rfl
  |cons x l ih=>rintro j ⟨v,vr,rfl,_,r⟩;rw[cK,cK,ih r]
 refine wpAny_call (JN (by have:=hR.d;show A.depth<1000;exact HM this) (i6 H.md H.on ho a0) hd a5 L y (vR c oc u tk ⟨k,i6 H.md H.on a3 K,a4,hq⟩) ?_);refine(z j (by rw[aa N,m]))▸?_;refine cm ?_;refine a6▸a7▸a8▸k▸(KI H a9 N hs m λa s1 h1 h2 h3 h4 h5 W p=>⟨rY W.md W.on,?_⟩);refine JO (hB (A.deeper a) F.nt s.heap a (hR.deeper a) h1 h2 h3 h4 h5 W e1 _ _ λfl ab Z2 s2 B H2 o2=>?_);refine aQ λR=>aV o2 λv y1 r2=>?_;clear o2;subst y1;refine AN (RX.res (F:=cH F.nt s.heap a nm) H2 (cu _) r2 e2) λZ3 m1 m2 m3 m4 m5=>R ?_;show Q v s2;have C:∀ (i:Nat) (S:Mine.Internal.S),(ic nm V)[i]?=some S->S.adD->False:=λi S e o=>by
  unfold ic at e;replace e:=CQ▸e;split at e
  ·have hm:some S∈V.map some:=eh.mpr (aS S (ke e) rfl);replace hm:=hs.symm▸hm;refine aQ λR=>aV (eh.mp hm) λx _ N=>R ?_;cases x<;>first|(obtain rfl:=bw N;exact o)|exact nomatch N
  ·have:=ke e;rw[yj]at this;replace o:=this.2▸o;exact o
 refine hQ v Z3 s2 ?_ m5;exact {
  le:=(p.le.trans B.le).trans m1
  new:=λb I=>(m2 b I).trans ((B.new b (ck I p.size)).trans (p.new b I))
  on:=m3
  ext:=λb o I e=>B.ext b o I (λq=>absurd (ck (cg e) (W.ok.fah b q)) (cQ _)) (λq=>by cases q) (λi _ S hi ho=>(C i S hi ho).elim) (p.ext b o I e)
  size:=bf p.size B.size
  nts:=m4
  gens:=λh=>B.gens (p.gens h)
  os:=B.os.trans p.os
  tab:=λD h=>by
   refine aQ λR=>aU (p.tab D h) λa1 b1=>aU (B.tab _ b1) λa2 b2=>R ?_;exact⟨a1++a2,by refine xY▸?_;exact b2⟩}
end
abbrev Wh:=List S->List T->Option (List X×List T)
noncomputable def dK(t:T):aP:=λO Y=>some (.v t,Y)
noncomputable def dV(i:Nat):aP:=λO Y=>(O[i]?).bind λS=>(S.x i).map λx=>(x,Y)
noncomputable def d2(h:T->T->Option X)(f g:aP):aP:=λO Y=>(f O Y).bind λa=>a.1.t?.bind λc=>(g O a.2).bind λb=>b.1.t?.bind λd=>(h c d).map λx=>(x,b.2)
noncomputable def dB(op:gf)(f g:aP):aP:=d2 (λa b=>(dp op a b).map .v) f g
noncomputable def dC(op:gq)(f g:aP):aP:=d2 (λa b=>(d9 op a b).map λc=>.v (.bool c)) f g
noncomputable def aR(f g:aP):aP:=λO Y=>(f O Y).bind λa=>(g O a.2).bind λb=>b.1.t?.bind λk=>(a.1.item k).map λt=>(.v t,b.2)
noncomputable def om(c:dc)(f g:aP):aP:=λO Y=>(c O Y).bind λb=>if b.1 then f O b.2 else g O b.2
noncomputable def tC(op:gq)(f g:aP):dc:=λO Y=>(f O Y).bind λa=>a.1.t?.bind λc=>(g O a.2).bind λb=>b.1.t?.bind λd=>(d9 op c d).map λx=>(x,b.2)
noncomputable def tV(f:aP):dc:=λO Y=>(f O Y).bind λa=>a.1.t?.bind λt=>(oh t).map λb=>(b,a.2)
noncomputable def tN(c:dc):dc:=λO Y=>(c O Y).map λb=>(!b.1,b.2)
noncomputable def lp:List aP->List S->List T->Option (List T×List T)
 |[],_,Y=>some ([],Y)
 |f::b,O,Y=>(f O Y).bind λa=>a.1.t?.bind λt=>(lp b O a.2).map λr=>(t::r.1,r.2)
noncomputable def cJ(a:List aP):aP:=λO Y=>(lp a O Y).map λr=>(.v (.tup r.1),r.2)
noncomputable def df(a:List aP):aP:=λO Y=>(lp a O Y).map λr=>(.fr r.1,r.2)
noncomputable def eR:List aP->Wh
 |[],_,Y=>some ([],Y)
 |f::b,O,Y=>(f O Y).bind λa=>(eR b O a.2).map λr=>(a.1::r.1,r.2)
noncomputable def bL(a:List aP)(k:List X->List T->Option (X×List T)):aP:=λO Y=>(eR a O Y).bind λr=>k r.1 r.2
theorem lm{f:aP}{b:List aP}{O:List S}{Y G a:List T}{x:X}{l:List X}(h1:f O Y=some (x,G))(h2:eR b O G=some (l,a)):eR (f::b) O Y=some (x::l,a):=aT h1 (da h2 rfl)
section
variable{w:aY}{A:bx}{F:Fx}{J:Nat->aJ}{Z Z':Fz}{O:List S}{Y ν':List T}{s s':aL}{mt:List Nat}
theorem XA{i:Int}{k pos}:bu w A F (.Constant (.int i) k pos) (dK (.int i)):=λ_ _ _ _ _ _ _ H=>by refine g8 ?_;exact Yr H
theorem TJ{i:Str}{k pos}:bu w A F (.Constant (.str i) k pos) (dK (.str i)):=λ_ _ _ _ _ _ _ H=>by refine g8 ?_;exact Th H
theorem Nj{k pos}:bu w A F (.Constant .none k pos) (dK .none):=λ_ _ _ _ _ _ _ H=>by refine g8 ?_;exact NJ H
theorem NG{b:Bool}{k pos}:bu w A F (.Constant (.bool b) k pos) (dK (.bool b)):=λ_ _ _ _ _ _ _ H=>by refine g8 ?_;exact Yv H
theorem Ld{b:UInt64}{k pos}:bu w A F (.Constant (.float b) k pos) (dK (.flt b)):=λ_ _ _ _ _ _ _ H=>by refine g8 ?_;exact Wd H
theorem aaI {id:Str} (i:Nat) {pos} (hi:F.nm[i]?=some (some id)) (hd:(id==("__debug__":Str))=false) (hc:(id==("__classdict__":Str))=false):bu w A F (.Name id pos) (dV i):=λ_ _ _ _ _ _ _ H=>by
 exact aX λS a=>cb λx b=>dR (Sz H hi a b hd hc)
theorem nK{a b:Expr}{op:gf}{pos}{f g:aP}(c:bu w A F a f)(d:bu w A F b g):bu w A F (.BinOp a op b pos) (dB op f g):=λ_ _ _ _ _ _ _ H=>by
 refine bJ λp G e=>aX λq i=>bJ λr j k=>aX λu l=>cb λx m h=>?_;revert m;refine cb λt n o=>?_;cases h;subst o;exact PC H ((c H e).frz i) (λZ' s' N=>(d (H.next N) k).frz l) n
theorem kg{a b:Expr}{op:gq}{pos}{f g:aP}(c:bu w A F a f)(d:bu w A F b g)(e:rE op b=false):bu w A F (.Compare a [op] [b] pos) (dC op f g):=λ_ _ _ _ _ _ _ H=>by
 refine bJ λq G i=>aX λr j=>bJ λu k l=>aX λv m=>cb λx n h=>?_;revert n;refine cb λt o p=>?_;cases h;subst p;exact Un H ((c H i).frz j) (λZ' s' N=>(d (H.next N) l).frz m) o e
theorem sF{a b:Expr}{pos}{f g:aP}(c:bu w A F a f)(d:bu w A F b g)(e:mY b=true):bu w A F (.Subscript a b pos) (aR f g):=λ_ _ _ _ _ _ _ H=>by
 exact bJ λn G h=>bJ λo i j=>aX λk l=>cb λt m=>dR (bM H (c H h) (λZ' s' N=>(d (H.next N) j).frz l) m e)
theorem HX{c a b:Expr}{pos}{t:dc}{f g:aP}(hc:gA w A F c t)(d:bu w A F a f)(e:bu w A F b g):bu w A F (.IfExp c a b pos) (om t f g):=λ_ _ _ _ _ _ _ H=>by
 refine bJ λi G j h=>Z8 H (hc H j) λZ' s' N=>?_;cases i with
 |true=>exact d (H.next N) (by simpa using h)
 |false=>exact e (H.next N) (by simpa using h)
theorem hJ{a b:Expr}{op:gq}{pos}{f g:aP}(c:bu w A F a f)(d:bu w A F b g)(e:rE op b=false):gA w A F (.Compare a [op] [b] pos) (tC op f g):=λ_ _ _ _ _ _ _ H=>by
 exact bJ λn G h=>aX λo i=>bJ λp j k=>aX λq l=>cb λx m=>dR (M7 H ((c H h).frz i) (λZ' s' N=>(d (H.next N) k).frz l) m e)
theorem AP{e:Expr}{f:aP}(a:bu w A F e f)(b:IW e=true):gA w A F e (tV f):=λ_ _ _ _ _ _ _ H=>by
 exact bJ λh G c=>aX λi d=>cb λx g=>dR (Sx ((a H c).frz d) g b)
theorem aaj{e:Expr}{pos}{f:dc}(a:gA w A F e f):gA w A F (.UnaryOp .Not e pos) (tN f):=λ_ _ _ _ _ _ _ H=>by
 exact km λc G b=>dR (Pe (a H b))
inductive aN (w:aY) (A:bx) (F:Fx):List Expr->List aP->Prop
 |nil:aN w A F [] []
 |cons {e es f fs}:bu w A F e f->dS e=true->aN w A F es fs->aN w A F (e::es) (f::fs)
theorem aN.ts{a:List Expr}{b:List aP}(h:aN w A F a b):∀ {J O Y l ν' Z s pos},St w F J Z O Y s->lp b O Y=some (l,ν')->qx w A F J Z O s pos a l ν':=by
 induction h with
 |nil=>intro J O Y l ν' Z s pos H h;revert h;refine g8 ?_;exact EO H
 |cons h1 c _ d=>
  intro J O Y l ν' Z s pos H h;revert h;refine bJ λj G e=>?_;exact aX λk f=>km λl2 g i=>dR (Vy H ((h1 H e).frz f) (λZ' s' N=>d (H.next N) i) c)
theorem aN.as{a:List Expr}{b:List aP}(h:aN w A F a b):∀ {J O Y l ν' Z s pos},St w F J Z O Y s->eR b O Y=some (l,ν')->gn w A F J Z O s pos a l ν':=by
 induction h with
 |nil=>intro J O Y l ν' Z s pos H h;revert h;refine g8 ?_;exact AO H
 |cons h1 c _ d=>
  intro J O Y l ν' Z s pos H h;revert h;refine bJ λi G e=>?_;exact km λl2 f g=>dR (BC H (h1 H e) (λZ' s' N=>d (H.next N) g) c)
theorem aN.plain{a:List Expr}{b:List aP}(h:aN w A F a b):a.all dS=true:=by
 induction h with
 |nil=>rfl
 |cons _ c _ d=>rw[gX,c,d];rfl
theorem aN.len{a:List Expr}{b:List aP}(h:aN w A F a b):a.length=b.length:=by
 induction h with
 |nil=>rfl
 |cons _ d _ c=>simp[c]
theorem H0:∀ {a:List aP} {O:List S} {Y:List T} {l ν'},lp a O Y=some (l,ν')->l.length=a.length:=by
 intro b;induction b with
 |nil=>
  intro _ _ _ _ h;cases h;rfl
 |cons f a c=>
  intro O Y l ν' h;revert h;refine bJ λg G i=>?_;refine aX λj k=>km λl2 d e h=>?_;cases h;simp[c e]
theorem fP{a:List Expr}{b:List aP}{k pos}(d:jr a.length 1000=true)(h:aN w A F a b):bu w A F (.Tuple a k pos) (cJ b):=λ_ _ _ _ _ _ _ H=>by
 exact km λl G c=>dR (eD H (h.ts H c) (by refine H0 c▸h.len▸?_;exact bf (xE d) (by decide)))
theorem mW{a:List Expr}{b:List aP}{pos}(d:jr a.length 1000=true)(h:aN w A F a b):bu w A F (.List a pos) (df b):=λ_ _ _ _ _ _ _ H=>by
 exact km λl G c=>dR (gp H (h.ts H c) (by refine H0 c▸h.len▸?_;exact bf (xE d) (by decide)))
theorem sU{pos}:bu w A F (.Dict [] [] pos) (λO Y=>some (.frd [],Y)):=λ_ _ _ _ _ _ _ H=>by refine g8 ?_;exact Zp H
def dH(w:aY)(A:bx)(F:Fx)(f:aI)(k:List X->List T->Option (X×List T)):Prop:=
 ∀ ⦃J O Y x ν' Z s n a b⦄,St w F J Z O Y s->F.h₀.objs.size<=n->n<=s.heap.objs.size->cR w F J O n Z s.heap a b->k a Y=some (x,ν')->mC w A F J Z O s f b x ν'
theorem fi{x:String}{id:String}{p pos:br}{e:Expr}{a:List Expr}{b:List aP}{k:List X->List T->Option (X×List T)}(d:qM x=some (.builtin id))(f:F.env.kindOf (aK x)=some .globalImplicit)
  (hd:(aK x==("__debug__":Str))=false) (c:aN w A F (e::a) b) (hc:dH w A F (.builtin id) k):bu w A F (.Call (.Name (aK x) p) (e::a) [] pos) (bL b k):=λ_ _ _ _ _ _ _ H=>by
 exact bJ λl G g h=>OV H f d hd (c.as H g) c.plain λm Z' s' i j r=>hc i H.low j r h
theorem sR{x:String}{id:String}{p pos:br}{e:Expr}{a:List Expr}{b:List aP}{k:List X->List T->Option (X×List T)}(d:qM x=some (.type id))(f:F.env.kindOf (aK x)=some .globalImplicit)
  (hd:(aK x==("__debug__":Str))=false) (c:aN w A F (e::a) b) (hc:dH w A F (.type id) k):bu w A F (.Call (.Name (aK x) p) (e::a) [] pos) (bL b k):=λ_ _ _ _ _ _ _ H=>by
 exact bJ λl G g h=>abE H f d hd (c.as H g) c.plain λm Z' s' i j r=>hc i H.low j r h
theorem fL{x:String}{f:aJ}{o:bK}{fd:um}{p pos:br}{e:Expr}{c:List Expr}{d:List aP}{k:List X->List T->Option (X×List T)}(i:AL x=some (.ref f))(j:F.env.kindOf (aK x)=some .globalImplicit)
  (hd:(aK x==("__debug__":Str))=false) (l:(HF w.params).get? f=some o) (a:o.data=.func fd) (b:f≠eB) (g:aN w A F (e::c) d) (hc:dH w A F (.ref f) k) :
  bu w A F (.Call (.Name (aK x) p) (e::c) [] pos) (bL d k):=λ_ _ _ _ _ _ _ H=>by
 exact bJ λt G m h=>VZ H j i hd l a b (g.as H m) g.plain λu Z' s' n q r=>hc n H.low q r h
end
noncomputable def fdOf(st:dw)(name:Str)(a:aI)(c:aJ):um:={name:=name,qualname:=name,params:=fA st,body:=.stmts (fB st),scope:=fS st,globals:=3,closure:=[],defaults:=.none,kwdefaults:=.none,doc:=.none,pyModule:=a,annotations:=none,code:=.ref c,closureTuple:=.none,builtins:=0}
noncomputable def jM(st:dw)(name:Str)(a:aI)(c:aJ):bK:=⟨.type "function",none,.func (fdOf st name a c),#[]⟩
theorem sk{P:List aI->Prop}(h:∀ a,P [a])(b:List aI)(c:b.length=1):P b:=by
 cases b with
 |nil=>exact absurd c (by decide)
 |cons a b=>cases b with
  |nil=>exact h a
  |cons=>exact absurd (yl c) (Nat.succ_ne_zero _)
theorem pC{P:List aI->Prop}(h:∀ a b,P [a,b])(c:List aI)(d:c.length=2):P c:=by
 cases c with
 |nil=>exact absurd d (by decide)
 |cons a c=>exact sk (P:=λl=>P (a::l)) (h a) c (yl d)
theorem sN{P:List aI->Prop}(h:∀ a b c,P [a,b,c])(d:List aI)(e:d.length=3):P d:=by
 cases d with
 |nil=>exact absurd e (by decide)
 |cons a d=>exact pC (P:=λl=>P (a::l)) (h a) d (yl e)
theorem aa4(l:List aI):l.length=2->∃ a b,l=[a,b]:=pC (P:=λl=>∃ a b,l=[a,b]) (λa b=>(dE a b rfl)) l
theorem VR(l:List aI):l.length=3->∃ a b c,l=[a,b,c]:=sN (P:=λl=>∃ a b c,l=[a,b,c]) (λa b c=>(dF a b c rfl)) l
theorem lt1{P:Nat->Prop}(h0:P 0)(j:Nat)(h:j<1):P j:=Nat.lt_one_iff.mp h▸h0
theorem mT{P:Nat->Prop}(h0:P 0)(h1:P 1)(j:Nat)(h:j<2):P j:=by
 cases j with
 |zero=>exact h0
 |succ j=>exact lt1 (P:=λj=>P (j+1)) h1 j (acY h)
theorem zz{P:Nat->Prop}(h0:P 0)(h1:P 1)(h2:P 2)(j:Nat)(h:j<3):P j:=by
 cases j with
 |zero=>exact h0
 |succ j=>exact mT (P:=λj=>P (j+1)) h1 h2 j (acY h)
noncomputable def cf(nm:List (Option Str))(np:Nat)(g:bC)(a:List X)(Y:List T):Option (X×List T):=
 if a.length=np then(a.mapM X.s?).bind λb=>(AZ nm g b Y).map λr=>(.v r.1,r.2)else none
theorem xB:∀ {c:List X} {b:List S},c.mapM X.s?=some b->c.map X.s?=b.map some:=by
 intro d;induction d with
 |nil=>
  intro b h;rw[List.mapM_nil]at h;exact bw h▸rfl
 |cons x c e=>
  intro b h;rw[List.mapM_cons]at h;revert h;refine aX λa f=>aX λr g h=>?_;rw[<- bw h,cB,cB,f,e g]
noncomputable def ab4:Data->Option aI
 |.fields a=>a[1]?
 |_=>none
noncomputable def strOf:aI->Option Str
 |.str n _=>some n
 |_=>none
noncomputable def codeAt(h:bh)(c:aJ)(name:Str):Bool:=((h.get? c).bind λo=>(ab4 o.data).bind strOf)==some name
theorem Fb{h:bh}{c:aJ}{name:Str}(e:codeAt h c name=true):∃ o a d,h.get? c=some o/\o.data=.fields a/\(a[1]?:Option aI)=some (.str name d):=by
 have e:=dN e;revert e;refine aX λo f=>aX λv b hs=>?_;refine⟨o,?_⟩;cases hd:o.data with
 |fields a=>
  rw[hd]at b;cases v with
  |str n d=>exact(cE a d f rfl (bw hs▸b))
  |_=>exact bD hs
 |_=>rw[hd]at b;exact bD b
section
variable{w:aY}{A:bx}{F:Fx}{J:Nat->aJ}{Z Z':Fz}{O:List S}{Y ν':List T}{s s':aL}{mt:List Nat}
theorem cR.at{n k:Nat}{h:bh}:∀ {a:List X} {g:List aI} {i:List S},a.map X.s?=i.map some->cR w F J O n Z h a g->cR w F J O k Z h a g:=by
 intro b;induction b with
 |nil=>
  intro _ _ _ r;exact r
 |cons x a c=>
  intro _ d;cases d with
  |nil=>
   intro e _;cases e
  |cons S i=>
   intro e f;refine bG f λv l m j o=>?_;rw[cB,cB]at e;injection e with p q
   refine(cE v l m ?_ (c q o));cases x with
   |v t=>exact j
   |nts=>exact j
   |_=>exact bD p
theorem kj(st:dw)(name:Str)(k:aI)(f c:aJ){n:Nat}(hR:di (n+1) A){nm:List (Option Str)}{ps:List Str}{g:bC}
  (z:(HF w.params).get? f=some (jM st name k c)) (l:f≠eB) (e:c≠eB) (b:codeAt (HF w.params) c name=true)
  (o:(fS st).isCoroutine=false) (h:(fS st).isGenerator=false) (p:zb (fS st) nm ps=true)
  (d:∀ j:List aI,j.length=ps.length->yk (fdOf st name k c) ⟨j,[]⟩=pure (ps.zip j))
  (B:∀ (v:bx) (C:Option aJ) (i:bh) (a:cz),di n v->a.scope=fS st->a.qual=name++".<locals>."->a.code=.ref c->a.func=some f->a.frame=some a.locals->dn w v (cH C i a nm) mt (fB st) g) :
  dH w A F (.ref f) (cf nm ps.length g):=λJ O Y x ν' Z s m M j H D E r=>by
 exact ca λG=>aX λN y=>km λt I K=>dR (s7 (Fb b) λP L Q q u hq=>Hl hR H (fd:=fdOf st name k c) z rfl l q u hq e rfl o h rfl rfl rfl rfl (B8 p) d B (cR.at (xB y) r) (xB y) G.symm K)
theorem dd{c:Option aJ}{a:bh}{b:cz}{nm:List (Option Str)}(i:Nat)(g:A.handled=none){x:Str}{e:Expr}{pos d:br}{f:aP}(hi:nm[i]?=some (some x))(hs:qX e [.Name x d]=true)(hw:nX [.Name x d] e b=pure none)
  (h:bu w A (cH c a b nm) e f) :
  eT w A (cH c a b nm) mt (.Assign [.Name x d] e pos) (bW (aO nm.length) (.nm i) f):=xw (F:=cH c a b nm) g h (show(nm[i]?==some (some x))=true from beq_iff_eq.mpr hi) rfl hs hw
end
section
variable{w:aY}{A:bx}{F:Fx}{mt mt':List Nat}{J α' α'':Nat->aJ}{Z Z' Z'':Fz}{O U σ'' σ0:List S}{Y ν' ν'':List T}{s s' s'':aL}{W fp:List aJ}
def nv(w:aY)(F:Fx)(J:Nat->aJ)(Z:Fz)(O:List S)(n:Nat)(s:aL)(x:X)(v:aI):Prop:=match x with
 |.v t=>Rd w Z t v
 |x=>∃ b a,x.own?=some b/\v=.ref a/\n<=a/\dY w F.nt Z s.heap a b v/\b.adD/\Z a=none/\F.h₀.objs.size<=a/\F.nt≠some a/\a<s.heap.objs.size/\a∉F.fa/\∀ (j:Nat) (S:Mine.Internal.S),O[j]?=some S->S.adD->J j≠a
noncomputable def X.adS:X->Bool
 |.fr _|.frd _=>true
 |_=>false
def qy(p q:X×aI):Prop:=p.1.adS=true->q.1.adS=true->p.2≠q.2
noncomputable def hO(a:List Nat)(i:Nat)(x:X)(O:List S):Option (List S):=if a.contains i/\i<O.length then match x with
  |.v t=>some (O.set i (.v t))
  |x=>x.own?.map λS=>O.set i S
 else none
noncomputable def mw(a:List Nat):List (Nat×X)->List S->Option (List S)
 |[],O=>some O
 |(i,x)::r,O=>(hO a i x O).bind λU=>mw a r U
theorem TZ{a:List Nat}{p:Nat×X}{r:List (Nat×X)}{O:List S}:mw a (p::r) O=(hO a p.1 p.2 O).bind λU=>mw a r U:=rfl
theorem dY.keep{b:Option aJ}{a:aJ}{c:S}{v:aI}{h d:bh}(r:dY w b Z h a c v)(k:∀ o,h.get? a=some o->d.get? a=some o):dY w b Z d a c v:=r.ext (.refl _) λ_ o=>k o
theorem AS{n:Nat}{x:X}{v:aI}(m:171<=n)(h:nv w F J Z O n s x v)(N:cZ w F.nt F.fa Z s Z Y s')
  (p:∀ a,v=.ref a->x.adS=true->∀ (j:Nat) (S:Mine.Internal.S),U[j]?=some S->S.adD->(∃ d,O[j]?=some d/\d.adD/\α' j=J j)\/α' j≠a):nv w F α' Z U n s' x v:=by
 have go:x.adS=true->(∃ b a,x.own?=some b/\v=.ref a/\n<=a/\dY w F.nt Z s.heap a b v/\b.adD/\Z a=none/\F.h₀.objs.size<=a/\F.nt≠some a/\a<s.heap.objs.size/\a∉F.fa/\∀ (j:Nat) (S:Mine.Internal.S),O[j]?=some S->S.adD->J j≠a)->
   (∃ b a,x.own?=some b/\v=.ref a/\n<=a/\dY w F.nt Z s'.heap a b v/\b.adD/\Z a=none/\F.h₀.objs.size<=a/\F.nt≠some a/\a<s'.heap.objs.size/\a∉F.fa/\∀ (j:Nat) (S:Mine.Internal.S),U[j]?=some S->S.adD->α' j≠a):=by
  rintro r ⟨b,a,h1,h2,h3,h4,h5,h6,u,k,y,c,f⟩;refine(dE b a ⟨h1,h2,h3,h4.keep λo e=>N.ext a o ?_ c e,h5,h6,u,k,ck y N.size,c,(λj S z B=>?_)⟩)
  ·rintro (q|q)
   ·exact k q
   ·replace h3:=q▸h3;exact absurd (bf m h3) (by decide)
  ·rcases p a h2 r j S z B with ⟨d,g,C,D⟩|g
   ·refine D▸?_;exact f j d g C
   ·exact g
 cases x with
 |v t=>exact h
 |fr l=>exact go rfl h
 |frd l=>exact go rfl h
 |bo i l=>refine eA h λb a h1 _=>?_;clear h;exact bD h1
 |bod i l=>refine eA h λb a h1 _=>?_;clear h;exact bD h1
 |nts=>refine eA h λb a h1 _=>?_;clear h;exact bD h1
inductive oH (w:aY) (A:bx) (F:Fx):List (aI->bA Unit)->List Nat->Prop
 |nil:oH w A F [] []
 |cons {t ts i is x}:F.nm[i]?=some (some x)->(∀ (v:aI) (Q:Unit->aL->Prop) (E:aI->aL->Prop) (s:aL),bc (model pw w) A (storeName F.env x v) Q E s->bc (model pw w) A (t v) Q E s)->oH w A F ts is->oH w A F (t::ts) (i::is)
theorem Eb{n:Nat}(hn:171<=n){M:List (aI->bA Unit)}{is:List Nat}(ht:oH w A F M is):∀ {xs:List X} {vs:List aI} {J:Nat->aJ} {O U:List S} {s:aL} {Q:Unit->aL->Prop} {E:aI->aL->Prop},xs.length=is.length->xs.length=vs.length->
  St w F J Z O Y s->(∀ p∈xs.zip vs,nv w F J Z O n s p.1 p.2)->(xs.zip vs).Pairwise qy->mw F.wr (is.zip xs) O=some U->
  (∀ α' s',cZ w F.nt F.fa Z s Z Y s'->(∀ (j:Nat) (S:Mine.Internal.S),U[j]?=some S->S.adD->(∃ (r:Mine.Internal.S),O[j]?=some r/\r.adD/\J j=α' j)\/n<=α' j)->St w F α' Z U Y s'->Q () s')->bc (model pw w) A (CH M vs) Q E s:=by
 induction ht with
 |nil=>
  intro xs vs J O U s Q E h1 h2 H N R B P;have g:xs=[]:=CS.mp h1;subst g;have z:vs=[]:=CS.mp h2.symm;subst z;cases B;exact acV (P J s (H.nx.toW _) (λj S e o=>.inl (cI S e o rfl)) H)
 |@cons t M i is x hi C _ ih=>
  intro xs vs J O U s Q E h1 h2 H N R B P;cases xs with
  |nil=>cases h1
  |cons X xs=>
  cases vs with
  |nil=>cases h2
  |cons v vs=>
  simp only[cK,Nat.add_right_cancel_iff]at h1 h2;rw[uv]at R;rw[uv]at N;rw[uv]at B;refine bn (acZ.mp R) λV D=>?_;rw[TZ]at B;revert B;refine aX λI d G=>?_;unfold hO at d;revert d;refine ca λhc d=>?_;have K:i∈F.wr:=by simpa using hc.1
  have p0:=N _ (Cx ..);have ps:=λp f=>N p (acF _ f);have c:X.adS=true->X.own?.map (λS=>O.set i S)=some I->(∃ u a,X.own?=some u/\v=.ref a/\n<=a/\dY w F.nt Z s.heap a u v/\u.adD/\Z a=none/\F.h₀.objs.size<=a/\F.nt≠some a/\a<s.heap.objs.size/\a∉F.fa/\∀ (j:Nat) (S:Mine.Internal.S),O[j]?=some S->S.adD->J j≠a)->
    bc (model pw w) A (CH (t::M) (v::vs)) Q E s:=by
   rintro hx hs ⟨u,a,y,q2,q3,q4,q5,q6,q7,q8,q9,a0,a1⟩;rw[y]at hs;cases hs;refine JF (C _ _ _ _ (ww H hi K hc.2 q4 q5 ⟨q6,q7,q8,q9,a0,λj S _ e o=>a1 j S e o⟩ λs1 L H1=>ih h1 h2 H1 (λp f=>AS hn (ps p f) L λb eb ob j S e o=>?_) D G λα' s2 N2 O2 H2=>P α' s2 (L.trans N2) (λj S e o=>?_) H2))
   ·by_cases h:i=j
    ·subst h;refine .inr ?_;rw[mB];intro q;exact V p f hx ob (by exact q2▸eb▸q▸rfl)
    ·replace e:=ed h▸e;exact .inl (cI S e o (ki (λq=>h q.symm)))
   ·rcases O2 j S e o with ⟨r,g,z,m⟩|g
    ·by_cases h:i=j
     ·subst h;replace m:=mB▸m;exact .inr (m▸q3)
     ·replace g:=ed h▸g;replace m:=(ki (λq=>h q.symm))▸m;exact .inl (cI r g z m)
    ·exact .inr g
  cases X with
  |v T=>
   cases d
   refine JF (C _ _ _ _ (AX H hi K hc.2 p0 λs1 L H1=>?_));have sub:∀ (j:Nat) (S:Mine.Internal.S),(O.set i (.v T))[j]?=some S->S.adD->O[j]?=some S:=λj S e o=>by
    by_cases h:i=j
    ·subst h;replace e:=fT hc.2▸e;cases e;exact o.elim
    ·rwa [ed h]at e
   refine ih h1 h2 H1 (λp f=>AS hn (ps p f) L λb eb ob j S e o=>.inl (cI S (sub j S e o) o rfl)) D G λα' s2 N2 O2 H2=>P α' s2 (L.trans N2) (λj S e o=>?_) H2;rcases O2 j S e o with ⟨r,g,z,m⟩|g
   ·exact .inl (cI r (sub j r g z) z m)
   ·exact .inr g
  |fr l=>exact c rfl d p0
  |frd l=>exact c rfl d p0
  |bo k l=>refine eA p0 λu a y _=>?_;clear p0;exact bD y
  |bod k l=>refine eA p0 λu a y _=>?_;clear p0;exact bD y
  |nts=>refine eA p0 λu a y _=>?_;clear p0;exact bD y
end
noncomputable def X.okX:X->Bool
 |.v _|.fr _|.frd _=>true
 |_=>false
noncomputable def gB(a:List Nat)(is:List Nat)(rev:Bool)(b:List aP):bC:=λO Y=>(eR b O Y).bind λr=>if r.1.all X.okX=true/\r.1.length=is.length then
  (mw a (if rev then is.reverse.zip r.1.reverse else is.zip r.1) O).map λU=>(.nx,U,r.2)else none
section
variable{w:aY}{A:bx}{F:Fx}{mt mt':List Nat}{J α' α'':Nat->aJ}{Z Z' Z'':Fz}{O U σ'' σ0:List S}{Y ν' ν'':List T}{s s' s'':aL}{W fp:List aJ}
theorem RX.ae1{n:Nat}{x:X}{v:aI}{h:bh}(r:RX w F J O n Z h x v)(b:x.adS=true):∃ a,v=.ref a/\n<=a/\a<h.objs.size:=by
 cases x with
 |fr l=>refine iy r λa c e p1 p2 p3 p4 d=>?_;clear r;exact(cI a e p1 (jn p4))
 |frd l=>refine iy r λa c e p1 p2 p3 p4 d=>?_;clear r;exact(cI a e p1 (tU p4))
 |_=>cases b
theorem VB(H:St w F J Z O Y s){x:X}{v:aI}(g:x.okX=true)(r:RX w F J O s.heap.objs.size Z' s'.heap x v):nv w F J Z' O s.heap.objs.size s' x v:=by
 have low:∀ a,s.heap.objs.size<=a->F.h₀.objs.size<=a/\a∉F.fa/\∀ (j:Nat) (S:Mine.Internal.S),O[j]?=some S->S.adD->J j≠a:=λa b=>
  ⟨bf H.low b,λq=>absurd (ck (H.fz a q).2 b) (cQ _),λj S e o q=>absurd (ck (H.own j S e o).2.2.2.1 (q.symm▸b)) (cQ _)⟩
 cases x with
 |v t=>exact r
 |fr l=>
  exact aQ λc=>iy r λa d e p1 p2 p3 p4 f=>bO (low a p1) λl1 l2 l3=>c (dE _ a ⟨rfl,e,p1,(fu e d p4 f),trivial,p2,l1,p3,jn p4,l2,l3⟩)
 |frd l=>
  exact aQ λc=>iy r λa d e p1 p2 p3 p4 f=>bO (low a p1) λl1 l2 l3=>c (dE _ a ⟨rfl,e,p1,(fu e d p4 f),trivial,p2,l1,p3,tU p4,l2,l3⟩)
 |_=>cases g
theorem cR.ae1{n:Nat}{h:bh}:∀ {c:List X} {i:List aI},cR w F J O n Z h c i->∀ p∈c.zip i,p.1.adS=true->∃ a,p.2=.ref a/\n<=a:=by
 intro d;induction d with
 |nil=>
  intro _ r p b _;simp at b
 |cons x c f=>
  intro _ g;refine bG g λv m e k l=>?_;intro p b j;subst e;replace b:=uv▸b;rcases bP.mp b with q|q
  ·subst q;exact eo (k.ae1 j) λa e h1 _=>(aS a e h1)
  ·exact f l p q j
theorem cR.len{n:Nat}{h:bh}:∀ {b:List X} {a:List aI},cR w F J O n Z h b a->b.length=a.length:=by
 intro c;induction c with
 |nil=>
  intro a r;have e:a=[]:=r;refine e▸?_;rfl
 |cons x b d=>
  intro _ f;refine bG f λv i e j g=>?_;subst e;simp[d g]
theorem cR.pend(H:St w F J Z O Y s):∀ {b:List X} {h:List aI},b.all X.okX=true->cR w F J O s.heap.objs.size Z' s'.heap b h->∀ p∈b.zip h,nv w F J Z' O s.heap.objs.size s' p.1 p.2:=by
 intro c;induction c with
 |nil=>
  intro _ _ r p a;simp at a
 |cons x b d=>
  intro _ f g;refine bG g λv k e i j=>?_;intro p a;subst e;rw[gX,fg]at f;replace a:=uv▸a;rcases bP.mp a with q|q
  ·subst q;exact VB H f.1 i
  ·exact d f.2 j p q
theorem aN.os{k:List Expr}{l:List aP}(h:aN w A F k l):∀ {J O Y c ν' Z s pos},St w F J Z O Y s->eR l O Y=some (c,ν')->∀ (Q:List aI->aL->Prop) (E:aI->aL->Prop),
  (∀ d Z' s',Nx w F.nt Z s Z' ν' s'->cR w F J O s.heap.objs.size Z' s'.heap c d->(c.zip d).Pairwise qy->Q d s')->bc (model pw w) A (ug (ka pos (ju k F.env))) Q E s:=by
 induction h with
 |nil=>intro J O Y c ν' Z s pos H h Q E g;cases h;exact n4 (g [] Z s H.nx rfl .nil)
 |cons h1 i _ q=>
  intro J O Y c ν' Z s pos H h Q E g;revert h;refine bJ λI G r=>?_;refine km λl2 t u h=>?_;cases h;refine lJ (h1 H r _ _ λv1 K L f m=>q (H.next f) u _ _ λd v x n o j=>g _ v x (f.trans n) (cE _ _ rfl (RX.next H.sz (H.next f) m n) (o.le f.size)) ?_) (eG i);refine uv▸(acZ.mpr ⟨λp i h1 h2 e=>?_,j⟩);refine aQ λy=>eo (m.ae1 h1) λa z _ B=>aV (o.ae1 p i h2) λb C D=>y ?_;dsimp only at e;replace e:=C▸z▸e;cases e;exact absurd (ck B D) (cQ _)
theorem EE:∀ {a b:Type} (l:List a) (r:List b),l.length=r.length->l.reverse.zip r.reverse=(l.zip r).reverse:=by
 intro a b l r h;exact(List.reverse_zipWith (f:=Prod.mk) h).symm
theorem MN:∀ {a:List aP} {O:List S} {Y:List T} {l ν'},eR a O Y=some (l,ν')->l.length=a.length:=by
 intro b;induction b with
 |nil=>
  intro _ _ _ _ h;cases h;rfl
 |cons f a c=>
  intro O Y l ν' h;revert h;refine bJ λg G i=>?_;refine km λl2 d e h=>?_;cases h;exact congrArg Nat.succ (c e)
theorem qy.symm{p q:X×aI}(h:qy p q):qy q p:=λa b e=>h b a e.symm
theorem FP(l:A.handled=none)(H:St w F J Z O Y s){d:List Expr}{e:List aP}{k:Nat}{pos:br}{b:List X}(c:aN w A F d e)(f:jr d.length 1000=true)(h:eR e O Y=some (b,ν'))(g:b.all X.okX=true)
  (Q:aI->aL->Prop) (E:aI->aL->Prop)
  (i:∀ a Z' s' t,Nx w F.nt Z s Z' ν' s'->b.length=a.length->(∀ p∈b.zip a,nv w F J Z' O s.heap.objs.size s' p.1 p.2)->(b.zip a).Pairwise qy->s'.heap.IsTuple t a.toArray->Q (.ref t) s') :
  bc (model pw w) A (eval (.Tuple d k pos) F.env) Q E s:=by
 refine wpAny_Tuple (c.os H h _ _ λa Z' s' N r ap=>⟨by refine r.len▸MN h▸c.len▸?_;exact bf (xE f) (by decide),?_⟩);have j:=N.push {cls:=.type "tuple",data:=.seq a.toArray};refine i a Z' _ _ j r.len (cR.pend H g ?_) ap (cI _ (dx _ rfl) rfl ⟨0,rfl⟩);exact cR.next H.sz (H.next N) ((H.next N).nx.push _) r
theorem EA(N:Nx w F.nt Z s Z' ν' s')(b:cZ w F.nt F.fa Z' s' Z' ν' s'')(c:∀ (j:Nat) (S:Mine.Internal.S),U[j]?=some S->S.adD->(∃ (a:Mine.Internal.S),O[j]?=some a/\a.adD/\J j=α' j)\/s.heap.objs.size<=α' j):
  cY w F mt [] J O Z s α' U Z' s'':=
 {cY.adX (J:=J) (O:=O) (mt:=mt) ((N.toW F.fa).trans b) (.refl _)with own:=c}
theorem YI:∀ {is:List Nat} {a:List Expr},oW F.nm (is.map .nm) a=true->oH w A F (a.map λe=>iN e F.env) is:=by
 intro b;induction b with
 |nil=>
  intro a h;exact n5.mp h▸.nil
 |cons i is c=>
  intro d;cases d with
  |nil=>
   intro h;exact ni h
  |cons e a=>
   intro h;exact bn (ee h) λh1 h3=>eA (IR (ee h1).1) λx pos y f=>y▸.cons f (λv Q E s h=>yd h) (c h3)
theorem IF{n:Nat}{x:X}{v:aI}(a:171<=n)(h:nv w F J Z O n s x v)(N:Nx w F.nt Z s Z Y s'):nv w F J Z O n s' x v:=
 AS a h (N.toW F.fa) λ_ _ _ j S e o=>.inl (cI S e o rfl)
theorem tT(r:A.handled=none){d f:List Expr}{k u:Nat}{a c pos:br}{is:List Nat}{v:List aP}(hw:nX [.Tuple d k a] (.Tuple f u c) F.env=pure none)(x:oW F.nm (is.map .nm) d=true)
  (C:jr f.length 1000=true) (g:aN w A F f v):eT w A F mt (.Assign [.Tuple d k a] (.Tuple f u c) pos) (gB F.wr is false v):=λJ O Y fl U ν' Z s H=>by
 refine bJ λxs G D=>ca λhc=>cb λI K L=>?_;cases L;intro Q E M;refine yg (FP r H g C D hc.1 _ _ λN y h t z B i j P=>?_) rfl hw;have h1:=Gg x;refine aQ λR=>bO (BQ (env:=F.env) h1.1) λV X q3=>R ?_;have hn:(jt d F.env).length=N.toArray.size:=by rw[V,eY,<- B,hc.2,<- h1.2,dm]
 show bc _ _ (iN (.Tuple d k a) F.env (.ref t)) _ _ _;refine FM hn X (e9 (JE r P λh' he l=>q3▸?_));have m:=H.next z;have n:Nx w F.nt y h y G {h with heap:=h'}:=by
  refine(eH (tk:=h.toks) (W:=[]) m.nts m.on (nofun) (λb o _ e=>he b o (dW (cg e)) e) l).nx (nofun)
 exact Eb H.sz (YI x) hc.2 B (m.next n) (λp q=>IF H.sz (i p q) n) j K λα' s2 N3 O3 H3=>M _ _ _ _ (EA (z.trans n) N3 O3) H3 rfl
theorem X5:∀ {is:List Nat} {a:List Str},(a.map some==is.map λi=>(F.nm[i]?).getD none)=true->oH w A F (a.map λn=>bindName F.env n) is:=by
 intro b;induction b with
 |nil=>
  intro c;cases c with
  |nil=>
   intro _;exact .nil
  |cons _ _=>
   intro h;cases h
 |cons i is d=>
  intro e;cases e with
  |nil=>
   intro h;cases h
  |cons n a=>
   intro h;simp only[cB,List.cons_beq_cons,fg,beq_iff_eq]at h;refine .cons (x:=n) ?_ (λv Q E s h=>wpAny_bindName h) (d (by simpa using h.2));cases q:F.nm[i]? with
   |none=>rw[q]at h;cases h.1
   |some o=>rw[q]at h;exact(show some n=o from h.1)▸rfl
theorem HG(B:A.handled=none){C j:List Expr}{k D:Nat}{a c pos:br}{is:List Nat}{names:List Str}{I:List aP}(hw:nX [.Tuple C k a] (.Tuple j D c) F.env=pure (some names))(d:(names.map some==is.map λi=>(F.nm[i]?).getD none)=true)
  (N:jr j.length 1000=true) (m:aN w A F j I):eT w A F mt (.Assign [.Tuple C k a] (.Tuple j D c) pos) (gB F.wr is true I):=λJ O Y fl U ν' Z s H=>by
 refine bJ λP G R=>ca λhc=>cb λV X hg=>?_;cases hg;intro Q E hQ;have f:names.length=is.length:=by
  have:=congrArg j9 (dN d);simpa using this
 refine Assign_Tuple_swapped (FP B H m N R hc.1 _ _ λK L q t M l r u ht=>?_) rfl hw;have hn:names.length=K.toArray.size:=by rw[eY,<- l,hc.2,f]
 refine hn▸(e9 (JE B ht λh' he v=>?_));have x:=H.next M;have y:Nx w F.nt L q L G {q with heap:=h'}:=by
  refine(eH (tk:=q.toks) (W:=[]) x.nts x.on (nofun) (λb o _ e=>he b o (dW (cg e)) e) v).nx (nofun)
 have z:oH w A F (names.reverse.map λn=>bindName F.env n) is.reverse:=X5 (by
  rw[ad0,ad0,dN d];simp)
 refine Eb H.sz z (xs:=P.reverse) (vs:=K.reverse) (by simpa using hc.2) (by simpa using l) (x.next y) (λp g=>?_) ?_ X λα' s2 N3 O3 H3=>?_
 ·rw[EE _ _ l,CT]at g;exact IF H.sz (r p g) y
 ·rw[EE _ _ l,List.pairwise_reverse];exact u.imp λh=>h.symm
 ·exact hQ _ _ _ _ (EA (M.trans y) N3 O3) H3 rfl
end
noncomputable def X.ow:X->Option Nat
 |.bo i _=>some i
 |.bod i _=>some i
 |_=>none
noncomputable def X.box:X->Bool
 |.v (.lst _)|.v (.tup _)|.v (.dct _)|.fr _|.frd _|.bo ..|.bod ..=>true
 |_=>false
section
variable{w:aY}{A:bx}{F:Fx}{mt mt':List Nat}{J α' α'':Nat->aJ}{Z Z' Z'':Fz}{O U σ'' σ0:List S}{Y ν' ν'':List T}{s s' s'':aL}{W fp:List aJ}
theorem oD(H:St w F J Z O Y s)(N:Nx w F.nt Z s Z' ν' s'){x:X}{l:aJ}(k:x.box=true)(r:RX w F J O s.heap.objs.size Z' s'.heap x (.ref l)):
  ¬Mu F.nt l/\l∉F.fa/\∀ (j:Nat) (S:Mine.Internal.S),O[j]?=some S->S.adD->J j=l->x.ow=some j:=by
 have f:=H.next N;refine aU f.tab λy p=>?_;have d:∀ o,Z' l=some o->(match o.data with|.fields _=>o.cls≠.none|_=>True)->¬Mu F.nt l/\l∉F.fa/\∀ (j:Nat) (S:Mine.Internal.S),O[j]?=some S->S.adD->J j=l->(none:Option Nat)=some j:=λo b hd=>by
  refine⟨?_,λq=>?_,λj S e u q=>?_⟩
  ·rintro (q|rfl)
   ·have:=f.nts;replace this:=(show F.nt=some l from q)▸this;replace b:=this.1▸b;exact bD b
   ·have h2:=p.1.2;replace h2:=f.on _ _ b▸h2;cases h2;exact hd rfl
  ·replace b:=(f.fz l q).1▸b;exact bD b
  ·have:=(f.own j S e u).1;replace this:=b▸q▸this;cases this
 have fresh:s.heap.objs.size<=l->F.nt≠some l->¬Mu F.nt l/\l∉F.fa/\∀ (j:Nat) (S:Mine.Internal.S),O[j]?=some S->S.adD->J j=l->(none:Option Nat)=some j:=λh1 h2=>by
  refine⟨?_,λq=>absurd (ck (H.fz l q).2 h1) (cQ _),λj S e o q=>absurd (ck (H.own j S e o).2.2.2.1 (q.symm▸h1)) (cQ _)⟩;rintro (q|rfl)
  ·exact h2 q
  ·exact absurd (bf H.sz h1) (by decide)
 cases x with
 |v t=>
  cases t with
  |lst t=>
   refine aQ λc=>gH r λa o h e b g m=>?_;clear r;refine c ?_;cases e;exact aU g.2 λn hd=>d o b (by refine hd▸?_;trivial)
  |tup t=>
   refine aQ λc=>gH r λa o h e b g m=>?_;clear r;refine c ?_;cases e;exact aU g.2 λn hd=>d o b (by refine hd▸?_;trivial)
  |dct t=>
   refine aQ λc=>gH r λa o h e b g m=>?_;clear r;refine c ?_;cases e;exact bG g λ_ z B hd _=>d o b (by refine hd▸?_;trivial)
  |_=>cases k
 |fr t=>refine nN r λa h e h1 h2 h3 _=>?_;clear r;cases e;exact fresh h1 h3
 |frd t=>refine nN r λa h e h1 h2 h3 _=>?_;clear r;cases e;exact fresh h1 h3
 |bo i t=>
  refine aQ λc=>bO r λe h1 _=>?_;clear r;refine c ?_;cases e;exact⟨H.ae0 h1 trivial,(H.own i _ h1 trivial).2.2.2.2,λj S e o q=>by refine H.inj j i S _ e o h1 trivial q▸?_;rfl⟩
 |bod i t=>
  refine aQ λc=>bO r λe h1 _=>?_;clear r;refine c ?_;cases e;exact⟨H.ae0 h1 trivial,(H.own i _ h1 trivial).2.2.2.2,λj S e o q=>by refine H.inj j i S _ e o h1 trivial q▸?_;rfl⟩
 |nts=>cases k
theorem td(H:St w F J Z O Y s)(N:Nx w F.nt Z s Z' ν' s'){x:X}{l:aJ}{g:Option Nat}{h:Bool}{items:List T}{o:bK}{P:Nat->Fz->bh->Prop}{c:Nat->aI->Fz->bh->Prop}(k:x.box=true)(f:x.ow=g)
  (r:RX w F J O s.heap.objs.size Z' s'.heap x (.ref l)) (v:o.isFreed=false)
  (m:It w A F.nt h s'.heap.objs.size [s'.heap.objs.size,l] [s'.heap.objs.size] items P c) (n:fb F.nt Z' [s'.heap.objs.size]->P 0 Z' (s'.heap.push o)) {Q:aI->aL->Prop}
  (p:∀ i fp W P c Z' s',Nx w F.nt Z s Z' ν' s'->It w A F.nt h i fp W items P c->P 0 Z' s'.heap->(∀ b∈W,s.heap.objs.size<=b)->(∀ b∈fp,¬Mu F.nt b)->
   (∀ b∈fp,b∉F.fa/\∀ (j:Nat) (S:Mine.Internal.S),O[j]?=some S->S.adD->J j=b->g=some j)->Q (.ref i) s'):Q (.ref s'.heap.objs.size) {s' with heap:=s'.heap.push o}:=by
 subst f;refine aQ λt=>bO (oD H N k r) λh1 h2 h3=>t ?_;have d:s.heap.objs.size<=s'.heap.objs.size:=N.size;have u:¬Mu F.nt s'.heap.objs.size:=by
  rintro (q|q)
  ·exact N.adP q
  ·replace d:=q▸d;exact absurd (bf H.sz d) (by decide)
 refine p s'.heap.objs.size _ _ P c Z' _ (N.push o) m (n λb a=>?_) (λb a=>?_) (λb a=>?_) λb a=>?_
 ·simp only[bP,dP,or_false]at a;subst a;exact⟨N.fresh,bf H.sz d,N.adP⟩
 ·simp only[bP,dP,or_false]at a;subst a;exact d
 ·simp only[bP,dP,or_false]at a;rcases a with rfl|rfl
  ·exact u
  ·exact h1
 ·simp only[bP,dP,or_false]at a;rcases a with rfl|rfl
  ·exact⟨λq=>absurd (ck (H.fz _ q).2 d) (cQ _),λj S e o q=>absurd (ck (H.own j S e o).2.2.2.1 (q.symm▸d)) (cQ _)⟩
  ·exact⟨h2,h3⟩
noncomputable def iL(b:Option Nat)(f:aP):List S->List T->Option (List T×List T):=λO Y=>(f O Y).bind λa=>if a.1.ow=b then a.1.adH.map λl=>(l,a.2)else none
theorem hH(m:A.handled=none){e:Expr}{f:aP}(i:Option Nat)(h:bu w A F e f):gT w A F e false i (iL i f):=λJ O Y items ν' Z s H=>by
 refine bJ λx G n=>ca λc=>cb λl b p=>?_;cases p;intro Q E q;refine h H n _ _ λv I r j k=>?_;have u:=H.next j;have y:x.box=true:=by
  revert b;cases x with
  |v t=>cases t<;>intro b<;>first|rfl|cases b
  |_=>intro b<;>first|rfl|cases b
 refine aQ λz=>bG (RX.lst u.on k b) λa B C d D=>?_;subst C;refine z (JD d ?_);have g:a≠r.heap.objs.size:=dW (mU d);exact td H j y c k rfl (It.list m _ a g items B) (λhw=>⟨(cI _ (dx _ rfl) rfl rfl),oa d λo e=>cA _ e,D,hw⟩) q
noncomputable def iT(f:aP):List S->List T->Option (List T×List T):=λO Y=>(f O Y).bind λa=>a.1.adJ.map λl=>(l,a.2)
theorem RB(u:A.handled=none){e:Expr}{f:aP}(h:bu w A F e f):gT w A F e false none (iT f):=λJ O Y items ν' Z s H=>by
 refine bJ λx G y=>cb λl b z=>?_;cases z;intro Q E B;refine h H y _ _ λv L d m n=>?_;have C:=H.next m;have p:x.box=true/\x.ow=none:=by
  revert b;cases x with
  |v t=>cases t<;>intro b<;>first|exact⟨rfl,rfl⟩|cases b
  |_=>intro b;cases b
 refine aQ λD=>bG (RX.tup C.on n b) λa q I g K=>?_;subst I;refine D ?_;have c:d.heap.IsTuple a q.toArray:=g;refine wpAny_pyIter_tuple c ?_;have i:a<d.heap.objs.size:=by refine aV g λo j _=>?_;clear g;exact cg j
 have k:a≠d.heap.objs.size:=dW i;exact td H m p.1 p.2 n rfl (It.tuple u _ a k items q) (λhw=>⟨(cI _ (dx _ rfl) rfl rfl),aV c λo j r=>aS o (cA _ j) r,K,hw⟩) B
theorem tM(H:St w F J Z O Y s){a:aJ}{b:List (Int×aI)}(h:s.heap.DictOf (ik w) a b):(a==pb)=false:=beq_eq_false_iff_ne.mpr λe=>by
 subst e;refine gH h λo i j d hc hd f=>bn f λhk _=>?_;obtain rfl:=bw (d.symm.trans (i6 H.md H.on (by kernel_rfl:_=some (H9 w.params)) (by decide)));injection hd with c g
 subst c;exact aV (hk _ (Jx.mp (.head _))) λk hk _=>o9 hk
theorem Gc(H:St w F J Z O Y s){o:Expr}{name:Str}{id cls:String}{B:Builtin}{apos pos:br}{x:X}{l:List (Int×T)}{G:List T}(h:Ev w A F J Z O s o x G)(p:x.adL=some l)
  (c:n6 o name F.env (eval o F.env)=eval o F.env) (e:(apos.endLine==pos.line)=true) (slot:Slot "dict" name id) (j:typeOf (.builtin id)=pure (.type "method_descriptor")) (entry:entryFor table id=some B)
  (f:∀ v,argsOk id ⟨[v],[]⟩) (q:∀ d,(d==pb)=false->MeetsIn pw w (B ⟨[.ref d],[]⟩) (λ_ R s=>(∃ a,s.heap.DictOf (ik w) d a)/\
   R (.ok (.ret (.ref s.heap.objs.size))) {s with heap:=s.heap.push {cls:=.type cls,data:=.fields #[.ref d]}}))
  (Q:aI->aL->Prop) (E:aI->aL->Prop)
  (r:∀ d a i b,Nx w F.nt Z s i G b->RX w F J O s.heap.objs.size i b.heap x (.ref d)->b.heap.DictOf (ik w) d a->bY w i l a->(d==pb)=false->Q (.ref b.heap.objs.size) {b with heap:=b.heap.push {cls:=.type cls,data:=.fields #[.ref d]}}) :
  bc (model pw w) A (eval (.Call (.Attribute o name apos) [] [] pos) F.env) Q E s:=by
 refine rM (T:="dict") (id:=id) c rfl e ad1 slot j (h _ _ λv i b k m=>?_);have n:=H.next k;refine aQ λt=>bG (RX.dct n.on m p) λd a u g y=>?_;subst u;refine t ?_;have hs:=tM n g;refine⟨g.typeIs,g.mapOf.noDict,?_⟩;exact method_meetsIn slot entry rfl (PySem.evalArgs_none ⟨rfl,g.typeIs,f _,_,q d hs,⟨a,g⟩,r d a i b k m g y hs⟩)
noncomputable def iI(f:aP):List S->List T->Option (List T×List T):=λO Y=>(f O Y).bind λa=>if a.1.ow=none then a.1.adL.map λl=>(l.map λp=>T.tup [T.int p.1,p.2],a.2)else none
noncomputable def iV(f:aP):List S->List T->Option (List T×List T):=λO Y=>(f O Y).bind λa=>if a.1.ow=none then a.1.adL.map λl=>(l.map λp=>p.2,a.2)else none
noncomputable def iK(f:aP):List S->List T->Option (List T×List T):=λO Y=>(f O Y).bind λa=>if a.1.ow=none then a.1.adL.map λl=>(l.map λp=>T.int p.1,a.2)else none
theorem yY{x:X}{l:List (Int×T)}(e:x.adL=some l):x.box=true:=by
 cases x with
 |v t=>cases t<;>first|rfl|exact bD e
 |_=>first|rfl|exact bD e
theorem RX.push{n:Nat}{x:X}{v:aI}{o:bK}(H:St w F J Z O Y s)(N:Nx w F.nt Z s Z' ν' s')(a:171<=n)(r:RX w F J O n Z' s'.heap x v):RX w F J O n Z' (s'.heap.push o) x v:=
 RX.next (s':={s' with heap:=s'.heap.push o}) a (H.next N) r ((H.next N).nx.push o)
theorem Be (q:A.handled=none) {o:Expr} {apos pos:br} {f:aP} (a:n6 o "items" F.env (eval o F.env)=eval o F.env) (b:(apos.endLine==pos.line)=true) (h:bu w A F o f) :
  gT w A F (.Call (.Attribute o (aK "items") apos) [] [] pos) true none (iI f):=λJ O Y items ν' Z s H=>by
 refine bJ λx G r=>ca λj=>cb λl m=>dR ?_;intro Q E t;refine Gc H (h H r) m a b PySem.F.slot_dict_items PySem.F.type_dict_items PySem.F.entry_dict_items PySem.F.args_dict_items_1 (λd hd=>meets_dict_items (ik w) d hd) _ _ λd c u i n v y z hs=>aQ λB=>eZ y λC D p e=>B ?_;have g:i.heap.DictAt (ik w) d c p:=(dE C D e);have k:d<i.heap.objs.size:=cg e.1;refine wpAny_pyIter_items (d:=d) (cI _ (dx _ rfl) rfl rfl) (g.push _) ?_;have I:=n.push {cls:=.type "dict_items",data:=.fields #[.ref d]};refine td (Z':=u) (s':={i with heap:=i.heap.push {cls:=.type "dict_items",data:=.fields #[.ref d]}}) H I (yY m) j (RX.push H n H.sz v) rfl
  (It.items q _ d (dW (by rw[eQ];exact rN k)) l c p) (λhw=>⟨(dE .none .none (dx _ rfl)),(g.push _).push _,z,hw⟩) t
theorem aai (q:A.handled=none) {o:Expr} {apos pos:br} {f:aP} (a:n6 o "values" F.env (eval o F.env)=eval o F.env) (b:(apos.endLine==pos.line)=true) (h:bu w A F o f) :
  gT w A F (.Call (.Attribute o (aK "values") apos) [] [] pos) false none (iV f):=λJ O Y items ν' Z s H=>by
 refine bJ λx G r=>ca λj=>cb λl m=>dR ?_;intro Q E t;refine Gc H (h H r) m a b PySem.F.slot_dict_values PySem.F.type_dict_values PySem.F.entry_dict_values PySem.F.args_dict_values_1 (λd hd=>meets_dict_values (ik w) d hd) _ _ λd c u i n v y z hs=>aQ λB=>eZ y λC D p e=>B ?_;have g:i.heap.DictAt (ik w) d c p:=(dE C D e);have k:d<i.heap.objs.size:=cg e.1;refine wpAny_pyIter_values (d:=d) (cI _ (dx _ rfl) rfl rfl) (g.push _) ?_;have I:=n.push {cls:=.type "dict_values",data:=.fields #[.ref d]};exact td (Z':=u) (s':={i with heap:=i.heap.push {cls:=.type "dict_values",data:=.fields #[.ref d]}}) H I (yY m) j (RX.push H n H.sz v) rfl
  (It.vals q _ d (dW (by rw[eQ];exact rN k)) l c p) (λhw=>⟨(cI _ (dx _ rfl) rfl rfl),(g.push _).push _,z,hw⟩) t
theorem Ak(r:A.handled=none){o:Expr}{f:aP}(h:bu w A F o f):gT w A F o false none (iK f):=λJ O Y items ν' Z s H=>by
 refine bJ λx G t=>ca λe=>cb λl i=>dR ?_;intro Q E u;refine h H t _ _ λv I j k m=>?_;have n:=H.next k;refine aQ λy=>bG (RX.dct n.on m i) λd a z p B=>?_;subst z;have hs:=tM n p;refine eZ p λC D q b=>y ?_;have c:j.heap.DictAt (ik w) d a q:=(dE C D b);have g:d<j.heap.objs.size:=cg b.1;exact wpAny_pyIter_dict hs c (td H k (yY i) e m rfl (It.keys r _ d (dW g) l a q) (λhw=>⟨(cI _ (dx _ rfl) rfl rfl),c.push _,B,hw⟩) u)
theorem gn.one{e:Expr}{t:T}{pos:br}(H:St w F J Z O Y s)(h:Ev w A F J Z O s e (.v t) ν')(a:dS e=true):gn w A F J Z O s pos [e] [.v t] ν':=
 BC H h (λZ' s' N=>AO (H.next N)) a
theorem Q9(H:St w F J Z O Y s)(N:Nx w F.nt Z s Z' ν' s'){h:Option Nat}{f:Bool}{items:List T}{o:bK}{P:Nat->Fz->bh->Prop}{c:Nat->aI->Fz->bh->Prop}(m:o.isFreed=false)
  (i:It w A F.nt f s'.heap.objs.size [s'.heap.objs.size] [s'.heap.objs.size] items P c) (k:fb F.nt Z' [s'.heap.objs.size]->P 0 Z' (s'.heap.push o)) {Q:aI->aL->Prop}
  (l:∀ g fp W P c Z' s',Nx w F.nt Z s Z' ν' s'->It w A F.nt f g fp W items P c->P 0 Z' s'.heap->(∀ b∈W,s.heap.objs.size<=b)->(∀ b∈fp,¬Mu F.nt b)->
   (∀ b∈fp,b∉F.fa/\∀ (j:Nat) (S:Mine.Internal.S),O[j]?=some S->S.adD->J j=b->h=some j)->Q (.ref g) s'):Q (.ref s'.heap.objs.size) {s' with heap:=s'.heap.push o}:=by
 have d:s.heap.objs.size<=s'.heap.objs.size:=N.size;refine l s'.heap.objs.size _ _ P c Z' _ (N.push o) i (k λb a=>?_) (λb a=>?_) (λb a=>?_) λb a=>?_
 ·simp only[bP,dP,or_false]at a;subst a;exact⟨N.fresh,bf H.sz d,N.adP⟩
 ·simp only[bP,dP,or_false]at a;subst a;exact d
 ·simp only[bP,dP,or_false]at a;subst a;rintro (q|q)
  ·exact N.adP q
  ·rw[q]at d;exact absurd (bf H.sz d) (by decide)
 ·simp only[bP,dP,or_false]at a;subst a;exact⟨λq=>absurd (ck (H.fz _ q).2 d) (cQ _),λj S e o q=>absurd (ck (H.own j S e o).2.2.2.1 (q.symm▸d)) (cQ _)⟩
noncomputable def iR(f:aP):List S->List T->Option (List T×List T):=λO Y=>(f O Y).bind λa=>a.1.t?.bind λt=>t.int?.bind λn=>if n.natAbs<=1000000 then some ((aO n.toNat).map λ(j:Nat)=>T.int (j:Int),a.2)else none
theorem BU{n:Int}(h:n.natAbs<=1000000):-1000000<=n:=by lia
theorem qA{n:Int}(h:n.natAbs<=1000000):n<=1000000:=by lia
theorem W8{n:Int}(h:n.natAbs<=1000000):n.toNat<=1000000:=by lia
theorem wn{a b:Int}:Builtin.Range.rangeSize a b 1=((b-a).toNat:Int):=by rw[rangeSize_one];split<;>lia
theorem v9{a b:Int}(h1:-1000000<=a)(h2:a<=1000000)(h3:-1000000<=b)(h4:b<=1000000)(h5:b-a<=1000000):ad2 a b 1=true:=by
 have c:∀ k:Int,-1000001<=k->k<=1000001->ad3 k=true:=λk h1 h2=>by
  unfold ad3;simp only[fg,decide_eq_true_eq];exact WL h1 h2
 have d:∀ {k:Int},-1000000<=k->-1000001<=k:=fD (by decide);have f:∀ {k:Int},k<=1000000->k<=1000001:=λh=>fD h (by decide);unfold ad2;have e:=rangeSize_one a b;simp only[e];rw[c a (d h1) (f h2),c b (d h3) (f h4),c 1 (by decide) (by decide),c _ (by split<;>lia) (by split<;>lia)];simp only[Bool.true_and,Bool.or_eq_true];right;split
 ·exact c _ (by lia) (by lia)
 ·exact c _ (by lia) (by lia)
theorem Iz(n:Nat):((aO n).map λ(j:Nat)=>T.int (0+(j:Int)*1))=(aO n).map λ(j:Nat)=>T.int (j:Int):=by
 refine us λj _=>?_;rw[Int.mul_one,xL]
theorem jZ (k:A.handled=none) {p pos:br} {e:Expr} {f:aP} (l:F.env.kindOf (aK "range")=some .globalImplicit) (d:dS e=true) (h:bu w A F e f) :
  gT w A F (.Call (.Name (aK "range") p) [e] [] pos) false none (iR f):=λJ O Y items ν' Z s H=>bJ λx G m=>aX λt q=>aX λn r=>ca λc=>g8 λQ E u=>by
  refine gM rfl (h9 H l (v:=.type "range") rfl ?_ rfl);refine kb (gn.one H ((h H m).frz q) d _ _ λM y a g z=>?_) (eG d) rfl;refine bG z λv B C D I=>?_;subst C;obtain rfl:B=[]:=I;refine aU (gG r D) λb K=>?_;subst K;refine JP ?_;have N:=H.next g;have i:=(g.push {cls:=.type "range",data:=.fields #[.int 0 a.toks,.int n b,.int 1 (a.toks+1)]});have L:Nx w F.nt Z s y G {a with heap:=a.heap.push {cls:=.type "range",data:=.fields #[.int 0 a.toks,.int n b,.int 1 (a.toks+1)]},toks:=a.toks+1+1}:=i.trans ((H.next i).tok _);refine wpAny_pyIter_range (CU ..) ?_ ?_
  ·exact v9 (by decide) (by decide) (BU c) (qA c) (by rw[uw];exact qA c)
  ·rw[wn,uw];have j:=It.range (w:=w) (A:=A) (nt:=F.nt) k (a.heap.push {cls:=.type "range",data:=.fields #[.int 0 a.toks,.int n b,.int 1 (a.toks+1)]}).objs.size 0 n.toNat;rw[Iz]at j;exact Q9 H L rfl j (λhw=>⟨lE _,by
    have:=dx (a.heap.push {cls:=.type "range",data:=.fields #[.int 0 a.toks,.int n b,.int 1 (a.toks+1)]}) (o:={cls:=.type "range_iterator",data:=.fields #[gY 0,gY (n.toNat:Int),gY 1]}) rfl;exact this,hw⟩) u
end
section
variable{w:aY}{A:bx}{F:Fx}{mt mt':List Nat}{J α' α'':Nat->aJ}{Z Z' Z'':Fz}{O U σ'' σ0:List S}{Y ν' ν'':List T}{s s' s'':aL}{W fp:List aJ}{nt:Option aJ}
theorem It.ofT{I0:aJ}{n:Nat}{Pt:Nat->Array aI->Prop}{u:Nat->bh->Prop}{B:Nat->aJ->bh->Prop}(x:WalksT pw w A I0 fp W n Pt u B)(C:Fz->Prop)(hG:∀ Z Z',C Z->Le Z Z'->C Z')(items:List T)(hn:items.length=n)
  (I:∀ i a Z t,C Z->items[i]?=some t->Pt i a->∃ K,t=.tup K/\bm w Z K a.toList) (hex:∀ i h,u i h->∀ b∈fp,b<h.objs.size) :
  It w A nt true I0 fp W items (λi Z h=>(i<=n/\u i h)/\C Z/\fb nt Z W) (λi v Z h=>∃ T,v=.ref T/\i<n/\B i T h/\C Z/\fb nt Z W) where
 sub:=x.sub
 ok:=λi Z h p=>p.2.2
 lt:=λi Z h p=>hex i h p.1.2
 frame:=λi Z Z' h D p l hw k=>⟨⟨p.1.1,x.frame i h D p.1.2 k⟩,hG _ _ p.2.1 l,hw⟩
 item:=λi t Z s Y Q E H p l c z=>by
  have j:i<n:=by refine hn▸?_;exact(je.mp H).1
  refine e9 (x.item i s _ _ j p.1.2 λT a D tk L hT r d keep g=>aQ λG=>aV (I i a Z t p.2.1 H L) λK M hr=>?_);subst M;refine G ?_;have N0:cZ w nt W Z s Z Y {s with heap:=D,toks:=tk}:=eH c l p.2.2 keep g;have f:Z T=none:=by
   cases q:Z T with
   |none=>rfl
   |some o=>exact absurd (ck (cg (l _ _ q)) hT) (cQ _)
  have f2:nt≠some T:=λe=>by
   replace c:=e▸c;exact ej c λ_ vs y _=>absurd (ck (jn y) hT) (cQ _)
  have N:=N0.put hT f f2;refine aQ λG=>lr r λo ho hc m hd=>?_;clear r;refine G (z (.ref T) _ _ N ?_ (nw T rfl j d (hG _ _ p.2.1 N.le) (λb hb=>?_)))
  ·exact(fw T o a.toList rfl (gS.trans ho) ⟨hc,m,by rw[hd]⟩ (bm.mono N.le _ hr))
  ·refine bO (p.2.2 b hb) λa1 a2 a3=>?_;have P:b<s.heap.objs.size:=hex i _ p.1.2 b (x.sub b hb);exact⟨(N.new b P).trans a1,a2,a3⟩
 go:=λR i v Z s Y Q E V hm l c z=>by
  refine aQ λG=>AN hm λT M j d hg hw=>?_;clear hm;subst M;refine G ?_;have hp:=V rfl;cases R<;>first|cases hp|skip
  exact e9 (x.go _ _ _ i T s _ _ d λD X keep g=>z _ (eH (tk:=s.toks) c l hw keep g) ⟨⟨j,X⟩,hg,hw⟩)
 done:=λi Z s Y Q E H p l c z=>by
  have hi:i=n:=Jz p.1.1 (by refine hn▸?_;exact rH.mp H);subst hi;exact e9 (x.done s _ _ p.1.2 λD tk keep g=>z _ (eH c l p.2.2 keep g))
 self:=λi Z s Q E p z=>x.self i s Q E p.1.2 z
theorem w7(H:St w F J Z O Y s)(N:Nx w F.nt Z s Z' ν' s'){d:aJ}{g:Option Nat}{i:Bool}{items:List T}{P:Nat->Fz->bh->Prop}{a:Nat->aI->Fz->bh->Prop}
  (l:It w A F.nt i d fp W items P a) (k:∀ b∈W,s.heap.objs.size<=b/\Z' b=none/\F.nt≠some b) (m:fb F.nt Z' W->P 0 Z' s'.heap)
  (f:∀ b∈fp,s.heap.objs.size<=b/\F.nt≠some b\/(¬Mu F.nt b/\b∉F.fa/\∀ (j:Nat) (S:Mine.Internal.S),O[j]?=some S->S.adD->J j=b->g=some j)) {Q:aI->aL->Prop}
  (n:∀ d fp W P a Z' s',Nx w F.nt Z s Z' ν' s'->It w A F.nt i d fp W items P a->P 0 Z' s'.heap->(∀ b∈W,s.heap.objs.size<=b)->(∀ b∈fp,¬Mu F.nt b)->
   (∀ b∈fp,b∉F.fa/\∀ (j:Nat) (S:Mine.Internal.S),O[j]?=some S->S.adD->J j=b->g=some j)->Q (.ref d) s'):Q (.ref d) s':=by
 refine n d fp W P a Z' s' N l (m λb c=>?_) (λb c=>(k b c).1) (λb c=>?_) λb c=>?_
 ·exact bO (k b c) λh1 h2 h3=>⟨h2,bf H.sz h1,h3⟩
 ·rcases f b c with ⟨h1,h2⟩|h
  ·rintro (q|q)
   ·exact h2 q
   ·rw[q]at h1;exact absurd (bf H.sz h1) (by decide)
  ·exact h.1
 ·rcases f b c with ⟨h1,h2⟩|h
  ·exact⟨λq=>absurd (ck (H.fz _ q).2 h1) (cQ _),λj S e o q=>absurd (ck (H.own j S e o).2.2.2.1 (q.symm▸h1)) (cQ _)⟩
  ·exact h.2
theorem dM(H:St w F J Z O Y s){b:aJ}(a:s.heap.objs.size<=b):Z b=none/\F.nt≠some b:=by
 refine⟨?_,λe=>?_⟩
 ·cases q:Z b with
  |none=>rfl
  |some o=>exact absurd (ck (cg (H.on _ _ q)) a) (cQ _)
 ·have:=H.nts;rw[e]at this;exact ej this λ_ c y _=>absurd (ck (jn y) a) (cQ _)
theorem St.grow(H:St w F J Z O Y s){a:bh}(hk:∀ b o,s.heap.get? b=some o->a.get? b=some o)(hs:s.heap.objs.size<=a.objs.size):Nx w F.nt Z s Z Y {s with heap:=a}:=
 (eH (tk:=s.toks) (W:=[]) H.nts H.on (nofun) (λb o _ e=>hk b o e) hs).nx (nofun)
noncomputable def iX(l:List T):List T:=(aO l.length).zipWith (λ(j:Nat) t=>T.tup [T.int (j:Int),t]) l
theorem DG(l:List T):(iX l).length=l.length:=by simp[iX]
theorem Hk{l:List T}{i:Nat}{t:T}(h:(iX l)[i]?=some t):∃ x,l[i]?=some x/\t=T.tup [T.int (i:Int),x]:=by
 unfold iX at h;rw[ad4]at h;have hi:i<l.length:=by
  rcases ux i l.length with q|q
  ·exact q
  ·rw[lK (by simpa using q)]at h;simp at h
 rw[rJ hi,gv hi]at h;cases h;exact(aS _ (gv hi) rfl)
noncomputable def iE(b:Option Nat)(f:aP):List S->List T->Option (List T×List T):=λO Y=>(f O Y).bind λa=>if a.1.ow=b then a.1.adH.map λl=>(iX l,a.2)else none
theorem tG{x:X}{l:List T}(e:x.adH=some l):x.box=true:=by
 cases x with
 |v t=>cases t<;>first|rfl|exact bD e
 |_=>first|rfl|exact bD e
theorem gn.ae7{e:Expr}{x:X}{pos:br}(H:St w F J Z O Y s)(h:Ev w A F J Z O s e x ν')(a:dS e=true):gn w A F J Z O s pos [e] [x] ν':=
 BC H h (λZ' s' N=>AO (H.next N)) a
theorem G9 (hh:A.handled=none) (V:Option Nat) {p pos:br} {e:Expr} {f:aP} (hx:F.env.kindOf (aK "enumerate")=some .globalImplicit) (X:dS e=true) (h:bu w A F e f) :
  gT w A F (.Call (.Name (aK "enumerate") p) [e] [] pos) true V (iE V f):=λJ O Y items ν' Z s H=>by
 refine bJ λx G e1=>ca λD=>cb λl e2=>dR ?_;intro Q E hQ;refine gM rfl (h9 H hx (v:=.type "enumerate") rfl ?_ rfl);refine kb (gn.ae7 H (h H e1) X _ _ λz Z1 B C r1=>?_) (eG X) rfl;refine aQ λd=>bG r1 λv vr j r2 r3=>?_;clear r1;subst j;refine d ?_;cases r3;have k:=H.next C;have c:=tG e2;refine aQ λd=>bG (RX.lst k.on r2 e2) λa z j I hr=>?_;subst j;refine d (call_enumerate_list I λh' b1 b2 b3 b4=>?_);have N2:=C.trans (k.grow b4 (by rw[b3];exact dI _ _));refine wpAny_pyIter_enum b1 ?_;have m:a<B.heap.objs.size:=mU I;have K:=C.size;have WT:=WalksT.enumerate (prog:=pw) (w:=w) (A:=A) hh (B.heap.objs.size+1) B.heap.objs.size a (nW (pe _)) (dW (rN m)) (dW m) z.toArray;have n:(iX l).length=z.toArray.size:=by rw[DG,eY,bm.length hr]
 refine w7 H N2 (It.ofT WT (λZ=>bm w Z l z) (λZ Z' g hz=>bm.mono hz _ g) (iX l) n (λi a0 Z t g ht q=>?_) (λi h r b c=>?_)) (λb c=>?_) (λhw=>⟨⟨lE _,⟨.none,b1⟩,b2,oa I λo e=>b4 _ o e⟩,hr,hw⟩) (λb u=>?_) hQ
 ·refine aV (Hk ht) λx' L j=>?_;subst j;refine aQ λd=>eA q λt' y M y3=>?_;clear q;subst y3;refine aV (bm.get g L) λv' N P=>d (aS _ rfl ?_);have:v'=y:=by
   rw[im]at M;rw[N]at M;exact bw M
  subst this;exact(dE _ _ ⟨rfl,⟨_,rfl⟩,(cE _ _ rfl P rfl)⟩)
 ·refine bO r λy0 hit R=>?_;clear r;obtain⟨old,he⟩:=y0;simp only[bP,dP,or_false]at c;rcases c with rfl|rfl|rfl
  ·exact cg he
  ·refine aV hit λ_ y _=>?_;clear hit;exact cg y
  ·exact mU R
 ·simp only[bP,dP,or_false]at c;have:B.heap.objs.size<=b:=by rcases c with rfl|rfl<;>lia
  exact⟨bf K this,dM k this⟩
 ·simp only[bP,dP,or_false]at u;rcases u with rfl|rfl|rfl
  ·exact .inl ⟨bf K (mE _),(dM k (mE _)).2⟩
  ·exact .inl ⟨K,(dM k (cu _)).2⟩
  ·have:=oD H C c r2;rw[D]at this;exact .inr this
theorem ac5(n a b:Nat)(c:a<n)(d:b<n):ZipApart (n+4) (n+2) (n+3) n (n+1) a b:=by
 constructor<;>(intro e;have f:(_:Nat)=_:=e;lia)
noncomputable def mh(l r:List T):List T:=l.zipWith (λa b=>T.tup [a,b]) r
theorem NL{l r:List T}{i:Nat}{t:T}(h:(mh l r)[i]?=some t):∃ x y,l[i]?=some x/\r[i]?=some y/\t=T.tup [x,y]:=by
 unfold mh at h;replace h:=ad4▸h;cases h1:l[i]? with
 |none=>replace h:=h1▸h;simp at h
 |some x=>
  cases h2:r[i]? with
  |none=>replace h:=h2▸h1▸h;simp at h
  |some y=>replace h:=h2▸h1▸h;cases h;exact(cE x y rfl rfl rfl)
noncomputable def iZ(f g:aP):List S->List T->Option (List T×List T):=λO Y=>(f O Y).bind λa=>(g O a.2).bind λb=>if a.1.ow=none/\b.1.ow=none then a.1.adH.bind λl=>b.1.adH.map λr=>(mh l r,b.2)else none
theorem Dk (hh:A.handled=none) {p pos:br} {e1 e2:Expr} {f g:aP} (hx:F.env.kindOf (aK "zip")=some .globalImplicit) (q:aN w A F [e1,e2] [f,g]) :
  gT w A F (.Call (.Name (aK "zip") p) [e1,e2] [] pos) true none (iZ f g):=λJ O Y items ν' Z s H=>by
 refine bJ λx G q1=>bJ λy a3 q2=>ca λu=>aX λl q3=>cb λr q4 hg=>?_;cases hg;intro Q E hQ;have hp:=q.plain;rw[gX,fg]at hp;have hd:eR [f,g] O Y=some ([x,y],a3):=lm q1 (lm q2 rfl);refine gM rfl (h9 H hx (v:=.type "zip") rfl ?_ rfl);refine kb (q.as H hd _ _ λvs Z1 c z r1=>?_) (eG hp.1) (jg hp.2);refine aQ λB=>FX r1 λv1 vr d r2 v2 ad y6 r3 r4=>?_;clear r1;subst d;subst y6;refine B ?_;subst r4;have C:=H.next z;refine aQ λB=>bG (RX.lst C.on r2 q3) λa vs d hl hr=>?_;subst d;refine bG (RX.lst C.on r3 q4) λa2 j d k I=>?_;subst d;refine B (call_zip_2 hl k λh' b1 b2 b3 b4 b5 b6 b7=>?_);have N2:=z.trans (C.grow b7 (by refine b6▸?_;exact dI _ _));refine CV b1 ?_;have a4:a<c.heap.objs.size:=mU hl;have K:a2<c.heap.objs.size:=mU k;have sz:=z.size;have D:ZipApart (c.heap.objs.size+4) (c.heap.objs.size+2) (c.heap.objs.size+3) c.heap.objs.size (c.heap.objs.size+1) a a2:=ac5 _ _ _ a4 K;have WT:=WalksT.zip2 (prog:=pw) (w:=w) (A:=A) hh _ _ _ _ _ _ _ D vs.toArray j.toArray;have L:(mh l r).length=min vs.toArray.size j.toArray.size:=by simp[mh,bm.length hr,bm.length I]
 refine w7 H N2 (It.ofT WT (λZ=>bm w Z l vs/\bm w Z r j) (λZ Z' g hz=>⟨bm.mono hz _ g.1,bm.mono hz _ g.2⟩) (mh l r) L (λi ab Z t g ht M=>?_) (λi h N b P=>?_)) (λb P=>?_)
  (λhw=>⟨⟨lE _,b1,b2,(dE _ _ b3),b4,b5,oa hl λo e=>b7 _ o e,oa k λo e=>b7 _ o e⟩,⟨hr,I⟩,hw⟩) (λb R=>?_) hQ
 ·refine bG (NL ht) λx' y' a5 a6 y4=>?_;subst y4;refine aQ λB=>bG M λu1 u2 m n y4=>?_;clear M;subst y4;refine aV (bm.get g.1 a5) λw1 a7 V=>aV (bm.get g.2 a6) λw2 a8 X=>B ?_;replace m:=a7▸im▸m;replace n:=a8▸im▸n;cases m;cases n;exact(aS _ rfl (dE _ _ ⟨rfl,V,(cE _ _ rfl X rfl)⟩))
 ·refine sx N λhz a9 d h1 h2 a0 a1=>?_;clear N;obtain⟨_,_,aa⟩:=d;simp only[bP,dP,or_false]at P;rcases P with rfl|rfl|rfl|rfl|rfl|rfl|rfl
  ·exact cg hz
  ·exact cg a9
  ·exact cg aa
  ·refine aV h1 λ_ y _=>?_;clear h1;exact cg y
  ·refine aV h2 λ_ y _=>?_;clear h2;exact cg y
  ·exact mU a0
  ·exact mU a1
 ·simp only[bP,dP,or_false]at P;have:c.heap.objs.size<=b:=by rcases P with rfl|rfl|rfl|rfl<;>lia
  exact⟨bf sz this,dM C this⟩
 ·have old:∀ b',c.heap.objs.size<=b'->s.heap.objs.size<=b'/\F.nt≠some b':=λb' h=>⟨bf sz h,(dM C h).2⟩;have f1:=oD H z (tG q3) r2;have f2:=oD H z (tG q4) r3;replace f1:=u.1▸f1;replace f2:=u.2▸f2;simp only[bP,dP,or_false]at R;rcases R with rfl|rfl|rfl|rfl|rfl|rfl|rfl
  ·exact .inl (old _ (dI _ _))
  ·exact .inl (old _ (dI _ _))
  ·exact .inl (old _ (dI _ _))
  ·exact .inl (old _ (cu _))
  ·exact .inl (old _ (dI _ _))
  ·exact .inr f1
  ·exact .inr f2
abbrev KX:=List X->List T->Option (X×List T)
noncomputable def cD(f:X->Option X):KX:=λa Y=>match a with
 |[x]=>(f x).map λy=>(y,Y)
 |_=>none
noncomputable def gR(f:X->X->Option X):KX:=λa Y=>match a with
 |[x,y]=>(f x y).map λz=>(z,Y)
 |_=>none
theorem kM{f:aI}{k:X->Option X}(h:∀ {J O Y Z s n x y v},St w F J Z O Y s->F.h₀.objs.size<=n->n<=s.heap.objs.size->RX w F J O n Z s.heap x v->k x=some y->mC w A F J Z O s f [v] y Y):dH w A F f (cD k):=λJ O Y x ν' Z s n a j H h1 h2 r hk=>by
 cases a with
 |nil=>exact bD hk
 |cons l b=>cases b with
  |cons=>exact bD hk
  |nil=>
   revert hk;refine cb λy e=>dR ?_;exact bG r λv c d g i=>d▸(show c=[]from i)▸(h H h1 h2 g e)
theorem AC{f:aI}{k:X->X->Option X}(h:∀ {J O Y Z s n x d y v a},St w F J Z O Y s->F.h₀.objs.size<=n->n<=s.heap.objs.size->RX w F J O n Z s.heap x v->RX w F J O n Z s.heap d a->k x d=some y->mC w A F J Z O s f [v,a] y Y):dH w A F f (gR k):=λJ O Y x ν' Z s n g p H h1 h2 r hk=>by
 cases g with
 |nil=>exact bD hk
 |cons q b=>cases b with
  |nil=>exact bD hk
  |cons t b=>cases b with
   |cons=>exact bD hk
   |nil=>
    revert hk;refine cb λy e=>dR ?_;exact FX r λv u i j a c l m o=>i▸l▸(show c=[]from o)▸(h H h1 h2 j m e)
theorem cR.one{n:Nat}{h:bh}{x:X}{a:List aI}(r:cR w F J O n Z h [x] a):∃ v,a=[v]/\RX w F J O n Z h x v:=
 bG r λv e b c d=>(aS v (b.trans (congrArg (v::·) d)) c)
theorem cR.two{n:Nat}{h:bh}{x y:X}{a:List aI}(r:cR w F J O n Z h [x,y] a):∃ u v,a=[u,v]/\RX w F J O n Z h x u/\RX w F J O n Z h y v:=
 bG r λv g b c d=>aV (cR.one d) λu e f=>(cE v u (b.trans (congrArg (v::·) e)) c f)
noncomputable def S.ae3:S->Option (List T)
 |.own l=>some l
 |.no|.v _|.ownd _|.nts=>none
noncomputable def S.aed:S->Option (List (Int×T))
 |.ownd l=>some l
 |.no|.v _|.own _|.nts=>none
theorem S.aeb{a:S}{l:List T}(h:a.ae3=some l):a=.own l:=by
 cases a with
 |own l=>exact congrArg S.own (bw h)
 |_=>exact bD h
theorem S.aeo{a:S}{l:List (Int×T)}(h:a.aed=some l):a=.ownd l:=by
 cases a with
 |ownd l=>exact congrArg S.ownd (bw h)
 |_=>exact bD h
noncomputable def S.aef:S->Option Unit
 |.nts=>some ()
 |.no|.v _|.own _|.ownd _=>none
theorem S.aen{a:S}{u:Unit}(h:a.aef=some u):a=.nts:=by
 cases a with
 |nts=>rfl
 |_=>exact bD h
noncomputable def Fl.nx?:Fl->Option Unit
 |.nx=>some ()
 |.ret _=>none
noncomputable def Fl.aee:Fl->Option X
 |.ret x=>some x
 |.nx=>none
theorem Fl.aeg{a:Fl}{u:Unit}(h:a.nx?=some u):a=.nx:=by
 cases a with
 |nx=>rfl
 |_=>exact bD h
theorem Fl.aeq{a:Fl}{x:X}(h:a.aee=some x):a=.ret x:=by
 cases a with
 |ret y=>exact congrArg Fl.ret (bw h)
 |_=>exact bD h
noncomputable def T.adZ:T->Option T
 |.inst t=>some t
 |.none|.bool _|.int _|.flt _|.str _|.tup _|.lst _|.dct _=>nZ
theorem T.ae2{t u:T}(h:t.adZ=some u):t=.inst u:=by
 cases t with
 |inst j=>exact congrArg T.inst (bw h)
 |_=>exact bD h
noncomputable def X.adZ(x:X):Option T:=x.vt?.bind T.adZ
theorem X.ae2{x:X}{t:T}:x.adZ=some t->x=.v (.inst t):=aX λu e h=>(X.adW e).trans (congrArg X.v (T.ae2 h))
theorem St.adN(H:St w F J Z O Y s){a:bh}{tk:dz}(hk:∀ b o,s.heap.get? b=some o->a.get? b=some o)(hs:s.heap.objs.size<=a.objs.size):Nx w F.nt Z s Z Y {s with heap:=a,toks:=tk}:=
 (eH (tk:=tk) (W:=[]) H.nts H.on (nofun) (λb o _ e=>hk b o e) hs).nx (nofun)
noncomputable def iB(x:X):Option X:=(x.adK.bind λx=>if x.length<=1000000 then some (X.v (.int x.length))else none).or (x.adH.bind λl=>if l.length<=1000000 then some (.v (.int l.length))else none)
theorem uR:dH w A F (.builtin "len") (cD iB):=kM λ{J O Y Z s n x y v} H h1 h2 r=>by
 refine we (aX λl b=>ca λc e Q E d=>?_) (aX λl b=>ca λc e Q E d=>?_)
 ·obtain rfl:=bw e;refine aU (kr b r) λt g=>?_;subst g;exact PySem.P.len_str (Qf c) (d _ _ _ (H.tok _) kE)
 ·obtain rfl:=bw e;refine bG (RX.lst H.on r b) λa h i j k=>?_;subst i;have f:h.toArray.size=l.length:=bm.length k;exact call_len_list j (by refine f▸?_;exact VO c) (d _ _ _ (H.tok _) (f▸kE))
noncomputable def tR(x:X):Option X:=(x.int?.map λi=>X.v (.int (if i<0 then -i else i))).or (x.adU.map λb=>.v (.flt (fU b)))
theorem Aa:dH w A F (.builtin "abs") (cD tR):=kM λ{J O Y Z s n x y v} H h1 h2 r=>by
 refine we (cb λi a e Q E b=>?_) (cb λi a e Q E b=>?_)
 ·subst e;refine aU (j2 a r) λt c=>?_;subst c;exact call_abs_int λu d=>b _ _ _ (H.tok _) kE
 ·subst e;refine aU (abu a r) λt c=>?_;subst c;exact PySem.Flt.call_abs_float (b _ _ _ (H.tok _) Nw)
noncomputable def mP(x:X):Option X:=x.int?.bind λi=>if 0<=i/\i<=0x10FFFF then some (.v (.str ⟨#[i.toNat]⟩))else none
theorem zo:dH w A F (.builtin "chr") (cD mP):=kM λ{J O Y Z s n x y v} H h1 h2 r=>aX λi a=>ca λhi e Q E b=>by
 obtain rfl:=bw e;refine aU (j2 a r) λt c=>?_;subst c;exact ad5 (by simp;exact hi) (b _ _ _ (H.tok _) oo)
noncomputable def qG(x:X):Option X:=x.adK.bind λs=>(D2 s.cps.toList).map λ(c:Nat)=>.v (.int (c:Int))
theorem zA:dH w A F (.builtin "ord") (cD qG):=kM λ{J O Y Z s n x y v} H h1 h2 r=>aX λi a=>cb λc b e Q E d=>by
 subst e;refine aU (kr a r) λt f=>?_;subst f;obtain rfl:i=⟨#[c]⟩:=congrArg (λl:List Nat=>Str.mk l.toArray) (Xb b);exact PySem.P.ord_of_char (d _ _ _ (H.tok _) kE)
noncomputable def T.isTup:T->Option Bool
 |.tup _=>some true
 |.int _=>some false
 |.none|.bool _|.flt _|.str _|.lst _|.dct _|.inst _=>nZ
noncomputable def T.isBool:T->Option Bool
 |.bool _=>some true
 |.int _=>some false
 |.none|.tup _|.flt _|.str _|.lst _|.dct _|.inst _=>nZ
noncomputable def F8(c:Bool)(t:T):Option Bool:=if c=true then t.isTup else t.isBool
noncomputable def t7(c:Bool):String:=if c=true then "tuple" else "bool"
noncomputable def nE(c:Bool)(f:aP):aP:=λO Y=>(f O Y).bind λa=>a.1.t?.bind λt=>(F8 c t).map λb=>(.v (.bool b),a.2)
theorem OR{Z:Fz}{s:aL}{t:T}{v:aI}{b:Bool}{Q:aI->aL->Prop}{E:aI->aL->Prop}(d:On Z s.heap)(r:Rd w Z t v)(e:t.isTup=some b)(fin:∀ c,Q (.bool b) {s with toks:=c}):
  bc (model pw w) A (call (.builtin "isinstance") [v,.type "tuple"]) Q E s:=by
 cases t with
 |tup l=>
  obtain rfl:=bw e;exact gH r λa o h y f g j=>y▸call_isinstance_yes (Tx:="tuple") (aS o (d _ _ f) g.1) (by kernel_rfl) (by rw[isSubtype_type];kernel_rfl) (fin _)
 |int i=>
  obtain rfl:=bw e;exact aU r λc y=>y▸PySem.IsiPair.int_tuple (fin _)
 |_=>exact bD e
theorem Qb{Z:Fz}{s:aL}{t:T}{v:aI}{b:Bool}{Q:aI->aL->Prop}{E:aI->aL->Prop}(r:Rd w Z t v)(e:t.isBool=some b)(fin:∀ a,Q (.bool b) {s with toks:=a}):
  bc (model pw w) A (call (.builtin "isinstance") [v,.type "bool"]) Q E s:=by
 cases t with
 |bool l=>
  obtain rfl:=bw e;exact(show v=.bool l from r)▸(call_isinstance_yes (Tx:="bool") rfl (by kernel_rfl) (by rw[isSubtype_type];kernel_rfl) (fin _))
 |int i=>
  obtain rfl:=bw e;exact aU r λa y=>y▸PySem.IsiPair.int_bool (fin _)
 |_=>exact bD e
theorem sA {c:Bool} {p p2 pos:br} {e:Expr} {f:aP} (n:F.env.kindOf (aK "isinstance")=some .globalImplicit) (a:F.env.kindOf (aK (t7 c))=some .globalImplicit)
  (i:dS e=true) (h:bu w A F e f):bu w A F (.Call (.Name (aK "isinstance") p) [e,.Name (aK (t7 c)) p2] [] pos) (nE c f):=λJ O Y x ν' Z s H=>bJ λx G o=>aX λt q=>cb λb j=>dR λQ E r=>by
 have k:qM (t7 c)=some (.type (t7 c))/\(aK (t7 c)==("__debug__":Str))=false:=by cases c<;>exact⟨rfl,by decide⟩
 refine gM rfl (h9 H n (v:=.builtin "isinstance") rfl ?_ rfl);refine Jy (lJ ((h H o).frz q _ _ λv y u d l=>lJ (h9 (H.next d) a k.1 (n4 ?_) k.2) (eG rfl)) (eG i)) (eG i) (jg (by rfl));have m:=H.next d;have fin:∀ g,Q (.bool b) {u with toks:=g}:=λg=>r _ _ _ (d.trans (m.tok g)) rfl;cases c with
 |true=>exact OR m.on l j fin
 |false=>exact Qb l j fin
theorem wt(H:St w F J Z O Y s){i:Nat}{r S1:S}{t:bh}{tk:dz}(hi:O[i]?=some r)(B:r.adD)(f:S1.adD)(h0:∃ v,dY w F.nt Z s.heap (J i) r v)(hs:gZ (J i) s.heap t)(hS:dY w F.nt Z t (J i) S1 (.ref (J i))):
  cZ w F.nt [J i] Z s Z Y {s with heap:=t,toks:=tk}/\St w F J Z (O.set i S1) Y {s with heap:=t,toks:=tk}:=by
 refine aQ λG=>gl (H.own i r hi B) λX I b3 b4 K=>G ?_;have L:i<O.length:=(je.mp hi).1;have N:cZ w F.nt [J i] Z s Z Y {s with heap:=t,toks:=tk}:=eH H.nts H.on (λb C=>by
  simp only[bP,dP,or_false]at C;subst C;exact⟨X,bf H.ok.big I,b3⟩) (λb o C e=>(hs.2 b (λq=>C (by simp[q]))).trans e) (gV hs.1.symm)
 refine⟨N,?_⟩;have box:∀ o,s.heap.get? (J i)=some o->(∃ v,o.data=.cell v)\/(∃ M n,o.data=.dict M n/\∃ m,s.heap.Ns (J i) m/\F.env.locals=J i)->False:=by
  refine aU h0 λv p=>?_;clear h0;rintro o e (⟨c,hc⟩|⟨M,n,hd,m,hn,L⟩)
  ·cases r with
   |own l=>refine ej p λ_ vs P _=>?_;clear p;refine lr P.isList λo' f _ n g=>?_;replace f:=e▸f;cases f;replace g:=hc▸g;cases g
   |ownd l=>refine ej p λ_ vs y2 _=>?_;clear p;obtain⟨o',M,ep,f,_,g,_⟩:=y2;replace f:=e▸f;cases f;replace g:=hc▸g;cases g
   |_=>exact B
  ·exact K (L▸H.ok.loc)
 have d:∀ {c:aJ} {v:Option aI},s.heap.IsCell c v->c≠J i:=by
  rintro c v ⟨o,e,hd⟩ rfl;exact box o e (.inl ⟨_,hd⟩)
 have keep:∀ {c:aJ} {o:bK},c≠J i->s.heap.get? c=some o->t.get? c=some o:=λhc e=>(hs.2 _ hc).trans e;have gi:∀ (j:Nat) (S:Mine.Internal.S),(O.set i S1)[j]?=some S->(j=i/\S=S1)\/(j≠i/\O[j]?=some S):=λj S e=>by
  by_cases D:i=j
  ·subst D;replace e:=fT L▸e;cases e;exact .inl ⟨rfl,rfl⟩
  ·replace e:=ed D▸e;exact .inr ⟨λq=>D q.symm,e⟩
 refine aU H.tab λps ht=>⟨H.ok,N.on,H.md,N.nts,H.gens,λb o C e=>?_,?_,λa ha=>⟨(H.fz a ha).1,?_⟩,λx c hc=>?_,?_,λj S e q=>?_,λj k S E e1 q1 e2 Q R=>?_⟩
 ·exact keep (dW (ck (cg e) I)) (H.base b o C e)
 ·refine aU (N.tab ps ht) λmore h=>?_;exact⟨_,h⟩
 ·show a<t.objs.size;refine hs.1▸?_;exact(H.fz a ha).2
 ·exact aU (H.cel x c hc) λv p=>⟨v,jq p λo=>keep (d p)⟩
 ·refine aV H.vars λm hm p=>(aS m (qu hm λo=>keep (λq=>K (q▸H.ok.loc))) (λj x S D he V=>?_));rcases gi j S he with ⟨rfl,rfl⟩|⟨h1,h2⟩
  ·refine aV (p j x r D hi (by rintro rfl;exact B)) λv y u=>?_;have p:v=.ref (J j):=by
    cases r with
    |own l=>exact u.1
    |ownd l=>exact u.1
    |_=>exact B.elim
   subst p;refine(aS _ (y.ext λc o hc e=>?_) hS);exact aU (H.cel x c hc) λv' z=>keep (d z) e
  ·refine aV (p j x S D h2 V) λv y u=>(aS v (y.ext λc o hc e=>?_) (u.ext (.refl _) λq o e=>?_))
   ·exact aU (H.cel x c hc) λv' z=>keep (d z) e
   ·exact keep (λQ=>h1 (H.inj j i S r h2 q hi B Q)) e
 ·rcases gi j S e with ⟨rfl,rfl⟩|⟨h1,h2⟩
  ·exact⟨X,I,b3,by show _<t.objs.size;refine hs.1▸?_;exact b4,K⟩
  ·exact gl (H.own j S h2 q) λc1 c2 c3 c4 c5=>⟨c1,c2,c3,by show _<t.objs.size;refine hs.1▸?_;exact c4,c5⟩
 ·have old:∀ (j:Nat) (S:Mine.Internal.S),(O.set i S1)[j]?=some S->S.adD->∃ E,O[j]?=some E/\E.adD:=λj S e q=>by
   rcases gi j S e with ⟨rfl,rfl⟩|⟨h1,h2⟩
   ·exact(aS r hi B)
   ·exact(aS S h2 q)
  exact aQ λG=>aV (old j S e1 q1) λT1 e3 q3=>aV (old k E e2 Q) λT2 e4 q4=>G (H.inj j k T1 T2 e3 q3 e4 q4 R)
theorem wD{i:Nat}{a g:S}(hi:O[i]?=some a)(c:a.adD)(h:i∈mt)(N:cZ w F.nt [J i] Z s Z' ν' s'):cY w F mt [] J O Z s J (O.set i g) Z' s':=
 .ofW N (λb d=>.inr (.inr (aS i h (cI a hi c (by simp at d;exact d.symm))))) λj S e q=>by
  by_cases f:i=j
  ·subst f;exact(aS a hi c)
  ·replace e:=ed f▸e;exact(aS S e q)
noncomputable def lX(l:List (Int×T))(k:Int)(t:T):List (Int×T):=if l.any (λp=>p.1=k)then l.map (λp=>if p.1=k then(p.1,t)else p)else l++[(k,t)]
noncomputable def S.aes:S->Int->T->Option S
 |.ownd l,k,t=>if l.length<=1000000 then some (.ownd (lX l k t))else none
 |.own l,k,t=>if 0<=k/\k<l.length/\l.length<=1000000 then some (.own (l.set k.toNat t))else none
 |.no,_,_|.v _,_,_|.nts,_,_=>none
noncomputable def mi(a:S)(k:T)(t:T):Option S:=k.int?.bind λk=>a.aes k t
noncomputable def jC(i:Nat)(c d:aP):bC:=λO Y=>(d O Y).bind λa=>a.1.t?.bind λt=>(c O a.2).bind λb=>b.1.t?.bind λk=>(O[i]?).bind λe=>(mi e k t).map λf=>(.nx,O.set i f,b.2)
theorem bY.len{l:List (Int×T)}{a:List (Int×aI)}:bY w Z l a->a.length=l.length:=bY.length
theorem bY.any{k:Int}:∀ {l:List (Int×T)} {a:List (Int×aI)},bY w Z l a->a.any (λp=>decide (p.1=k))=l.any (λp=>decide (p.1=k)):=by
 intro b;induction b with
 |nil=>
  intro _ h;exact congrArg (List.any · _) h
 |cons c l d=>
  obtain⟨e,g⟩:=c;intro _ h;exact bG h λv i f _ h2=>f▸congrArg (decide (e=k)||·) (d h2)
theorem bY.aet{k:Int}{t:T}{v:aI}(r:Rd w Z t v):∀ {l:List (Int×T)} {a:List (Int×aI)},bY w Z l a->bY w Z (l.map λp=>if p.1=k then(p.1,t)else p) (a.map λp=>if p.1=k then(p.1,v)else p):=by
 intro c;induction c with
 |nil=>
  intro _ h;exact congrArg (List.map _) h
 |cons d l b=>
  obtain⟨e,i⟩:=d;intro _ h;exact bG h λf j g h1 h2=>by
    refine g▸cB▸cB▸?_;by_cases q:e=k
    ·refine if_pos q▸if_pos q▸?_;exact(cE v _ rfl r (b h2))
    ·refine if_neg q▸if_neg q▸?_;exact(cE f _ rfl h1 (b h2))
theorem bY.app{k:Int}{t:T}{v:aI}(r:Rd w Z t v):∀ {l:List (Int×T)} {a:List (Int×aI)},bY w Z l a->bY w Z (l++[(k,t)]) (a++[(k,v)]):=by
 intro b;induction b with
 |nil=>
  intro _ h;exact(cE v [] (congrArg (·++[(k,v)]) h) r rfl)
 |cons c l d=>
  obtain⟨g,i⟩:=c;intro _ h;exact bG h λe j f h1 h2=>f▸(cE e _ rfl h1 (d h2))
theorem bY.stored{k:Int}{t:T}{v:aI}(r:Rd w Z t v){l:List (Int×T)}{a:List (Int×aI)}(h:bY w Z l a):bY w Z (lX l k t) (PySem.stored a k v):=by
 unfold lX PySem.stored;rw[bY.any h];by_cases q:l.any (λp=>decide (p.1=k))=true
 ·rw[if_pos q,if_pos q];exact bY.aet r h
 ·rw[if_neg q,if_neg q];exact bY.app r h
theorem bm.set{t:T}{v:aI}(r:Rd w Z t v):∀ {l:List T} {e:List aI} {n:Nat},bm w Z l e->bm w Z (l.set n t) (e.set n v):=by
 intro a;induction a with
 |nil=>
  intro _ n h;exact congrArg (List.set · n v) h
 |cons i l b=>
  intro _ c;cases c with
  |zero=>
   intro h;exact bG h λf g d h1 h2=>(cE v g (congrArg (List.set · 0 v) d) r h2)
  |succ n=>
   intro h;exact bG h λf g d h1 h2=>(cE f _ (congrArg (List.set · (n+1) v) d) h1 (b h2))
theorem Tk{a:aJ}{items:Array aI}{k:Int}{t:dz}{v:aI}{Q:Unit->aL->Prop}{E:aI->aL->Prop}(e:s.heap.PlainList a items)(h0:0<=k)(hk:k<items.size)(b:k<2^63)
  (f:∀ c,c.PlainList a (items.setIfInBounds k.toNat v)->gZ a s.heap c->Q () {s with heap:=c}):bc (model pw w) A (setItem (.ref a) (.int k t) v) Q E s:=by
 have hT:=e.isList.typeIs;refine aU e λn d=>?_;have new (j:Nat):(s.heap.update a (pt (·.setIfInBounds j v))).get? a=some {cls:=.type "list",data:=.seq (items.setIfInBounds j v) n}:=by
  rw[pa _ d (by simp[pt];rfl)];simp[pt]
 unfold setItem;refine fG (ba (wpAny_sequenceKey hT rfl (ba (uy (name:=aK "__setitem__") hT slot_list_setitem (rK slot_list_setitem hT entry_list_setitem ?_ (args_list_setitem _ _ _))))));show bc _ _ (Builtin.List.listSubscript? (.int k t) >>= _) _ _ s;refine ba (wpAny_listSubscript_int (fitsIndex_of h0 b) ?_);clear b;refine aU (ym h0) λj g=>?_;subst g;have h:j<items.size:=IQ hk;show bc _ _ ((seqItemAt a j >>= λr=>pure (r.map (j,·))) >>= _) _ _ s;refine ba (ba (wpAny_seqItemAt d rfl (cm (acA h▸?_))));show bc _ _ (setSeqItemAt a j v >>= _) _ _ s;exact ba (wpAny_setSeqItemAt d rfl (ba (cm (cm ⟨.none,rfl,cm (f _ ⟨n,new j⟩ (uo ..))⟩))))
theorem set_own(H:St w F J Z O Y s){i:Nat}{f g:S}{k t:T}{vk v:aI}(hi:O[i]?=some f)(h0:dY w F.nt Z s.heap (J i) f (.ref (J i)))(e:mi f k t=some g)(n:Rd w Z k vk)(r:Rd w Z t v)(j:i∈mt){Q:Unit->aL->Prop}{E:aI->aL->Prop}
  (m:∀ s',cY w F mt [] J O Z s J (O.set i g) Z s'->St w F J Z (O.set i g) Y s'->Q () s'):bc (model pw w) A (setItem (.ref (J i)) vk v) Q E s:=by
 revert e;refine aX λk o=>?_;refine aU (gG o n) λy p=>?_;subst p;cases f with
 |ownd l=>
  refine ca λc e=>?_;obtain rfl:=bw e;refine ej (id h0) λ_ q hd d=>wpAny_setItem_pairs (knd:=ik w) (k:=k) mZ hd (λu a b=>?_) (by refine bY.len d▸?_;exact bf c (by decide));exact bn (wt (tk:=s.toks+1) H hi trivial (S1:=.ownd (lX l k t)) trivial ⟨_,h0⟩ b (fu rfl _ a (bY.stored r d))) λN h=>m _ (wD hi trivial j N) h
 |own l=>
  refine ca λc e=>?_;obtain rfl:=bw e;exact ej (id h0) λ_ x hd d=>Tk hd c.1 (by refine eY▸bm.length d▸?_;exact c.2.1) (Fn c) λu a b=>bn (wt (tk:=s.toks) H hi trivial (S1:=.own (l.set k.toNat t)) trivial ⟨_,h0⟩ b (fu rfl (x.set k.toNat v) (by simpa using a) (bm.set r d))) λN h=>m _ (wD hi trivial j N) h
 |_=>exact bD
theorem dY.ae5{a:aJ}{b:S}{h:bh}{v:aI}(c:b.adD)(x:dY w nt Z h a b v):v=.ref a:=by
 cases b with
 |own l=>exact x.1
 |ownd l=>exact x.1
 |_=>exact c.elim
theorem St.ownAt(H:St w F J Z O Y s){i:Nat}{x:Str}{b:S}(d:F.nm[i]?=some (some x))(hi:O[i]?=some b)(c:b.adD):dY w F.nt Z s.heap (J i) b (.ref (J i)):=
 aV H.vars λm g f=>aV (f i x b d hi λe=>(show S.adD .no from e▸c)) λv _ a=>a.ae5 c▸a
theorem Dh{a b:S}{k t:T}:mi a k t=some b->a.adD/\b.adD:=aX λk _=>by
 cases a with
 |ownd l=>exact ca λ_ e=>bw e▸⟨trivial,trivial⟩
 |own l=>exact ca λ_ e=>bw e▸⟨trivial,trivial⟩
 |_=>exact bD
theorem xy (H:St w F J Z O Y s) {i:Nat} {x:Str} {a:S} {pos:br} (d:F.nm[i]?=some (some x)) (hi:O[i]?=some a) (c:a.adD) (hd:(x==("__debug__":Str))=false) (hc:(x==("__classdict__":Str))=false)
  {Q:aI->aL->Prop} {E:aI->aL->Prop} (f:Q (.ref (J i)) s):bc (model pw w) A (eval (.Name x pos) F.env) Q E s:=by
 exact rD (aV H.vars λm g h=>aV (h i x a d hi λe=>(show S.adD .no from e▸c)) λv j b=>wV H.ok.kf g (b.ae5 c▸j) f hc) hd
theorem oB {y:Str} {py a pos:br} {value b:Expr} {i:Nat} {f g:aP} (h:F.nm[i]?=some (some y)) (hd:(y==("__debug__":Str))=false) (hc:(y==("__classdict__":Str))=false) (hs:qX value [.Subscript (.Name y py) b a]=true)
  (hw:nX [.Subscript (.Name y py) b a] value F.env=pure none) (o:i∈mt) (p:bu w A F value g) (hk:bu w A F b f) :
  eT w A F mt (.Assign [.Subscript (.Name y py) b a] value pos) (jC i f g):=λJ O Y N U ν' Z s H=>by
 refine bJ λx G q=>aX λt r=>bJ λP u z=>aX λk B=>aX λR c=>cb λV j C=>?_;cases C;intro Q E D;refine bn (Dh j) λl X=>yg ((p H q).frz r _ _ λv Z1 s1 m I=>?_) (AV hs) hw;show bc _ _ (iN (.Subscript (.Name y py) b a) F.env v) _ _ _;have d:=H.next m;rw[assign_Subscript];refine ba (fG (xy d h c l hd hc (ba (fG ((hk d z).frz B _ _ λvk Z2 s2 e K=>?_)))));have n:=d.next e;exact ba (gr (ba (fG (set_own n c (n.ownAt h c l) j K (Rd.mono e.le _ I) o λs3 L M=>wpAny_release (D _ _ _ _ ((cY.adM (m.trans e)).trans L) M rfl)))))
noncomputable def s9(a b:T):Option T:=a.int?.bind λa=>b.int?.map λb=>.int (a+b)
theorem Ey{c d t:T}{v1 f:aI}{Q:aI->aL->Prop}{E:aI->aL->Prop}(g:Rd w Z c v1)(h:Rd w Z d f)(i:∀ v k,(∀ Z,Rd w Z t v)->Q v {s with toks:=k}):s9 c d=some t->bc (model pw w) A (inplaceOp .Add v1 f) Q E s:=
 aX λa j=>cb λb l e=>aU (gG j g) λo m=>aU (gG l h) λp n=>by
  subst m n e;exact PySem.AutoIntOps.iadd_0 (i _ _ jR)
noncomputable def vd(c:List Nat)(i:Nat)(f:aP):bC:=λO Y=>(O[i]?).bind λd=>match d with
 |.v a=>(f O Y).bind λr=>r.1.t?.bind λb=>(s9 a b).bind λt=>if c.contains i/\i<O.length then some (.nx,O.set i (.v t),r.2)else none
 |_=>none
theorem Xv {y:Str} {py pos:br} {value:Expr} {i:Nat} {f:aP} (o:F.nm[i]?=some (some y)) (hc:(y==("__classdict__":Str))=false) (z:bu w A F value f) :
  eT w A F mt (.AugAssign (.Name y py) .Add value pos) (vd F.wr i f):=λJ O Y fl U ν' Z s H=>by
 refine aX λB C d=>?_;intro Q E D;cases B with
 |v a=>
  revert d;refine bJ λx G I=>?_;refine aX λb K=>aX λt L=>ca λc d=>?_;cases d;rw[arm_exec_AugAssign];refine aQ λM=>aV H.vars λm N g=>aV (g i y (.v a) o C (by intro q;cases q)) λv0 P h=>M (ba (gr (ba (wV H.ok.kf N P ?_ hc))));refine ba (fG ((z H I).frz K _ _ λv1 R s1 l V=>?_));have p:=H.next l;refine ba (gr (ba (wpAny_operateT (Ey (Rd.mono l.le _ h) V (λv r n=>?_) L))));refine ba (gr (ba (wpAny_bindName (AX (p.k r) o (by simpa using c.1) c.2 (n R) λs2 X H2=>cm (D _ _ _ _ ?_ H2 rfl)))));exact .adX (((l.trans (p.tok r)).toW F.fa).trans X) λj S e q=>by
   by_cases u:i=j
   ·subst u;replace e:=fT c.2▸e;cases e;exact q.elim
   ·rwa [ed u]at e
 |_=>exact bD d
noncomputable def S.aer:S->Int->Option T
 |.ownd l,k=>iP l k
 |.own l,k=>if 0<=k/\k<l.length/\l.length<=1000000 then l[k.toNat]? else none
 |.no,_|.v _,_|.nts,_=>none
noncomputable def wb(a:S)(k:T):Option T:=k.int?.bind a.aer
theorem get_own{a:aJ}{c:S}{k t:T}{vk:aI}{Q:aI->aL->Prop}{E:aI->aL->Prop}(h0:dY w nt Z s.heap a c (.ref a))(e:wb c k=some t)(j:Rd w Z k vk)(g:∀ v h,Rd w Z t v->Q v {s with toks:=h}):
  bc (model pw w) A (uh (.ref a) vk) Q E s:=by
 revert e;refine aX λk m=>?_;refine aU (gG m j) λh n=>?_;subst n;cases c with
 |ownd l=>exact λe=>ej (id h0) λ_ o hd d=>aV (zW d e) λy f b=>wpAny_getItem_of (knd:=ik w) mZ hd.mapOf f (g y _ b)
 |own l=>exact ca λi e=>ej (id h0) λ_ p hd d=>aV (bm.get d e) λy f b=>wpAny_getItem_list hd.isList i.1 (Fn i) (im.trans f) (g y s.toks b)
 |_=>exact bD
noncomputable def na(i:Nat)(d e:aP):bC:=λO Y=>(O[i]?).bind λc=>(d O Y).bind λa=>a.1.t?.bind λk=>(wb c k).bind λold=>(e O a.2).bind λb=>b.1.t?.bind λt=>(s9 old t).bind λn=>(mi c k n).map λf=>(.nx,O.set i f,b.2)
theorem abj{c:Expr}(h:mY c=true)(a b new:aI):augStore c a b new=(do holding [new,a,b] (setItem a b new);release [new,a,b] [];pure .next):=by
 cases c<;>first|rfl|cases h
theorem Bu {y:Str} {py a pos:br} {value f:Expr} {i:Nat} {m o:aP} (g:F.nm[i]?=some (some y)) (hd:(y==("__debug__":Str))=false) (hc:(y==("__classdict__":Str))=false) (h:mY f=true) (z:i∈mt) (B:bu w A F value o) (hk:bu w A F f m) :
  eT w A F mt (.AugAssign (.Subscript (.Name y py) f a) .Add value pos) (na i m o):=λJ O Y fl U ν' Z s H=>by
 refine aX λS0 d=>bJ λxk G C=>aX λk D=>aX λold I=>bJ λxb K L=>aX λb M=>aX λn N=>cb λS1 p P=>?_;cases P;intro Q E R;refine bn (Dh p) λj o2=>?_;rw[arm_exec_AugAssign_3];refine ba (gr (ba (xy H g d j hd hc (ba (fG ((hk H C).frz D _ _ λvk Z1 s1 q r=>?_))))));have l:=H.next q;refine ba (fG (ba (gr (ba (get_own (l.ownAt g d j) I r λvo t V=>?_)))));have u:=l.k t;refine ba (fG ((B u L).frz M _ _ λvb X s3 e r3=>?_));have v:=u.next e;refine ba (gr (wpAny_operateT (Ey (Rd.mono e.le _ V) r3 (λvn c rn=>?_) N)));have x:=v.k c;refine ba (gr ?_);rw[abj h];exact ba (fG (set_own (mt:=mt) x d (x.ownAt g d j) p (Rd.mono e.le _ r) (rn X) z λs5 N5 H5=>ba (wpAny_release (cm (R _ _ _ _ ((cY.adM (((q.trans (l.tok t)).trans e).trans (v.tok c))).trans N5) H5 rfl)))))
noncomputable def ky:List T->Option (List Int)
 |[]=>some []
 |t::l=>t.int?.bind λk=>(ky l).map (k::·)
noncomputable def G5(x:X)(k:Int):Option Bool:=x.adL.map λl=>l.any λp=>p.1=k
noncomputable def vF(x:X)(k:Int):Option Bool:=x.adH.bind λl=>(ky l).map λa=>a.any (·==k)
noncomputable def BG(f g:aP):dc:=λO Y=>(f O Y).bind λa=>a.1.t?.bind λt=>t.int?.bind λk=>(g O a.2).bind λb=>(G5 b.1 k).map λr=>(r,b.2)
noncomputable def uV(neg:Bool)(f g:aP):dc:=λO Y=>(f O Y).bind λa=>a.1.t?.bind λt=>t.int?.bind λk=>(g O a.2).bind λb=>(vF b.1 k).map λr=>(r != neg,b.2)
theorem UW:∀ {l:List T} {a:List aI} {b:List Int},bm w Z l a->ky l=some b->IntsAre a b:=by
 intro c;induction c with
 |nil=>
  intro _ _ h e;rw[show _=[]from h,<- bw e];exact .nil
 |cons t l d=>
  intro a b h e;exact bG h λv o f h1 h2=>by
    revert e;refine aX λk g=>cb λi j m=>?_;refine aU (gG g h1) λp n=>?_;subst f m n;exact .cons _ _ (d h2 j)
theorem YJ:∀ {l:List (Int×T)} {a:List (Int×aI)} {k:Int},bY w Z l a->(ya a k).isSome=l.any λp=>decide (p.1=k):=by
 intro b;induction b with
 |nil=>
  intro _ _ h;exact congrArg (λl=>(ya l _).isSome) h
 |cons c l d=>
  obtain⟨e,g⟩:=c;intro _ k h;exact bG h λv i f _ h2=>by
    rw[f,Ik,JQ];by_cases q:e=k
    ·rw[if_pos q,decide_eq_true q];rfl
    ·rw[if_neg q,decide_eq_false q];exact d h2
theorem Lz{a b:Expr}{pos}{f g:aP}(j:bu w A F a f)(m:bu w A F b g)(n:rE .In b=false):gA w A F (.Compare a [.In] [b] pos) (BG f g):=λJ O Y x ν' Z s H=>
 bJ λN G o=>aX λt p=>aX λk q=>bJ λP u v=>cb λr y=>dR λQ E z=>by
  refine CF ((j H o).frz p _ _ λv1 R V c B=>m (H.next c) v _ _ λX Z2 s2 i C=>?_) n;revert y;refine cb λl D e=>?_;have h:=(H.next c).next i;refine aU (gG q B) λtk I=>bG (RX.dct h.on C D) λd K L hd M=>?_;subst I L e;refine wpAny_in_of (knd:=ik w) (k:=k) mZ (tM h hd) hd.mapOf (uk ?_);rw[YJ M];exact z _ _ ((c.trans i).trans (h.tok _))
theorem E9{a b:Expr}{pos}{f g:aP}(neg:Bool)(j:bu w A F a f)(m:bu w A F b g)(n:rE (if neg then .NotIn else .In) b=false):gA w A F (.Compare a [if neg then .NotIn else .In] [b] pos) (uV neg f g):=λJ O Y x ν' Z s H=>
 bJ λN G o=>aX λt p=>aX λk u=>bJ λP v y=>cb λr c=>dR λQ E z=>by
  refine CF ((j H o).frz p _ _ λv1 R V h B=>m (H.next h) y _ _ λX Z2 s2 i C=>?_) n;revert c;refine aX λl c=>cb λns D e=>?_;have I:=(H.next h).next i;refine aU (gG u B) λtk K=>bG (RX.lst I.on C c) λd vs L hd M=>?_;subst K L e;have hi:=UW M D;have q:=z _ _ (h.trans i);cases neg with
  |false=>exact PyProof.Rows.in_list_ints hd hi (uk (by rw[Bool.bne_false]at q;exact q))
  |true=>exact PyProof.Rows.notin_list_ints hd hi (uk (by rw[JR]at q;exact q))
noncomputable def kS(a:List Nat)(O:List S):Bool:=a.all λi=>match O[i]? with
 |some .no=>true
 |_=>false
theorem Ie{a:List Nat}(h:kS a O=true):∀ i∈a,O[i]?=some .no:=λi hi=>by
 have:=c8.mp h i hi;revert this;cases O[i]? with
 |none=>intro h;cases h
 |some S=>cases S<;>intro h<;>first|rfl|cases h
noncomputable def i9(l:List T)(lo hi:Option Int):List T:=
 (sliceRange (kK lo hi none l.length).1 (kK lo hi none l.length).2.1 (kK lo hi none l.length).2.2).filterMap (l[·]?)
theorem OC{l:List T}{b:List aI}(h:bm w Z l b):∀ (is:List Nat),bm w Z (is.filterMap (l[·]?)) (is.filterMap (b[·]?)):=by
 intro c;induction c with
 |nil=>
  simp only[List.filterMap_nil];show _=_;rfl
 |cons i is a=>
  rw[ad6,ad6];cases q:l[i]? with
  |none=>
   rw[show b[i]?=none from lK (by rw[bm.length h];exact rH.mp q)];exact a
  |some t=>exact aV (bm.get h q) λv d e=>d▸(cE v _ rfl e (a))
theorem Og{l:List T}{a:List aI}(h:bm w Z l a)(lo hi:Option Int):bm w Z (i9 l lo hi) (CW a.toArray lo hi none).toList:=by
 unfold i9 CW;have b:=bm.length h;rw[eY,b];simp only[im];exact OC h _
inductive ij (w:aY) (A:bx) (F:Fx):Option Expr->Option aP->Prop
 |none:ij w A F none none
 |some {e f}:bu w A F e f->ij w A F (some e) (some f)
noncomputable def oG:Option aP->List S->List T->Option (Option Int×List T)
 |none,_,Y=>some (none,Y)
 |some f,O,Y=>(f O Y).bind λa=>a.1.t?.bind λt=>t.int?.map λk=>(some k,a.2)
theorem Fj{e:Option Expr}{f:Option aP}(h:ij w A F e f)(H:St w F J Z O Y s){o:Option Int}(a:oG f O Y=some (o,ν'))(Q:aI->aL->Prop)(E:aI->aL->Prop)
  (b:∀ v Z' s',Nx w F.nt Z s Z' ν' s'->IsPart v o->Q v s'):bc (model pw w) A (evalPart e F.env) Q E s:=by
 cases h with
 |none=>cases a;rw[evalPart_none];exact cm (b _ _ _ H.nx .none)
 |some h=>
  revert a;refine bJ λx G c=>aX λt d=>cb λk g e=>?_;obtain⟨rfl,rfl⟩:=ye e;rw[evalPart_some];exact(h H c).frz d _ _ λv Z' s' N r=>aU (gG g r) λt i=>b _ _ _ N (i▸.int k t)
noncomputable def h7(f:aP)(lo hi:Option aP):aP:=λO Y=>(f O Y).bind λa=>(oG lo O a.2).bind λp=>(oG hi O p.2).bind λq=>a.1.adH.bind λl=>if l.length<=1000000 then some (.fr (i9 l p.1 q.1),q.2)else none
theorem rj{value:Expr}{lo hi:Option Expr}{p pos:br}{f:aP}{q t:Option aP}(C:∀ o r,letTemporaryGo value o r=pure ())(h:bu w A F value f)(D:ij w A F lo q)(I:ij w A F hi t):
  bu w A F (.Subscript value (.Slice lo hi none p) pos) (h7 f q t):=λJ O Y x ν' Z s H=>by
 refine bJ λx G K=>bJ λb L M=>bJ λc N P=>aX λl R=>ca λd=>g8 ?_;intro Q E V;refine wpAny_Subscript_list_slice (h H K _ _ λv Z1 s1 e X=>Fj D (H.next e) M _ _ λu Z2 s2 g p2=>Fj I ((H.next e).next g) P _ _ λy Z3 j i p3=>?_) C;have z:=H.next e;have k:=(z.next g).next i;have r3:=RX.next H.sz z X (g.trans i);refine aQ λnG=>bG (RX.lst k.on r3 R) λa m y2 hL B=>?_;subst y2;refine nG (vR a m.toArray b c ⟨rfl,hL,(by rw[eY,bm.length B];exact bf d (by decide)),p2,p3,?_⟩);have N4:=((e.trans g).trans i).push {cls:=.type "slice",data:=.fields #[u,y,.none]};have N5:=N4.push {cls:=.type "list",data:=.seq (CW m.toArray b c none)};have n:(j.heap.push {cls:=.type "slice",data:=.fields #[u,y,.none]}).objs.size=j.heap.objs.size+1:=eQ ..;refine V _ _ _ N5 (jz (j.heap.objs.size+1) ((CW m.toArray b c none).toList) rfl ?_ ?_ ?_ ?_ (Og B _ _))
 ·have:=((e.trans g).trans i).size;lia
 ·exact(dM k (mE _)).1
 ·exact(dM k (mE _)).2
 ·rw[<- n];exact⟨0,by rw[dx _ (by rfl)]⟩
theorem Mx{l b:aJ}{a c:List aI}{Q:aI->aL->Prop}{E:aI->aL->Prop}(q:s.heap.IsList l a.toArray)(r:s.heap.IsList b c.toArray)
  (h:Q (.ref s.heap.objs.size) {s with heap:=s.heap.push {cls:=.type "list",data:=.seq (a++c).toArray}}) (i:a.length+c.length<=kG):bc (model pw w) A (CA .Add (.ref l) (.ref b)) Q E s:=by
 refine aQ λt=>lr (id q) λj o hc n hd=>?_;obtain⟨cls,u,data,v⟩:=j;refine lr (id r) λj d f x g=>?_;obtain⟨p,k,data2,m⟩:=j;refine t ?_;simp only at hc hd f g;subst hc hd f g;have e:a.toArray++c.toArray=(a++c).toArray:=by simp
 refine concat_meets (aS _ o rfl) (aS _ d rfl) noFill_list_add seq_list_add PySem.F.slot_list_add PySem.F.entry_list_add (PySem.F.args_list_add_2 _ _) (list_addW l b a.toArray c.toArray n x u k v m (by simpa using i)) ⟨o,d,?_⟩;rw[e];exact h
noncomputable def sC(f g:aP):aP:=λO Y=>(f O Y).bind λa=>(g O a.2).bind λb=>a.1.adH.bind λl=>b.1.adH.bind λr=>if l.length+r.length<=1000000 then some (.fr (l++r),b.2)else none
theorem AW{a b:Expr}{pos}{f g:aP}(o:bu w A F a f)(p:bu w A F b g):bu w A F (.BinOp a .Add b pos) (sC f g):=λJ O Y x ν' Z s H=>by
 refine bJ λK G q=>bJ λL t u=>aX λl v=>aX λr y=>ca λz=>g8 ?_;intro Q E B;refine x9 (o H q _ _ λv1 M P c C=>p (H.next c) u _ _ λR V X d D=>?_);have i:=H.next c;have e:=i.next d;refine aQ λI=>bG (RX.lst e.on (RX.next H.sz i C d) v) λa1 j h h1 k=>?_;subst h;refine bG (RX.lst e.on D y) λa2 m h h2 n=>?_;subst h;refine I (Mx h1 h2 ?_ (by rw[bm.length k,bm.length n];exact bf z (by decide)));have N:=(c.trans d).push {cls:=.type "list",data:=.seq (j++m).toArray};exact B _ _ _ N (jz _ (j++m) rfl ((c.trans d).size) ((dM e (cu _)).1) ((dM e (cu _)).2) ⟨0,dx _ rfl⟩ (bm.app k n))
theorem PW{l b:aJ}{a c:List aI}{Q:aI->aL->Prop}{E:aI->aL->Prop}(q:IsTup s.heap l a.toArray)(r:IsTup s.heap b c.toArray)(h1:a≠[])(h2:c≠[])
  (h:Q (.ref s.heap.objs.size) {s with heap:=s.heap.push {cls:=.type "tuple",data:=.seq (a++c).toArray}}) (i:a.length+c.length<=kG):bc (model pw w) A (CA .Add (.ref l) (.ref b)) Q E s:=by
 refine aQ λt=>lr (id q) λj o hc n hd=>?_;obtain⟨cls,u,data,v⟩:=j;refine lr (id r) λj d f x g=>?_;obtain⟨p,k,data2,m⟩:=j;refine t ?_;simp only at hc hd f g;subst hc hd f g;have e:a.toArray++c.toArray=(a++c).toArray:=by simp
 refine concat_meets (aS _ o rfl) (aS _ d rfl) noFill_tuple_add seq_tuple_add PySem.F.slot_tuple_add PySem.F.entry_tuple_add (PySem.F.args_tuple_add_2 _ _) (tuple_addW2 l b a.toArray c.toArray n x u k v m (by simpa using h1) (by simpa using h2) (by simpa using i)) ⟨o,d,?_⟩;rw[e];exact h
noncomputable def iS(f g:aP):aP:=λO Y=>(f O Y).bind λa=>(g O a.2).bind λb=>a.1.adJ.bind λl=>b.1.adJ.bind λr=>if l≠[]/\r≠[]/\l.length+r.length<=1000000 then some (.v (.tup (l++r)),b.2)else none
theorem qO{a b:Expr}{pos}{f g:aP}(q:bu w A F a f)(t:bu w A F b g):bu w A F (.BinOp a .Add b pos) (iS f g):=λJ O Y x ν' Z s H=>by
 refine bJ λV G u=>bJ λX v y=>aX λl z=>aX λr B=>ca λh=>g8 ?_;intro Q E C;refine x9 (q H u _ _ λv1 Z1 s1 c D=>t (H.next c) y _ _ λv2 I K d L=>?_);have o:=H.next c;have e:=o.next d;refine aQ λM=>bG (RX.tup e.on (RX.next H.sz o D d) z) λa1 i j h1 k=>?_;subst j;refine bG (RX.tup e.on L B) λa2 m j h2 n=>?_;subst j;refine M ?_;have P:i≠[]:=by rintro rfl;have:=bm.length k;exact h.1 (CS.mp this.symm)
 have R:m≠[]:=by rintro rfl;have:=bm.length n;exact h.2.1 (CS.mp this.symm)
 refine PW h1 h2 P R ?_ (by rw[bm.length k,bm.length n];exact bf h.2.2 (by decide));have N:=(c.trans d).push {cls:=.type "tuple",data:=.seq (i++m).toArray};have p:I K.heap.objs.size=none:=(dM e (cu _)).1;exact C _ _ _ (N.put (c.trans d).size p (dM e (cu _)).2) (fw _ _ (i++m) rfl (gS.trans (dx _ rfl)) ⟨rfl,0,rfl⟩ (bm.mono (gc p) _ (bm.app k n)))
noncomputable def gO(f:aP):aP:=λO Y=>(f O Y).bind λa=>a.1.t?.bind λt=>t.int?.map λk=>(.v (.int (-k)),a.2)
theorem O0{a:Expr}{pos}{f:aP}(c:bu w A F a f):bu w A F (.UnaryOp .USub a pos) (gO f):=λJ O Y x ν' Z s H=>bJ λl G d=>aX λt e=>cb λk g=>dR λQ E h=>by
  show bc _ _ (do let v <- eval a F.env;gJ pos;js [v] (unaryOp .USub v)) _ _ _;refine ba ((c H d).frz e _ _ λv1 m n b i=>ba (gr (fG (aU (gG g i) λt j=>?_))));subst j;exact PyProof.Rows.neg_int (h _ _ _ (b.trans ((H.next b).tok _)) kE)
section
variable{w:aY}{A:bx}{mt:List Nat}{nt:Option aJ}{h₀:bh}{env:cz}{nm:List (Option Str)}
theorem Ay(i:Nat){y:Str}{e:Expr}{py pos:br}{f:aP}(hi:nm[i]?=some (some y))(hs:qX e [.Name y py]=true)(hw:nX [.Name y py] e env=pure none)(h:bu w A (cH nt h₀ env nm) e f):
  eT w A (cH nt h₀ env nm) mt (.Assign [.Name y py] e pos) (jB (aO nm.length) i f):=aaz (F:=cH nt h₀ env nm) h hi hs hw
theorem abN (i:Nat) {y:Str} {py pos:br} {value:Expr} {f:aP} (a:nm[i]?=some (some y)) (hc:(y==("__classdict__":Str))=false) (b:bu w A (cH nt h₀ env nm) value f) :
  eT w A (cH nt h₀ env nm) mt (.AugAssign (.Name y py) .Add value pos) (vd (aO nm.length) i f):=Xv (F:=cH nt h₀ env nm) a hc b
theorem iU(p:PT)(d:Bool)(e:Option Nat)(h:A.handled=none){target iter:Expr}{body:List dw}{pos:br}{g:bC}{f:List S->List T->Option (List T×List T)}(a:jV iter=true)(b:d=true->ja target=true)(j:gP nm p target=true)
  (c:∀ i∈mt,e≠some i) (k:gT w A (cH nt h₀ env nm) iter d e f) (l:dn w A (cH nt h₀ env nm) mt body g):eT w A (cH nt h₀ env nm) mt (.For target iter body [] pos) (fc (aO nm.length) p f g):=
 Tb (F:=cH nt h₀ env nm) h k a b j l c
end
noncomputable def X.ty:X->String
 |.v (.str _)=>"str"
 |.v (.dct _)|.frd _|.bod ..=>"dict"
 |.fr _|.bo ..=>"list"
 |_=>"?"
noncomputable def iA(b:String)(f:aP)(c:List aP)(k:List X->List T->Option (X×List T)):aP:=λO Y=>(f O Y).bind λa=>if a.1.ty=b then(eR c O a.2).bind λr=>k (a.1::r.1) r.2 else none
theorem RX.typ {n:Nat} {x:X} {v:aI} {T:String} (f:On Z s.heap) (r:RX w F J O n Z s.heap x v) (e:x.ty=T) (hT:(T=="?")=false):s.TypeIs v T/\∀ a,v=.ref a->∃ c,s.heap.get? a=some c/\c.dict=none:=by
 have dct:∀ l,x.adL=some l->s.TypeIs v "dict"/\∀ a,v=.ref a->∃ c,s.heap.get? a=some c/\c.dict=none:=λl h=>by
  refine aQ λg=>bG (RX.dct f r h) λa j d h1 h2=>?_;subst d;exact g ⟨h1.mapOf.typeIs,h1.mapOf.noDict⟩
 cases x with
 |v t=>
  cases t with
  |str x=>subst e;refine aU r λt k=>?_;clear r;subst k;exact⟨typeIs_str _ _ _,λ_ h=>nomatch h⟩
  |dct l=>subst e;exact dct l rfl
  |_=>subst e;cases hT
 |fr l=>subst e;refine iy r λa m d _ _ _ h4 _=>?_;clear r;subst d;refine⟨h4.isList.typeIs,λb h=>?_⟩;cases h;refine aU h4 λn h4=>?_;exact(aS _ h4 rfl)
 |bo i l=>subst e;refine oU r λo _ m h4 _=>?_;clear r;subst o;refine⟨h4.isList.typeIs,λb h=>?_⟩;cases h;refine aU h4 λn h4=>?_;exact(aS _ h4 rfl)
 |frd l=>subst e;exact dct l rfl
 |bod i l=>subst e;exact dct l rfl
 |nts=>subst e;cases hT
theorem oA{a:cz}{pos:br}{es:List Expr}(h:es.all dS=true)(b:jr es.length 20=true):((ka pos (ju es a)).all (λx=>!x.1)&&(backToKw pos (JS [] a)).all (λx=>x.1.isSome)
   &&decide (es.length+([]:List uz).length+(if ([]:List uz).isEmpty then 0 else 1)<30))=true:=by
 have h1:=jg (env:=a) (pos:=pos) h;have h2:=xE b;simp only[fg,decide_eq_true_eq,List.isEmpty_nil,if_true,iJ,ua];refine⟨⟨?_,rfl⟩,abn h2⟩;refine c8.mpr ?_;intro x c;have:=List.any_eq_false.mp h1 x c;simpa using this
theorem qz{f:aI}{pos:br}{a:List Expr}{Q:Args->aL->Prop}{E:aI->aL->Prop}(c:a.all dS=true)(h:bc (model pw w) A (ug (ka pos (ju a F.env))) (λd b=>Q ⟨d,[]⟩ b) E s):
  bc (model pw w) A (evalArgs f true (ka pos (ju a F.env)) []) Q E s:=by
 cases a with
 |nil=>
  unfold evalArgs;show bc _ _ (ug [] >>= _) _ _ _;refine ba (iM h (λd s' g=>?_) λ_ _ x=>x);exact ba (cm (fG (ba (cm (ba (cm (cm g)))))))
 |cons e a=>
  rw[gX,fg]at c;rw[eG c.1]at h ⊢;exact evalArgs_plain h
theorem oV {T id:String} {o:Expr} {name:Str} {apos pos:br} {h:List Expr} {f:aP} {j:List aP} {k:List X->List Mine.Internal.T->Option (X×List Mine.Internal.T)} (hT:(T=="?")=false) (n:PlainAttrs T) (slot:Slot T name id) (i:typeOf (.builtin id)=pure (.type "method_descriptor"))
  (hc:dH w A F (.builtin id) k) (b:n6 o name F.env (eval o F.env)=eval o F.env) (c:(apos.endLine==pos.line)=true) (p:jr h.length 20=true) (q:bu w A F o f) (a:aN w A F h j) :
  bu w A F (.Call (.Attribute o name apos) h [] pos) (iA T f j k):=λJ O Y x ν' Z s H=>by
 refine bJ λx G r=>ca λt=>bJ λu y z B=>?_;intro Q E C;refine rM (T:=T) (id:=id) b (oA a.plain p) c n slot i (q H r _ _ λv Z1 s1 d l=>?_);have g:=H.next d;refine bn (RX.typ g.on l t hT) λD I=>⟨D,I,uA (jg a.plain) (qz a.plain (a.as g z _ _ λm K L e M=>?_))⟩;have N:=g.next e;exact hc N H.low (bf d.size e.size) (show cR w F J O s.heap.objs.size K L.heap (x::u) (v::m)from(cE v m rfl (RX.next H.sz g l e) (M.le d.size))) B _ _ λv P R V r3=>C v P R ((d.trans e).trans V) (r3.le (bf d.size e.size))
noncomputable def strs?:List T->Option (List Str)
 |[]=>some []
 |t::l=>t.adK.bind λx=>(strs? l).map (x::·)
noncomputable def lu(x y:X):Option X:=x.adK.bind λx=>y.adK.map λy=>.v (.int (CX x y))
noncomputable def zh(x y:X):Option X:=x.adK.bind λx=>y.adK.bind λy=>(acI x y 0 x.length 1).head?.map λ(i:Nat)=>.v (.int (i:Int))
noncomputable def FF(x:X):Option X:=x.adK.bind λx=>if x.length<=1000000 then some (.v (.str (JT x)))else none
noncomputable def ny(x y:X):Option X:=x.adK.bind λx=>y.adH.bind λl=>(strs? l).bind λa=>if (a.map (·.length)).sum+a.length*x.length<=1000000 then some (.v (.str (Txt.join x a)))else none
theorem Sn:∀ {l:List T} {a:List aI} {b:List Str},bm w Z l a->strs? l=some b->StrsAre a b:=by
 intro c;induction c with
 |nil=>
  intro _ _ h e;refine(show _=[]from h)▸bw e▸?_;exact .nil
 |cons t l d=>
  intro a b h e;exact bG h λv o f h1 h2=>by
    revert e;refine aX λk g=>cb λi j m=>?_;refine aU (DX g h1) λp n=>?_;subst f m n;exact .cons _ _ (d h2 j)
theorem ZT{J:Type}{l:List J}{a:J}(h:l.head?=some a):l=a::l.tail:=by
 cases l with
 |nil=>exact bD h
 |cons b l=>exact bw h▸rfl
theorem zI:dH w A F (.builtin "str.count") (gR lu):=AC λ{J O Y Z s n x h y v k} H h1 h2 r a=>aX λi b=>cb λj c e Q E d=>by
 refine aU (kr b r) λt f=>aU (kr c a) λl g=>?_;subst f g e;exact SC.count (d _ _ _ (H.tok _) kE)
theorem ZK:dH w A F (.builtin "str.index") (gR zh):=AC λ{J O Y Z s n x l y v m} H h1 h2 r a=>aX λi b=>aX λj c=>cb λk d e Q E f=>by
 refine aU (kr b r) λt g=>aU (kr c a) λo h=>?_;subst g h e;exact SC.index (ZT d) (f _ _ _ (H.tok _) kE)
theorem SL:dH w A F (.builtin "str.lower") (cD FF):=kM λ{J O Y Z s n x y v} H h1 h2 r=>aX λi a=>ca λb e Q E c=>by
 obtain rfl:=bw e;refine aU (kr a r) λt d=>?_;subst d;exact PySem.SC.lower (fit_lower (Ti b)) (c _ _ _ (H.tok _) oo)
theorem EL:dH w A F (.builtin "str.join") (gR ny):=AC λ{J O Y Z s n x q y v u} H h1 h2 r b=>aX λi c=>aX λl d=>aX λz f=>ca λg e Q E h=>by
 obtain rfl:=bw e;refine aU (kr c r) λt j=>bG (RX.lst H.on b d) λa B m o p=>?_;subst j m;exact join_list o (Sn p f) (O6 g) λC k=>h _ _ _ (H.tok _) oo
noncomputable def AJ(f g:aP):aP:=λO Y=>(f O Y).bind λa=>(g O a.2).bind λb=>a.1.adK.bind λx=>b.1.int?.bind λk=>if -1000<=k/\k<=1000 then(JU x k).map λc=>(.v (.str ⟨#[c]⟩),b.2)else none
theorem ZO{a b:Expr}{pos}{f g:aP}(h:bu w A F a f)(i:bu w A F b g)(j:mY b=true):bu w A F (.Subscript a b pos) (AJ f g):=λJ O Y x ν' Z s H=>
 bJ λB G l=>bJ λC m n=>aX λx o=>aX λk p=>ca λhk=>cb λc q=>dR λQ E r=>by
  refine Subscript_ (h H l _ _ λv1 D I d t=>i (H.next d) n _ _ λK L M e u=>aU (kr o t) λN v=>aU (j2 p u) λR y=>?_);subst v y;have z:=(H.next d).next e;refine CD (typeIs_str _ _ _) PySem.F.slot_str_getitem.lookup ?_ (wc j _ _);exact PySem.P.getItem_str (by simp;exact Ox hk) q (r _ _ _ ((d.trans e).trans (z.tok _)) oo)
theorem St.aec(H:St w F J Z O Y s):interactive F.env=false:=by
 unfold interactive;rw[H.ok.kf];rfl
theorem Ha{f:Expr}{b:List Expr}{c:List uz}{p:br}{l:Nat}{a:cz}:swapsWith (.Call f b c p) none l a=pure false:=rfl
noncomputable def S.aep(i:Nat)(O:List S)(Y:List T)(t:T):S->Option (Fl×List S×List T)
 |.own l=>if l.length<=1000000 then some (.nx,O.set i (.own (l++[t])),Y)else none
 |.nts=>if Y.length<=1000000 then some (.nx,O,Y++[t])else none
 |.no|.v _|.ownd _=>none
noncomputable def dJ(i:Nat)(f:aP):bC:=λO Y=>(f O Y).bind λa=>a.1.t?.bind λt=>(O[i]?).bind λb=>b.aep i O a.2 t
theorem Qk(H:St w F J Z O Y s){a:aJ}{t:T}{v:aI}{Q:aI->aL->Prop}{E:aI->aL->Prop}(d:F.nt=some a)(r:Rd w Z t v)(f:Y.length<=kG)
  (u:∀ s',Nx w F.nt Z s Z (Y++[t]) s'->Q .none s'):bc (model pw w) A (call (.builtin "list.append") [.ref a,v]) Q E s:=by
 refine ej (show fq w Z (some a) Y s.heap from d▸H.nts) λg i c p=>JV c (λx j hs=>u _ ?_) (by rw[eY,bm.length p];exact f);have keep:∀ b o,b≠a->s.heap.get? b=some o->x.get? b=some o:=λb o k e=>hs.extBut b o k e;refine aV H.tab λz B _=>?_;have l:lg≠a:=λq=>bD (((congrArg Z q).trans g).symm.trans (H.md.1 lg (((HF w.params).get? lg).getD default) (by kernel_rfl) (by decide)));have m:eB≠a:=λq=>aU c λn c=>nomatch (q▸c).symm.trans B.2;refine⟨.refl Z,λ_ _=>rfl,λb o e=>keep b o (λq=>bD (g.symm.trans (q▸e))) (H.on b o e),λb o k e=>keep b o (λq=>k (.inl (q▸d))) e,gV hs.1.symm,?_,id,rfl,λz h=>⟨#[],acO▸?_⟩⟩
 ·rw[d];exact(fu g (i++[v]) (by simpa using j) (bm.app p (cE v [] rfl r rfl)))
 ·exact bn h λC h4=>bn C λy h3=>eA y λo i h1 h2=>⟨⟨(iz o i (keep _ _ l h1) h2),keep _ _ m h3⟩,h4⟩
theorem g7 {y:Str} {py apos c pos:br} {e:Expr} {i:Nat} {f:aP} (C:F.nm[i]?=some (some y)) (hd:(y==("__debug__":Str))=false) (hc:(y==("__classdict__":Str))=false) (hm:i∈mt)
  (d:n6 (.Name y py) "append" F.env (eval (.Name y py) F.env)=eval (.Name y py) F.env) (g:(apos.endLine==c.line)=true) (R:dS e=true) (h:bu w A F e f) :
  eT w A F mt (.Expr (.Call (.Attribute (.Name y py) (aK "append") apos) [e] [] c) pos) (dJ i f):=λJ O Y fl U ν' Z s H=>bJ λx G e1=>aX λt e2=>aX λS0 hi o Q E V=>by
 refine wpAny_Expr_any ?_ H.aec Ha;have jv:[e].all dS=true:=by rw[gX,R];rfl
 have args:∀ {Q:List aI->aL->Prop} {E:aI->aL->Prop},(∀ v r p,Nx w F.nt Z s r G p->Rd w r t v->Q [v] p)->bc (model pw w) A (ug (ka c (ju [e] F.env))) Q E s:=λhq=>
  gn.one H ((h H e1).frz e2) R _ _ λws r p j r1=>aV (cR.one r1) λv y2 u=>y2▸hq v r p j u
 cases S0 with
 |own l=>
  revert o;refine ca λI o=>?_;cases o;refine rM (T:="list") (id:="list.append") d (oA jv rfl) g JW slot_list_append ad7 (xy H C hi trivial hd hc (ej (H.ownAt C hi trivial) λ_ vs a hr=>⟨a.isList.typeIs,λb q=>CY q▸aU a λn a=>(aS _ a rfl),uA (jg jv) (qz jv (args λv r p j u=>?_))⟩));have X:=H.next j;have k:=X.ownAt C hi trivial;refine ej (id k) λ_ K z B=>JV z (λh' L hs=>?_) (by rw[eY,bm.length B];exact bf I (by decide));exact bn (wt (tk:=p.toks) X hi trivial (S1:=.own (l++[t])) trivial ⟨_,k⟩ hs (fu rfl (K++[v]) (by simpa using L) (bm.app B (cE v [] rfl u rfl)))) λD H2=>
   V _ _ _ _ ((cY.adM j).trans (wD hi trivial hm D)) H2 rfl
 |nts=>
  revert o;refine ca λI o=>?_;cases o;refine aV H.vars λm M N=>DB (N i y .nts C hi nofun) λv0 P b hb y4=>?_;subst y4;refine rM (T:="list") (id:="list.append") d (oA jv rfl) g JW slot_list_append ad7 (rD (wV H.ok.kf M P ?_ hc) hd);refine ej (show fq w Z (some b) Y s.heap from hb▸H.nts) λ_ vs a _=>⟨a.isList.typeIs,λb q=>CY q▸aU a λn a=>(aS _ a rfl),uA (jg jv) (qz jv (args λv r p j u=>?_))⟩;exact Qk (H.next j) hb u (bf I (by decide)) λs2 D=>V _ _ _ _ (cY.adM (j.trans D)) (H.next (j.trans D)) rfl
 |_=>exact bD o
noncomputable def oz(k:Int):T->Bool
 |.int n=>n==k
 |_=>false
noncomputable def sL(i:Nat)(f:aP):bC:=λO Y=>(f O Y).bind λa=>a.1.t?.bind λt=>t.int?.bind λk=>(O[i]?).bind λb=>b.ae3.bind λl=>
 (ky l).bind λ_=>(l.findIdx? (oz k)).bind λj=>if l.length<=1000000 then some (.nx,O.set i (.own (l.eraseIdx j)),a.2)else none
noncomputable def xx(k:Int):aI->Bool
 |.int n _=>n==k
 |_=>false
theorem bm.at{Z:Fz}:∀ {l:List T} {f:List aI},bm w Z l f->∀ {i:Nat} {v:aI},f[i]?=some v->∃ t,l[i]?=some t/\Rd w Z t v:=by
 intro a;induction a with
 |nil=>
  intro _ h i v e;exact bD (show([]:List aI)[i]?=_ from h▸e)
 |cons t r b=>
  intro _ h c;cases c with
  |zero=>
   intro j e;exact bG h λv g d h1 h2=>(aS t rfl (bw (show some v=_ from d▸e)▸h1))
  |succ i=>
   intro j e;exact bG h λv g d h1 h2=>b (i:=i) h2 (show(v::g)[i+1]?=_ from d▸e)
theorem Te:∀ {l:List T} {e:List aI} {j:Nat},bm w Z l e->bm w Z (l.eraseIdx j) (e.eraseIdx j):=by
 intro a;induction a with
 |nil=>
  intro _ j h;exact congrArg (List.eraseIdx · j) h
 |cons t l b=>
  intro _ c;cases c with
  |zero=>
   intro h;exact bG h λv f d h1 h2=>d▸h2
  |succ j=>
   intro h;exact bG h λv f d h1 h2=>d▸(cE v _ rfl h1 (b h2))
theorem Ms:∀ {l:List T} {a:List Int},ky l=some a->∀ {i:Nat} {t:T},l[i]?=some t->∃ n,t=.int n:=by
 intro b;induction b with
 |nil=>
  intro a h i t e;exact bD e
 |cons t l c=>
  intro a h d;cases d with
  |zero=>
   intro g e;revert h;exact aX λn f _=>⟨n,bw e▸T.adV f⟩
  |succ i=>
   intro g e;revert h;exact aX λn f=>cb λj k _=>c (i:=i) k e
theorem Yz{t:T}{v:aI}{k:Int}(r:Rd w Z t v):xx k v=oz k t:=by
 cases t with
 |int n=>exact aU r λt a=>a▸rfl
 |none|bool _=>exact congrArg (xx k) r
 |flt _|str _=>exact aU r λt a=>a▸rfl
 |tup _|lst _|dct _=>exact my r λ_ _ _ b _=>b▸rfl
 |inst _=>exact Hf r λ_ _ _ _ _ c _=>c▸rfl
theorem Ug {y:Str} {py apos u pos:br} {e:Expr} {i:Nat} {f:aP} (R:F.nm[i]?=some (some y)) (hd:(y==("__debug__":Str))=false) (hc:(y==("__classdict__":Str))=false) (M:i∈mt)
  (B:n6 (.Name y py) "remove" F.env (eval (.Name y py) F.env)=eval (.Name y py) F.env) (C:(apos.endLine==u.line)=true) (hp:dS e=true) (h:bu w A F e f) :
  eT w A F mt (.Expr (.Call (.Attribute (.Name y py) (aK "remove") apos) [e] [] u) pos) (sL i f):=λJ O Y fl U ν' Z s H=>bJ λx G e1=>aX λt0 e2=>aX λk ek=>aX λS0 hi=>aX λl V=>aX λns e3=>aX λj e4=>ca λhl hg Q E hQ=>by
  cases hg
  obtain rfl:=S.aeb V;refine wpAny_Expr_any ?_ H.aec Ha;have jv:[e].all dS=true:=by rw[gX,hp];rfl
  refine rM (T:="list") (id:="list.remove") B (oA jv rfl) C JW ad8 PySem.F.type_list_remove (xy H R hi trivial hd hc (ej (H.ownAt R hi trivial) λ_ vs o hr=>⟨o.isList.typeIs,λb q=>CY q▸aU o λn o=>(aS _ o rfl),uA (jg jv) (qz jv (gn.one H ((h H e1).frz e2) hp _ _ λws Z1 N N1 r1=>?_))⟩));refine aV (cR.one r1) λv X r2=>?_;subst X;refine aU (gG ek r2) λtk y1=>?_;subst y1;have H1:=H.next N1;have z:=H1.ownAt R hi trivial;refine ej (id z) λ_ a X p=>aU X λP d=>?_;have c:=bm.length p;refine aV (List.findIdx?_eq_some_iff_getElem.mp e4) λI a0 a1=>?_;have r:j<a.length:=Zv c I;have g:∀ m (h1:m<l.length) (h2:m<a.length),xx k a[m]=oz k l[m]:=λm h1 h2=>
   aV (bm.at p (gv h2)) λt q1 K=>(Yz K).trans (congrArg (oz k) (bw (q1.symm.trans (gv h1))))
  refine call_meets ad8 (aS _ d rfl) PySem.F.entry_list_remove (PySem.F.args_list_remove_2 _ _)
   (MeetsSeq.list_remove (J i) a.toArray P (.int k tk) (xx k) (λy hy=>?_) j (by simpa using r) (by simpa [g j I r] using a0) (λm M D=>?_) (by refine eY▸c▸?_;exact bf hl (by decide))) ⟨d,?_⟩
  ·obtain⟨m,M,rfl⟩:=List.getElem_of_mem (Jx.mpr hy);refine aV (bm.at p (gv M)) λt q1 K=>aU (Ms e3 q1) λn y1=>?_;subst y1;exact aU K λa2 (K:a[m]=_)=>(show a.toArray.toList[m]=_ from K)▸(MeetsSeq.EqGives.int _ _ _ _)
  ·have:=a1 m D;have h2:m<a.length:=UJ c I D;simpa [g m (SJ I D) h2] using this
  ·have hs:gZ (J i) N.heap (N.heap.update (J i) (pt λL=>L.eraseIdxIfInBounds j)):=uo ..;have e5:a.toArray.eraseIdxIfInBounds j=(a.eraseIdx j).toArray:=by simp[Array.eraseIdxIfInBounds,r]
   have e6:pt (λL=>L.eraseIdxIfInBounds j) {cls:=.type "list",data:=.seq a.toArray P}={cls:=.type "list",data:=.seq (a.eraseIdx j).toArray (P+1)}:=by
    unfold pt;simp only[e5];rw[if_neg];have:0<a.length:=YT c I;simp[List.length_eraseIdx,r];exact(dW (Nat.sub_lt this Nat.one_pos))
   have hS:(N.heap.update (J i) (pt λL=>L.eraseIdxIfInBounds j)).PlainList (J i) (a.eraseIdx j).toArray:=⟨P+1,by rw[pa _ d (by refine e6▸?_;rfl),e6]⟩;exact bn (wt (tk:=N.toks) H1 hi trivial (S1:=.own (l.eraseIdx j)) trivial ⟨_,z⟩ hs (fu rfl (a.eraseIdx j) hS (Te p))) λN2 H2=>hQ _ _ _ _ ((cY.adM N1).trans (wD hi trivial M N2)) H2 rfl
noncomputable def tA(f g:dc):dc:=λO Y=>(f O Y).bind λb=>if b.1 then g O b.2 else some (false,b.2)
theorem Ui{a b:Expr}{pos:br}{f g:dc}(i:gA w A F a f)(j:gA w A F b g):gA w A F (.BoolOp .And [a,b] pos) (tA f g):=λJ O Y x ν' Z s H=>by
 refine bJ λk G l h=>?_;intro Q E d;refine isTrue_and (i H l _ _ λm n c=>?_);cases k with
 |false=>cases h;exact d _ _ c
 |true=>
  refine isTrue_and (j (H.next c) (by simpa using h) _ _ λo p e=>?_);cases x with
  |false=>exact d _ _ (c.trans e)
  |true=>exact isTrue_and_nil (d _ _ (c.trans e))
noncomputable def GS:T->Option WData
 |.int i=>some (.int i)
 |.flt b=>some (.float b)
 |.none|.bool _|.str _|.tup _|.lst _|.dct _|.inst _=>none
noncomputable def nJ:List T->Option (List WData)
 |[]=>some []
 |t::l=>(GS t).bind λd=>(nJ l).map (d::·)
noncomputable def Ia:WData->Option X
 |.int i=>some (.v (.int i))
 |.float b=>some (.v (.flt b))
 |_=>none
noncomputable def jo(x:X):Option X:=x.adH.bind λl=>(nJ l).bind λa=>(lM 0 a).bind Ia
theorem L6:∀ {l:List T} {a:List WData},nJ l=some a->a.length=l.length:=by
 intro b;induction b with
 |nil=>
  intro a h;exact bw h▸rfl
 |cons t l c=>
  intro a h;revert h;exact aX λd f=>cb λr e h=>h▸congrArg (·+1) (c e)
theorem OU{t:T}{d:WData}{v:aI}(h:GS t=some d)(r:Rd w Z t v):JX v d:=by
 cases t with
 |int i=>exact bw h▸aU r λt a=>a▸.int _ _
 |flt i=>exact bw h▸aU r λt a=>a▸.float _ _
 |_=>exact bD h
theorem TK:∀ {l:List T} {a:List WData} {b:List aI},nJ l=some a->bm w Z l b->∀ {i:Nat} {v:aI},b[i]?=some v->∃ d,a[i]?=some d/\JX v d:=by
 intro c;induction c with
 |nil=>
  intro a b h r i v e;exact bD (show([]:List aI)[i]?=_ from r▸e)
 |cons t l f=>
  intro a b h r i m e;revert h;refine aX λd g=>cb λn j h=>bG r λv o k h1 h2=>?_;subst h k;cases i with
  |zero=>exact(aS d rfl (bw e▸OU g h1))
  |succ i=>exact f (i:=i) j h2 e
theorem Mz{r:WData}{y:X}{v:aI}{n:Nat}{h:bh}(e:Ia r=some y)(i:JX v r):RX w F J O n Z h y v:=by
 cases i<;>(cases e;exact⟨_,rfl⟩)
theorem Ro(H:St w F J Z O Y s){o:bK}{s':aL}(c:Moved [s.heap.objs.size] (λa b=>b=a) {s with heap:=s.heap.push o} s')(hs:s.heap.objs.size<=s'.heap.objs.size):Nx w F.nt Z s Z Y s':=by
 rw[c.eq_with];exact H.adN (λb d e=>c.heap b d (λq=>by simp only[bP,dP,or_false]at q;subst q;exact absurd (cg e) (cQ _)) (cA _ e)) hs
theorem u8(m:A.handled=none):dH w A F (.builtin "sum") (cD jo):=kM λ{J O Y Z s n x y v} H h1 h2 r=>aX λl o=>aX λp g=>aX λd q e Q E t=>by
 refine bG (RX.lst H.on r o) λa h u z j=>?_;subst u;refine e9 (PySem.Flt.call_sum_walkF q (JY z λk B st b c=>?_));subst B;have W:=(JZ (prog:=pw) (w:=w) (A:=A.in1) m s.heap.objs.size a c h.toArray).toS;rw[show h.toArray.size=p.length from(bm.length j).trans (L6 g).symm]at W;exact(vK _ _ _ _ _ _ ⟨rfl,W,st,b,(λi v C=>TK g j (im.symm.trans C)),(λs' v D G f=>t _ _ _ (Ro H G f) (Mz e D))⟩)
noncomputable def BN:List T->Option (List UInt64)
 |[]=>some []
 |t::l=>t.adU.bind λx=>(BN l).map (x::·)
noncomputable def HD:List Int->Int
 |[]=>0
 |x::r=>r.foldl (λm y=>if y<m then y else m) x
noncomputable def A2(f:X->Option X)(g:X->X->Option X)(a:List X)(Y:List T):Option (X×List T):=match a with
 |[]=>none
 |x::r=>match r with
  |[]=>(f x).map λy=>(y,Y)
  |y::q=>match q with
   |[]=>(g x y).map λy=>(y,Y)
   |_::_=>none
noncomputable def ml:List X->List T->Option (X×List T):=A2 (λx=>x.adH.bind λl=>(ky l).bind λc=>if c=[]then none else some (.v (.int (HD c)))) λx y=>x.int?.bind λa=>y.int?.map λb=>.v (.int (if b<a then b else a))
noncomputable def nC:List X->List T->Option (X×List T):=A2 (λx=>x.adH.bind λl=>(BN l).bind λc=>if c=[]then none else some (.v (.flt (n7 c)))) λx y=>x.int?.bind λa=>y.int?.map λb=>.v (.int (if b>a then b else a))
theorem Kx(a:List Int):∀ k,k<a.length->a.getD (argBest (λi j=>decide (a.getD i 0<a.getD j 0)) k) 0=(a.tail.take k).foldl (λm y=>if y<m then y else m) (a.getD 0 0):=by
 intro b;induction b with
 |zero=>
  intro _;exact rfl
 |succ k c=>
  intro h;have d:=c (Nat.lt_of_succ_lt h);have e:a.tail.take (k+1)=a.tail.take k++[a.getD (k+1) 0]:=by
   have hk:k<a.tail.length:=by rw[J1];exact(Nat.lt_sub_of_add_lt h)
   rw[ad9 hk];simp[yn,h]
  rw[e,List.foldl_append,<- d];show a.getD (if decide (a.getD (k+1) 0<a.getD (argBest (λi j=>decide (a.getD i 0<a.getD j 0)) k) 0)=true then k+1 else argBest (λi j=>decide (a.getD i 0<a.getD j 0)) k) 0=_;simp only[ada,List.foldl_nil,decide_eq_true_eq];by_cases q:a.getD (k+1) 0<a.getD (argBest (λi j=>decide (a.getD i 0<a.getD j 0)) k) 0
  ·rw[if_pos q,if_pos q]
  ·rw[if_neg q,if_neg q]
theorem OE:∀ {l:List T} {b:List Int} {a:List aI},ky l=some b->bm w Z l a->b.length=a.length/\∀ {i:Nat} {v:aI},a[i]?=some v->∃ t,v=.int (b.getD i 0) t:=by
 intro c;induction c with
 |nil=>
  intro b a h r;exact⟨by refine(show a=[]from r)▸bw h▸?_;rfl,λ{i v} e=>bD (show([]:List aI)[i]?=some v from r▸e)⟩
 |cons t l d=>
  intro b a h r;revert h;refine aX λn f=>cb λg j h=>bG r λv p k h1 h2=>bn (d j h2) λm o=>?_;subst h k;refine⟨congrArg (·+1) m,λ{i q} e=>?_⟩;cases i with
  |zero=>exact bw e▸gG f h1
  |succ i=>exact o (i:=i) e
theorem TT:∀ {l:List T} {b:List UInt64} {a:List aI},BN l=some b->bm w Z l a->b.length=a.length/\∀ {i:Nat} {v:aI},a[i]?=some v->∃ t,v=.float (b.getD i 0) t:=by
 intro c;induction c with
 |nil=>
  intro b a h r;exact⟨by refine(show a=[]from r)▸bw h▸?_;rfl,λ{i v} e=>bD (show([]:List aI)[i]?=some v from r▸e)⟩
 |cons t l d=>
  intro b a h r;revert h;refine aX λn f=>cb λg j h=>bG r λv p k h1 h2=>bn (d j h2) λm o=>?_;subst h k;refine⟨congrArg (·+1) m,λ{i q} e=>?_⟩;cases i with
  |zero=>exact bw e▸FD f h1
  |succ i=>exact o (i:=i) e
theorem D9(H:St w F J Z O Y s){o:bK}{c:bh}{d:dz}(hk:∀ b a,b∉[s.heap.objs.size]->(s.heap.push o).get? b=some a->c.get? b=some a)(hs:s.heap.objs.size<=c.objs.size):Nx w F.nt Z s Z Y {s with heap:=c,toks:=d}:=
 H.adN (λb a e=>hk b a (λq=>by simp only[bP,dP,or_false]at q;subst q;exact absurd (cg e) (cQ _)) (cA _ e)) hs
theorem FQ{f:aI}{g:X->Option X}{h:X->X->Option X}(h1:∀ {J O Y Z s n x y v},St w F J Z O Y s->RX w F J O n Z s.heap x v->g x=some y->mC w A F J Z O s f [v] y Y)
  (h2:∀ {J O Y Z s n x i y v a},St w F J Z O Y s->RX w F J O n Z s.heap x v->RX w F J O n Z s.heap i a->h x i=some y->mC w A F J Z O s f [v,a] y Y):dH w A F f (A2 g h):=λJ O Y x ν' Z s n j l H _ _ r hk=>by
 cases j with
 |nil=>exact bD hk
 |cons m b=>cases b with
  |nil=>revert hk;exact cb λy e=>dR (aV (cR.one r) λv c d=>c▸h1 H d e)
  |cons o b=>cases b with
   |nil=>revert hk;exact cb λy e=>dR (bG (cR.two r) λv a c d k=>c▸h2 H d k e)
   |cons=>exact bD hk
theorem len_pos{J:Type}{l:List J}(h:¬l=[]):0<l.length:=List.length_pos_iff.mpr h
theorem Av(C:A.handled=none):dH w A F (.builtin "min") ml:=FQ (λ{J O Y Z s n x y v} H r=>aX λl k=>aX λf m=>AU λg e Q E o=>by
  obtain rfl:=bw e;refine bG (RX.lst H.on r k) λa D p K L=>?_;subst p;refine e9 (call_min_walk (JY K λG M st q z=>?_));subst M;refine bn (OE m L) λN I=>?_;have d:0<f.length:=len_pos g;have h:D.toArray.size=f.length:=N.symm;refine(GA _ _ _ _ _ _ _ ⟨rfl,(JZ (A:=A.in1) C _ a z D.toArray),st,q,(by refine h▸?_;exact d),CmpOf.ints_lt (λi=>f.getD i 0) (λi v P=>I (im.symm.trans P)),(λv R V X hk c=>?_)⟩);refine aU (I ((im).symm.trans X)) λt B=>?_;subst B;refine o _ _ _ (D9 H hk c) ⟨t,?_⟩;rw[h,Kx f _ (Dd d),uB (by rw[J1];exact Dt)];cases f with
  |nil=>exact absurd rfl g
  |cons y r=>rfl)
 λ{J O Y Z s n x x2 y v v2} H r1 r2=>aX λa k=>cb λb m e Q E o=>by
  refine aU (j2 k r1) λt B=>aU (j2 m r2) λu p=>?_;subst B p e;refine e9 (min_two_ints C λR V hk c=>o _ _ _ (H.adN hk c) ?_);by_cases j:b<a
  ·refine if_pos j▸if_pos j▸?_;exact kE
  ·refine if_neg j▸if_neg j▸?_;exact kE
theorem wA(I:A.handled=none):dH w A F (.builtin "max") nC:=FQ (λ{J O Y Z s n x y v} H r=>aX λl p=>aX λf q=>AU λz e Q E B=>by
  obtain rfl:=bw e;refine bG (RX.lst H.on r p) λa K g N P=>?_;subst g;refine e9 (call_max_walk (JY N λL R st C D=>?_));subst R;refine bn (TT q P) λV G=>?_;have d:0<f.length:=len_pos z;have k:K.toArray.size=f.length:=V.symm;refine(GA _ _ _ _ _ _ (λi j=>adb (f.getD i 0) (f.getD j 0)) ⟨rfl,(JZ (A:=A.in1) I _ a D K.toArray),st,C,(by refine k▸?_;exact d),(λi j vi vj s Q E hi X h=>?_),(λv h' tk hP hk c=>?_)⟩)
  ·refine aU (G ((im).symm.trans hi)) λt m=>aU (G ((im).symm.trans X)) λu g=>?_;subst m g;exact acJ (by rw[PySem.Flt.cmp_gt];exact h)
  ·refine aU (G ((im).symm.trans hP)) λt m=>?_;subst m;refine B _ _ _ (D9 H hk c) ⟨t,?_⟩;refine k▸?_;have M:=PySem.Flt.argBest_bits adb f (f.length-1) (Dd d);rw[uB (by rw[J1];exact Dt)]at M;refine M▸?_;rfl)
 λ{J O Y Z s n x x2 y v v2} H r1 r2=>aX λa p=>cb λb q e Q E B=>by
  refine aU (j2 p r1) λt m=>aU (j2 q r2) λu g=>?_;subst m g e;refine e9 (max_two_ints I λh' tk hk c=>B _ _ _ (H.adN hk c) ?_);by_cases o:b>a
  ·refine if_pos o▸if_pos o▸?_;exact kE
  ·refine if_neg o▸if_neg o▸?_;exact kE
noncomputable def nz(x:X):Option X:=x.int?.bind λi=>if i.natAbs<2^64 then some (.v (.str (aK (toString i))))else none
noncomputable def D7(x:X):Option X:=x.adJ.bind λl=>if l.length<=1000000 then some (.fr l)else none
noncomputable def sO(x:X):Option X:=x.adH.bind λl=>if l.length<=1000000 then some (.v (.tup l))else none
noncomputable def zJ(x:X):Option X:=x.adL.bind λl=>if l.length<=1000000 then some (.frd l)else none
theorem Ec:dH w A F (.type "str") (cD nz):=kM λ{J O Y Z s n x y v} H h1 h2 r=>aX λi a=>ca λhi e Q E b=>by
 obtain rfl:=bw e;refine aU (j2 a r) λt c=>?_;subst c;refine PySem.P.str_of_int ?_ (b _ _ _ (H.tok _) oo);by_cases h0:i.natAbs=0
 ·rw[h0];decide
 ·exact t8 ((Nat.log2_lt h0).mpr hi) (by decide)
theorem UA:dH w A F (.type "list") (cD D7):=kM λ{J O Y Z s n x y v} H h1 h2 r=>aX λl d=>ca λf e Q E g=>by
 obtain rfl:=bw e;refine bG (RX.tup H.on r d) λa h i j c=>lr j λo m hc k hd=>?_;subst i;refine e9 (call_list_seq a (.inr rfl) m hc hd (λq p hk hD b=>?_) (by rw[eY,bm.length c];exact bf f (by decide)));exact g _ _ _ (H.adN hk b) (jz _ h rfl (cu _) ((dM H (cu _)).1) ((dM H (cu _)).2) ⟨p,hD⟩ c)
theorem Px {Q:List aI->aL->Prop} {E:aI->aL->Prop} (c:aJ) {T:String} {o:bK} {items:Array aI} {n:Nat} (hT:T="list"\/T="tuple") (e:s.heap.get? c=some o) (hc:o.cls=.type T) (hd:o.data=.seq items n)
  (f:∀ a,(∀ b d,s.heap.get? b=some d->a.get? b=some d)->s.heap.objs.size<=a.objs.size->Q items.toList {s with heap:=a}) (hsz:items.size<=kG):bc (model pw w) A (collect (.ref c)) Q E s:=
 e9 (wpAny_collect_seq c hT e hc hd (λa hk hs=>f a hk hs) hsz)
open AutoSeq1 (wpAny_loadPart') in
theorem Zh{l:aJ}{items:Array aI}{Q:aI->aL->Prop}{E:aI->aL->Prop}(q:s.heap.IsList l items)(c:items.size<=kG)
  (h:∀ a:bh,(∀ b f,s.heap.get? b=some f->a.get? b=some f)->s.heap.objs.size<=a.objs.size->Q (.ref a.objs.size) {s with heap:=a.push {cls:=.type "tuple",data:=.seq items}}) :
  bc (model pw w) A (call (.type "tuple") [.ref l]) Q E s:=by
 refine aQ λi=>lr q λo j hc n hd=>i ?_;refine J2 (s:=s) PySem.F.called_tuple rfl (PySem.F.typeCall_tuple_1 _) (PySem.F.newCall_tuple_1 _) (λobj=>PySem.F.args_object_init_2 obj _) PySem.F.entry_tuple_new (S:=λr R s'=>s'.heap=s.heap/\(∀ a:bh,(∀ b f,s.heap.get? b=some f->a.get? b=some f)->s.heap.objs.size<=a.objs.size->R (.ok (.ret (.ref a.objs.size))) {s' with heap:=a.push {cls:=.type "tuple",data:=.seq items}}))
  (.of_wp λr R s' h=>?_) ⟨rfl,λa hk hs=>⟨(aS _ (dx _ rfl) rfl),h a hk hs⟩⟩
 refine aQ λi=>?_;obtain⟨t,g,d,m,os⟩:=s';refine bn h λhs h=>i ?_;replace hs:t=s.heap:=hs;subst hs;have p:=sub_tuple_self;have k:=init_tuple_lookup;have u:=madeHere_tuple;have hT:Shared.TypeIs ⟨s.heap,g,d,m,os⟩ (.ref l) "list":=(aS o j hc)
 wp_walk using wpAny_loadPart' j,wpAny_typeOf hT,Px (s:=⟨s.heap,g,d,m,os⟩) (hsz:=c) l (.inl rfl) j hc hd
 intro a hk hs;show bc _ _ (J3 items.toList.toArray >>= λv=>ret v) _ _ _;unfold J3;refine ba (uC ?_ (by show items.toList.toArray.size<=kG;simpa using c));refine cm (aS _ rfl ?_);have e:items.toList.toArray=items:=by simp
 rw[e];exact h a hk hs
theorem S2:dH w A F (.type "tuple") (cD sO):=kM λ{J O Y Z s n x y v} H h1 h2 r=>aX λl h=>ca λi e Q E j=>by
 obtain rfl:=bw e;refine bG (RX.lst H.on r h) λa c k m d=>?_;subst k;refine Zh m (by rw[eY,bm.length d];exact bf i (by decide)) λf hk b=>?_;have N:Nx w F.nt Z s Z Y {s with heap:=f}:=H.adN hk b;have o:=N.push {cls:=.type "tuple",data:=.seq c.toArray};have g:Z f.objs.size=none:=(dM H b).1;exact j _ _ _ (o.put b g (dM H b).2) (fw _ _ c rfl (gS.trans (dx _ rfl)) ⟨rfl,0,rfl⟩ (bm.mono (gc g) _ d))
theorem U4:dH w A F (.type "dict") (cD zJ):=kM λ{J O Y Z s n x y v} H h1 h2 r=>aX λl h=>ca λi e Q E j=>by
 obtain rfl:=bw e;refine bG (RX.dct H.on r h) λa c k hd g=>?_;subst k;refine e9 (kt_call_dict (tM H hd) hd (by rw[bY.len g];exact bf i (by decide)) λm d hs f=>j _ _ _ (H.adN (tk:=s.toks) (λb o e=>hs.extBut b o (dW (cg e)) (cA _ e)) f) (jz _ c rfl (cu _) ((dM H (cu _)).1) ((dM H (cu _)).2) d g))
noncomputable def rangeT(n:Nat):List T:=(aO n).map λ(j:Nat)=>T.int (j:Int)
noncomputable def AI(f:aP):aP:=λO Y=>(f O Y).bind λa=>a.1.t?.bind λt=>t.int?.bind λn=>if n.natAbs<=1000000 then some (.fr (rangeT n.toNat),a.2)else none
theorem Hc:∀ (n:Nat) (f:Nat->Int) (a:List aI),a.length=n->(∀ i v,a[i]?=some v->∃ t,v=Jt (f i) t)->bm w Z ((aO n).map λj=>T.int (f j)) a:=by
 intro c;induction c with
 |zero=>
  intro f d;cases d with
  |nil=>
   intro b h;exact rfl
  |cons v a=>
   intro b h;exact nomatch b
 |succ n e=>
  intro f g;cases g with
  |nil=>
   intro b h;exact nomatch b
  |cons v a=>
   intro b h;rw[adc,cB,il];exact(cE v a rfl (h 0 v rfl) (e (λj=>f (j+1)) a (yl b) λi v k=>h (i+1) v k))
theorem QC (B:A.handled=none) {p q pos d:br} {e:Expr} {f:aP} (C:F.env.kindOf (aK "list")=some .globalImplicit) (l:F.env.kindOf (aK "range")=some .globalImplicit) (u:dS e=true) (h:bu w A F e f) :
  bu w A F (.Call (.Name (aK "list") q) [.Call (.Name (aK "range") p) [e] [] pos] [] d) (AI f):=λJ O Y x ν' Z s H=>bJ λx G D=>aX λt0 I=>aX λn K=>ca λk=>g8 λQ E L=>by
  refine gM rfl (h9 H C (v:=.type "list") rfl ?_ rfl);refine kb (lJ ?_ (eG rfl)) (eG rfl) rfl;refine gM rfl (h9 H l (v:=.type "range") rfl ?_ rfl);refine kb (gn.one H ((h H D).frz I) u _ _ λvs M c N P=>?_) (eG u) rfl;refine aV (cR.one P) λv R V=>aU (gG K V) λy X=>?_;subst R X;refine JP (n4 ?_);have z:=(N.push {cls:=.type "range",data:=.fields #[.int 0 c.toks,.int n y,.int 1 (c.toks+1)]});have m:Nx w F.nt Z s M G {c with heap:=c.heap.push {cls:=.type "range",data:=.fields #[.int 0 c.toks,.int n y,.int 1 (c.toks+1)]},toks:=c.toks+1+1}:=z.trans ((H.next z).tok _);have o:=H.next m;refine e9 (call_list_range B (CU ..) (v9 (by decide) (by decide) (BU k) (qA k) (by rw[uw];exact qA k)) (wn.trans (by rw[uw])) (bf (W8 k) (by decide)) λh' r a c' hk hD b g=>?_);have N4:=m.trans (o.adN (tk:=r) hk g);refine L _ _ _ N4 (jz _ a.toList rfl m.size ((dM o (cu _)).1) ((dM o (cu _)).2) ⟨c',by simpa using hD⟩ (Hc n.toNat (λj=>(j:Int)) a.toList (by simpa using b.1) λi v hv=>aU (b.2 i v (by simpa using hv)) λt e=>⟨t,by rw[e];congr 1;exact Vt⟩))
noncomputable def kq(f g:aP):aP:=λO Y=>(f O Y).bind λa=>(g O a.2).bind λb=>a.1.adJ.bind λl=>b.1.t?.bind λt=>t.int?.bind λk=>if 1<=k/\k<l.length/\l.length<=1000000 then some (.v (.tup (l.take k.toNat)),b.2)else none
noncomputable def nh(f g:aP):aP:=λO Y=>(f O Y).bind λa=>(g O a.2).bind λb=>a.1.t?.bind λt=>t.int?.bind λk=>b.1.t?.map λt=>(.frd [(k,t)],b.2)
theorem Y0{d:aJ}{b n:Nat}{u:dz}{Q:Int×Int×Nat->aL->Prop}{E:aI->aL->Prop}(hs:s.heap.IsSliceOf d .none (.int b u) .none)(e:b<=n)(h:Q (0,1,b) s):
  bc (model pw w) A (ade (.ref d) (pure (n:Int))) Q E s:=by
 refine aQ λf=>eo hs λos a _ c=>f ?_;have g:J4 none (some (b:Int)) 1 (n:Int)=(0,(b:Int)):=by
  unfold J4;have h1:¬((1:Int)<0):=by lia
  have h2:¬((b:Int)<0):=vD;simp only[h1,h2,if_false];congr 1;exact PD e
 have i:CZ 0 (b:Int) 1=b:=by
  unfold CZ;simp only[show(1:Int)>0 by lia,if_true,Int.ediv_one];split<;>lia
 unfold ade Builtin.Slice.sliceFields;refine ba (ba (jw a c (x:=.none) rfl (ba (jw a c (x:=.int b u) rfl (ba (jw a c (x:=.none) rfl (cm (ba (slicePart_none ?_)))))))));show bc _ _ (if ((1:Int)==0)=true then _ else _) _ _ s;rw[if_neg (by decide)];refine ba (slicePart_none (ba (slicePart_int (ba (cm ?_)))));show bc _ _ (match J4 none (some (b:Int)) 1 (n:Int)with|(lo,hi)=>pure (lo,(1:Int),CZ lo hi 1)) _ _ s;rw[g];show bc _ _ (pure ((0:Int),(1:Int),CZ 0 (b:Int) 1)) _ _ s;rw[i];exact cm h
theorem VL(a:List aI)(b:Nat):((aO b).filterMap λ(k:Nat)=>a.toArray[((0:Int)+(k:Int)*1).toNat]?)=a.take b:=by
 have e:(λ(k:Nat)=>a.toArray[((0:Int)+(k:Int)*1).toNat]?)=λk=>a.toArray[0+k]?:=by
  funext k;have:((0:Int)+(k:Int)*1).toNat=0+k:=UK;rw[this]
 rw[e];have:=pick_run a.toArray 0 b;rw[List.filterMap_map]at this;have c:((λx=>a.toArray[x]?)∘λx=>0+x)=λk=>a.toArray[0+k]?:=rfl;rw[c]at this;rw[this];simp
theorem WM{t e:aJ}{a:List aI}{b:Nat}{u:dz}{Q:aI->aL->Prop}{E:aI->aL->Prop}(d:IsTup s.heap t a.toArray)(hs:s.heap.IsSliceOf e .none (.int b u) .none)(j:b<a.length)(k:a.length<=kG)
  (h:Q (.ref s.heap.objs.size) {s with heap:=s.heap.push {cls:=.type "tuple",data:=.seq (a.take b).toArray}}):bc (model pw w) A (uh (.ref t) (.ref e)) Q E s:=by
 have c:sizeOk (.seq (a.take b).toArray):=by
  show(a.take b).toArray.size<=kG;rw[eY,List.length_take];exact(bf (adf _ _) k)
 have f:s.TypeIs (.ref e) "slice":=eo hs λos g i _=>aS os g i;unfold uh;refine fG (ba (wpAny_sequenceKey d.typeIs rfl (ba (uy (name:=aK "__getitem__") d.typeIs CE (rK CE d.typeIs entry_tuple_getitem ?_ (args_tuple_getitem _ _))))));show bc _ _ (Builtin.Tuple.tupleItemsOf (.ref t) >>= _) _ _ s;refine ba (tupleItemsOf_ d (ba (wpAny_typeOf f ?_)));rw[if_pos (by decide)];rw[eY];refine ba (Y0 hs (j8 j) ?_);show bc _ _ (if ((0:Int)==0&&(1:Int)==1&&b==a.length)=true then _ else _) _ _ s;rw[if_neg (by simp;exact(dW j)),VL];exact ba (m:=J3 _) (uC (cm (aS _ rfl (cm h))) c)
theorem Lv:∀ {l:List T} {e:List aI} {n:Nat},bm w Z l e->bm w Z (l.take n) (e.take n):=by
 intro a;induction a with
 |nil=>
  intro _ b;cases b with
  |zero=>
   intro h;exact rfl
  |succ n=>
   intro h;exact congrArg (Co (n+1)) h
 |cons t l c=>
  intro _ d;cases d with
  |zero=>
   intro h;exact rfl
  |succ n=>
   intro h;exact bG h λv g f h1 h2=>f▸(cE v _ rfl h1 (c h2))
theorem Sa{e:cz}{value:Expr}{lower upper:Option Expr}{p pos:br}{T id:String}{Q:aI->aL->Prop}{E:aI->aL->Prop}
  (j:typeLookup (.type T) "__getitem__"=pure (some (.builtin id)))
  (h:bc (model pw w) A (eval value e) (λo c=>bc (model pw w) A (eval (.Slice lower upper none p) e) (λi a=>a.TypeIs o T/\bc (model pw w) A (uh o i) Q E a) E c) E s) :
  bc (model pw w) A (eval (.Subscript value (.Slice lower upper none p) pos) e) Q E s:=by
 rw[eval_Subscript];refine ba (iM h (λo c f=>ba (fG (iM f (λi a b=>ba (gr ?_)) λ_ _ x=>x)))
  λ_ _ x=>x)
 have fin:bc (model pw w) A (operate [i,o] (uh o i)) (λr d=>bc (model pw w) A (letTemporaryGo value o r >>= λ_=>pure r) Q E d) E a:=
  wpAny_operating (iM b.2 (λr d g=>ba (wpAny_letTemporaryGo (cm g))) λ_ _ x=>x)
 first
  |refine ba ?_
   rw[getitemInPython_of_ne b.1.not_modules];refine ba (JC b.1 j ?_);first
    |exact cm (ba fin)
    |exact ba (cm (ba fin))
    |exact ba fin
  |refine ba (JC b.1 j ?_)
   first
    |exact ba (cm (ba fin))
    |exact ba fin
theorem zQ{value hi:Expr}{p pos:br}{f g:aP}(h:bu w A F value f)(z:bu w A F hi g):
  bu w A F (.Subscript value (.Slice none (some hi) none p) pos) (kq f g):=λJ O Y x ν' Z s H=>bJ λX G B=>bJ λx2 C D=>aX λl I=>aX λt K=>aX λk L=>ca λhk=>g8 λQ E M=>by
  refine Sa (T:="tuple") CE.lookup (h H B _ _ λv1 Z1 s1 c N=>wpAny_Slice ?_);rw[evalPart_none];refine cm ?_;rw[evalPart_some];refine(z (H.next c) D).frz K _ _ λv2 Z2 s2 d P=>cm (aU (gG L P) λu e=>?_);subst e;have n:=H.next c;have o:=n.next d;have i:=(c.trans d).push {cls:=.type "slice",data:=.fields #[.none,.int k u,.none]};have m:=H.next i;refine bG (RX.tup m.on (RX.next H.sz o (RX.next H.sz n N d) (o.nx.push {cls:=.type "slice",data:=.fields #[.none,.int k u,.none]})) I) λa q R hT r=>?_;subst R;have v:=bm.length r;refine⟨hT.typeIs,?_⟩;refine aU (ym (show 0<=k by exact Ku hk)) λj e=>?_;subst e;refine WM (b:=j) hT (Heap.IsSliceOf.new ..) (Li v hk) (by rw[v];exact bf hk.2.2 (by decide)) ?_;have V:=i.push {cls:=.type "tuple",data:=.seq (q.take j).toArray};have y:=(dM m (cu _)).1;exact M _ _ _ (V.put i.size y (dM m (cu _)).2) (fw _ _ (q.take j) rfl (gS.trans (dx _ rfl)) ⟨rfl,0,rfl⟩ (bm.mono (gc y) _ (Lv r)))
theorem yB{k v:Expr}{pos:br}{f g:aP}(D:bu w A F k f)(I:bu w A F v g):bu w A F (.Dict [some k] [v] pos) (nh f g):=λJ O Y x ν' Z s H=>bJ λx1 G K=>bJ λx2 c L=>aX λt0 M=>aX λn P=>cb λt R=>dR λQ E V=>by
  have u:=H.nx.push {cls:=.type "dict",data:=.dict #[]};have y:=H.next u;refine wpAny_Dict_pairs (knd:=ik w) (pairs:=[(eval k F.env,do let x <- eval v F.env;gJ pos;pure x)]) rfl (by simp) (by simp) ?_;unfold Cv;refine ba ((D y K).frz M _ _ λv1 Z1 s1 i X=>?_);have z:=y.next i;refine ba (fG (ba ((I z L).frz R _ _ λm j a l r2=>ba (gr (cm ?_)))));have B:=z.next l;unfold Cv;refine ba (fG (cm (cm (aU (gG P X) λtk y1=>?_))));subst y1;have hD:=dM H (b:=s.heap.objs.size) (cu _);have p:¬Mu F.nt s.heap.objs.size:=by
   rintro (q|q)
   ·exact hD.2 q
   ·have:=H.sz;rw[q]at this;exact absurd this (by decide)
  have r:s.heap.objs.size<(s.heap.push {cls:=.type "dict",data:=.dict #[]}).objs.size:=by rw[eQ];exact pe _
  have keep:∀ o,(s.heap.push {cls:=.type "dict",data:=.dict #[]}).get? s.heap.objs.size=some o->a.heap.get? s.heap.objs.size=some o:=λo e=>(i.trans l).ext _ o p e;refine(cI [(n,m)] ?_ (vV (Heap.DictOf.new s.heap) keep) (λC hd hs=>?_))
  ·exact⟨mZ,rfl,trivial⟩
  ·have d:j s.heap.objs.size=none:=((i.trans l).new _ r).trans hD.1;have N3:cZ w F.nt [s.heap.objs.size] j a j c {a with heap:=C,toks:=a.toks+1}:=by
    refine eH B.nts B.on (λb h=>?_) (λb o h e=>hs.extBut b o (λq=>h (by simp[q])) e) (gV hs.1.symm);exact in1 h▸⟨d,H.sz,hD.2⟩
   have N:Nx w F.nt Z s j c {a with heap:=C,toks:=a.toks+1}:=(((u.trans (i.trans l)).toW _).trans N3).nx λb h=>gV (in1 h).symm;exact V _ _ _ N (dE _ [(n,m)] ⟨rfl,cu _,d,hD.2,hd,(cE m [] rfl r2 rfl)⟩)
noncomputable def iv(bind:T->List S->Option (List S))(c:dc)(step:List S->List T->S->Option (S×List T)):List T->List S->List T->S->Option (S×List T)
 |[],_,Y,a=>some (a,Y)
 |t::d,O,Y,a=>(bind t O).bind λU=>(c U Y).bind λb=>if b.1 then(step U b.2 a).bind λr=>iv bind c step d U r.2 r.1
   else iv bind c step d U b.2 a
mutual
noncomputable def PT.idx:PT->List Nat
 |.nm i=>[i]
 |.tp l=>PT.idxs l
noncomputable def PT.idxs:List PT->List Nat
 |[]=>[]
 |p::a=>p.idx++PT.idxs a
end
mutual
theorem za{a:List Nat}:∀ {p:PT} {t:T} {O U:List S},bU a p t O=some U->∀ k,k∉p.idx->U[k]?=O[k]?
 |.nm i,t,O,U=>ca λ_ h k hk=>bw h▸ed λq=>hk (jd.mpr q.symm)
 |.tp b,t,O,U=>aX λc _ h k hk=>Du h k hk
theorem Du{c:List Nat}:∀ {a:List PT} {b:List T} {O U:List S},kF c a b O=some U->∀ k,k∉PT.idxs a->U[k]?=O[k]?
 |[],b,O,U=>ca λ_ h k _=>bw h▸rfl
 |p::a,b,O,U=>aX λt _=>aX λI h1 h2 k hk=>(Du h2 k λq=>hk (J5 _ q)).trans (za h1 k λq=>hk (J6 _ q))
end
structure j3 (w:aY) (F:Fx) (J:Nat->aJ) (O:List S) (D:aJ) (a:S) (Z:Fz) (h:bh):Prop where
 z:Z D=none
 at_:dY w F.nt Z h D a (.ref D)
 ho:a.adD
 nt:F.nt≠some D
 lo:171<=D
 ap:Ap F J O D
theorem j3.mu{D:aJ}{a:S}{h:bh}(x:j3 w F J O D a Z h):¬Mu F.nt D:=by
 rintro (h|h)
 ·exact x.nt h
 ·have:=x.lo;rw[h]at this;exact absurd this (by decide)
theorem dY.lt{D:aJ}{a:S}{h:bh}{v:aI}(x:dY w nt Z h D a v)(c:a.adD):D<h.objs.size:=by
 cases a with
 |own l=>refine ej x λ_ d b _=>?_;clear x;exact jn b
 |ownd l=>refine ej x λ_ d b _=>?_;clear x;exact tU b
 |_=>exact c.elim
theorem j3.next{D:aJ}{a:S}(x:j3 w F J O D a Z s.heap)(N:cZ w F.nt W Z s Z' ν' s')(hD:D∉W)(hs:gz U O):j3 w F J U D a Z' s'.heap:=
 ⟨(N.new D (x.at_.lt x.ho)).trans x.z,x.at_.ext N.le λ_ o=>N.ext D o x.mu hD,x.ho,x.nt,x.lo,x.ap.sub hs⟩
def pM(w:aY)(A:bx)(F:Fx)(J:Nat->aJ)(b:aI->cz->bA Unit)(step:List S->List T->S->Option (S×List T)):Prop:=
 ∀ ⦃O Y a c ν' Z s D⦄,St w F J Z O Y s->j3 w F J O D a Z s.heap->step O Y a=some (c,ν')->∀ (Q:Unit->aL->Prop) (E:aI->aL->Prop),
  (∀ Z' s',cZ w F.nt (D::F.fa) Z s Z' ν' s'->St w F J Z' O ν' s'->j3 w F J O D c Z' s'.heap->Q () s')->bc (model pw w) A (b (.ref D) F.env) Q E s
structure oQ (w:aY) (A:bx) (e:Expr) (depth:Nat) (target iter:Expr) (ifs:List Expr) (emit:aI->cz->bA Unit):Prop where
 turn:∀ it acc env,compTurn e depth it acc env=(do
   gJ iter.pos
   match <- mJ it with
   |none=>pure (.done .next)
   |some v=>
    yb target it v
    iN target env v
    let mut ok:=true
    for c in ifs do
     if ok then ok <- isTrue c env (eval c env)
    if ok then emit acc env
    again (.compLoop e depth it acc env))
 den:∀ it acc env,(model pw w).den (.compLoop e depth it acc env)=(compTurn e depth it acc env).onRaise (λx=>do CM x env;JM x)
 und:∀ it acc env,A.under (.compLoop e depth it acc env)=A
 qt:∀ it acc env,(Code.compLoop e depth it acc env).quiet=true
theorem IY(hh:A.handled=none){tg:Bool}{I0 D:aJ}{items:List T}{P:Nat->Fz->bh->Prop}{ad:Nat->aI->Fz->bh->Prop}(y:It w A F.nt tg I0 fp W items P ad){e target iter:Expr}{a0:List Expr}{m:Nat}{p:PT}{z:dc}
  {step:List S->List T->S->Option (S×List T)} {B:aI->cz->bA Unit} (C:oQ w A e m target iter a0 B)
  (ae:tg=true->ja target=true) (L:gP F.nm p target=true) (hT:kN w A F J a0 z) (hE:pM w A F J B step) (af:∀ b∈F.fa,b∉fp) (ag:∀ b∈fp,¬Mu F.nt b) (hD:D∉fp) (hW:∀ b∈W,Ap F J σ0 b) {R:o8->aL->Prop} :
  ∀ (M:List T) (i:Nat) (Z:Fz) (O:List S) (Y:List T) (s:aL) (a a':S) (ν':List T),items.drop i=M->P i Z s.heap->St w F J Z O Y s->gz O σ0->j3 w F J O D a Z s.heap->
   iv (bU F.wr p) z step M O Y a=some (a',ν')->
   (∀ Z' U s',cZ w F.nt (D::(W++F.fa)) Z s Z' ν' s'->St w F J Z' U ν' s'->(gz U O/\∀ k,k∉p.idx->U[k]?=O[k]?)->j3 w F J U D a' Z' s'.heap->R (.ok .next) s')->
   mL (model pw w) A (.compLoop e m (.ref I0) (.ref D) F.env) R s:=by
 have Q:∀ b∈W,b∈D::(W++F.fa):=λb c=>.tail _ (J6 _ c);have a6:∀ b∈F.fa,b∈D::(W++F.fa):=λb c=>.tail _ (J5 _ c);have ah:∀ b∈D::F.fa,b∈D::(W++F.fa):=λb c=>by
  rcases bP.mp c with rfl|c
  ·exact .head _
  ·exact a6 b c
 have DW:D∉W:=λq=>hD (y.sub D q);intro M;induction M with
 |nil=>
  intro i Z O Y s a a' ν' d hP H h x f hR;obtain⟨rfl,rfl⟩:=ye (bw f);refine yh ?_;rw[C.den,C.und];refine CN ?_;rw[C.turn];refine ba (gr (ba (y.done i Z s Y _ _ (by have:=congrArg j9 d;simp at this;exact lK (Ew this)) hP H.on H.nts λs1 X=>?_)));exact cm (hR Z O s1 (X.mono Q) (H.adR X λb c=>(hW b c).sub h) ⟨.refl _,λ_ _=>rfl⟩ (x.next X DW (.refl _)))
 |cons t M ih=>
  intro i Z O Y s a a' ν' d hP H h x f hR;have ar:i<items.length:=by
   have:=congrArg j9 d;simp only[yi,cK]at this;exact F3 this
  have ai:items[i]?=some t:=by
   have:(items.drop i)[0]?=some t:=by rw[d];rfl
   simpa using this
  have l:items.drop (i+1)=M:=by
   have:(items.drop i).drop 1=M:=by rw[d];rfl
   rwa [List.drop_drop]at this
  revert f;refine aX λI c=>?_;refine bJ λb G a7 f=>yh ?_;rw[C.den,C.und];refine CN ?_;rw[C.turn];refine ba (gr (ba (y.item i t Z s Y _ _ ai hP H.on H.nts λv Z1 s1 X r1 aj=>?_)));have H1:=H.adR X λb c=>(hW b c).sub h;refine ba (y.go target i v Z1 s1 Y _ _ ae aj H1.on H1.nts λs2 N2 ak=>?_);have H2:=H1.adR N2 λb c=>(hW b c).sub h;refine ba (vv hh p L H2 (Rd.mono N2.le t r1) c λs3 N3 H3=>?_);have g:gz I O:=tO c;have wk:∀ {E K:Fz} {sa sb:aL} {n:List T} {V:List aJ},(∀ j,P j E sa.heap->cZ w F.nt V E sa K n sb->fb F.nt K W):=λ{E K sa sb n V} j L N b c=>by
   exact bO (y.ok _ _ _ L b c) λa1 a2 a3=>⟨(N.new b (y.lt _ _ _ L b (y.sub b c))).trans a1,a2,a3⟩
  have fr:∀ {E K:Fz} {sa sb:aL} {n:List T} {V:List aJ},(∀ b∈fp,b∉V)->∀ j,P j E sa.heap->cZ w F.nt V E sa K n sb->P j K sb.heap:=λ{E K sa sb n V} hV j L N=>
   y.frame j E K _ _ L N.le (wk j L N) λb c o e=>N.ext b o (ag b c) (hV b c) e
  have a8:∀ b∈fp,b∉F.fa:=λb c q=>af b q c;have al:∀ b∈fp,b∉D::F.fa:=λb c q=>by
   rcases bP.mp q with rfl|q
   ·exact hD c
   ·exact a8 b c q
  have DF:D∉F.fa:=x.ap.fa;have an:=fr a8 _ ak N3;have a1:=x.next X DW (.refl _);have a2:=a1.next N2 DW (.refl _);have a3:=a2.next N3 DF g;refine ba (hT H3 a7 _ _ λZ4 s4 N4=>?_);have H4:=H3.next N4;have a9:=fr (V:=[]) (λ_ _ q=>by cases q) _ an (N4.toW []);have a4:=a3.next (N4.toW []) (λq=>by cases q) (.refl _);have aa:cZ w F.nt (D::(W++F.fa)) Z s Z4 G s4:=(((X.mono Q).trans (N2.mono Q)).trans (N3.mono a6)).trans (N4.toW _);have r:gz I σ0:=g.trans h;cases b with
  |false=>
   rw[if_neg nofun]at f;refine cm ⟨C.qt _ _ _,ih (i+1) Z4 I G s4 a a' ν' l a9 H4 r a4 f λZ' U s' N' H' o' u=>hR Z' U s' (aa.trans N') H' ⟨o'.1.trans g,λk hk=>(o'.2 k hk).trans (za c k hk)⟩ u⟩
  |true=>
   rw[if_pos rfl]at f;revert f;refine bJ λa5 ao hx f=>?_;refine ba (hE H4 a4 hx _ _ λZ5 s5 N5 H5 ab=>?_);have aq:=fr al _ a9 N5;refine cm ⟨C.qt _ _ _,ih (i+1) Z5 I ao s5 a5 a' ν' l aq H5 r ab f λZ' U s' N' H' o' u=>?_⟩;exact hR Z' U s' ((aa.trans (N5.mono ah)).trans N') H' ⟨o'.1.trans g,λk hk=>(o'.2 k hk).trans (za c k hk)⟩ u
noncomputable def cF(f:aP):List S->List T->S->Option (S×List T):=λO Y a=>a.ae3.bind λl=>(f O Y).bind λx=>x.1.t?.bind λt=>if l.length<=1000000 then some (.own (l++[t]),x.2)else none
noncomputable def ie(b c:aP):List S->List T->S->Option (S×List T):=λO Y a=>a.aed.bind λl=>(b O Y).bind λx=>x.1.t?.bind λt=>t.int?.bind λk=>(c O x.2).bind λy=>y.1.t?.bind λt=>if l.length<=1000000 then some (.ownd (lX l k t),y.2)else none
theorem Ek{D:aJ}{a a':S}(H:St w F J Z O Y s)(x:j3 w F J O D a Z s.heap){c:bh}{tk:dz}(hs:gZ D s.heap c)(e:a'.adD)(f:dY w F.nt Z c D a' (.ref D)):
  cZ w F.nt (D::F.fa) Z s Z Y {s with heap:=c,toks:=tk}/\St w F J Z O Y {s with heap:=c,toks:=tk}/\j3 w F J O D a' Z c:=by
 have hw:fb F.nt Z [D]:=λb d=>in1 d▸⟨x.z,x.lo,x.nt⟩;have N:cZ w F.nt [D] Z s Z Y {s with heap:=c,toks:=tk}:=eH H.nts H.on hw (Bg hs.extBut) (gV hs.1.symm);exact⟨N.mono λb d=>in1 d▸.head _,H.adR N λb d=>in1 d▸x.ap,⟨x.z,f,e,x.nt,x.lo,x.ap⟩⟩
theorem Bh{b:Expr}{f:aP}(h:bu w A F b f):pM w A F J (λc d=>do let _ <- call (.builtin "list.append") [c,<- eval b d]) (cF f):=λO Y a N ν' Z s D H x=>aX λl m=>bJ λy G n=>aX λt o=>ca λp q Q E r=>by
  cases q
  obtain rfl:=S.aeb m;refine ba ((h H n).frz o _ _ λv u z e B=>?_);have C:=H.next e;have j:=x.next (e.toW []) nofun (.refl _);refine ej (id j.at_) λ_ I g k=>ba (JV g (λP i hs=>?_) (by refine eY▸bm.length k▸?_;exact bf p (by decide)));exact bO (Ek (tk:=z.toks) (a':=.own (l++[t])) C j hs trivial (fu rfl (I++[v]) (by simpa using i) (bm.app k (cE v [] rfl B rfl)))) λK L M=>cm (r u _ ((e.toW _).trans K) L M)
theorem EG{k v:Expr}{i j:aP}(hk:bu w A F k i)(q:bu w A F v j):pM w A F J (λe b=>do
    let f <- eval k b;let m <- js [f] (eval v b);match e with
    |.ref d=>do
     gJ {k.pos with endLine:=v.pos.endLine,endCol:=v.pos.endCol}
     js [f,m] (uc d f m)
    |_=>unsupported "internal:dictcomp") (ie i j):=λO Y a a' ν' Z s D H x=>aX λl r=>bJ λy G u=>aX λt0 z=>aX λn B=>bJ λy2 C I=>aX λt K=>ca λL M Q E N=>by
   cases M
   obtain rfl:=S.aeo r;refine ba ((hk H u).frz z _ _ λv1 Z1 s1 c P=>ba (fG ((q (H.next c) I).frz K _ _ λv2 R V g X=>?_)));have H2:=(H.next c).next g;have o:=x.next ((c.trans g).toW []) nofun (.refl _);refine aU (gG B P) λtk y1=>?_;subst y1;refine ej (id o.at_) λ_ a0 hd p=>ba (gr (fG (wpAny_dictSet_pairs (knd:=ik w) (k:=n) mZ hd (λh' h hs=>?_) (by refine bY.len p▸?_;exact bf L (by decide)))));exact bO (Ek (tk:=V.toks+1) (a':=.ownd (lX l n t)) H2 o hs trivial (fu rfl _ h (bY.stored X p))) λN3 H3 x3=>N R _ (((c.trans g).toW _).trans N3) H3 x3
structure wP (w:aY) (F:Fx) (n:Nat) (D:aJ) (a:S) (Z:Fz) (h:bh):Prop where
 z:Z D=none
 at_:dY w F.nt Z h D a (.ref D)
 ho:a.adD
 nt:F.nt≠some D
 lo:n<=D
structure wZ (w:aY) (A:bx) (e:Expr) (o:bK) (a0:S) (newAcc:bA aI):Prop where
 new:∀ (s:aL) (Q:aI->aL->Prop) (E:aI->aL->Prop),Q (.ref s.heap.objs.size) {s with heap:=s.heap.push o}->bc (model pw w) A newAcc Q E s
 ok:∀ (nt:Option aJ) (Z:Fz) (h:bh) (D:aJ),h.get? D=some o->dY w nt Z h D a0 (.ref D)
 ho:a0.adD
 fr:o.isFreed=false
 start:∀ (it acc:aI) (env:cz) (R:o8->aL->Prop) (s:aL),mL (model pw w) A (.compLoop e 0 it acc env) R s->bc (model pw w) A (jP it) (λit' s'=>mL (model pw w) A (.compLoop e 0 it' acc env) R s') (notedBy (model pw w) A env λx s'=>R (.error x) s') s->
  mL (model pw w) A (.compStart e 0 it acc env) R s
theorem Yp(hh:A.handled=none)(H:St w F J Z O Y s){e target iter:Expr}{M:List Expr}{gs:List C0}{a:Scope}{pos:br}{p:PT}{I:dc}{step:List S->List T->S->Option (S×List T)}{K:aI->cz->bA Unit}{tg:Bool}{ow:Option Nat}{items:List T}
  {G t:List T} {c:List (Option Str)} {d:List Nat} {o:bK} {a0 a':S} {g:bA aI} (u:clausesOf e=⟨target,iter,M,0⟩::gs) (CI:wZ w A e o a0 g) (TI:oQ w A e 0 target iter M K)
  (hs:lY F.env.scope a F.nm c d) (a9:∀ i∈d,∀ x,c[i]?=some (some x)->O[i]?=some .no) (hI:Ei w A F J Z O s iter tg ow items G) (a5:jV iter=true)
  (aa:tg=true->ja target=true) (hp:gP c p target=true) (hT:∀ n,kN w A (eJ F a c d n) J M I) (hE:∀ n,pM w A (eJ F a c d n) J K step)
  (ab:iv (bU d p) I step items O G a0=some (a',t))
  (N:Option (aI->bA Unit)) (Q:aI->aL->Prop) (E:aI->aL->Prop)
  (fin:∀ D Z4 R C,Nx w F.nt Z s Z4 t R->wP w F s.heap.objs.size D a' Z4 R.heap->Z4 C=none->s.heap.objs.size<=C->C≠D->F.nt≠some C->(∃ m,R.heap.Ns C m)->yo (model pw w) A E N Q (.ref D) C (.ok .next) R) :
  bc (model pw w) A (yp e a F.env pos g false (eval iter F.env) N) Q E s:=by
 refine wpAny_comprehension_free u (yZ a5) (OB λx hx hf=>H.ok.celk x.1 ((hs.fr x hx hf).imp id id)) hs.kf (λx hx hl=>by obtain⟨n,k⟩:=x;subst hl;exact abp hs.nd hx) (hI _ _ λI0 fp W P ai V s1 N1 IT X hW a6 _=>?_);have H1:=H.next N1;refine CI.new _ _ _ ?_;have N2:=N1.push o;have H2:=H.next N2;generalize j:s1.heap.objs.size=D;have a7:({s1 with heap:=s1.heap.push o}:aL).heap.objs.size=D+1:=by
  show(s1.heap.push _).objs.size=_;rw[eQ,j]
 refine QZ H2 hs a9 λah h3 he hl H3 N3 u y=>?_;rw[he,hl];rw[a7]at H3 u y ⊢;have l:s.heap.objs.size<=D:=by refine j▸?_;exact N1.size
 have r:∀ b,s.heap.objs.size<=b->b<=D->Ap (eJ F a c d (D+1)) J O b:=λb h1 h2=>by
  refine⟨λq=>?_,λx q=>?_,λi S e o q=>?_,bf H.low h1⟩
  ·exact absurd (bf (y b q) h2) (adg _)
  ·rcases u x b q with h|h
   ·exact absurd (bf (jN h) h2) (adg _)
   ·exact eA (H.cel x b h) λv o ho _=>absurd (ck (cg ho) h1) (cQ _)
  ·have:=(H.own i S e o).2.2.2.1;replace this:=q▸this;exact absurd (ck this h1) (cQ _)
 have a1:∀ b∈fp,b<D:=λb f=>by refine j▸?_;exact IT.lt _ _ _ X b f
 have a2:∀ b o,¬Mu F.nt b->s1.heap.get? b=some o->h3.get? b=some o:=λb o f e=>N3.ext b o f (cA _ e);have a8:P 0 V h3:=IT.frame 0 V V _ _ X (.refl _) (IT.ok _ _ _ X) λb f o e=>a2 b o (a6 b f) e;have DZ:V D=none:=by refine j▸?_;exact N1.fresh
 have a3:F.nt≠some D:=by refine j▸?_;exact N1.adP
 have B:171<=D:=bf H.sz l;have ad:¬Mu F.nt D:=by
  rintro (h|h)
  ·exact a3 h
  ·replace B:=h▸B;exact absurd B (by decide)
 have ae:j3 w (eJ F a c d (D+1)) J O D a0 V h3:=
  ⟨DZ,CI.ok _ _ _ _ (N3.ext D _ ad (by refine j▸?_;exact dx _ CI.fr)),CI.ho,a3,B,r D l (cu _)⟩
 have L:mL (model pw w) A (.compLoop e 0 (.ref I0) (.ref D) (eJ F a c d (D+1)).env) (yo (model pw w) A E N Q (.ref D) (D+1)) {s1 with heap:=h3}:=by
  refine IY (F:=eJ F a c d (D+1)) hh IT (σ0:=O) TI aa hp (hT _) (hE _) (λb f q=>absurd (ff (y b f) (a1 b q)) (Nat.not_succ_lt_self)) a6 (λq=>cQ _ (a1 D q))
   (λb f=>r b (hW b f) (j8 (a1 b (IT.sub b f)))) items 0 V O G _ a0 a' t rfl a8 H3 (.refl _) ae ab λZ4 aj R N4 H4 _ a4=>?_
  refine aQ λnG=>aV H4.vars λm4 af _=>nG ?_;have ag:Nx w F.nt Z s Z4 t R:=by
   refine((N2.trans N3).toW (D::(W++(eJ F a c d (D+1)).fa)) |>.trans N4).nx λb f=>?_;rcases bP.mp f with rfl|f
   ·exact l
   ·rcases fQ.mp f with f|f
    ·exact hW b f
    ·exact bf l (jN (y b f))
  exact fin D Z4 R (D+1) ag ⟨a4.z,a4.at_,a4.ho,a3,l⟩ (H4.fz _ (.head _)).1 (uq l) (nW (pe _)) (λe=>H4.ok.ntf _ e (.head _)) ⟨m4,af⟩
 exact CI.start _ _ _ _ _ L (IT.self 0 V _ _ _ a8 L)
theorem Ce(H:St w F J Z O Y s){p:S}{a:List T}{x:X}{Q:aI->aL->Prop}{E:aI->aL->Prop}(y:x.own?=some p)(B:∀ v Z' s',Nx w F.nt Z s Z' a s'->RX w F J O s.heap.objs.size Z' s'.heap x v->Q v s'):
  ∀ D c d C,Nx w F.nt Z s c a d->wP w F s.heap.objs.size D p c d.heap->c C=none->s.heap.objs.size<=C->C≠D->F.nt≠some C->(∃ m,d.heap.Ns C m)->yo (model pw w) A E none Q (.ref D) C (.ok .next) d:=by
 intro D c d C r f c1 t G I ⟨m,K⟩;refine(aS m K (λh5 g=>?_));have u:=H.next r;have L:cZ w F.nt [C] c d c a {d with heap:=h5,toks:=d.toks}:=by
  refine eH u.nts u.on (λb h=>?_) (λb o h e=>g.extBut b o (λq=>h (by simp[q])) e) (gV g.1.symm);simp only[bP,dP,or_false]at h;subst h;exact⟨c1,bf H.sz t,I⟩
 have j:Nx w F.nt Z s c a {d with heap:=h5}:=((r.toW _).trans L).nx λb h=>by
  simp only[bP,dP,or_false]at h;subst h;exact t
 have i:=f.at_.ext (Le.refl c) λ_ o e=>g.extBut D o (Ne.symm G) e;refine B _ c _ j ?_;cases x<;>cases y
 ·exact ej i λ_ M k l=>(jz D M rfl f.lo f.z f.nt k l)
 ·exact ej i λ_ n k l=>(jz D n rfl f.lo f.z f.nt k l)
noncomputable def S.x?:S->Option X
 |.own l=>some (.fr l)
 |.ownd l=>some (.frd l)
 |_=>none
theorem S.aea{a:S}{x:X}(h:a.x?=some x):x.own?=some a:=by
 cases a<;>cases h<;>rfl
abbrev jk:=List S->List T->Option (List T×List T)
noncomputable def cn(c:List Nat)(p:PT)(d:jk)(b:dc)(step:List S->List T->S->Option (S×List T))(e:S):List S->List T->Option (S×List T):=
 λO Y=>if kS c O=true then(d O Y).bind λa=>iv (bU c p) b step a.1 O a.2 e else none
noncomputable def cM(f:List S->List T->Option (S×List T)):aP:=λO Y=>(f O Y).bind λr=>r.1.x?.map λx=>(x,r.2)
noncomputable def jS(a:List Nat)(i:Nat)(f:List S->List T->Option (S×List T)):bC:=λO Y=>(f O Y).bind λr=>if a.contains i/\i<O.length then some (.nx,O.set i r.1,r.2)else none
theorem Gs{b target iter:Expr}{c:List Expr}{a:Scope}{pos:br}:oQ w A (.ListComp b [⟨target,iter,c,0⟩] a pos) 0 target iter c (λd e=>do let _ <- call (.builtin "list.append") [d,<- eval b e]) where
 turn:=λ_ _ _=>rfl
 den:=λ_ _ _=>rfl
 und:=λ_ _ _=>rfl
 qt:=λ_ _ _=>rfl
theorem Ej{k v target iter:Expr}{b:List Expr}{a:Scope}{pos:br}:oQ w A (.DictComp k v [⟨target,iter,b,0⟩] a pos) 0 target iter b (λe c=>do
    let f <- eval k c;let g <- js [f] (eval v c);match e with
    |.ref d=>do
     gJ {k.pos with endLine:=v.pos.endLine,endCol:=v.pos.endCol}
     js [f,g] (uc d f g)
    |_=>unsupported "internal:dictcomp") where
 turn:=λ_ _ _=>rfl
 den:=λ_ _ _=>rfl
 und:=λ_ _ _=>rfl
 qt:=λ_ _ _=>rfl
theorem yR{b target iter:Expr}{c:List Expr}{d:List C0}{a:Scope}{pos:br}:wZ w A (.ListComp b (⟨target,iter,c,0⟩::d) a pos) {cls:=.type "list",data:=.seq ([]:List aI).toArray} (.own []) (newList []) where
 new:=λs Q E h=>uC h
 ok:=λnt Z h D e=>(fu rfl [] ⟨0,e⟩ (by show _=_;rfl))
 ho:=trivial
 fr:=rfl
 start:=λi f g R s h0 h=>codeAny_compStart_list h0 h
theorem GN{k v target iter:Expr}{b:List Expr}{c:List C0}{a:Scope}{pos:br}:wZ w A (.DictComp k v (⟨target,iter,b,0⟩::c) a pos) {cls:=.type "dict",data:=.dict #[]} (.ownd []) newDict where
 new:=λs Q E h=>uC h
 ok:=λnt Z h D e=>(fu rfl [] (ph.mpr (mQ _ e (#[]) 0 ⟨rfl,rfl,rfl⟩ ⟨rfl,(λ_ d=>by simp at d),.nil,.nil⟩)) (by show _=_;rfl))
 ho:=trivial
 fr:=rfl
 start:=λi f g R s h0 h=>codeAny_compStart_dict h0 h
theorem th(K:A.handled=none){e target iter:Expr}{h:List Expr}{L:List C0}{a:Scope}{pos:br}{p:PT}{y:jk}{f:dc}{step:List S->List T->S->Option (S×List T)}{g:aI->cz->bA Unit}{z:Bool}{M:Option Nat}
  {c:List (Option Str)} {d:List Nat} {o:bK} {B I:S} {b:bA aI} (r:clausesOf e=⟨target,iter,h,0⟩::L) (N:wZ w A e o B b) (P:oQ w A e 0 target iter h g)
  (hs:lY F.env.scope a F.nm c d) (k:jV iter=true) (t:z=true->ja target=true) (R:gP c p target=true) (V:gT w A F iter z M y)
  (hT:∀ n J,kN w A (eJ F a c d n) J h f) (X:∀ n J,pM w A (eJ F a c d n) J g step)
  (H:St w F J Z O Y s) (l:cn d p y f step B O Y=some (I,ν')) (j:Option (aI->bA Unit)) (Q:aI->aL->Prop) (E:aI->aL->Prop)
  (fin:∀ D u q C,Nx w F.nt Z s u ν' q->wP w F s.heap.objs.size D I u q.heap->u C=none->s.heap.objs.size<=C->C≠D->F.nt≠some C->(∃ m,q.heap.Ns C m)->yo (model pw w) A E j Q (.ref D) C (.ok .next) q) :
  bc (model pw w) A (yp e a F.env pos b false (eval iter F.env) j) Q E s:=by
 unfold cn at l;revert l;refine ca λv=>?_;exact bJ λitems G e1 l=>Yp K H r N P hs (λi hi x _=>Ie v i hi) (V H e1) k t R (λn=>hT n J) (λn=>X n J) l j Q E fin
theorem gy(i:A.handled=none){target iter c:Expr}{d:List Expr}{a:Scope}{pos:br}{p:PT}{h:jk}{b:dc}{f:aP}{tg:Bool}{ow:Option Nat}{nm':List (Option Str)}{wr':List Nat}
  (hs:lY F.env.scope a F.nm nm' wr') (e:jV iter=true) (g:tg=true->ja target=true) (j:gP nm' p target=true) (k:gT w A F iter tg ow h)
  (hT:∀ n J,kN w A (eJ F a nm' wr' n) J d b) (l:∀ n,bu w A (eJ F a nm' wr' n) c f) :
  bu w A F (.ListComp c [⟨target,iter,d,0⟩] a pos) (cM (cn wr' p h b (cF f) (.own []))):=λJ O Y x ν' Z s H=>by
 refine bJ λr G m=>cb λy o=>dR ?_;intro Q E q;rw[eval_ListComp];exact th i rfl yR Gs hs e g j k hT (λn J=>Bh (l n)) H m none Q E (Ce H (S.aea o) q)
theorem zc(i:A.handled=none){target iter k v:Expr}{b:List Expr}{a:Scope}{pos:br}{p:PT}{f:jk}{c:dc}{g h:aP}{tg:Bool}{ow:Option Nat}{nm':List (Option Str)}{wr':List Nat}
  (hs:lY F.env.scope a F.nm nm' wr') (d:jV iter=true) (e:tg=true->ja target=true) (j:gP nm' p target=true) (l:gT w A F iter tg ow f)
  (hT:∀ n J,kN w A (eJ F a nm' wr' n) J b c) (hk:∀ n,bu w A (eJ F a nm' wr' n) k g) (m:∀ n,bu w A (eJ F a nm' wr' n) v h) :
  bu w A F (.DictComp k v [⟨target,iter,b,0⟩] a pos) (cM (cn wr' p f c (ie g h) (.ownd []))):=λJ O Y x ν' Z s H=>by
 refine bJ λt G o=>cb λy q=>dR ?_;intro Q E r;show bc (model pw w) A (yp _ a F.env (J7 [⟨target,iter,b,0⟩] pos) newDict (firstAsync [⟨target,iter,b,0⟩]) (firstIter [⟨target,iter,b,0⟩] F.env) none) Q E s;exact th i rfl GN Ej hs d e j l hT (λn J=>EG (hk n) (m n)) H o none Q E (Ce H (S.aea q) r)
theorem I1(H:St w F J Z O Y s){l:S}{d:List T}{y:Str}{py:br}{i:Nat}(hi:F.nm[i]?=some (some y))(hw:i∈F.wr)(P:i<O.length){Q:Flow->aL->Prop}{E:aI->aL->Prop}
  (R:∀ f α' Z' s',cY w F mt [] J O Z s α' (O.set i l) Z' s'->St w F α' Z' (O.set i l) d s'->v8 w F α' (O.set i l) Z' s'.heap .nx f->Q f s') :
  ∀ D g n C,Nx w F.nt Z s g d n->wP w F s.heap.objs.size D l g n.heap->g C=none->s.heap.objs.size<=C->C≠D->F.nt≠some C->(∃ m,n.heap.Ns C m)->
   yo (model pw w) A E (some λv=>assignAll v ((jt [.Name y py] F.env).map (·.2))) (λ_ s'=>Q .next s') (.ref D) C (.ok .next) n:=by
 intro D g n C I c c1 p X c4 ⟨m,K⟩;have B:=H.next I;have o1:vE F J g O n i D:=⟨c.z,bf H.low c.lo,c.nt,c.at_.lt c.ho,λq=>absurd (ck (H.fz D q).2 c.lo) (cQ _),λj S _ k r q=>absurd (ck (H.own j S k r).2.2.2.1 (q.symm▸c.lo)) (cQ _)⟩;have L:C∉F.fa:=λq=>absurd (ck (H.fz C q).2 p) (cQ _);show bc _ _ (iN (.Name y py) F.env (.ref D)) _ _ _;refine yd (ww B hi hw P c.at_ c.ho o1 λt M G=>(aS m (qu K λo=>M.ext C o (zF B.nts B.tab.choose_spec K) L) (λh6 u=>?_)));have N:cZ w F.nt [C] g t g d {t with heap:=h6,toks:=t.toks}:=by
  refine eH G.nts G.on (λb a=>?_) (λb o a e=>u.extBut b o (λq=>a (by simp[q])) e) (gV u.1.symm);simp only[bP,dP,or_false]at a;subst a;exact⟨c1,bf H.sz p,c4⟩
 have H6:St w F (j4 J i D) g (O.set i l) d {t with heap:=h6}:=G.adR N λb a=>by
  simp only[bP,dP,or_false]at a;subst a;refine⟨L,λx q=>?_,λj S e o q=>?_,bf H.low p⟩
  ·exact eA (H.cel x b q) λv o r _=>absurd (ck (cg r) p) (cQ _)
  ·by_cases k:i=j
   ·subst k;rw[mB]at q;exact X q.symm
   ·rw[ed k]at e;rw[ki (λq=>k q.symm)]at q;exact absurd (ck (H.own j S e o).2.2.2.1 (q.symm▸p)) (cQ _)
 have NS:cY w F mt [C] J O Z s (j4 J i D) (O.set i l) g {t with heap:=h6}:=by
  refine {cY.ofW (J:=J) (O:=O) (U:=O) (mt:=mt) (V:=[C]) (W:=F.fa++[C]) (((I.toW _).trans (M.mono λb a=>J6 _ a)).trans (N.mono λb a=>J5 _ a)) (λb a=>?_) (λj S e o=>(aS S e o))with own:=λj S k r=>?_}
  ·rcases fQ.mp a with h|h
   ·exact .inl h
   ·exact .inr (.inl h)
  ·by_cases h:i=j
   ·subst h;exact .inr (by rw[mB];exact c.lo)
   ·rw[ed h]at k;exact .inl (cI S k r ((ki (λq=>h q.symm)).symm))
 exact R _ _ _ _ (NS.strip λb a=>by simp only[bP,dP,or_false]at a;subst a;exact p) H6 rfl
theorem H8{targets:List Expr}{value:Expr}{pos:br}{Q:Flow->aL->Prop}{E:aI->aL->Prop}(hs:rB targets value pos.line F.env=pure true)
  (h:bc (model pw w) A (evalThenUse value F.env λv=>assignAll v ((jt targets F.env).map (·.2))) (λ_ s'=>Q .next s') E s):bc (model pw w) A (exec (.Assign targets value pos) F.env) Q E s:=by
 rw[exec_Assign_arm];refine ba (gr ?_);rw[hs];refine ba (cm ?_);rw[if_pos (by rfl)];exact ba (iM h (λ_ _ x=>cm x) λ_ _ x=>x)
theorem wY(j:A.handled=none){y:Str}{py apos:br}{i:Nat}{target iter d:Expr}{b:List Expr}{a:Scope}{pos:br}{p:PT}{h:jk}{c:dc}{f:aP}{tg:Bool}{ow:Option Nat}{nm':List (Option Str)}{wr':List Nat}
  (hi:F.nm[i]?=some (some y)) (hw:rB [.Name y py] (.ListComp d [⟨target,iter,b,0⟩] a pos) apos.line F.env=pure true)
  (hs:lY F.env.scope a F.nm nm' wr') (e:jV iter=true) (g:tg=true->ja target=true) (k:gP nm' p target=true) (l:gT w A F iter tg ow h)
  (hT:∀ n J,kN w A (eJ F a nm' wr' n) J b c) (m:∀ n,bu w A (eJ F a nm' wr' n) d f) :
  eT w A F mt (.Assign [.Name y py] (.ListComp d [⟨target,iter,b,0⟩] a pos) apos) (jS F.wr i (cn wr' p h c (cF f) (.own []))):=λJ O Y t U ν' Z s H=>by
 refine bJ λu G o=>ca λhc q=>?_;cases q;intro Q E r;refine H8 hw ?_;show bc (model pw w) A (yp _ a F.env (J7 [⟨target,iter,b,0⟩] pos) (newList []) (firstAsync [⟨target,iter,b,0⟩]) (firstIter [⟨target,iter,b,0⟩] F.env) (some _) >>= λ_=>pure ()) _ E s;exact ba (iM (th j rfl yR Gs hs e g k l hT (λn J=>Bh (m n)) H o _ (λ_ s'=>Q .next s') E (I1 H hi (by simpa using hc.1) hc.2 r)) (λ_ _ x=>cm x) λ_ _ x=>x)
theorem Xo(j:A.handled=none){y:Str}{py apos:br}{i:Nat}{target iter k v:Expr}{b:List Expr}{a:Scope}{pos:br}{p:PT}{f:jk}{c:dc}{g h:aP}{tg:Bool}{ow:Option Nat}{nm':List (Option Str)}{wr':List Nat}
  (hi:F.nm[i]?=some (some y)) (hw:rB [.Name y py] (.DictComp k v [⟨target,iter,b,0⟩] a pos) apos.line F.env=pure true)
  (hs:lY F.env.scope a F.nm nm' wr') (d:jV iter=true) (e:tg=true->ja target=true) (l:gP nm' p target=true) (m:gT w A F iter tg ow f)
  (hT:∀ n J,kN w A (eJ F a nm' wr' n) J b c) (hk:∀ n,bu w A (eJ F a nm' wr' n) k g) (o:∀ n,bu w A (eJ F a nm' wr' n) v h) :
  eT w A F mt (.Assign [.Name y py] (.DictComp k v [⟨target,iter,b,0⟩] a pos) apos) (jS F.wr i (cn wr' p f c (ie g h) (.ownd []))):=λJ O Y u U ν' Z s H=>by
 refine bJ λz G q=>ca λhc r=>?_;cases r;intro Q E t;refine H8 hw ?_;show bc (model pw w) A (yp _ a F.env (J7 [⟨target,iter,b,0⟩] pos) newDict (firstAsync [⟨target,iter,b,0⟩]) (firstIter [⟨target,iter,b,0⟩] F.env) (some _) >>= λ_=>pure ()) _ E s;exact ba (iM (th j rfl GN Ej hs d e l m hT (λn J=>EG (hk n) (o n)) H q _ (λ_ s'=>Q .next s') E (I1 H hi (by simpa using hc.1) hc.2 t)) (λ_ _ x=>cm x) λ_ _ x=>x)
theorem AQ{y:Str}{e:Expr}{py pos:br}{i:Nat}{f:aP}(h:bu w A F e f)(hi:F.nm[i]?=some (some y))(hs:rB [.Name y py] e pos.line F.env=pure false)(hw:nX [.Name y py] e F.env=pure none):
  eT w A F mt (.Assign [.Name y py] e pos) (jB F.wr i f):=λJ O Y D U ν' Z s H=>by
 refine bJ λx G j=>aX λk l=>ca λhc h3=>?_;simp only[lL,mK]at h3;refine aQ λb=>bO h3 λm o p=>?_;clear h3;subst m;subst o;subst p;refine b ?_;intro Q E q;refine yg (h H j _ _ λv d I c r=>?_) hs hw;show bc _ _ (iN (.Name y py) F.env v) _ _ _;refine aQ λb=>ng (IG H c r l i) λa t so u z=>b (yd (ww (H.next c) hi (by simpa using hc.1) hc.2 so u z λg B C=>q _ _ d g ?_ C rfl));exact {(GD (n:=0) ((c.toW F.fa).trans B) t hc.2:cY w F mt [] J O Z s (j4 J i a) (O.set i k) d g)with}
noncomputable def oF(c:List Nat)(p:PT)(d:jk)(b:dc)(step:List S->List T->S->Option (S×List T)):List S->List T->S->Option (S×List T):=λO Y a=>
 if kS p.idx O=true then(d O Y).bind λr=>iv (bU c p) b step r.1 O r.2 a else none
theorem St.forget(H:St w F J Z U Y s)(h:∀ (k:Nat) (S:Mine.Internal.S),O[k]?=some S->S≠.no->U[k]?=some S):St w F J Z O Y s:=by
 have own:∀ {S:Mine.Internal.S},S.adD->S≠.no:=λ{S} o q=>by subst q;exact o
 exact⟨H.ok,H.on,H.md,H.nts,H.gens,H.base,H.tab,H.fz,H.cel,aV H.vars λm d f=>(aS m d (λi x S hi hs a=>f i x S hi (h i S hs a) a)),λi S e o=>H.own i S (h i S e (own o)) o,λi j S b e o g c q=>H.inj i j S b (h i S e (own o)) o (h j b g (own c)) c q⟩
theorem Xp{j target iter d a:Expr}{i h:List Expr}{g:Scope}{pos:br}(l k:aI)(f:cz):compTurn (.ListComp j [⟨target,iter,i,0⟩,⟨d,a,h,0⟩] g pos) 0 l k f=(do
   gJ iter.pos
   match <- mJ l with
   |none=>pure (.done .next)
   |some v=>
    yb target l v
    iN target f v
    let mut ok:=true
    for c in i do
     if ok then ok <- isTrue c f (eval c f)
    if ok then
     (do
      let x <- eval a f
      gJ a.pos
      let x <- rL a f x;let _ <- rO (.compStart (.ListComp j [⟨target,iter,i,0⟩,⟨d,a,h,0⟩] g pos) 1 (<- js [x] (jP x)) k f) f)
    again (.compLoop (.ListComp j [⟨target,iter,i,0⟩,⟨d,a,h,0⟩] g pos) 0 l k f)):=by
 have e:∀ b:Bool,(if b=true then do
     let x <- eval a f
     gJ a.pos
     let x <- rL a f x;let m <- js [x] (jP x);let _ <- rO (.compStart (.ListComp j [⟨target,iter,i,0⟩,⟨d,a,h,0⟩] g pos) 1 m k f) f
     again (.compLoop (.ListComp j [⟨target,iter,i,0⟩,⟨d,a,h,0⟩] g pos) 0 l k f)
    else again (.compLoop (.ListComp j [⟨target,iter,i,0⟩,⟨d,a,h,0⟩] g pos) 0 l k f)) =
    (if b=true then((do
     let x <- eval a f
     gJ a.pos
     let x <- rL a f x;let m <- js [x] (jP x);let _ <- rO (.compStart (.ListComp j [⟨target,iter,i,0⟩,⟨d,a,h,0⟩] g pos) 1 m k f) f) >>= λ_=>again (.compLoop (.ListComp j [⟨target,iter,i,0⟩,⟨d,a,h,0⟩] g pos) 0 l k f))
    else again (.compLoop (.ListComp j [⟨target,iter,i,0⟩,⟨d,a,h,0⟩] g pos) 0 l k f)):=by
  intro b;simp only[xS,xT]
 refine Eq.trans (b:=(do
   gJ iter.pos
   match <- mJ l with
   |none=>pure (.done .next)
   |some v=>
    yb target l v
    iN target f v
    let r <- (forIn i true λc r=>if r=true then do let ok <- isTrue c f (eval c f);pure (kI ok)else pure (kI r))
    (if r=true then do
     let x <- eval a f
     gJ a.pos
     let x <- rL a f x;let m <- js [x] (jP x);let _ <- rO (.compStart (.ListComp j [⟨target,iter,i,0⟩,⟨d,a,h,0⟩] g pos) 1 m k f) f
     again (.compLoop (.ListComp j [⟨target,iter,i,0⟩,⟨d,a,h,0⟩] g pos) 0 l k f)
    else again (.compLoop (.ListComp j [⟨target,iter,i,0⟩,⟨d,a,h,0⟩] g pos) 0 l k f)))) rfl ?_
 simp only[e]
theorem Uq{g target iter b a:Expr}{f e:List Expr}{c:Scope}{pos:br}:oQ w A (.ListComp g [⟨target,iter,f,0⟩,⟨b,a,e,0⟩] c pos) 0 target iter f (λh d=>do
    let x <- eval a d
    gJ a.pos
    let x <- rL a d x;let _ <- rO (.compStart (.ListComp g [⟨target,iter,f,0⟩,⟨b,a,e,0⟩] c pos) 1 (<- js [x] (jP x)) h d) d) where
 turn:=Xp
 den:=λ_ _ _=>rfl
 und:=λ_ _ _=>rfl
 qt:=λ_ _ _=>rfl
theorem K8{e target iter a b:Expr}{f c:List Expr}{d:Scope}{pos:br}:oQ w A (.ListComp e [⟨target,iter,f,0⟩,⟨a,b,c,0⟩] d pos) 1 a b c (λg h=>do let _ <- call (.builtin "list.append") [g,<- eval e h]) where
 turn:=λ_ _ _=>rfl
 den:=λ_ _ _=>rfl
 und:=λ_ _ _=>rfl
 qt:=λ_ _ _=>rfl
theorem LU{f target iter a b:Expr}{g d:List Expr}{c:Scope}{pos:br}{k i:aI}{e:cz}{R:o8->aL->Prop}
  (h0:mL (model pw w) A (.compLoop (.ListComp f [⟨target,iter,g,0⟩,⟨a,b,d,0⟩] c pos) 1 k i e) R s)
  (h:bc (model pw w) A (jP k) (λj s'=>mL (model pw w) A (.compLoop (.ListComp f [⟨target,iter,g,0⟩,⟨a,b,d,0⟩] c pos) 1 j i e) R s') (notedBy (model pw w) A e λx s'=>R (.error x) s') s) :
  mL (model pw w) A (.compStart (.ListComp f [⟨target,iter,g,0⟩,⟨a,b,d,0⟩] c pos) 1 k i e) R s:=by
 refine yh ?_;show bc _ A ((compStart (.ListComp f [⟨target,iter,g,0⟩,⟨a,b,d,0⟩] c pos) 1 k i e).onRaise (λx=>do CM x e;gJ theWindowsPlace)) _ _ s;refine wpAny_notedAt ?_;unfold compStart;show bc _ A (ask >>= _) _ _ s;refine ba (wpAny_askSetting (wpAny_ite ?_));split
 ·first
   |exact ba (cm (cm (And.intro rfl h0)))
   |exact cm (And.intro rfl h0)
 ·first
   |exact ba (C1 (ba (gr (ba (iM h (λj s' l=>cm (And.intro rfl l)) λ_ _ x=>x)))))
def Bq(w:aY)(A:bx)(F:Fx)(e:Expr)(g:Bool)(f:jk):Prop:=∀ ⦃J O Y items ν' Z s⦄,St w F J Z O Y s->f O Y=some (items,ν')->
 ∀ (Q:aI->aL->Prop) (E:aI->aL->Prop),(∀ d fp W P c Z' s',Nx w F.nt Z s Z' ν' s'->It w A F.nt g d fp W items P c->P 0 Z' s'.heap->(∀ b∈fp,s.heap.objs.size<=b)->Q (.ref d) s')->
  bc (model pw w) A (eval e F.env) (λx a=>bc (model pw w) A (jP x) Q E a) E s
theorem P0 (q:A.handled=none) {p pos:br} {e:Expr} {f:aP} (r:F.env.kindOf (aK "range")=some .globalImplicit) (j:dS e=true) (h:bu w A F e f) :
  Bq w A F (.Call (.Name (aK "range") p) [e] [] pos) false (iR f):=λJ O Y items ν' Z s H=>bJ λx G t=>aX λM u=>aX λn y=>ca λg z Q E B=>by
  cases z
  refine gM rfl (h9 H r (v:=.type "range") rfl ?_ rfl);refine kb (gn.one H ((h H t).frz u) j _ _ λN k a C D=>?_) (eG j) rfl;refine aV (cR.one D) λv I K=>aU (gG y K) λd L=>?_;subst I L;refine JP ?_;have l:=(C.push {cls:=.type "range",data:=.fields #[.int 0 a.toks,.int n d,.int 1 (a.toks+1)]});have c:Nx w F.nt Z s k G {a with heap:=a.heap.push {cls:=.type "range",data:=.fields #[.int 0 a.toks,.int n d,.int 1 (a.toks+1)]},toks:=a.toks+1+1}:=l.trans ((H.next l).tok _);refine wpAny_pyIter_range (CU ..) (v9 (by decide) (by decide) (BU g) (qA g) (by rw[uw];exact qA g)) ?_;rw[wn,uw];have m:=It.range (w:=w) (A:=A) (nt:=F.nt) q (a.heap.push {cls:=.type "range",data:=.fields #[.int 0 a.toks,.int n d,.int 1 (a.toks+1)]}).objs.size 0 n.toNat;rw[Iz]at m;exact B _ _ _ _ _ k _ (c.push _) m ⟨lE _,dx (a.heap.push {cls:=.type "range",data:=.fields #[.int 0 a.toks,.int n d,.int 1 (a.toks+1)]}) (o:={cls:=.type "range_iterator",data:=.fields #[gY 0,gY (n.toNat:Int),gY 1]}) rfl,λb i=>in1 i▸⟨c.fresh,bf H.sz c.size,c.adP⟩⟩ λb i=>in1 i▸c.size
theorem XX(hh:A.handled=none){m target iter c d:Expr}{B j:List Expr}{g:Scope}{pos:br}{p:PT}{it:jk}{t:dc}{f:aP}{tg:Bool}(R:tg=true->ja c=true)
  (I:jV d=true) (hp:gP F.nm p c=true) (hI:Bq w A F d tg it) (hT:kN w A F J j t) (hE:bu w A F m f) :
  pM w A F J (λV n=>do
    let x <- eval d n
    gJ d.pos
    let x <- rL d n x;let _ <- rO (.compStart (.ListComp m [⟨target,iter,B,0⟩,⟨c,d,j,0⟩] g pos) 1 (<- js [x] (jP x)) V n) n) (oF F.wr p it t (cF f)):=λO Y a a' ν' Z s D H x=>by
 refine ca λX=>bJ λitems G e1 hg=>?_;intro Q E hQ;have key:=hI H e1 (λK s'=>bc (model pw w) A (rO (.compStart (.ListComp m [⟨target,iter,B,0⟩,⟨c,d,j,0⟩] g pos) 1 K (.ref D) F.env) F.env) (λ_ s''=>Q () s'') E s') E λI0 fp W P a3 Z1 s1 N1 N hP l=>by
  have H1:=H.next N1;have x1:=x.next (N1.toW []) (λq=>by cases q) (.refl _);have a0:=x.at_.lt x.ho;have a1:∀ b∈fp,¬Mu F.nt b:=λb C=>by
   rintro (q|q)
   ·exact(dM H (l b C)).2 q
   ·have:=bf H.sz (l b C);replace this:=q▸this;exact absurd this (by decide)
  have ap:∀ b,s.heap.objs.size<=b->Ap F J O b:=λb h1=>by
   refine⟨λq=>absurd (ck (H.fz b q).2 h1) (cQ _),λy q=>?_,λi S e o q=>?_,bf H.low h1⟩
   ·exact eA (H.cel y b q) λv o ho _=>absurd (ck (cg ho) h1) (cQ _)
   ·exact absurd (ck (H.own i S e o).2.2.2.1 (q.symm▸h1)) (cQ _)
  have u:mL (model pw w) A (.compLoop (.ListComp m [⟨target,iter,B,0⟩,⟨c,d,j,0⟩] g pos) 1 (.ref I0) (.ref D) F.env) (λr s'=>match r with|.ok f=>Q () s'|.error e=>cameBackBy (model pw w) A F.env E e s') s1:=by
   refine IY hh N (σ0:=O) K8 R hp hT (Bh hE) (λb C q=>(ap b (l b q)).fa C) a1 (λq=>absurd (ck a0 (l D q)) (cQ _)) (λb C=>ap b (l b (N.sub b C))) items 0 Z1 O G s1 a a' ν' rfl hP H1 (.refl _) x1 hg λZ4 a2 s4 N4 H4 o4 a4=>?_;have L:∀ (k:Nat) (S:Mine.Internal.S),O[k]?=some S->S≠.no->a2[k]?=some S:=λk S e hn=>by
    refine(o4.2 k λq=>?_).trans e;have:=Ie X k q;replace this:=e▸this;cases this;exact hn rfl
   have M:=(N1.toW (D::(W++F.fa))).trans N4;refine hQ Z4 s4 {M with ext:=λb o h1 h2 e=>M.ext b o h1 (λq=>?_) e} (H4.forget L) ⟨a4.z,a4.at_,a4.ho,a4.nt,a4.lo,x.ap⟩;rcases bP.mp q with rfl|q
   ·exact h2 (.head _)
   ·rcases fQ.mp q with q|q
    ·exact absurd (ck (cg e) (l b (N.sub b q))) (cQ _)
    ·exact h2 (.tail _ q)
  exact iM (wpAny_runOwn (LU u (N.self 0 Z1 _ _ _ hP u))) (λ_ _ h=>h) λ_ _ h=>h
 refine ba (iM key (λv s1 h1=>?_) λ_ _ e=>e);refine ba (gr (ba (J8 (yZ I v) (ba (fG (iM h1 (λK s' h'=>?_) λ_ _ e=>e))))));exact ba (iM h' (λ_ _ h=>cm h) λ_ _ e=>e)
theorem O9(m:A.handled=none){target iter a c e:Expr}{b:Scope}{pos:br}{p p2:PT}{o g:jk}{f:aP}{tg tg2:Bool}{ow:Option Nat}{nm':List (Option Str)}{wr':List Nat}
  (hs:lY F.env.scope b F.nm nm' wr') (h:jV iter=true) (j:tg=true->ja target=true) (q:gP nm' p target=true) (r:gT w A F iter tg ow o)
  (d:jV c=true) (i:tg2=true->ja a=true) (k:gP nm' p2 a=true) (l:∀ n,Bq w A (eJ F b nm' wr' n) c tg2 g) (t:∀ n,bu w A (eJ F b nm' wr' n) e f) :
  bu w A F (.ListComp e [⟨target,iter,[],0⟩,⟨a,c,[],0⟩] b pos) (cM (cn wr' p o (λ_ Y=>some (true,Y)) (oF wr' p2 g (λ_ Y=>some (true,Y)) (cF f)) (.own []))):=λJ O Y x ν' Z s H=>by
 refine bJ λB G u=>cb λy v=>dR ?_;intro Q E z;rw[eval_ListComp];exact th m rfl yR Uq hs h j q r (λn J=>fM) (λn J=>XX m i d k (l n) fM (t n)) H u none Q E (Ce H (S.aea v) z)
theorem ft{a:Prop}(h:false=true):a:=Bool.noConfusion h
noncomputable def WR(a:Bool):T->Bool
 |.bool b=>a==b
 |_=>false
noncomputable def eqI(a:Int):T->Bool
 |.int b=>a==b
 |_=>false
noncomputable def Zu(a:Str):T->Bool
 |.str b=>a==b
 |_=>false
noncomputable def sY(f:T->T->Bool)(l r:List T):Bool:=l.length==r.length&&(l.zip r).all λp=>f p.1 p.2
noncomputable def VU(f:T->T->Bool)(l:List T):T->Bool
 |.lst r=>sY f l r
 |_=>false
noncomputable def NI(f:T->T->Bool)(l:List T):T->Bool
 |.tup r=>sY f l r
 |_=>false
noncomputable def wF(f:T->Bool):Option T->Bool
 |some t=>f t
 |none=>false
noncomputable def Ac(f:T->T->Bool)(l:List (Int×T)):T->Bool
 |.dct r=>l.length==r.length&&l.all λp=>wF (f p.2) (iP r p.1)
 |_=>false
noncomputable def xj(f:Option (T->T->Bool)):T->T->Bool
 |.bool a=>WR a
 |.int a=>eqI a
 |.str a=>Zu a
 |.lst l=>(f.map λg=>VU g l).getD λ_=>false
 |.tup l=>(f.map λg=>NI g l).getD λ_=>false
 |.dct l=>(f.map λg=>Ac g l).getD λ_=>false
 |_=>λ_=>false
noncomputable def eqT:Nat->T->T->Bool
 |0=>xj none
 |n+1=>xj (some (eqT n))
theorem E8{f:Option (T->T->Bool)}{P:T->T->Prop}(c:∀ a,P (.bool a) (.bool a))(hi:∀ a,P (.int a) (.int a))(hs:∀ a,P (.str a) (.str a))
  (d:∀ g l r,f=some g->sY g l r=true->P (.lst l) (.lst r)) (e:∀ g l r,f=some g->sY g l r=true->P (.tup l) (.tup r))
  (hd:∀ g l r,f=some g->Ac g l (.dct r)=true->P (.dct l) (.dct r)):∀ t u,xj f t u=true->P t u:=λt u h=>by
 cases t with
 |bool a=>cases u with
  |bool b=>exact dN (show(a==b)=true from h)▸c a
  |_=>exact ft h
 |int a=>cases u with
  |int b=>exact dN (show(a==b)=true from h)▸hi a
  |_=>exact ft h
 |str a=>cases u with
  |str b=>exact dN (show(a==b)=true from h)▸hs a
  |_=>exact ft h
 |lst l=>cases f with
  |none=>exact ft h
  |some g=>cases u with
   |lst r=>exact d g l r rfl h
   |_=>exact ft h
 |tup l=>cases f with
  |none=>exact ft h
  |some g=>cases u with
   |tup r=>exact e g l r rfl h
   |_=>exact ft h
 |dct l=>cases f with
  |none=>exact ft h
  |some g=>cases u with
   |dct r=>exact hd g l r rfl h
   |_=>exact ft h
 |_=>exact ft h
open SeqAt
theorem vh{l r:List T}{f:T->T->Bool}(a:sY f l r=true):l.length=r.length/\∀ (j:Nat) (t u:T),l[j]?=some t->r[j]?=some u->f t u=true:=by
 refine bn (mH.mp a) λh1 h2=>⟨dN h1,λj t u b c=>c8.mp h2 (t,u) ?_⟩;exact ke (i:=j) (by simp[CR,b,c])
theorem sW(n:Nat):(aO n).all (λ_=>true)=true:=by simp
theorem Hm{g:T->T->Bool}{m:List (Int×aI)}{b:List (Int×T)}(n:bY w Z b m)(o:∀ (t u:T) (v y:aI),g t u=true->Rd w Z t v->Rd w Z u y->EqAt A s v y true):
  ∀ {c:List (Int×T)} {d:List (Int×aI)},bY w Z c d->(c.all λp=>wF (g p.2) (iP b p.1))=true->KeqHits A s m d true:=by
 intro f;induction f with
 |nil=>
  intro d a _;replace a:_=_:=a;subst a;exact .nil
 |cons i c j=>
  obtain⟨k,t⟩:=i;intro d a h;refine bG a λv z q h1 h2=>?_;clear a;subst q;refine bn (mH.mp (show(wF (g t) (iP b k)&&c.all _)=true from h)) λh3 h4=>?_;cases l:iP b k with
  |none=>rw[l]at h3;exact ft h3
  |some u=>
   rw[l]at h3;exact aV (zW n l) λy r x=>KeqHits.hit (e:=true) r (o t u v y h3 h1 x) (j h2 h4)
theorem QE{c:rq}{f:aY}{e:List cW}{d:List (Int×aI)}(x:PySem.Pairs (ik w) e d):PySem.Pairs (xX c f) e d:=by
 induction x with
 |nil=>exact .nil
 |cons a b _ g=>exact .cons a b g
theorem Hh{h:bh}{a:aJ}{b:List (Int×aI)}(c:rq)(d:aY)(x:h.DictOf (ik w) a b):h.DictOf (xX c d) a b:=
 Bt x λo e f h1 h2 h3 h4 h5 h6=>
 (dF o e f ⟨h1,h2,h3,h4,QE h5,h6⟩)
theorem DN{n:Nat}(a:A.units+(n+1)<rP):A.in1.units+n<rP:=by
 show A.units+1+n<rP;exact UT a
theorem wG{l r:List T}{a b:List aI}(c:bm w Z l a)(d:bm w Z r b){f:T->T->Bool}(h:∀ (j:Nat) (t u:T),l[j]?=some t->r[j]?=some u->f t u=true)
  (e:∀ (t u:T) (v y:aI),f t u=true->Rd w Z t v->Rd w Z u y->EqAt A s v y true):∀ j (h1:j<a.toArray.size) (h2:j<b.toArray.size),EqAt A s a.toArray[j] b.toArray[j] ((λ_=>true) j):=λj h1 h2=>by
 simp only[eY]at h1 h2;refine aQ λg=>aV (bm.at c (gv h1)) λt i k=>aV (bm.at d (gv h2)) λu m n=>g ?_;simpa using e t u _ _ (h j t u i m) k n
theorem wi(c:On Z s.heap){v:aI}{l:List (Int×T)}(r:Rd w Z (.dct l) v):∃ a b,v=.ref a/\s.heap.DictOf (ik w) a b/\bY w Z l b:=by
 exact gH r λa o b e d hd f=>(cE a b e (ph.mpr (aS o (c _ _ d) hd)) f)
theorem wy(c:On Z s.heap){v:aI}{l:List T}(r:Rd w Z (.tup l) v):∃ a b,v=.ref a/\s.heap.IsTuple a b.toArray/\bm w Z l b:=by
 exact gH r λa o b e d hd f=>(cE a b e (aS o (c _ _ d) hd) f)
theorem wh(c:On Z s.heap){v:aI}{l:List T}(r:Rd w Z (.lst l) v):∃ a b,v=.ref a/\s.heap.IsList a b.toArray/\bm w Z l b:=by
 exact gH r λa o b e d hd f=>(cE a b e (aS o (c _ _ d) hd) f)
theorem wO{l r:List T}{a b:List aI}(h:l.length=r.length)(c:bm w Z l a)(d:bm w Z r b):a.toArray.size=b.toArray.size:=(bm.length c).trans (h.trans (bm.length d).symm)
theorem FS{g:T->T->Bool}{l r:List (Int×T)}{a b:List (Int×aI)}(h:Ac g l (.dct r)=true)(c:bY w Z l a)(d:bY w Z r b):(a.length==b.length&&true)=true:=by
 rw[bY.len c,bY.len d,(mH.mp h).1];rfl
theorem EB{f:Option (T->T->Bool)}{A:bx}(o:On Z s.heap)(hs:∀ a p,s.heap.DictOf (ik w) a p->(a==pb)=false)(z:A.units<rP)
  (B:∀ g,f=some g->∀ (t u:T) (v y:aI),g t u=true->Rd w Z t v->Rd w Z u y->EqAt A.in1 s v y true):∀ (t u:T),xj f t u=true->∀ v y,Rd w Z t v->Rd w Z u y->EqAt A s v y true:=by
 refine E8 (λa v y i j=>?_) (λa v y i j=>?_) (λa v y i j=>?_) (λg l r e h v y i j=>?_) (λg l r e h v y i j=>?_) (λg l r e h v y i j=>?_)
 ·obtain rfl:v=_:=i;obtain rfl:y=_:=j;exact beq_self_eq_true a▸EqAt.bool_bool _ _
 ·refine aU i λ_ n=>?_;clear i;subst n;refine aU j λ_ n=>?_;clear j;subst n;exact beq_self_eq_true a▸EqAt.int_int _ _ _ _
 ·refine aU i λ_ n=>?_;clear i;subst n;refine aU j λ_ n=>?_;clear j;subst n;exact beq_self_eq_true a▸EqAt.str_str _ _ _ _
 ·refine bn (vh h) λh1 h2=>bG (wh o i) λa L q C k=>bG (wh o j) λb M x D c=>?_;subst q x;by_cases d:a=b
  ·subst d;exact EqAt.same _
  ·exact EqAt.of_refs d (sW _▸RcAt.lists C D (wO h1 k c) z (wG k c h2 (B g e)))
 ·refine bn (vh h) λh1 h2=>bG (wy o i) λa L q C k=>bG (wy o j) λb M x D c=>?_;subst q x;by_cases d:a=b
  ·subst d;exact EqAt.same _
  ·have:=RcAt.tuples C D z (wG k c h2 (B g e));rw[sW,wO h1 k c]at this;simp only[beq_self_eq_true,Bool.and_self]at this;exact EqAt.of_refs d this
 ·refine bG (wi o i) λa p q G k=>bG (wi o j) λb H x I c=>?_;subst q x;by_cases d:a=b
  ·subst d;exact EqAt.same _
  ·exact EqAt.of_refs d λm K E Q hq=>keq_eq (hs _ _ G) (hs _ _ I) (Hh m K G) (Hh m K I) z (λ_=>Hm c (B g e) k (mH.mp h).2) ((FS h k c).symm▸hq)
theorem K1(k:On Z s.heap)(hs:∀ a c,s.heap.DictOf (ik w) a c->(a==pb)=false):∀ (n:Nat) (A:bx) (t u:T) (v y:aI),eqT n t u=true->A.units+n<rP->Rd w Z t v->Rd w Z u y->EqAt A s v y true:=by
 intro d;induction d with
 |zero=>
  intro A t u v y h b f i;exact EB k hs b (λg e=>bD e) t u h v y f i
 |succ n j=>
  intro A t u v y h b f i;exact EB k hs (ff (dI _ _) b) (λg e t u v y h=>by
     have e:=bw e;subst e;exact j A.in1 t u v y h (DN b)) t u h v y f i
theorem ne_T{n:Nat}{t u:T}{v y:aI}{Q:aI->aL->Prop}{E:aI->aL->Prop}(h:eqT (n+1) t u=true)(j:On Z s.heap)(hs:∀ a p,s.heap.DictOf (ik w) a p->(a==pb)=false)(D:A.units+(n+1)<rP)(d:Rd w Z t v)(f:Rd w Z u y)
  (o:Q (.bool false) s):bc (model pw w) A (CB .NotEq v y) Q E s:=by
 have k:A.units<rP:=ff (dI _ _) D;have z:∀ (t u:T) (v y:aI),eqT n t u=true->Rd w Z t v->Rd w Z u y->EqAt A.in1 s v y true:=λt u v y e=>K1 j hs n A.in1 t u v y e (DN D);revert v y;refine E8 (P:=λt u=>∀ {v y:aI},Rd w Z t v->Rd w Z u y->bc (model pw w) A (CB .NotEq v y) Q E s) (λa v y d f=>?_) (λa v y d f=>?_) (λa v y d f=>?_) (λg l r e h v y d f=>?_) (λg l r e h v y d f=>?_) (λg l r e h v y d f=>?_) t u h
 ·obtain rfl:v=_:=d;obtain rfl:y=_:=f;exact RcNeAt.bool_bool _ _ pw w E Q (by rw[beq_self_eq_true];exact o)
 ·refine aU d λ_ m=>?_;clear d;subst m;refine aU f λ_ m=>?_;clear f;subst m;exact RcNeAt.int_int _ _ _ _ pw w E Q (by rw[beq_self_eq_true];exact o)
 ·refine aU d λ_ m=>?_;clear d;subst m;refine aU f λ_ m=>?_;clear f;subst m;exact RcNeAt.str_str _ _ _ _ pw w E Q (by rw[beq_self_eq_true];exact o)
 ·have e:=bw e;subst e;refine bn (vh h) λh1 h2=>bG (wh j d) λa K q B i=>bG (wh j f) λb L x C c=>?_;subst q x;have:=RcNeAt.lists B C (wO h1 i c) k (wG i c h2 z);rw[sW]at this;exact this pw w E Q o
 ·have e:=bw e;subst e;refine bn (vh h) λh1 h2=>bG (wy j d) λa K q B i=>bG (wy j f) λb L x C c=>?_;subst q x;have:=RcNeAt.tuples B C k (wG i c h2 z);rw[sW,wO h1 i c]at this;simp only[beq_self_eq_true,Bool.and_self]at this;exact this pw w E Q o
 ·have e:=bw e;subst e;refine bG (wi j d) λa p q G i=>bG (wi j f) λb H x I c=>?_;subst q x;exact keq_ne (hs _ _ G) (hs _ _ I) G I k (λ_=>Hm c z i (mH.mp h).2) ((FS h i c).symm▸o)
noncomputable def Bc(f g:aP):dc:=λO Y=>(f O Y).bind λa=>a.1.t?.bind λt=>(g O a.2).bind λb=>b.1.t?.bind λu=>if eqT 6 t u=true then some (false,b.2)else none
theorem Z0{n:Nat}(hR:di (n+1) A){a b:Expr}{pos}{f g:aP}(h:bu w A F a f)(i:bu w A F b g)(j:rE .NotEq b=false):gA w A F (.Compare a [.NotEq] [b] pos) (Bc f g):=λJ O Y x ν' Z s H=>by
 refine bJ λz G k=>aX λB l=>bJ λC m o=>aX λD p=>ca λq=>g8 ?_;intro Q E r;refine CF ((h H k).frz l _ _ λv1 I K c t=>(i (H.next c) o).frz p _ _ λL M N d v=>?_) j;have e:=(H.next c).next d;refine ne_T q e.on (λa y hd=>tM e hd) (by have:=hR.u;show A.units+(5+1)<9900;exact WY this) (Rd.mono d.le _ t) v (uk (r _ _ (c.trans d)))
noncomputable def BI(f:aP):aP:=λO Y=>(f O Y).bind λa=>a.1.adH.bind λl=>if l.isEmpty=true then some (.v (.bool true),a.2)else none
theorem Tt{n:Nat}(hR:di (n+1) A){a:Expr}{pos c}{f:aP}(p:bu w A F a f):bu w A F (.Compare a [.Eq] [.List [] c] pos) (BI f):=λJ O Y x ν' Z s H=>bJ λL G q=>aX λl r=>ca λt=>g8 λQ E v=>by
  refine Jw (p H q _ _ λv1 M N d y=>gp (H.next d) (EO (H.next d)) (by decide) _ _ λP R V g z=>?_) rfl;have m:=H.next d;have o:=m.next g;refine bG (RX.lst o.on (RX.next H.sz m y g) r) λa B C h D=>bG (RX.lst o.on z rfl) λb I K i k=>?_;obtain rfl:=n5.mp t;obtain rfl:B=[]:=D;obtain rfl:I=[]:=k;subst C K;have:=RcAt.lists (e:=λ_=>true) h i rfl (by have:=hR.u;show A.units<9900;exact M8 this) (λj h1 _=>by simp at h1);rw[sW]at this;exact this pw w E Q (v _ _ _ (d.trans g) rfl)
noncomputable def uL:List Int:=[65024,65025,65026,65027,65028,65029,6150,65030,65031,65032,65033,6155,6156,6157,8203,8204,8205,65034,65035,65036,65037,65038,65039,173,65279,8288,847]
noncomputable def sI(o:bK):List (Int×aI):=match o.data with
 |.set a _ _=>a.toList
 |_=>[]
theorem Yj(P:bX):∃ a t,(nD P).data=.set (sI (nD P)).toArray a t/\t.fits 27=true:=(iz _ _ rfl (by kernel_rfl))
theorem VV(P:bX):((sI (nD P)).length==27&&(sI (nD P)).all λe=>match e.2 with
  |.int k _=>e.1==k&&iH k==k&&uL.contains k
  |_=>false)=true:=by kernel_rfl
theorem Rx(P:bX):(uL.all λk=>(sI (nD P)).any λe=>lN k e.2)=true:=by kernel_rfl
theorem Zk(P:bX):(HF P).get? 85=some (nD P):=by kernel_rfl
noncomputable def dZ(k:Int):Bool:=uL.contains k
noncomputable def F5(f:aP):aP:=λO Y=>(f O Y).bind λa=>a.1.int?.map λk=>(.v (.bool (dZ k)),a.2)
noncomputable def n9(k:Int):Option Str:=(qp.find? λp=>p.1=k).map (·.2)
noncomputable def BW(k:Int):T:=match n9 k with
 |some x=>.str x
 |none=>.none
noncomputable def u9(f:aP):aP:=λO Y=>(f O Y).bind λa=>a.1.int?.map λk=>(.v (BW k),a.2)
theorem ET(P:bX):(HF P).get? 96=some (BS 650):=by kernel_rfl
theorem aaV:(qp.all λp=>iH p.1==p.1)=true:=by kernel_rfl
theorem D4:qp.length=650:=by kernel_rfl
theorem Gf:∀ (l:List (Int×Str)) (j:Nat),(pG j l).length=l.length:=by
 intro a;induction a with
 |nil=>
  intro _;exact rfl
 |cons b r c=>
  obtain⟨k,v⟩:=b;intro j;exact congrArg (·+1) (c (j+1))
theorem V7:∀ (l:List (Int×Str)) (j:Nat),(l.all λp=>iH p.1==p.1)=true->∀ e∈pG j l,∃ k,lN k e.key=true/\e.hash=iH k:=by
 intro b;induction b with
 |nil=>
  intro _ _ e a;cases a
 |cons c r d=>
  obtain⟨k,v⟩:=c;intro j h e a;rcases bP.mp a with rfl|a
  ·have h1:iH k=k:=dN (ee h).1;refine(aS k ?_ ?_)
   ·by_cases q:j<646
    ·rw[if_pos q];exact decide_eq_true rfl
    ·rw[if_neg q];exact decide_eq_true rfl
   ·rw[h1];by_cases q:j<646
    ·rw[if_pos q]
    ·rw[if_neg q]
  ·exact d _ (ee h).2 e a
theorem Ih(k:Int):∀ (l:List (Int×Str)) (j:Nat),∃ b,((pG j l).find? λe=>lN k e.key).map (·.val)=((l.find? λp=>p.1=k).map (·.2)).map λx=>Value.str x b
 |[],_=>⟨0,rfl⟩
 |(a,v)::r,j=>by
  refine aU (Ih k r (j+1)) λb d=>?_;show ∃ b,((List.find? _ ((if j<646 then(⟨a,.int a (364+3*j),.str v (365+3*j)⟩:cW)else⟨a,.int a (2302+2*(j-646)),.str v (2303+2*(j-646))⟩)::pG (j+1) r)).map _)=_;refine C2▸C2▸?_;by_cases q:a=k
  ·subst q;simp only[decide_true,mF];by_cases c:j<646
   ·simp only[c,if_true,lN,beq_self_eq_true,mF];exact⟨_,rfl⟩
   ·simp only[c,if_false,lN,beq_self_eq_true,mF];exact⟨_,rfl⟩
  ·have f:lN k (if j<646 then(⟨a,.int a (364+3*j),.str v (365+3*j)⟩:cW)else⟨a,.int a (2302+2*(j-646)),.str v (2303+2*(j-646))⟩).key=false:=by
    split<;>simp[lN,q]
   refine f▸?_;simp only[q,decide_false];exact⟨b,d⟩
theorem OM(H:St w F J Z O Y s):s.heap.SetOf (ik w) 85 dZ 27:=by
 refine aQ λc=>eA (Yj w.params) λi t hd f=>c ?_;have a:=VV w.params;rw[fg,c8]at a;have one:∀ e∈sI (nD w.params),∃ k d,e.2=.int k d/\e.1=k/\iH k=k/\uL.contains k=true:=λe b=>by
  have:=a.2 e b;revert this;cases q:e.2<;>intro h<;>first|(simp only[fg,beq_iff_eq]at h;exact(qD _ _ rfl h.1.1 h.1.2 h.2))|cases h
 refine(vR _ _ _ _ ⟨i6 H.md H.on (Zk _) (by decide),⟨rfl,rfl,rfl⟩,hd,(λe b=>?_),(λk=>?_),?_,?_,?_⟩)
 ·refine l8 (one e b) λk d h1 h2 h3 h4=>⟨(aS k (by rw[h1];simp[xX,lN]) ?_),by rw[h1];rfl⟩;show e.1=iH k;rw[h2,h3]
 ·constructor
  ·intro hk;have:=c8.mp (Rx w.params) k (pp.mp hk);exact aV (J9.mp this) λe b hi=>(aS e b hi)
  ·rintro ⟨e,b,hi⟩;refine aQ λc=>l8 (one e b) λg d h1 h2 h3 h4=>c ?_;rw[h1]at hi;have:g=k:=by simpa [xX,lN] using hi
   subst this;exact h4
 ·rw[eY,dN a.1];decide
 ·rw[eY,dN a.1];exact f
 ·rw[eY,dN a.1]
theorem Tm {a:Expr} {p pos:br} {f:aP} (d:F.env.kindOf (aK "b1_set")=some .globalImplicit) (e:bu w A F a f):bu w A F (.Compare a [.In] [.Name (aK "b1_set") p] pos) (F5 f):=λJ O Y x ν' Z s H=>bJ λl G g=>cb λk q=>dR λQ E h=>by
  refine Jw (e H g _ _ λv1 m n b i=>uY (H.next b) d (v:=.ref 85) rfl ?_ rfl) rfl;refine aU (j2 q i) λt j=>?_;subst j;have c:=H.next b;exact wpAny_inSet_of (knd:=ik w) (k:=k) mZ rfl (OM c) (h _ _ _ (b.trans (c.tok _)) rfl)
theorem yX(H:St w F J Z O Y s):s.heap.MapOf (ik w) 96 (findBy lN (kA.take 650).toArray):=by
 have e:kA.take 650=kA:=uB (by unfold kA;rw[Gf,D4];exact cu _);refine(dF _ _ _ ⟨i6 H.md H.on (ET _) (by decide),⟨rfl,rfl,rfl⟩,rfl,(λb a=>?_),(λk=>rfl)⟩);replace a:=e▸a;exact V7 qp 0 aaV b (List.mem_toArray.mp a)
theorem XH {a:Expr} {p apos pos:br} {f:aP} (l:F.env.kindOf (aK "b3_exceptions")=some .globalImplicit) (c:n6 (.Name (aK "b3_exceptions") p) "get" F.env (eval (.Name (aK "b3_exceptions") p) F.env)=eval (.Name (aK "b3_exceptions") p) F.env)
  (d:(apos.endLine==pos.line)=true) (i:dS a=true) (m:bu w A F a f):bu w A F (.Call (.Attribute (.Name (aK "b3_exceptions") p) (aK "get") apos) [a] [] pos) (u9 f):=λJ O Y x ν' Z s H=>bJ λz G n=>cb λk q=>dR λQ E o=>by
  have jv:[a].all dS=true:=by rw[gX,i];rfl
  refine rM (T:="dict") (id:="dict.get") c (oA jv rfl) d ad1 adh PySem.F.type_dict_get (uY H l (v:=.ref 96) rfl ?_ rfl);refine⟨(yX H).typeIs,λb q=>CY q▸(aS _ (i6 H.md H.on (ET _) (by decide)) rfl),uA (jg jv) (qz jv (gn.ae7 H (m H n) i _ _ λB C D j r=>?_))⟩;refine aV (cR.one r) λv t u=>aU (j2 q u) λI y=>?_;subst t y;have g:=H.next j;refine call_meetsIn adh (yX g).typeIs PySem.F.entry_dict_get (PySem.F.args_dict_get_2 _ _) (meets_dict_get (ik w) (k:=k) 96 mZ rfl) (aS _ (yX g) (o _ _ _ (j.trans (g.tok _)) ?_));have e:kA.take 650=kA:=uB (by unfold kA;rw[Gf,D4];exact cu _);refine aU (Ih k qp 0) λh h2=>(show findBy lN (kA.take 650).toArray k=(n9 k).map λx=>Value.str x h by rw[e];unfold findBy n9;rw[List.find?_toArray];exact h2)▸?_;unfold BW;cases n9 k with
  |none=>exact rfl
  |some x=>exact oo
noncomputable def mq(x:Str):List T:=x.cps.toList.map λc=>T.str ⟨#[c]⟩
noncomputable def Cg(f:aP):jk:=λO Y=>(f O Y).bind λa=>a.1.adK.map λx=>(iX (mq x),a.2)
theorem ab5 (M:A.handled=none) {p pos:br} {e:Expr} {f:aP} (X:F.env.kindOf (aK "enumerate")=some .globalImplicit) (N:dS e=true) (h:bu w A F e f) :
  gT w A F (.Call (.Name (aK "enumerate") p) [e] [] pos) true none (Cg f):=λJ O Y items ν' Z s H=>bJ λx G e1=>cb λy q=>dR λQ E hQ=>by
  refine gM rfl (h9 H X (v:=.type "enumerate") rfl ?_ rfl);refine kb (gn.ae7 H (h H e1) N _ _ λvs Z1 d C r1=>?_) (eG N) rfl;refine aV (cR.one r1) λv j r2=>aU (kr q r2) λP y1=>?_;subst j y1;have z:=H.next C;refine call_enumerate_str λh' R B b3 b4=>?_;have N2:=C.trans (z.grow b4 (by rw[b3];exact dI _ _));refine wpAny_pyIter_enum R ?_;have I:=C.size;have hD:∃ St:Nat->bh->Prop,Draws pw w A.in1 d.heap.objs.size [d.heap.objs.size] y.cps.size (λi v=>∃ c u,y.cps[i]?=some c/\v=.str ⟨#[c]⟩ u) St/\St 0 h':=by
   unfold strIterType at B;split at B
   ·exact(aS _ (Draws.strAscii (A:=A.in1) M d.heap.objs.size y P) B)
   ·exact(aS _ (Draws.strWide (A:=A.in1) M d.heap.objs.size y P) B)
  refine aQ λK=>aV hD λa0 D L=>?_;clear hD;refine K ?_;have WT:=WalksT.enumerateD D (d.heap.objs.size+1) (nW (pe _)) (by simp) (by simp);have k:(iX (mq y)).length=y.cps.size:=by rw[DG];unfold mq;simp
  refine w7 H N2 (It.ofT WT (λZ=>True) (λ_ _ _ _=>trivial) (iX (mq y)) k (λi V Z t g ht l=>?_) (λi h m b n=>?_)) (λb n=>?_) (λhw=>⟨⟨lE _,⟨.none,R⟩,L⟩,trivial,hw⟩) (λb o=>?_) hQ
  ·refine aV (Hk ht) λx' a j=>?_;subst j;refine aQ λK=>eA l λt' v j y3=>?_;clear l;obtain⟨c,u,hc,rfl⟩:=j;subst y3;refine K (aS _ rfl ?_);have:x'=T.str ⟨#[c]⟩:=by
    unfold mq at a;rw[fR,Array.getElem?_toList,hc]at a;exact(bw a).symm
   subst this;exact(dE _ _ ⟨rfl,⟨_,rfl⟩,(cE _ _ rfl ⟨_,rfl⟩ rfl)⟩)
  ·refine bn m λy0 r=>?_;clear m;obtain⟨old,he⟩:=y0;simp only[bP,dP,or_false]at n;rcases n with rfl|rfl
   ·exact cg he
   ·refine aU (D.live _ _ r) λ_ y=>?_;exact cg y
  ·simp only[bP,dP,or_false]at n;have:d.heap.objs.size<=b:=by rcases n with rfl|rfl<;>lia
   exact⟨bf I this,dM z this⟩
  ·simp only[bP,dP,or_false]at o;rcases o with rfl|rfl
   ·exact .inl ⟨bf I (mE _),(dM z (mE _)).2⟩
   ·exact .inl ⟨I,(dM z (cu _)).2⟩
theorem Hd{M:kJ}{b:Ctx}{p:br}{t:bA Fin}{c:List rt}{s a:aL}{e:End}(h:Runs M b p t c s e a):s.toks<=a.toks:=by
 induction h<;>(try simp only[acN]at*)<;>lia
theorem M4{M:kJ}{b:Ctx}{p:br}{s a:aL}{r:o8}(h:Returns M b p s r a):s.toks<=a.toks:=Hd h
theorem aac{M:kJ}{c:Ctx}{p:br}{g:Nat}{r:Resume}{s b:aL}{res:GenResult}:Wakes M c p g r s res b->s.toks<=b.toks:=
 Fg (λ{_ _ _ _ _ a} d y=>y▸(Hd d:(s.setGen g .running).toks<=a.toks)) (λy=>y▸cu _) (λy=>y▸cu _)
open Sem in
theorem Sb{J:Type}(M:kJ)(l:Ctx)(n:Nat)(t:bA J):∀ (Q:J->br->aL->Prop) (E:aI->br->aL->Prop) (p:br) (s:aL),n<=s.toks->wp M l t Q E p s->
  wp M l t (λa j i=>n<=i.toks/\Q a j i) (λe j i=>n<=i.toks/\E e j i) p s:=by
 induction t with
 |pure a=>intro Q E p s b h;exact⟨b,h⟩
 |raise e=>intro Q E p s b h;exact⟨b,h⟩
 |unsupported _=>intro Q E p s _ h;exact h
 |finish _=>intro Q E p s _ h;exact h
 |rule _ k d=>intro Q E p s b h;exact d () Q E p s b h
 |«at» j k d=>intro Q E p s b h;exact d () Q E j s b h
 |load a _ k d=>intro Q E p s b h;refine aV h λo v h=>?_;exact(aS o v (d o Q E p s b h))
 |update a _ f k d=>intro Q E p s b h;exact⟨h.1,d () Q E p _ b h.2⟩
 |loadIfAlive a k d=>intro Q E p s b h;exact d _ Q E p s b h
 |point _ k d=>intro Q E p s b h;exact d () Q E p s b h
 |register _ _=>intro Q E p s _ h;exact h
 |alloc o k d=>intro Q E p s b h;exact d _ Q E p _ b h
 |fresh k d=>intro Q E p s b h;exact d _ Q E p _ (uq b) h
 |ask k d=>intro Q E p s b h;exact d _ Q E p s b h
 |choose w m k d=>intro Q E p s b h;exact⟨h.1,d _ Q E p _ b h.2⟩
 |os q _ k d=>intro Q E p s b h;exact d _ Q E p _ b h
 |call c hd _ _ k d=>intro Q E p s b h;refine eA h λr i u h=>?_;exact(iz r i u (d r Q E p i (bf b (M4 u)) h))
 |handled own k d=>intro Q E p s b h;exact d _ Q E p s b h
 |genState g k d=>intro Q E p s b h;refine aV h λst hs h=>?_;exact(aS st hs (d _ Q E p s b h))
 |newGen c k d=>intro Q E p s b h;exact d _ Q E p _ b h
 |resume g r _ k d=>intro Q E p s b h;refine eA h λres i hw h=>?_;exact(iz res i hw (d res Q E p i (bf b (aac hw)) h))
 |yield _ _ _ _=>intro Q E p s _ h;exact h
 |stack k d=>intro Q E p s b h;exact d _ Q E p s b h
 |fork _ _=>intro Q E p s _ h;exact h
 |thread k d=>intro Q E p s b h;exact d _ Q E p s b h
 |await _ _ _ _ _=>intro Q E p s _ h;exact h
theorem Df{J:Type}{M:kJ}{A:bx}{s:aL}{t:bA J}{Q:J->aL->Prop}{E:aI->aL->Prop}(h:bc M A t (λa b=>s.toks<=b.toks->Q a b) E s):bc M A t Q E s:=by
 have h2:bc M A t (λa b=>s.toks<=b.toks/\(s.toks<=b.toks->Q a b)) (λe b=>s.toks<=b.toks/\E e b) s:=λd p c=>Sb M d _ t _ _ p s (cu _) (h d p c);exact iM h2 (λ_ _ x=>x.2 x.1) λ_ _ x=>x.2
noncomputable def Fh(y:Str)(c:Int)(f:aP):aP:=λO Y=>(f O Y).bind λa=>a.1.adK.bind λx=>if x.length<=1000/\0<=c/\c<=0x10FFFF/\(y==⟨#[c.toNat]⟩)=false then some (.v (.str (Txt.replace x y ⟨#[c.toNat]⟩)),a.2)else none
theorem ab0 {a o p:Expr} {y:Str} {c m:Int} {k1 k2 k3:Nat} {p1 p2 p3 p4 p5 p6 apos pos r t:br} {f g h:aP} (hx:F.env.kindOf (aK "chr")=some .globalImplicit)
  (i:n6 o "replace" F.env (eval o F.env)=eval o F.env) (j:(apos.endLine==pos.line)=true) (hf:bu w A F a f) (hg:bu w A F o g) (hh:bu w A F p h) :
  bu w A F (.IfExp (.BinOp a .Mod (.Constant (.int m) k1 p1) t) (.Call (.Attribute o (aK "replace") apos) [.Constant (.str y) k2 p2,.Call (.Name (aK "chr") p3) [.Constant (.int c) k3 p4] [] p5] [] pos) p r) (om (tV (dB .Mod f (dK (.int m)))) (Fh y c g) h):=λJ O Y x ν' Z s H=>by
 refine bJ λb a0 D hq=>?_;revert D;refine bJ λxt a1 l=>?_;refine aX λtt e3=>cb λbb e4 D=>?_;intro Q E N;cases D;revert l;refine bJ λxa G e5=>?_;refine aX λta e6=>bJ λxb a2 e7 l=>?_;cases e7;revert l;refine aX λtb e8 l=>?_;cases e8;revert l;refine cb λxr I l=>?_;cases l;revert I;refine cb λtr K I=>?_;subst I;cases e3;refine wpAny_IfExp (wpAny_isTrue_value (x9 ((hf H e5).frz e6 _ _ λv1 R z V r1=>Jv ?_)) rfl);have H1:=H.next V;refine Df (Ib (s:={z with toks:=z.toks+1}) K r1 ⟨_,rfl⟩ λv k hv hk=>?_);replace hk:z.toks+1<=k:=hk;have B:Nx w F.nt Z s R G {z with toks:=k}:=V.trans (H1.tok k);have C:=H.next B;refine truthy_T e4 (hv R) ?_;cases b with
 |false=>
  rw[if_neg nofun]at hq ⊢;exact hh C hq _ _ λv X d u L=>N v X d (B.trans u) (L.le B.size)
 |true=>
   rw[if_pos rfl]at hq ⊢;revert hq;refine bJ λy1 a3 M=>aX λxs q=>ca λhc hq=>?_;cases hq;refine rM (T:="str") (id:="str.replace") i (oA (es:=[_,_]) rfl rfl) j pu PySem.F.slot_str_replace PySem.F.type_str_replace (Df (hg C M _ _ λv3 X d u L n=>?_));replace n:k<=d.toks:=n;refine aU (kr q L) λt3 y1=>?_;subst y1;refine⟨typeIs_str _ _ _,(λ_ e=>nomatch e),uA rfl (qz rfl (lJ (wpAny_Constant_str (lJ ?_ rfl)) rfl))⟩;have H3:=(C.next u).k (d.toks+1);refine gM rfl (h9 H3 hx (v:=.builtin "chr") rfl ?_ rfl);refine Jy (lJ (Jv (n4 ?_)) rfl) rfl rfl;refine ad5 (by simp;exact QK hc) (n4 ?_);have h1:(⟨#[c.toNat]⟩:Str).length=1:=rfl;exact SC.replace (by show d.toks≠0;exact XZ hk n) (by show d.toks+1+1≠0;exact(Ne.symm (Nat.zero_ne_add_one (_+1)))) (by show d.toks≠d.toks+1+1;exact Zi) hc.2.2.2 (by refine h1▸?_;exact K9 hc) λt' k'=>N _ _ _ (B.trans (u.trans ((C.next u).tok _))) oo
structure de where
 lst:Bool
 l:aJ
 vs:List aI
def de.At(z:de)(h:bh):Prop:=if z.lst then h.IsList z.l z.vs.toArray else h.IsTuple z.l z.vs.toArray
def de.It(z:de)(h:bh)(i:aJ)(k:Nat):Prop:=if z.lst then h.IsListIter i z.l k else h.IsTupleIter i z.l k
section
variable{w:aY}{A:bx}{s:aL}{Q:aI->aL->Prop}{E:aI->aL->Prop}
theorem de.At.keep{z:de}{h a:bh}(x:z.At h)(k:∀ o,h.get? z.l=some o->a.get? z.l=some o):z.At a:=by
 unfold de.At at x ⊢;split at x
 ·rename_i e;refine if_pos e▸?_;exact oa x k
 ·rename_i e;refine if_neg e▸?_;exact aV x λo b r=>aS o (k o b) r
theorem de.It.keep{z:de}{h b:bh}{i:aJ}{n:Nat}(x:z.It h i n)(k:∀ o,h.get? i=some o->b.get? i=some o):z.It b i n:=by
 unfold de.It at x ⊢;split at x
 ·rename_i e;refine if_pos e▸?_;exact aV x λo a r=>aS o (k o a) r
 ·rename_i e;refine if_neg e▸?_;exact aV x λo a r=>aS o (k o a) r
theorem de.It.lt{z:de}{h:bh}{i:aJ}{n:Nat}(x:z.It h i n):i<h.objs.size:=by
 unfold de.It at x;split at x<;>exact aV x λo a _=>cg a
theorem de.At.lt{z:de}{h:bh}(x:z.At h):z.l<h.objs.size:=by
 unfold de.At at x;split at x<;>exact aV x λo a _=>cg a
theorem abS{a t:aJ}{i:Nat}{f:Array aI}{x:aI}(hit:s.heap.IsTupleIter a t i)(g:s.heap.IsTuple t f)(h:f[i]?=some x)
  (j:∀ c,c.IsTupleIter a t (i+1)->gZ a s.heap c->Q x {s with heap:=c}):bc (model pw w) A (pv (.ref a)) Q E s:=by
 refine aQ λk=>eo (id hit) λo b hc hd=>lr g λl d _ n e=>k ?_;have hT:=hit.typeIs;unfold pv;refine ba (uy (name:=aK "__next__") hT C3 (rK C3 hT adi ?_ (adj _)));show bc _ _ (field (.ref a) 0 >>= _) _ _ s;refine ba (jw b hd (x:=.ref t) rfl ?_);show bc _ _ (if (rQ t==yq)=true then _ else _) _ _ s;refine(if_neg (show ¬((rQ t==yq)=true)from o9))▸?_;show bc _ _ (field (.ref a) 1 >>= _) _ _ s;refine ba (jw b hd (x:=.int i 0) rfl ?_);show bc _ _ (seqItems? (.ref t) >>= _) _ _ s;refine ba (uD d e ?_);simp only[mM,h];refine ba (wpAny_setField b hd (by simp) (cm (aS x rfl (cm (j _ ?_ (uo ..))))));exact(cI _ (pa _ b (Obj.isFreed_of_fields (adk hd _))) ((Obj.cls_mapFields ..).trans hc) (by rw[adk hd];simp[gY]))
theorem next_tuple_end{b t:aJ}{i:Nat}{h:Array aI}(j:A.handled=none)(hit:s.heap.IsTupleIter b t i)(k:s.heap.IsTuple t h)(l:h[i]?=none)
  (p:∀ c e,ur b s.heap c->(∃ o,c.get? e=some o/\o.cls=.type "StopIteration")->E (.ref e) {s with heap:=c}):bc (model pw w) A (pv (.ref b)) Q E s:=by
 refine aQ λq=>eo (id hit) λo d hc hd=>lr k λr f _ n g=>q ?_;have hT:=hit.typeIs;unfold pv;refine ba (uy (name:=aK "__next__") hT C3 (rK C3 hT adi ?_ (adj _)));show bc _ _ (field (.ref b) 0 >>= _) _ _ s;refine ba (jw d hd (x:=.ref t) rfl ?_);show bc _ _ (if (rQ t==yq)=true then _ else _) _ _ s;refine(if_neg (show ¬((rQ t==yq)=true)from o9))▸?_;show bc _ _ (field (.ref b) 1 >>= _) _ _ s;refine ba (jw d hd (x:=.int i 0) rfl ?_);show bc _ _ (seqItems? (.ref t) >>= _) _ _ s;refine ba (uD f g ?_);simp only[mM,l];refine ba (C1 (ba (wpAny_setField d hd (by simp) ?_)));show bc _ _ (newExc (.type "StopIteration") [] >>= _) _ _ _;refine ba ?_;simp only[newExc,newTuple];refine ba (uC ?_ (by size_fits));refine ba (m:=firstArgMember _ _) (J8 (a:=yq) (by first|rfl|(simp only[firstArgMember];rfl)) (uC ?_ (by size_fits)))
 delta raiseNew
 exact ba (wpAny_handled ((show A.in1.handled=none from j)▸(ba (cm (wpAny_throw (p _ _ (((uo ..).extBut.push _).push _) (aS _ (dx _ rfl) rfl)))))))
theorem WF{z:de}{b:aJ}{k:Nat}{x:aI}(hit:z.It s.heap b k)(a:z.At s.heap)(d:z.vs[k]?=some x)(f:∀ c,z.It c b (k+1)->gZ b s.heap c->Q x {s with heap:=c}):
  bc (model pw w) A (pv (.ref b)) Q E s:=by
 unfold de.It de.At at*;cases e:z.lst with
 |true=>simp only[e,if_true]at*;exact wpAny_nextOf_list_item hit a (by simpa using d) f
 |false=>simp only[e,jc,if_false]at*;exact abS hit a (by simpa using d) f
theorem Rr (d:A.handled=none) {z:de} {b:aJ} {k:Nat} (hit:z.It s.heap b k) (a:z.At s.heap) (f:z.vs[k]?=none) (g:∀ c e,ur b s.heap c->(∃ o,c.get? e=some o/\o.cls=.type "StopIteration")->E (.ref e) {s with heap:=c}) :
  bc (model pw w) A (pv (.ref b)) Q E s:=by
 unfold de.It de.At at*;cases e:z.lst with
 |true=>simp only[e,if_true]at*;exact wpAny_nextOf_list_end d hit a (by simpa using f) g
 |false=>simp only[e,jc,if_false]at*;exact next_tuple_end d hit a (by simpa using f) g
end
structure pN (n:Nat) (src:Nat->de) (it:Nat->aJ) (z TI TO:aJ):Prop where
 TIz:TI≠z
 TOz:TO≠z
 TITO:TI≠TO
 itz:∀ j,j<n->it j≠z
 itTI:∀ j,j<n->it j≠TI
 itTO:∀ j,j<n->it j≠TO
 inj:∀ j k,j<n->k<n->it j=it k->j=k
 lz:∀ j,j<n->(src j).l≠z
 lTO:∀ j,j<n->(src j).l≠TO
 lit:∀ j k,j<n->k<n->(src j).l≠it k
noncomputable def refsOf(a:Nat->aJ)(n:Nat):List aI:=(aO n).map λj=>rQ (a j)
def jX(h:bh)(T:aJ)(a:List aI):Prop:=h.get? T=some {cls:=.type "tuple",data:=.seq a.toArray}
structure lA (n:Nat) (src:Nat->de) (it:Nat->aJ) (z TI TO:aJ) (h:bh) (k:Nat->Nat) (f0:aI) (kept:List aI):Prop where
 zip:rR h z TI TO f0
 ti:jX h TI (refsOf it n)
 to:jX h TO kept
 len:kept.length=n
 its:∀ j,j<n->(src j).It h (it j) (k j)
 ats:∀ j,j<n->(src j).At h
section
variable{w:aY}{A:bx}{s:aL}{E:aI->aL->Prop}{n:Nat}{src:Nat->de}{it:Nat->aJ}{z TI TO:aJ}
theorem No{J:Type}{c:Prop}{d:Decidable c}{a b:bA J}{Q:J->aL->Prop}(h:¬c)(k:bc (model pw w) A b Q E s):bc (model pw w) A (@ite _ c d a b) Q E s:=(if_neg h).symm▸k
theorem ID{J:Type}{c:Prop}{d:Decidable c}{a b:bA J}{Q:J->aL->Prop}(h:c)(k:bc (model pw w) A a Q E s):bc (model pw w) A (@ite _ c d a b) Q E s:=(if_pos h).symm▸k
theorem AB{j:Nat}(h:j<n):((refsOf it n).zipIdx).drop j=(.ref (it j),j)::((refsOf it n).zipIdx).drop (j+1):=by
 have a:j<((refsOf it n).zipIdx).length:=by unfold refsOf;simp[h]
 rw[JB a];congr 1;rw[List.getElem_zipIdx];simp[refsOf]
theorem Zr{T:aJ}{a:List aI}{k:Nat}{x:aI}{Q:Unit->aL->Prop}(c:a.length<=1000)(hT:jX s.heap T a)(h:∀ b,jX b T (a.set k x)->gZ T s.heap b->Q () {s with heap:=b}):
  bc (model pw w) A (updateSeq T (·.setIfInBounds k x)) Q E s:=by
 refine wpAny_updateSeq hT rfl (h _ ?_ (uo ..)) (by rw[eY];exact bf c (by decide)) (by rw[Array.size_setIfInBounds,eY];exact bf c (by decide));unfold jX;rw[pa _ hT rfl];simp[pt]
structure qh (n:Nat) (src:Nat->de) (it:Nat->aJ) (z TI TO:aJ) (k:Nat) (vals:List aI) (h0 h:bh) (j:Nat):Prop where
 zip:rR h z TI TO .ellipsis
 ti:jX h TI (refsOf it n)
 kp:∃ kp:List aI,kp.length=n/\jX h TO kp/\∀ i,i<j->kp[i]?=vals[i]?
 its:∀ i,i<n->(src i).It h (it i) (if i<j then k+1 else k)
 ats:∀ i,i<n->(src i).At h
 sz:h.objs.size=h0.objs.size
 keep:∀ c o,c≠z->c≠TO->(∀ j,j<n->c≠it j)->h0.get? c=some o->h.get? c=some o
theorem qh.turn{k j:Nat}{a kp:List aI}{h0 h g d:bh}(D:pN n src it z TI TO)(t:qh n src it z TI TO k a h0 h j)(f:j<n)(x:j<a.length)(u:kp.length=n)(y:∀ i,i<j->kp[i]?=a[i]?)
  (r:(src j).It g (it j) (k+1)) (l:gZ (it j) h g) (p:jX d TO (kp.set j a[j])) (b:gZ TO g d):qh n src it z TI TO k a h0 d (j+1):=by
 have step:∀ c o,c≠it j->c≠TO->h.get? c=some o->d.get? c=some o:=λc o c1 v e=>b.extBut _ _ v (l.extBut _ _ c1 e);refine⟨step _ _ (D.itz j f).symm D.TOz.symm t.zip,step _ _ (D.itTI j f).symm D.TITO t.ti,(cI (kp.set j a[j]) ((fH).trans u) p (λi hi=>?_)),λi hi=>?_,λi hi=>(t.ats i hi).keep λo e=>step _ _ (D.lit i j hi f) (D.lTO i hi) e,b.1.trans (l.1.trans t.sz),λc o c1 v B e=>step c o (B j f) v (t.keep c o c1 v B e)⟩
 ·by_cases m:i=j
  ·subst m;rw[fT (by rw[u];exact f),gv x]
  ·rw[ed (λq=>m q.symm)];exact y i (by lia)
 ·by_cases m:i=j
  ·subst m;rw[if_pos (pe _)];exact r.keep λo e=>b.extBut _ _ (D.itTO _ hi) e
  ·have e:(if i<j+1 then k+1 else k)=if i<j then k+1 else k:=by
    by_cases h:i<j
    ·rw[if_pos h,if_pos (rN h)]
    ·rw[if_neg h,if_neg (by lia)]
   rw[e];exact(t.its i hi).keep λo e=>step _ _ (λq=>m (D.inj i j hi f q)) (D.itTO i hi) e
theorem qh.fin{k:Nat}{b:List aI}{h0 h g a:bh}(D:pN n src it z TI TO)(p:qh n src it z TI TO k b h0 h n)(q:jX h TO b)(r:b.length=n)
  (d:gZ z (h.push {cls:=.type "tuple",data:=.seq b.toArray}) g) (f:gZ z g a) (m:rR a z TI TO (gY h.objs.size)) :
  lA n src it z TI TO a (λ_=>k+1) (gY h0.objs.size) b/\jX a h0.objs.size b/\a.objs.size=h0.objs.size+1/\(∀ c o,c≠z->c≠TO->(∀ j,j<n->c≠it j)->h0.get? c=some o->a.get? c=some o):=by
 have l:h.objs.size≠z:=nW (cg p.zip);have up:∀ c o,c≠z->h.get? c=some o->a.get? c=some o:=λc o c1 e=>f.extBut _ _ c1 (d.extBut _ _ c1 (cA _ e));rw[<- p.sz];refine⟨⟨m,up _ _ D.TIz p.ti,up _ _ D.TOz q,r,λi hi=>?_,λi hi=>(p.ats i hi).keep λo e=>up _ _ (D.lz i hi) e⟩,f.extBut _ _ l (d.extBut _ _ l (dx h rfl)),?_,λc o c1 t u e=>up _ _ c1 (p.keep c o c1 t u e)⟩
 ·have:=p.its i hi;rw[if_pos hi]at this;exact this.keep λo e=>up _ _ (D.itz i hi) e
 ·rw[f.1,d.1,eQ]
theorem YY(O:n<=1000)(D:pN n src it z TI TO){k:Nat}{f C:List aI}{Q:aI->aL->Prop}(hn:0<n)(hv:∀ j,j<n->(src j).vs[k]?=f[j]?)(P:f.length=n)(S:lA n src it z TI TO s.heap (λ_=>k) .none C)
  (hQ:∀ p,lA n src it z TI TO p (λ_=>k+1) (gY s.heap.objs.size) f->jX p s.heap.objs.size f->p.objs.size=s.heap.objs.size+1->
   (∀ c o,c≠z->c≠TO->(∀ j,j<n->c≠it j)->s.heap.get? c=some o->p.get? c=some o)->Q (.ref s.heap.objs.size) {s with heap:=p}) :
  bc (model pw w) A (Builtin.«zip.__next__» ⟨[.ref z],[]⟩) (λfin R=>∃ v,fin=.done (.ret v)/\Q v R) E s:=by
 refine ba (m:=field (.ref z) 2) (jw S.zip rfl (x:=.bool false) rfl (ba (m:=field (.ref z) 3) (jw S.zip rfl (x:=.ref TI) rfl (ba (uD S.ti rfl ?_)))));have Z:¬((refsOf it n).toArray.isEmpty=true):=by
  unfold refsOf;simp;lia
 refine No Z (ba (m:=C4 (.ref z)) ?_);unfold C4;refine ba (jw S.zip rfl (x:=.none) rfl (cm (ID rfl (ba (C1 (ba (jw S.zip rfl (x:=.ref TO) rfl (ba (yr S.zip (by simp) λF l d=>?_)))))))));replace l:rR F z TI TO .ellipsis:=l;refine ba (wpAny_forIn_list _ (λrest b R=>∃ j p,j<=n/\rest=((refsOf it n).zipIdx).drop j/\b=(none,())/\R={s with heap:=p}/\qh n src it z TI TO k f s.heap p j) _ ?_ ?_ _ _ ?_)
 ·intro x rest b R hI;refine nN hI λj p hj a T U u=>?_;subst T U;have g:j<n:=by
   rcases ux j n with h|h
   ·exact h
   ·rw[List.drop_of_length_le (by unfold refsOf;simpa using h)]at a;exact nomatch a
  rw[AB g]at a;refine bn (List.cons.inj a) λT U=>?_;subst T U;have V:j<f.length:=by rw[P];exact g
  have hit:=u.its j g;rw[if_neg (cQ j)]at hit;refine eo u.kp λkp r y G=>ba (CO (ba (m:=pv (.ref (it j))) (WF (s:={s with heap:=p}) hit (u.ats j g) ((hv j g).trans (gv V)) λW H t=>cm ?_)));have q:jX W TO kp:=t.extBut _ _ (D.itTO j g).symm y;exact ba (uD q rfl (ba (Zr (by rw[r];exact O) q λX B I=>ba (wpAny_letGo (cm (qf (j+1) X g rfl rfl rfl (u.turn D g V r G H t B I)))))))
 ·intro b R hI;refine nN hI λj p hj a T U u=>?_;subst T U;obtain rfl:j=n:=by
   rcases ux j n with h|h
   ·rw[AB h]at a;exact nomatch a
   ·exact Jz hj h
  refine eo u.kp λkp r y G=>?_;obtain rfl:kp=f:=adl λi=>by
   rcases ux i j with h|h
   ·exact G i h
   ·rw[lK (by rw[r];exact h),lK (by rw[P];exact h)]
  refine ba (uD y rfl (ba (wpAny_newTuple ?_ (by simp;exact bf (show kp.length<=1000 by rw[r];exact O) (by decide)))));refine ba (m:=adm (.ref z) (.ref p.objs.size)) ?_;unfold adm;have J:rR (p.push {cls:=.type "tuple",data:=.seq kp.toArray}) z TI TO .ellipsis:=cA _ u.zip;refine ba (yr J (by simp) λa0 K L=>yr K (by simp) λY M N=>cm (aS _ rfl (fW (u.fin D y r L N M) λa1 a2 a3 a4=>?_)));show Q (.ref p.objs.size) _;rw[u.sz];exact hQ Y a1 a2 a3 a4
 ·exact⟨0,F,lE _,rfl,rfl,rfl,l,d.extBut _ _ D.TIz S.ti,(cI C S.len (d.extBut _ _ D.TOz S.to) (λi hi=>absurd hi (Nat.not_lt_zero _))),λi hi=>by
   rw[if_neg (Nat.not_lt_zero _)];exact(S.its i hi).keep λo e=>d.extBut _ _ (D.itz i hi) e,λi hi=>(S.ats i hi).keep λo e=>d.extBut _ _ (D.lz i hi) e,d.1,λc o c1 _ _ e=>d.extBut _ _ c1 e⟩
theorem OH(B:A.handled=none)(D:pN n src it z TI TO){k:Nat}{m:List aI}{Q:Fin->aL->Prop}(h:0<n)(C:(src 0).vs[k]?=none)(S:lA n src it z TI TO s.heap (λ_=>k) .none m)
  (F:∀ t e,(∀ c o,c≠z->c≠TO->(∀ j,j<n->c≠it j)->s.heap.get? c=some o->t.get? c=some o)->(∃ o,t.get? e=some o/\o.cls=.type "StopIteration")->E (.ref e) {s with heap:=t}) :
  bc (model pw w) A (Builtin.«zip.__next__» ⟨[.ref z],[]⟩) Q E s:=by
 show bc _ _ (field (.ref z) 2 >>= _) _ _ _;refine ba (jw S.zip rfl (x:=.bool false) rfl ?_);show bc _ _ (field (.ref z) 3 >>= _) _ _ _;refine ba (jw S.zip rfl (x:=.ref TI) rfl (ba (uD S.ti rfl ?_)));have u:¬((refsOf it n).toArray.isEmpty=true):=by
  unfold refsOf;simp;exact(Nat.ne_zero_of_lt h)
 show bc _ _ (if (refsOf it n).toArray.isEmpty=true then _ else _) _ _ _;rw[if_neg u];show bc _ _ (C4 (.ref z) >>= _) _ _ _;refine ba ?_;unfold C4;refine ba (jw S.zip rfl (x:=.none) rfl (cm ?_));refine ID rfl ?_;refine ba (C1 ?_);refine ba (jw S.zip rfl (x:=.ref TO) rfl (ba (yr S.zip (by simp) λi a b=>?_)));replace a:rR i z TI TO .ellipsis:=a;refine ba ?_;have hd:(refsOf it n).zipIdx=(.ref (it 0),0)::((refsOf it n).zipIdx).drop 1:=by simpa using AB (it:=it) h
 rw[hd,ry];refine ba (ba (CO ?_));show bc _ _ (pv (.ref (it 0)) >>= _) _ _ _;refine ba (Rr (s:={s with heap:=i}) B ((S.its 0 h).keep λo e=>b.extBut _ _ (D.itz 0 h) e) ((S.ats 0 h).keep λo e=>b.extBut _ _ (D.lz 0 h) e) C λp e d y=>?_);refine aQ λG=>aV y λH l q=>?_;clear y;refine G ?_;have f:rR p z TI TO .ellipsis:=d _ _ (D.itz 0 h).symm a;have v:e≠z:=λx=>by subst x;rw[f]at l;cases l;simp at q
 exact yr f (by simp) λr _ g=>F r e (λc o c1 J I x=>g.extBut _ _ c1 (d _ _ (I 0 h) (b.extBut _ _ c1 x))) (aS H (g.extBut _ _ v l) q)
theorem WalksT.aeh(L:A.handled=none)(v:0<n)(y:n<=1000)(D:pN n src it z TI TO)(m:Nat)(H:∀ j,j<n->(src j).vs.length=m):
  WalksT pw w A z (z::TI::TO::((aO n).map it++(aO n).map λj=>(src j).l)) (z::TO::(aO n).map it) m
   (λi f=>∃ l:List aI,f=l.toArray/\l.length=n/\∀ j,j<n->(src j).vs[i]?=l[j]?)
   (λi h=>∃ a,lA n src it z TI TO h (λ_=>i) .none a)
   (λi T h=>(∃ a,lA n src it z TI TO h (λ_=>i+1) (gY T) a)/\T≠z/\T≠TO/\∀ j,j<n->T≠it j) where
 sub:=λc hc=>by
  simp only[bP,fQ]at hc ⊢;rcases hc with rfl|rfl|hc
  ·exact .inl rfl
  ·exact .inr (.inr (.inl rfl))
  ·exact .inr (.inr (.inr (.inl hc)))
 frame:=λi h r ⟨a,S⟩ hk=>by
  have B:∀ j,j<n->it j∈(z::TI::TO::((aO n).map it++(aO n).map λj=>(src j).l)):=λj d=>by
   simp only[bP,fQ,eh,eu];exact .inr (.inr (.inr (.inl (aS j d rfl))))
  have M:∀ j,j<n->(src j).l∈(z::TI::TO::((aO n).map it++(aO n).map λj=>(src j).l)):=λj d=>by
   simp only[bP,fQ,eh,eu];exact .inr (.inr (.inr (.inr (aS j d rfl))))
  exact⟨a,hk z (by simp) _ S.zip,hk TI (by simp) _ S.ti,hk TO (by simp) _ S.to,S.len,λj d=>(S.its j d).keep λo e=>hk _ (B j d) o e,λj d=>(S.ats j d).keep λo e=>hk _ (M j d) o e⟩
 item:=λi s Q E hi ⟨a,S⟩ q=>by
  have hT:s.TypeIs (.ref z) "zip":=(aS _ S.zip rfl);obtain⟨f,t,I⟩:∃ f:List aI,f.length=n/\∀ j,j<n->(src j).vs[i]?=f[j]?:=by
   refine(aS ((aO n).map λj=>((src j).vs[i]?).getD .none) (by simp) (λj d=>?_));rw[fR,rJ d];have:i<(src j).vs.length:=by rw[H j d];exact hi
   rw[mF,gv this];rfl
  unfold mJ;refine ba (wpAny_attempt (uy (name:=aK "__next__") hT C5 (rK C5 hT adn
   (YY y D v I t S λr N C O hk=>cm ?_) (ado _))))
  have lt:∀ {c o},s.heap.get? c=some o->s.heap.objs.size≠c:=λe=>nW (cg e);exact q s.heap.objs.size f.toArray r s.toks (cI f rfl t I) (cu _) (cI _ C rfl ⟨_,rfl⟩) ⟨⟨_,N⟩,lt S.zip,lt S.to,λj d=>nW (S.its j d).lt⟩
   λc o hc e=>hk c o (λx=>hc (by simp[x])) (λx=>hc (by simp[x])) (λj d x=>hc (by rw[x];exact .tail _ (.tail _ (eh.mpr (aS j (by simpa using d) rfl))))) e
 go:=λJ k pos i T s Q E g q=>by
  refine aQ λu=>bn g λP _=>?_;clear g;obtain⟨a,S⟩:=P;refine u ?_;refine wpAny_letOwnedTupleGo_zip S.zip λr G p=>q r ⟨a,G,p.extBut _ _ D.TIz S.ti,p.extBut _ _ D.TOz S.to,S.len,λj d=>(S.its j d).keep λo e=>p.extBut _ _ (D.itz j d) e,λj d=>(S.ats j d).keep λo e=>p.extBut _ _ (D.lz j d) e⟩
   λc o hc e=>p.extBut _ _ (λx=>hc (by simp[x])) e
 apart:=λi T h g hT=>by
  refine aQ λu=>fW g λ_ R U V=>?_;clear g;refine u ?_;simp only[bP,eh,eu]at hT;rcases hT with rfl|rfl|⟨j,d,rfl⟩
  ·exact R rfl
  ·exact U rfl
  ·exact V j d rfl
 done:=λs Q E ⟨a,S⟩ q=>by
  have hT:s.TypeIs (.ref z) "zip":=(aS _ S.zip rfl);unfold mJ;refine ba (wpAny_attempt (uy (name:=aK "__next__") hT C5 (rK C5 hT adn
   (OH (A:=A.in1) L D v (lK (by rw[H 0 v];exact cu _)) S λr e hk K=>?_) (ado _))))
  refine aQ λu=>aV K λo W hc=>?_;clear K;exact u (ba (wpAny_isInstance (T:="StopIteration") (b:=true) (aS o W hc) isSubtype_stop (cm (q r s.toks λc o hc e=>hk c o (λx=>hc (by simp[x])) (λx=>hc (by simp[x])) (λj d x=>hc (by rw[x];exact .tail _ (.tail _ (eh.mpr (aS j (by simpa using d) rfl))))) e))))
 self:=λi s Q E ⟨a,S⟩ q=>CV S.zip q
end
noncomputable abbrev hZ(z:de):bK:={cls:=.type (if z.lst then "list_iterator" else "tuple_iterator"),data:=.fields #[.ref z.l,.int 0 0]}
section
variable{w:aY}{A:bx}{s:aL}{E:aI->aL->Prop}
theorem sX{z:de}{Q:aI->aL->Prop}(a:z.At s.heap)(b:Q (.ref s.heap.objs.size) {s with heap:=s.heap.push (hZ z)}):bc (model pw w) A (jP (.ref z.l)) Q E s:=by
 unfold de.At at a;unfold hZ at b;cases e:z.lst with
 |true=>simp only[e,if_true]at a b;exact JD a b
 |false=>simp only[e,jc,if_false]at a b;exact wpAny_pyIter_tuple a b
theorem tj{z:de}{h:bh}{i:aJ}(e:h.get? i=some (hZ z)):z.It h i 0:=by
 unfold de.It;split
 ·rename_i q;exact(cI _ e (by simp[q]) rfl)
 ·rename_i q;exact(cI _ e (by simp[q]) rfl)
theorem Qp(a b c:aI):checkTypeCall "zip" ⟨[a,b,c],[]⟩=pure ():=by kernel_rfl
theorem O5(a b c:aI):checkBuiltinCall "zip.__new__" ⟨[.type "zip",a,b,c],[]⟩=pure ():=by kernel_rfl
theorem Yc(a b c d:aI):argsOk "object.__init__" ⟨[a,b,c,d],[]⟩:=by
 unfold argsOk;rw[signature?_of (id:="object.__init__") (n:=['_','_','t','i','n','i','_','_']) (o:=['t','c','e','j','b','o']) (by kernel_rfl) PySem.F.owner_object];kernel_rfl
noncomputable def sj(a b:de):Nat->de
 |0=>a
 |_=>b
noncomputable def An(a b c:de):Nat->de
 |0=>a
 |1=>b
 |_=>c
noncomputable def kO(n:Nat)(j:Nat):Nat:=n+j
theorem ES{n:Nat}{c:Nat->de}{b:Nat}(h:∀ j,j<n->(c j).l<b):pN n c (kO b) (b+n+2) (b+n) (b+n+1):=by
 refine⟨?_,?_,?_,?_,?_,?_,?_,?_,?_,?_⟩
 ·exact dW (by lia)
 ·exact dW (by lia)
 ·exact dW (by lia)
 ·intro j a;exact dW (by unfold kO;lia)
 ·intro j a;exact dW (by unfold kO;exact(Nat.add_lt_add_left a _))
 ·intro j a;exact dW (by unfold kO;lia)
 ·intro j k _ _ q;exact Nat.add_left_cancel q
 ·intro j a;exact dW (ck (h j a) (by lia))
 ·intro j a;exact dW (ck (h j a) (by lia))
 ·intro j k a _;exact dW (ck (h j a) (dI _ _))
set_option maxHeartbeats 2000000 in
theorem Vm{a b c:de}{Q:aI->aL->Prop}(v:a.At s.heap)(y:b.At s.heap)(hc:c.At s.heap)
  (h:∀ f,lA 3 (An a b c) (kO s.heap.objs.size) (s.heap.objs.size+3+2) (s.heap.objs.size+3) (s.heap.objs.size+3+1) f (λ_=>0) .none [.none,.none,.none]->f.objs.size=s.heap.objs.size+6->
   (∀ c o,s.heap.get? c=some o->f.get? c=some o)->Q (.ref (s.heap.objs.size+3+2)) {s with heap:=f}) :
  bc (model pw w) A (call (.type "zip") [.ref a.l,.ref b.l,.ref c.l]) Q E s:=by
 let h1:=s.heap.push (hZ a);let h2:=h1.push (hZ b);let h3:=h2.push (hZ c);let h4:=h3.push {cls:=.type "tuple",data:=.seq #[.ref s.heap.objs.size,.ref h1.objs.size,.ref h2.objs.size]};let h5:=h4.push {cls:=.type "tuple",data:=.seq #[.none,.none,.none]};let h6:=h5.push {cls:=.type "zip",data:=.fields #[.none,.bool false,.bool false,.ref h3.objs.size,.ref h4.objs.size]};refine J2 (s:=s) adp rfl (Qp _ _ _) (O5 _ _ _) (λobj=>Yc obj _ _ _) adq
  (S:=λD R i=>i.heap=s.heap/\R (.ok (.ret (.ref h5.objs.size))) {i with heap:=h6}) (.of_wp λD R i z=>?_) ⟨rfl,?_⟩
 ·obtain⟨G,g,d,m,os⟩:=i;refine bn z λhs hR=>?_;clear z;replace hs:G=s.heap:=hs;subst hs;have B:=sub_zip;have p1:b.At (yt ⟨s.heap.push (hZ a),g,d,m,os⟩):=y.keep λo e=>cA _ e;have p2:c.At (yt ⟨(s.heap.push (hZ a)).push (hZ b),g,d,m,os⟩):=hc.keep λo e=>cA _ (cA _ e);have p0:a.At (yt ⟨s.heap,g,d,m,os⟩):=v
  wp_walk using sX p0,sX p1,sX p2
  exact(aS _ rfl hR)
 ·have n:h1.objs.size=s.heap.objs.size+1:=eQ ..;have p:h2.objs.size=s.heap.objs.size+2:=by rw[eQ,n]
  have q:h3.objs.size=s.heap.objs.size+3:=by rw[eQ,p]
  have r:h4.objs.size=s.heap.objs.size+4:=by rw[eQ,q]
  have k:h5.objs.size=s.heap.objs.size+5:=by rw[eQ,r]
  have H:h6.objs.size=s.heap.objs.size+6:=by rw[eQ,k]
  have t:h6.get? h5.objs.size=some _:=dx _ rfl;have C:h6.get? h4.objs.size=some _:=cA _ (dx _ rfl);have g4:h6.get? h3.objs.size=some _:=cA _ (cA _ (dx _ rfl));have g3:h6.get? h2.objs.size=some (hZ c):=cA _ (cA _ (cA _ (dx _ rfl)));have g2:h6.get? h1.objs.size=some (hZ b):=cA _ (cA _ (cA _ (cA _ (dx _ rfl))));have g1:h6.get? s.heap.objs.size=some (hZ a):=cA _ (cA _ (cA _ (cA _ (cA _ (dx _ rfl)))));have up:∀ c o,s.heap.get? c=some o->h6.get? c=some o:=λc o x=>cA _ (cA _ (cA _ (cA _ (cA _ (cA _ x)))));rw[q,r,k]at t;rw[n,p,q]at g4;rw[r]at C;rw[p]at g3;rw[n]at g2;refine⟨(aS _ (by rw[k];exact t) rfl),?_⟩;rw[k];refine h h6 ⟨t,g4,C,rfl,λj u=>?_,λj u=>?_⟩ H up
  ·match j,u with
   |0,_=>exact tj g1
   |1,_=>exact tj g2
   |2,_=>exact tj g3
  ·match j,u with
   |0,_=>exact v.keep λo e=>up _ o e
   |1,_=>exact y.keep λo e=>up _ o e
   |2,_=>exact hc.keep λo e=>up _ o e
end
noncomputable def pH(l m r:List T):List T:=(l.zip (m.zip r)).map λp=>T.tup [p.1,p.2.1,p.2.2]
noncomputable def AR(f g h:aP):jk:=λO Y=>(f O Y).bind λa=>(g O a.2).bind λb=>(h O b.2).bind λc=>if b.1.ow=none/\c.1.ow=none then a.1.adJ.bind λl=>b.1.adH.bind λm=>c.1.adH.bind λr=>
 if m.length=l.length/\r.length=l.length then some (pH l m r,c.2)else none else none
theorem Mn{l m r:List T}{i:Nat}{t:T}(h:(pH l m r)[i]?=some t):∃ a b c,l[i]?=some a/\m[i]?=some b/\r[i]?=some c/\t=T.tup [a,b,c]:=
 aV (yc.mp (fR.symm.trans h)) λp d e=>bn (CR.mp d) λh1 h2=>bn (CR.mp h2) λh3 h4=>(fw _ _ _ h1 h3 h4 e.symm)
theorem Mo{l m r:List T}(h1:m.length=l.length)(h2:r.length=l.length):(pH l m r).length=l.length:=by
 unfold pH;rw[dm,adr,adr,h1,h2,Nat.min_self,Nat.min_self]
theorem zt{n:Nat}{a:Nat->de}{e:Nat->aJ}{z f g:aJ}{h:bh}{k:Nat->Nat}{l:aI}{c:List aI}(S:lA n a e z f g h k l c):
  ∀ b∈(z::f::g::((aO n).map e++(aO n).map λj=>(a j).l)),b<h.objs.size:=λb i=>by
 simp only[bP,fQ,eh,eu]at i;rcases i with rfl|rfl|rfl|⟨j,d,rfl⟩|⟨j,d,rfl⟩
 ·exact cg S.zip
 ·exact cg S.ti
 ·exact cg S.to
 ·exact(S.its j d).lt
 ·exact(S.ats j d).lt
theorem U6 (hh:A.handled=none) {p pos:br} {e1 e2 e3:Expr} {f g h:aP} (hx:F.env.kindOf (aK "zip")=some .globalImplicit) (n:aN w A F [e1,e2,e3] [f,g,h]) :
  gT w A F (.Call (.Name (aK "zip") p) [e1,e2,e3] [] pos) true none (AR f g h):=λJ O Y items ν' Z s H=>bJ λx G q1=>bJ λy ah q2=>bJ λx3 R q3=>ca λo=>aX λl V=>aX λm q5=>aX λr q6=>ca λa=>g8 λQ E hQ=>by
 have hp:=ee n.plain;have hd:eR [f,g,h] O Y=some ([x,y,x3],R):=lm q1 (lm q2 (lm q3 rfl));refine gM rfl (h9 H hx (v:=.type "zip") rfl ?_ rfl);refine kb (n.as H hd _ _ λvs Z1 d e r1=>?_) (eG hp.1) (jg hp.2);refine aQ λq=>?_;have k:=H.next e;refine bG r1 λv1 vr X r2 rr=>bG (cR.two rr) λv2 v3 y6 r3 r4=>bG (RX.tup k.on r2 V) λa1 u z1 a0 z=>bG (RX.lst k.on r3 q5) λa2 B z2 a4 C=>bG (RX.lst k.on r4 q6) λa3 D z3 a5 I=>q ?_;clear q rr;subst X y6 z1 z2 z3;let c1:de:=⟨false,a1,u⟩;let c2:de:=⟨true,a2,B⟩;let c3:de:=⟨true,a3,D⟩;have t1:c1.At d.heap:=a0;have t2:c2.At d.heap:=a4;have t3:c3.At d.heap:=a5;refine Vm t1 t2 t3 λh' b1 b2 b3=>?_;have N2:=e.trans (k.grow b3 (by rw[b2];exact dI _ _));refine CV b1.zip ?_;have sz:=e.size;have hl:∀ j,j<3->(An c1 c2 c3 j).l<d.heap.objs.size:=zz t1.lt t2.lt t3.lt;have hm:∀ j,j<3->(An c1 c2 c3 j).vs.length=l.length:=zz (bm.length z) ((bm.length C).trans a.1) ((bm.length I).trans a.2);have WT:=WalksT.aeh (w:=w) (A:=A) hh (by decide) (by decide) (ES hl) l.length hm;refine w7 H N2 (It.ofT WT (λZ=>bm w Z l u/\bm w Z m B/\bm w Z r D) (λZ Z' g hz=>⟨bm.mono hz _ g.1,bm.mono hz _ g.2.1,bm.mono hz _ g.2.2⟩) (pH l m r) (Mo a.1 a.2) (λi af Z t g ht a6=>?_) (λi h ⟨ag,S⟩=>zt S)) (λb hb=>?_)
  (λhw=>⟨⟨lE _,_,b1⟩,⟨z,C,I⟩,hw⟩) (λb K=>?_) hQ
 ·refine aQ λq=>gH (Mn ht) λx' y' z' a7 a8 a9 y6=>eo a6 λl' y1 aa c=>eZ (VR l' aa) λu1 u2 u3 X=>aV (bm.get g.1 a7) λw1 ab L=>aV (bm.get g.2.1 a8) λw2 ad M=>aV (bm.get g.2.2 a9) λw3 ae N=>q ?_;clear q;subst y6 X y1;obtain rfl:w1=u1:=bw (ab.symm.trans (c 0 (by decide)));obtain rfl:w2=u2:=bw (ad.symm.trans (c 1 (by decide)));obtain rfl:w3=u3:=bw (ae.symm.trans (c 2 (by decide)));exact⟨_,rfl,_,_,rfl,L,_,_,rfl,M,_,_,rfl,N,rfl⟩
 ·simp only[bP,eh,eu]at hb;have:d.heap.objs.size<=b:=by
   rcases hb with rfl|rfl|⟨j,_,rfl⟩
   ·exact bf (dI _ 3) (dI _ 2)
   ·exact bf (dI _ 3) (dI _ 1)
   ·exact dI _ _
  exact⟨bf sz this,dM k this⟩
 ·have old:∀ P,d.heap.objs.size<=P->s.heap.objs.size<=P/\F.nt≠some P:=λP h=>⟨bf sz h,(dM k h).2⟩;have bt:x.box=true/\x.ow=none:=by
   cases x with
   |v t=>cases t with
    |tup l=>exact⟨rfl,rfl⟩
    |_=>exact bD V
   |_=>exact bD V
  have f1:=oD H e bt.1 r2;have f2:=oD H e (tG q5) r3;have f3:=oD H e (tG q6) r4;rw[bt.2]at f1;rw[o.1]at f2;rw[o.2]at f3;simp only[bP,fQ,eh,eu]at K;rcases K with rfl|rfl|rfl|⟨j,_,rfl⟩|⟨j,hj,rfl⟩
  ·exact .inl (old _ (bf (dI _ 3) (dI _ 2)))
  ·exact .inl (old _ (dI _ _))
  ·exact .inl (old _ (bf (dI _ 3) (dI _ 1)))
  ·exact .inl (old _ (dI _ _))
  ·revert j;exact zz (.inr f1) (.inr f2) (.inr f3)
theorem U3(P:bX):(HF P).get? 4=some (sS P):=by kernel_rfl
theorem FZ(P:bX):(HF P).get? 55=some (Hz P):=by kernel_rfl
theorem L1(P:bX):(rG (gE P) "__builtins__"==some (.ref 4))=true:=by kernel_rfl
theorem Zd(P:bX):(sS P).cls=.type "module":=by kernel_rfl
theorem Xz(P:bX):(sS P).dict=some n0:=by kernel_rfl
theorem Ov(P:bX):(sS P).data=.plain:=by kernel_rfl
theorem We(H:St w F J Z O Y s){Q:aJ->aL->Prop}{E:aI->aL->Prop}(h:Q n0 s):bc (model pw w) A (builtinsFor F.env.globals F.env.builtins) Q E s:=by
 refine wpAny_builtinsFor (by rw[H.ok.eg];exact AE H.md H.on) (dN (L1 w.params)) (by decide) (i6 H.md H.on (U3 _) (by decide)) (Zd _) (Xz _) (Ov _) h
theorem P6(H:St w F J Z O Y s)(c:F.env.code=.ref lg){pos:br}{D:Str}{d:Scope}{Q:aI->aL->Prop}{E:aI->aL->Prop}
  (B:∀ code f p,Nx w F.nt Z s Z Y {s with heap:=f,toks:=p}->(∀ b o,b≠eB->s.heap.get? b=some o->f.get? b=some o)->Q code {s with heap:=f,toks:=p}) :
  bc (model pw w) A (genexprCode F.env pos D d) Q E s:=by
 refine aQ λG=>aV H.tab λg l h=>G ?_;have I:s.heap.get? lg=some (Hz w.params):=i6 H.md H.on (FZ _) (by decide);have i:s.heap.IsCode lg eB g:=(KH _ _ _ _ _ _ _ _ _ _ ⟨I,rfl,rfl,rfl,rfl,rfl,rfl,l.2,rfl,h,(by decide)⟩);cases j:codeAmong pos g.toList with
 |some K=>exact wpAny_genexprCode_hit c i j (B K s.heap s.toks (H.tok _) λb o _ e=>e)
 |none=>
  refine e9 (wpAny_genexprCodeX c i l j λr f p m _ _ C _ t _ u=>?_);have k:TriplesOk (g++#[gY pos.line,gY pos.col,.ref r]).toList:=by
   have L:(g++#[gY pos.line,gY pos.col,rQ r]).toList=g.toList++[gY pos.line,gY pos.col,.ref r]:=by simp
   rw[L];exact TriplesOk_snoc _ _ _ _ h
  refine B _ _ _ ⟨.refl _,λ_ _=>rfl,λb o e=>m b o (λq=>by rw[q,H.md.2]at e;cases e) (H.on _ _ e),λb o v e=>m b o (λq=>v (.inr q)) e,u,?_,id,rfl,λz f=>?_⟩ (λb o v e=>m b o v e)
  ·exact H.nts.imp (.refl _) (λ_ _ x=>x) λa N _ y=>m9 y λo e=>m a o (λM=>aU y λn y=>nomatch (M▸y).symm.trans l.2) e
  ·have:z=g:=by
    have h1:=f.1.2;rw[l.2]at h1;cases h1;rfl
   subst this;exact(aS _ t k)
theorem RG{a b:de}{Q:aI->aL->Prop}{E:aI->aL->Prop}(r:a.At s.heap)(t:b.At s.heap)
  (h:∀ f,lA 2 (sj a b) (kO s.heap.objs.size) (s.heap.objs.size+2+2) (s.heap.objs.size+2) (s.heap.objs.size+2+1) f (λ_=>0) .none [.none,.none]->f.objs.size=s.heap.objs.size+5->
   (∀ c o,s.heap.get? c=some o->f.get? c=some o)->Q (.ref (s.heap.objs.size+2+2)) {s with heap:=f}) :
  bc (model pw w) A (call (.type "zip") [.ref a.l,.ref b.l]) Q E s:=by
 let h1:=s.heap.push (hZ a);let h2:=h1.push (hZ b);let h4:=h2.push {cls:=.type "tuple",data:=.seq #[.ref s.heap.objs.size,.ref h1.objs.size]};let h5:=h4.push {cls:=.type "tuple",data:=.seq #[.none,.none]};let h6:=h5.push {cls:=.type "zip",data:=.fields #[.none,.bool false,.bool false,.ref h2.objs.size,.ref h4.objs.size]};refine J2 (s:=s) adp rfl (PySem.F.typeCall_zip_2 _ _) (PySem.F.newCall_zip_2 _ _) (λobj=>PySem.F.args_object_init_3 obj _ _) adq
  (S:=λB R s'=>s'.heap=s.heap/\R (.ok (.ret (.ref h5.objs.size))) {s' with heap:=h6}) (.of_wp λB R s' u=>?_) ⟨rfl,?_⟩
 ·obtain⟨C,g,d,v,os⟩:=s';refine bn u λhs hR=>?_;clear u;replace hs:C=s.heap:=hs;subst hs;have y:=sub_zip;have p1:b.At (yt ⟨s.heap.push (hZ a),g,d,v,os⟩):=t.keep λo e=>cA _ e;have p0:a.At (yt ⟨s.heap,g,d,v,os⟩):=r
  wp_walk using sX p0,sX p1
  exact(aS _ rfl hR)
 ·have k:h1.objs.size=s.heap.objs.size+1:=eQ ..;have m:h2.objs.size=s.heap.objs.size+2:=by rw[eQ,k]
  have n:h4.objs.size=s.heap.objs.size+3:=by rw[eQ,m]
  have i:h5.objs.size=s.heap.objs.size+4:=by rw[eQ,n]
  have D:h6.objs.size=s.heap.objs.size+5:=by rw[eQ,i]
  have p:h6.get? h5.objs.size=some _:=dx _ rfl;have z:h6.get? h4.objs.size=some _:=cA _ (dx _ rfl);have g4:h6.get? h2.objs.size=some _:=cA _ (cA _ (dx _ rfl));have g2:h6.get? h1.objs.size=some (hZ b):=cA _ (cA _ (cA _ (dx _ rfl)));have g1:h6.get? s.heap.objs.size=some (hZ a):=cA _ (cA _ (cA _ (cA _ (dx _ rfl))));have up:∀ c o,s.heap.get? c=some o->h6.get? c=some o:=λc o x=>cA _ (cA _ (cA _ (cA _ (cA _ x))));rw[m,n,i]at p;rw[k,m]at g4;rw[n]at z;rw[k]at g2;refine⟨(aS _ (by rw[i];exact p) rfl),?_⟩;rw[i];refine h h6 ⟨p,g4,z,rfl,λj q=>?_,λj q=>?_⟩ D up
  ·match j,q with
   |0,_=>exact tj g1
   |1,_=>exact tj g2
  ·match j,q with
   |0,_=>exact r.keep λo e=>up _ o e
   |1,_=>exact t.keep λo e=>up _ o e
noncomputable def tv:List T->List T->Option (List T)
 |[],m=>if m.isEmpty=true then some []else none
 |a::l,m=>a.int?.bind λa=>m.head?.bind λb=>b.int?.bind λb=>(tv l m.tail).map (.int (a+b)::·)
noncomputable def z7(f g:aP):aP:=λO Y=>(f O Y).bind λa=>(g O a.2).bind λb=>a.1.adJ.bind λl=>b.1.adJ.bind λm=>if l.length<=1000 then(tv l m).map λr=>(.v (.tup r),b.2)else none
theorem EX:∀ {l m r:List T},tv l m=some r->l.length=r.length/\m.length=r.length
 |[],m,r=>ca λh1 h=>bw h▸⟨rfl,congrArg j9 (n5.mp h1)⟩
 |a::l,[],r=>aX λ_ _=>bD
 |a::l,b::m,r=>aX λc _=>aX λ_ _=>aX λd _=>cb λf e h=>h▸bn (EX (m:=m) e) λh1 h2=>⟨congrArg (·+1) h1,congrArg (·+1) h2⟩
theorem Ab:∀ {l m r:List T},tv l m=some r->∀ {i:Nat} {t:T},r[i]?=some t->∃ a b,l[i]?=some (.int a)/\m[i]?=some (.int b)/\t=.int (a+b)
 |[],m,r=>ca λ_ h i t e=>bD (show([]:List T)[i]?=_ from bw h▸e)
 |a::l,[],r=>aX λ_ _=>bD
 |a::l,b::m,r=>aX λd f=>aX λc g=>aX λj k=>cb λo e h i t=>by
  obtain rfl:=bw g;subst h;refine T.adV f▸T.adV k▸?_;cases i with
  |zero=>exact λe=>(cE d j rfl rfl ((bw e).symm))
  |succ i=>exact λn=>Ab (m:=m) e (i:=i) n
noncomputable def TN:Scope:={kind:=PySem.ScopeKind.function,names:=[(aK ".0",PySem.NameKind.local),(aK "i",PySem.NameKind.local),(aK "j",PySem.NameKind.local)],isGenerator:=true,isCoroutine:=false,more:=[]}
theorem Ig(n:Nat):passing (λ_=>true) n 0=aO n:=by unfold passing;simp
theorem Vp:∀ {l:List T} {a:List aI},a.length=l.length->(∀ (i:Nat) (t:T) (v:aI),l[i]?=some t->a[i]?=some v->Rd w Z t v)->bm w Z l a:=by
 intro b;induction b with
 |nil=>
  intro c;cases c with
  |nil=>
   intro _ _;exact rfl
  |cons v a=>
   intro h _;exact nomatch h
 |cons t l d=>
  intro e;cases e with
  |nil=>
   intro h _;exact nomatch h
  |cons v a=>
   intro h k;exact(cE v a rfl (k 0 t v rfl rfl) (d (yl h) λi=>k (i+1)))
theorem Zm (hh:A.handled=none) (L:A.depth<recursionLimit) (M:F.env.code=.ref lg) {q p1 p2 p3 p4 p5 p6 p7 pos a0 pc:br} {kt:Nat} {P D:Expr} {f g:aP} (hx:F.env.kindOf (aK "tuple")=some .globalImplicit)
  (ai:F.env.kindOf (aK "zip")=some .globalImplicit) (h1:bu w A F P f) (h2:bu w A F D g) (aj:dS P=true) (ak:dS D=true) :
  bu w A F (.Call (.Name (aK "tuple") q) [.GeneratorExp (.BinOp (.Name (aK "i") p1) .Add (.Name (aK "j") p2) p3)
   [⟨.Tuple [.Name (aK "i") p4,.Name (aK "j") p5] kt p6,.Call (.Name (aK "zip") p7) [P,D] [] pc,[],0⟩] TN pos] [] a0) (z7 f g):=λJ O Y x ν' Z s H=>bJ λx G q1=>bJ λy N q2=>aX λl q4=>aX λm q5=>ca λa3=>cb λr q6=>dR λQ E hQ=>by
 have a4:aN w A F [P,D] [f,g]:=aN.cons h1 aj (aN.cons h2 ak aN.nil);refine bn (EX q6) λa5 al=>?_;have hp:=ee a4.plain;have hd:eR [f,g] O Y=some ([x,y],N):=lm q1 (lm q2 rfl);refine gM rfl (h9 H hx (v:=.type "tuple") rfl ?_ rfl);refine kb (lJ ?_ (eG rfl)) (eG rfl) rfl;refine wpAny_GeneratorExp_walksQT (cl:=[]) hh rfl rfl (by decide) rfl rfl rfl (by decide) rfl L ?_ (λ_=>rfl);refine IZ λQ1 an=>gM rfl (h9 H ai (v:=.type "zip") rfl ?_ rfl);refine kb (a4.as H hd _ _ λvs Z1 d R r1=>?_) (eG hp.1) (jg hp.2);have V:=H.next R;refine aQ λI=>bG (cR.two r1) λv1 v2 y2 r2 r3=>bG (RX.tup V.on r2 q4) λa1 a6 z1 t1 a7=>bG (RX.tup V.on r3 q5) λa2 a8 z2 t2 a9=>I ?_;clear I;subst y2 z1 z2;let c1:de:=⟨false,a1,a6⟩;let c2:de:=⟨false,a2,a8⟩;replace t1:c1.At d.heap:=t1;replace t2:c2.At d.heap:=t2;refine RG t1 t2 λh' X b2 b3=>?_;have N2:=R.trans (V.grow b3 (by refine b2▸?_;exact dI _ _));have H2:=H.next N2;refine an _ _ (CV X.zip ⟨rY H2.md H2.on,IZ λQ2 ao=>?_⟩);refine P6 H2 M λcode h3 aG N3 k3=>?_;have H3:=H2.next N3;have aq:=N2.trans N3;refine ao _ _ (We H3 ?_);have hl:∀ j,j<2->(sj c1 c2 j).l<d.heap.objs.size:=mT t1.lt t2.lt;have hm:∀ j,j<2->(sj c1 c2 j).vs.length=r.length:=mT ((bm.length a7).trans a5) ((bm.length a9).trans al);have S3:lA 2 (sj c1 c2) (kO d.heap.objs.size) (d.heap.objs.size+2+2) (d.heap.objs.size+2) (d.heap.objs.size+2+1) h3 (λ_=>0) .none [.none,.none]:=by
  have K:∀ {b o},h'.get? b=some o->b≠eB->h3.get? b=some o:=λe n=>k3 _ _ n e;have p:171<=d.heap.objs.size:=bf H.ok.big (bf H.low R.size);have ne:∀ k,d.heap.objs.size+k≠eB:=λk=>nW (ck (show(51:Nat)<171 by decide) (bf p (dI _ _)));have nt:∀ {a:aJ} {vs:Array aI},d.heap.IsTuple a vs->a≠eB:=λx e=>aV V.tab λps ht _=>eo x λo ho hc _=>by
   replace ho:=ht.2▸e▸ho;replace hc:=(bw ho).symm▸hc;exact nomatch hc
  have nl:∀ j,j<2->(sj c1 c2 j).l≠eB:=mT (nt t1) (nt t2);exact⟨K X.zip (ne 4),K X.ti (ne 2),K X.to (ne 3),rfl,λj hj=>(X.its j hj).keep λo e=>K e (ne j),λj hj=>(X.ats j hj).keep λo e=>K e (nl j hj)⟩
 have aa:∀ b∈((d.heap.objs.size+2+2)::(d.heap.objs.size+2+1)::(aO 2).map (kO d.heap.objs.size)),d.heap.objs.size<=b:=λb c=>by
  simp only[bP,eh,eu]at c;rcases c with rfl|rfl|⟨j,_,rfl⟩
  ·exact bf (dI _ 2) (dI _ 2)
  ·exact bf (dI _ 2) (dI _ 1)
  ·exact dI _ _
 refine(Pa _ _ _ r.length _ _ _ (λ_=>true) (λi y=>∃ a b t,l[i]?=some (.int a)/\m[i]?=some (.int b)/\y=.int (a+b) t) ⟨rfl,(λA' hA=>(WalksT.aeh (w:=w) (A:=A') hA (by decide) (by decide) (ES hl) r.length hm).toU.bound),?_,⟨_,S3⟩,?_,rY H3.md H3.on,?_,?_,?_⟩)
 ·exact λi aE hP=>eo hP.2 λl' e ab _=>gU (aa4 l' ab) λu1 u2 D=>(dE u1 u2 (D▸e))
 ·exact zt S3
 ·intro hc;have:=aa _ hc;have p:171<=d.heap.objs.size:=bf H.ok.big (bf H.low R.size);exact absurd (bf p this) (by decide)
 ·refine λaF hk=>⟨λA' E' i va vb s2 m2 hA hP hn ha c ar=>?_,λA' E' i va vb s2 m2 hA hP _ hn ha c ar=>?_⟩
  ·rw[Cr];exact cm ⟨rfl,(iz s2.heap s2.toks rfl (λ_ _ e=>e))⟩
  ·refine vG hP λau l' e' ab ad=>?_;clear hP;have D:l'=[va,vb]:=(congrArg Array.toList e').symm;subst D;have k0:a6[i]?=some va:=ad 0 (by decide);have k1:a8[i]?=some vb:=ad 1 (by decide);refine aQ λI=>bG (Ab q6 (gv au)) λa b ea eb _=>aV (bm.get a7 ea) λw1 av d1=>aV (bm.get a9 eb) λw2 aw d2=>aU d1 λta y1=>aU d2 λtb y2=>I ?_;clear I;obtain rfl:va=_:=(bw (k0.symm.trans av)).trans y1;obtain rfl:vb=_:=(bw (k1.symm.trans aw)).trans y2;refine x9 (rD (x0 rfl rfl hn ha ?_) rfl);refine rD (x0 rfl rfl hn c ?_) rfl;refine add_int ⟨⟨a,b,_,ea,eb,rfl⟩,(iz s2.heap _ rfl (λ_ _ e=>e))⟩
 ·intro a h5 ae gs ax z B ay WS hG;have af:=H3.adN (tk:=ae) ay (by refine B▸?_;exact j8 (rN z));have az:Nx w F.nt Z1 _ Z1 N {d with gens:=d.gens.push gs,toks:=ae,heap:=h5}:={af with gens:=λh=>AllBare.push (af.gens h) ax,os:=rfl};have N5:=aq.trans az;have H5:=H.next N5;have aA:d.heap.objs.size<=h3.objs.size:=bf (by refine b2▸?_;exact dI _ _) N3.size;have u:∀ b∈(h3.objs.size::(d.heap.objs.size+2+2)::(d.heap.objs.size+2+1)::(aO 2).map (kO d.heap.objs.size)),d.heap.objs.size<=b:=λb c=>by
   rcases bP.mp c with rfl|c
   ·exact aA
   ·exact aa b c
  have ag:∀ b∈(h3.objs.size::(d.heap.objs.size+2+2)::(d.heap.objs.size+2+1)::(aO 2).map (kO d.heap.objs.size)),b<a:=λb c=>by
   rcases bP.mp c with rfl|c
   ·exact z
   ·refine ck ?_ (j8 z);refine zt S3 b ?_;simp only[bP,fQ]at c ⊢;rcases c with c|c|c
    ·exact .inl c
    ·exact .inr (.inr (.inl c))
    ·exact .inr (.inr (.inr (.inl c)))
  refine n4 (call_tuple_gen WS.in4_3 (λi s' st=>st.1.typeIs) hG ?_ Cx (λs6 ah hm C=>?_) ?_)
  ·intro b c;show b<h5.objs.size;refine B▸?_;rcases bP.mp c with rfl|c
   ·exact pe _
   ·rcases bP.mp c with rfl|c
    ·exact rN z
    ·exact rN (t8 (eu.mp c) z)
  ·have aB:h5.objs.size<=s6.heap.objs.size:=by
    refine aQ λI=>my hG.1 λo _ _ ho _=>I ?_;have:=cg (hm.heap a o (λq=>cQ _ (ag a q)) ho);refine B▸?_;exact this
   have p:171<=d.heap.objs.size:=bf H.ok.big (bf H.low R.size);have aC:=eH (tk:=s6.toks) (h':=s6.heap) H5.nts H5.on (λb c=>⟨(dM V (u b c)).1,bf p (u b c),(dM V (u b c)).2⟩) (λb o c e=>hm.heap b o c e) aB;have aD:cZ w F.nt _ Z1 _ Z1 N s6:={aC with gens:=λh=>AllBare.movedS h hm,os:=hm.os};have N6:=((N5.toW _).trans aD).nx λb c=>bf R.size (u b c);have N7:=N6.push {cls:=.type "tuple",data:=.seq ah};have K:=N6.fresh;rw[Ig,kc]at C;refine hQ _ _ _ (N7.put N6.size K N6.adP) (fw _ _ ah.toList rfl (gS.trans (dx _ rfl)) ⟨rfl,0,by simp⟩ (bm.mono (gc K) _ (Vp (by simpa using C.1) λi t v h1 h2=>?_)));refine aQ λI=>Sg (C.2 i v (by simpa using h2)) λk P a' b' aH D e3 y7=>bG (Ab q6 h1) λa2 b2 e4 e5 y4=>I ?_;obtain rfl:i=k:=bw ((rJ (je.mp h1).1).symm.trans P);obtain rfl:=T.int.inj (bw (e4.symm.trans D));obtain rfl:=T.int.inj (bw (e5.symm.trans e3));exact y4▸y7▸(jR _)
  ·rw[Ig,kc,<- a5];exact bf a3 (by decide)
noncomputable def KC(P:bX):Frag:=[28,35,37,38,39,40].map λa=>(a,((HF P).get? a).getD default)
theorem pX{w:aY}{Z:Fz}{h:bh}(M:Md w Z)(g:On Z h):(KC w.params).In h:=by
 have key:∀ l:List aJ,(∀ a∈l,a≠eB/\(HF w.params).get? a=some (((HF w.params).get? a).getD default))->Frag.In (l.map λa=>(a,((HF w.params).get? a).getD default)) h:=by
  intro l;induction l with
  |nil=>intro _ a o e;exact bD e
  |cons b l i=>
   intro d a o e;revert e;refine AY (λq e=>?_) λe=>i (λc hc=>d c (.tail _ hc)) a o e;obtain rfl:=dN q;exact bn (d a (.head _)) λh1 h2=>e▸i6 M g h2 h1
 exact key _ λa f=>by
  simp only[bP,dP,or_false]at f;rcases f with rfl|rfl|rfl|rfl|rfl|rfl<;>exact⟨by decide,by kernel_rfl⟩
section
variable(P:bX)
theorem Vw:makesIn (KC P) eV=true:=by kernel_rfl
theorem Rj:keepIn (KC P) (.ref eV)=true:=by kernel_rfl
theorem SB:findIn (KC P) (.ref eV) "__init__"=some (some (.ref 28)):=by kernel_rfl
theorem KM:typeIn (KC P) (.ref 28)=some (.type "function"):=by kernel_rfl
theorem KT:findIn (KC P) (.ref eV) "__setattr__"=some (some (.builtin "object.__setattr__")):=by kernel_rfl
theorem KS:plainOver (KC P) eV=true:=by kernel_rfl
theorem abG:takerIn (KC P) eV (aK "comp_select_list")=some none:=by kernel_rfl
theorem FI:hasDictIn (KC P) eV=true:=by kernel_rfl
theorem R0:plainGet (KC P) eV (aK "comp_select_list")=true:=by kernel_rfl
theorem Rp:findIn (KC P) (.ref eV) (aK "comp_select_list")=some none:=by kernel_rfl
theorem TC:noGet (KC P) none=true:=by kernel_rfl
theorem G4:plainGet (KC P) eV (aK "compare")=true:=by kernel_rfl
theorem QV:findIn (KC P) (.ref eV) (aK "compare")=some (some (.ref 35)):=by kernel_rfl
theorem SV:isFn (KC P) (.ref 35)=true:=by kernel_rfl
end
noncomputable def B2(f:aP):aP:=λO Y=>(f O Y).bind λa=>a.1.t?.map λt=>(.v (.inst t),a.2)
theorem Qt(P:bX):(HF P).get? 28=some (Pq P):=by kernel_rfl
theorem Vr(P:bX):(HF P).get? 27=some (QY P):=by kernel_rfl
theorem Oy{n:Nat}(hR:di (n+1) A)(H:St w F J Z O Y s){v:aI}{Q:aI->aL->Prop}{E:aI->aL->Prop}
  (G:∀ c y f I m,(∀ b o,s.heap.get? b=some o->c.get? b=some o)->s.heap.objs.size<=c.objs.size->s.heap.objs.size<=f->c.get? f=some (dictOf [⟨I,.str (aK "comp_select_list") m,v⟩] 1)->
   c.get? (f+1)=some (lI eV f)->Q (.ref (f+1)) {s with heap:=c,toks:=y}):bc (model pw w) A (call (.ref eV) [v]) Q E s:=by
 have X:=pX H.md H.on;refine e9 (wpAny_call (aQ λL=>?_));obtain⟨a,g,d,y,os⟩:=s;refine L (make_core (makes_of X (Vw _)) (looks_findIn X (SB _)) (λself=>bind_fn X self (KM _)) (.inl rfl) ?_);have up:∀ b o,a.get? b=some o->((a.push uE).push (lI eV a.objs.size)).get? b=some o:=λb o e=>cA _ (cA _ e);refine JN (by have:=hR.d;show A.depth+1<1000;exact SD this) (up _ _ (i6 H.md H.on (Qt _) (by decide))) rfl (by kernel_rfl) (by kernel_rfl) rfl
  (vR _ _ _ _ ⟨rfl,up _ _ (i6 H.md H.on (Vr _) (by decide)),rfl,rfl⟩) ?_
 rw[show yk _ _=pure [(aK "self",rQ (a.objs.size+1)),(aK "comp_select_list",v)]from by kernel_rfl];refine cm (wpAny_newFunctionEnv (by decide) (λx z=>by simp only[bP,dP,or_false]at z;rcases z with rfl|rfl<;>rfl) (λh3 l hs=>⟨?_,JO (JL ?_)⟩))
 ·have:=(rY H.md H.on).keeps up;exact this.keeps λb o e=>hs.extBut b o (dW (cg e)) (cA _ e)
 ·have keep:∀ b o,a.get? b=some o->h3.get? b=some o:=λb o e=>hs.extBut b o (dW (cg (up b o e))) (cA _ (up b o e));refine plainObj_wpAny_Assign_Attribute ?_ rfl;refine rD (x0 (v:=v) rfl rfl l (by kernel_rfl) ?_) rfl;refine rD (x0 (v:=.ref (a.objs.size+1)) rfl rfl l (by kernel_rfl) ?_) rfl;have r:((a.push uE).push (lI eV a.objs.size)).objs.size=a.objs.size+2:=by rw[eQ,eQ]
  have i:∀ b o,((a.push uE).push (lI eV a.objs.size)).get? b=some o->h3.get? b=some o:=λb o e=>hs.extBut b o (dW (cg e)) (cA _ e);have g1:h3.get? a.objs.size=some (dictOf [] 0):=i _ _ (cA _ (dx _ rfl));have g2:h3.get? (a.objs.size+1)=some (lI eV a.objs.size):=i _ _ (by have:=dx (a.push uE) (o:=lI eV a.objs.size) rfl;rwa [eQ]at this);have B:∀ k,a.get? (a.objs.size+k)=none:=λk=>by
   cases q:a.get? (a.objs.size+k)with
   |none=>rfl
   |some o=>exact absurd (cg q) (lG.mpr (dI _ _))
  have t:Fr a _ h3 _:=⟨l,keep,by show a.objs.size<=((a.push uE).push (lI eV a.objs.size)).objs.size;rw[r];exact dI _ _⟩;have M:News a ((a.push uE).push (lI eV a.objs.size)).objs.size h3 [(a.objs.size+1,lI eV a.objs.size),(a.objs.size,dictOf [] 0)]:=λp j=>by
   simp only[bP,dP,or_false]at j;rcases j with rfl|rfl
   ·exact⟨g2,by rw[r];exact dW (pe _),B 1⟩
   ·exact⟨g1,by rw[r];exact dW (Ja (by decide)),B 0⟩
  refine set_dict (C:=eV) (K:=KC w.params) t X M ⟨g2,rfl,rfl,g1⟩ rfl (KT _) (KS _) (abG _) (FI _) rfl rfl (.tail (ads _) (.head (λ_ h=>nomatch h))) (show 1<=1000 by decide) λh4 N D=>JK ⟨rfl,λu=>?_⟩;exact G _ _ a.objs.size _ _ N.keep u (cu _) (D _ (.tail _ (.head _))).1 (D _ (.head _)).1
noncomputable def xD(f:aP):aP:=λO Y=>(f O Y).bind λa=>a.1.adZ.map λt=>(.v t,a.2)
noncomputable def sD(f:aP)(c:List aP)(k:List X->List T->Option (X×List T)):aP:=λO Y=>(f O Y).bind λa=>a.1.adZ.bind λt=>(eR c O a.2).bind λb=>k (.v (.inst t)::b.1) b.2
theorem XI {n:Nat} (hR:di (n+1) A) {p pos:br} {e:Expr} {f:aP} (q:F.env.kindOf (aK "TupleComp")=some .globalImplicit) (j:dS e=true) (h:bu w A F e f) :
  bu w A F (.Call (.Name (aK "TupleComp") p) [e] [] pos) (B2 f):=λJ O Y x ν' Z s H=>bJ λx G r=>cb λt u=>dR λQ E y=>by
 refine gM rfl (uY H q (v:=.ref eV) rfl ?_ rfl);refine callWith_K (pX H.md H.on) (Rj _) ?_ (eG j) rfl;refine gn.one H ((h H r).frz u) j _ _ λR g V c z=>aV (cR.one z) λv B C=>?_;subst B;have b:=H.next c;refine⟨pX b.md b.on,Oy hR b λD I d K m k L a g1 g2=>?_⟩;have l:=c.trans (b.adN (tk:=I) k L);have X:=H.next l;have o:g d=none:=(dM b a).1;have M:g (d+1)=none:=(dM b (uq a)).1;have N:=l.put (bf c.size a) o (dM b a).2;have i:put g D d (d+1)=none:=(jD (ads _)).trans M;have P:=N.put (bf c.size (uq a)) i (dM b (uq a)).2;exact y _ _ _ P (qc _ _ _ _ _ ⟨rfl,gS.trans g2,rfl,gc i _ _ (gS.trans g1),(dF K m 1 rfl),Rd.mono ((gc o).trans (gc i)) _ C⟩)
theorem GE(H:St w F J Z O Y s){t:T}{v:aI}(r:Rd w Z (.inst t) v):∃ a hs y k n d,v=.ref a/\InstAt s.heap a (lI eV d) eV (some (dictOf [⟨hs,.str (aK "comp_select_list") k,y⟩] n))/\Rd w Z t y:=
 Ee r λa o d g y b h1 c h2 e f=>eZ e λhs k n y=>(vK a hs _ k n d ⟨b,⟨(H.on _ _ h1).trans (congrArg some c),rfl,rfl,(H.on _ _ h2).trans (congrArg some y)⟩,f⟩)
theorem OO{t:T}{i:String}(r:Rd w Z t (.builtin i)):False:=by
 cases t with
 |none|bool _=>exact nomatch (r:Jn i=_)
 |int _|flt _|str _=>exact aU r λ_ e=>nomatch e
 |tup _|lst _|dct _=>exact my r λ_ _ _ e _=>nomatch e
 |inst _=>exact Hf r λ_ _ _ _ _ e _=>nomatch e
theorem MA{x:Str}{c pos:br}{f:aP}(h:bu w A F (.Name x c) f):bu w A F (.Attribute (.Name x c) (aK "comp_select_list") pos) (xD f):=λJ O Y x ν' Z s H=>bJ λx G j=>cb λt q=>dR λQ E l=>by
  obtain rfl:=X.ae2 q;refine Attribute_any_ (h H j _ _ λv u z e m=>?_);have b:=H.next e;refine HR (GE b m) λa hs y k n d o p g=>?_;subst o;have r:handedIn y=true:=by
   cases y with
   |builtin i=>exact(OO g).elim
   |_=>rfl
  exact get_value (pX b.md b.on) p (Ka (R0 _)).1 (findObj_own (FI _) (Rp _) (TC _) (by rfl)) r (l _ _ _ (e.trans (b.tok _)) g)
theorem ZQ{a:cz}{o:Expr}{name:Str}{apos pos:br}{args:List Expr}{Q:aI->aL->Prop}{E:aI->aL->Prop}
  (d:n6 o name a (eval o a)=eval o a)
  (i:((ka pos (ju args a)).all (λx=>!x.1)&&(backToKw pos (JS [] a)).all (λx=>x.1.isSome)
   &&decide (args.length+([]:List uz).length+(if ([]:List uz).isEmpty then 0 else 1)<30))=true)
  (f:(apos.endLine==pos.line)=true)
  (h:bc (model pw w) A (eval o a) (λn b=>∀ p,bc (model pw w) A (getMethod n name p) (λm c=>bc (model pw w) A (callWith pos m.1 m.2 (ka pos (ju args a)) []) Q E c) E b) E s) :
  bc (model pw w) A (eval (.Call (.Attribute o name apos) args [] pos) a) Q E s:=by
 rw[arm_eval_Call,d];refine ba (iM h (λn b j=>?_) λ_ _ e=>e);refine ba (gr ?_);have g:methodCallForm (args.length+([]:List uz).length) (ka pos (ju args a)) (backToKw pos (JS [] a))=true:=i;have k:methodCallPos true o a apos pos=pure pos:=by unfold methodCallPos;simp[f]
 unfold methodCall;refine g▸(ba (fG (iM (j _) (λm c l=>?_) λ_ _ e=>e)));exact ba (J8 k l)
theorem Gz{x:Str}{m apos pos:br}{j:List Expr}{e:Expr}{f:aP}{o:List aP}{k:List X->List T->Option (X×List T)}(hc:dH w A F (.ref 35) k)(c:(apos.endLine==pos.line)=true)(u:jr (e::j).length 20=true)(z:bu w A F (.Name x m) f)(b:aN w A F (e::j) o):
  bu w A F (.Call (.Attribute (.Name x m) (aK "compare") apos) (e::j) [] pos) (sD f o k):=λJ O Y x ν' Z s H=>bJ λx G B=>aX λt q=>bJ λC D I L Q E M=>by
  obtain rfl:=X.ae2 q;refine ZQ rfl (oA b.plain u) c (z H B _ _ λv Z1 s1 h p pl=>?_);have g:=H.next h;refine HR (GE g p) λa hs y kk n d N P hr=>?_;subst N;have X:=pX g.md g.on;refine method_fn X P (Ka (G4 _)).1 (Ka (G4 _)).2 (QV _) (beq_iff_eq.mp (SV _)) (by rfl) (callWith_K (K:=KC w.params) X (by kernel_rfl) (b.as g I _ _ λr R V i r2=>?_) (eG (ee b.plain).1) (jg (ee b.plain).2));have l:=g.next i;exact⟨pX l.md l.on,hc l H.low (bf h.size i.size) (show cR w F J O s.heap.objs.size R V.heap (.v (.inst t)::C) (.ref a::r)from(cE _ r rfl (RX.next H.sz g p i) (r2.le h.size))) L _ _ λv Z3 s3 N3 r3=>M v Z3 s3 ((h.trans i).trans N3) (r3.le (bf h.size i.size))⟩
noncomputable def zU(st:dw)(name a:Str)(b:aI)(c:aJ):um:={fdOf st name b c with qualname:=a}
noncomputable def Hj(st:dw)(name a:Str)(b:aI)(c:aJ):bK:=⟨.type "function",none,.func (zU st name a b c),#[]⟩
section
variable{w:aY}{A:bx}{F:Fx}{J:Nat->aJ}{Z Z':Fz}{O:List S}{Y ν':List T}{s s':aL}{mt:List Nat}
theorem RS(st:dw)(name a:Str)(l:aI)(f c:aJ){n:Nat}(hR:di (n+1) A){nm:List (Option Str)}{ps:List Str}{g:bC}
  (B:(HF w.params).get? f=some (Hj st name a l c)) (o:f≠eB) (h:c≠eB) (d:codeAt (HF w.params) c a=true)
  (p:(fS st).isCoroutine=false) (i:(fS st).isGenerator=false) (q:zb (fS st) nm ps=true)
  (e:∀ k:List aI,k.length=ps.length->yk (zU st name a l c) ⟨k,[]⟩=pure (ps.zip k))
  (C:∀ (y:bx) (D:Option aJ) (j:bh) (b:cz),di n y->b.scope=fS st->b.qual=a++".<locals>."->b.code=.ref c->b.func=some f->b.frame=some b.locals->dn w y (cH D j b nm) mt (fB st) g) :
  dH w A F (.ref f) (cf nm ps.length g):=λJ O Y x ν' Z s m N k H E G r=>by
 exact ca λI=>aX λP z=>km λt K L=>dR (s7 (Fb d) λQ M R u v hq=>Hl hR H (fd:=zU st name a l c) B rfl o u v hq h rfl p i rfl rfl rfl rfl (B8 q) e C (cR.at (xB z) r) (xB z) I.symm L)
end
noncomputable def Fx.at(F:Fx)(a:aJ):Fx:={F with nt:=some a}
noncomputable def S.un:S->S
 |.nts|.no=>.no
 |.v t=>.v t
 |.own l=>.own l
 |.ownd l=>.ownd l
noncomputable def S.adO:S->Bool
 |.nts=>false
 |.no|.v _|.own _|.ownd _=>true
noncomputable def EN(i:Nat)(g a:bC):bC:=λO Y=>(g O Y).bind λr=>if r.2.1.all S.adO=true then r.1.nx?.bind λ_=>(r.2.1[i]?).bind λb=>b.ae3.bind λl=>if l.isEmpty=true then
 (a (r.2.1.set i .nts) []).bind λq=>q.1.aee.bind λx=>x.vt?.map λt=>(.ret (.v t),q.2.1.map Mine.Internal.S.un,[])else none else none
noncomputable def AK(i:Nat)(f:aP):bC:=λO Y=>(O[i]?).bind λa=>a.aef.bind λ_=>(f ((O.map Mine.Internal.S.un).set i (.own Y)) []).bind λr=>r.1.vt?.bind λt=>if r.2.isEmpty=true then some (.ret (.v t),O,Y)else none
theorem Bv{st:dw}{g:bC}(a:∀ i∈mt,i∈mt')(h:eT w A F mt st g):eT w A F mt' st g:=λJ O Y e U ν' Z s H b Q E c=>
 h H b Q E λf α' Z' s' N d o=>c f α' Z' s' (N.more a) d o
theorem R4{S:Mine.Internal.S}(h:S.un.adD):S.adD/\S.un=S:=by cases S<;>first|exact⟨h,rfl⟩|exact h.elim
theorem Xh{S:Mine.Internal.S}(h:S.un≠.no):S.un=S/\S≠.no/\S≠.nts:=by
 cases S with
 |no=>exact absurd rfl h
 |nts=>exact absurd rfl h
 |_=>exact⟨rfl,nofun,nofun⟩
theorem y8{h:bh}{a:aJ}{S:Mine.Internal.S}{v:aI}{b c:Option aJ}(hs:S≠.nts)(x:dY w b Z h a S v):dY w c Z h a S v:=by cases S<;>first|exact x|exact absurd rfl hs
theorem St.opened(H:St w F J Z O Y s)(hF:F.nt=none){i:Nat}{y:Str}(g:F.nm[i]?=some (some y))(hi:O[i]?=some (.own []))(t:∀ S∈O,S≠.nts):St w (F.at (J i)) J Z (O.set i .nts) [] s:=by
 refine gl (H.own i _ hi trivial) λu K L M z=>?_;have f:i<O.length:=(je.mp hi).1;have c:∀ {j:Nat} {S:Mine.Internal.S},(O.set i .nts)[j]?=some S->S.adD->j≠i/\O[j]?=some S:=λ{j S} e o=>by
  by_cases q:i=j
  ·subst q;replace e:=fT f▸e;exact(show Mine.Internal.S.adD .nts from bw e▸o).elim
  ·replace e:=ed q▸e;exact⟨λx=>q x.symm,e⟩
 refine⟨{H.ok with ntf:=λa e=>bw e▸z},H.on,H.md,ej (H.ownAt g hi trivial) λ_ B h1 h2=>(fu u B h1 h2),H.gens,λb o C e=>H.base b o (λq=>C (q.elim (λq=>bD (hF.symm.trans q)) .inr)) e,H.tab,H.fz,H.cel,?_,
  λj S e o=>bn (c e o) λD n=>gl (H.own j S n o) λa1 a2 a3 a4 a5=>⟨a1,a2,λq=>D (H.inj j i S _ n o hi trivial (bw q).symm),a4,a5⟩,λj k S E e o G p q=>H.inj j k S E (c e o).2 o (c G p).2 p q⟩
 refine aV H.vars λm I d=>(aS m I (λj x S r hs h=>?_));by_cases q:i=j
 ·subst q;replace hs:=fT f▸hs;obtain rfl:=bw hs;exact aV (d i x _ r hi nofun) λv l d=>⟨v,l,_,rfl,d.1⟩
 ·replace hs:=ed q▸hs;exact aV (d j x S r hs h) λv l d=>(aS v l (y8 (t S (ke hs)) d))
theorem tI{j:Nat}{S:Mine.Internal.S}(e:(O.map Mine.Internal.S.un)[j]?=some S)(o:S.adD):O[j]?=some S:=by
 replace e:=fR▸e;exact aV (yc.mp e) λc a b=>by
  subst b;rw[(R4 o).2];exact a
theorem IV{j:Nat}{S:Mine.Internal.S}(e:(O.map Mine.Internal.S.un)[j]?=some S)(a:S≠.no):O[j]?=some S/\S≠.nts:=by
 replace e:=fR▸e;exact aV (yc.mp e) λg b c=>by
  subst c;exact bO (Xh a) λd h f=>by rw[d];exact⟨b,f⟩
theorem St.aei{a:aJ}(H:St w (F.at a) J Z O Y s)(hF:F.nt=none)(g:F.h₀.objs.size<=a):St w F J Z (O.map Mine.Internal.S.un) [] s:=by
 refine⟨{H.ok with ntf:=λa e=>bD (hF.symm.trans e)},H.on,H.md,by refine hF▸?_;rfl,H.gens,λb o h e=>H.base b o (λq=>q.elim (λq=>absurd (cg (bw q▸e)) (lG.mpr g)) λq=>h (.inr q)) e,H.tab,H.fz,H.cel,?_,
  λj S e o=>gl (H.own j S (tI e o) o) λa1 a2 a3 a4 a5=>⟨a1,a2,hF▸nofun,a4,a5⟩,λj k S i e o l f q=>H.inj j k S i (tI e o) o (tI l f) f q⟩
 exact aV H.vars λm n d=>(aS m n (λj x S p hs c=>bn (IV hs c) λr t=>aV (d j x S p r c) λv u d=>(aS v u (y8 t d))))
theorem St.again{a:aJ}(H:St w (F.at a) J Z O Y s)(hF:F.nt=none)(C:F.h₀.objs.size<=a){i:Nat}{y:Str}(L:F.nm[i]?=some (some y))(hi:O[i]?=some .nts):
  ∃ α',α'=j4 J i a/\St w F α' Z ((O.map Mine.Internal.S.un).set i (.own Y)) [] s:=by
 refine(aS _ rfl ?_);have c:=H.aei hF C;have r:i<(O.map Mine.Internal.S.un).length:=by rw[dm];exact(je.mp hi).1
 refine ej H.nts λM N D P=>?_;have t:a<s.heap.objs.size:=jn D;have u:a∉F.fa:=H.ok.ntf a rfl;have d:∀ {j:Nat} {S:Mine.Internal.S},((O.map Mine.Internal.S.un).set i (.own Y))[j]?=some S->(j=i/\S=.own Y)\/(j≠i/\(O.map Mine.Internal.S.un)[j]?=some S):=λ{j S} e=>by
  by_cases q:i=j
  ·subst q;replace e:=fT r▸e;exact .inl ⟨rfl,(bw e).symm⟩
  ·replace e:=ed q▸e;exact .inr ⟨λx=>q x.symm,e⟩
 have ne:∀ {j:Nat} {S:Mine.Internal.S},(O.map Mine.Internal.S.un)[j]?=some S->S.adD->J j≠a:=λ{j S} e o q=>(H.own j S (tI e o) o).2.2.1 (congrArg some q.symm);have g:j4 J i a i=a:=if_pos rfl;have f:∀ {j},j≠i->j4 J i a j=J j:=λh=>if_neg h;refine⟨c.ok,c.on,c.md,c.nts,c.gens,c.base,c.tab,c.fz,c.cel,?_,λj S e o=>?_,λj k S Q e o R E q=>?_⟩
 ·refine aV H.vars λm V n=>(aS m V (λj x S G hs l=>?_));rcases d hs with ⟨rfl,rfl⟩|⟨q,hs⟩
  ·exact DB (n j x _ G hi nofun) λv z b B p=>⟨v,z,by rw[g,bw B];exact p,N,by rw[g];exact D,P⟩
  ·exact bn (IV hs l) λB X=>aV (n j x S G B l) λv z n=>(aS v z (by refine f q▸?_;exact y8 X n))
 ·rcases d e with ⟨rfl,rfl⟩|⟨q,e⟩
  ·rw[g];exact⟨M,C,hF▸nofun,t,u⟩
  ·refine f q▸?_;exact c.own j S e o
 ·rcases d e with ⟨rfl,rfl⟩|⟨x,p⟩<;>rcases d R with ⟨rfl,rfl⟩|⟨I,K⟩
  ·rfl
  ·replace q:=f I▸g▸q;exact absurd q.symm (ne K E)
  ·replace q:=f x▸g▸q;exact absurd q (ne p o)
  ·replace q:=f I▸f x▸q;exact c.inj j k S Q p o K E q
theorem OG{a:aJ}(hF:F.nt=none)(k:F.h₀.objs.size<=a){i:Nat}{y:Str}(c:F.nm[i]?=some (some y)){e:Expr}{pos:br}{f:aP}(h:bu w A F e f):
  eT w A (F.at a) mt (.Return (some e) pos) (AK i f):=λJ O Y M U ν' Z s H=>aX λP d=>aX λ_ n=>bJ λx G p=>aX λt u=>ca λg z Q E B=>by
   cases z
   have hi:=d;replace hi:=S.aen n▸hi;obtain rfl:=X.adW u;obtain rfl:=n5.mp g;refine aV (H.again hF k c hi) λ_ _ C=>wpAny_Return_some (h C p _ _ λv Z' s' N r=>?_);have l:Nx w (F.at a).nt Z s Z' Y s':=by
    refine⟨N.le,N.new,N.on,λb o D e=>N.ext b o (λq=>q.elim (λq=>bD (hF.symm.trans q)) λq=>D (.inr q)) e,N.size,ej H.nts λI K m L=>?_,N.gens,N.os,N.tab⟩;have j:¬Mu F.nt a:=λq=>q.elim (λq=>bD (hF.symm.trans q)) λq=>absurd (q▸bf H.ok.big k:171<=eB) (by decide);exact(fu ((N.new _ (jn m)).trans I) K (m9 m λo=>N.ext a o j) (bm.mono N.le _ L))
   exact B _ _ Z' s' (.adM l) (H.next l) (aS v rfl r)
theorem L3{st:dw}{f:List dw}{g N:bC}(hF:F.nt=none){i:Nat}{y:Str}(hm:i∈mt)(v:F.nm[i]?=some (some y))(h:eT w A F mt st g)
  (h':∀ a,F.h₀.objs.size<=a->dn w A (F.at a) mt f N):dn w A F mt (st::f) (EN i g N):=λJ O Y fl U ν' Z s H=>qb λz I G P=>ca λk=>aX λ_ en=>aX λS0 B=>aX λl el=>ca λhl=>qb λC D a0 R=>aX λx er=>cb λt ex hg Q E hQ=>by
   cases hg
   have K:∀ S∈I,S≠.nts:=λS hs q=>ni (show Mine.Internal.S.adO .nts=true from q▸c8.mp k S hs);have u:I[i]?=some (.own []):=by rw[<- n5.mp hl,<- S.aeb el];exact B
   rw[show z=.nx from Fl.aeg en]at P;rw[show C=.ret x from Fl.aeq er,X.adW ex]at R;refine JL (h H P _ _ λf1 m Z1 s1 N1 V o1=>?_);subst o1;have ha:=(V.own i _ u trivial).2.1;have n:i<I.length:=(je.mp u).1;refine h' (m i) ha (V.opened hF v u K) R Q E λf2 p Z2 s2 c H2 o2=>?_;have L:cY w F mt [] m I Z1 s1 p (D.map Mine.Internal.S.un) Z2 s2:=by
    refine⟨c.le,c.new,λb o h1 h2 h3 h4 e=>c.ext b o (λq=>?_) h2 h3 (λj hj S hs r=>?_) e,c.size,c.os,c.gens,c.tab,λj S hs r=>?_⟩
    ·exact q.elim (λq=>h4 i hm _ u trivial (bw q)) λq=>h1 (.inr q)
    ·by_cases q:i=j
     ·subst q;replace hs:=fT n▸hs;exact(show Mine.Internal.S.adD .nts from bw hs▸r).elim
     ·replace hs:=ed q▸hs;exact h4 j hj S hs r
    ·refine(c.own j S (tI hs r) r).elim (λ⟨M,d,o3,e4⟩=>?_) .inr;by_cases q:i=j
     ·subst q;replace d:=fT n▸d;exact(show Mine.Internal.S.adD .nts from bw d▸o3).elim
     ·replace d:=ed q▸d;exact .inl (cI M d o3 e4)
   exact hQ f2 p Z2 s2 (N1.trans L) (H2.aei hF ha) o2
noncomputable def j5(f:aP):aP:=λO Y=>(f O Y).bind λa=>a.1.t?.map λt=>(.v t,a.2)
noncomputable def S.t?:S->Option T
 |.own l=>some (.lst l)
 |.ownd l=>some (.dct l)
 |.no|.v _|.nts=>none
noncomputable def S.adF:S->Bool
 |.own _|.ownd _=>true
 |.no|.v _|.nts=>false
noncomputable def jL(i:Nat)(g:bC):bC:=λO Y=>(g O Y).bind λr=>(O[i]?).bind λa=>r.1.nx?.bind λ_=>(r.2.1[i]?).bind λb=>if a.adF=true then none else b.t?.map λt=>(.nx,r.2.1.set i (.v t),r.2.2)
noncomputable def Qu(a:Int)(n:Nat):List T:=(aO n).map λ(j:Nat)=>T.int (a+(j:Int))
noncomputable def Fe(f g:aP):aP:=λO Y=>(f O Y).bind λx=>(g O x.2).bind λy=>x.1.int?.bind λa=>y.1.int?.bind λb=>if 0<=a/\a<=b/\b<=1000000 then some (.fr (Qu a (b-a).toNat),y.2)else none
theorem vS{e:Expr}{f:aP}(h:bu w A F e f):bu w A F e (j5 f):=λJ O Y x ν' Z s H=>bJ λx G a=>cb λt b=>dR ((h H a).frz b)
theorem Xs{a:Mine.Internal.S}(h:a.adD):a.adF=true:=by
 cases a with
 |own|ownd=>rfl
 |_=>exact h.elim
theorem St.aem(j:St w F J Z O Y s){i:Nat}{y:Str}(c:F.nm[i]?=some (some y)){a:Mine.Internal.S}(k:O[i]?=some a){t:T}(d:a.t?=some t):a.adD/\Rd w (put Z s.heap (J i)) t (.ref (J i)):=by
 have go:∀ o:a.adD,Z (J i)=none/\dY w F.nt Z s.heap (J i) a (.ref (J i)):=λo=>⟨(j.own i a k o).1,j.ownAt c k o⟩;cases a with
 |own l=>
  obtain rfl:=bw d;exact bn (go trivial) λe b=>ej b λ_ m n f=>eo n.isList λo g hc hk=>⟨trivial,(fw _ o m rfl (gS.trans g) ⟨hc,hk⟩ (bm.mono (gc e) _ f))⟩
 |ownd l=>
  obtain rfl:=bw d;exact bn (go trivial) λe b=>ej b λ_ h hd f=>aV (ph.mp hd) λo g hc=>⟨trivial,(fw _ o h rfl (gS.trans g) hc (bY.mono (gc e) _ f))⟩
 |_=>exact bD d
theorem qY(i:Nat){st:dw}{g:bC}{y:Str}(L:F.nm[i]?=some (some y))(h:eT w A F mt st g):eT w A F mt st (jL i g):=λJ O Y fl U ν' Z s H=>qb λM I G e1=>aX λS0 q0=>aX λ_ N=>aX λD p=>AU λP=>cb λt e2 hg Q E hQ=>by
   cases hg
   rw[show M=.nx from Fl.aeg N]at e1;refine h H e1 Q E λf l Z1 u z c o1=>bn (c.aem L p e2) λd rd=>gl (c.own i D p d) λK z2 z3 z4 z5=>?_;have B:s.heap.objs.size<=l i:=(z.own i D p d).elim (λ⟨S',e3,o3,_⟩=>absurd (bw (q0.symm.trans e3)▸Xs o3:S0.adF=true) P) id;have C:i<I.length:=(je.mp p).1;have n:∀ {j:Nat} {S:Mine.Internal.S},(I.set i (.v t))[j]?=some S->S.adD->j≠i/\I[j]?=some S:=λ{j S} e o=>by
    by_cases q:i=j
    ·subst q;rw[fT C]at e;exact(show Mine.Internal.S.adD (.v t)from bw e▸o).elim
    ·rw[ed q]at e;exact⟨λx=>q x.symm,e⟩
   have H2:St w F l (put Z1 u.heap (l i)) (I.set i (.v t)) G u:=by
    refine⟨c.ok,vJ c.on,c.md.le (gc K) (jD λq=>absurd (q▸bf c.ok.big z2:171<=eB) (by decide)),c.nts.put K z3,c.gens,c.base,c.tab,λa R=>⟨(jD λ(q:a=l i)=>z5 (q▸R)).trans (c.fz a R).1,(c.fz a R).2⟩,c.cel,
     aV c.vars λm hm r=>(aS m hm (λj x S hj hs V=>?_)),
     λj S e o=>bn (n e o) λN q3=>gl (c.own j S q3 o) λa1 a2 a3 a4 a5=>⟨(jD λq=>N (c.inj j i S D q3 o p d q)).trans a1,a2,a3,a4,a5⟩,λj k S S' e o e' o' q=>c.inj j k S S' (n e o).2 o (n e' o').2 o' q⟩
    by_cases q:i=j
    ·subst q;rw[fT C]at hs;obtain rfl:=bw hs;exact aV (r i x D hj p λe=>(show Mine.Internal.S.adD .no from e▸d)) λv X r=>(aS _ (r.ae5 d▸X) rd)
    ·rw[ed q]at hs;exact aV (r j x S hj hs V) λv X r=>(aS v X (r.ext (gc K) λ_ o e=>e))
   have N2:cY w F mt [] J O Z s l (I.set i (.v t)) (put Z1 u.heap (l i)) u:=
    {z with
     le:=z.le.trans (gc K)
     new:=λb hb=>(jD (dW (ck hb B))).trans (z.new b hb)
     own:=λj S e o=>z.own j S (n e o).2 o}
   exact hQ f l _ u N2 H2 (by cases o1;rfl)
theorem Qi (P:A.handled=none) {p q pos k:br} {o r:Expr} {f g:aP} (R:F.env.kindOf (aK "list")=some .globalImplicit) (z:F.env.kindOf (aK "range")=some .globalImplicit) (B:dS o=true) (C:dS r=true) (h1:bu w A F o f) (h2:bu w A F r g) :
  bu w A F (.Call (.Name (aK "list") q) [.Call (.Name (aK "range") p) [o,r] [] pos] [] k) (Fe f g):=λJ O Y x ν' Z s H=>bJ λx G V=>bJ λy l X=>aX λa ea=>aX λb eb=>ca λL hg Q E hQ=>by
  cases hg
  have h:aN w A F [o,r] [f,g]:=aN.cons h1 B (aN.cons h2 C aN.nil);have hd:eR [f,g] O Y=some ([x,y],l):=lm V (lm X rfl);refine gM rfl (h9 H R (v:=.type "list") rfl ?_ rfl);refine kb (lJ ?_ (eG rfl)) (eG rfl) rfl;refine gM rfl (h9 H z (v:=.type "range") rfl ?_ rfl);refine kb (h.as H hd _ _ λvs Z1 m N1 r1=>?_) (eG (ee h.plain).1) (jg (ee h.plain).2);refine aQ λM=>bG (cR.two r1) λv1 v2 y2 r2 r3=>aU (j2 ea r2) λt z1=>aU (j2 eb r3) λu z2=>M ?_;clear M;subst y2 z1 z2;refine call_range_2 (n4 ?_);have N:=(N1.push {cls:=.type "range",data:=.fields #[.int a t,.int b u,.int 1 m.toks]});have D:Nx w F.nt Z s Z1 l {m with heap:=m.heap.push {cls:=.type "range",data:=.fields #[.int a t,.int b u,.int 1 m.toks]},toks:=m.toks+1}:=N.trans ((H.next N).tok _);have I:=H.next D;refine e9 (call_list_range P (CU ..) (v9 (a:=a) (b:=b) (by lia) (by lia) (by lia) L.2.2 (by lia)) wn (acd L) λh' K c c' hk hD d n=>?_);have N4:=D.trans (I.adN (tk:=K) hk n);exact hQ _ _ _ N4 (jz _ c.toList rfl D.size ((dM I (cu _)).1) ((dM I (cu _)).2) ⟨c',by simpa using hD⟩ (Hc (b-a).toNat (λj=>a+(j:Int)) c.toList (by simpa using d.1) λi v hv=>aU (d.2 i v (by simpa using hv)) λt e=>⟨t,by rw[e];congr 1;exact Wo⟩))
end
noncomputable def nk:Nat->List Nat->List (Option Str)->List (Option Str)
 |_,_,[]=>[]
 |i,k,o::r=>(if k.contains i then o else none)::nk (i+1) k r
noncomputable def nq(N:List (Option Str))(b:Nat)(k:List Nat)(x:List (Option String)):List (Option Str):=nk 0 k (N.take b)++x.map (·.map aK)
section
variable{w:aY}{A:bx}{F:Fx}
noncomputable def cL(c:∀ e,Option {f // bu w A F e f}):∀ a,Option {b // aN w A F a b}
 |[]=>some ⟨[],aN.nil⟩
 |e::a=>if h:dS e=true then(c e).bind λf=>(cL c a).map λr=>⟨f.1::r.1,aN.cons f.2 h r.2⟩else none
noncomputable def PS(c:∀ e,Option {f // bu w A F e f}):∀ e,Option {f // bu w A F e f}
 |.Constant (.int _) _ _=>some ⟨_,XA⟩
 |.Constant (.str _) _ _=>some ⟨_,TJ⟩
 |.Constant (.bool _) _ _=>some ⟨_,NG⟩
 |.Constant (.float _) _ _=>some ⟨_,Ld⟩
 |.Constant .none _ _=>some ⟨_,Nj⟩
 |.Name id _=>if h:F.nm[F.nm.findIdx (·==some id)]?=some (some id)/\(id==("__debug__":Str))=false/\(id==("__classdict__":Str))=false then some ⟨_,aaI _ h.1 h.2.1 h.2.2⟩else none
 |.BinOp a _ b _=>(c a).bind λf=>(c b).map λg=>⟨_,nK f.2 g.2⟩
 |.UnaryOp .USub a _=>(c a).map λf=>⟨_,O0 f.2⟩
 |.Subscript a b _=>if h:mY b=true then(c a).bind λf=>(c b).map λg=>⟨_,sF f.2 g.2 h⟩else none
 |.Tuple d _ _=>if h:jr d.length 1000=true then(cL c d).map λf=>⟨_,fP h f.2⟩else none
 |.List d _=>if h:jr d.length 1000=true then(cL c d).map λf=>⟨_,mW h f.2⟩else none
 |_=>none
noncomputable def cX(n:Nat):∀ e,Option {f // bu w A F e f}:=n.rec (λ_=>none) λ_ c=>PS c
theorem cP{a:Type}{P:a->Prop}{o:Option {x // P x}}{b:a}(h:o.map (·.1)=some b):P b:=match o,h with|some p,h=>bw h▸p.2
@[reducible] def kX (w:aY) (A:bx) (F:Fx) (e:Expr) (f:aP):Prop:=some f=(@cX w A F 9 e).map (·.1)
@[reducible] def kL (w:aY) (A:bx) (F:Fx) (e:List Expr) (f:List aP):Prop:=some f=(@cL w A F (cX 9) e).map (·.1)
theorem cx{e:Expr}{f:aP}(h:kX w A F e f:=by kernel_rfl):bu w A F e f:=cP h.symm
theorem gm{e:List Expr}{f:List aP}(h:kL w A F e f:=by kernel_rfl):aN w A F e f:=cP h.symm
end
theorem jF{P:cz->Prop}{s:Scope}(h:∀ a b c d f g i j,P ⟨s,a,b,c,d,f,g,i,j⟩)(e:cz)(k:e.scope=s):P e:=match e,k with|⟨_,_,_,_,_,_,_,_,_⟩,rfl=>h ..
theorem di.le{n m:Nat}{A:bx}(r:di n A)(h:m<=n):di m A:=⟨by have:=r.d;exact(ff (lD h _) this),by have:=r.u;exact(ff (lD (Cj 8 h) _) this),r.h⟩
noncomputable def lS:List (Option Str):=[some (aK "r"),some (aK "g"),some (aK "b"),some (aK "y"),some (aK "i"),some (aK "q")]
noncomputable def mX:bC:=aZ (bW (aO 6) (.nm 3) (dB .Add (dB .Add (dB .Mult (dK (.flt 0x3fd3333333333333)) (dV 0)) (dB .Mult (dK (.flt 0x3fe2e147ae147ae1)) (dV 1))) (dB .Mult (dK (.flt 0x3fbc28f5c28f5c29)) (dV 2)))) (aZ (bW (aO 6) (.nm 4) (dB .Sub (dB .Mult (dK (.flt 0x3fe7ae147ae147ae)) (dB .Sub (dV 0) (dV 3))) (dB .Mult (dK (.flt 0x3fd147ae147ae148)) (dB .Sub (dV 2) (dV 3))))) (aZ (bW (aO 6) (.nm 5) (dB .Add (dB .Mult (dK (.flt 0x3fdeb851eb851eb8)) (dB .Sub (dV 0) (dV 3))) (dB .Mult (dK (.flt 0x3fda3d70a3d70a3d)) (dB .Sub (dV 2) (dV 3))))) (aZ (hY (cJ [dV 3,dV 4,dV 5])) cs)))
theorem aa1{w:aY}{A:bx}(c:Option aJ)(a:bh)(b:cz)(hR:di 0 A)(hs:b.scope=fS (bB 6)):dn w A (cH c a b lS) [] (fB (bB 6)) mX:=
 jF (P:=λv=>dn w A (cH c a v lS) _ _ _) (λd e f g i j k l=>bq (dd 3 hR.h rfl rfl rfl cx) (bq (dd 4 hR.h rfl rfl rfl cx) (bq (dd 5 hR.h rfl rfl rfl cx) (bq (i5 cx) cG)))) b hs
theorem wj(P:bX):(HF P).get? 70=some (jM (bB 6) (aK "rgb_to_yiq") (.str (aK "cpy313.colorsys") 269) 69):=by kernel_rfl
theorem y9{w:aY}{A:bx}{F:Fx}(hR:di 1 A):dH w A F (.ref 70) (cf lS 3 mX):=
 kj (bB 6) (aK "rgb_to_yiq") (.str (aK "cpy313.colorsys") 269) 70 69 (ps:=[aK "r",aK "g",aK "b"]) hR (wj _) (by decide) (by decide) (by kernel_rfl) (by kernel_rfl) (by kernel_rfl) (by kernel_rfl)
  (sN λ_ _ _=>by kernel_rfl) (λe d a b hR hs _ c _ _=>aa1 d a b hR hs)
noncomputable def oq:List (Option Str):=[some (aK "y"),some (aK "i"),some (aK "q"),some (aK "r"),some (aK "g"),some (aK "b")]
noncomputable def Mg:bC:=aZ (bW (aO 6) (.nm 3) (dK (.flt 0x0000000000000000))) cs
noncomputable def ab7:bC:=aZ (bW (aO 6) (.nm 4) (dK (.flt 0x0000000000000000))) cs
noncomputable def RK:bC:=aZ (bW (aO 6) (.nm 5) (dK (.flt 0x0000000000000000))) cs
noncomputable def UG:bC:=aZ (bW (aO 6) (.nm 3) (dK (.flt 0x3ff0000000000000))) cs
noncomputable def XD:bC:=aZ (bW (aO 6) (.nm 4) (dK (.flt 0x3ff0000000000000))) cs
noncomputable def Oj:bC:=aZ (bW (aO 6) (.nm 5) (dK (.flt 0x3ff0000000000000))) cs
noncomputable def m8:bC:=aZ (bW (aO 6) (.nm 3) (dB .Add (dB .Add (dV 0) (dB .Mult (dK (.flt 0x3fee4cdbef721b32)) (dV 1))) (dB .Mult (dK (.flt 0x3fe3f42ceedac0be)) (dV 2)))) (aZ (bW (aO 6) (.nm 4) (dB .Sub (dB .Sub (dV 0) (dB .Mult (dK (.flt 0x3fd1961eec8cbb3a)) (dV 1))) (dB .Mult (dK (.flt 0x3fe45794d16efff3)) (dV 2)))) (aZ (bW (aO 6) (.nm 5) (dB .Add (dB .Sub (dV 0) (dB .Mult (dK (.flt 0x3ff1bc99b7dee436)) (dV 1))) (dB .Mult (dK (.flt 0x3ffb5817a6224a7f)) (dV 2)))) (aZ (gx (tC .Lt (dV 3) (dK (.flt 0x0000000000000000))) Mg cs) (aZ (gx (tC .Lt (dV 4) (dK (.flt 0x0000000000000000))) ab7 cs) (aZ (gx (tC .Lt (dV 5) (dK (.flt 0x0000000000000000))) RK cs) (aZ (gx (tC .Gt (dV 3) (dK (.flt 0x3ff0000000000000))) UG cs) (aZ (gx (tC .Gt (dV 4) (dK (.flt 0x3ff0000000000000))) XD cs) (aZ (gx (tC .Gt (dV 5) (dK (.flt 0x3ff0000000000000))) Oj cs) (aZ (hY (cJ [dV 3,dV 4,dV 5])) cs)))))))))
theorem OW{w:aY}{A:bx}(c:Option aJ)(a:bh)(b:cz)(hR:di 0 A)(hs:b.scope=fS (bB 7)):dn w A (cH c a b oq) [] (fB (bB 7)) m8:=
 jF (P:=λv=>dn w A (cH c a v oq) _ _ _) (λd e f g i j k l=>bq (dd 3 hR.h rfl rfl rfl cx) (bq (dd 4 hR.h rfl rfl rfl cx) (bq (dd 5 hR.h rfl rfl rfl cx) (bq (jj (hJ cx cx rfl) (bq (dd 3 hR.h rfl rfl rfl cx) cG) cG) (bq (jj (hJ cx cx rfl) (bq (dd 4 hR.h rfl rfl rfl cx) cG) cG) (bq (jj (hJ cx cx rfl) (bq (dd 5 hR.h rfl rfl rfl cx) cG) cG) (bq (jj (hJ cx cx rfl) (bq (dd 3 hR.h rfl rfl rfl cx) cG) cG) (bq (jj (hJ cx cx rfl) (bq (dd 4 hR.h rfl rfl rfl cx) cG) cG) (bq (jj (hJ cx cx rfl) (bq (dd 5 hR.h rfl rfl rfl cx) cG) cG) (bq (i5 cx) cG)))))))))) b hs
theorem ze(P:bX):(HF P).get? 77=some (jM (bB 7) (aK "yiq_to_rgb") (.str (aK "cpy313.colorsys") 269) 76):=by kernel_rfl
theorem IU{w:aY}{A:bx}{F:Fx}(hR:di 1 A):dH w A F (.ref 77) (cf oq 3 m8):=
 kj (bB 7) (aK "yiq_to_rgb") (.str (aK "cpy313.colorsys") 269) 77 76 (ps:=[aK "y",aK "i",aK "q"]) hR (ze _) (by decide) (by decide) (by kernel_rfl) (by kernel_rfl) (by kernel_rfl) (by kernel_rfl)
  (sN λ_ _ _=>by kernel_rfl) (λe d a b hR hs _ c _ _=>OW d a b hR hs)
noncomputable def oR:List (Option Str):=[some (aK "callers"),some (aK "nc"),some (aK "calls")]
noncomputable def Dx:bC:=aZ (vd (aO 3) 1 (dV 2)) cs
noncomputable def ot:bC:=aZ (bW (aO 3) (.nm 1) (dK (.int 0))) (aZ (fc (aO 3) (.nm 2) (iV (dV 0)) Dx) (aZ (hY (dV 1)) cs))
theorem abi{w:aY}{A:bx}(c:Option aJ)(a:bh)(b:cz)(hR:di 0 A)(hs:b.scope=fS (bB 4)):dn w A (cH c a b oR) [] (fB (bB 4)) ot:=
 jF (P:=λv=>dn w A (cH c a v oR) _ _ _) (λd e f g i j k l=>bq (dd 1 hR.h rfl rfl rfl cx) (bq (iU (.nm 2) false none hR.h rfl (λh=>nomatch h) rfl (by decide) (aai hR.h rfl rfl cx) (bq (abN 1 rfl rfl cx) cG)) (bq (i5 cx) cG))) b hs
theorem Gu(P:bX):(HF P).get? 63=some (jM (bB 4) (aK "count_calls") (.str (aK "cpy313.pstats") 187) 62):=by kernel_rfl
theorem ND{w:aY}{A:bx}{F:Fx}(hR:di 1 A):dH w A F (.ref 63) (cf oR 1 ot):=
 kj (bB 4) (aK "count_calls") (.str (aK "cpy313.pstats") 187) 63 62 (ps:=[aK "callers"]) hR (Gu _) (by decide) (by decide) (by kernel_rfl) (by kernel_rfl) (by kernel_rfl) (by kernel_rfl)
  (sk λ_=>by kernel_rfl) (λe d a b hR hs _ c _ _=>abi d a b hR hs)
noncomputable def sp:List (Option Str):=[some (aK "code")]
noncomputable def wz:bC:=aZ (hY (F5 (bL [dV 0] (cD qG)))) cs
theorem XE{w:aY}{A:bx}(c:Option aJ)(a:bh)(b:cz)(hR:di 0 A)(hs:b.scope=fS (bB 10)):dn w A (cH c a b sp) [] (fB (bB 10)) wz:=
 jF (P:=λv=>dn w A (cH c a v sp) _ _ _) (λd e f g h i j k=>bq (i5 (Tm rfl (fi (x:="ord") rfl rfl rfl gm zA))) cG) b hs
theorem EF(P:bX):(HF P).get? 95=some (jM (bB 10) (aK "in_table_b1") (.str (aK "cpy313.stringprep") 295) 94):=by kernel_rfl
theorem PI{w:aY}{A:bx}{F:Fx}(hR:di 1 A):dH w A F (.ref 95) (cf sp 1 wz):=
 kj (bB 10) (aK "in_table_b1") (.str (aK "cpy313.stringprep") 295) 95 94 (ps:=[aK "code"]) hR (EF _) (by decide) (by decide) (by kernel_rfl) (by kernel_rfl) (by kernel_rfl) (by kernel_rfl)
  (sk λ_=>by kernel_rfl) (λe d a b hR hs _ c _ _=>XE d a b hR hs)
noncomputable def te:List (Option Str):=[some (aK "code"),some (aK "r")]
noncomputable def Yw:bC:=aZ (hY (dV 1)) cs
noncomputable def wR:bC:=aZ (bW (aO 2) (.nm 1) (u9 (bL [dV 0] (cD qG)))) (aZ (gx (tC .IsNot (dV 1) (dK .none)) Yw cs) (aZ (hY (iA "str" (dV 0) [] (cD FF))) cs))
theorem Xg{w:aY}{A:bx}(c:Option aJ)(a:bh)(b:cz)(hR:di 0 A)(hs:b.scope=fS (bB 12)):dn w A (cH c a b te) [] (fB (bB 12)) wR:=
 jF (P:=λv=>dn w A (cH c a v te) _ _ _) (λd e f g i j k l=>bq (dd 1 hR.h rfl rfl rfl (XH rfl rfl rfl rfl (fi (x:="ord") rfl rfl rfl gm zA))) (bq (jj (hJ cx cx rfl) (bq (i5 cx) cG) cG) (bq (i5 (oV (T:="str") (id:="str.lower") rfl pu PySem.F.slot_str_lower PySem.F.type_str_lower SL rfl rfl rfl cx aN.nil)) cG))) b hs
theorem Hx(P:bX):(HF P).get? 141=some (jM (bB 12) (aK "map_table_b3") (.str (aK "cpy313.stringprep") 295) 140):=by kernel_rfl
theorem OI{w:aY}{A:bx}{F:Fx}(hR:di 1 A):dH w A F (.ref 141) (cf te 1 wR):=
 kj (bB 12) (aK "map_table_b3") (.str (aK "cpy313.stringprep") 295) 141 140 (ps:=[aK "code"]) hR (Hx _) (by decide) (by decide) (by kernel_rfl) (by kernel_rfl) (by kernel_rfl) (by kernel_rfl)
  (sk λ_=>by kernel_rfl) (λe d a b hR hs _ c _ _=>Xg d a b hR hs)
noncomputable def pW:List (Option Str):=[some (aK "light"),some (aK "r"),some (aK "g"),some (aK "b")]
noncomputable def tu:bC:=aZ (gB (aO 4) [1,2,3] true [aR (dV 0) (dK (.int 0)),aR (dV 0) (dK (.int 1)),aR (dV 0) (dK (.int 2))]) (aZ (hY (df [dB .Add (dB .Add (dV 1) (dV 2)) (dV 3),dV 1,dV 2,dV 3,dB .Add (dB .Add (dB .Mult (dK (.int 30)) (dV 1)) (dB .Mult (dK (.int 59)) (dV 2))) (dB .Mult (dK (.int 11)) (dV 3)),dB .Sub (dB .Sub (dB .Mult (dK (.int 5990)) (dV 1)) (dB .Mult (dK (.int 2773)) (dV 2))) (dB .Mult (dK (.int 3217)) (dV 3)),dB .Add (dB .Sub (dB .Mult (dK (.int 2130)) (dV 1)) (dB .Mult (dK (.int 5251)) (dV 2))) (dB .Mult (dK (.int 3121)) (dV 3))])) cs)
theorem YF{w:aY}{A:bx}(c:Option aJ)(a:bh)(b:cz)(hR:di 0 A)(hs:b.scope=fS (bB 15)):dn w A (cH c a b pW) [] (fB (bB 15)) tu:=
 jF (P:=λv=>dn w A (cH c a v pW) _ _ _) (λd e f g i j k l=>bq (HG hR.h (is:=[1,2,3]) (names:=[aK "r",aK "g",aK "b"]) rfl rfl rfl (aN.cons cx rfl (aN.cons cx rfl (aN.cons cx rfl aN.nil)))) (bq (i5 cx) cG)) b hs
theorem zT(P:bX):(HF P).get? 155=some (jM (bB 15) (aK "_law_whole") (.str (aK "law_xh0036_01") 2323) 154):=by kernel_rfl
theorem IK{w:aY}{A:bx}{F:Fx}(hR:di 1 A):dH w A F (.ref 155) (cf pW 1 tu):=
 kj (bB 15) (aK "_law_whole") (.str (aK "law_xh0036_01") 2323) 155 154 (ps:=[aK "light"]) hR (zT _) (by decide) (by decide) (by kernel_rfl) (by kernel_rfl) (by kernel_rfl) (by kernel_rfl)
  (sk λ_=>by kernel_rfl) (λe d a b hR hs _ c _ _=>YF d a b hR hs)
noncomputable def nr:List (Option Str):=[some (aK "self"),some (aK "left"),some (aK "right"),some (aK "index"),some (aK "direction"),some (aK "l"),some (aK "r")]
noncomputable def UC:bC:=aZ (hY (gO (dV 4))) cs
noncomputable def Qa:bC:=aZ (hY (dV 4)) cs
noncomputable def jJ:bC:=aZ (bW (aO 7) (.nm 5) (aR (dV 1) (dV 3))) (aZ (bW (aO 7) (.nm 6) (aR (dV 2) (dV 3))) (aZ (gx (tC .Lt (dV 5) (dV 6)) UC cs) (aZ (gx (tC .Gt (dV 5) (dV 6)) Qa cs) cs)))
noncomputable def mo:bC:=aZ (fc (aO 7) (.tp [(.nm 3),(.nm 4)]) (iL none (xD (dV 0))) jJ) (aZ (hY (dK (.int 0))) cs)
theorem TF{w:aY}{A:bx}(c:Option aJ)(a:bh)(b:cz)(hR:di 0 A)(hs:b.scope=fS (ox 1 1)):dn w A (cH c a b nr) [] (fB (ox 1 1)) mo:=
 jF (P:=λv=>dn w A (cH c a v nr) _ _ _) (λd e f g i j k l=>bq (iU (.tp [(.nm 3),(.nm 4)]) false none hR.h rfl (λh=>nomatch h) rfl (by decide) (hH hR.h none (MA cx)) (bq (dd 5 hR.h rfl rfl rfl cx) (bq (dd 6 hR.h rfl rfl rfl cx) (bq (jj (hJ cx cx rfl) (bq (i5 cx) cG) cG) (bq (jj (hJ cx cx rfl) (bq (i5 cx) cG) cG) cG))))) (bq (i5 cx) cG)) b hs
theorem LM(P:bX):(HF P).get? 35=some (Hj (ox 1 1) (aK "compare") (aK "TupleComp.compare") (.str (aK "cpy313.pstats") 187) 34):=by kernel_rfl
theorem FT{w:aY}{A:bx}{F:Fx}(hR:di 1 A):dH w A F (.ref 35) (cf nr 3 mo):=
 RS (ox 1 1) (aK "compare") (aK "TupleComp.compare") (.str (aK "cpy313.pstats") 187) 35 34 (ps:=[aK "self",aK "left",aK "right"]) hR (LM _) (by decide) (by decide) (by kernel_rfl) (by kernel_rfl) (by kernel_rfl) (by kernel_rfl)
  (sN λ_ _ _=>by kernel_rfl) (λe d a b hR hs _ c _ _=>TF d a b hR hs)
noncomputable def jW:List (Option Str):=[some (aK "target"),some (aK "source"),some (aK "new_callers"),some (aK "func"),some (aK "caller")]
noncomputable def G7:bC:=aZ (jC 2 (dV 3) (dV 4)) cs
noncomputable def IB:bC:=aZ (jC 2 (dV 3) (z7 (dV 4) (aR (dV 2) (dV 3)))) cs
noncomputable def HL:bC:=aZ (na 2 (dV 3) (dV 4)) cs
noncomputable def vu:bC:=aZ (gx (tV (nE true (dV 4))) IB HL) cs
noncomputable def XF:bC:=aZ (jC 2 (dV 3) (dV 4)) cs
noncomputable def Ff:bC:=aZ (gx (BG (dV 3) (dV 2)) vu XF) cs
noncomputable def jT:bC:=aZ (jB (aO 5) 2 ((λO Y=>some (.frd [],Y)))) (aZ (fc (aO 5) (.tp [(.nm 3),(.nm 4)]) (iI (dV 0)) G7) (aZ (fc (aO 5) (.tp [(.nm 3),(.nm 4)]) (iI (dV 1)) Ff) (aZ (hY (dV 2)) cs)))
theorem SP{w:aY}{A:bx}(f:Option aJ)(e:bh)(b:cz)(hR:di 0 A)(hs:b.scope=fS (bB 3))(a:b.code=.ref lg):dn w A (cH f e b jW) [2] (fB (bB 3)) jT:=
 jF (P:=λv=>v.code=.ref lg->dn w A (cH f e v jW) _ _ _) (λg j k l m n o p a=>bq (Ay 2 rfl rfl rfl sU) (bq (iU (.tp [(.nm 3),(.nm 4)]) true none hR.h rfl (λ_=>rfl) rfl (by decide) (Be hR.h rfl rfl cx) (bq (oB (i:=2) rfl rfl rfl rfl rfl (by decide) cx cx) cG)) (bq (iU (.tp [(.nm 3),(.nm 4)]) true none hR.h rfl (λ_=>rfl) rfl (by decide) (Be hR.h rfl rfl cx) (bq (jj (Lz cx cx rfl) (bq (jj (AP (sA (c:=true) rfl rfl rfl cx) rfl) (bq (oB (i:=2) rfl rfl rfl rfl rfl (by decide) (Zm hR.h (by have:=hR.d;show A.depth<1000;omega) a rfl rfl cx cx rfl rfl) cx) cG) (bq (Bu (i:=2) rfl rfl rfl rfl (by decide) cx cx) cG)) cG) (bq (oB (i:=2) rfl rfl rfl rfl rfl (by decide) cx cx) cG)) cG)) (bq (i5 cx) cG)))) b hs a
theorem tf(P:bX):(HF P).get? 56=some (jM (bB 3) (aK "add_callers") (.str (aK "cpy313.pstats") 187) 55):=by kernel_rfl
theorem xl{w:aY}{A:bx}{F:Fx}(hR:di 1 A):dH w A F (.ref 56) (cf jW 2 jT):=
 kj (bB 3) (aK "add_callers") (.str (aK "cpy313.pstats") 187) 56 55 (ps:=[aK "target",aK "source"]) hR (tf _) (by decide) (by decide) (by kernel_rfl) (by kernel_rfl) (by kernel_rfl) (by kernel_rfl)
  (pC λ_ _=>by kernel_rfl) (λe d b c hR hs _ a _ _=>SP d b c hR hs a)
noncomputable def jf:List (Option Str):=[some (aK "target"),some (aK "source"),some (aK "cc"),some (aK "nc"),some (aK "tt"),some (aK "ct"),some (aK "callers"),some (aK "t_cc"),some (aK "t_nc"),some (aK "t_tt"),some (aK "t_ct"),some (aK "t_callers")]
noncomputable def jI:bC:=aZ (bW (aO 12) (.tp [(.nm 2),(.nm 3),(.nm 4),(.nm 5),(.nm 6)]) (dV 1)) (aZ (bW (aO 12) (.tp [(.nm 7),(.nm 8),(.nm 9),(.nm 10),(.nm 11)]) (dV 0)) (aZ (hY (cJ [dB .Add (dV 2) (dV 7),dB .Add (dV 3) (dV 8),dB .Add (dV 4) (dV 9),dB .Add (dV 5) (dV 10),bL [dV 11,dV 6] (cf jW 2 jT)])) cs))
theorem Oc{w:aY}{A:bx}(c:Option aJ)(a:bh)(b:cz)(hR:di 1 A)(hs:b.scope=fS (bB 2)):dn w A (cH c a b jf) [] (fB (bB 2)) jI:=
 jF (P:=λv=>dn w A (cH c a v jf) _ _ _) (λd e f g i j k l=>bq (xw hR.h (p:=(.tp [(.nm 2),(.nm 3),(.nm 4),(.nm 5),(.nm 6)])) cx rfl rfl rfl rfl) (bq (xw hR.h (p:=(.tp [(.nm 7),(.nm 8),(.nm 9),(.nm 10),(.nm 11)])) cx rfl rfl rfl rfl) (bq (i5 (fP rfl (aN.cons cx rfl (aN.cons cx rfl (aN.cons cx rfl (aN.cons cx rfl (aN.cons (fL (x:="add_callers") rfl rfl rfl (tf _) rfl (by decide) (aN.cons cx rfl (aN.cons cx rfl aN.nil)) (xl (hR.le (by decide)))) rfl aN.nil))))))) cG))) b hs
theorem tx(P:bX):(HF P).get? 49=some (jM (bB 2) (aK "add_func_stats") (.str (aK "cpy313.pstats") 187) 48):=by kernel_rfl
theorem uZ{w:aY}{A:bx}{F:Fx}(hR:di 2 A):dH w A F (.ref 49) (cf jf 2 jI):=
 kj (bB 2) (aK "add_func_stats") (.str (aK "cpy313.pstats") 187) 49 48 (ps:=[aK "target",aK "source"]) hR (tx _) (by decide) (by decide) (by kernel_rfl) (by kernel_rfl) (by kernel_rfl) (by kernel_rfl)
  (pC λ_ _=>by kernel_rfl) (λe d a b hR hs _ c _ _=>Oc d a b hR hs)
noncomputable def pT:List (Option Str):=[some (aK "word"),some (aK "style"),some (aK "unseen"),some (aK "bases"),some (aK "other"),some (aK "typed"),some (aK "place"),some (aK "sign"),some (aK "kind")]
noncomputable def Hi:bC:=aZ (bW (aO 9) (.nm 7) (bL [aR (aR (dV 4) (iA "str" (dK (.str (aK "rgb"))) [dV 7] (gR zh))) (dB .Sub (dV 8) (dK (.int 12)))] (cD mP))) cs
noncomputable def yL:bC:=aZ (bW (aO 9) (.nm 7) (bL [dB .Sub (dB .Add (aR (dV 3) (dV 8)) (bL [dV 7] (cD qG))) (dK (.int 97))] (cD mP))) cs
noncomputable def uW:bC:=aZ (gx (tC .In (dV 7) (dK (.str (aK "rgb")))) Hi cs) cs
noncomputable def vy:bC:=aZ (dJ 5 (bL [aR (dV 2) (dB .Mod (dB .Add (dB .FloorDiv (dV 1) (dK (.int 2))) (dB .Mult (dK (.int 10)) (dV 6))) (dK (.int 27)))] (cD mP))) (aZ (bW (aO 9) (.nm 8) (dB .Mod (dB .Add (dB .FloorDiv (dV 1) (dK (.int 54))) (dB .Mult (dK (.int 4)) (dV 6))) (dK (.int 15)))) (aZ (gx (tA (tC .In (dV 7) (dK (.str (aK "rgb")))) (tC .Lt (dV 8) (dK (.int 12)))) yL uW) (aZ (dJ 5 (dV 7)) cs)))
noncomputable def qW:bC:=aZ (bW (aO 9) (.nm 2) (sC (df [dK (.int 173),dK (.int 847),dK (.int 6150),dK (.int 6155),dK (.int 6156),dK (.int 6157),dK (.int 8203),dK (.int 8204),dK (.int 8205),dK (.int 8288),dK (.int 65279)]) (Fe (dK (.int 65024)) (dK (.int 65040))))) (aZ (bW (aO 9) (.nm 3) (df [dK (.int 97),dK (.int 65),dK (.int 119808),dK (.int 119860),dK (.int 119912),dK (.int 120016),dK (.int 120172),dK (.int 120224),dK (.int 120276),dK (.int 120328),dK (.int 120380),dK (.int 120432)])) (aZ (bW (aO 9) (.nm 4) (df [df [dK (.int 8475),dK (.int 8476),dK (.int 8477)],df [dK (.int 119970),dK (.int 120074),dK (.int 120126)],df [dK (.int 8492),dK (.int 120069),dK (.int 120121)]])) (aZ (jB (aO 9) 5 (df [])) (aZ (fc (aO 9) (.tp [(.nm 6),(.nm 7)]) (Cg (om (tV (dB .Mod (dV 1) (dK (.int 2)))) (Fh (aK "gb") 13191 (dV 0)) (dV 0))) vy) (aZ (hY (dV 5)) cs)))))
theorem aao{w:aY}{A:bx}(c:Option aJ)(a:bh)(b:cz)(hR:di 0 A)(hs:b.scope=fS (bB 14)):dn w A (cH c a b pT) [5] (fB (bB 14)) qW:=
 jF (P:=λv=>dn w A (cH c a v pT) _ _ _) (λd e f g j k l m=>bq (dd 2 hR.h rfl rfl rfl (AW cx (Qi hR.h rfl rfl rfl rfl cx cx))) (bq (dd 3 hR.h rfl rfl rfl cx) (bq (dd 4 hR.h rfl rfl rfl cx) (bq (Ay 5 rfl rfl rfl cx) (bq (iU (.tp [(.nm 6),(.nm 7)]) true none hR.h rfl (λ_=>rfl) rfl (by decide) (ab5 hR.h rfl rfl (ab0 (p6:=⟨0,0,0,0⟩) rfl rfl rfl cx cx cx)) (bq (g7 (i:=5) rfl rfl rfl (by decide) rfl rfl rfl (fi (x:="chr") rfl rfl rfl gm zo)) (bq (dd 8 hR.h rfl rfl rfl cx) (bq (jj (Ui (hJ cx cx rfl) (hJ cx cx rfl)) (bq (dd 7 hR.h rfl rfl rfl (fi (x:="chr") rfl rfl rfl (aN.cons (nK (nK cx (fi (x:="ord") rfl rfl rfl gm zA)) cx) rfl aN.nil) zo)) cG) (bq (jj (hJ cx cx rfl) (bq (dd 7 hR.h rfl rfl rfl (fi (x:="chr") rfl rfl rfl (aN.cons (sF (sF cx (oV (T:="str") (id:="str.index") rfl pu PySem.F.slot_str_index PySem.F.type_str_index ZK rfl rfl rfl cx gm) rfl) cx rfl) rfl aN.nil) zo)) cG) cG) cG)) (bq (g7 (i:=5) rfl rfl rfl (by decide) rfl rfl rfl cx) cG))))) (bq (i5 cx) cG)))))) b hs
theorem Er(P:bX):(HF P).get? 148=some (jM (bB 14) (aK "_law_typed") (.str (aK "law_xh0036_01") 2323) 147):=by kernel_rfl
theorem Vd{w:aY}{A:bx}{F:Fx}(hR:di 1 A):dH w A F (.ref 148) (cf pT 2 qW):=
 kj (bB 14) (aK "_law_typed") (.str (aK "law_xh0036_01") 2323) 148 147 (ps:=[aK "word",aK "style"]) hR (Er _) (by decide) (by decide) (by kernel_rfl) (by kernel_rfl) (by kernel_rfl) (by kernel_rfl)
  (pC λ_ _=>by kernel_rfl) (λe d a b hR hs _ c _ _=>aao d a b hR hs)
noncomputable def oT:List (Option Str):=[some (aK "row"),some (aK "order"),none,none,none]
noncomputable def FA:aP:=dB .Mult (dB .Mult (dV 3) (aR (dV 0) (dV 2))) (dV 4)
noncomputable def si:bC:=aZ (hY (bL [cM (cn [2,3,4] (.tp [(.tp [(.nm 2),(.nm 3)]),(.nm 4)]) (iZ (dV 1) (df [dB .Pow (dK (.int 10)) (dK (.int 12)),dB .Pow (dK (.int 10)) (dK (.int 6)),dK (.int 1)])) (λ_ Y=>some (true,Y)) (cF FA) (.own []))] (cD jo))) cs
theorem aaR{w:aY}{A:bx}(c:Option aJ)(a:bh)(b:cz)(hR:di 0 A)(hs:b.scope=fS (bB 16)):dn w A (cH c a b oT) [] (fB (bB 16)) si:=
 jF (P:=λv=>dn w A (cH c a v oT) _ _ _) (λd e f g i j k l=>bq (i5 (fi (x:="sum") rfl rfl rfl (aN.cons (gy hR.h (tg:=true) (ow:=none) (p:=(.tp [(.tp [(.nm 2),(.nm 3)]),(.nm 4)])) (nm':=(nq oT 2 [0] [some "k",some "way",some "weight"])) (wr':=[2,3,4]) (eI rfl) rfl (λ_=>rfl) rfl (Dk hR.h rfl (aN.cons cx rfl (aN.cons cx rfl aN.nil))) (λn J=>fM) (λn=>cx)) rfl aN.nil) (u8 hR.h))) cG) b hs
theorem AH(P:bX):(HF P).get? 160=some (jM (bB 16) (aK "_law_rank") (.str (aK "law_xh0036_01") 2323) 159):=by kernel_rfl
theorem DT{w:aY}{A:bx}{F:Fx}(hR:di 1 A):dH w A F (.ref 160) (cf oT 2 si):=
 kj (bB 16) (aK "_law_rank") (.str (aK "law_xh0036_01") 2323) 160 159 (ps:=[aK "row",aK "order"]) hR (AH _) (by decide) (by decide) (by kernel_rfl) (by kernel_rfl) (by kernel_rfl) (by kernel_rfl)
  (pC λ_ _=>by kernel_rfl) (λe d a b hR hs _ c _ _=>aaR d a b hR hs)
noncomputable def pU:List (Option Str):=[some (aK "light"),some (aK "order"),some (aK "notes"),some (aK "told"),some (aK "whole"),some (aK "far"),none,none,none]
noncomputable def D1:aP:=bL [dB .Sub (dB .Mult (dV 6) (dV 7)) (dV 8)] (cD tR)
noncomputable def qP:bC:=aZ (gB (aO 9) [3,4] true [bL [dB .Div (aR (dV 0) (dK (.int 0))) (dK (.int 64)),dB .Div (aR (dV 0) (dK (.int 1))) (dK (.int 64)),dB .Div (aR (dV 0) (dK (.int 2))) (dK (.int 64))] (cf lS 3 mX),bL [dV 0] (cf pW 1 tu)]) (aZ (bW (aO 9) (.nm 5) (bL [cM (cn [6,7,8] (.tp [(.nm 6),(.nm 7),(.nm 8)]) (AR (dV 3) (df [dK (.int 6400),dK (.int 640000),dK (.int 640000)]) (h7 (dV 4) (some (dK (.int 4))) none)) (λ_ Y=>some (true,Y)) (cF D1) (.own []))] nC)) (aZ (dJ 2 (cJ [df [aR (dV 0) (dK (.int 3)),nE true (dV 3),dC .Lt (dB .Mult (dV 5) (dB .Pow (dK (.int 10)) (dK (.int 6)))) (dK (.int 1))],df [aR (dV 4) (dK (.int 0)),dK (.bool true),dK (.bool true)]])) (aZ (hY (cJ [bL [dV 4,dV 1] (cf oT 2 si),sC (df [aR (dV 0) (dK (.int 3)),aR (dV 0) (dK (.int 0)),aR (dV 0) (dK (.int 1)),aR (dV 0) (dK (.int 2))]) (bL [dV 3] (cD D7))])) cs)))
theorem abg{w:aY}{A:bx}(d:Option aJ)(a:bh)(b:cz)(hR:di 1 A)(hs:b.scope=fS (bB 17)):dn w A (cH d a b pU) [2] (fB (bB 17)) qP:=
 jF (P:=λv=>dn w A (cH d a v pU) _ _ _) (λe f g j k l m o=>bq (HG hR.h (is:=[3,4]) (names:=[aK "told",aK "whole"]) rfl rfl rfl (aN.cons (fL (x:="rgb_to_yiq") rfl rfl rfl (wj _) rfl (by decide) (aN.cons cx rfl (aN.cons cx rfl (aN.cons cx rfl aN.nil))) (y9 (hR.le (by decide)))) rfl (aN.cons (fL (x:="_law_whole") rfl rfl rfl (zT _) rfl (by decide) (aN.cons cx rfl aN.nil) (IK (hR.le (by decide)))) rfl aN.nil))) (bq (dd 5 hR.h rfl rfl rfl (fi (x:="max") rfl rfl rfl (aN.cons (gy hR.h (tg:=true) (ow:=none) (p:=(.tp [(.nm 6),(.nm 7),(.nm 8)])) (nm':=(nq pU 6 [] [some "part",some "unit",some "due"])) (wr':=[6,7,8]) (eI rfl) rfl (λ_=>rfl) rfl (U6 hR.h rfl (aN.cons cx rfl (aN.cons cx rfl (aN.cons (rj (λ_ _=>rfl) cx (ij.some cx) ij.none) rfl aN.nil)))) (λn J=>fM) (λn=>fi (x:="abs") rfl rfl rfl gm Aa)) rfl aN.nil) (wA hR.h))) (bq (g7 (i:=2) rfl rfl rfl (by decide) rfl rfl rfl (fP rfl (aN.cons (mW rfl (aN.cons cx rfl (aN.cons (sA (c:=true) rfl rfl rfl cx) rfl (aN.cons (kg cx cx rfl) rfl aN.nil)))) rfl (aN.cons cx rfl aN.nil)))) (bq (i5 (fP rfl (aN.cons (fL (x:="_law_rank") rfl rfl rfl (AH _) rfl (by decide) (aN.cons cx rfl (aN.cons cx rfl aN.nil)) (DT (hR.le (by decide)))) rfl (aN.cons (AW cx (sR (x:="list") rfl rfl rfl gm UA)) rfl aN.nil)))) cG)))) b hs
theorem Gv(P:bX):(HF P).get? 165=some (jM (bB 17) (aK "_law_row") (.str (aK "law_xh0036_01") 2323) 164):=by kernel_rfl
theorem aaC{w:aY}{A:bx}{F:Fx}(hR:di 2 A):dH w A F (.ref 165) (cf pU 3 qP):=
 kj (bB 17) (aK "_law_row") (.str (aK "law_xh0036_01") 2323) 165 164 (ps:=[aK "light",aK "order",aK "notes"]) hR (Gv _) (by decide) (by decide) (by kernel_rfl) (by kernel_rfl) (by kernel_rfl) (by kernel_rfl)
  (sN λ_ _ _=>by kernel_rfl) (λe d a b hR hs _ c _ _=>abg d a b hR hs)
noncomputable def dL:List (Option Str):=[some (aK "script"),some (aK "cells"),some (aK "place"),some (aK "number"),some (aK "notes"),some (aK "bonds"),some (aK "books"),some (aK "one"),some (aK "two"),some (aK "cell"),some (aK "word"),some (aK "typed"),some (aK "gone"),some (aK "text"),some (aK "bond"),some (aK "draw"),some (aK "cuts"),some (aK "order"),some (aK "ranks"),some (aK "mask"),some (aK "side"),some (aK "chooser"),some (aK "alive"),some (aK "sides"),some (aK "lasts"),some (aK "turn"),some (aK "line"),some (aK "ties"),some (aK "heard"),some (aK "step"),some (aK "more"),some (aK "rows"),some (aK "best"),some (aK "row"),some (aK "told"),some (aK "ahead"),some (aK "last"),some (aK "parts"),some (aK "name"),some (aK "twice"),some (aK "joined"),some (aK "kept"),some (aK "image"),some (aK "tones"),some (aK "tone"),some (aK "lamps"),some (aK "far"),some (aK "rank"),some (aK "light"),none,none,none]
noncomputable def zg:bC:=aZ (na 1 (dB .Mod (dV 2) (dK (.int 16))) (dB .Mod (dV 3) (dK (.int 1000000)))) cs
noncomputable def Hy:aP:=cJ [dK (.int 0),dK (.int 0),dK (.int 0),dK (.int 0),(λO Y=>some (.frd [],Y))]
noncomputable def vY:bC:=jB (aO 52) 6 (cM (cn [49] (.nm 49) (iR (dK (.int 6))) (λ_ Y=>some (true,Y)) (cF Hy) (.own [])))
noncomputable def rX:aP:=cJ [dV 50,dV 49]
noncomputable def sQ:aP:=AJ (dK (.str (aK "rgb"))) (dB .Mod (dB .FloorDiv (dB .FloorDiv (dV 9) (dK (.int 4))) (dB .Pow (dK (.int 3)) (dV 49))) (dK (.int 3)))
noncomputable def yN:aP:=bL [dV 49] (cf sp 1 wz)
noncomputable def uN:aP:=bL [dV 49] (cf te 1 wR)
noncomputable def sT:dc:=tN (tV (dV 50))
noncomputable def BF:aP:=cJ [dC .Is (dV 49) (dK (.bool true)),dC .Is (dV 49) (dK (.bool false))]
noncomputable def zd:aP:=cJ [dC .Eq (dB .Mod (dV 49) (dK (.int 2))) (dK (.int 0)),dC .Eq (dB .Mod (dV 49) (dK (.int 2))) (dK (.int 1))]
noncomputable def wQ:bC:=aZ (bW (aO 52) (.nm 9) (aR (dV 1) (dV 2))) (aZ (bW (aO 52) (.nm 10) (iA "str" (dK (.str (aK ""))) [cM (cn [49] (.nm 49) (iR (dB .Mod (dV 9) (dK (.int 4)))) (λ_ Y=>some (true,Y)) (cF sQ) (.own []))] (gR ny))) (aZ (bW (aO 52) (.nm 11) (bL [dV 10,dB .FloorDiv (dV 9) (dK (.int 108))] (cf pT 2 qW))) (aZ (jL 12 (jS (aO 52) 12 (cn [49] (.nm 49) (iL none (dV 11)) (λ_ Y=>some (true,Y)) (cF yN) (.own [])))) (aZ (bW (aO 52) (.nm 13) (iA "str" (dK (.str (aK ""))) [cM (cn [49,50] (.tp [(.nm 49),(.nm 50)]) (iZ (dV 11) (dV 12)) sT (cF uN) (.own []))] (gR ny))) (aZ (dJ 4 (cJ [cM (cn [49] (.nm 49) (iL none (dV 12)) (λ_ Y=>some (true,Y)) (cF BF) (.own [])),cM (cn [49] (.nm 49) (iR (bL [dV 12] (cD iB))) (λ_ Y=>some (true,Y)) (cF zd) (.own []))])) (aZ (dJ 4 (cJ [dV 13,dV 10])) (aZ (bW (aO 52) (.nm 14) (cJ [iA "str" (dV 13) [dK (.str (aK "r"))] (gR lu),iA "str" (dV 13) [dK (.str (aK "g"))] (gR lu),iA "str" (dV 13) [dK (.str (aK "b"))] (gR lu),bL [dV 13] (cD iB)])) (aZ (dJ 5 (cJ [dV 7,dV 8,dV 14])) (aZ (jC 6 (dV 7) (bL [aR (dV 6) (dV 7),iS (dV 14) (cJ [nh (dV 8) (dV 14)])] (cf jf 2 jI))) (aZ (jC 6 (dV 8) (bL [aR (dV 6) (dV 8),iS (dV 14) (cJ [nh (dV 7) (dV 14)])] (cf jf 2 jI))) cs))))))))))
noncomputable def wd:bC:=fc (aO 52) (.tp [(.nm 2),(.tp [(.nm 7),(.nm 8)])]) (iE none (cM (cn [49,50] (.nm 49) (iR (dK (.int 6))) (λ_ Y=>some (true,Y)) (oF [49,50] (.nm 50) (iR (dV 49)) (λ_ Y=>some (true,Y)) (cF rX)) (.own [])))) wQ
noncomputable def vZ:bC:=gB (aO 52) [15,16] false [aR (dV 1) (dK (.int 15)),df []]
noncomputable def xp:bC:=bW (aO 52) (.nm 17) (df [cJ [dK (.int 0),dK (.int 1)],cJ [dB .Add (dK (.int 1)) (dB .Mod (dV 15) (dK (.int 3))),dB .Sub (dK (.int 1)) (dB .Mult (dK (.int 2)) (dB .Mod (dB .FloorDiv (dV 15) (dK (.int 9))) (dK (.int 2))))],cJ [dB .Add (dK (.int 4)) (dB .Mod (dB .FloorDiv (dV 15) (dK (.int 3))) (dK (.int 3))),dB .Sub (dK (.int 1)) (dB .Mult (dK (.int 2)) (dB .Mod (dB .FloorDiv (dV 15) (dK (.int 18))) (dK (.int 2))))]])
noncomputable def DM:aP:=cJ [dV 49,dV 50,bL [bL [dV 51] (cf pW 1 tu),dV 17] (cf oT 2 si)]
noncomputable def xv:bC:=jL 18 (jS (aO 52) 18 (cn [49,50,51] (.tp [(.nm 49),(.nm 50),(.nm 51)]) (iL (some 5) (dV 5)) (λ_ Y=>some (true,Y)) (cF DM) (.own [])))
noncomputable def zM:aP:=dB .BitAnd (dB .RShift (dV 19) (dV 49)) (dK (.int 1))
noncomputable def BY:aP:=dV 51
noncomputable def sr:dc:=tC .NotEq (aR (dV 20) (dV 49)) (aR (dV 20) (dV 50))
noncomputable def Ca:bC:=aZ (jB (aO 52) 20 (cM (cn [49] (.nm 49) (iR (dK (.int 6))) (λ_ Y=>some (true,Y)) (cF zM) (.own [])))) (aZ (dJ 16 (bL [cM (cn [49,50,51] (.tp [(.nm 49),(.nm 50),(.nm 51)]) (iL none (dV 18)) sr (cF BY) (.own []))] (cD jo))) cs)
noncomputable def vz:bC:=fc (aO 52) (.nm 19) (iR (dK (.int 32))) Ca
noncomputable def Dz:aP:=dB .Pow (dK (.int 2)) (dV 49)
noncomputable def vI:bC:=gB (aO 52) [21,22,23,24] false [B2 (dV 17),AI (dK (.int 6)),cM (cn [49] (.nm 49) (iR (dK (.int 6))) (λ_ Y=>some (true,Y)) (cF Dz) (.own [])),df []]
noncomputable def IP:aP:=dV 49
noncomputable def F2:aP:=aR (aR (dV 30) (dV 49)) (dK (.int 3))
noncomputable def yW:aP:=iS (bL [aR (dV 27) (dV 49),dV 17,dV 4] (cf pU 3 qP)) (cJ [dV 49])
noncomputable def sM:dc:=uV true (dV 49) (dV 26)
noncomputable def sB:bC:=aZ (bW (aO 52) (.nm 34) (sD (dV 21) [aR (dV 33) (dK (.int 1)),aR (dV 32) (dK (.int 1))] (cf nr 3 mo))) (aZ (dJ 4 (cJ [df [dV 34,nE false (dV 34)],df [dB .Sub (dC .Gt (aR (dV 33) (dK (.int 0))) (aR (dV 32) (dK (.int 0)))) (dC .Lt (aR (dV 33) (dK (.int 0))) (aR (dV 32) (dK (.int 0)))),dK (.bool false)]])) (aZ (bW (aO 52) (.nm 32) (om (tC .Gt (aR (dV 33) (dK (.int 0))) (aR (dV 32) (dK (.int 0)))) (dV 33) (dV 32))) cs))
noncomputable def se:bC:=aZ (bW (aO 52) (.nm 30) (aR (aR (dV 6) (aR (dV 26) (gO (dK (.int 1))))) (dK (.int 4)))) (aZ (gB (aO 52) [27,28] false [bL [dV 27,dV 30] (cf jW 2 jT),bL [dV 28,j5 (cM (cn [49] (.nm 49) (iK (dV 30)) (λ_ Y=>some (true,Y)) (ie IP F2) (.ownd [])))] (cf jW 2 jT)]) (aZ (jL 31 (jS (aO 52) 31 (cn [49] (.nm 49) (iL (some 22) (dV 22)) sM (cF yW) (.own [])))) (aZ (bW (aO 52) (.nm 32) (aR (dV 31) (dK (.int 0)))) (aZ (fc (aO 52) (.nm 33) (iL none (dV 31)) sB) (aZ (dJ 26 (aR (dV 32) (dK (.int 2)))) cs)))))
noncomputable def zG:aP:=dV 49
noncomputable def Al:aP:=aR (aR (dV 27) (dV 49)) (dK (.int 3))
noncomputable def wo:aP:=aR (aR (dV 6) (dV 49)) (dK (.int 3))
noncomputable def Ep:aP:=dB .Add (dV 49) (aR (dV 23) (dV 38))
noncomputable def tS:bC:=aZ (bW (aO 52) (.nm 37) (sC (dV 37) (cM (cn [49] (.nm 49) (iL none (dV 37)) (λ_ Y=>some (true,Y)) (cF Ep) (.own []))))) cs
noncomputable def uU:aP:=aR (dV 16) (bL [dV 49,dB .Sub (dK (.int 63)) (dV 49)] ml)
noncomputable def sJ:aP:=dB .Mult (gO (dK (.int 2))) (dV 49)
noncomputable def sK:aP:=dV 49
noncomputable def tP:aP:=aR (aR (dV 40) (dK (.int 4))) (dV 49)
noncomputable def pP:dc:=uV true (dV 49) (h7 (dV 26) (some (gO (dK (.int 2)))) none)
noncomputable def zf:aP:=dV 49
noncomputable def A0:aP:=dV 50
noncomputable def wN:dc:=tC .NotEq (dV 49) (dV 36)
noncomputable def Bp:bC:=aZ (jL 41 (jS (aO 52) 41 (cn [49,50] (.tp [(.nm 49),(.nm 50)]) (iI (aR (aR (dV 6) (dV 38)) (dK (.int 4)))) wN (ie zf A0) (.ownd [])))) (aZ (bW (aO 52) (.nm 42) (bL [dV 41] (cD zJ))) (aZ (jC 6 (dV 38) (iS (kq (aR (dV 6) (dV 38)) (dK (.int 4))) (cJ [bL [dV 41,j5 (nh (dV 35) (aR (aR (aR (dV 6) (dV 38)) (dK (.int 4))) (dV 36)))] (cf jW 2 jT)]))) (aZ (dJ 4 (cJ [dV 41,dV 42])) cs)))
noncomputable def xm:bC:=aZ (gx (tC .NotEq (dV 38) (dV 35)) Bp cs) cs
noncomputable def vX:bC:=aZ (gB (aO 52) [26,27,28] false [df [aR (dV 22) (dB .Mod (dB .FloorDiv (dB .FloorDiv (dV 15) (dK (.int 36))) (dB .Pow (dK (.int 6)) (dV 25))) (bL [dV 22] (cD iB)))],j5 ((λO Y=>some (.frd [],Y))),j5 ((λO Y=>some (.frd [],Y)))]) (aZ (fc (aO 52) (.nm 29) (iR (dB .Sub (bL [dV 22] (cD iB)) (dK (.int 1)))) se) (aZ (bW (aO 52) (.tp [(.nm 35),(.nm 36)]) (h7 (dV 26) (some (gO (dK (.int 2)))) none)) (aZ (dJ 24 (cJ [aR (dV 32) (dK (.int 0)),aR (dV 32) (dK (.int 1)),aR (dV 27) (dV 36),aR (dV 23) (dV 36)])) (aZ (dJ 4 (cJ [df [aR (dV 27) (dV 36),dV 28],df [kq (aR (dV 6) (dV 36)) (dK (.int 4)),cM (cn [49] (.nm 49) (iK (dV 27)) (λ_ Y=>some (true,Y)) (ie zG Al) (.ownd []))]])) (aZ (dJ 4 (cJ [bL [bL [dV 28] (cf oR 1 ot)] (cD nz),bL [bL [cM (cn [49] (.nm 49) (iL none (h7 (dV 26) none (some (gO (dK (.int 1)))))) (λ_ Y=>some (true,Y)) (cF wo) (.own []))] (cD jo)] (cD nz)])) (aZ (bW (aO 52) (.nm 37) (df [aR (dV 23) (dV 36)])) (aZ (fc (aO 52) (.nm 38) (iL none (h7 (dV 26) none (some (gO (dK (.int 2)))))) tS) (aZ (dJ 4 (cJ [bL [cM (cn [49] (.nm 49) (iL none (dV 37)) (λ_ Y=>some (true,Y)) (cF uU) (.own []))] ml,aR (dV 32) (dK (.int 0))])) (aZ (bW (aO 52) (.nm 39) (iS (bL [cM (cn [49] (.nm 49) (iT (aR (aR (aR (dV 6) (dV 35)) (dK (.int 4))) (dV 36))) (λ_ Y=>some (true,Y)) (cF sJ) (.own []))] (cD sO)) (cJ [(λO Y=>some (.frd [],Y))]))) (aZ (bW (aO 52) (.nm 40) (bL [bL [aR (dV 6) (dV 35),aR (dV 6) (dV 36)] (cf jf 2 jI),dV 39] (cf jf 2 jI))) (aZ (jC 6 (dV 35) (iS (kq (dV 40) (dK (.int 4))) (cJ [cM (cn [49] (.nm 49) (iK (aR (dV 40) (dK (.int 4)))) pP (ie sK tP) (.ownd []))]))) (aZ (na 23 (dV 35) (aR (dV 23) (dV 36))) (aZ (sL 22 (dV 36)) (aZ (fc (aO 52) (.nm 38) (iL (some 22) (dV 22)) xm) cs))))))))))))))
noncomputable def Az:bC:=fc (aO 52) (.nm 25) (iR (dK (.int 5))) vX
noncomputable def w4:bC:=bW (aO 52) (.nm 32) (aR (dV 24) (dK (.int 0)))
noncomputable def vt:bC:=aZ (dJ 4 (cJ [sD (dV 21) [aR (dV 33) (dK (.int 1)),aR (dV 32) (dK (.int 1))] (cf nr 3 mo),dB .Sub (dC .Gt (aR (dV 33) (dK (.int 0))) (aR (dV 32) (dK (.int 0)))) (dC .Lt (aR (dV 33) (dK (.int 0))) (aR (dV 32) (dK (.int 0))))])) (aZ (bW (aO 52) (.nm 32) (om (tC .Lt (aR (dV 33) (dK (.int 0))) (aR (dV 32) (dK (.int 0)))) (dV 33) (dV 32))) cs)
noncomputable def wl:bC:=fc (aO 52) (.nm 33) (iL (some 24) (dV 24)) vt
noncomputable def E2:aP:=bL [dB .Div (aR (dV 51) (dK (.int 0))) (dK (.int 64)),dB .Div (aR (dV 51) (dK (.int 1))) (dK (.int 64)),dB .Div (aR (dV 51) (dK (.int 2))) (dK (.int 64))] (cf lS 3 mX)
noncomputable def wM:dc:=tV (dB .BitAnd (dB .BitXor (dB .RShift (aR (dV 32) (dK (.int 3))) (dV 49)) (dB .RShift (aR (dV 32) (dK (.int 3))) (dV 50))) (dK (.int 1)))
noncomputable def wL:bC:=jL 43 (jB (aO 52) 43 (cM (cn [49,50,51] (.tp [(.nm 49),(.nm 50),(.nm 51)]) (iL (some 5) (dV 5)) wM (cF E2) (.own []))))
noncomputable def He:aP:=aR (dV 50) (dV 49)
noncomputable def Br:aP:=bL [cM (cn [50] (.nm 50) (iL none (dV 43)) (λ_ Y=>some (true,Y)) (cF He) (.own []))] (cD jo)
noncomputable def w9:bC:=jL 44 (jS (aO 52) 44 (cn [49] (.nm 49) (iR (dK (.int 3))) (λ_ Y=>some (true,Y)) (cF Br) (.own [])))
noncomputable def u7:bC:=bW (aO 52) (.nm 45) (bL [aR (dV 44) (dK (.int 0)),aR (dV 44) (dK (.int 1)),aR (dV 44) (dK (.int 2))] (cf oq 3 m8))
noncomputable def BM:aP:=bL [dB .Sub (dB .Mult (dK (.int 64)) (aR (dV 45) (dV 49))) (aR (aR (dV 32) (dK (.int 2))) (dV 49))] (cD tR)
noncomputable def xe:bC:=bW (aO 52) (.nm 46) (bL [cM (cn [49] (.nm 49) (iR (dK (.int 3))) (λ_ Y=>some (true,Y)) (cF BM) (.own []))] nC)
noncomputable def vO:bC:=dJ 4 (cJ [df [nE true (dV 45),dC .Lt (dB .Mult (dV 46) (dB .Pow (dK (.int 10)) (dK (.int 9)))) (dK (.int 1))],df [dK (.bool true),dK (.bool true)]])
noncomputable def vw:aP:=bL [dB .Sub (dB .Mult (dK (.int 8)) (aR (dV 30) (dV 49))) (bL [dK (.int 0),bL [dK (.int 8),dB .Sub (aR (dV 48) (dV 49)) (aR (aR (dV 32) (dK (.int 2))) (dV 49))] ml] nC)] (cD tR)
noncomputable def uO:bC:=aZ (bW (aO 52) (.nm 34) (bL [dB .Div (aR (dV 48) (dK (.int 0))) (dK (.int 64)),dB .Div (aR (dV 48) (dK (.int 1))) (dK (.int 64)),dB .Div (aR (dV 48) (dK (.int 2))) (dK (.int 64))] (cf lS 3 mX))) (aZ (bW (aO 52) (.nm 30) (bL [dB .Mult (dK (.int 8)) (dB .Sub (aR (dV 34) (dK (.int 0))) (aR (dV 44) (dK (.int 0)))),dB .Mult (dK (.int 8)) (dB .Sub (aR (dV 34) (dK (.int 1))) (aR (dV 44) (dK (.int 1)))),dB .Mult (dK (.int 8)) (dB .Sub (aR (dV 34) (dK (.int 2))) (aR (dV 44) (dK (.int 2))))] (cf oq 3 m8))) (aZ (bW (aO 52) (.nm 46) (bL [cM (cn [49] (.nm 49) (iR (dK (.int 3))) (λ_ Y=>some (true,Y)) (cF vw) (.own []))] nC)) (aZ (dJ 4 (cJ [df [nE true (dV 30),dC .Lt (dB .Mult (dV 46) (dB .Pow (dK (.int 10)) (dK (.int 9)))) (dK (.int 1))],df [dK (.bool true),dK (.bool true)]])) cs)))
noncomputable def wq:bC:=fc (aO 52) (.tp [(.nm 47),(.nm 33),(.nm 48),(.nm 20)]) (iL (some 24) (dV 24)) uO
noncomputable def uT:aP:=dV 49
noncomputable def qR:dc:=Bc (aR (dV 49) (dK (.int 0))) (aR (dV 49) (dK (.int 1)))
noncomputable def AF:bC:=AK 4 (BI (cM (cn [49] (.nm 49) (iL (some 4) (dV 4)) qR (cF uT) (.own []))))
noncomputable def zS:bC:=aZ vY (aZ wd (aZ vZ (aZ xp (aZ xv (aZ vz (aZ vI (aZ Az (aZ w4 (aZ wl (aZ wL (aZ w9 (aZ u7 (aZ xe (aZ vO (aZ wq (aZ AF (cs)))))))))))))))))
noncomputable def tZ:bC:=aZ (jB (aO 52) 1 (df [dK (.int 1850),dK (.int 7569),dK (.int 13314),dK (.int 19008),dK (.int 24733),dK (.int 30479),dK (.int 36185),dK (.int 41904),dK (.int 47630),dK (.int 53455),dK (.int 59163),dK (.int 64809),dK (.int 70524),dK (.int 76253),dK (.int 81982),dK (.int 42970)])) (aZ (fc (aO 52) (.tp [(.nm 2),(.nm 3)]) (iE none (h7 (dV 0) none (some (dK (.int 60))))) zg) (EN 4 (gB (aO 52) [4,5] false [df [],df []]) zS))
theorem Wm{w:aY}{A:bx}(b:bh)(d:cz)(hR:di 3 A)(hs:d.scope=fS (bB 18)):dn w A (cH none b d dL) [1,4,5,6,16,22,23,24,26] (fB (bB 18)) tZ:=
 jF (P:=λv=>dn w A (cH none b v dL) _ _ _) (λe f g j k l m o=>bq (Ay 1 rfl rfl rfl cx) (bq (iU (.tp [(.nm 2),(.nm 3)]) true none hR.h rfl (λ_=>rfl) rfl (by decide) (G9 hR.h none rfl rfl (rj (λ_ _=>rfl) cx ij.none (ij.some cx))) (bq (Bu (i:=1) rfl rfl rfl rfl (by decide) cx cx) cG)) (L3 (F:=(cH none b {scope:=fS (bB 18),locals:=e,globals:=f,cells:=g,qual:=j,func:=k,code:=l,frame:=m,builtins:=o} dL)) (i:=4) rfl (by decide) rfl (tT hR.h (is:=[4,5]) rfl rfl rfl (aN.cons cx rfl (aN.cons cx rfl aN.nil))) (λa q=>(show dn w A (cH (some a) b {scope:=fS (bB 18),locals:=e,globals:=f,cells:=g,qual:=j,func:=k,code:=l,frame:=m,builtins:=o} dL) [1,4,5,6,16,22,23,24,26] _ _ from bq (AQ (i:=6) (gy hR.h (tg:=false) (ow:=none) (p:=(.nm 49)) (nm':=(nq dL 49 [] [some "name",none,none])) (wr':=[49]) (eI rfl) rfl (λh=>nomatch h) rfl (jZ hR.h rfl rfl cx) (λn J=>fM) (λn=>fP rfl (aN.cons cx rfl (aN.cons cx rfl (aN.cons cx rfl (aN.cons cx rfl (aN.cons sU rfl aN.nil))))))) rfl rfl rfl) (bq (iU (.tp [(.nm 2),(.tp [(.nm 7),(.nm 8)])]) true none hR.h rfl (λ_=>rfl) rfl (by decide) (G9 hR.h none rfl rfl (O9 hR.h (tg:=false) (ow:=none) (p:=(.nm 49)) (nm':=(nq dL 49 [] [some "two",some "one",none])) (wr':=[49,50]) (p2:=(.nm 50)) (tg2:=false) (eI rfl) rfl (λh=>nomatch h) rfl (jZ hR.h rfl rfl cx) rfl (λh=>nomatch h) rfl (λn=>P0 hR.h rfl rfl cx) (λn=>cx))) (bq (dd 9 hR.h rfl rfl rfl cx) (bq (dd 10 hR.h rfl rfl rfl (oV (T:="str") (id:="str.join") rfl pu adt adu EL rfl rfl rfl cx (aN.cons (gy hR.h (tg:=false) (ow:=none) (p:=(.nm 49)) (nm':=(nq dL 49 [9] [some "k",none,none])) (wr':=[49]) (eI rfl) rfl (λh=>nomatch h) rfl (jZ hR.h rfl rfl cx) (λn J=>fM) (λn=>ZO cx cx rfl)) rfl aN.nil))) (bq (dd 11 hR.h rfl rfl rfl (fL (x:="_law_typed") rfl rfl rfl (Er _) rfl (by decide) (aN.cons cx rfl (aN.cons cx rfl aN.nil)) (Vd (hR.le (by decide))))) (bq (qY 12 (y:=aK "gone") rfl (wY hR.h (i:=12) (tg:=false) (ow:=none) (p:=(.nm 49)) (nm':=(nq dL 49 [] [some "sign",none,none])) (wr':=[49]) rfl rfl (eI rfl) rfl (λh=>nomatch h) rfl (hH hR.h none cx) (λn J=>fM) (λn=>fL (x:="in_table_b1") rfl rfl rfl (EF _) rfl (by decide) (aN.cons cx rfl aN.nil) (PI (hR.le (by decide)))))) (bq (dd 13 hR.h rfl rfl rfl (oV (T:="str") (id:="str.join") rfl pu adt adu EL rfl rfl rfl cx (aN.cons (gy hR.h (tg:=true) (ow:=none) (p:=(.tp [(.nm 49),(.nm 50)])) (nm':=(nq dL 49 [] [some "sign",some "out",none])) (wr':=[49,50]) (eI rfl) rfl (λ_=>rfl) rfl (Dk hR.h rfl (aN.cons cx rfl (aN.cons cx rfl aN.nil))) (λn J=>oP (λH h=>(show gA w A _ _ sT from aaj (AP cx rfl)) H h)) (λn=>fL (x:="map_table_b3") rfl rfl rfl (Hx _) rfl (by decide) (aN.cons cx rfl aN.nil) (OI (hR.le (by decide))))) rfl aN.nil))) (bq (g7 (i:=4) rfl rfl rfl (by decide) rfl rfl rfl (fP rfl (aN.cons (gy hR.h (tg:=false) (ow:=none) (p:=(.nm 49)) (nm':=(nq dL 49 [] [some "out",none,none])) (wr':=[49]) (eI rfl) rfl (λh=>nomatch h) rfl (hH hR.h none cx) (λn J=>fM) (λn=>fP rfl (aN.cons (kg cx cx rfl) rfl (aN.cons (kg cx cx rfl) rfl aN.nil)))) rfl (aN.cons (gy hR.h (tg:=false) (ow:=none) (p:=(.nm 49)) (nm':=(nq dL 49 [] [some "k",none,none])) (wr':=[49]) (eI rfl) rfl (λh=>nomatch h) rfl (jZ hR.h rfl rfl (fi (x:="len") rfl rfl rfl gm uR)) (λn J=>fM) (λn=>fP rfl (aN.cons (kg cx cx rfl) rfl (aN.cons (kg cx cx rfl) rfl aN.nil)))) rfl aN.nil)))) (bq (g7 (i:=4) rfl rfl rfl (by decide) rfl rfl rfl cx) (bq (dd 14 hR.h rfl rfl rfl (fP rfl (aN.cons (oV (T:="str") (id:="str.count") rfl pu Kb Kc zI rfl rfl rfl cx gm) rfl (aN.cons (oV (T:="str") (id:="str.count") rfl pu Kb Kc zI rfl rfl rfl cx gm) rfl (aN.cons (oV (T:="str") (id:="str.count") rfl pu Kb Kc zI rfl rfl rfl cx gm) rfl (aN.cons (fi (x:="len") rfl rfl rfl gm uR) rfl aN.nil)))))) (bq (g7 (i:=5) rfl rfl rfl (by decide) rfl rfl rfl cx) (bq (oB (i:=6) rfl rfl rfl rfl rfl (by decide) (fL (x:="add_func_stats") rfl rfl rfl (tx _) rfl (by decide) (aN.cons cx rfl (aN.cons (qO cx (fP rfl (aN.cons (yB cx cx) rfl aN.nil))) rfl aN.nil)) (uZ (hR.le (by decide)))) cx) (bq (oB (i:=6) rfl rfl rfl rfl rfl (by decide) (fL (x:="add_func_stats") rfl rfl rfl (tx _) rfl (by decide) (aN.cons cx rfl (aN.cons (qO cx (fP rfl (aN.cons (yB cx cx) rfl aN.nil))) rfl aN.nil)) (uZ (hR.le (by decide)))) cx) cG)))))))))))) (bq (tT hR.h (is:=[15,16]) rfl rfl rfl (aN.cons cx rfl (aN.cons cx rfl aN.nil))) (bq (dd 17 hR.h rfl rfl rfl cx) (bq (qY 18 (y:=aK "ranks") rfl (wY hR.h (i:=18) (tg:=false) (ow:=(some 5)) (p:=(.tp [(.nm 49),(.nm 50),(.nm 51)])) (nm':=(nq dL 49 [17] [some "one",some "two",some "bond"])) (wr':=[49,50,51]) rfl rfl (eI rfl) rfl (λh=>nomatch h) rfl (hH hR.h (some 5) cx) (λn J=>fM) (λn=>fP rfl (aN.cons cx rfl (aN.cons cx rfl (aN.cons (fL (x:="_law_rank") rfl rfl rfl (AH _) rfl (by decide) (aN.cons (fL (x:="_law_whole") rfl rfl rfl (zT _) rfl (by decide) (aN.cons cx rfl aN.nil) (IK (hR.le (by decide)))) rfl (aN.cons cx rfl aN.nil)) (DT (hR.le (by decide)))) rfl aN.nil)))))) (bq (iU (.nm 19) false none hR.h rfl (λh=>nomatch h) rfl (by decide) (jZ hR.h rfl rfl cx) (bq (AQ (i:=20) (gy hR.h (tg:=false) (ow:=none) (p:=(.nm 49)) (nm':=(nq dL 49 [19] [some "name",none,none])) (wr':=[49]) (eI rfl) rfl (λh=>nomatch h) rfl (jZ hR.h rfl rfl cx) (λn J=>fM) (λn=>cx)) rfl rfl rfl) (bq (g7 (i:=16) rfl rfl rfl (by decide) rfl rfl rfl (fi (x:="sum") rfl rfl rfl (aN.cons (gy hR.h (tg:=false) (ow:=none) (p:=(.tp [(.nm 49),(.nm 50),(.nm 51)])) (nm':=(nq dL 49 [20] [some "one",some "two",some "rank"])) (wr':=[49,50,51]) (eI rfl) rfl (λh=>nomatch h) rfl (hH hR.h none cx) (λn J=>oP (λH h=>(show gA w A _ _ sr from hJ cx cx rfl) H h)) (λn=>cx)) rfl aN.nil) (u8 hR.h))) cG))) (bq (tT hR.h (is:=[21,22,23,24]) rfl rfl rfl (aN.cons (XI (n:=0) (hR.le (by decide)) rfl rfl cx) rfl (aN.cons (QC hR.h rfl rfl rfl cx) rfl (aN.cons (gy hR.h (tg:=false) (ow:=none) (p:=(.nm 49)) (nm':=(nq dL 49 [] [some "name",none,none])) (wr':=[49]) (eI rfl) rfl (λh=>nomatch h) rfl (jZ hR.h rfl rfl cx) (λn J=>fM) (λn=>cx)) rfl (aN.cons cx rfl aN.nil))))) (bq (iU (.nm 25) false none hR.h rfl (λh=>nomatch h) rfl (by decide) (jZ hR.h rfl rfl cx) (bq (tT hR.h (is:=[26,27,28]) rfl rfl rfl (aN.cons (mW rfl (aN.cons (sF cx (nK cx (fi (x:="len") rfl rfl rfl gm uR)) rfl) rfl aN.nil)) rfl (aN.cons (vS (sU)) rfl (aN.cons (vS (sU)) rfl aN.nil)))) (bq (iU (.nm 29) false none hR.h rfl (λh=>nomatch h) rfl (by decide) (jZ hR.h rfl rfl (nK (fi (x:="len") rfl rfl rfl gm uR) cx)) (bq (dd 30 hR.h rfl rfl rfl cx) (bq (tT hR.h (is:=[27,28]) rfl rfl rfl (aN.cons (fL (x:="add_callers") rfl rfl rfl (tf _) rfl (by decide) (aN.cons cx rfl (aN.cons cx rfl aN.nil)) (xl (hR.le (by decide)))) rfl (aN.cons (fL (x:="add_callers") rfl rfl rfl (tf _) rfl (by decide) (aN.cons cx rfl (aN.cons (vS (zc hR.h (tg:=false) (ow:=none) (p:=(.nm 49)) (nm':=(nq dL 49 [30] [some "name",none,none])) (wr':=[49]) (eI rfl) rfl (λh=>nomatch h) rfl (Ak hR.h cx) (λn J=>fM) (λn=>cx) (λn=>cx))) rfl aN.nil)) (xl (hR.le (by decide)))) rfl aN.nil))) (bq (qY 31 (y:=aK "rows") rfl (wY hR.h (i:=31) (tg:=false) (ow:=(some 22)) (p:=(.nm 49)) (nm':=(nq dL 49 [4,17,26,27] [some "name",none,none])) (wr':=[49]) rfl rfl (eI rfl) rfl (λh=>nomatch h) rfl (hH hR.h (some 22) cx) (λn J=>oP (λH h=>(show gA w A _ _ sM from E9 true cx cx rfl) H h)) (λn=>qO (fL (x:="_law_row") rfl rfl rfl (Gv _) rfl (by decide) (aN.cons cx rfl (aN.cons cx rfl (aN.cons cx rfl aN.nil))) (aaC (hR.le (by decide)))) cx))) (bq (dd 32 hR.h rfl rfl rfl cx) (bq (iU (.nm 33) false none hR.h rfl (λh=>nomatch h) rfl (by decide) (hH hR.h none cx) (bq (dd 34 hR.h rfl rfl rfl (Gz (FT (hR.le (by decide))) rfl rfl cx gm)) (bq (g7 (i:=4) rfl rfl rfl (by decide) rfl rfl rfl (fP rfl (aN.cons (mW rfl (aN.cons cx rfl (aN.cons (sA (c:=false) rfl rfl rfl cx) rfl aN.nil))) rfl (aN.cons (mW rfl (aN.cons (nK (kg cx cx rfl) (kg cx cx rfl)) rfl (aN.cons cx rfl aN.nil))) rfl aN.nil)))) (bq (dd 32 hR.h rfl rfl rfl (HX (hJ cx cx rfl) cx cx)) cG)))) (bq (g7 (i:=26) rfl rfl rfl (by decide) rfl rfl rfl cx) cG))))))) (bq (xw hR.h (p:=(.tp [(.nm 35),(.nm 36)])) (rj (λ_ _=>rfl) cx (ij.some cx) ij.none) rfl rfl rfl rfl) (bq (g7 (i:=24) rfl rfl rfl (by decide) rfl rfl rfl cx) (bq (g7 (i:=4) rfl rfl rfl (by decide) rfl rfl rfl (fP rfl (aN.cons cx rfl (aN.cons (mW rfl (aN.cons (zQ cx cx) rfl (aN.cons (zc hR.h (tg:=false) (ow:=none) (p:=(.nm 49)) (nm':=(nq dL 49 [27] [some "name",none,none])) (wr':=[49]) (eI rfl) rfl (λh=>nomatch h) rfl (Ak hR.h cx) (λn J=>fM) (λn=>cx) (λn=>cx)) rfl aN.nil))) rfl aN.nil)))) (bq (g7 (i:=4) rfl rfl rfl (by decide) rfl rfl rfl (fP rfl (aN.cons (sR (x:="str") rfl rfl rfl (aN.cons (fL (x:="count_calls") rfl rfl rfl (Gu _) rfl (by decide) (aN.cons cx rfl aN.nil) (ND (hR.le (by decide)))) rfl aN.nil) Ec) rfl (aN.cons (sR (x:="str") rfl rfl rfl (aN.cons (fi (x:="sum") rfl rfl rfl (aN.cons (gy hR.h (tg:=false) (ow:=none) (p:=(.nm 49)) (nm':=(nq dL 49 [6] [some "name",none,none])) (wr':=[49]) (eI rfl) rfl (λh=>nomatch h) rfl (hH hR.h none (rj (λ_ _=>rfl) cx ij.none (ij.some cx))) (λn J=>fM) (λn=>cx)) rfl aN.nil) (u8 hR.h)) rfl aN.nil) Ec) rfl aN.nil)))) (bq (dd 37 hR.h rfl rfl rfl cx) (bq (iU (.nm 38) false none hR.h rfl (λh=>nomatch h) rfl (by decide) (hH hR.h none (rj (λ_ _=>rfl) cx ij.none (ij.some cx))) (bq (dd 37 hR.h rfl rfl rfl (AW cx (gy hR.h (tg:=false) (ow:=none) (p:=(.nm 49)) (nm':=(nq dL 49 [23,38] [some "part",none,none])) (wr':=[49]) (eI rfl) rfl (λh=>nomatch h) rfl (hH hR.h none cx) (λn J=>fM) (λn=>cx)))) cG)) (bq (g7 (i:=4) rfl rfl rfl (by decide) rfl rfl rfl (fP rfl (aN.cons (fi (x:="min") rfl rfl rfl (aN.cons (gy hR.h (tg:=false) (ow:=none) (p:=(.nm 49)) (nm':=(nq dL 49 [16] [some "part",none,none])) (wr':=[49]) (eI rfl) rfl (λh=>nomatch h) rfl (hH hR.h none cx) (λn J=>fM) (λn=>sF cx (fi (x:="min") rfl rfl rfl gm (Av hR.h)) rfl)) rfl aN.nil) (Av hR.h)) rfl (aN.cons cx rfl aN.nil)))) (bq (dd 39 hR.h rfl rfl rfl (qO (sR (x:="tuple") rfl rfl rfl (aN.cons (gy hR.h (tg:=false) (ow:=none) (p:=(.nm 49)) (nm':=(nq dL 49 [] [some "part",none,none])) (wr':=[49]) (eI rfl) rfl (λh=>nomatch h) rfl (RB hR.h cx) (λn J=>fM) (λn=>cx)) rfl aN.nil) S2) (fP rfl (aN.cons sU rfl aN.nil)))) (bq (dd 40 hR.h rfl rfl rfl (fL (x:="add_func_stats") rfl rfl rfl (tx _) rfl (by decide) (aN.cons (fL (x:="add_func_stats") rfl rfl rfl (tx _) rfl (by decide) (aN.cons cx rfl (aN.cons cx rfl aN.nil)) (uZ (hR.le (by decide)))) rfl (aN.cons cx rfl aN.nil)) (uZ (hR.le (by decide))))) (bq (oB (i:=6) rfl rfl rfl rfl rfl (by decide) (qO (zQ cx cx) (fP rfl (aN.cons (zc hR.h (tg:=false) (ow:=none) (p:=(.nm 49)) (nm':=(nq dL 49 [26,40] [some "name",none,none])) (wr':=[49]) (eI rfl) rfl (λh=>nomatch h) rfl (Ak hR.h cx) (λn J=>oP (λH h=>(show gA w A _ _ pP from E9 true cx (rj (λ_ _=>rfl) cx (ij.some cx) ij.none) rfl) H h)) (λn=>cx) (λn=>cx)) rfl aN.nil))) cx) (bq (Bu (i:=23) rfl rfl rfl rfl (by decide) cx cx) (bq (Ug (i:=22) rfl rfl rfl (by decide) rfl rfl rfl cx) (bq (Bv (mt:=[1,4,5,6,16,23,24,26]) (by decide) (iU (.nm 38) false (some 22) hR.h rfl (λh=>nomatch h) rfl (by decide) (hH hR.h (some 22) cx) (bq (jj (hJ cx cx rfl) (bq (qY 41 (y:=aK "kept") rfl (Xo hR.h (i:=41) (tg:=true) (ow:=none) (p:=(.tp [(.nm 49),(.nm 50)])) (nm':=(nq dL 49 [36] [some "one",some "bond",none])) (wr':=[49,50]) rfl rfl (eI rfl) rfl (λ_=>rfl) rfl (Be hR.h rfl rfl cx) (λn J=>oP (λH h=>(show gA w A _ _ wN from hJ cx cx rfl) H h)) (λn=>cx) (λn=>cx))) (bq (dd 42 hR.h rfl rfl rfl (sR (x:="dict") rfl rfl rfl gm U4)) (bq (oB (i:=6) rfl rfl rfl rfl rfl (by decide) (qO (zQ cx cx) (fP rfl (aN.cons (fL (x:="add_callers") rfl rfl rfl (tf _) rfl (by decide) (aN.cons cx rfl (aN.cons (vS (yB cx cx)) rfl aN.nil)) (xl (hR.le (by decide)))) rfl aN.nil))) cx) (bq (g7 (i:=4) rfl rfl rfl (by decide) rfl rfl rfl cx) cG)))) cG) cG))) cG)))))))))))))))) (bq (dd 32 hR.h rfl rfl rfl cx) (bq (Bv (mt:=[1,4,5,6,16,22,23,26]) (by decide) (iU (.nm 33) false (some 24) hR.h rfl (λh=>nomatch h) rfl (by decide) (hH hR.h (some 24) cx) (bq (g7 (i:=4) rfl rfl rfl (by decide) rfl rfl rfl (fP rfl (aN.cons (Gz (FT (hR.le (by decide))) rfl rfl cx gm) rfl (aN.cons (nK (kg cx cx rfl) (kg cx cx rfl)) rfl aN.nil)))) (bq (dd 32 hR.h rfl rfl rfl (HX (hJ cx cx rfl) cx cx)) cG)))) (bq (qY 43 (y:=aK "tones") rfl (AQ (i:=43) (gy hR.h (tg:=false) (ow:=(some 5)) (p:=(.tp [(.nm 49),(.nm 50),(.nm 51)])) (nm':=(nq dL 49 [32] [some "one",some "two",some "bond"])) (wr':=[49,50,51]) (eI rfl) rfl (λh=>nomatch h) rfl (hH hR.h (some 5) cx) (λn J=>oP (λH h=>(show gA w A _ _ wM from AP cx rfl) H h)) (λn=>fL (x:="rgb_to_yiq") rfl rfl rfl (wj _) rfl (by decide) (aN.cons cx rfl (aN.cons cx rfl (aN.cons cx rfl aN.nil))) (y9 (hR.le (by decide))))) rfl rfl rfl)) (bq (qY 44 (y:=aK "tone") rfl (wY hR.h (i:=44) (tg:=false) (ow:=none) (p:=(.nm 49)) (nm':=(nq dL 49 [43] [some "k",none,none])) (wr':=[49]) rfl rfl (eI rfl) rfl (λh=>nomatch h) rfl (jZ hR.h rfl rfl cx) (λn J=>fM) (λn=>fi (x:="sum") rfl rfl rfl (aN.cons (gy hR.h (tg:=false) (ow:=none) (p:=(.nm 50)) (nm':=(nq dL 49 [] [some "k",some "part",none])) (wr':=[50]) (eI rfl) rfl (λh=>nomatch h) rfl (hH hR.h none cx) (λn J=>fM) (λn=>cx)) rfl aN.nil) (u8 hR.h)))) (bq (dd 45 hR.h rfl rfl rfl (fL (x:="yiq_to_rgb") rfl rfl rfl (ze _) rfl (by decide) (aN.cons cx rfl (aN.cons cx rfl (aN.cons cx rfl aN.nil))) (IU (hR.le (by decide))))) (bq (dd 46 hR.h rfl rfl rfl (fi (x:="max") rfl rfl rfl (aN.cons (gy hR.h (tg:=false) (ow:=none) (p:=(.nm 49)) (nm':=(nq dL 49 [32,45] [some "k",none,none])) (wr':=[49]) (eI rfl) rfl (λh=>nomatch h) rfl (jZ hR.h rfl rfl cx) (λn J=>fM) (λn=>fi (x:="abs") rfl rfl rfl gm Aa)) rfl aN.nil) (wA hR.h))) (bq (g7 (i:=4) rfl rfl rfl (by decide) rfl rfl rfl (fP rfl (aN.cons (mW rfl (aN.cons (sA (c:=true) rfl rfl rfl cx) rfl (aN.cons (kg cx cx rfl) rfl aN.nil))) rfl (aN.cons cx rfl aN.nil)))) (bq (Bv (mt:=[1,4,5,6,16,22,23,26]) (by decide) (iU (.tp [(.nm 47),(.nm 33),(.nm 48),(.nm 20)]) false (some 24) hR.h rfl (λh=>nomatch h) rfl (by decide) (hH hR.h (some 24) cx) (bq (dd 34 hR.h rfl rfl rfl (fL (x:="rgb_to_yiq") rfl rfl rfl (wj _) rfl (by decide) (aN.cons cx rfl (aN.cons cx rfl (aN.cons cx rfl aN.nil))) (y9 (hR.le (by decide))))) (bq (dd 30 hR.h rfl rfl rfl (fL (x:="yiq_to_rgb") rfl rfl rfl (ze _) rfl (by decide) (aN.cons cx rfl (aN.cons cx rfl (aN.cons cx rfl aN.nil))) (IU (hR.le (by decide))))) (bq (dd 46 hR.h rfl rfl rfl (fi (x:="max") rfl rfl rfl (aN.cons (gy hR.h (tg:=false) (ow:=none) (p:=(.nm 49)) (nm':=(nq dL 49 [30,32,48] [some "k",none,none])) (wr':=[49]) (eI rfl) rfl (λh=>nomatch h) rfl (jZ hR.h rfl rfl cx) (λn J=>fM) (λn=>fi (x:="abs") rfl rfl rfl (aN.cons (nK cx (fi (x:="max") rfl rfl rfl (aN.cons cx rfl (aN.cons (fi (x:="min") rfl rfl rfl gm (Av hR.h)) rfl aN.nil)) (wA hR.h))) rfl aN.nil) Aa)) rfl aN.nil) (wA hR.h))) (bq (g7 (i:=4) rfl rfl rfl (by decide) rfl rfl rfl (fP rfl (aN.cons (mW rfl (aN.cons (sA (c:=true) rfl rfl rfl cx) rfl (aN.cons (kg cx cx rfl) rfl aN.nil))) rfl (aN.cons cx rfl aN.nil)))) cG)))))) (bq (OG (F:=(cH none b {scope:=fS (bB 18),locals:=e,globals:=f,cells:=g,qual:=j,func:=k,code:=l,frame:=m,builtins:=o} dL)) (i:=4) rfl q rfl (Tt (n:=0) (hR.le (by decide)) (gy hR.h (tg:=false) (ow:=(some 4)) (p:=(.nm 49)) (nm':=(nq dL 49 [] [some "pair",none,none])) (wr':=[49]) (eI rfl) rfl (λh=>nomatch h) rfl (hH hR.h (some 4) cx) (λn J=>oP (λH h=>(show gA w A _ _ qR from Z0 (n:=0) (hR.le (by decide)) cx cx rfl) H h)) (λn=>cx)))) (cG)))))))))))))))))))))) d hs
noncomputable def qN(h:bh):Fz:=λb=>if b=eB then none else h.get? b
theorem Dg(P:bX):(HF P).get? 51=some (LJ P):=by kernel_rfl
theorem Iu(P:bX):(HF P).get? 170=some (jM (bB 18) (aK "law") (.str (aK "law_xh0036_01") 2323) 169):=by kernel_rfl
theorem LA(P:bX):(HF P).get? 169=some (Xw P):=by kernel_rfl
theorem Yh(P:bX):(rG (gE P) (aK "law")==some (.ref 170))=true:=by kernel_rfl
theorem NT(P:bX):(HF P).objs.size=171:=by kernel_rfl
theorem EZ(P:bX){a:aJ}{o:bK}(e:(HF P).get? a=some o):(qK P).lookup a=some o:=by
 have c:a<171:=by rw[<- NT P];exact cg e
 have key:∀ l:List aJ,a∈l->(l.map λa=>(a,((HF P).get? a).getD default)).lookup a=some o:=by
  intro l;induction l with
  |nil=>intro h;cases h
  |cons b l d=>
   intro h;rw[cB,pj];by_cases q:a=b
   ·subst q;simp[e]
   ·rw[show(a==b)=false from by simpa using q];exact d (by simpa [q] using h)
 refine key _ ?_;unfold wB;exact eu.mpr c
theorem ints_of:∀ {a:List WData},WShape.hasItems [] a .int=true->∃ l:List Int,a=l.map jQ:=by
 intro b;induction b with
 |nil=>
  intro _;exact⟨[],rfl⟩
 |cons x a c=>
  intro h;replace h:=ee h;refine aQ λe=>aU (c h.2) λl d=>?_;subst d;refine aU (hasW_int h.1) λi d=>?_;subst d;exact e ⟨i::l,rfl⟩
theorem QS{w:aY}{Z:Fz}{R:WRecords}{d:Str->Option aJ}{h:bh}:∀ {l:List Int} {c:List aI} {as:List aJ},C6 R d h c (l.map jQ) as->bm w Z (l.map T.int) c:=by
 intro a;induction a with
 |nil=>
  intro _ _ r;cases r;simp only[rS];show _=_;rfl
 |cons i l b=>
  intro _ _ r;rw[cB]at r;cases r with
  |cons e f=>
   cases e
   rw[cB];exact⟨_,_,rfl,by exact⟨_,rfl⟩,b f⟩
theorem Zn{R:WRecords}{d:Str->Option aJ}{h:bh}{l:List Int}{b:List aI}{as:List aJ}(r:C6 R d h b [.list (l.map jQ)] as):
  ∃ a o e n c,b=[.ref a]/\h.get? a=some o/\o.cls=.type "list"/\o.data=.seq e n/\C6 R d h e.toList (l.map jQ) c:=by
 cases r with
 |cons f g=>
  cases g
  cases f with
  |list i j k m=>exact⟨_,_,_,_,_,rfl,i,j,k,m⟩
theorem aba{args:List WData}(h:(uf.row.toRowW).claim.pre args=true):∃ l:List Int,args=[.list (l.map jQ)]/\l.length<=63:=by
 refine aQ λb=>bn (pre_splitW h) λh1 h2=>bG (hasAllW_cons (R:=[]) (e:=.list .int) (es:=[]) h1) λd r c h3 h4=>?_;subst c;have f:r=[]:=by
  cases r with
  |nil=>rfl
  |cons x y=>exact nomatch h4
 subst f;refine aV (hasW_list h3) λg a h5=>?_;subst a;refine aU (ints_of h5) λl a=>?_;subst a;refine b ⟨l,rfl,?_⟩;replace h2:Kd [] (.and (.not (.lt (.lit (.int 63)) (.len (.arg 0)))) (.lit (.bool true))) {args:=[Ke (l.map jQ)]}=true:=h2;by_cases q:l.length<=63
 ·exact q
 ·exfalso;simp[Kd,WTm.value,less?,Num.less?,show(63:Int)<l.length by exact PO q]at h2
noncomputable def To:cz:={scope:=fS (bB 18),locals:=0,globals:=3,cells:=[],qual:=aK "",func:=none,code:=.none,frame:=none,builtins:=0}
noncomputable def Fy(h:bh):Fx:=cH none h To []
theorem call_top{w:aY}{a:aL}{E:aI->aL->Prop}{A:bx}{n:Nat}(hR:di (n+1) A){Z:Fz}(M:On Z a.heap)(N:Md w Z)(j:a.gens=#[])(b:jy a.heap #[])(u:171<=a.heap.objs.size){fd:um}{f c:aJ}{o P:bK}{body:List dw}{nm:List (Option Str)}{Q:List Str}{mt:List Nat}{g:bC}{l:Array aI}{tk:dz}
  (R:a.heap.get? f=some o) (hd:o.data=.func fd) (V:a.heap.get? c=some P) (W:P.data=.fields l) (hq:l[1]?=some (.str fd.qualname tk)) (k:fd.code=.ref c)
  (X:fd.scope.isCoroutine=false) (y:fd.scope.isGenerator=false) (m:fd.body=.stmts body) (a0:fd.globals=nY) (a1:fd.closure=[]) (a2:fd.builtins=n0)
  (a3:tJ fd.scope nm Q) {v:aI} {p:Str} (hp:Q=[p]) (r:yk fd ⟨[v],[]⟩=pure (Q.zip [v]))
  (hB:∀ (A':bx) (z:bh) (h:cz),di n A'->h.scope=fd.scope->dn w A' (cH none z h nm) mt body g)
  {t:T} (B:Rd w Z t v) {U:List S} (C:g (ic nm [.v t]) []=some (.ret (.v (.bool true)),U,[])) :
  bc (model pw w) A (Jr (.ref f) [v]) (λv H=>v=.bool true/\OldK a.heap H.heap/\H.os=a.os/\mI H.gens) E a:=by
 subst hp;have a4:cR w (Fy a.heap) (λ_=>0) [] a.heap.objs.size Z a.heap [.v t] [v]:=⟨_,_,rfl,B,rfl⟩;refine wpAny_call (JN (by have:=hR.d;show A.depth<1000;exact HM this) R hd X y m ⟨c,P,l,tk,k,V,W,hq⟩ ?_);rw[r];refine cm ?_;rw[a0,a1,a2,k];refine Fd (F:=Fy a.heap) (nm:=nm) (Y:=[]) (ps:=[p]) (J:=λ_=>0) (O:=[]) (show fq w _ none [] _ from rfl) M N (by rw[j];exact λx B=>by simp at B) ⟨_,b⟩ u a3 a4 (ss:=[.v t]) rfl rfl
  λh H h1 h2 h3 h4 h5 I K=>⟨rY I.md I.on,?_⟩
 refine JO (hB (A.deeper h) a.heap h (hR.deeper h) h1 I C _ _ λfl a5 Z2 s2 L H2 o2=>?_);refine aQ λnG=>aV o2 λv y1 r2=>?_;clear o2;subst y1;refine nG ?_;replace r2:_=_:=r2;subst r2;have s:∀ (i:Nat) (S:Mine.Internal.S),(ic nm [.v t])[i]?=some S->S.adD->False:=λi S e o=>by
  unfold ic at e;rw[CQ]at e;split at e
  ·have:=ke e;rw[jd]at this;rw[this]at o;exact o
  ·have:=ke e;rw[yj]at this;rw[this.2]at o;exact o
 have D:∀ c o,c≠eB->a.heap.get? c=some o->s2.heap.get? c=some o:=λc o hc e=>by
  have G:¬Mu (none:Option aJ) c:=by rintro (q|q);cases q;exact hc q
  exact L.ext c o G (λq=>absurd (ck (cg e) (I.ok.fah c q)) (cQ _)) (λq=>by cases q) (λi _ S hi R=>(s i S hi R).elim) (K.ext c o G e)
 refine aQ λnG=>aU (K.tab _ b) λm1 t1=>aU (L.tab _ t1) λm2 t2=>nG ⟨rfl,?_,L.os.trans K.os,L.gens (K.gens (by rw[j];exact λx B=>by simp at B))⟩;exact(OldK.refl a.heap).step_table b.1 b.1 (more:=m1++m2) (by rw[<- xY];exact t2.1) (λc o hc e=>D c o hc e) (by decide)
theorem abX {w:aY} {c:aL} {E:aI->aL->Prop} (K:(qK w.params).In c.heap) (f:c.gens=#[]) {l:List Int} {b:aJ} {ol:bK} {m:Array aI} {n:Nat} {R:WRecords} {C:Str->Option aJ} {r:List aJ} (s:c.heap.get? b=some ol) (A:ol.cls=.type "list") (D:ol.data=.seq m n)
  (F:C6 R C c.heap m.toList (l.map jQ) r) {U:List S} (h:tZ (ic dL [.v (.lst (l.map T.int))]) []=some (.ret (.v (.bool true)),U,[])) :
  bc (model pw w) callerA (Jr (.ref 170) [.ref b]) (λv u=>v=.bool true/\OldK c.heap u.heap/\u.os=c.os/\mI u.gens) E c:=by
 have d:∀ {a:aJ} {o:bK},(HF w.params).get? a=some o->c.heap.get? a=some o:=λe=>K _ _ (EZ _ e);have i:171<=c.heap.objs.size:=cg (d (Iu w.params));have B:∀ {a:aJ} {o:bK},c.heap.get? a=some o->a≠eB->qN c.heap a=some o:=λe n=>by unfold qN;rw[if_neg n];exact e
 have x:On (qN c.heap) c.heap:=λb o e=>by unfold qN at e;split at e;cases e;exact e
 have y:Md w (qN c.heap):=⟨λa o e n=>B (d e) n,by unfold qN;rw[if_pos rfl]⟩;have j:jy c.heap #[]:=⟨⟨⟨_,_,d (FZ w.params),rfl,rfl,rfl⟩,d (Dg w.params)⟩,trivial⟩;have G:b≠eB:=λq=>by
  have:=d (Dg w.params);rw[q]at s;rw[show c.heap.get? 51=some ol from s]at this;cases this;cases A
 exact call_top (n:=3) (fd:=fdOf (bB 18) (aK "law") (.str (aK "law_xh0036_01") 2323) 169) (g:=tZ) (nm:=dL) (p:=aK "script") ⟨by decide,by decide,rfl⟩ x y f j i (d (Iu w.params)) rfl (d (LA w.params)) rfl rfl rfl (by kernel_rfl) (by kernel_rfl) rfl rfl rfl rfl (B8 (by kernel_rfl)) rfl
  (by kernel_rfl) (λH k z hR hs=>Wm k z hR hs) (t:=.lst (l.map T.int)) ⟨b,ol,m.toList,rfl,B s G,⟨A,n,by rw[D]⟩,QS F⟩ h
theorem law_holds(plain:∀ l:List Int,l.length<=63->∃ U,tZ (ic dL [.v (.lst (l.map T.int))]) []=some (.ret (.v (.bool true)),U,[])):uf.Holds:=
 head λd B hd w x c Y Z C D a o pm cd E dV kV ho F q G i f args y as j z r s A=>by
 refine aQ λk=>aV (aba j) λl H I=>?_;subst H;refine QR (Zn r) λb ol vs n J L M N O P=>?_;subst L;refine k ?_;have K:(qK w.params).In c.heap:=D;have t:∀ {a:aJ} {o:bK},(HF w.params).get? a=some o->c.heap.get? a=some o:=λe=>K _ _ (EZ _ e);have Q:a=170:=by
  refine aQ λk=>gH C.T.g λR u S g1 g2 _ g3=>k ?_;have g4:=t (HK w.params);have m:c.heap.get? 3=some R:=g1;rw[g4]at m;cases m;have V:u=gE w.params:=by
   have:=g2.symm.trans (show(vP w.params).data=.dict (gE w.params) _ from rfl);injection this
  have W:d.name=aK "law":=defOf_name hd;rw[W,<- g3,V,dN (Yh w.params)]at i;cases i;rfl
 subst Q;refine aU (plain l I) λU p=>iM (abX K f M N O P p) (λv s' h=>?_) λ_ _ e=>e;refine aQ λk=>fW h λX h1 h2 h3=>?_;clear h;subst X;refine k ⟨.inl ⟨.bool true,.bool true,[],rfl,λ_=>rfl,.bool true,?_,λ_=>⟨.nil,λ_ h=>nomatch h⟩⟩,h1,h2,h3⟩;show(WShape.has [] (.bool true) .bool&&Kd [] (.eq .res (.lit (.bool true))) {args:=[Ke (l.map jQ)],res:=some (.bool true),after:=[Ke (l.map jQ)]})=true;kernel_rfl
namespace Fl
open PySem PySem.Float64
def Fin(x:UInt64):Prop:=∃ a m e,decode x=.fin a m e
theorem RC:∀ (k j:Nat),j<=2^53->∃ t,V t=j*2^k:=by
 intro a;induction a with
 |zero=>
  intro j h;exact⟨0*2^52+j,V_at h (.inr rfl)⟩
 |succ k b=>
  intro j h;by_cases h2:2^52<=j
  ·exact⟨(k+1)*2^52+j,V_at h (.inl h2)⟩
  ·exact aU (b (2*j) (R1 h2)) λt c=>⟨t,by rw[c,yu,uF 2 j,yv,uF 2]⟩
theorem U0{r:UInt64}{neg:Bool}{W D K:Nat}(h:Right r neg W D)(hD:0<D)(h1:54<=K)(h2:K<=2000)(c:W<=D*2^K):
  ∃ t,r=pack neg t/\t<infMag/\dist W (D*V t)<=D*2^(K-54):=by
 refine aQ λk=>ng h λt e h3 h4 h5=>?_;have a:t<infMag:=by
  rcases ux t infMag with h|h
  ·exact h
  ·have:=h4.mp (by lia);have l:2^(K+1)<(2^54-1)*2^2045:=by
    have:2^(K+1)<=2^2001:=xZ (by decide) (Ch h2);exact ff this (by decide+kernel)
   have:D*2^(K+1)<D*((2^54-1)*2^2045):=Nat.mul_lt_mul_of_pos_left l hD;rw[yu,<- yv]at this;lia
 refine k (cI t e a ?_);have m:2^K=2^53*2^(K-53):=by rw[<- Kf];congr 1;lia
 have hs:2^(K-53)=2*2^(K-54):=by rw[show K-53=(K-54)+1 by exact Wk h1,yu];lia
 have hA:0<D*2^(K-54):=Nat.mul_pos hD (Kg _);generalize n:D*2^(K-54)=B at*;have hG:D*2^(K-53)=2*B:=by rw[hs,<- n];ac_rfl
 have o:W<=2^53*(2*B):=by
  rw[m]at c;have:D*(2^53*2^(K-53))=2^53*(D*2^(K-53)):=by ac_rfl
  rw[this,hG]at c;exact c
 have d:=Nat.div_add_mod (W+B) (2*B);have f:=nT (W+B) (show 0<2*B by exact(Nat.succ_mul_pos 1 hA));generalize q:(W+B)/(2*B)=j at*;have b:j<=2^53:=by
  rcases ux (2^53) j with h|h
  ·have:2*B*(2^53+1)<=2*B*j:=Cj _ h;rw[Nat.mul_add,uF (2*B) (2^53)]at this;lia
  ·exact h
 refine aU (RC (K-53) j b) λi g=>?_;have h6:=(h5 a i).1;have p:D*V i=2*B*j:=by rw[g,<- hG];ac_rfl
 rw[p]at h6;refine bf h6 ?_;unfold dist;exact W1 f d
theorem Io{neg:Bool}{t:Nat}(h:t<infMag):Fin (pack neg t):=eA (decode_pack neg h) λm e h1 _=>dF neg m e h1
theorem w8{r:UInt64}{neg:Bool}{W D K:Nat}(h:Right r neg W D)(hD:0<D)(h1:54<=K)(h2:K<=2000)(c:W<=D*2^K):
  Fin r/\(D:Int)*val r-sgn neg W<=D*2^(K-54)/\-((D:Int)*2^(K-54))<=(D:Int)*val r-sgn neg W:=by
 refine aQ λd=>eo (U0 h hD h1 h2 c) λt f a hd=>?_;subst f;refine d ⟨Io a,?_⟩;rw[val_pack neg a];have e:((D*2^(K-54):Nat):Int)=(D:Int)*2^(K-54):=by simp
 rw[<- e];unfold dist at hd;have b:((D*V t:Nat):Int)=(D:Int)*(V t:Int):=by simp
 unfold sgn;cases neg
 ·simp only[jc,if_false];rw[<- b];exact Qv hd
 ·simp only[if_true];have:(D:Int)*-(V t:Int)=-((D*V t:Nat):Int):=by rw[b,Int.mul_neg]
  rw[this];lia
theorem SU(b:Bool):Fin (zero b)/\val (zero b)=0:=by
 have h:(0:Nat)<infMag:=by decide
 exact⟨Io h,by unfold zero;rw[val_pack b h];cases b<;>rfl⟩
theorem wu(n:Nat):((2^n:Nat):Int)=(2:Int)^n:=by simp
theorem FK{s:Int}:sgn (decide (s<0)) s.natAbs=s:=by
 unfold sgn;split
 ·rename_i h;simp at h;exact NF h
 ·rename_i h;simp at h;exact(acj h)
theorem Ss{x y:UInt64}{K:Nat}(c:Fin x)(d:Fin y)(h1:54<=K)(h2:K<=2000)(g:val x+val y<=2^K)(h:-(2^K)<=val x+val y):
  Fin (add x y)/\val (add x y)-(val x+val y)<=2^(K-54)/\-(2^(K-54))<=val (add x y)-(val x+val y):=by
 refine eZ c λa m e c=>eZ d λb k f d=>?_;obtain⟨j,l⟩:=add_right c d;by_cases h0:val x+val y=0
 ·rw[j h0];refine bn (SU (a&&b)) λn i=>?_;have:(0:Int)<=2^(K-54):=by rw[<- wu];exact nS _
  exact⟨n,by rw[i,h0];lia,by rw[i,h0];exact(Int.neg_ofNat_le_ofNat (2^(_-54)) (0+0))⟩
 ·have o:=wu K;refine bO (w8 (K:=K) (l h0) (by decide) h1 h2 (by rw[<- o]at g h;exact KJ g h)) λp1 p2 p3=>?_;rw[FK]at p2 p3;have p:((1:Nat):Int)=1:=rfl;rw[p,Jh,Jh]at p2 p3;exact⟨p1,p2,p3⟩
theorem Ur{y:UInt64}(a:Fin y):Fin (neg y)/\val (neg y)=-val y:=eZ a λb k f h=>⟨(dF _ _ _ (neg_decode h)),neg_val h⟩
theorem Fu{x:UInt64}{a:Bool}{m:Nat}{e:Int}(h:decode x=.fin a m e):val x=sgn a (val x).natAbs:=by
 rw[val_natAbs h];exact val_eq h
theorem Pn{x y:UInt64}{K:Nat}(d:Fin x)(g:Fin y)(h1:54<=K)(h2:K<=2000)(h:val x*val y<=2^1074*2^K)(i:-(2^1074*2^K)<=val x*val y):
  Fin (mul x y)/\2^1074*val (mul x y)-val x*val y<=2^1074*2^(K-54)/\-(2^1074*2^(K-54))<=2^1074*val (mul x y)-val x*val y:=by
 refine aQ λj=>eZ d λa m e d=>eZ g λb k f g=>?_;have q:=mul_right d g;have l:((val x).natAbs*(val y).natAbs:Nat)=(val x*val y).natAbs:=(Int.natAbs_mul _ _).symm;have hs:sgn (a != b) ((val x).natAbs*(val y).natAbs)=val x*val y:=by
  have n:=Fu d;have o:=Fu g;generalize (val x).natAbs=p at*;generalize (val y).natAbs=q at*;rw[n,o];unfold sgn;cases a<;>cases b<;>simp[Int.neg_mul,Int.mul_neg]
 have r:=wu K;have c:=wu 1074;have hc:((2^1074*2^K:Nat):Int)=2^1074*2^K:=by rw[Int.natCast_mul,r,c]
 refine bO (w8 (K:=K) q (Kg _) h1 h2 (by rw[l];rw[<- hc]at h i;exact(mf h i))) λp1 p2 p3=>?_;rw[hs,c]at p2 p3;exact j ⟨p1,p2,p3⟩
theorem Uf{n d K:Nat}(a:Bool)(hd:0<d)(h1:54<=K)(h2:K<=2000)(b:n*2^1074<=d*2^K):
  Fin (ofFrac a n d)/\(d:Int)*val (ofFrac a n d)-sgn a (n*2^1074)<=d*2^(K-54)/\-((d:Int)*2^(K-54))<=(d:Int)*val (ofFrac a n d)-sgn a (n*2^1074):=
 w8 (ofFrac_right hd rfl hd) hd h1 h2 b
end Fl
namespace Fl
open PySem PySem.Float64
noncomputable def rv(x:UInt64):Rat:=(val x:Rat)/2^1074
theorem oO:(0:Rat)<2^1074:=px rfl
theorem lU(a b:Nat):(2:Rat)^(a+b)=2^a*2^b:=by
 induction b with
 |zero=>simp[Rat.mul_one]
 |succ b c=>rw[<- mD,Rat.pow_succ,c,Rat.pow_succ,Rat.mul_assoc]
theorem le_int{s:Int}{k:Nat}:(s:Rat)/2^1074<=2^k↔s<=2^(1074+k):=by
 have hU:=oO;rw[<- gg,mN,show((2:Int):Rat)=2 from rfl,lU];generalize (2:Rat)^1074=a at*;constructor
 ·intro h;have:=rT h (o5 hU);rw[gh (qU hU)]at this;exact Ts this
 ·intro h;refine rU (c:=a) ?_ hU;rw[gh (qU hU)];exact F4 h
theorem DK{d:Int}{k:Nat}(h:d<=2^(1074+k-54)):(d:Rat)/2^1074<=2^k/2^54:=by
 have hU:=oO;rw[<- gg,mN,show((2:Int):Rat)=2 from rfl,show 1074+k-54=1020+k by exact A3,lU]at h;have h3:(0:Rat)<2^54:=px rfl;rw[show(1074:Nat)=1020+54 from rfl,lU]at*;generalize (2:Rat)^1020=A at*;generalize (2:Rat)^54=B at*;refine rU (c:=A*B) ?_ hU;rw[gh (Gx hU)];have:(2:Rat)^k/B*(A*B)=(2^k/B*B)*A:=Np;rw[this,gh (qU h3)];exact F4 h
theorem GZ{a b c:Int}:((a-(b+c):Int):Rat)/2^1074=(a:Rat)/2^1074-((b:Rat)/2^1074+(c:Rat)/2^1074):=by
 rw[lO,lP];generalize (2:Rat)^1074=d;exact MD
theorem mS{x y:UInt64}(k:Nat)(hk:k<=60)(j:Fin x)(l:Fin y)(e:rv x+rv y<=2^k)(g:-(2^k)<=rv x+rv y):
  Fin (add x y)/\rv (add x y)-(rv x+rv y)<=2^k/2^54/\-(2^k/2^54)<=rv (add x y)-(rv x+rv y):=by
 unfold rv at e g ⊢;have h:(val x:Rat)/2^1074+(val y:Rat)/2^1074=((val x+val y:Int):Rat)/2^1074:=by rw[lP];generalize (2:Rat)^1074=m;exact MK
 have i:∀ s:Int,-(((s:Int):Rat)/2^1074)=((-s:Int):Rat)/2^1074:=λs=>by rw[rV];generalize (2:Rat)^1074=m;exact Uw
 have f:((-(val x+val y):Int):Rat)/2^1074<=2^k:=by rw[<- i,<- h];exact QD g
 rw[h]at e;have h3:=le_int.mp e;have h4:=le_int.mp f;refine bO (Ss (K:=1074+k) j l (xz) (uQ hk) h3 (xG h4)) λa b c=>⟨a,?_,?_⟩
 ·have:=DK b;rw[GZ]at this;exact this
 ·have:=DK (d:=-(val (add x y)-(val x+val y))) (k:=k) (LI c);rw[<- i,GZ]at this;exact NZ this
theorem Y4{y:UInt64}(c:Fin y):Fin (neg y)/\rv (neg y)=-rv y:=by
 refine bn (Ur c) λa b=>⟨a,?_⟩;unfold rv;rw[b,rV];generalize (2:Rat)^1074=d;exact Ic
theorem zP{x y:UInt64}(k:Nat)(hk:k<=60)(c:Fin x)(d:Fin y)(e:rv x-rv y<=2^k)(f:-(2^k)<=rv x-rv y):
  Fin (sub x y)/\rv (sub x y)-(rv x-rv y)<=2^k/2^54/\-(2^k/2^54)<=rv (sub x y)-(rv x-rv y):=by
 refine bn (Y4 d) λa b=>?_;have:=mS k hk c a (by rw[b];exact ZR e) (by rw[b];exact TL f);rw[b]at this;unfold dk;exact bO this λp q r=>⟨p,MQ q,UV r⟩
theorem Gq{x y:UInt64}(k:Nat)(hk:k<=60)(w:Fin x)(C:Fin y)(o:rv x*rv y<=2^k)(r:-(2^k)<=rv x*rv y):
  Fin (mul x y)/\rv (mul x y)-rv x*rv y<=2^k/2^54/\-(2^k/2^54)<=rv (mul x y)-rv x*rv y:=by
 unfold rv at o r ⊢;have hU:=oO;have t:((2^1074:Int):Rat)=2^1074:=by rw[mN];rfl
 have D:(0:Int)<2^1074:=Int.pow_pos (by decide);have c1:∀ s:Int,(s:Rat)<=2^k*2^1074*2^1074->s<=2^1074*2^(1074+k):=λs h=>by
  rw[<- gg,gK,mN,mN,show((2:Int):Rat)=2 from rfl,lU];grind
 have e:∀ a b:Rat,a/2^1074*(b/2^1074)*2^1074*2^1074=a*b:=λa b=>by
  have f:=gh (a:=a) (b:=2^1074) (by grind);have g:=gh (a:=b) (b:=2^1074) (by grind);generalize a/2^1074=p at*;generalize b/2^1074=q at*;generalize (2:Rat)^1074=i at*;subst f g;exact NP
 have j:=c1 (val x*val y) (by
  have:=rT (rT o (o5 hU)) (o5 hU);rw[e]at this;rw[gK];exact this)
 have l:=c1 (-(val x*val y)) (by
  have:=rT (rT r (o5 hU)) (o5 hU);rw[e]at this;rw[rV,gK];generalize (2:Rat)^1074=i at*;exact RT this)
 obtain⟨a,b,c⟩:=Pn (K:=1074+k) w C (xz) (uQ hk) j (by
  generalize (2:Int)^1074*2^(1074+k)=E at*;exact(xG l))
 have fin:∀ d:Rat,2^1074*2^1074*d<=2^1074*(2^1020*2^k)->d<=2^k/2^54:=λd h=>by
  have h3:(0:Rat)<2^54:=px rfl;have h4:(0:Rat)<2^1020:=px rfl;rw[show(1074:Nat)=1020+54 from rfl,lU]at h;generalize (2:Rat)^1020=A at*;generalize (2:Rat)^54=B at*;have n:0<A*B:=Kh h4 h3;have h5:A*B*A*(B*d)<=A*B*A*2^k:=Ry h;have h6:=adv h5 (Kh n h4);refine rU (c:=B) ?_ h3;rw[gh (qU h3)];exact LZ h6
 have u:∀ m p q:Int,((2^1074*m-p*q:Int):Rat)=2^1074*2^1074*((m:Rat)/2^1074-(p:Rat)/2^1074*((q:Rat)/2^1074)):=λm p q=>by
  rw[lO,gK,gK,t];have f:=gh (a:=(m:Rat)) (b:=2^1074) (by grind);have g:=e p q;generalize (m:Rat)/2^1074=F at*;generalize (p:Rat)/2^1074*((q:Rat)/2^1074)=z at*;generalize (2:Rat)^1074=i at*;rw[<- f,<- g];grind
 have v:(((2:Int)^1074*2^(1074+k-54):Int):Rat)=2^1074*(2^1020*2^k):=by
  rw[gK,t,mN,show((2:Int):Rat)=2 from rfl,show 1074+k-54=1020+k by exact A3,lU]
 refine⟨a,fin _ ?_,?_⟩
 ·have h5:=gg.mpr b;rw[u,v]at h5;exact h5
 ·have h5:=gg.mpr c;rw[rV,u,v]at h5;have:=fin (-((val (mul x y):Rat)/2^1074-(val x:Rat)/2^1074*((val y:Rat)/2^1074))) (by
   generalize (2:Rat)^1074=i at*;generalize (2:Rat)^1020=A at*;exact Mc h5)
  exact LN this
theorem Ge{d k:Nat}{W:Int}{x:UInt64}(hd:0<d)(h:Fin x/\(d:Int)*val x-W*2^1074<=d*2^(1074+k-54)/\-((d:Int)*2^(1074+k-54))<=(d:Int)*val x-W*2^1074):
  Fin x/\(d:Rat)*rv x-W<=d*(2^k/2^54)/\-((d:Rat)*(2^k/2^54))<=(d:Rat)*rv x-W:=by
 refine bO h λa b c=>?_;have hU:=oO;have g:((2^1074:Int):Rat)=2^1074:=by rw[mN];rfl
 have fin:∀ z:Rat,2^1074*z<=d*(2^1020*2^k)->z<=d*(2^k/2^54):=λz h=>by
  have h3:(0:Rat)<2^54:=px rfl;have h4:(0:Rat)<2^1020:=px rfl;rw[show(1074:Nat)=1020+54 from rfl,lU]at h;generalize (2:Rat)^1020=A at*;generalize (2:Rat)^54=B at*;have h5:A*(B*z)<=A*(d*2^k):=by exact Q7 h
  have h6:=adv h5 h4;refine rU (c:=B) ?_ h3;have:=gh (a:=(2:Rat)^k) (b:=B) (qU h3);generalize (2:Rat)^k/B=y at*;generalize (2:Rat)^k=w at*;subst this;exact Nf h6
 have e:(((d:Int)*val x-W*2^1074:Int):Rat)=2^1074*((d:Rat)*rv x-W):=by
  unfold rv;rw[lO,gK,gK,g];have i:=gh (a:=(val x:Rat)) (b:=2^1074) (by grind);generalize (val x:Rat)/2^1074=l at*;generalize (2:Rat)^1074=j at*;rw[<- i,show(((d:Int)):Rat)=(d:Rat)from rfl];grind
 have f:(((d:Int)*2^(1074+k-54):Int):Rat)=d*(2^1020*2^k):=by
  rw[gK,mN,show((2:Int):Rat)=2 from rfl,show 1074+k-54=1020+k by exact A3,lU];rfl
 refine⟨a,fin _ ?_,?_⟩
 ·have h5:=gg.mpr b;rw[e,f]at h5;exact h5
 ·have h5:=gg.mpr c;rw[rV,e,f]at h5;have:=fin (-((d:Rat)*rv x-W)) (by
   generalize (2:Rat)^1074=j at*;generalize (2:Rat)^1020=A at*;exact LQ h5)
  exact QO this
theorem rv_frac{n d:Nat}(k:Nat)(hk:k<=60)(hd:0<d)(a:n<=d*2^k):
  Fin (ofFrac false n d)/\(d:Rat)*rv (ofFrac false n d)-(n:Int)<=d*(2^k/2^54)/\-((d:Rat)*(2^k/2^54))<=(d:Rat)*rv (ofFrac false n d)-(n:Int):=by
 refine Ge (W:=n) hd ?_;have:=Uf (K:=1074+k) false hd (xz) (uQ hk) (show n*2^1074<=d*2^(1074+k)by
  rw[Kf,uF (2^1074),<- yv];exact acx _ a)
 have e:sgn false (n*2^1074)=(n:Int)*2^1074:=by unfold sgn;simp
 rw[e]at this;exact this
theorem TV{i:Int}(k:Nat)(hk:k<=60)(h:i.natAbs<=2^k):Fin (ofInt i)/\rv (ofInt i)-i<=2^k/2^54/\-(2^k/2^54)<=rv (ofInt i)-(i:Rat):=by
 have:=w8 (K:=1074+k) (ofInt_right i) (by decide) (xz) (uQ hk) (by rw[I6,Kf,uF];exact Cj _ h);have e:sgn (decide (i<0)) (i.natAbs*2^1074)=i*2^1074:=by
  have h1:=@sgn_mul (decide (i<0)) i.natAbs (2^1074);rw[h1,FK];simp
 rw[e]at this;have:=Ge (d:=1) (W:=i) (k:=k) (by decide) this;have a:((1:Nat):Rat)=1:=rfl;rw[a,Rat.one_mul,Rat.one_mul]at this;exact this
theorem Kz{y:UInt64}{b:Bool}{k:Nat}{f:Int}(h:decode y=.fin b k f):decode (abs y)=.fin false k f:=by
 have a:uG y=false:=by unfold uG;rw[h]
 have c:(abs y).toNat=y.toNat%2^63:=by
  unfold abs;rw[if_neg (by simp[a])];have:=pack_toNat false (t:=y.toNat%2^63) (nT _ (by decide));simpa using this
 have h2:(abs y).toNat/2^52%2048=y.toNat/2^52%2048:=by omega
 have h3:(abs y).toNat%2^52=y.toNat%2^52:=KA c;have h4:((abs y).toNat/2^63==1)=false:=by
  have:(abs y).toNat/2^63=0:=NH c;rw[this];rfl
 unfold decode at h ⊢;simp only[h2,h3,h4]at h ⊢;split at h
 ·split at h<;>cases h
 ·rename_i h1;rw[if_neg h1];split at h
  ·rename_i h4;rw[if_pos h4];cases h;rfl
  ·rename_i h4;rw[if_neg h4];cases h;rfl
theorem LC{x:UInt64}(b:Fin x):Fin (abs x)/\(0<=rv x->rv (abs x)=rv x)/\(rv x<=0->rv (abs x)=-rv x):=by
 refine eZ b λa m e h=>?_;have hd:=Kz h;have c:val (abs x)=(val x).natAbs:=by
  rw[val_eq hd,val_natAbs h];rfl
 have hU:=oO;unfold rv;rw[c];refine⟨(dF _ _ _ hd),λh0=>?_,λh0=>?_⟩
 ·have:0<=val x:=by
   have:=rT h0 (o5 hU);rw[gh (by grind),Rat.zero_mul]at this;exact uH.mp this
  rw[show((val x).natAbs:Int)=val x by lia]
 ·have:val x<=0:=by
   have:=rT h0 (o5 hU);rw[gh (by grind),Rat.zero_mul]at this;exact Rat.intCast_nonpos.mp this
  rw[show((val x).natAbs:Int)=-val x by exact(aci this),rV];generalize (2:Rat)^1074=d;exact Ic
theorem Ij(p q:Int):compare p q=if (p:Rat)/2^1074<(q:Rat)/2^1074 then .lt else if (p:Rat)/2^1074=(q:Rat)/2^1074 then .eq else .gt:=by
 have hU:=oO;have l:(p:Rat)/2^1074<(q:Rat)/2^1074↔p<q:=by
  rw[Rat.div_lt_iff hU,gh (by grind)];exact Rat.intCast_lt_intCast
 have r:(p:Rat)/2^1074=(q:Rat)/2^1074↔p=q:=by
  constructor
  ·intro h;have:(p:Rat)/2^1074*2^1074=(q:Rat)/2^1074*2^1074:=by rw[h]
   rw[gh (by grind),gh (by grind)]at this;exact Rat.intCast_inj.mp this
  ·rintro rfl;rfl
 rcases C7 p q with h|h|h
 ·rw[Int.compare_eq_lt.mpr h,if_pos (l.mpr h)]
 ·subst h;rw[if_neg (by rw[l];exact(Int.lt_irrefl _)),if_pos rfl];simp
 ·rw[Int.compare_eq_gt.mpr h,if_neg (by rw[l];exact Ar h),if_neg (by rw[r];exact(Int.ne_of_gt h))]
theorem GP{x y:UInt64}(c:Fin x)(d:Fin y):cmp x y=some (if rv x<rv y then .lt else if rv x=rv y then .eq else .gt):=by
 refine eZ c λa m e c=>eZ d λb k f d=>?_;rw[cmp_right c d,Ij];rfl
theorem Wr{x:UInt64}(b:Fin x)(i:Int):cmpInt x i=some (if rv x<i then .lt else if rv x=i then .eq else .gt):=by
 refine eZ b λa m e b=>?_;have hU:=oO;have:((i*2^1074:Int):Rat)/2^1074=i:=by
  rw[gK,mN,show((2:Int):Rat)=2 from rfl,Rat.mul_div_cancel (by grind)]
 rw[cmpInt_right b i,Ij,this];rfl
end Fl
namespace Fl
open PySem PySem.Float64
def Ap(x:UInt64)(q e:Rat):Prop:=Fin x/\rv x-q<=e/\-e<=rv x-q
theorem Ap.mono{x:UInt64}{q e e':Rat}(h:Ap x q e)(l:e<=e'):Ap x q e':=⟨h.1,dj h.2.1 l,by have:=h.2.2;exact Mb l this⟩
theorem Ap.to{x:UInt64}{q a e:Rat}(h:Ap x q e)(l:q=a):Ap x a e:=l▸h
theorem rf{x y:UInt64}{p q d e B E:Rat}(k:Nat)(hk:k<=60)(a:(2:Rat)^k=B)(f:(2:Rat)^k/2^54=E)(g:Ap x p d)(h:Ap y q e)(i:p+q+d+e<=B)(j:-B<=p+q-d-e):Ap (add x y) (p+q) (d+e+E):=by
 refine aQ λl=>bO g λf1 a1 a2=>bO h λf2 b c=>bO (mS k hk f1 f2 (by rw[a];exact R8 i a1 b) (by rw[a];exact S4 j a2 c)) λh1 h2 h3=>?_;rw[f]at h2 h3;exact l ⟨h1,aau a1 b h2,RF a2 c h3⟩
theorem ap_sub{x y:UInt64}{p q d e B E:Rat}(k:Nat)(hk:k<=60)(a:(2:Rat)^k=B)(f:(2:Rat)^k/2^54=E)(g:Ap x p d)(h:Ap y q e)(i:p-q+d+e<=B)(j:-B<=p-q-d-e):Ap (sub x y) (p-q) (d+e+E):=by
 refine aQ λl=>bO g λf1 a1 a2=>bO h λf2 b c=>bO (zP k hk f1 f2 (by rw[a];exact Zl i a1 c) (by rw[a];exact PA j a2 b)) λh1 h2 h3=>?_;rw[f]at h2 h3;exact l ⟨h1,abV a1 c h2,aa2 a2 b h3⟩
theorem vc{a b A B:Rat}(f:a<=A)(c:-A<=a)(d:b<=B)(e:-B<=b):a*b<=A*B/\-(A*B)<=a*b:=by
 have h1:=xF (show 0<=A-a by grind) (show 0<=B-b by grind);have h2:=xF (show 0<=A+a by grind) (show 0<=B+b by grind);have h3:=xF (show 0<=A-a by grind) (show 0<=B+b by grind);have h4:=xF (show 0<=A+a by grind) (show 0<=B-b by exact Oo d);constructor<;>grind
theorem ap_mul{x y:UInt64}{p q d e P Q B E:Rat}(k:Nat)(hk:k<=60)(i:(2:Rat)^k=B)(m:(2:Rat)^k/2^54=E)(n:Ap x p d)(o:Ap y q e)(j:p<=P)(c:-P<=p)(hq:q<=Q)(f:-Q<=q)(l:(P+d)*(Q+e)<=B):
  Ap (mul x y) (p*q) (d*(Q+e)+P*e+E):=by
 refine aQ λr=>bO n λf1 a1 a2=>bO o λf2 g h=>bn (vc (a:=rv x) (b:=rv y) (A:=P+d) (B:=Q+e) (BX j a1) (yU c a2) (BX hq g) (yU f h)) λs t=>bO (Gq k hk f1 f2 (by rw[i];exact dj s l) (by rw[i];exact MJ l t)) λh1 h2 h3=>?_;rw[m]at h2 h3;exact bn (vc (a:=rv x-p) (b:=rv y) (A:=d) (B:=Q+e) a1 a2 (BX hq g) (yU f h)) λu v=>bn (vc (a:=p) (b:=rv y-q) (A:=P) (B:=e) j c g h) λw z=>r ⟨h1,X3 h2 u w,Qm h3 v z⟩
theorem Sf{x:UInt64}{m j:Nat}(h:decode x=.fin false m (-(j:Int)))(d:j<=1074):Fin x/\rv x=(m:Rat)/2^j:=by
 refine⟨(dF _ _ _ h),?_⟩;unfold rv;rw[val_eq h];have e:(-(j:Int)+1074).toNat=1074-j:=by exact LR
 have s:sgn false (m*2^(-(j:Int)+1074).toNat)=((m:Int))*2^(1074-j):=by rw[e];unfold sgn;simp
 rw[s,gK,mN,show((2:Int):Rat)=2 from rfl];have c:(2:Rat)^1074=2^(1074-j)*2^j:=by rw[<- lU,show 1074-j+j=1074 by exact(Ji d)]
 have h1:(0:Rat)<2^(1074-j):=px rfl;have h2:(0:Rat)<2^j:=px rfl;rw[c,Rat.intCast_natCast];have h3:=Kh h1 h2;generalize (2:Rat)^(1074-j)=A at*;generalize (2:Rat)^j=B at*;generalize (m:Rat)=M;clear e s h c;have f:=gh (a:=M) (b:=B) (qU h2);have g:=gh (a:=M*A) (b:=A*B) (Gx h3);generalize M/B=u at*;generalize M*A/(A*B)=v at*;have:(v-u)*(A*B)=0:=Mf f g;rcases Rat.mul_eq_zero.mp this with h|h
 ·exact Qq h
 ·grind
theorem iO{x:UInt64}{m j:Nat}{q e:Rat}(h:decode x=.fin false m (-(j:Int)))(a:j<=1074)(h1:(m:Rat)/2^j-q<=e)(h2:-e<=(m:Rat)/2^j-q):Ap x q e:=by
 exact bn (Sf h a) λf r=>⟨f,by rw[r];exact h1,by rw[r];exact h2⟩
theorem c30:Ap 0x3fd3333333333333 (3/10) (1/2^52):=iO (m:=5404319552844595) (j:=54) (by kernel_rfl) (by decide) (by decide+kernel) (by decide+kernel)
theorem TD:Ap 0x3fe2e147ae147ae1 (59/100) (1/2^52):=iO (m:=5314247560297185) (j:=53) (by kernel_rfl) (by decide) (by decide+kernel) (by decide+kernel)
theorem SE:Ap 0x3fbc28f5c28f5c29 (11/100) (1/2^52):=iO (m:=7926335344172073) (j:=56) (by kernel_rfl) (by decide) (by decide+kernel) (by decide+kernel)
theorem NR:Ap 0x3fe7ae147ae147ae (37/50) (1/2^52):=iO (m:=6665327448508334) (j:=53) (by kernel_rfl) (by decide) (by decide+kernel) (by decide+kernel)
theorem Ny:Ap 0x3fd147ae147ae148 (27/100) (1/2^52):=iO (m:=4863887597560136) (j:=54) (by kernel_rfl) (by decide) (by decide+kernel) (by decide+kernel)
theorem Tf:Ap 0x3fdeb851eb851eb8 (12/25) (1/2^52):=iO (m:=8646911284551352) (j:=54) (by kernel_rfl) (by decide) (by decide+kernel) (by decide+kernel)
theorem Mh:Ap 0x3fda3d70a3d70a3d (41/100) (1/2^52):=iO (m:=7385903388887613) (j:=54) (by kernel_rfl) (by decide) (by decide+kernel) (by decide+kernel)
theorem Po:Ap 0x3fee4cdbef721b32 (410/433) (1/2^52):=iO (m:=8528756800101170) (j:=53) (by kernel_rfl) (by decide) (by decide+kernel) (by decide+kernel)
theorem TP:Ap 0x3fe3f42ceedac0be (270/433) (1/2^52):=iO (m:=5616498380554430) (j:=53) (by kernel_rfl) (by decide) (by decide+kernel) (by decide+kernel)
theorem cgi:Ap 0x3fd1961eec8cbb3a (7020/25547) (1/2^52):=iO (m:=4950134165912378) (j:=54) (by kernel_rfl) (by decide) (by decide+kernel) (by decide+kernel)
theorem Ob:Ap 0x3fe45794d16efff3 (16240/25547) (1/2^52):=iO (m:=5725796214702067) (j:=53) (by kernel_rfl) (by decide) (by decide+kernel) (by decide+kernel)
theorem XW:Ap 0x3ff1bc99b7dee436 (480/433) (1/2^52):=iO (m:=4992443004937270) (j:=52) (by kernel_rfl) (by decide) (by decide+kernel) (by decide+kernel)
theorem Oh:Ap 0x3ffb5817a6224a7f (740/433) (1/2^52):=iO (m:=7696682965944959) (j:=52) (by kernel_rfl) (by decide) (by decide+kernel) (by decide+kernel)
theorem c0:Ap 0x0000000000000000 0 0:=iO (m:=0) (j:=1074) (by kernel_rfl) (by decide) (by decide+kernel) (by decide+kernel)
theorem c1:Ap 0x3ff0000000000000 1 0:=iO (m:=2^52) (j:=52) (by kernel_rfl) (by decide) (by decide+kernel) (by decide+kernel)
noncomputable def yF(r g b:UInt64):UInt64:=add (add (mul 0x3fd3333333333333 r) (mul 0x3fe2e147ae147ae1 g)) (mul 0x3fbc28f5c28f5c29 b)
noncomputable def iF(r g b:UInt64):UInt64:=sub (mul 0x3fe7ae147ae147ae (sub r (yF r g b))) (mul 0x3fd147ae147ae148 (sub b (yF r g b)))
noncomputable def qF(r g b:UInt64):UInt64:=add (mul 0x3fdeb851eb851eb8 (sub r (yF r g b))) (mul 0x3fda3d70a3d70a3d (sub b (yF r g b)))
noncomputable def yI(r g b:Rat):Rat:=3/10*r+59/100*g+11/100*b
noncomputable def iI(r g b:Rat):Rat:=74/100*(r-yI r g b)-27/100*(b-yI r g b)
noncomputable def qI(r g b:Rat):Rat:=48/100*(r-yI r g b)+41/100*(b-yI r g b)
theorem B1:(2:Rat)^1=2:=by decide+kernel
theorem E1:(2:Rat)^1/2^54=1/2^53:=by decide+kernel
section
variable{r g b:UInt64}{p q s:Rat}(hr:Ap r p (1/2^54))(hg:Ap g q (1/2^54))(hb:Ap b s (1/2^54))(p0:0<=p)(p1:p<=1)(q0:0<=q)(q1:q<=1)(s0:0<=s)(s1:s<=1)
include hr hg hb p0 p1 q0 q1 s0 s1
theorem y_ap:Ap (yF r g b) (yI p q s) (1/2^48)/\0<=yI p q s/\yI p q s<=1:=by
 have a:=ap_mul (P:=1) (Q:=1) 1 (by decide) B1 E1 c30 hr (by decide+kernel) (by decide+kernel) p1 (wE p0) (by decide+kernel);have c:=ap_mul (P:=1) (Q:=1) 1 (by decide) B1 E1 TD hg (by decide+kernel) (by decide+kernel) q1 (wE q0) (by decide+kernel);have m3:=ap_mul (P:=1) (Q:=1) 1 (by decide) B1 E1 SE hb (by decide+kernel) (by decide+kernel) s1 (wE s0) (by decide+kernel);replace a:=a.mono (e':=1/2^51) (by decide+kernel);replace c:=c.mono (e':=1/2^51) (by decide+kernel);replace m3:=m3.mono (e':=1/2^51) (by decide+kernel);have a1:=rf 1 (by decide) B1 E1 a c (dj (ch (ch (ch (dX p1) (dX q1)) dt) dt) (by decide+kernel)) (dj (by decide+kernel) (dA (dA (ch (dX p0) (dX q0)) dt) dt));replace a1:=a1.mono (e':=1/2^49) (by decide+kernel);have a2:=rf 1 (by decide) B1 E1 a1 m3 (LB p1 q1 s1) (KO p0 q0 s0);refine⟨a2.mono (by decide+kernel),?_,?_⟩<;>unfold yI<;>grind
theorem Hs:Ap (sub r (yF r g b)) (p-yI p q s) (1/2^47)/\p-yI p q s<=1/\-1<=p-yI p q s:=by
 refine bO (y_ap hr hg hb p0 p1 q0 q1 s0 s1) λh1 h2 h3=>?_;have a1:=ap_sub 1 (by decide) B1 E1 hr h1 (GH p1 h2) (Im p0 h3);exact⟨a1.mono (by decide+kernel),FN p1 h2,Gk p0 h3⟩
theorem IC:Ap (sub b (yF r g b)) (s-yI p q s) (1/2^47)/\s-yI p q s<=1/\-1<=s-yI p q s:=by
 refine bO (y_ap hr hg hb p0 p1 q0 q1 s0 s1) λh1 h2 h3=>?_;have a1:=ap_sub 1 (by decide) B1 E1 hb h1 (GH s1 h2) (Im s0 h3);exact⟨a1.mono (by decide+kernel),FN s1 h2,Gk s0 h3⟩
theorem i_ap:Ap (iF r g b) (iI p q s) (1/2^45)/\iI p q s<=1/\-1<=iI p q s:=by
 refine aQ λf=>bO (Hs hr hg hb p0 p1 q0 q1 s0 s1) λh d e=>bO (IC hr hg hb p0 p1 q0 q1 s0 s1) λv1 i j=>?_;have a:=ap_mul (P:=1) (Q:=1) 1 (by decide) B1 E1 NR h (by decide+kernel) (by decide+kernel) d e (by decide+kernel);have c:=ap_mul (P:=1) (Q:=1) 1 (by decide) B1 E1 Ny v1 (by decide+kernel) (by decide+kernel) i j (by decide+kernel);replace a:=a.mono (e':=1/2^46-1/2^54) (by decide+kernel);replace c:=c.mono (e':=1/2^46-1/2^54) (by decide+kernel);have a1:=ap_sub 1 (by decide) B1 E1 a c (KL p1 s0 d) (abY p0 s1 e);unfold yI at*;refine f ⟨(a1.mono (by decide+kernel)).to (by unfold iI yI;exact MT),?_,?_⟩<;>unfold iI yI<;>grind
theorem q_ap:Ap (qF r g b) (qI p q s) (1/2^45)/\qI p q s<=1/\-1<=qI p q s:=by
 refine aQ λf=>bO (Hs hr hg hb p0 p1 q0 q1 s0 s1) λh d e=>bO (IC hr hg hb p0 p1 q0 q1 s0 s1) λv1 i j=>?_;have a:=ap_mul (P:=1) (Q:=1) 1 (by decide) B1 E1 Tf h (by decide+kernel) (by decide+kernel) d e (by decide+kernel);have c:=ap_mul (P:=1) (Q:=1) 1 (by decide) B1 E1 Mh v1 (by decide+kernel) (by decide+kernel) i j (by decide+kernel);replace a:=a.mono (e':=1/2^46-1/2^54) (by decide+kernel);replace c:=c.mono (e':=1/2^46-1/2^54) (by decide+kernel);have a1:=rf 1 (by decide) B1 E1 a c (Pc p0 s1 d) (Z9 p1 s0 e);unfold yI at*;refine f ⟨(a1.mono (by decide+kernel)).to (by unfold qI yI;exact UH),?_,?_⟩<;>unfold qI yI<;>grind
end
noncomputable def rF(y i q:UInt64):UInt64:=add (add y (mul 0x3fee4cdbef721b32 i)) (mul 0x3fe3f42ceedac0be q)
noncomputable def gF(y i q:UInt64):UInt64:=sub (sub y (mul 0x3fd1961eec8cbb3a i)) (mul 0x3fe45794d16efff3 q)
noncomputable def bF(y i q:UInt64):UInt64:=add (sub y (mul 0x3ff1bc99b7dee436 i)) (mul 0x3ffb5817a6224a7f q)
noncomputable def clipF(x:UInt64):UInt64:=
 let a:=if (cmp x 0x0000000000000000==some jO)=true then 0x0000000000000000 else x
 if (cmp a 0x3ff0000000000000==some pg)=true then 0x3ff0000000000000 else a
noncomputable def rI(y i q:Rat):Rat:=y+410/433*i+270/433*q
noncomputable def gI(y i q:Rat):Rat:=y-7020/25547*i-16240/25547*q
noncomputable def bI(y i q:Rat):Rat:=y-480/433*i+740/433*q
theorem B6:(2:Rat)^6=64:=by decide+kernel
theorem E6:(2:Rat)^6/2^54=1/2^48:=by decide+kernel
noncomputable def clip(x:Rat):Rat:=if x<0 then 0 else if 1<x then 1 else x
theorem cmp_lt{x y:UInt64}(a:Fin x)(b:Fin y):(cmp x y==some jO)=decide (rv x<rv y):=by
 rw[GP a b];by_cases h:rv x<rv y
 ·rw[if_pos h,decide_eq_true h];rfl
 ·rw[if_neg h,decide_eq_false h];split<;>rfl
theorem cmp_gt{x y:UInt64}(a:Fin x)(b:Fin y):(cmp x y==some pg)=decide (rv y<rv x):=by
 rw[GP a b];by_cases h:rv y<rv x
 ·rw[if_neg (show ¬rv x<rv y by grind),if_neg (show ¬rv x=rv y by grind),decide_eq_true h];rfl
 ·rw[decide_eq_false h];by_cases h2:rv x<rv y
  ·rw[if_pos h2];rfl
  ·rw[if_neg h2,if_pos (show rv x=rv y by exact YZ h h2)];rfl
theorem clip_ap{x:UInt64}{p e:Rat}(h:Ap x p e)(j:0<=e):Ap (clipF x) (clip p) e:=by
 refine bO h λf a b=>?_;have z:=c0;have o:=c1;have d:rv 0x0000000000000000=0:=by have:=z.2;exact Fc this
 have g:rv 0x3ff0000000000000=1:=by have:=o.2;exact abC this
 unfold clipF;by_cases h1:rv x<0
 ·have i:(cmp x 0x0000000000000000==some jO)=true:=by rw[cmp_lt f z.1,d];exact decide_eq_true h1
  simp only[i,if_true];have c:(cmp 0x0000000000000000 0x3ff0000000000000==some pg)=false:=by rw[cmp_gt z.1 o.1,d,g];decide
  simp only[c,jc,if_false];refine⟨z.1,?_,?_⟩<;>rw[d]<;>unfold clip<;>grind
 ·have i:(cmp x 0x0000000000000000==some jO)=false:=by rw[cmp_lt f z.1,d];exact decide_eq_false h1
  simp only[i,jc,if_false];by_cases h2:1<rv x
  ·have c:(cmp x 0x3ff0000000000000==some pg)=true:=by rw[cmp_gt f o.1,g];exact decide_eq_true h2
   simp only[c,if_true];refine⟨o.1,?_,?_⟩<;>rw[g]<;>unfold clip<;>grind
  ·have c:(cmp x 0x3ff0000000000000==some pg)=false:=by rw[cmp_gt f o.1,g];exact decide_eq_false h2
   simp only[c,jc,if_false];exact⟨f,by unfold clip;grind,by unfold clip;grind⟩
section
variable{y i q:UInt64}{a c d e:Rat}(hy:Ap y a e)(hi:Ap i c e)(hq:Ap q d e)(e0:0<=e)(e1:e<=1/2^20)(a0:-8<=a)(a1:a<=8)(b0:-8<=c)(b1:c<=8)(d0:-8<=d)(d1:d<=8)
include hy hi hq e0 e1 a0 a1 b0 b1 d0 d1
theorem r_ap:Ap (rF y i q) (rI a c d) (4*e+1/2^44):=by
 have b:=ap_mul (P:=1) (Q:=8) 6 (by decide) B6 E6 Po hi (by decide+kernel) (by decide+kernel) b1 b0 (wI e1);have f:=ap_mul (P:=1) (Q:=8) 6 (by decide) B6 E6 TP hq (by decide+kernel) (by decide+kernel) d1 d0 (wI e1);replace b:=b.mono (e':=e+1/2^47) (xo e1);replace f:=f.mono (e':=e+1/2^47) (xo e1);have g:=rf 6 (by decide) B6 E6 hy b (dj (ch (ch (ch a1 (dX b1)) e1) (ch e1 dt)) (by decide+kernel)) (dj (by decide+kernel) (dA (dA (ch a0 (dX b0)) e1) (ch e1 dt)));have h:=rf 6 (by decide) B6 E6 g f (Uv e1 a1 b1 d1) (VP e1 a0 b0 d0);exact h.mono (Ft e0)
theorem g_ap:Ap (gF y i q) (gI a c d) (4*e+1/2^44):=by
 have b:=ap_mul (P:=1) (Q:=8) 6 (by decide) B6 E6 cgi hi (by decide+kernel) (by decide+kernel) b1 b0 (wI e1);have f:=ap_mul (P:=1) (Q:=8) 6 (by decide) B6 E6 Ob hq (by decide+kernel) (by decide+kernel) d1 d0 (wI e1);replace b:=b.mono (e':=e+1/2^47) (xo e1);replace f:=f.mono (e':=e+1/2^47) (xo e1);have g:=ap_sub 6 (by decide) B6 E6 hy b (dj (ch (ch (dA a1 (dX b0)) e1) (ch e1 dt)) (by decide+kernel)) (dj (by decide+kernel) (dA (dA (dA a0 (dX b1)) e1) (ch e1 dt)));have h:=ap_sub 6 (by decide) B6 E6 g f (Zf e1 a1 b0 d0) (abL e1 a0 b1 d1);exact h.mono (Ft e0)
theorem b_ap:Ap (bF y i q) (bI a c d) (4*e+1/2^44):=by
 have b:=ap_mul (P:=6/5) (Q:=8) 6 (by decide) B6 E6 XW hi (by decide+kernel) (by decide+kernel) b1 b0 (Yu e1);have f:=ap_mul (P:=9/5) (Q:=8) 6 (by decide) B6 E6 Oh hq (by decide+kernel) (by decide+kernel) d1 d0 (Oe e1);replace b:=b.mono (e':=6/5*e+1/2^47) (YK e1);replace f:=f.mono (e':=9/5*e+1/2^47) (aab e1);have g:=ap_sub 6 (by decide) B6 E6 hy b (dj (ch (ch (dA a1 (dX b0)) e1) (ch (dX e1) dt)) (by decide+kernel)) (dj (by decide+kernel) (dA (dA (dA a0 (dX b1)) e1) (ch (dX e1) dt)));have h:=rf 6 (by decide) B6 E6 g f (Nz e1 a1 b0 d1) (VE e1 a0 b1 d0);exact h.mono (Nu)
end
end Fl
namespace Fl
open PySem PySem.Float64
theorem Yk(a:UInt64->UInt64->Bool):∀ (r:List UInt64) (x:UInt64),Ki a x r∈x::r:=by
 intro b;induction b with
 |nil=>
  intro x;exact Cx
 |cons y r c=>
  intro x;have h:∀ z,Ki a z r∈z::r:=c;show Ki a (if a y x=true then y else x) r∈_;have:=h (if a y x=true then y else x);rcases bP.mp this with e|e
  ·rw[e];split<;>simp
  ·simp[e]
theorem Y9{a:List UInt64}(h:a≠[]):n7 a∈a:=by
 cases a with
 |nil=>exact absurd rfl h
 |cons x r=>exact Yk _ r x
def Sm(x:UInt64)(e:Rat):Prop:=Fin x/\0<=rv x/\rv x<=e
theorem sm_abs{x:UInt64}{p d e:Rat}(c:Ap x p d)(h1:p+d<=e)(h2:-e<=p-d):Sm (abs x) e:=by
 refine aQ λi=>bO c λf a1 a2=>bO (LC f) λg j k=>i ⟨g,?_⟩;rcases Rat.le_total (a:=0) (b:=rv x)with h|h
 ·refine j h▸?_;exact⟨h,YB h1 a1⟩
 ·refine k h▸?_;exact⟨(dj (by decide+kernel) (DQ h)),Yt h2 a2⟩
theorem sm_max{a:List UInt64}{e:Rat}(h:a≠[])(b:∀ x∈a,Sm x e):Sm (n7 a) e:=b _ (Y9 h)
theorem ap_int{i:Int}(k:Nat)(hk:k<=60){E:Rat}(d:(2:Rat)^k/2^54=E)(h:i.natAbs<=2^k):Ap (ofInt i) i E:=by
 refine bO (TV k hk h) λa b c=>?_;rw[d]at b c;exact⟨a,b,c⟩
theorem U7:(2:Rat)^33=8589934592:=by decide+kernel
theorem T6:(2:Rat)^33/2^54=1/2^21:=by decide+kernel
theorem B0:(2:Rat)^0=1:=by decide+kernel
theorem E0:(2:Rat)^0/2^54=1/2^54:=by decide+kernel
theorem far_ok{x:UInt64}{e:Rat}(N:Int)(hN:N.natAbs<=2^33)(h:Sm x e)(j:e<=1)(k:(N:Rat)*e<=1/2)(l:0<=N)(c:(N:Rat)<=2^33):(cmpInt (mul x (ofInt N)) 1==some jO)=true:=by
 refine bO h λf a b=>?_;have r:Ap x (rv x) 0:=⟨f,Ud,aav⟩;have o:=ap_int (i:=N) 33 (by decide) T6 hN;replace c:=U7▸c;have d:(0:Rat)<=N:=uH.mpr l;refine bO o λf1 c1 p=>bn (vc (a:=rv x) (b:=rv (ofInt N)) (A:=rv x) (B:=N+1/2^21) (I3) (XU a) (XY c1) (UO d p)) λn q=>?_;have m3:rv x*(N:Rat)<=N*e:=by
  have:=I5 b d;exact Nd this
 refine bO (Gq 0 (by decide) f f1 (by refine B0▸?_;exact Py j k b n m3) (by refine B0▸?_;exact LH j k b q m3)) λg m d2=>?_;replace m:=E0▸m;rw[Wr g];rw[if_pos (show rv (mul x (ofInt N))<((1:Int):Rat)by
  have:((1:Int):Rat)=1:=rfl;refine this▸?_;exact aaS j k b n m3 m)]
 rfl
theorem YR{t x:UInt64}(b:Bool)(g:Fin t)(h:Fin x)(k:rv t<=58)(l:-58<=rv t)(m:rv x<=2)(n:-2<=rv x):
  Fin (add t x)/\rv (add t x)-(rv t+rv x)<=1/2^48/\-(1/2^48)<=rv (add t x)-(rv t+rv x)/\
   Fin (if b=true then add (sub x (add t x)) t else add (sub t (add t x)) x)/\rv (if b=true then add (sub x (add t x)) t else add (sub t (add t x)) x)<=3/2^48/\-(3/2^48)<=rv (if b=true then add (sub x (add t x)) t else add (sub t (add t x)) x):=by
 refine bO (mS 6 (by decide) g h (by refine B6▸?_;exact(dj (ch k m) (by decide+kernel))) (by refine B6▸?_;exact(dj (by decide+kernel) (ch l n)))) λi a c=>?_;rw[E6]at a c;refine⟨i,a,c,?_⟩;cases b with
 |true=>
  simp only[if_true];refine bO (zP 6 (by decide) h i (by refine B6▸?_;exact Wi l c) (by refine B6▸?_;exact Xu k a)) λj d e=>?_;rw[E6]at d e;refine bO (mS 6 (by decide) j g (by refine B6▸?_;exact Um c d) (by refine B6▸?_;exact Ky a e)) λv0 v1 f=>?_;rw[E6]at v1 f;exact⟨v0,Rk c d v1,Q3 a e f⟩
 |false=>
  simp only[jc,if_false];refine bO (zP 6 (by decide) g i (by refine B6▸?_;exact Sr n c) (by refine B6▸?_;exact aaU m a)) λj d e=>?_;rw[E6]at d e;refine bO (mS 6 (by decide) j h (by refine B6▸?_;exact ZH c d) (by refine B6▸?_;exact TA a e)) λv0 v1 f=>?_;rw[E6]at v1 f;exact⟨v0,XN c d v1,V8 a e f⟩
noncomputable def nH:List UInt64->Rat
 |[]=>0
 |x::r=>rv x+nH r
theorem Fp:nH []=0:=rfl
theorem vU{x:UInt64}{r:List UInt64}:nH (x::r)=rv x+nH r:=rfl
theorem P7{t c:UInt64}{C:Rat}(b:Fin t)(hc:Fin c)(f:rv t<=60)(g:-60<=rv t)(c1:rv c<=C)(a:-C<=rv c)(hC:C<=1):
  Fin (C8 t c)/\rv (C8 t c)-rv t<=C+1/2^48/\-(C+1/2^48)<=rv (C8 t c)-rv t:=by
 unfold C8;split
 ·refine bO (mS 6 (by decide) b hc (by refine B6▸?_;exact LX f c1 hC) (by refine B6▸?_;exact abr g a hC)) λh d e=>?_;rw[E6]at d e;exact⟨h,PJ c1 d,LV a e⟩
 ·exact⟨b,Mt c1 a,Uj c1 a⟩
theorem Vc:∀ (a:List UInt64) (t c:UInt64) (T C:Rat),Fin t->Fin c->rv t<=T->-T<=rv t->T+2*(a.length:Rat)<=58->rv c<=C->-C<=rv c->C+4/2^48*(a.length:Rat)<=1->(∀ x∈a,Fin x/\rv x<=1+1/2/\-(1+1/2)<=rv x)->
  ∃ z,adw t c (a.map lQ)=some (.float z)/\Fin z/\rv z-(rv t+nH a)<=C+5/2^48*(a.length:Rat)+1/2^48/\-(C+5/2^48*(a.length:Rat)+1/2^48)<=rv z-(rv t+nH a):=by
 intro i;induction i with
 |nil=>
  intro t c T C j hc f g hT c1 h hC _;have e:(([]:List UInt64).length:Rat)=0:=rfl;rw[e]at hT hC;refine bO (P7 (C:=C) j hc (Xy f hT) (Vl g hT) c1 h (P3 hC)) λk l m=>(j0 _ rfl k ?_ ?_)<;>rw[e]<;>rw[Fp]<;>grind
 |cons x a n=>
  intro t c T C j hc f g hT c1 h hC o;refine aQ λs=>?_;have e:((x::a).length:Rat)=(a.length:Rat)+1:=by rw[cK,Kj];rfl
  rw[e]at hT hC;have H:(0:Rat)<=(a.length:Rat):=I4;refine bO (o x (.head _)) λu p q=>?_;generalize v:(cmp (abs t) (abs x)==some jO||uG t||uG x)=b;refine oe (YR b j u (Sp f hT) (Op g hT) (dj p (by decide+kernel)) (dj (by decide+kernel) q)) λk l m l0 l1 l2=>?_;generalize w:(if b=true then add (sub x (add t x)) t else add (sub t (add t x)) x)=d at*;refine bO (mS 0 (by decide) hc l0 (by refine B0▸?_;exact abo c1 hC l1) (by refine B0▸?_;exact Qd h hC l2)) λA r d2=>?_;rw[E0]at r d2;refine ng (n (add t x) (add c d) (T+2) (C+4/2^48) k A (XT f p l) (WB g q m) (aaw hT) (Pb c1 l1 r) (Uo h l2 d2) (Mq hC) (λy B=>o y (.tail _ B))) λz D E F G=>s (j0 z ?_ E ?_ ?_)
  ·refine cB▸?_;show adw (add t x) (add c (if (cmp (abs t) (abs x)==some jO||uG t||uG x)=true then add (sub x (add t x)) t else add (sub t (add t x)) x)) _=_;refine v▸w▸?_;exact D
  ·refine e▸?_;refine vU▸?_;exact ZI l F
  ·refine e▸?_;refine vU▸?_;exact X8 m G
noncomputable def sumQ:List Rat->Rat
 |[]=>0
 |q::r=>q+sumQ r
theorem aaX:sumQ []=0:=rfl
theorem Nt{x:Rat}{r:List Rat}:sumQ (x::r)=x+sumQ r:=rfl
inductive Aps (e:Rat):List UInt64->List Rat->Prop
 |nil:Aps e [] []
 |cons {x q xs qs}:Ap x q e->q<=1->-1<=q->Aps e xs qs->Aps e (x::xs) (q::qs)
theorem Aps.sum{e:Rat}{c:List UInt64}{d:List Rat}(h:Aps e c d):nH c-sumQ d<=(c.length:Rat)*e/\-((c.length:Rat)*e)<=nH c-sumQ d:=by
 induction h with
 |nil=>
  have g:(([]:List UInt64).length:Rat)=0:=rfl;refine g▸?_;rw[Fp,aaX];constructor<;>grind
 |@cons x q c d h1 h2 h3 _ j=>
  have i:((x::c).length:Rat)=(c.length:Rat)+1:=by rw[cK,Kj];rfl
  refine bO h1 λf a b=>i▸?_;refine vU▸Nt▸?_;constructor<;>grind
theorem Aps.ok{e:Rat}(d:e<=1/2){g:List UInt64}{i:List Rat}(h:Aps e g i):∀ x∈g,Fin x/\rv x<=1+1/2/\-(1+1/2)<=rv x:=by
 induction h with
 |nil=>intro x j;cases j
 |cons h1 h2 h3 _ k=>
  intro y c;rcases bP.mp c with rfl|c
  ·exact bO h1 λf a b=>⟨f,aas d h2 a,ab2 d h3 b⟩
  ·exact k y c
theorem sum_ap{a:List UInt64}{m:List Rat}(h0:a≠[])(f:a.length<=15)(h:Aps (1/2^45) a m):∃ z,lM 0 (a.map lQ)=some (.float z)/\Ap z (sumQ m) (1/2^40):=by
 cases a with
 |nil=>exact absurd rfl h0
 |cons x r=>
  refine bn h.sum λg j=>?_;have b:=h.ok (by decide+kernel);refine bO (b x (.head _)) λq n o=>bO (ap_int (i:=0) 0 (by decide) E0 (by decide)) λs c d=>?_;have t:((0:Int):Rat)=0:=rfl;rw[t]at c d;refine bO (mS 6 (by decide) s q (by refine B6▸?_;exact aaW n c) (by refine B6▸?_;exact YE o d)) λu k l=>?_;rw[E6]at k l;have p:rv 0=0:=by have:=c0.2;exact Fc this
  have e:(r.length:Rat)<=14:=by
   have:((r.length:Nat):Rat)<=((14:Nat):Rat):=Rat.natCast_le_natCast.mpr (by simpa using f);exact this
  have E:(0:Rat)<=(r.length:Rat):=I4;refine ng (Vc r (add (ofInt 0) x) 0 2 0 u c0.1 (M9 n c k) (aaE o d l) (LS e) (le_of_eq_of_le p rfl) (Rg p) (ZE e) (λy v=>b y (.tail _ v))) λz w A B C=>?_;have D:((x::r).length:Rat)=(r.length:Rat)+1:=by rw[cK,Kj];rfl
  rw[D]at g j;rw[vU]at g j;refine(j0 z w A ?_ ?_)
  ·exact UR c k e B g
  ·exact aaP d l e C j
end Fl
namespace Ma
noncomputable def sm:List Nat->(Nat->Int)->Int
 |[],_=>0
 |x::L,f=>f x+sm L f
theorem fX{f:Nat->Int}:sm [] f=0:=rfl
theorem fZ{f:Nat->Int}{x:Nat}{L:List Nat}:sm (x::L) f=f x+sm L f:=rfl
theorem Fw(L a:List Nat)(f:Nat->Int):sm (L++a) f=sm L f+sm a f:=by
 induction L with
 |nil=>simp[fX,fZ]
 |cons x L b=>simp only[rA,fX,fZ,b];exact IE
theorem jG{L:List Nat}{f g:Nat->Int}(h:∀ x∈L,f x=g x):sm L f=sm L g:=by
 induction L with
 |nil=>rfl
 |cons x L a=>simp only[fX,fZ];rw[h x (.head _),a λy b=>h y (.tail _ b)]
theorem Rl{L:List Nat}{f g:Nat->Int}(h:∀ x∈L,f x<=g x):sm L f<=sm L g:=by
 induction L with
 |nil=>exact lF _
 |cons x L a=>simp only[fX,fZ];have:=h x (.head _);have:=a λy b=>h y (.tail _ b);exact X6 ‹_› this
theorem sn(L:List Nat):sm L (λ_=>0)=0:=by
 induction L with
 |nil=>rfl
 |cons x L a=>simp only[fX,fZ,a];rfl
theorem qr{L:List Nat}{f:Nat->Int}(h:∀ x,0<=f x):0<=sm L f:=by
 rw[<- sn L];exact Rl λx _=>h x
theorem vM(L:List Nat)(f g:Nat->Int):sm L (λx=>f x+g x)=sm L f+sm L g:=by
 induction L with
 |nil=>rfl
 |cons x L a=>simp only[fX,fZ,a];exact Ez
theorem ly{L c:List Nat}(h:L.Perm c)(f:Nat->Int):sm L f=sm c f:=by
 induction h with
 |nil=>rfl
 |cons x _ d=>simp only[fX,fZ,d]
 |swap x y l=>simp only[fX,fZ];exact(Int.add_left_comm _ _ _)
 |trans _ _ a b=>rw[a,b]
noncomputable def tot(W:Nat->Nat->Int):List Nat->Int
 |[]=>0
 |x::L=>sm L (λu=>W u x)+tot W L
theorem jY{W:Nat->Nat->Int}:tot W []=0:=rfl
theorem iD{W:Nat->Nat->Int}{x:Nat}{L:List Nat}:tot W (x::L)=sm L (λu=>W u x)+tot W L:=rfl
theorem ou{W:Nat->Nat->Int}(hs:∀ i j,W i j=W j i){L c:List Nat}(h:L.Perm c):tot W L=tot W c:=by
 induction h with
 |nil=>rfl
 |cons x p d=>simp only[jY,iD,d,ly p]
 |swap x y l=>simp only[jY,iD,fX,fZ];rw[hs x y];exact Ez
 |trans _ _ a b=>rw[a,b]
theorem qw{W a:Nat->Nat->Int}:∀ {L:List Nat},(∀ i∈L,∀ j∈L,W i j=a i j)->tot W L=tot a L:=by
 intro b;induction b with
 |nil=>
  intro _;exact rfl
 |cons x L c=>
  intro h;simp only[jY,iD];rw[jG (g:=λu=>a u x) λu d=>h u (.tail _ d) x (.head _),c λi hi j e=>h i (.tail _ hi) j (.tail _ e)]
theorem W9{W:Nat->Nat->Int}(h:∀ i j,0<=W i j):∀ L:List Nat,0<=tot W L:=by
 intro a;induction a with
 |nil=>
  exact lF _
 |cons x L b=>
  simp only[jY,iD];have:=b;have:=qr (L:=L) (f:=λu=>W u x) λu=>h u x;exact Y1 ‹_› this
noncomputable def dq(W:Nat->Nat->Int)(s:Nat->Bool):Nat->Nat->Int:=λi j=>if s i=s j then 0 else W i j
theorem ve{W:Nat->Nat->Int}(hs:∀ i j,W i j=W j i)(s:Nat->Bool)(i j:Nat):dq W s i j=dq W s j i:=by
 unfold dq;by_cases h:s i=s j
 ·rw[if_pos h,if_pos h.symm]
 ·rw[if_neg h,if_neg λq=>h q.symm,hs]
theorem Gb{W:Nat->Nat->Int}(h:∀ i j,0<=W i j)(s:Nat->Bool)(i j:Nat):0<=dq W s i j:=by
 unfold dq;split
 ·exact lF _
 ·exact h i j
def Ma(W:Nat->Nat->Int)(A R:List Nat):Prop:=
 ∀ (s:Nat->Bool) (y:Nat),y∈A->y∉R->(∀ x,R.head?=some x->s y≠s x)->sm R (λu=>W u y)<=tot (dq W s) (y::R)
theorem Xq{W:Nat->Nat->Int}{A:List Nat}{x:Nat}:Ma W A [x]:=λs y a b hd=>by
 have:=hd x rfl;simp only[jY,iD,fX,fZ,dq];rw[if_neg λq=>this q.symm];exact T9
theorem Qj{W:Nat->Nat->Int}(k:∀ i j,0<=W i j){A R:List Nat}{x v:Nat}(h:Ma W A (x::R))(m:v∈A)(g:v∉x::R)(b:∀ y∈A,y∉x::R->sm (x::R) (λu=>W u y)<=sm (x::R) (λu=>W u v)):Ma W A (v::x::R):=λs y l n hd=>by
 have c:=hd v rfl;have d:y∉x::R:=λq=>n (.tail _ q);rw[iD,iD];have e:∀ f:Nat->Int,sm (v::x::R) f=f v+sm (x::R) f:=λ_=>rfl;rw[e,e];have c1:dq W s v y=W v y:=by unfold dq;rw[if_neg λq=>c q.symm]
 rw[c1];have o:=qr (L:=x::R) (f:=λu=>dq W s u v) λu=>Gb k s u v;have p:=qr (L:=x::R) (f:=λu=>dq W s u y) λu=>Gb k s u y;by_cases q:s v=s x
 ·have:=h s y l d λr a=>by cases a;rw[<- q];exact c
  rw[iD]at this;exact Nr o this
 ·have:=h s v m g λr a=>by cases a;exact q
  rw[iD]at this;have:=b y l d;exact Lo p ‹_› this
theorem NY{W:Nat->Nat->Int}(hs:∀ i j,W i j=W j i){A R:List Nat}{x t:Nat}(h:Ma W A (x::R))(c:A.Perm (t::x::R))(d:t∉x::R)(s:Nat->Bool)(a:s t≠s x):sm (x::R) (λu=>W u t)<=tot (dq W s) A:=by
 rw[ou (ve hs s) c];exact h s t (c.mem_iff.mpr (.head _)) d λe b=>by cases b;exact a
noncomputable def fV(W:Nat->Nat->Int)(x t:Nat):Nat->Nat->Int:=λi j=>if i=j then W i j else if i=x then W x j+W t j else if j=x then W i x+W i t else W i j
theorem zX{W:Nat->Nat->Int}(hs:∀ i j,W i j=W j i)(x t i j:Nat):fV W x t i j=fV W x t j i:=by
 unfold fV;by_cases h0:i=j
 ·subst h0;rfl
 rw[if_neg h0,if_neg (Ne.symm h0)];by_cases h1:i=x<;>by_cases h2:j=x
 ·subst h1 h2;rfl
 ·rw[if_pos h1,if_neg h2,if_pos h1,hs x j,hs t j]
 ·rw[if_neg h1,if_pos h2,if_pos h2,hs i x,hs i t]
 ·rw[if_neg h1,if_neg h2,if_neg h2,if_neg h1,hs]
theorem X4{W:Nat->Nat->Int}(h:∀ i j,0<=W i j)(x t i j:Nat):0<=fV W x t i j:=by
 unfold fV;have:=h x j;have:=h t j;have:=h i x;have:=h i t;have:=h i j;split
 ·exact WQ this
 ·split
  ·exact Vf ‹_› ‹_›
  ·split<;>lia
theorem KW{W:Nat->Nat->Int}(hs:∀ i j,W i j=W j i){x t:Nat}{B:List Nat}(a:x∉B):tot (fV W x t) (x::B)=tot W (t::x::B)-W x t:=by
 simp only[jY,iD,fX,fZ];have b:sm B (λu=>fV W x t u x)=sm B (λu=>W u x)+sm B (λu=>W u t):=by
  rw[<- vM];refine jG λu c=>?_;have:u≠x:=λq=>a (q▸c);unfold fV;rw[if_neg this,if_neg this,if_pos rfl]
 have d:tot (fV W x t) B=tot W B:=qw λi hi j e=>by
  have h1:i≠x:=λq=>a (q▸hi);have h2:j≠x:=λq=>a (q▸e);unfold fV;simp only[if_neg h1,if_neg h2,ite_self]
 rw[b,d];exact RP
theorem R5{W:Nat->Nat->Int}(hs:∀ i j,W i j=W j i){x t:Nat}{B:List Nat}(b:x∉B)(s:Nat->Bool)(a:s t=s x):tot (dq (fV W x t) s) (x::B)=tot (dq W s) (t::x::B):=by
 simp only[jY,iD,fX,fZ];have c0:dq W s x t=0:=by unfold dq;rw[if_pos a.symm]
 have c:sm B (λu=>dq (fV W x t) s u x)=sm B (λu=>dq W s u x)+sm B (λu=>dq W s u t):=by
  rw[<- vM];refine jG λu d=>?_;have:u≠x:=λq=>b (q▸d);unfold dq fV;rw[if_neg this,if_neg this,if_pos rfl,a];split<;>lia
 have e:tot (dq (fV W x t) s) B=tot (dq W s) B:=qw λi hi j f=>by
  have h1:i≠x:=λq=>b (q▸hi);have h2:j≠x:=λq=>b (q▸f);unfold dq fV;simp only[if_neg h1,if_neg h2,ite_self]
 rw[c0,c,e];exact V9
theorem Rw{W:Nat->Nat->Int}(s:Nat->Bool){t:Nat}{B:List Nat}(h:∀ u∈B,s u≠s t):tot (dq W s) (t::B)=sm B (λu=>W u t):=by
 simp only[jY,iD];have a:sm B (λu=>dq W s u t)=sm B (λu=>W u t):=jG λu b=>by unfold dq;rw[if_neg (h u b)]
 have c:tot (dq W s) B=0:=by
  have:tot (dq W s) B=tot (λ_ _=>0) B:=qw λi hi j d=>by
   have h1:=h i hi;have h2:=h j d;unfold dq;rw[if_pos];revert h1 h2;cases s i<;>cases s j<;>cases s t<;>simp
  rw[this];have z:∀ B:List Nat,tot (λ_ _=>0) B=0:=by
   intro B;induction B with
   |nil=>rfl
   |cons x B e=>simp only[jY,iD,e,sn];rfl
  exact z B
 rw[a,c];exact(o6 _)
theorem D5{W:Nat->Nat->Int}(a:∀ i j,0<=W i j)(hs:∀ i j,W i j=W j i){A R C:List Nat}{y:Nat}(b:A.Perm (y::(R++C))):sm R (λu=>W u y)<=tot W A:=by
 rw[ou hs b];simp only[jY,iD,Fw];have:=qr (L:=C) (f:=λu=>W u y) λu=>a u y;have:=W9 a (R++C);exact ac9 ‹_› this
noncomputable def fo(M:Nat->Nat)(s:Nat->Bool):List Nat->Nat
 |[]=>0
 |x::L=>(if s x then M x else 0)+fo M s L
theorem kR{M:Nat->Nat}{s:Nat->Bool}:fo M s []=0:=rfl
theorem lq{M:Nat->Nat}{s:Nat->Bool}{x:Nat}{L:List Nat}:fo M s (x::L)=(if s x then M x else 0)+fo M s L:=rfl
theorem nj{M:Nat->Nat}{s:Nat->Bool}{L c:List Nat}(h:L.Perm c):fo M s L=fo M s c:=by
 induction h with
 |nil=>rfl
 |cons x _ d=>simp only[kR,lq,d]
 |swap x y l=>simp only[kR,lq];exact(Nat.add_left_comm _ _ _)
 |trans _ _ a b=>rw[a,b]
theorem yG{M M':Nat->Nat}{s s':Nat->Bool}:∀ {L:List Nat},(∀ x∈L,M x=M' x/\s x=s' x)->fo M s L=fo M' s' L:=by
 intro c;induction c with
 |nil=>
  intro _;exact rfl
 |cons x L d=>
  intro h;refine bn (h x (.head _)) λa b=>?_;simp only[kR,lq,a,b,d λy e=>h y (.tail _ e)]
theorem Qg{M:Nat->Nat}{s:Nat->Bool}:∀ (L:List Nat),fo M s L<=fo M (λ_=>true) L:=by
 intro a;induction a with
 |nil=>
  exact cu _
 |cons x L b=>
  simp only[kR,lq];have:=b;split<;>simp<;>lia
structure Inv (W0:Nat->Nat->Int) (W:Nat->Nat->Int) (M:Nat->Nat) (A:List Nat):Prop where
 cut:∀ s,tot (dq W s) A=tot (dq W0 (λi=>(fo M s A).testBit i)) [0,1,2,3,4,5]
theorem Inv.merge{f W:Nat->Nat->Int}{M:Nat->Nat}{A B:List Nat}{x t:Nat}(hs:∀ i j,W i j=W j i)(h:Inv f W M A)(g:A.Perm (t::x::B))(k:x∉B)(b:t∉B)(a:t≠x):
  Inv f (fV W x t) (λi=>if i=x then M x+M t else M i) (x::B) where
 cut s:=by
  have e:=h.cut (λi=>if i=t then s x else s i);have m:tot (dq W (λi=>if i=t then s x else s i)) A=tot (dq (fV W x t) s) (x::B):=by
   rw[ou (ve hs _) g,<- R5 hs k _ (by simp[Ne.symm a])];refine qw λi hi j n=>?_;have c:i≠t:=λq=>by subst q;rcases bP.mp hi with h|h;exact a h;exact b h
   have d:j≠t:=λq=>by subst q;rcases bP.mp n with h|h;exact a h;exact b h
   unfold dq;simp only[c,d,if_false]
  have o:fo M (λi=>if i=t then s x else s i) A=fo (λi=>if i=x then M x+M t else M i) s (x::B):=by
   rw[nj g];simp only[kR,lq,if_true,if_neg (Ne.symm a)];rw[yG (M':=λi=>if i=x then M x+M t else M i) (s':=s) λy l=>?_]
   ·split<;>lia
   ·have c:y≠t:=λq=>b (q▸l);have d:y≠x:=λq=>k (q▸l);simp[c,d]
  rw[<- m,<- o];exact e
theorem Inv.base(b:Nat->Nat->Int):Inv b b (λi=>2^i) [0,1,2,3,4,5] where
 cut s:=by
  refine qw λi hi j c=>?_;have key:∀ i∈[0,1,2,3,4,5],(fo (λi=>2^i) s [0,1,2,3,4,5]).testBit i=s i:=by
   intro i hi;have k:∀ a a1 a2 a3 a4 a5:Bool,((if a then 2^0 else 0)+((if a1 then 2^1 else 0)+((if a2 then 2^2 else 0)+((if a3 then 2^3 else 0)+((if a4 then 2^4 else 0)+((if a5 then 2^5 else 0)+0))))):Nat).testBit 0=a
     /\((if a then 2^0 else 0)+((if a1 then 2^1 else 0)+((if a2 then 2^2 else 0)+((if a3 then 2^3 else 0)+((if a4 then 2^4 else 0)+((if a5 then 2^5 else 0)+0))))):Nat).testBit 1=a1
     /\((if a then 2^0 else 0)+((if a1 then 2^1 else 0)+((if a2 then 2^2 else 0)+((if a3 then 2^3 else 0)+((if a4 then 2^4 else 0)+((if a5 then 2^5 else 0)+0))))):Nat).testBit 2=a2
     /\((if a then 2^0 else 0)+((if a1 then 2^1 else 0)+((if a2 then 2^2 else 0)+((if a3 then 2^3 else 0)+((if a4 then 2^4 else 0)+((if a5 then 2^5 else 0)+0))))):Nat).testBit 3=a3
     /\((if a then 2^0 else 0)+((if a1 then 2^1 else 0)+((if a2 then 2^2 else 0)+((if a3 then 2^3 else 0)+((if a4 then 2^4 else 0)+((if a5 then 2^5 else 0)+0))))):Nat).testBit 4=a4
     /\((if a then 2^0 else 0)+((if a1 then 2^1 else 0)+((if a2 then 2^2 else 0)+((if a3 then 2^3 else 0)+((if a4 then 2^4 else 0)+((if a5 then 2^5 else 0)+0))))):Nat).testBit 5=a5:=by decide+kernel
   refine oe (k (s 0) (s 1) (s 2) (s 3) (s 4) (s 5)) λd e f g h l=>?_;simp only[bP,dP,or_false]at hi;rcases hi with rfl|rfl|rfl|rfl|rfl|rfl<;>assumption
  unfold dq;simp only[key i hi,key j c]
end Ma
namespace Pl
section
theorem l0{n i:Nat}(h:n=52)(q:yw i 52=true):i<n:=h▸Cw.mp q
theorem l1{O:List S}{i a:Nat}{x:S}(h:O.length=52)(q:yw i 52=true):i<(O.set a x).length:=l0 (fH.trans h) q
theorem l2{O:List S}{i a b:Nat}{x y:S}(h:O.length=52)(q:yw i 52=true):i<((O.set a x).set b y).length:=l1 (fH.trans h) q
theorem l3{O:List S}{i a b c:Nat}{x y z:S}(h:O.length=52)(q:yw i 52=true):i<(((O.set a x).set b y).set c z).length:=l2 (fH.trans h) q
section
variable{O I σ2 U:List S}{Y G ν2 ν3 ν':List T}{f g h:aP}{x y z:X}{t t1 t2:T}{wr:List Nat}{i j:Nat}
theorem bS{l:List S}{a:S}(h:i<l.length):(l.set i a)[i]?=some a:=fT h
theorem aW{l:List S}{a b:S}(h:mG i j=false)(e:l[j]?=some b):(l.set i a)[j]?=some b:=by rw[ed (Nat.ne_of_beq_eq_false h)];exact e
theorem be:dK t O Y=some (.v t,Y):=rfl
theorem aM{a:S}(h:O[i]?=some a)(b:a.x i=some x):dV i O Y=some (x,Y):=aT h (da b rfl)
theorem bV{op:gf}(a:f O Y=some (x,G))(h1:x.t?=some t1)(b:g O G=some (y,ν2))(h2:y.t?=some t2)(h:dp op t1 t2=some t):dB op f g O Y=some (.v t,ν2):=aT a (aT h1 (aT b (aT h2 (da (da h rfl) rfl))))
theorem kW{op:gq}{b:Bool}(a:f O Y=some (x,G))(h1:x.t?=some t1)(c:g O G=some (y,ν2))(h2:y.t?=some t2)(h:d9 op t1 t2=some b):dC op f g O Y=some (.v (.bool b),ν2):=aT a (aT h1 (aT c (aT h2 (da (da h rfl) rfl))))
theorem jl{op:gq}{b:Bool}(a:f O Y=some (x,G))(h1:x.t?=some t1)(c:g O G=some (y,ν2))(h2:y.t?=some t2)(h:d9 op t1 t2=some b):tC op f g O Y=some (b,ν2):=aT a (aT h1 (aT c (aT h2 (da h rfl))))
theorem rk{b:Bool}(a:f O Y=some (x,G))(h1:x.t?=some t1)(h:oh t1=some b):tV f O Y=some (b,G):=aT a (aT h1 (da h rfl))
theorem VJ{c:dc}{b:Bool}(h:c O Y=some (b,G)):tN c O Y=some (!b,G):=da h rfl
theorem bM(a:f O Y=some (x,G))(b:g O G=some (y,ν2))(h2:y.t?=some t2)(h:x.item t2=some t):aR f g O Y=some (.v t,ν2):=aT a (aT b (aT h2 (da h rfl)))
theorem yH{c:dc}(hc:c O Y=some (true,G))(a:f O G=some (x,ν2)):om c f g O Y=some (x,ν2):=aT hc a
theorem yE{c:dc}(hc:c O Y=some (false,G))(a:g O G=some (x,ν2)):om c f g O Y=some (x,ν2):=aT hc a
theorem pL{a:Int}(b:f O Y=some (x,G))(h1:x.t?=some (.int a)):gO f O Y=some (.v (.int (-a)),G):=aT b (aT h1 (da rfl rfl))
theorem dh:lp [] O Y=some ([],Y):=rfl
theorem bQ{a:List aP}{l:List T}(b:f O Y=some (x,G))(h1:x.t?=some t1)(h:lp a O G=some (l,ν2)):lp (f::a) O Y=some (t1::l,ν2):=aT b (aT h1 (da h rfl))
theorem eD{a:List aP}{l:List T}(h:lp a O Y=some (l,G)):cJ a O Y=some (.v (.tup l),G):=da h rfl
theorem gp{a:List aP}{l:List T}(h:lp a O Y=some (l,G)):df a O Y=some (.fr l,G):=da h rfl
theorem cv:eR [] O Y=some ([],Y):=rfl
theorem bN{a:List aP}{l:List X}(b:f O Y=some (x,G))(h:eR a O G=some (l,ν2)):eR (f::a) O Y=some (x::l,ν2):=lm b h
theorem db{a:List aP}{k:List X->List T->Option (X×List T)}{l:List X}(h:eR a O Y=some (l,G))(hk:k l G=some (x,ν2)):bL a k O Y=some (x,ν2):=aT h hk
theorem oM{a:List aP}{b:String}{k:List X->List T->Option (X×List T)}{l:List X}(c:f O Y=some (x,G))(d:x.ty=b)(h:eR a O G=some (l,ν2))(hk:k (x::l) ν2=some (y,ν3)):iA b f a k O Y=some (y,ν3):=aT c ((if_pos d).trans (aT h hk))
theorem u4(a:f O Y=some (x,G))(h1:x.t?=some t):j5 f O Y=some (.v t,G):=aT a (da h1 rfl)
theorem r9{c b:Bool}(a:f O Y=some (x,G))(h1:x.t?=some t)(h:F8 c t=some b):nE c f O Y=some (.v (.bool b),G):=aT a (aT h1 (da h rfl))
theorem gk{k:X->Option X}(h:k x=some y):cD k [x] Y=some (y,Y):=da h rfl
theorem rb{k:X->X->Option X}(h:k x y=some z):gR k [x,y] Y=some (z,Y):=da h rfl
theorem En{l r:List T}(a:f O Y=some (x,G))(b:g O G=some (y,ν2))(h1:x.adH=some l)(h2:y.adH=some r)(c:l.length+r.length<=1000000):sC f g O Y=some (.fr (l++r),ν2):=aT a (aT b (aT h1 (aT h2 (if_pos c))))
theorem tl{l r:List T}(a:f O Y=some (x,G))(b:g O G=some (y,ν2))(h1:x.adJ=some l)(h2:y.adJ=some r)(c:l≠[]/\r≠[]/\l.length+r.length<=1000000):iS f g O Y=some (.v (.tup (l++r)),ν2):=aT a (aT b (aT h1 (aT h2 (if_pos c))))
theorem YO{nm:List (Option Str)}{np:Nat}{D:bC}{a:List X}{b:List S}(c:a.length=np)(hs:a.mapM X.s?=some b)(d:D (ic nm b) Y=some (.ret x,U,ν'))(e:x.res?=some t):cf nm np D a Y=some (.v t,ν'):=(if_pos c).trans (aT hs (da (aT d (da e rfl)) rfl))
variable{G0 G1 G2:bC}{fl:Fl}
theorem dT:cs O Y=some (.nx,O,Y):=rfl
theorem bz(h1:G1 O Y=some (.nx,I,G))(h2:G2 I G=some (fl,σ2,ν2)):aZ G1 G2 O Y=some (fl,σ2,ν2):=aT h1 h2
theorem ig(h1:G1 O Y=some (.ret x,I,G)):aZ G1 G2 O Y=some (.ret x,I,G):=aT h1 rfl
theorem kC(h:f O Y=some (x,G)):hY f O Y=some (.ret x,O,G):=da h rfl
theorem l5{c:dc}(h:c O Y=some (true,G))(h1:G1 O G=some (fl,σ2,ν2)):gx c G1 G2 O Y=some (fl,σ2,ν2):=aT h h1
theorem kl{c:dc}(h:c O Y=some (false,G))(h1:G2 O G=some (fl,σ2,ν2)):gx c G1 G2 O Y=some (fl,σ2,ν2):=aT h h1
theorem cC(hc:wr.contains i=true)(a:i<O.length):bU wr (.nm i) t O=some (O.set i (.v t)):=if_pos ⟨hc,a⟩
theorem qj{a:List PT}{b:List T}(h:kF wr a b O=some I):bU wr (.tp a) (.tup b) O=some I:=h
theorem ab6{a:List PT}{b:List T}(h:kF wr a b O=some I):bU wr (.tp a) (.lst b) O=some I:=h
theorem oI:kF wr [] [] O=some O:=rfl
theorem hM{p:PT}{a:List PT}{b:List T}(h1:bU wr p t O=some I)(h2:kF wr a b I=some σ2):kF wr (p::a) (t::b) O=some σ2:=(congrArg (Cn · _) h1).trans h2
theorem ef{p:PT}(h:f O Y=some (x,G))(h1:x.t?=some t)(h2:bU wr p t O=some I):bW wr p f O Y=some (.nx,I,G):=aT h (aT h1 (da h2 rfl))
theorem s8{S0:S}(h:f O Y=some (x,G))(h1:x.own?=some S0)(hc:wr.contains i=true)(a:i<O.length):jB wr i f O Y=some (.nx,O.set i S0,G):=aT h (aT h1 (if_pos ⟨hc,a⟩))
theorem rc(hc:wr.contains i=true)(a:i<O.length):hO wr i (.v t) O=some (O.set i (.v t)):=if_pos ⟨hc,a⟩
theorem oE{l:List T}(hc:wr.contains i=true)(a:i<O.length):hO wr i (.fr l) O=some (O.set i (.own l)):=if_pos ⟨hc,a⟩
theorem wT:mw wr [] O=some O:=rfl
theorem kw{r:List (Nat×X)}(h1:hO wr i x O=some I)(h2:mw wr r I=some σ2):mw wr ((i,x)::r) O=some σ2:=aT h1 h2
theorem wC{is:List Nat}{rev:Bool}{b:List aP}{a:List X}{c:List (Nat×X)}(h:eR b O Y=some (a,G))(d:a.all X.okX=true)(e:a.length=is.length)(k:(if rev then is.reverse.zip a.reverse else is.zip a)=c)(h2:mw wr c O=some I):gB wr is rev b O Y=some (.nx,I,G):=by
 unfold gB;simp only[h,ip];rw[if_pos ⟨d,e⟩,k,h2];rfl
theorem qH{l:List T}(h:f O Y=some (x,G))(h1:x.t?=some t)(hi:O[i]?=some (.own l))(a:l.length<=1000000):dJ i f O Y=some (.nx,O.set i (.own (l++[t])),G):=aT h (aT h1 (aT hi (if_pos a)))
theorem ll(h:f O Y=some (x,G))(h1:x.t?=some t)(hi:O[i]?=some .nts)(a:G.length<=1000000):dJ i f O Y=some (.nx,O,G++[t]):=aT h (aT h1 (aT hi (if_pos a)))
theorem kh{nm:List (Option Str)}{np:Nat}{D:bC}{a:List X}{b σ0:List S}(c:a.length=np)(hs:a.mapM X.s?=some b)(h0:ic nm b=σ0)(d:D σ0 Y=some (.ret x,U,ν'))(e:x.res?=some t):cf nm np D a Y=some (.v t,ν'):=by
 subst h0;exact YO c hs d e
theorem pD{a b:Int}(h:a.natAbs<2^64\/b.natAbs<2^64):dp .Mult (.int a) (.int b)=some (.int (a*b)):=if_pos h
theorem m7{a b:Int}(h1:b≠0)(h2:b.natAbs<2^64):dp .FloorDiv (.int a) (.int b)=some (.int (a.fdiv b)):=if_neg (S8 h1 h2)
theorem l9{a b:Int}(h1:b≠0):dp .Mod (.int a) (.int b)=some (.int (a.fmod b)):=if_neg h1
theorem sh{a b:Int}(h1:0<=b)(h2:b<=1000000)(h3:a.natAbs<2^64):dp .Pow (.int a) (.int b)=some (.int (a^b.toNat)):=if_pos ⟨h1,h2,h3⟩
theorem ZN{e k:Nat}{l:List aP}{c d:X}{a b:List S}(h:eR l O Y=some ([c,d],G))(m:[c,d].all X.okX=true)(p0:hO wr k d O=some a)(p1:hO wr e c a=some b):gB wr [e,k] true l O Y=some (.nx,b,G):=
 wC h m rfl rfl (kw p0 (kw p1 (wT)))
theorem zK{e k:Nat}{l:List aP}{c d:X}{a b:List S}(h:eR l O Y=some ([c,d],G))(m:[c,d].all X.okX=true)(p0:hO wr e c O=some a)(p1:hO wr k d a=some b):gB wr [e,k] false l O Y=some (.nx,b,G):=
 wC h m rfl rfl (kw p0 (kw p1 (wT)))
theorem XG{l m n:Nat}{o:List aP}{d e k:X}{a b c:List S}(h:eR o O Y=some ([d,e,k],G))(p:[d,e,k].all X.okX=true)(p0:hO wr l d O=some a)(p1:hO wr m e a=some b)(p2:hO wr n k b=some c):gB wr [l,m,n] false o O Y=some (.nx,c,G):=
 wC h p rfl rfl (kw p0 (kw p1 (kw p2 (wT))))
theorem WX{n o p q:Nat}{r:List aP}{e k l m:X}{a b c d:List S}(h:eR r O Y=some ([e,k,l,m],G))(s:[e,k,l,m].all X.okX=true)(p0:hO wr n e O=some a)(p1:hO wr o k a=some b)(p2:hO wr p l b=some c)(p3:hO wr q m c=some d):gB wr [n,o,p,q] false r O Y=some (.nx,d,G):=
 wC h s rfl rfl (kw p0 (kw p1 (kw p2 (kw p3 (wT)))))
theorem Qz:kS [] O=true:=rfl
theorem kY{is:List Nat}(h:O[i]?=some .no)(h2:kS is O=true):kS (i::is) O=true:=by unfold kS at h2 ⊢;rw[gX,h,h2];rfl
theorem fO{F:List S->List T->Option (S×List T)}{S0:S}(h:F O Y=some (S0,G))(a:S0.x?=some x):cM F O Y=some (x,G):=aT h (da a rfl)
theorem eL{p:PT}{c:jk}{a:dc}{step:List S->List T->S->Option (S×List T)}{d e:S}{items:List T}(b:kS wr O=true)(hi:c O Y=some (items,G))(k:iv (bU wr p) a step items O G d=some (e,ν2)):cn wr p c a step d O Y=some (e,ν2):=(if_pos b).trans (aT hi k)
section
variable{bind:T->List S->Option (List S)}{test:dc}{step:List S->List T->S->Option (S×List T)}{a a1 a2:S}{ts:List T}
theorem DU:iv bind test step [] O Y a=some (a,Y):=rfl
theorem lC(b:bind t O=some I)(c:test I Y=some (true,G))(hs:step I G a=some (a1,ν2))(d:iv bind test step ts I ν2 a1=some (a2,ν3)):iv bind test step (t::ts) O Y a=some (a2,ν3):=aT b (aT c ((if_pos rfl).trans (aT hs d)))
theorem B9(b:bind t O=some I)(c:test I Y=some (false,G))(d:iv bind test step ts I G a=some (a2,ν3)):iv bind test step (t::ts) O Y a=some (a2,ν3):=aT b (aT c ((if_neg o9).trans d))
end
theorem vx{l:List T}(h:f O Y=some (x,G))(h1:x.t?=some t)(a:l.length<=1000000):cF f O Y (.own l)=some (.own (l++[t]),G):=aT rfl (aT h (aT h1 (if_pos a)))
theorem aa5{l:List (Int×T)}{k:Int}(h:f O Y=some (x,G))(h1:x.t?=some (.int k))(h2:g O G=some (y,ν2))(h3:y.t?=some t)(a:l.length<=1000000):ie f g O Y (.ownd l)=some (.ownd (lX l k t),ν2):=aT rfl (aT h (aT h1 (aT rfl (aT h2 (aT h3 (if_pos a))))))
theorem ia{a:Option Nat}{l:List T}(h:f O Y=some (x,G))(b:x.ow=a)(c:x.adH=some l):iL a f O Y=some (l,G):=aT h ((if_pos b).trans (da c rfl))
theorem i_T{l:List T}(h:f O Y=some (x,G))(a:x.adJ=some l):iT f O Y=some (l,G):=aT h (da a rfl)
theorem D6{l r m:List T}(h:f O Y=some (x,G))(h2:g O G=some (y,ν2))(a:x.ow=none/\y.ow=none)(b:x.adH=some l)(c:y.adH=some r)(d:mh l r=m):iZ f g O Y=some (m,ν2):=d▸aT h (aT h2 ((if_pos a).trans (aT b (da c rfl))))
theorem Ys{h3:aP}{l r q m:List T}(a:f O Y=some (x,G))(b:g O G=some (y,ν2))(c:h3 O ν2=some (z,ν3))(d:y.ow=none/\z.ow=none)(e:x.adJ=some l)(k:y.adH=some r)(hq:z.adH=some q)(n:r.length=l.length/\q.length=l.length)(o:pH l r q=m):AR f g h3 O Y=some (m,ν3):=o▸aT a (aT b (aT c ((if_pos d).trans (aT e (aT k (aT hq (if_pos n)))))))
theorem Eh{a:Option Nat}{l:List T}(h:f O Y=some (x,G))(b:x.ow=a)(c:x.adH=some l):iE a f O Y=some (iX l,G):=aT h ((if_pos b).trans (da c rfl))
theorem HO{l:List (Int×T)}(h:f O Y=some (x,G))(a:x.ow=none)(b:x.adL=some l):iK f O Y=some (l.map λp=>T.int p.1,G):=aT h ((if_pos a).trans (da b rfl))
theorem Nc{l:List (Int×T)}(h:f O Y=some (x,G))(a:x.ow=none)(b:x.adL=some l):iV f O Y=some (l.map λp=>p.2,G):=aT h ((if_pos a).trans (da b rfl))
theorem Ad{l:List (Int×T)}(h:f O Y=some (x,G))(a:x.ow=none)(b:x.adL=some l):iI f O Y=some (l.map λp=>T.tup [T.int p.1,p.2],G):=aT h ((if_pos a).trans (da b rfl))
theorem iC{p:PT}{a:jk}{items:List T}(hi:a O Y=some (items,G))(b:em (bU wr p) G0 items O G=some (fl,σ2,ν2)):fc wr p a G0 O Y=some (fl,σ2,ν2):=aT hi b
theorem FE{bind:T->List S->Option (List S)}:em bind G0 [] O Y=some (.nx,O,Y):=rfl
theorem gj{bind:T->List S->Option (List S)}{a:List T}(b:bind t O=some I)(c:G0 I Y=some (.nx,σ2,G))(d:em bind G0 a σ2 G=some (fl,U,ν2)):em bind G0 (t::a) O Y=some (fl,U,ν2):=aT b (aT c d)
theorem Tv{bind:T->List S->Option (List S)}{a:List T}(b:bind t O=some I)(c:G0 I Y=some (.nx,σ2,G)):em bind G0 (t::a) O Y=em bind G0 a σ2 G:=by
 show((bind t O).bind λI=>(G0 I Y).bind _)=_;rw[b,ip,c];rfl
theorem qo{bind:T->List S->Option (List S)}{a:List T}(b:bind t O=some I)(c:G0 I Y=some (.ret x,σ2,G)):em bind G0 (t::a) O Y=some (.ret x,σ2,G):=aT b (aT c rfl)
end
section
variable{O I σ2 U:List S}{Y G ν2 ν3 ν':List T}{f g h:aP}{x y z:X}{t t1 t2:T}{wr:List Nat}{i j:Nat}
theorem tF:oG none O Y=some (none,Y):=rfl
theorem sg{k:Int}(a:f O Y=some (x,G))(h1:x.t?=some (.int k)):oG (some f) O Y=some (some k,G):=aT a (aT h1 (da rfl rfl))
theorem tn{lo hi:Option aP}{a b:Option Int}{l d:List T}(e:f O Y=some (x,G))(k:oG lo O G=some (a,ν2))(hq:oG hi O ν2=some (b,ν3))(m:x.adH=some l)(n:l.length<=1000000)(c:i9 l a b=d):h7 f lo hi O Y=some (.fr d,ν3):=c▸aT e (aT k (aT hq (aT m (if_pos n))))
theorem Eu{k:Int}{l:List T}(a:f O Y=some (x,G))(b:g O G=some (y,ν2))(c:x.adJ=some l)(hk:y.t?=some (.int k))(d:1<=k/\k<l.length/\l.length<=1000000):kq f g O Y=some (.v (.tup (l.take k.toNat)),ν2):=aT a (aT b (aT c (aT hk (aT rfl (if_pos d)))))
theorem GT{k:Int}(a:f O Y=some (x,G))(b:g O G=some (y,ν2))(hk:x.t?=some (.int k))(c:y.t?=some t):nh f g O Y=some (.frd [(k,t)],ν2):=aT a (aT b (aT hk (aT rfl (da c rfl))))
theorem VH(a:f O Y=some (.v (.inst t),G)):xD f O Y=some (.v t,G):=aT a (da rfl rfl)
theorem E5{a:List aP}{k:List X->List T->Option (X×List T)}{l:List X}(b:f O Y=some (.v (.inst t),G))(h:eR a O G=some (l,ν2))(hk:k (.v (.inst t)::l) ν2=some (y,ν3)):sD f a k O Y=some (y,ν3):=aT b (aT rfl (aT h hk))
theorem Pd(a:f O Y=some (x,G))(h1:x.t?=some t):B2 f O Y=some (.v (.inst t),G):=aT a (da h1 rfl)
theorem abw{k:Int}(a:f O Y=some (.v (.int k),G)):u9 f O Y=some (.v (BW k),G):=aT a (da rfl rfl)
theorem OF{n:Int}(a:f O Y=some (x,G))(h1:x.t?=some (.int n))(b:n.natAbs<=1000000):AI f O Y=some (.fr (rangeT n.toNat),G):=aT a (aT h1 (aT rfl (if_pos b)))
theorem PE{l m r:List T}(a:f O Y=some (x,G))(b:g O G=some (y,ν2))(h1:x.adJ=some l)(h2:y.adJ=some m)(c:l.length<=1000)(h3:tv l m=some r):z7 f g O Y=some (.v (.tup r),ν2):=aT a (aT b (aT h1 (aT h2 ((if_pos c).trans (da h3 rfl)))))
theorem jA{n:Int}(a:f O Y=some (x,G))(h1:x.t?=some (.int n))(b:n.natAbs<=1000000):iR f O Y=some ((aO n.toNat).map λ(j:Nat)=>T.int (j:Int),G):=aT a (aT h1 (aT rfl (if_pos b)))
theorem FW{s:Str}(a:f O Y=some (.v (.str s),G)):Cg f O Y=some (iX (mq s),G):=aT a (da rfl rfl)
theorem IA{k:Int}{b:Bool}(a:f O Y=some (x,G))(h1:x.t?=some (.int k))(c:g O G=some (y,ν2))(d:G5 y k=some b):BG f g O Y=some (b,ν2):=aT a (aT h1 (aT rfl (aT c (da d rfl))))
theorem DL{k:Int}{b neg:Bool}(a:f O Y=some (x,G))(h1:x.t?=some (.int k))(c:g O G=some (y,ν2))(d:vF y k=some b):uV neg f g O Y=some (b != neg,ν2):=aT a (aT h1 (aT rfl (aT c (da d rfl))))
theorem D0{c d:dc}{b:Bool}(h1:c O Y=some (true,G))(h2:d O G=some (b,ν2)):tA c d O Y=some (b,ν2):=aT h1 h2
theorem Vi{c d:dc}(h1:c O Y=some (false,G)):tA c d O Y=some (false,G):=aT h1 rfl
variable{G0 G1 G2:bC}{fl:Fl}
theorem qd{a S1:S}{k:T}(b:g O Y=some (x,G))(h1:x.t?=some t)(c:f O G=some (y,ν2))(h2:y.t?=some k)(hi:O[i]?=some a)(hs:mi a k t=some S1):jC i f g O Y=some (.nx,O.set i S1,ν2):=aT b (aT h1 (aT c (aT h2 (aT hi (da hs rfl)))))
theorem Ai{S0 a:S}{k old n:T}(hi:O[i]?=some S0)(b:f O Y=some (x,G))(h1:x.t?=some k)(c:wb S0 k=some old)(d:g O G=some (y,ν2))(h2:y.t?=some t)(e:s9 old t=some n)(hs:mi S0 k n=some a):na i f g O Y=some (.nx,O.set i a,ν2):=aT hi (aT b (aT h1 (aT c (aT d (aT h2 (aT e (da hs rfl)))))))
theorem PZ{a n:T}(hi:O[i]?=some (.v a))(b:f O Y=some (x,G))(h1:x.t?=some t)(c:s9 a t=some n)(hc:wr.contains i=true)(d:i<O.length):vd wr i f O Y=some (.nx,O.set i (.v n),G):=aT hi (aT b (aT h1 (aT c (if_pos ⟨hc,d⟩))))
theorem W5{F:List S->List T->Option (S×List T)}{a:S}(h:F O Y=some (a,G))(hc:wr.contains i=true)(b:i<O.length):jS wr i F O Y=some (.nx,O.set i a,G):=aT h (if_pos ⟨hc,b⟩)
theorem DV{a b:S}(h0:O[i]?=some a)(c:a.adF=false)(h:G0 O Y=some (.nx,I,G))(h1:I[i]?=some b)(d:b.t?=some t):jL i G0 O Y=some (.nx,I.set i (.v t),G):=aT h (aT h0 (aT rfl (aT h1 ((if_neg (by rw[c];exact o9)).trans (da d rfl)))))
theorem set_set{a b:S}:(O.set i a).set i b=O.set i b:=List.set_set ..
theorem tz{F:List S->List T->Option (S×List T)}{a b:S}(h0:O[i]?=some a)(d:a.adF=false)(h:F O Y=some (b,G))(e:b.t?=some t)(hc:wr.contains i=true)(c:i<O.length):jL i (jS wr i F) O Y=some (.nx,O.set i (.v t),G):=by
 have:=DV (t:=t) h0 d (W5 h hc c) (bS c) e
 rwa [set_set]at this
theorem Zq{a b:S}(h0:O[i]?=some a)(d:a.adF=false)(h:f O Y=some (x,G))(h1:x.own?=some b)(e:b.t?=some t)(hc:wr.contains i=true)(c:i<O.length):jL i (jB wr i f) O Y=some (.nx,O.set i (.v t),G):=by
 have:=DV (t:=t) h0 d (s8 h h1 hc c) (bS c) e
 rwa [set_set]at this
theorem z6{a:UInt64}{b:Int}(h:b.natAbs<2^64):dp .Sub (.flt a) (.int b)=some (.flt (dk a (bZ b))):=if_pos h
theorem A8{a:UInt64}{b:Int}(h:b.natAbs<2^64):dp .Mult (.flt a) (.int b)=some (.flt (c9 a (bZ b))):=if_pos h
theorem Dy{a:Int}{b:UInt64}(h:a.natAbs<2^64):dp .Mult (.int a) (.flt b)=some (.flt (c9 (bZ a) b)):=if_pos h
theorem AA{a b:Int}(h:0<=b):dp .RShift (.int a) (.int b)=some (.int (a.fdiv (2^b.toNat))):=if_pos h
end
noncomputable def fe:List Int->Int
 |[]=>0
 |x::r=>x+fe r
theorem Ag:fe []=0:=rfl
theorem abB{x:Int}{r:List Int}:fe (x::r)=x+fe r:=rfl
theorem Xj:∀ l:List Int,nJ (l.map T.int)=some (l.map jQ):=by
 intro a;induction a with
 |nil=>
  exact rfl
 |cons x r b=>
  exact aT rfl (da (b) rfl)
theorem WA:∀ (l:List Int) (a:Int),Num.foldFrom Num.add (.int a) (l.map jQ)=some (.int (a+fe l)):=by
 intro b;induction b with
 |nil=>
  intro a;show some (jQ a)=_;rw[Ag];rw[o6]
 |cons x r c=>
  intro a;rw[cB];show(Num.add (.int a) (.int x)).bind _=_;rw[show Num.add (.int a) (.int x)=some (.int (a+x))from rfl,ip,c];rw[show fe (x::r)=x+fe r from rfl,xM]
theorem QJ:∀ (l:List Int) (a:Int),lM a (l.map jQ)=some (.int (a+fe l)):=by
 intro b;induction b with
 |nil=>
  intro a;show some (jQ a)=_;rw[Ag];rw[o6]
 |cons x r c=>
  intro a;rw[cB];show(if _ then _ else _)=_;split
  ·rw[c];rw[show fe (x::r)=x+fe r from rfl,xM]
  ·rw[WA r];rw[show fe (x::r)=x+fe r from rfl,xM]
theorem A6(l:List Int):jo (.fr (l.map T.int))=some (.v (.int (fe l))):=by
 unfold jo;show(nJ (l.map T.int)).bind _=_;rw[Xj,ip,QJ,xL];rfl
theorem L5{a b c:Int}:jo (.fr [.int a,.int b,.int c])=some (.v (.int (a+(b+(c+0))))):=A6 [a,b,c]
theorem UM(l:List T)(a:Nat):∀ n:Nat,a+n<=l.length->((aO n).map λ(k:Nat)=>((a:Int)+1*(k:Int)).toNat).filterMap (l[·]?)=(l.drop a).take n:=by
 intro n;induction n with
 |zero=>intro _;simp
 |succ n c=>
  intro h;rw[Kk,mO,List.filterMap_append,c (jN h)];have e:((a:Int)+1*(n:Int)).toNat=a+n:=Rv;have b:n<(l.drop a).length:=by rw[yi];exact NM h
  rw[ad9 b];simp only[cB,rS,e];rw[List.getElem_drop];have:l[a+n]?=some (l[a+n]'(Ed h)):=gv (Ed h);simp[this]
theorem wg{l:List T}{lo hi:Option Int}{a b:Nat}(c:b<=l.length)(e:kK lo hi none l.length=((a:Int),(b:Int),1)):i9 l lo hi=(l.drop a).take (b-a):=by
 unfold i9;rw[e];unfold sliceRange;simp only[show(1:Int)>0 by decide,if_true,Int.ediv_one];by_cases h:(a:Int)<b
 ·rw[if_pos h,show((b:Int)-a+1-1).toNat=b-a by exact Qe];exact UM l a (b-a) (by exact MV c h)
 ·rw[if_neg h,show b-a=0 by exact SI h];simp
theorem Tj(l:List T)(k:Nat):i9 l none (some (k:Int))=l.take k:=by
 have e:kK none (some (k:Int)) none l.length=(((0:Nat):Int),((min k l.length:Nat):Int),1):=by
  unfold kK;simp only[C9,show(1:Int)>0 by decide,if_true,show ¬((k:Int)<0)by exact vD,if_false,mK];refine⟨rfl,?_,trivial⟩;exact Hb
 rw[wg (adf _ _) e,List.drop_zero,Nat.sub_zero];rw[List.take_eq_take_iff];exact X0
theorem T7(l:List T)(k:Nat)(h:k<=l.length):i9 l (some (k:Int)) none=l.drop k:=by
 have e:kK (some (k:Int)) none none l.length=((k:Int),(l.length:Int),1):=by
  unfold kK;simp only[C9,show(1:Int)>0 by decide,if_true,show ¬((k:Int)<0)by exact vD,if_false,mK];refine⟨?_,trivial⟩;exact Sw h
 rw[wg (cu _) e];exact uB (by rw[yi];exact(cu (_-_)))
theorem QU(l:List T)(k:Nat)(h:k<=l.length)(h0:0<k):i9 l (some (-(k:Int))) none=l.drop (l.length-k):=by
 have e:kK (some (-(k:Int))) none none l.length=(((l.length-k:Nat):Int),(l.length:Int),1):=by
  unfold kK;simp only[C9,show(1:Int)>0 by decide,if_true,show(-(k:Int))<0 by exact HH h0,mK];refine⟨?_,trivial⟩;exact HB
 rw[wg (cu _) e];exact uB (by rw[yi];exact(cu (_-(_-_))))
theorem HV(l:List T)(k:Nat)(h:k<=l.length)(h0:0<k):i9 l none (some (-(k:Int)))=l.take (l.length-k):=by
 have e:kK none (some (-(k:Int))) none l.length=(((0:Nat):Int),((l.length-k:Nat):Int),1):=by
  unfold kK;simp only[C9,show(1:Int)>0 by decide,if_true,show(-(k:Int))<0 by exact HH h0,mK];refine⟨rfl,?_,trivial⟩;exact HB
 rw[wg (Nat.sub_le _ _) e,List.drop_zero,Nat.sub_zero]
theorem Q0(a b c d e f g:T):i9 [a,b,c,d,e,f,g] (some 4) none=[e,f,g]:=T7 _ 4 (by simp)
theorem zY(a b c:UInt64)(Y:List T):nC [.fr [.flt a,.flt b,.flt c]] Y=some (.v (.flt (n7 [a,b,c])),Y):=rfl
theorem IJ(r g b:UInt64)(Y:List T):cf lS 3 mX [.v (.flt r),.v (.flt g),.v (.flt b)] Y=some (.v (.tup [.flt (Fl.yF r g b),.flt (Fl.iF r g b),.flt (Fl.qF r g b)]),Y):=by
 exact rfl
structure V3 where
 r:Int
 g:Int
 b:Int
noncomputable def V3.n(v:V3):Int:=v.r+v.g+v.b
noncomputable def tB(v:V3):T:=.tup [.int v.r,.int v.g,.int v.b,.int (v.r+v.g+v.b)]
noncomputable def V3.w(v:V3)(k:Int):Int:=
 if k=0 then v.r+v.g+v.b else if k=1 then v.r else if k=2 then v.g else if k=3 then v.b else if k=4 then 30*v.r+59*v.g+11*v.b
 else if k=5 then 5990*v.r-2773*v.g-3217*v.b else 2130*v.r-5251*v.g+3121*v.b
noncomputable def nF(v:V3):T:=.lst [.int (v.r+v.g+v.b),.int v.r,.int v.g,.int v.b,.int (30*v.r+59*v.g+11*v.b),.int (5990*v.r-2773*v.g-3217*v.b),.int (2130*v.r-5251*v.g+3121*v.b)]
theorem Iv(v:V3)(Y:List T):cf pW 1 tu [.v (tB v)] Y=some (.v (nF v),Y):=by
 unfold tB nF;exact rfl
structure Od where
 k1:Int
 s1:Int
 k2:Int
 s2:Int
structure Od.Ok (o:Od):Prop where
 k1:o.k1=1\/o.k1=2\/o.k1=3
 s1:o.s1=1\/o.s1=-1
 k2:o.k2=4\/o.k2=5\/o.k2=6
 s2:o.s2=1\/o.s2=-1
noncomputable def cO(o:Od):T:=.lst [.tup [.int 0,.int 1],.tup [.int o.k1,.int o.s1],.tup [.int o.k2,.int o.s2]]
noncomputable def bH(o:Od)(v:V3):Int:=10^12*(v.r+v.g+v.b)+10^6*(o.s1*v.w o.k1)+o.s2*v.w o.k2
theorem yS(v:V3){k:Int}(h:k=0\/k=1\/k=2\/k=3\/k=4\/k=5\/k=6):(X.v (nF v)).item (.int k)=some (.int (v.w k)):=by
 rcases h with rfl|rfl|rfl|rfl|rfl|rfl|rfl<;>rfl
theorem G3{o:Od}(h:o.Ok)(v:V3)(Y:List T):cf oT 2 si [.v (nF v),.v (cO o)] Y=some (.v (.int (bH o v)),Y):=by
 refine aQ λl=>?_;obtain⟨e,f,i,j⟩:=o;obtain⟨h1,h2,h3,h4⟩:=h;refine l ?_;simp only at h1 h2 h3 h4;unfold cO bH;dsimp only;have m:=yS v (k:=0) (.inl rfl);have n:=yS v (k:=e) (Mp h1);have p:=yS v (k:=i) (Lj h3);have q:f.natAbs<2^64:=by rcases h2 with rfl|rfl<;>decide
 have t:j.natAbs<2^64:=by rcases h4 with rfl|rfl<;>decide
 have run:∀ (k s z:Int) (d:List T) (a b c:S),(X.v (nF v)).item (T.int k)=some (T.int (v.w k))->s.natAbs<2^64->z.natAbs<2^64->d.length<=1000000->cF FA [.v (nF v),a,.v (.int k),.v (.int s),.v (.int z)] Y (.own d)=some (.own (d++[.int (s*v.w k*z)]),Y):=
  λk s z d a b c hw hs u x=>vx (bV (bV (aM rfl rfl) rfl (bM (aM rfl rfl) (aM rfl rfl) rfl hw) rfl (pD (.inl hs))) rfl (aM rfl rfl) rfl (pD (.inr u))) rfl x
 refine' kh (σ0:=[_,_,.no,.no,.no]) rfl rfl rfl (ig (kC (db (bN (fO (eL rfl (D6 (aM rfl rfl) rfl ⟨rfl,rfl⟩ rfl rfl rfl) (lC rfl rfl (run 0 1 (10^12) _ _ .no .no m (by decide) (by decide) (by decide)) (lC rfl rfl (run e f (10^6) _ _ .no .no n q (by decide) (by simp)) (lC rfl rfl (run i j 1 _ _ .no .no p t (by decide) (by simp)) DU)))) rfl) cv) (gk (L5 (a:=1*v.w 0*10^12) (b:=f*v.w e*10^6) (c:=j*v.w i*1)))))) ?h2
 case h2=>
  show some (T.int _)=some (T.int _);congr 2;have y:v.w 0=v.r+v.g+v.b:=rfl;rw[y];generalize f*v.w e=a;generalize j*v.w i=b;exact Pv
open PySem.Float64 in
theorem pZ{i:Nat}{O:List S}{Y:List T}{x k:UInt64}{op:gq}{od:Ordering}(e:∀ a b:UInt64,d9 op (.flt a) (.flt b)=some (cmp a b==some od))(h:O[i]?=some (.v (.flt x)))(hc:(aO 6).contains i=true)(f:i<O.length):
  gx (tC op (dV i) (dK (.flt k))) (aZ (bW (aO 6) (.nm i) (dK (.flt k))) cs) cs O Y=some (.nx,O.set i (.v (.flt (if (cmp x k==some od)=true then k else x))),Y):=by
 have d:tC op (dV i) (dK (.flt k)) O Y=some (cmp x k==some od,Y):=jl (aM h rfl) rfl be rfl (e _ _);by_cases c:(cmp x k==some od)=true
 ·rw[c]at d;rw[if_pos c];exact l5 d (bz (ef be rfl (cC hc f)) dT)
 ·rw[Kl]at c;rw[c]at d;rw[c,if_neg o9];have:O.set i (.v (.flt x))=O:=by
   refine adl λj=>?_;by_cases q:i=j
   ·subst q;rw[fT f,h]
   ·rw[ed q]
  rw[this];exact kl d dT
theorem F9(y i q:UInt64)(Y:List T):cf oq 3 m8 [.v (.flt y),.v (.flt i),.v (.flt q)] Y
  = some (.v (.tup [.flt (Fl.clipF (Fl.rF y i q)),.flt (Fl.clipF (Fl.gF y i q)),.flt (Fl.clipF (Fl.bF y i q))]),Y):=by
 have e:∃ U,m8 [.v (.flt y),.v (.flt i),.v (.flt q),.no,.no,.no] Y=some (.ret (.v (.tup [.flt (Fl.clipF (Fl.rF y i q)),.flt (Fl.clipF (Fl.gF y i q)),.flt (Fl.clipF (Fl.bF y i q))])),U,Y):=by
  unfold m8;exact⟨_,bz (I:=[.v (.flt y),.v (.flt i),.v (.flt q),.v (.flt (Fl.rF y i q)),.no,.no]) (G:=Y) rfl (bz (I:=[.v (.flt y),.v (.flt i),.v (.flt q),.v (.flt (Fl.rF y i q)),.v (.flt (Fl.gF y i q)),.no]) (G:=Y) rfl (bz (I:=[.v (.flt y),.v (.flt i),.v (.flt q),.v (.flt (Fl.rF y i q)),.v (.flt (Fl.gF y i q)),.v (.flt (Fl.bF y i q))]) (G:=Y) rfl (
   bz (pZ (i:=3) (od:=.lt) (λ_ _=>rfl) rfl rfl (by simp)) (bz (pZ (i:=4) (od:=.lt) (λ_ _=>rfl) rfl rfl (by simp)) (bz (pZ (i:=5) (od:=.lt) (λ_ _=>rfl) rfl rfl (by simp)) (bz (pZ (i:=3) (od:=.gt) (λ_ _=>rfl) rfl rfl (by simp)) (bz (pZ (i:=4) (od:=.gt) (λ_ _=>rfl) rfl rfl (by simp)) (bz (pZ (i:=5) (od:=.gt) (λ_ _=>rfl) rfl rfl (by simp)) (ig rfl)))))))))⟩
 exact aU e λU e=>kh rfl rfl rfl e rfl
open PySem.Float64 in
noncomputable def LF(i:Int):UInt64:=ofFrac (decide (i<0) != decide ((64:Int)<0)) i.natAbs (64:Int).natAbs
theorem k9{i:Int}(h0:0<=i)(h1:i<=64):Fl.Ap (LF i) ((i:Rat)/64) (1/2^54):=by
 refine aU (ym h0) λn g=>?_;subst g;have e:LF (n:Int)=Js false n 64:=by
  unfold LF;have:decide (((n:Int))<0)=false:=by simp
  rw[this];simp
 rw[e];refine aQ λh=>bO (Fl.rv_frac (n:=n) (d:=64) 0 (by decide) (by decide) (MX h1)) λa b c=>h ?_;rw[Fl.E0]at b c;have f:((64:Nat):Rat)=64:=rfl;rw[f]at b c;have q:=gh (a:=((n:Int):Rat)) (b:=64) (by decide);generalize ((n:Int):Rat)=N at*;generalize N/64=u at*;exact⟨a,VQ b q,LG c q⟩
open PySem.Float64 in
theorem Tl{x:UInt64}(h:Fl.Fin x):isInf x=false:=by refine eZ h λa m e h=>?_;unfold isInf;rw[h]
open PySem.Float64 in
theorem pR{i:Int}(h0:0<=i)(h1:i<=64):dp .Div (.int i) (.int 64)=some (.flt (LF i)):=by
 show(if _ then _ else _)=_;rw[if_neg]
 ·rfl
 ·rintro (h|h)
  ·cases h
  ·have:=Tl (k9 h0 h1).1;unfold LF at this;rw[this]at h;cases h
noncomputable def yT(v:V3):UInt64:=Fl.yF (LF v.r) (LF v.g) (LF v.b)
noncomputable def gC(v:V3):UInt64:=Fl.iF (LF v.r) (LF v.g) (LF v.b)
noncomputable def qT(v:V3):UInt64:=Fl.qF (LF v.r) (LF v.g) (LF v.b)
noncomputable def dr(v:V3):T:=.lst [.int (v.r+v.g+v.b),.int v.r,.int v.g,.int v.b,.flt (yT v),.flt (gC v),.flt (qT v)]
structure V3.Ok (v:V3):Prop where
 r0:0<=v.r
 r1:v.r<=45
 g0:0<=v.g
 g1:v.g<=45
 b0:0<=v.b
 b1:v.b<=45
section
variable{v:V3}(h:v.Ok)
include h
theorem mz{i:Int}(h0:0<=i)(h1:i<=45):(0:Rat)<=(i:Rat)/64/\(i:Rat)/64<=1:=by
 have a:(0:Rat)<=i:=uH.mpr h0;have b:(i:Rat)<=(45:Int):=gg.mpr h1;have e:((45:Int):Rat)=45:=rfl;rw[e]at b;have q:=gh (a:=(i:Rat)) (b:=64) (by decide);generalize (i:Rat)/64=u at*;constructor<;>grind
theorem vT:Fl.Ap (yT v) (((30*v.r+59*v.g+11*v.b:Int):Rat)/6400) (1/2^48):=by
 refine aQ λa=>bn (mz h h.r0 h.r1) λp0 p1=>bn (mz h h.g0 h.g1) λc d=>bn (mz h h.b0 h.b1) λe f=>a ?_;have:=(Fl.y_ap (k9 h.r0 (by have:=h.r1;exact jU this)) (k9 h.g0 (by have:=h.g1;exact jU this)) (k9 h.b0 (by have:=h.b1;exact jU this)) p0 p1 c d e f).1;refine this.to ?_;unfold Fl.yI;simp only[lP,gK];exact Wb
theorem xC:Fl.Ap (gC v) (((5990*v.r-2773*v.g-3217*v.b:Int):Rat)/640000) (1/2^45):=by
 refine aQ λa=>bn (mz h h.r0 h.r1) λp0 p1=>bn (mz h h.g0 h.g1) λc d=>bn (mz h h.b0 h.b1) λe f=>a ?_;have:=(Fl.i_ap (k9 h.r0 (by have:=h.r1;exact jU this)) (k9 h.g0 (by have:=h.g1;exact jU this)) (k9 h.b0 (by have:=h.b1;exact jU this)) p0 p1 c d e f).1;refine this.to ?_;unfold Fl.iI Fl.yI;simp only[lO,gK];exact Tn
theorem wU:Fl.Ap (qT v) (((2130*v.r-5251*v.g+3121*v.b:Int):Rat)/640000) (1/2^45):=by
 refine aQ λa=>bn (mz h h.r0 h.r1) λp0 p1=>bn (mz h h.g0 h.g1) λc d=>bn (mz h h.b0 h.b1) λe f=>a ?_;have:=(Fl.q_ap (k9 h.r0 (by have:=h.r1;exact jU this)) (k9 h.g0 (by have:=h.g1;exact jU this)) (k9 h.b0 (by have:=h.b1;exact jU this)) p0 p1 c d e f).1;refine this.to ?_;unfold Fl.qI Fl.yI;simp only[lP,lO,gK];exact VS
end
theorem ZD:(2:Rat)^20=1048576:=by decide+kernel
theorem zZ:(2:Rat)^20/2^54=1/2^34:=by decide+kernel
open PySem.Float64 in
theorem B5{x:UInt64}{W u:Int}(e:0<u)(f:u<=640000)(g:W.natAbs<=u.natAbs)(h:Fl.Ap x ((W:Rat)/u) (1/2^45)):Fl.Sm (abs (sub (mul x (ofInt u)) (ofInt W))) (1/2^24):=by
 have n:=Fl.ap_int (i:=u) 20 (by decide) zZ (FV e f);have o:=Fl.ap_int (i:=W) 20 (by decide) zZ (bf g (FV e f));have d:(0:Rat)<u:=Rat.intCast_pos.mpr e;have j:(u:Rat)<=640000:=by
  have:(u:Rat)<=((640000:Int):Rat):=gg.mpr f;exact this
 have k:(W:Rat)<=u:=gg.mpr (Hw e g);have l:-(u:Rat)<=W:=by rw[<- rV];exact gg.mpr (QN e g)
 have q:=gh (a:=(W:Rat)) (b:=(u:Rat)) (Bx d);have p1:(W:Rat)/u<=1:=rU (c:=(u:Rat)) (by rw[q];exact Wt k) d;have p2:-1<=(W:Rat)/u:=rU (c:=(u:Rat)) (by rw[q];exact VK l) d;have m:=Fl.ap_mul (P:=1) (Q:=640000) 20 (by decide) ZD zZ h n p1 p2 j (Xm d) (by decide+kernel);rw[q]at m;replace m:=m.mono (e':=1/2^25) (by decide+kernel);have s:=Fl.ap_sub 0 (by decide) Fl.B0 Fl.E0 m o (Na) (abA);exact Fl.sm_abs s (Q5) (aaA)
noncomputable def BK(v:V3):UInt64:=n7 [fU (dk (c9 (yT v) (bZ 6400)) (bZ (30*v.r+59*v.g+11*v.b))),
 fU (dk (c9 (gC v) (bZ 640000)) (bZ (5990*v.r-2773*v.g-3217*v.b))),fU (dk (c9 (qT v) (bZ 640000)) (bZ (2130*v.r-5251*v.g+3121*v.b)))]
theorem Us{v:V3}(h:v.Ok):Fl.Sm (BK v) (1/2^24):=by
 have:=h.r0;have:=h.r1;have:=h.g0;have:=h.g1;have:=h.b0;have:=h.b1;refine Fl.sm_max (by simp) λx a=>?_;simp only[bP,dP,or_false]at a;rcases a with rfl|rfl|rfl
 ·exact B5 (by decide) (by decide) (by lia) ((vT h).mono (by decide+kernel))
 ·exact B5 (by decide) (by decide) (by lia) (xC h)
 ·exact B5 (by decide) (by decide) (by lia) (wU h)
theorem KQ{v:V3}(h:v.Ok):d9 .Lt (.flt (c9 (BK v) (bZ ((10:Int)^(6:Int).toNat)))) (.int 1)=some true:=by
 show some (Ju _ 1==some jO)=some true;have e:(10:Int)^(6:Int).toNat=1000000:=by decide
 rw[e,Fl.far_ok 1000000 (by decide) (Us h) (by decide+kernel) (by decide+kernel) (by decide) (by decide+kernel)]
def kz(t:T):Prop:=∃ a b,t=.tup [a,b]/\eqT 6 a b=true
theorem zE{z:Int}{n:Nat}(h:z.natAbs<=n)(a:yw n 18446744073709551616=true):z.natAbs<2^64:=ff h (Cw.mp a)
theorem So{o:Od}(q:o.Ok){v:V3}(h:v.Ok)(Y:List T)(i:Y.length<=1000000):cf pU 3 qP [.v (tB v),.v (cO o),.nts] Y
  = some (.v (.tup [.int (bH o v),dr v]),Y++[.tup [.lst [.int (v.r+v.g+v.b),.bool true,.bool true],.lst [.int (v.r+v.g+v.b),.bool true,.bool true]]]):=by
 refine aQ λs=>?_;obtain⟨j,k,g0,g1,l,m⟩:=h;refine s ?_;have h:v.Ok:=⟨j,k,g0,g1,l,m⟩;have t:=pR j (fD k (by decide));have d2:=pR g0 (fD g1 (by decide));have w:=pR l (fD m (by decide));have n:(30*v.r+59*v.g+11*v.b).natAbs<=300000/\(5990*v.r-2773*v.g-3217*v.b).natAbs<=300000/\(2130*v.r-5251*v.g+3121*v.b).natAbs<=300000:=aaZ j k g0 g1 l m;have x:=KQ h;have y:=G3 q v (Y++[.tup [.lst [.int (v.r+v.g+v.b),.bool true,.bool true],.lst [.int (v.r+v.g+v.b),.bool true,.bool true]]]);have run:∀ (p:UInt64) (u d:Int) (f:List T) (a b c:S),u.natAbs<2^64->d.natAbs<2^64->f.length<=1000000->cF D1 [.v (tB v),.v (cO o),.nts,a,b,c,.v (.flt p),.v (.int u),.v (.int d)] Y (.own f)=some (.own (f++[.flt (fU (dk (c9 p (bZ u)) (bZ d)))]),Y):=
  λp u d f a b c z hd A=>vx (db (bN (bV (bV (aM rfl rfl) rfl (aM rfl rfl) rfl (A8 z)) rfl (aM rfl rfl) rfl (z6 hd)) cv) (gk rfl)) rfl A
 have e:∃ U,qP [.v (tB v),.v (cO o),.nts,.no,.no,.no,.no,.no,.no] Y=some (.ret (.v (.tup [.int (bH o v),dr v])),U,Y++[.tup [.lst [.int (v.r+v.g+v.b),.bool true,.bool true],.lst [.int (v.r+v.g+v.b),.bool true,.bool true]]]):=by
  unfold qP;refine⟨_,bz (I:=[.v (tB v),.v (cO o),.nts,.v (.tup [.flt (yT v),.flt (gC v),.flt (qT v)]),.v (nF v),.no,.no,.no,.no]) (G:=Y)
   (ZN (bN (db (bN (bV (bM (aM rfl rfl) be rfl rfl) rfl be rfl t) (bN (bV (bM (aM rfl rfl) be rfl rfl) rfl be rfl d2) (bN (bV (bM (aM rfl rfl) be rfl rfl) rfl be rfl w) cv))) (IJ _ _ _ Y)) (bN (db (bN (aM rfl rfl) cv) (Iv v Y)) cv)) rfl rfl rfl)
   (bz (I:=[.v (tB v),.v (cO o),.nts,.v (.tup [.flt (yT v),.flt (gC v),.flt (qT v)]),.v (nF v),.v (.flt (BK v)),.no,.no,.no]) (G:=Y)
    (ef (db (bN (fO (eL rfl (Ys (aM rfl rfl) (gp (bQ be rfl (bQ be rfl (bQ be rfl dh)))) (tn (aM rfl rfl) (sg be rfl) tF rfl (by simp) (Q0 _ _ _ _ _ _ _)) ⟨rfl,rfl⟩ rfl rfl rfl ⟨rfl,rfl⟩ rfl)
     (lC rfl rfl (run (yT v) 6400 _ _ _ _ _ (by decide) (zE n.1 rfl) (by decide)) (lC rfl rfl (run (gC v) 640000 _ _ _ _ _ (by decide) (zE n.2.1 rfl) (by simp)) (lC rfl rfl (run (qT v) 640000 _ _ _ _ _ (by decide) (zE n.2.2 rfl) (by simp)) DU)))) rfl) cv) (zY _ _ _ Y)) rfl (cC rfl (by simp)))
    (bz (ll (eD (bQ (gp (bQ (bM (aM rfl rfl) be rfl rfl) rfl (bQ (r9 (aM rfl rfl) rfl rfl) rfl (bQ (kW (bV (aM rfl rfl) rfl (bV be rfl be rfl (sh (by decide) (by decide) (by decide))) rfl (A8 (by decide))) rfl be rfl x) rfl dh)))) rfl (bQ (gp (bQ (bM (aM rfl rfl) be rfl rfl) rfl (bQ be rfl (bQ be rfl dh)))) rfl dh))) rfl rfl i)
     (ig (kC (eD (bQ (db (bN (aM rfl rfl) (bN (aM rfl rfl) cv)) y) rfl (bQ (En (gp (bQ (bM (aM rfl rfl) be rfl rfl) rfl (bQ (bM (aM rfl rfl) be rfl rfl) rfl (bQ (bM (aM rfl rfl) be rfl rfl) rfl (bQ (bM (aM rfl rfl) be rfl rfl) rfl dh))))) (db (bN (aM rfl rfl) cv) (gk rfl)) rfl rfl (by simp)) rfl dh)))))))⟩
 exact aU e λU e=>kh rfl rfl rfl e rfl
section
variable{O:List S}{Y:List T}{A B ta tb:T}{k s:Int}(h1:O[1]?=some (S.v A))(h2:O[2]?=some (S.v B))(h3:O[3]?=some (S.v (T.int k)))(h4:O[4]?=some (S.v (T.int s)))(hl:O.length=7)
 (hA:(X.v A).item (T.int k)=some ta) (hB:(X.v B).item (T.int k)=some tb)
include h1 h2 h3 h4 hl hA hB
theorem By{a:bC}{r:Option (Fl×List S×List T)}(h:a ((O.set 5 (S.v ta)).set 6 (S.v tb)) Y=r):aZ (bW (aO 7) (.nm 5) (aR (dV 1) (dV 3))) (aZ (bW (aO 7) (.nm 6) (aR (dV 2) (dV 3))) a) O Y=r:=by
 have a1:bW (aO 7) (.nm 5) (aR (dV 1) (dV 3)) O Y=some (.nx,O.set 5 (S.v ta),Y):=ef (bM (aM h1 rfl) (aM h3 rfl) rfl hA) rfl (cC rfl (by rw[hl];decide));have a2:bW (aO 7) (.nm 6) (aR (dV 2) (dV 3)) (O.set 5 (S.v ta)) Y=some (.nx,(O.set 5 (S.v ta)).set 6 (S.v tb),Y):=ef (bM (aM (aW rfl h2) rfl) (aM (aW rfl h3) rfl) rfl hB) rfl (cC rfl (by rw[fH,hl];decide));unfold aZ;rw[a1,ip];show(bW _ _ _ _ _).bind _=_;rw[a2];exact h
theorem sq{op:gq}{b:Bool}(h:d9 op ta tb=some b):tC op (dV 5) (dV 6) ((O.set 5 (S.v ta)).set 6 (S.v tb)) Y=some (b,Y):=
 jl (aM (aW rfl (bS (by rw[hl];decide))) rfl) rfl (aM (bS (by rw[fH,hl];decide)) rfl) rfl h
theorem D3:dV 4 ((O.set 5 (S.v ta)).set 6 (S.v tb)) Y=some (.v (.int s),Y):=aM (aW rfl (aW rfl h4)) rfl
theorem cmp_lt(h:d9 .Lt ta tb=some true):jJ O Y=some (Fl.ret (X.v (T.int (-s))),(O.set 5 (S.v ta)).set 6 (S.v tb),Y):=
 By h1 h2 h3 h4 hl hA hB (ig (l5 (sq h1 h2 h3 h4 hl hA hB h) (ig (kC (pL (D3 h1 h2 h3 h4 hl hA hB) rfl)))))
theorem cmp_gt(h:d9 .Lt ta tb=some false)(a:d9 .Gt ta tb=some true):jJ O Y=some (Fl.ret (X.v (T.int s)),(O.set 5 (S.v ta)).set 6 (S.v tb),Y):=
 By h1 h2 h3 h4 hl hA hB (bz (kl (sq h1 h2 h3 h4 hl hA hB h) dT) (ig (l5 (sq h1 h2 h3 h4 hl hA hB a) (ig (kC (D3 h1 h2 h3 h4 hl hA hB))))))
theorem sG(h:d9 .Lt ta tb=some false)(a:d9 .Gt ta tb=some false):jJ O Y=some (Fl.nx,(O.set 5 (S.v ta)).set 6 (S.v tb),Y):=
 By h1 h2 h3 h4 hl hA hB (bz (kl (sq h1 h2 h3 h4 hl hA hB h) dT) (bz (kl (sq h1 h2 h3 h4 hl hA hB a) dT) dT))
end
noncomputable def i8(v:V3)(k:Int):UInt64:=if k=4 then yT v else if k=5 then gC v else qT v
noncomputable def lW(k:Int):Int:=if k=4 then 6400 else 640000
theorem zC{v:V3}(h:v.Ok){k:Int}(hk:k=4\/k=5\/k=6):Fl.Ap (i8 v k) ((v.w k:Rat)/(lW k:Rat)) (1/2^45):=by
 rcases hk with rfl|rfl|rfl
 ·exact(vT h).mono (by decide+kernel)
 ·exact xC h
 ·exact wU h
theorem HY{a b:V3}(f:a.Ok)(g:b.Ok){k:Int}(hk:k=4\/k=5\/k=6)(h:a.w k<b.w k):Fl.rv (i8 a k)<Fl.rv (i8 b k):=by
 refine aQ λi=>bO (zC f hk) λ_ a1 a2=>bO (zC g hk) λ_ n o=>i ?_;have e:(0:Rat)<(lW k:Rat)/\(lW k:Rat)<=640000:=by rcases hk with rfl|rfl|rfl<;>exact⟨by decide+kernel,by decide+kernel⟩
 refine bn e λd j=>?_;clear e;have l:=gh (a:=(a.w k:Rat)) (b:=(lW k:Rat)) (Bx d);have m:=gh (a:=(b.w k:Rat)) (b:=(lW k:Rat)) (Bx d);have hw:(a.w k:Rat)+1<=(b.w k:Rat):=by
  have:((a.w k+1:Int):Rat)<=(b.w k:Rat):=gg.mpr h;rw[lP]at this;exact this
 generalize (a.w k:Rat)/(lW k:Rat)=p at*;generalize (b.w k:Rat)/(lW k:Rat)=q at*;have:p+1/2^20<=q:=by
  refine rU (c:=(lW k:Rat)) ?_ d;generalize (lW k:Rat)=u at*;exact Y2 hw j l m
 grind
theorem k8{v:V3}(h:v.Ok){k:Int}(hk:k=4\/k=5\/k=6):Fl.Fin (i8 v k):=(zC h hk).1
theorem Qr{a b:V3}(c:a.Ok)(d:b.Ok){k:Int}(hk:k=4\/k=5\/k=6)(h:a.w k<b.w k):d9 .Lt (T.flt (i8 a k)) (T.flt (i8 b k))=some true:=by
 show some (rC _ _==some jO)=_;rw[Fl.cmp_lt (k8 c hk) (k8 d hk),decide_eq_true (HY c d hk h)]
theorem S6{a b:V3}(c:a.Ok)(d:b.Ok){k:Int}(hk:k=4\/k=5\/k=6)(h:b.w k<a.w k):d9 .Lt (T.flt (i8 a k)) (T.flt (i8 b k))=some false/\d9 .Gt (T.flt (i8 a k)) (T.flt (i8 b k))=some true:=by
 have:=HY d c hk h;constructor
 ·show some (rC _ _==some jO)=_;rw[Fl.cmp_lt (k8 c hk) (k8 d hk),decide_eq_false (Std.not_gt_of_lt this)]
 ·show some (rC _ _==some pg)=_;rw[Fl.cmp_gt (k8 c hk) (k8 d hk),decide_eq_true this]
theorem Ra{a b:V3}(c:a.Ok)(d:b.Ok){k:Int}(hk:k=4\/k=5\/k=6)(h:a=b):d9 .Lt (T.flt (i8 a k)) (T.flt (i8 b k))=some false/\d9 .Gt (T.flt (i8 a k)) (T.flt (i8 b k))=some false:=by
 subst h;constructor
 ·show some (rC _ _==some jO)=_;rw[Fl.cmp_lt (k8 c hk) (k8 c hk),decide_eq_false (IM)]
 ·show some (rC _ _==some pg)=_;rw[Fl.cmp_gt (k8 c hk) (k8 c hk),decide_eq_false (IM)]
theorem WO{a b:V3}{c d:Int}(h1:c=1\/c=2\/c=3)(h2:d=4\/d=5\/d=6)(f:a.w 0=b.w 0)(g:a.w c=b.w c)(h:a.w d=b.w d):a=b:=by
 refine aQ λe=>?_;obtain⟨i,j,k⟩:=a;obtain⟨l,m,n⟩:=b;refine e ?_;have:i=l/\j=m/\k=n:=by
  rcases h1 with rfl|rfl|rfl<;>rcases h2 with rfl|rfl|rfl<;>simp[V3.w]at f g h<;>lia
 refine aQ λe=>bO this λo p q=>?_;clear this;subst o;subst p;subst q;refine e ?_;rfl
theorem vN{v:V3}(h:v.Ok){k:Int}(hk:k=4\/k=5\/k=6):-300000<=v.w k/\v.w k<=300000/\(k=4->0<=v.w k/\v.w k<=4500)/\(k=5->-269550<=v.w k):=by
 have:=h.r0;have:=h.r1;have:=h.g0;have:=h.g1;have:=h.b0;have:=h.b1;rcases hk with rfl|rfl|rfl<;>simp[V3.w]<;>lia
theorem lx(v:V3){k:Int}(h:k=1\/k=2\/k=3):(X.v (dr v)).item (T.int k)=some (T.int (v.w k)):=by rcases h with rfl|rfl|rfl<;>rfl
theorem qm(v:V3):(X.v (dr v)).item (T.int 0)=some (T.int (v.w 0)):=rfl
theorem qV(v:V3){k:Int}(h:k=4\/k=5\/k=6):(X.v (dr v)).item (T.int k)=some (T.flt (i8 v k)):=by rcases h with rfl|rfl|rfl<;>rfl
noncomputable def eX(a b:Int):Int:=b2i (decide (b<a))-b2i (decide (a<b))
theorem tE{a b:Int}(h:a<b):eX a b=-1:=by unfold eX b2i;rw[decide_eq_false (Ar h),decide_eq_true h];rfl
theorem tc{a b:Int}(h:b<a):eX a b=1:=by unfold eX b2i;rw[decide_eq_true h,decide_eq_false (Ar h)];rfl
theorem Oz{a b:Int}(h:a=b):eX a b=0:=by unfold eX b2i;rw[decide_eq_false (Om h),decide_eq_false (Ps h)];rfl
theorem MP{o:Od}{a b:V3}{s:Int}{Y:List T}
  (h:(∃ U:List S,em (bU (aO 7) (.tp [.nm 3,.nm 4])) jJ [T.tup [T.int 0,T.int 1],T.tup [T.int o.k1,T.int o.s1],T.tup [T.int o.k2,T.int o.s2]] [S.v (T.inst (cO o)),S.v (dr a),S.v (dr b),S.no,S.no,S.no,S.no] Y=some (Fl.ret (X.v (T.int s)),U,Y))\/
   (s=0/\∃ U:List S,em (bU (aO 7) (.tp [.nm 3,.nm 4])) jJ [T.tup [T.int 0,T.int 1],T.tup [T.int o.k1,T.int o.s1],T.tup [T.int o.k2,T.int o.s2]] [S.v (T.inst (cO o)),S.v (dr a),S.v (dr b),S.no,S.no,S.no,S.no] Y=some (Fl.nx,U,Y))) :
  cf nr 3 mo [X.v (T.inst (cO o)),X.v (dr a),X.v (dr b)] Y=some (X.v (T.int s),Y):=by
 have hi:iL none (xD (dV 0)) [S.v (T.inst (cO o)),S.v (dr a),S.v (dr b),S.no,S.no,S.no,S.no] Y=some ([T.tup [T.int 0,T.int 1],T.tup [T.int o.k1,T.int o.s1],T.tup [T.int o.k2,T.int o.s2]],Y):=by
  exact ia (VH (aM rfl rfl)) rfl rfl
 rcases h with ⟨U,h⟩|⟨rfl,U,h⟩
 ·refine kh (σ0:=[_,_,_,.no,.no,.no,.no]) rfl rfl rfl ?_ rfl (x:=X.v (T.int s)) (U:=U);unfold mo;exact ig (iC hi h)
 ·refine kh (σ0:=[_,_,_,.no,.no,.no,.no]) rfl rfl rfl ?_ rfl (x:=X.v (T.int 0)) (U:=U);unfold mo;exact bz (iC hi h) (ig (kC be))
theorem Dp{o:Od}(j:o.Ok){a b:V3}(c:a.Ok)(d:b.Ok)(h:a.w 0<b.w 0):bH o a<bH o b:=by
 refine aQ λf=>?_;obtain⟨e,m,i,n⟩:=o;obtain⟨h1,h2,h3,h4⟩:=j;refine f ?_;simp only at h1 h2 h3 h4;refine aQ λf=>bO (vN c h3) λp1 p2 _=>bO (vN d h3) λp q _=>f ?_;have:=c.r0;have:=c.r1;have:=c.g0;have:=c.g1;have:=c.b0;have:=c.b1;have:=d.r0;have:=d.r1;have:=d.g0;have:=d.g1;have:=d.b0;have:=d.b1;have a1:0<=a.w e/\a.w e<=45:=by rcases h1 with rfl|rfl|rfl<;>simp[V3.w]<;>exact Fk ‹_› ‹_›
 have s:0<=b.w e/\b.w e<=45:=by rcases h1 with rfl|rfl|rfl<;>simp[V3.w]<;>lia
 have k:a.w 0=a.r+a.g+a.b:=rfl;have l:b.w 0=b.r+b.g+b.b:=rfl;unfold bH;dsimp only;rw[<- k,<- l];generalize a.w 0=x at*;generalize b.w 0=y at*;generalize a.w e=t at*;generalize b.w e=u at*;generalize a.w i=v at*;generalize b.w i=z at*;rcases h2 with rfl|rfl<;>rcases h4 with rfl|rfl<;>lia
theorem vp{o:Od}(i:o.Ok){a b:V3}(j:a.Ok)(k:b.Ok)(h0:a.w 0=b.w 0)(h:o.s1*a.w o.k1<o.s1*b.w o.k1):bH o a<bH o b:=by
 refine aQ λc=>?_;obtain⟨d,e,f,n⟩:=o;obtain⟨h1,h2,h3,h4⟩:=i;refine c ?_;simp only at h1 h2 h3 h4 h;refine aQ λc=>fW (vN j h3) λp1 p2 p3 p4=>fW (vN k h3) λp q s t=>c ?_;have l:a.w 0=a.r+a.g+a.b:=rfl;have m:b.w 0=b.r+b.g+b.b:=rfl;unfold bH;dsimp only;rw[<- l,<- m,h0];generalize e*a.w d=u at*;generalize e*b.w d=v at*;generalize a.w f=x at*;generalize b.w f=y at*;rcases h4 with rfl|rfl<;>lia
theorem wm{o:Od}{a b:V3}(h0:a.w 0=b.w 0)(h1:a.w o.k1=b.w o.k1)(h:o.s2*a.w o.k2<o.s2*b.w o.k2):bH o a<bH o b:=by
 have c:a.w 0=a.r+a.g+a.b:=rfl;have d:b.w 0=b.r+b.g+b.b:=rfl;unfold bH;rw[<- c,<- d,h0,h1];exact SM h
theorem ED{o:Od}(i:o.Ok){a b:V3}(f:a.Ok)(g:b.Ok)(Y:List T):cf nr 3 mo [X.v (T.inst (cO o)),X.v (dr a),X.v (dr b)] Y=some (X.v (T.int (eX (bH o a) (bH o b))),Y):=by
 refine MP ?_;have p:∀ {x y:Int},x<y->d9 .Lt (T.int x) (T.int y)=some true:=λh=>by show some (decide _)=_;rw[decide_eq_true h]
 have j:∀ {x y:Int},y<=x->d9 .Lt (T.int x) (T.int y)=some false:=λh=>by show some (decide _)=_;rw[decide_eq_false (zL h)]
 have q:∀ {x y:Int},y<x->d9 .Gt (T.int x) (T.int y)=some true:=λh=>by show some (decide _)=_;rw[decide_eq_true h]
 have m:∀ {x y:Int},x<=y->d9 .Gt (T.int x) (T.int y)=some false:=λh=>by show some (decide _)=_;rw[decide_eq_false (zL h)]
 rcases C7 (a.w 0) (b.w 0)with h|h|h
 ·rw[tE (Dp i f g h)];exact .inl ⟨_,qo rfl (cmp_lt rfl rfl rfl rfl rfl (qm a) (qm b) (p h))⟩
 ·have t:jJ _ Y=_:=sG (O:=(([S.v (T.inst (cO o)),S.v (dr a),S.v (dr b),S.no,S.no,S.no,S.no]:List S).set 3 (S.v (T.int 0))).set 4 (S.v (T.int 1))) (Y:=Y) rfl rfl rfl rfl rfl (qm a) (qm b) (j (xc h)) (m (wK h));have go:∀ {r:Option (Fl×List S×List T)},em (bU (aO 7) (.tp [.nm 3,.nm 4])) jJ [T.tup [T.int o.k1,T.int o.s1],T.tup [T.int o.k2,T.int o.s2]] [S.v (T.inst (cO o)),S.v (dr a),S.v (dr b),S.v (T.int 0),S.v (T.int 1),S.v (T.int (a.w 0)),S.v (T.int (b.w 0))] Y=r->
    em (bU (aO 7) (.tp [.nm 3,.nm 4])) jJ [T.tup [T.int 0,T.int 1],T.tup [T.int o.k1,T.int o.s1],T.tup [T.int o.k2,T.int o.s2]] [S.v (T.inst (cO o)),S.v (dr a),S.v (dr b),S.no,S.no,S.no,S.no] Y=r:=by
   rintro _ rfl;exact Tv rfl t
  have n:∀ {s:Int},((∃ U:List S,em (bU (aO 7) (.tp [.nm 3,.nm 4])) jJ [T.tup [T.int o.k1,T.int o.s1],T.tup [T.int o.k2,T.int o.s2]] [S.v (T.inst (cO o)),S.v (dr a),S.v (dr b),S.v (T.int 0),S.v (T.int 1),S.v (T.int (a.w 0)),S.v (T.int (b.w 0))] Y=some (Fl.ret (X.v (T.int s)),U,Y))\/
    (s=0/\∃ U:List S,em (bU (aO 7) (.tp [.nm 3,.nm 4])) jJ [T.tup [T.int o.k1,T.int o.s1],T.tup [T.int o.k2,T.int o.s2]] [S.v (T.inst (cO o)),S.v (dr a),S.v (dr b),S.v (T.int 0),S.v (T.int 1),S.v (T.int (a.w 0)),S.v (T.int (b.w 0))] Y=some (Fl.nx,U,Y)))->
    ((∃ U:List S,em (bU (aO 7) (.tp [.nm 3,.nm 4])) jJ [T.tup [T.int 0,T.int 1],T.tup [T.int o.k1,T.int o.s1],T.tup [T.int o.k2,T.int o.s2]] [S.v (T.inst (cO o)),S.v (dr a),S.v (dr b),S.no,S.no,S.no,S.no] Y=some (Fl.ret (X.v (T.int s)),U,Y))\/
    (s=0/\∃ U:List S,em (bU (aO 7) (.tp [.nm 3,.nm 4])) jJ [T.tup [T.int 0,T.int 1],T.tup [T.int o.k1,T.int o.s1],T.tup [T.int o.k2,T.int o.s2]] [S.v (T.inst (cO o)),S.v (dr a),S.v (dr b),S.no,S.no,S.no,S.no] Y=some (Fl.nx,U,Y))):=λh=>by
   rcases h with ⟨U,h⟩|⟨h1,U,h⟩
   ·exact .inl ⟨U,go h⟩
   ·exact .inr ⟨h1,U,go h⟩
  refine n (aQ λu=>?_);obtain⟨c,k,d,l⟩:=id i;refine u ?_;rcases C7 (a.w o.k1) (b.w o.k1)with h1|h1|h1
  ·have e:eX (bH o a) (bH o b)=-o.s1:=by
    rcases k with e|e
    ·rw[tE (vp i f g h (by rw[e];exact vL h1)),e]
    ·rw[tc (vp i g f h.symm (by rw[e];lia)),e];rfl
   rw[e];exact .inl ⟨_,qo rfl (cmp_lt rfl rfl rfl rfl rfl (lx a c) (lx b c) (p h1))⟩
  ·rcases C7 (a.w o.k2) (b.w o.k2)with h2|h2|h2
   ·have e:eX (bH o a) (bH o b)=-o.s2:=by
     rcases l with e|e
     ·rw[tE (wm h h1 (by rw[e];exact vL h2)),e]
     ·rw[tc (wm h.symm h1.symm (by rw[e];lia)),e];rfl
    rw[e];exact .inl ⟨_,gj rfl (sG (s:=o.s1) rfl rfl rfl rfl rfl (lx a c) (lx b c) (j (xc h1)) (m (wK h1))) (qo rfl (cmp_lt rfl rfl rfl rfl rfl (qV a d) (qV b d) (Qr f g d h2)))⟩
   ·have e:=WO c d h h1 h2;exact bn (Ra f g d e) λf1 f2=>.inr ⟨by subst e;exact Oz rfl,_,gj rfl (sG (s:=o.s1) rfl rfl rfl rfl rfl (lx a c) (lx b c) (j (xc h1)) (m (wK h1))) (gj rfl (sG (s:=o.s2) rfl rfl rfl rfl rfl (qV a d) (qV b d) f1 f2) FE)⟩
   ·have e:eX (bH o a) (bH o b)=o.s2:=by
     rcases l with e|e
     ·rw[tc (wm h.symm h1.symm (by rw[e];exact vL h2)),e]
     ·rw[tE (wm h h1 (by rw[e];lia)),e]
    refine bn (S6 f g d h2) λf1 f2=>?_;rw[e];exact .inl ⟨_,gj rfl (sG (s:=o.s1) rfl rfl rfl rfl rfl (lx a c) (lx b c) (j (xc h1)) (m (wK h1))) (qo rfl (cmp_gt rfl rfl rfl rfl rfl (qV a d) (qV b d) f1 f2))⟩
  ·have e:eX (bH o a) (bH o b)=o.s1:=by
    rcases k with e|e
    ·rw[tc (vp i g f h.symm (by rw[e];exact vL h1)),e]
    ·rw[tE (vp i f g h (by rw[e];lia)),e]
   rw[e];exact .inl ⟨_,qo rfl (cmp_gt rfl rfl rfl rfl rfl (lx a c) (lx b c) (j (FC h1)) (q h1))⟩
 ·rw[tc (Dp i g f h)];exact .inl ⟨_,qo rfl (cmp_gt rfl rfl rfl rfl rfl (qm a) (qm b) (j (FC h)) (q h))⟩
noncomputable def pO:List Nat:=[114,103,98]
noncomputable def kB:List (List Nat):=[[]]++pO.map (λa=>[a])++pO.flatMap (λa=>pO.map λb=>[a,b])++pO.flatMap (λa=>pO.flatMap λb=>pO.map λc=>[a,b,c])
noncomputable def cj(w:List Nat):Str:=⟨w.toArray⟩
theorem Xd:(kB.all λw=>CX (cj w) (aK "r")==((w.count 114:Nat):Int)&&CX (cj w) (aK "g")==((w.count 103:Nat):Int)&&CX (cj w) (aK "b")==((w.count 98:Nat):Int))=true:=by decide+kernel
noncomputable def og(c:Nat):List Nat:=if c=13191 then [103,98]else [c]
noncomputable def tw(w:List Nat):List Nat:=(Txt.replace (cj w) (aK "gb") ⟨#[13191]⟩).cps.toList
theorem W7:(kB.all λw=>(tw w).flatMap og==w&&decide ((tw w).length<=3)&&(tw w).all (λc=>[114,103,98,13191].contains c))=true:=by decide+kernel
theorem Hr:(kB.all λw=>w.flatMap og==w&&decide (w.length<=3)&&w.all (λc=>[114,103,98,13191].contains c))=true:=by decide+kernel
theorem R6:∀ (b:List Str) (a:Array Nat),b.foldl (λc p=>c++(#[]:Array Nat)++p.cps) a=a++(b.flatMap λy=>y.cps.toList).toArray:=by
 intro d;induction d with
 |nil=>
  intro a;simp
 |cons y b e=>
  intro a;rw[ada,e];rw[yx];apply adx.mp;simp
theorem join_nil(a:List Str):Txt.join (aK "") a=cj (a.flatMap λy=>y.cps.toList):=by
 have e:aK ""=⟨#[]⟩:=by decide+kernel
 rw[e];show ady _ _=_;unfold ady cj;cases a with
 |nil=>rfl
 |cons y a=>
  show(⟨a.foldl (λb p=>b++(#[]:Array Nat)++p.cps) y.cps⟩:Str)=_;rw[R6,yx];congr 1;apply adx.mp;simp
theorem strs_map(a:List Str):strs? (a.map T.str)=some a:=by
 induction a with
 |nil=>rfl
 |cons y a b=>exact aT rfl (da b rfl)
noncomputable def m3(c:Nat):Str:=match n9 c with
 |some x=>x
 |none=>JT ⟨#[c]⟩
theorem Wa(c:Nat)(Y:List T):cf sp 1 wz [X.v (T.str ⟨#[c]⟩)] Y=some (X.v (T.bool (dZ c)),Y):=rfl
theorem Sj(c:Nat)(Y:List T):u9 (bL [dV 0] (cD qG)) [S.v (T.str ⟨#[c]⟩),S.no] Y=some (X.v (match n9 (c:Int)with|some x=>T.str x|none=>T.none),Y):=
 abw (k:=(c:Int)) rfl
theorem Uk(c:Nat)(Y:List T):cf te 1 wR [X.v (T.str ⟨#[c]⟩)] Y=some (X.v (T.str (m3 c)),Y):=by
 have a:=Sj c Y;cases h:n9 (c:Int)with
 |some x=>
  rw[show m3 c=x by unfold m3;rw[h]];rw[h]at a;exact kh (σ0:=[_,.no]) rfl rfl rfl (bz (I:=[.v (.str ⟨#[c]⟩),.v (.str x)]) (ef a rfl rfl) (ig (l5 rfl (ig (kC (aM rfl rfl)))))) rfl
 |none=>
  rw[show m3 c=JT ⟨#[c]⟩by unfold m3;rw[h]];rw[h]at a;exact kh (σ0:=[_,.no]) rfl rfl rfl (bz (I:=[.v (.str ⟨#[c]⟩),.v .none]) (ef a rfl rfl) (bz (kl rfl dT) (ig (kC (oM (aM rfl rfl) rfl cv (gk rfl)))))) rfl
noncomputable def fJ:List Int:=[173,847,6150,6155,6156,6157,8203,8204,8205,8288,65279,65024,65025,65026,65027,65028,65029,65030,65031,65032,65033,65034,65035,65036,65037,65038,65039]
noncomputable def eS:List Int:=[97,65,119808,119860,119912,120016,120172,120224,120276,120328,120380,120432]
noncomputable def eF:List (List Int):=[[8475,8476,8477],[119970,120074,120126],[8492,120069,120121]]
noncomputable def eK(kind c:Nat):Nat:=if c=13191 then c else if kind<12 then((eS.getD kind 0)+c-97).toNat else(((eF.getD (if c=114 then 0 else if c=103 then 1 else 2) []).getD (kind-12) 0)).toNat
theorem PU:((aO 15).all λk=>[114,103,98,13191].all λc=>!(dZ (eK k c))&&(m3 (eK k c)==cj (og c))&&decide (eK k c<=0x10FFFF))=true:=by decide+kernel
theorem Em:(fJ.all λc=>dZ c&&decide (0<=c)&&decide (c<=0x10FFFF))=true:=by decide+kernel
theorem qC(n d:Nat):n8 (n:Int) (d:Int)=((n/d:Nat):Int):=by
 rw[Int.fdiv_eq_ediv_of_nonneg _ (kx)];rfl
theorem oN(n d:Nat):yy (n:Int) (d:Int)=((n%d:Nat):Int):=by
 rw[Int.fmod_eq_emod_of_nonneg _ (kx)];rfl
theorem Cb{l:List T}{j:Nat}{t:T}(h:l[j]?=some t)(b:l.length<=1000000):lZ l (j:Int)=some t:=by
 have a:j<l.length:=(je.mp h).1;unfold lZ;have hs:tm (j:Int)=true:=by
  unfold tm;simp only[fg,decide_eq_true_eq];constructor
  ·have:(0:Int)<=2^63:=by decide
   lia
  ·have:(1000000:Int)<2^63:=by decide
   lia
 rw[if_pos hs];have hi:ui (j:Int) l.length=some j:=by
  unfold ui;simp only[show ¬((j:Int)<0)by exact vD,if_false];have h0:(0:Int)<=(j:Int):=kx;have h1:(j:Int)<(l.length:Int):=BD a;simp[h0,h1]
 rw[hi,ip,h]
noncomputable def gw(st p:Nat):Nat:=(fJ.getD ((st/2+10*p)%27) 0).toNat
noncomputable def kd(st p:Nat):Nat:=(st/54+4*p)%15
noncomputable def ku(st:Nat):Nat->List Nat->List Nat
 |_,[]=>[]
 |p,c::a=>gw st p::eK (kd st p) c::ku st (p+1) a
theorem Ql{st p:Nat}:ku st p []=[]:=rfl
theorem wx{st p c:Nat}{a:List Nat}:ku st p (c::a)=gw st p::eK (kd st p) c::ku st (p+1) a:=rfl
noncomputable def cy(c:Nat):T:=T.str ⟨#[c]⟩
theorem FG{J:Type}{a b:Option J}{t:J}(h:a=some t):a.or b=some t:=congrArg (Option.or · b) h
theorem v7{x:X}{l:List T}{k:Int}{t:T}(h1:x.adH=some l)(h2:lZ l k=some t):x.item (.int k)=some t:=aT rfl (FG (aT h1 h2))
theorem vQ{l:List T}{j:Nat}{t:T}(h:l[j]?=some t)(a:l.length<=1000000):(X.v (T.lst l)).item (T.int (j:Int))=some t:=v7 rfl (Cb h a)
theorem MC(st p:Nat):(X.v (T.lst (fJ.map T.int))).item (T.int (yy (n8 (st:Int) 2+10*(p:Int)) 27))=some (T.int ((gw st p:Nat):Int)):=by
 have e:yy (n8 (st:Int) 2+10*(p:Int)) 27=(((st/2+10*p)%27:Nat):Int):=by
  have h1:=qC st 2;have h2:=oN (st/2+10*p) 27;rw[show((2:Nat):Int)=2 from rfl]at h1;rw[show((27:Nat):Int)=27 from rfl]at h2;rw[h1,<- h2];congr 1
 rw[e];have a:(st/2+10*p)%27<fJ.length:=nT _ (by decide);refine vQ ?_ (by decide);rw[fR,gv a];have b:=c8.mp Em _ (Km a);simp only[fg,decide_eq_true_eq]at b;unfold gw;rw[yn,gv a];simp only[mF,JJ];rw[Cm b.1.2]
theorem Ah(st p:Nat):dZ ((gw st p:Nat):Int)=true/\gw st p<=0x10FFFF:=by
 have a:(st/2+10*p)%27<fJ.length:=nT _ (by decide);have b:=c8.mp Em _ (Km a);simp only[fg,decide_eq_true_eq]at b;unfold gw;rw[yn,gv a];simp only[JJ];rw[Cm b.1.2];exact⟨b.1.1,Rn b⟩
theorem RM(st p:Nat):yy (n8 (st:Int) 54+4*(p:Int)) 15=((kd st p:Nat):Int):=by
 have h1:=qC st 54;have h2:=oN (st/54+4*p) 15;rw[show((54:Nat):Int)=54 from rfl]at h1;rw[show((15:Nat):Int)=15 from rfl]at h2;unfold kd;rw[h1,<- h2];congr 1
theorem A7{n:Nat}(h:n<=0x10FFFF):mP (X.v (T.int (n:Int)))=some (X.v (cy n)):=by
 show(if _ then _ else _)=_;rw[if_pos (QA h)];rfl
theorem Bi{c:Nat}(h:c=114\/c=103\/c=98):d9 .In (cy c) (T.str (aK "rgb"))=some true:=by
 rcases h with rfl|rfl|rfl<;>kernel_rfl
theorem EY:d9 .In (cy 13191) (T.str (aK "rgb"))=some false:=by kernel_rfl
theorem Ni{c:Nat}(h:c=114\/c=103\/c=98):zh (X.v (T.str (aK "rgb"))) (X.v (cy c))=some (X.v (T.int ((if c=114 then 0 else if c=103 then 1 else 2:Nat):Int))):=by
 rcases h with rfl|rfl|rfl<;>kernel_rfl
theorem BJ{k c:Nat}(hk:k<15)(hc:c=114\/c=103\/c=98\/c=13191):dZ ((eK k c:Nat):Int)=false/\m3 (eK k c)=cj (og c)/\eK k c<=0x10FFFF:=by
 have h1:=c8.mp PU k (eu.mpr hk);have h2:=c8.mp h1 c (by simp;exact sV hc);simp only[fg,Bool.not_eq_true',beq_iff_eq,decide_eq_true_eq]at h2;exact⟨h2.1.1,h2.1.2,h2.2⟩
theorem Aq(st p:Nat):kd st p<15:=nT _ (by decide)
end
section
open Ma
noncomputable def cq(a b:V3):V3:=⟨a.r+b.r,a.g+b.g,a.b+b.b⟩
noncomputable def v0:V3:=⟨0,0,0⟩
structure i7 (c:V3->Int):Prop where
 z:c v0=0
 a:∀ x y,c (cq x y)=c x+c y
theorem yJ:i7 V3.r:=⟨rfl,λ_ _=>rfl⟩
theorem Bz:i7 V3.g:=⟨rfl,λ_ _=>rfl⟩
theorem zj:i7 V3.b:=⟨rfl,λ_ _=>rfl⟩
theorem Cc:i7 V3.n:=⟨rfl,λx y=>by unfold V3.n cq;simp only;exact Ho⟩
theorem sf{a b:V3}(h1:a.r=b.r)(h2:a.g=b.g)(h3:a.b=b.b):a=b:=by cases a;cases b;simp only at h1 h2 h3;subst h1 h2 h3;rfl
abbrev Dc:=List (Nat×V3)
noncomputable def keys(l:Dc):List Nat:=l.map (·.1)
noncomputable def val(l:Dc)(k:Nat):V3:=match l.find? (λp=>p.1=k)with
 |some p=>p.2
 |none=>v0
noncomputable def has(l:Dc)(k:Nat):Bool:=l.any λp=>p.1=k
noncomputable def put(l:Dc)(k:Nat)(v:V3):Dc:=if has l k=true then l.map (λp=>if p.1=k then(p.1,v)else p)else l++[(k,v)]
noncomputable def mV(l:Dc)(p:Nat×V3):Dc:=put l p.1 (cq p.2 (val l p.1))
noncomputable def ac(l m:Dc):Dc:=m.foldl mV l
noncomputable def bp(e:V3->T)(l:Dc):List (Int×T):=l.map λp=>((p.1:Int),e p.2)
theorem kZ{l:Dc}{k:Nat}:has l k=true↔k∈keys l:=by
 unfold has keys;rw[J9,eh];simp only[decide_eq_true_eq]
theorem zw(e:V3->T)(l:Dc)(k:Nat):(bp e l).any (λp=>p.1=(k:Int))=has l k:=by
 unfold bp has;rw[List.any_map];congr 1;funext p;simp only[Kn,decide_eq_decide];exact Int.ofNat_inj
theorem EV(e:V3->T)(l:Dc)(k:Nat)(v:V3):lX (bp e l) (k:Int) (e v)=bp e (put l k v):=by
 unfold lX put;rw[zw];by_cases h:has l k=true
 ·rw[if_pos h,if_pos h];unfold bp;rw[il,il];apply us;intro p _;simp only[Kn];by_cases q:p.1=k
  ·rw[if_pos q,if_pos (by rw[q])]
  ·rw[if_neg q,if_neg (tW q)]
 ·rw[if_neg h,if_neg h];unfold bp;rw[mO];rfl
theorem gQ(k:Nat)(v:V3)(l:Dc)(j:Nat):val ((k,v)::l) j=if k=j then v else val l j:=by
 unfold val;rw[C2];by_cases h:k=j
 ·simp[h]
 ·simp[h]
theorem GC{l:Dc}{k:Nat}(h:k∉keys l):val l k=v0:=by
 induction l with
 |nil=>rfl
 |cons p l a=>
  unfold keys at h a;rw[cB,bP]at h;rw[gQ,if_neg λq=>h (.inl q.symm),a λq=>h (.inr q)]
theorem Bn(e:V3->T)(l:Dc)(k:Nat):iP (bp e l) (k:Int)=if has l k=true then some (e (val l k))else none:=by
 induction l with
 |nil=>rfl
 |cons p l a=>
  obtain⟨j,v⟩:=p;unfold iP bp has at a ⊢;rw[cB,C2,JQ,gQ];by_cases h:j=k
  ·subst h;simp
  ·have h1:((j:Int)=(k:Int))=False:=by rw[eq_iff_iff,iff_false];exact tW h
   simp only[h1,decide_false,h,Bool.false_or,if_false];exact a
theorem Ip(l:Dc)(k:Nat)(v:V3):keys (put l k v)=if has l k=true then keys l else keys l++[k]:=by
 unfold put;split
 ·unfold keys;rw[il];apply us;intro p _;simp only[Kn];split<;>rfl
 ·unfold keys;rw[mO];rfl
theorem MY(l:Dc)(k:Nat)(v:V3)(j:Nat)(h:k∉keys l):val (l++[(k,v)]) j=if k=j then v else val l j:=by
 induction l with
 |nil=>exact gQ k v [] j
 |cons p l a=>
  obtain⟨i,u⟩:=p;unfold keys at h;rw[cB,bP]at h;rw[rA,gQ,a λq=>h (.inr q),gQ];by_cases q:i=j
  ·rw[if_pos q,if_pos q,if_neg λw=>h (.inl (w.trans q.symm))]
  ·rw[if_neg q,if_neg q]
theorem abf(l:Dc)(k:Nat)(v:V3)(j:Nat)(h:k∈keys l):val (l.map λp=>if p.1=k then(p.1,v)else p) j=if k=j then v else val l j:=by
 induction l with
 |nil=>cases h
 |cons p l a=>
  obtain⟨i,u⟩:=p;rw[cB];by_cases q:i=k
  ·subst q;simp only[if_true];rw[gQ];by_cases r:i=j
   ·rw[if_pos r,if_pos r]
   ·rw[if_neg r,if_neg r,gQ,if_neg r];by_cases hk:i∈keys l
    ·rw[a hk,if_neg r]
    ·have:l.map (λp=>if p.1=i then(p.1,v)else p)=l:=by
      conv=>rhs;rw[<- Jp l]
      apply us;intro p b;have:p.1≠i:=λw=>hk (w▸Ko b);simp[this]
     rw[this]
  ·simp only[if_neg q];have hk:k∈keys l:=by
    rcases bP.mp h with h|h
    ·exact absurd h.symm q
    ·exact h
   rw[gQ,gQ,a hk];by_cases r:i=j
   ·rw[if_pos r,if_neg λw=>q (r.trans w.symm),if_pos r]
   ·rw[if_neg r,if_neg r]
theorem RL(l:Dc)(k:Nat)(v:V3)(j:Nat):val (put l k v) j=if k=j then v else val l j:=by
 unfold put;by_cases h:has l k=true
 ·rw[if_pos h,abf _ _ _ _ (kZ.mp h)]
 ·rw[if_neg h,MY _ _ _ _ λq=>h (kZ.mpr q)]
theorem Xl{l:Dc}(h:(keys l).Nodup)(k:Nat)(v:V3):(keys (put l k v)).Nodup:=by
 rw[Ip];split
 ·exact h
 ·rename_i q;rw[pz];refine⟨h,by simp,?_⟩;intro a d b c;rw[jd]at c;subst c;rintro rfl;exact q (kZ.mpr d)
theorem L0{l:Dc}{k j:Nat}{v:V3}:j∈keys (put l k v)↔j∈keys l\/j=k:=by
 rw[Ip];split
 ·rename_i h;constructor
  ·exact .inl
  ·rintro (q|rfl)
   ·exact q
   ·exact kZ.mp h
 ·rw[fQ,jd]
theorem p8(m:Dc):∀ {l:Dc},(keys l).Nodup->(keys (ac l m)).Nodup:=by
 induction m with
 |nil=>exact id
 |cons p m a=>exact λh=>a (Xl h _ _)
theorem qB(m:Dc):∀ {l:Dc} {k:Nat},k∈keys (ac l m)↔k∈keys l\/k∈keys m:=by
 induction m with
 |nil=>intro l k;simp[ac,keys]
 |cons p m a=>
  intro l k;show k∈keys (ac (mV l p) m)↔_;rw[a];unfold mV;rw[L0];unfold keys;rw[cB,bP,or_assoc]
theorem rg(a:V3):cq a v0=a:=by apply sf<;>simp[cq,v0]
theorem NV(a:V3):cq v0 a=a:=by apply sf<;>simp[cq,v0]
theorem abx(a b:V3):cq a b=cq b a:=by apply sf<;>simp only[cq]<;>exact Dv
theorem xf(m:Dc):∀ {l:Dc} (k:Nat),(keys m).Nodup->val (ac l m) k=cq (val l k) (val m k):=by
 induction m with
 |nil=>intro l k _;show val l k=_;rw[show val [] k=v0 from rfl,rg]
 |cons p m b=>
  intro l k h;obtain⟨j,v⟩:=p;have a:j∉keys m/\(keys m).Nodup:=gu.mp h;show val (ac (mV l (j,v)) m) k=_;rw[b k a.2];unfold mV;rw[RL,gQ];by_cases q:j=k
  ·subst q;rw[if_pos rfl,if_pos rfl,GC a.1,rg,abx]
  ·rw[if_neg q,if_neg q]
theorem Fi(l:Dc)(k:Nat)(v:V3):(put l k v).length<=l.length+1:=by
 unfold put;split
 ·rw[dm];exact(dI _ 1)
 ·rw[cU];simp
noncomputable def ix(c:V3->Int):Dc->Int
 |[]=>0
 |p::l=>c p.2+ix c l
theorem Vn{c:V3->Int}(hc:c v0=0):∀ {l:Dc} {A:List Nat},(keys l).Nodup->A.Nodup->(∀ k∈keys l,k∈A)->ix c l=sm A (λk=>c (val l k)):=by
 intro b;induction b with
 |nil=>
  intro A _ _ _;have:(λk=>c (val [] k))=λ_=>0:=by funext k;exact hc
  rw[this,sn];rfl
 |cons d l e=>
  obtain⟨k,v⟩:=d;intro A h hA hk;have g:k∉keys l/\(keys l).Nodup:=gu.mp h;have f:k∈A:=hk k (.head _);rw[ly (lR f)];have i:=e (A:=A.erase k) g.2 (hA.erase k) λj a=>(uI (λq=>by subst q;exact g.1 a)).mpr (hk j (.tail _ a));show c v+ix c l=c (val ((k,v)::l) k)+sm (A.erase k) _;rw[i,gQ,if_pos rfl];congr 1;refine jG λj a=>?_;have:k≠j:=λq=>by subst q;exact(hA.not_mem_erase a)
  rw[gQ,if_neg this]
theorem Yg(A B:List Nat)(f:Nat->Nat->Int):sm A (λi=>sm B (λj=>f i j))=sm B (λj=>sm A (λi=>f i j)):=by
 induction A with
 |nil=>simp only[fX,fZ,sn]
 |cons x A a=>simp only[fX,fZ,a,vM]
structure Enc (e:V3->T):Prop where
 run:∀ (a b:S) (acc:Dc) (k:Nat) (v:V3) (Y:List T),acc.length<=1000000->has acc k=true->
  vu [a,b,.ownd (bp e acc),.v (.int k),.v (e v)] Y=some (.nx,[a,b,.ownd (bp e (put acc k (cq v (val acc k)))),.v (.int k),.v (e v)],Y)
theorem set_own{e:V3->T}{a:Dc}(b:a.length<=1000000)(k:Nat)(v:V3):mi (.ownd (bp e a)) (.int (k:Int)) (e v)=some (.ownd (bp e (put a k v))):=by
 show(if _ then _ else _)=_;rw[if_pos (by unfold bp;rw[dm];exact b),EV]
theorem Dq{e:V3->T}{l:Dc}{k i:Nat}(h:has l k=true):(X.bod i (bp e l)).item (.int (k:Int))=some (e (val l k)):=by
 show iP _ _=_;rw[Bn,if_pos h]
theorem yK:Enc tB where
 run a b c k v Y d h:=by
  have e:tB (cq v (val c k))=.tup [.int (v.r+(val c k).r),.int (v.g+(val c k).g),.int (v.b+(val c k).b),.int (v.r+v.g+v.b+((val c k).r+(val c k).g+(val c k).b))]:=by
   unfold tB cq;simp only[T.tup.injEq,adz,T.int.injEq,and_true,true_and];exact Ho
  unfold vu IB;refine' bz (l5 (G:=Y) ?_ (bz (qd (x:=.v (tB (cq v (val c k)))) ?_ rfl (aM rfl rfl) rfl rfl (set_own d k _)) dT)) dT
  ·exact rk (r9 (aM rfl rfl) rfl rfl) rfl rfl
  ·rw[e];exact PE (aM rfl rfl) (bM (aM rfl rfl) (aM rfl rfl) rfl (Dq h)) rfl rfl (by simp) rfl
noncomputable def nB(v:V3):T:=.int (v.r+v.g+v.b)
theorem abd:Enc nB where
 run a b c k v Y d h:=by
  have e:nB (cq v (val c k))=.int ((val c k).r+(val c k).g+(val c k).b+(v.r+v.g+v.b)):=by
   unfold nB cq;simp only[T.int.injEq];exact abU
  unfold vu HL;refine' bz (kl (G:=Y) ?_ (bz (Ai (S0:=.ownd (bp nB c)) (old:=nB (val c k)) (n:=nB (cq v (val c k))) rfl (aM rfl rfl) rfl ?_ (aM rfl rfl) rfl ?_ (set_own d k _)) dT)) dT
  ·exact rk (r9 (aM rfl rfl) rfl rfl) rfl rfl
  ·exact Dq (i:=0) h
  ·rw[e];rfl
section
variable{e:V3->T}(he:Enc e){a b x3 x4:S}{Y:List T}
theorem XR:∀ (l c:Dc) (x3 x4:S),(keys (c++l)).Nodup->c.length+l.length<=1000000->∃ g h,em (bU (aO 5) (.tp [.nm 3,.nm 4])) G7 ((bp e l).map λp=>T.tup [T.int p.1,p.2]) [a,b,.ownd (bp e c),x3,x4] Y=some (.nx,[a,b,.ownd (bp e (c++l)),g,h],Y):=by
 intro i;induction i with
 |nil=>
  intro c x3 x4 _ _;exact(dE x3 x4 (by rw[gW];rfl))
 |cons j l m=>
  obtain⟨k,v⟩:=j;intro c x3 x4 d f;have n:c++(k,v)::l=(c++[(k,v)])++l:=by rw[eO];rfl
  have hk:put c k v=c++[(k,v)]:=by
   unfold put;rw[if_neg];intro q;have q:=kZ.mp q;unfold keys at d q;rw[mO,pz]at d;exact d.2.2 k q k (.head _) rfl
  rw[n]at d ⊢;refine aQ λo=>gU (m (c++[(k,v)]) (.v (.int k)) (.v (e v)) d (by rw[cU];simp only[cK,iJ]at f ⊢;exact Wy f)) λr s u=>o (dE r s (gj (I:=[a,b,.ownd (bp e c),.v (.int k),.v (e v)]) rfl (bz (qd (t:=e v) (S1:=.ownd (bp e (c++[(k,v)]))) (aM rfl rfl) rfl (aM rfl rfl) rfl rfl ?_) dT) u));rw[<- hk];exact set_own (by simp only[cK]at f;exact kD f) k v
include he in
theorem Zx:∀ (l c:Dc) (x3 x4:S),c.length+l.length<=1000000->∃ f g,em (bU (aO 5) (.tp [.nm 3,.nm 4])) Ff ((bp e l).map λp=>T.tup [T.int p.1,p.2]) [a,b,.ownd (bp e c),x3,x4] Y=some (.nx,[a,b,.ownd (bp e (ac c l)),f,g],Y):=by
 intro i;induction i with
 |nil=>
  intro c x3 x4 _;exact(dE x3 x4 rfl)
 |cons j l m=>
  obtain⟨k,v⟩:=j;intro c x3 x4 d;have n:=Fi c k (cq v (val c k));simp only[cK]at d;refine aQ λo=>gU (m (put c k (cq v (val c k))) (.v (.int k)) (.v (e v)) (SH d n)) λr s u=>o (dE r s (gj (I:=[a,b,.ownd (bp e c),.v (.int k),.v (e v)]) (σ2:=[a,b,.ownd (bp e (put c k (cq v (val c k)))),.v (.int k),.v (e v)]) rfl ?_ u));by_cases h:has c k=true
  ·refine' bz (l5 (G:=Y) (IA (b:=true) (aM rfl rfl) rfl (aM rfl rfl) ?_) (he.run a b c k v Y (kD d) h)) dT;exact congrArg some ((zw ..).trans h)
  ·have w:val c k=v0:=GC λq=>h (kZ.mpr q);rw[w,rg];refine' bz (kl (G:=Y) (IA (b:=false) (aM rfl rfl) rfl (aM rfl rfl) ?_) (bz (qd (t:=e v) (aM rfl rfl) rfl (aM rfl rfl) rfl rfl (set_own (kD d) k v)) dT)) dT;exact congrArg some ((zw ..).trans (Bool.eq_false_iff.mpr h))
include he in
theorem uX{l m:Dc}(d:(keys l).Nodup)(c:l.length+m.length<=1000000)(x y:X)(f:x=.v (.dct (bp e l)))(g:y=.v (.dct (bp e m))):cf jW 2 jT [x,y] Y=some (.v (.dct (bp e (ac l m))),Y):=by
 subst f g;refine aQ λh=>gU (XR (e:=e) (a:=.v (.dct (bp e l))) (b:=.v (.dct (bp e m))) (Y:=Y) l [] .no .no d (by simp;exact(xK c))) λp3 p4 h1=>gU (Zx he (a:=.v (.dct (bp e l))) (b:=.v (.dct (bp e m))) (Y:=Y) m l p3 p4 c) λi j h2=>h ?_;refine' kh (σ0:=[_,_,.no,.no,.no]) rfl rfl rfl ?h1 ?h2
 case h1=>
  unfold jT;refine' bz ?a1 (bz (iC (Ad (aM rfl rfl) rfl rfl) h1) (bz (iC (Ad (aM rfl rfl) rfl rfl) h2) (ig (kC (aM rfl rfl)))))
  case a1=>exact s8 (S0:=.ownd (bp e [])) rfl rfl rfl (by simp)
 case h2=>rfl
end
theorem ac7{u v:V3}{l m:Dc}{Y:List T}(a:(keys l).Nodup)(c:l.length+m.length<=1000000):cf jf 2 jI [.v (.tup [.int u.r,.int u.g,.int u.b,.int (u.r+u.g+u.b),.dct (bp tB l)]),.v (.tup [.int v.r,.int v.g,.int v.b,.int (v.r+v.g+v.b),.dct (bp tB m)])] Y
  = some (.v (.tup [.int (v.r+u.r),.int (v.g+u.g),.int (v.b+u.b),.int (v.r+v.g+v.b+(u.r+u.g+u.b)),.dct (bp tB (ac l m))]),Y):=by
 have hc:∀ Y,cf jW 2 jT [.v (.dct (bp tB l)),.v (.dct (bp tB m))] Y=some (.v (.dct (bp tB (ac l m))),Y):=λY=>uX yK a c _ _ rfl rfl;exact kh rfl rfl rfl (bz (I:=[_,_,.v (.int v.r),.v (.int v.g),.v (.int v.b),.v (.int (v.r+v.g+v.b)),.v (.dct (bp tB m)),.no,.no,.no,.no,.no]) rfl
  (bz (I:=[_,_,.v (.int v.r),.v (.int v.g),.v (.int v.b),.v (.int (v.r+v.g+v.b)),.v (.dct (bp tB m)),.v (.int u.r),.v (.int u.g),.v (.int u.b),.v (.int (u.r+u.g+u.b)),.v (.dct (bp tB l))]) rfl
   (ig (kC (eD (bQ rfl rfl (bQ rfl rfl (bQ rfl rfl (bQ rfl rfl (bQ (db (bN (aM rfl rfl) (bN (aM rfl rfl) cv)) (hc Y)) rfl dh)))))))))) rfl
def bg(is:List Nat)(O U:List S):Prop:=U.length=O.length/\∀ j,j∉is->U[j]?=O[j]?
theorem bg.refl{is:List Nat}(O:List S):bg is O O:=⟨rfl,λ_ _=>rfl⟩
theorem bg.set{is:List Nat}{O U:List S}(h:bg is O U){i:Nat}(hi:is.contains i=true)(x:S):bg is O (U.set i x):=
 ⟨by rw[fH];exact h.1,λj a=>by rw[ed (λq=>by subst q;exact a (pp.mp hi))];exact h.2 j a⟩
theorem bg.trans{is:List Nat}{O U a:List S}(h:bg is O U)(b:bg is U a):bg is O a:=⟨b.1.trans h.1,λj c=>(b.2 j c).trans (h.2 j c)⟩
theorem bg.mono{is a:List Nat}{O U:List S}(h:bg is O U)(hs:∀ i∈is,i∈a):bg a O U:=⟨h.1,λj b=>h.2 j λq=>b (hs j q)⟩
theorem bg.get{is:List Nat}{O U:List S}(h:bg is O U){j:Nat}{x:S}(e:O[j]?=some x)(a:is.contains j=false):U[j]?=some x:=by
 rw[h.2 j λq=>by rw[pp.mpr q]at a;cases a];exact e
theorem bg.len{is:List Nat}{O U:List S}(h:bg is O U){n:Nat}(e:O.length=n):U.length=n:=h.1.trans e
noncomputable def bv(L:List Nat):List T:=L.map λ(k:Nat)=>T.int (k:Int)
theorem A9(L:List Nat):ky (bv L)=some (L.map λ(k:Nat)=>(k:Int)):=by
 induction L with
 |nil=>rfl
 |cons x L a=>show(ky (bv L)).map _=_;rw[a];rfl
theorem GW(L:List Nat)(k:Nat):(L.map λ(k:Nat)=>(k:Int)).any (·==(k:Int))=L.contains k:=by
 induction L with
 |nil=>rfl
 |cons x L a=>
  rw[cB,JQ,a,List.contains_cons];congr 1;by_cases h:x=k
  ·subst h;simp
  ·rw[show(k==x)=false by simpa using λq=>h q.symm];have:¬(x:Int)=(k:Int):=tW h;simp[this]
theorem V2(i:Nat)(L:List Nat)(k:Nat):vF (.bo i (bv L)) (k:Int)=some (L.contains k):=by
 show(some (bv L)).bind _=_;rw[ip,A9,mF,GW]
theorem Sq(L:List Nat)(k:Nat):vF (.fr (bv L)) (k:Int)=some (L.contains k):=by
 show(some (bv L)).bind _=_;rw[ip,A9,mF,GW]
theorem VI(l:List T)(t:T):lZ (l++[t]) (-1)=some t:=by
 unfold lZ;rw[if_pos (show tm (-1)=true by decide)];have hi:ui (-1) (l++[t]).length=some l.length:=by
  unfold ui;have e:((l++[t]).length:Int)=(l.length:Int)+1:=by simp
  rw[e];simp;exact KF
 rw[hi,ip,List.getElem?_append_right (cu _)];simp
theorem gL{i:Nat}{l:List T}{j:Nat}{t:T}(h:l[j]?=some t)(a:l.length<=1000000):(X.bo i l).item (.int (j:Int))=some t:=v7 rfl (Cb h a)
theorem item_last{i:Nat}{l:List T}{t:T}:(X.bo i (l++[t])).item (.int (-1))=some t:=v7 rfl (VI l t)
section
variable{J:Type}{bind:T->List S->Option (List S)}{test:dc}{fx fk fv:aP}{Y:List T}
theorem ga(item:J->T)(p:J->Bool)(g:J->T)(d:List S->Prop)(Q:J->List S->Prop):
  ∀ (as:List J) (b:List T) (O:List S),d O->b.length+as.length<=1000000->
  (∀ a∈as,∀ O,d O->∃ I,bind (item a) O=some I/\d I/\Q a I)->
  (∀ a∈as,∀ I,d I->Q a I->test I Y=some (p a,Y))->
  (∀ a∈as,∀ I,d I->Q a I->p a=true->∃ x,fx I Y=some (x,Y)/\x.t?=some (g a))->
  iv bind test (cF fx) (as.map item) O Y (.own b)=some (.own (b++(as.filter p).map g),Y):=by
 intro k;induction k with
 |nil=>
  intro b O _ _ _ _ _;simp only[Kp,rS,gW];rfl
 |cons a as e=>
  intro b O s f l m n;refine aQ λt=>eo (l a (.head _) O s) λI o i q=>t ?_;have j:=m a (.head _) I i q;simp only[cK]at f;by_cases c:p a=true
  ·refine aV (n a (.head _) I i q c) λx u v=>?_;rw[c]at j;rw[rW c,cB,cB];have r:=e (b++[g a]) I i (by rw[cU];simp;exact m0 f) (λa h=>l a (.tail _ h)) (λa h=>m a (.tail _ h)) λa h=>n a (.tail _ h);rw[eO]at r;exact lC o j (vx u v (kD f)) r
  ·rw[Kl]at c;rw[c]at j;rw[uJ (by simp[c]),cB];exact B9 o j (e b I i (tK f) (λa h=>l a (.tail _ h)) (λa h=>m a (.tail _ h)) λa h=>n a (.tail _ h))
theorem Ao(e:V3->T)(item:J->T)(p:J->Bool)(key:J->Nat)(g:J->V3)(i:List S->Prop)(Q:J->List S->Prop):
  ∀ (as:List J) (c:Dc) (O:List S),i O->c.length+as.length<=1000000->(keys c++as.map key).Nodup->
  (∀ a∈as,∀ O,i O->∃ I,bind (item a) O=some I/\i I/\Q a I)->
  (∀ a∈as,∀ I,i I->Q a I->test I Y=some (p a,Y))->
  (∀ a∈as,∀ I,i I->Q a I->p a=true->∃ x y,fk I Y=some (x,Y)/\x.t?=some (.int (key a))/\fv I Y=some (y,Y)/\y.t?=some (e (g a)))->
  iv bind test (ie fk fv) (as.map item) O Y (.ownd (bp e c))=some (.ownd (bp e (c++(as.filter p).map λa=>(key a,g a))),Y):=by
 intro o;induction o with
 |nil=>
  intro c O _ _ _ _ _ _;simp only[Kp,rS,gW];rfl
 |cons a as j=>
  intro c O w l d k r s;refine aQ λz=>eo (k a (.head _) O w) λI t m u=>z ?_;have n:=r a (.head _) I m u;simp only[cK]at l;rw[cB]at d;by_cases f:p a=true
  ·refine l8 (s a (.head _) I m u f) λx y A B C D=>?_;rw[f]at n;rw[rW f,cB,cB];have hk:put c (key a) (g a)=c++[(key a,g a)]:=by
    unfold put;rw[if_neg];intro q;have q:=kZ.mp q;rw[pz]at d;exact d.2.2 _ q _ (.head _) rfl
   have v:=j (c++[(key a,g a)]) I m (by rw[cU];simp;exact m0 l) (by
    have:keys (c++[(key a,g a)])=keys c++[key a]:=by unfold keys;rw[mO];rfl
    rw[this,eO];exact d) (λa h=>k a (.tail _ h)) (λa h=>r a (.tail _ h)) λa h=>s a (.tail _ h)
   rw[eO]at v;refine lC t n (aa5 A B C D (by unfold bp;rw[dm];exact kD l)) ?_;rw[EV,hk];exact v
  ·rw[Kl]at f;rw[f]at n;rw[uJ (by simp[f]),cB];refine B9 t n (j c I m (tK l) ?_ (λa h=>k a (.tail _ h)) (λa h=>r a (.tail _ h)) λa h=>s a (.tail _ h));rw[pz]at d ⊢;exact⟨d.1,(gu.mp d.2.1).2,λa E b k=>d.2.2 a E b (.tail _ k)⟩
end
def dG(a:List T):Prop:=∀ t∈a,kz t
theorem dG.nil:dG []:=λ_ h=>nomatch h
theorem dG.app{a b:List T}(c:dG a)(d:dG b):dG (a++b):=λt h=>by
 rcases fQ.mp h with h|h
 ·exact c t h
 ·exact d t h
theorem dG.one{t:T}(h:kz t):dG [t]:=λu a=>by rw[jd]at a;exact a▸h
noncomputable def dQ(o:Od)(p:Nat×V3):T:=.tup [.int (bH o p.2),dr p.2,.int (p.1:Int)]
noncomputable def bR(v:V3)(l:Dc):T:=.tup [.int v.r,.int v.g,.int v.b,.int (v.r+v.g+v.b),.dct (bp tB l)]
noncomputable def iW(o:Od)(p q:Nat×V3):Nat×V3:=if bH o p.2<bH o q.2 then q else p
noncomputable def oy(s:Int):T:=.tup [.lst [.int s,.bool false],.lst [.int s,.bool false]]
theorem ab1(s:Int):kz (oy s):=(iz _ _ rfl (by
 show(true&&[(T.int s,T.int s),(T.bool false,T.bool false)].all λp=>eqT 5 p.1 p.2)=true;have:eqT 5 (T.int s) (T.int s)=true:=by show(s==s)=true;simp
 simp only[gX,this];rfl))
theorem Dm(a b:Int):dp .Sub (.bool (decide (b<a))) (.bool (decide (a<b)))=some (.int (eX a b)):=rfl
theorem ML{o:Od}(k:o.Ok){O:List S}{Y:List T}{p q:Nat×V3}(f:O.length=52)(h4:O[4]?=some .nts)(g:O[21]?=some (.v (.inst (cO o))))(c:O[32]?=some (.v (dQ o p)))(d:O[33]?=some (.v (dQ o q)))
  (l:p.2.Ok) (hq:q.2.Ok) (i:Y.length<=1000000) :
  sB O Y=some (.nx,(O.set 34 (.v (.int (eX (bH o q.2) (bH o p.2))))).set 32 (.v (dQ o (iW o p q))),Y++[oy (eX (bH o q.2) (bH o p.2))]):=by
 have a1:bW (aO 52) (.nm 34) (sD (dV 21) [aR (dV 33) (dK (.int 1)),aR (dV 32) (dK (.int 1))] (cf nr 3 mo)) O Y=some (.nx,O.set 34 (.v (.int (eX (bH o q.2) (bH o p.2)))),Y):=
  ef (E5 (aM g rfl) (bN (bM (aM d rfl) be rfl rfl) (bN (bM (aM c rfl) be rfl rfl) cv)) (ED k hq l Y)) rfl (cC rfl (l0 f rfl))
 have e:(O.set 34 (.v (.int (eX (bH o q.2) (bH o p.2)))))[34]?=some (.v (.int (eX (bH o q.2) (bH o p.2)))):=bS (l0 f rfl);have a:(O.set 34 (.v (.int (eX (bH o q.2) (bH o p.2)))))[32]?=some (.v (dQ o p)):=aW rfl c;have b:(O.set 34 (.v (.int (eX (bH o q.2) (bH o p.2)))))[33]?=some (.v (dQ o q)):=aW rfl d;unfold sB oy;refine bz a1 (bz (ll (eD (bQ (gp (bQ (aM e rfl) rfl (bQ (r9 (aM e rfl) rfl rfl) rfl dh))) rfl (bQ (gp (bQ (bV (kW (bM (aM b rfl) be rfl rfl) rfl (bM (aM a rfl) be rfl rfl) rfl rfl) rfl (kW (bM (aM b rfl) be rfl rfl) rfl (bM (aM a rfl) be rfl rfl) rfl rfl) rfl (Dm _ _)) rfl (bQ be rfl dh))) rfl dh))) rfl (aW rfl h4) i)
  (bz (ef (t:=dQ o (iW o p q)) (x:=.v (dQ o (iW o p q))) ?_ rfl (cC rfl (l1 f rfl))) dT))
 have j:∀ Y,tC .Gt (aR (dV 33) (dK (.int 0))) (aR (dV 32) (dK (.int 0))) _ Y=some (decide (bH o p.2<bH o q.2),Y):=λY=>jl (bM (aM b rfl) be rfl rfl) rfl (bM (aM a rfl) be rfl rfl) rfl rfl;unfold iW;by_cases h:bH o p.2<bH o q.2
 ·rw[if_pos h];exact yH (by rw[j,decide_eq_true h]) (aM b rfl)
 ·rw[if_neg h];exact yE (by rw[j,decide_eq_false h]) (aM a rfl)
noncomputable def iu(o:Od)(p:Nat×V3)(a:List (Nat×V3)):Nat×V3:=a.foldl (iW o) p
theorem Uu{o:Od}(m:o.Ok):∀ (f:List (Nat×V3)) (p:Nat×V3) (O:List S) (Y:List T),O.length=52->O[4]?=some .nts->O[21]?=some (.v (.inst (cO o)))->O[32]?=some (.v (dQ o p))->p.2.Ok->(∀ q∈f,q.2.Ok)->Y.length+f.length<=1000000->
  ∃ U b,em (bU (aO 52) (.nm 33)) sB (f.map (dQ o)) O Y=some (.nx,U,Y++b)/\bg [32,33,34] O U/\U[32]?=some (.v (dQ o (iu o p f)))/\dG b/\b.length=f.length:=by
 intro i;induction i with
 |nil=>
  intro p O Y g h4 c d j hq a;exact(qf O [] (by rw[gW];rfl) (.refl O) d .nil rfl)
 |cons q f k=>
  intro p O Y g h4 c d j hq a;refine aQ λn=>?_;simp only[cK]at a;have r:=ML (O:=O.set 33 (.v (dQ o q))) m (p:=p) (q:=q) (Y:=Y) (by rw[fH];exact g) (aW rfl h4) (aW rfl c) (aW rfl d) (bS (vB g)) j (hq q (.head _)) (kD a);have sm:bg [32,33,34] O (((O.set 33 (.v (dQ o q))).set 34 (.v (.int (eX (bH o q.2) (bH o p.2))))).set 32 (.v (dQ o (iW o p q)))):=(((bg.refl O).set rfl _).set rfl _).set rfl _;have l:(iW o p q).2.Ok:=by unfold iW;split;exact hq q (.head _);exact j
  refine nN (k (iW o p q) _ (Y++[oy (eX (bH o q.2) (bH o p.2))]) (sm.len g) (sm.get h4 rfl) (sm.get c rfl) (bS (by simp only[fH];exact Eg g)) l (λq h=>hq q (.tail _ h)) (by rw[cU];simp;exact m0 a)) λU b h1 h2 h3 h5 h6=>n (qf U (oy (eX (bH o q.2) (bH o p.2))::b) ?_ (sm.trans h2) h3 ?_ (by simp[h6]))
  ·have e:Y++oy (eX (bH o q.2) (bH o p.2))::b=Y++[oy (eX (bH o q.2) (bH o p.2))]++b:=by simp
   rw[e];exact gj (cC rfl (vB g)) r h1
  ·exact(dG.one (ab1 _)).app h5
theorem oK{e:V3->T}{l:Dc}{k:Nat}(h:has l k=true):(X.v (.dct (bp e l))).item (.int (k:Int))=some (e (val l k)):=by
 show iP _ _=_;rw[Bn,if_pos h]
theorem Ax{l:Dc}(c:(keys l).Nodup){a:Nat×V3}(h:a∈l):val l a.1=a.2:=by
 induction l with
 |nil=>cases h
 |cons p l d=>
  have b:p.1∉keys l/\(keys l).Nodup:=gu.mp c;rw[show p::l=(p.1,p.2)::l from rfl,gQ];rcases bP.mp h with rfl|h
  ·rw[if_pos rfl]
  ·rw[if_neg λ(q:p.1=a.1)=>b.1 (by rw[q];exact Ko h),d b.2 h]
theorem Bj{l:Dc}{a:Nat×V3}(h:a∈l):has l a.1=true:=kZ.mpr (Ko h)
theorem Fs(e:V3->T)(l:Dc):(bp e l).map (λp=>T.int p.1)=l.map λa=>T.int (a.1:Int):=by unfold bp;rw[il];rfl
theorem ib{σ0:List S}(a:σ0.length=52){t:T}:∀ O,bg [49] σ0 O->∃ I,bU [49] (.nm 49) t O=some I/\bg [49] σ0 I/\I[49]?=some (.v t):=λO h=>
 (cI (O.set 49 (.v t)) (cC rfl (l0 (h.len a) rfl)) (h.set rfl _) (bS (l0 (h.len a) rfl)))
theorem nb(a b:List Nat):bv (a++b)=bv a++bv b:=mO
theorem eW{O:List S}{i:Nat}(h:O[i]?=some .no):kS [i] O=true:=kY h Qz
theorem g9{J:Type}(l:List J):l.filter (λ_=>true)=l:=by induction l with|nil=>rfl|cons a l b=>rw[rW rfl,b]
theorem BB{l:Dc}:l.map (λa=>(a.1,a.2))=l:=Jp l
theorem G6{O:List S}{Y:List T}{i:Nat}{l:Dc}(g:O.length=52)(hi:O[i]?=some (.v (.dct (bp tB l))))(hc:[49].contains i=false)(b:O[49]?=some .no)(c:(keys l).Nodup)(h:l.length<=1000000):
  cM (cn [49] (.nm 49) (iK (dV i)) (λ_ Y=>some (true,Y)) (ie (dV 49) (aR (aR (dV i) (dV 49)) (dK (.int 3)))) (.ownd [])) O Y=some (.frd (bp nB l),Y):=by
 refine fO (S0:=.ownd (bp nB l)) (eL (eW b) (HO (aM hi rfl) rfl rfl) ?_) rfl;rw[Fs];have:=Ao (bind:=bU [49] (.nm 49)) (test:=λ_ Y=>some (true,Y)) (fk:=dV 49) (fv:=aR (aR (dV i) (dV 49)) (dK (.int 3))) (Y:=Y) nB (λa:Nat×V3=>T.int (a.1:Int)) (λ_=>true) (λa=>a.1) (λa=>a.2) (bg [49] O) (λa I=>I[49]?=some (.v (.int (a.1:Int))))
  l [] O (.refl O) (by simpa using h) c (λa _=>ib g) (λ_ _ _ _ _=>rfl) (λa d I j f _=>(qD _ (.v (nB a.2)) (aM f rfl) rfl ?_ rfl))
 ·rw[g9,BB]at this;exact this
 ·have h1:=oK (e:=tB) (Bj d);rw[Ax c d]at h1;exact bM (bM (aM (j.get hi hc) rfl) (aM f rfl) rfl h1) be rfl rfl
theorem Rq{o:Od}(C:o.Ok){σ0:List S}{L:List Nat}{lt:Dc}(A:σ0.length=52)(h4:σ0[4]?=some .nts)(q:σ0[17]?=some (.v (cO o)))(r:σ0[26]?=some (.own (bv L)))(u:σ0[27]?=some (.v (.dct (bp tB lt)))):
  ∀ (i:List Nat) (a:List T) (O:List S) (Y:List T),bg [49] σ0 O->(∀ k∈i,k∉L->has lt k=true/\(val lt k).Ok)->Y.length+i.length<=1000000->a.length+i.length<=1000000->
  ∃ b,iv (bU [49] (.nm 49)) sM (cF yW) (bv i) O Y (.own a)=some (.own (a++(i.filter (λk=>!L.contains k)).map λk=>dQ o (k,val lt k)),Y++b)/\dG b/\b.length<=i.length:=by
 intro v;induction v with
 |nil=>
  intro a O Y _ _ _ _;exact(cI [] (by simp only[Kp,rS,gW];rfl) .nil (cu _))
 |cons k i l=>
  intro a O Y hs hk c n;simp only[cK]at c n;have j:bg [49] σ0 (O.set 49 (.v (.int (k:Int)))):=hs.set rfl _;have w:(O.set 49 (.v (.int (k:Int))))[49]?=some (.v (.int (k:Int))):=bS (l0 (hs.len A) rfl);have B:bU [49] (.nm 49) (T.int (k:Int)) O=some (O.set 49 (.v (.int (k:Int)))):=cC rfl (l0 (hs.len A) rfl);have d:∀ Y,sM (O.set 49 (.v (.int (k:Int)))) Y=some (!L.contains k,Y):=λY=>by
   have:=DL (neg:=true) (f:=dV 49) (g:=dV 26) (Y:=Y) (aM w rfl) rfl (aM (j.get r rfl) rfl) (V2 26 L k);rw[JR]at this;exact this
  by_cases m:L.contains k=true
  ·rw[uJ (by simpa using m)];have d:=d Y;rw[m]at d;exact eo (l a _ Y j (λk h=>hk k (.tail _ h)) (tK c) (tK n)) λb h1 h2 h3=>(cI b (B9 B d h1) h2 (by simp only[cK];exact Gn h3))
  ·have y:L.contains k=false:=by simpa using m
   rw[rW (by simpa using m),cB];have d:=d Y;rw[y]at d;refine aQ λD=>bn (hk k (.head _) (by simpa using m)) λE F=>?_;have G:=So C F Y (kD c);refine eo (l (a++[dQ o (k,val lt k)]) _ (Y++[.tup [.lst [.int ((val lt k).r+(val lt k).g+(val lt k).b),.bool true,.bool true],.lst [.int ((val lt k).r+(val lt k).g+(val lt k).b),.bool true,.bool true]]]) j (λk h=>hk k (.tail _ h)) (by rw[cU];simp;exact m0 c) (by rw[cU];simp;exact m0 n)) λb h1 h2 h3=>D (cI (.tup [.lst [.int ((val lt k).r+(val lt k).g+(val lt k).b),.bool true,.bool true],.lst [.int ((val lt k).r+(val lt k).g+(val lt k).b),.bool true,.bool true]]::b) ?_ ((dG.one (iz _ _ rfl ?_)).app h2) (by simp only[cK];exact wS h3))
   ·have e:Y++.tup [.lst [.int ((val lt k).r+(val lt k).g+(val lt k).b),.bool true,.bool true],.lst [.int ((val lt k).r+(val lt k).g+(val lt k).b),.bool true,.bool true]]::b=Y++[.tup [.lst [.int ((val lt k).r+(val lt k).g+(val lt k).b),.bool true,.bool true],.lst [.int ((val lt k).r+(val lt k).g+(val lt k).b),.bool true,.bool true]]]++b:=by simp
    rw[e];rw[eO]at h1;refine lC B d (vx (t:=dQ o (k,val lt k)) (x:=.v (dQ o (k,val lt k))) ?_ rfl (kD n)) h1;refine' tl (db (bN (bM (aM (j.get u rfl) rfl) (aM w rfl) rfl (oK E)) (bN (aM (j.get q rfl) rfl) (bN (aM (j.get h4 rfl) rfl) cv))) G) (eD (bQ (aM w rfl) rfl dh)) rfl rfl ?z
    case z=>simp
   ·generalize (val lt k).r+(val lt k).g+(val lt k).b=s;show(true&&[(T.int s,T.int s),(T.bool true,T.bool true),(T.bool true,T.bool true)].all λp=>eqT 5 p.1 p.2)=true;have:eqT 5 (T.int s) (T.int s)=true:=by show(s==s)=true;simp
    simp only[gX,this];rfl
theorem iw(L:List Nat):(bv L).length=L.length:=dm _
theorem Qx{o:Od}(ho:o.Ok){O:List S}{Y:List T}{B:List T}{L A:List Nat}{x:Nat}{u:V3}{l lt:Dc}{i:S}{q:Nat}{d:List Nat}
  (e:O.length=52) (h4:O[4]?=some .nts) (h6:O[6]?=some (.own B)) (hB:B[x]?=some (bR u l)) (J:B.length<=1000000) (K:O[17]?=some (.v (cO o))) (M:O[21]?=some (.v (.inst (cO o)))) (N:O[22]?=some (.own (bv A)))
  (w:O[26]?=some (.own (bv (L++[x])))) (P:O[27]?=some (.v (.dct (bp tB lt)))) (Q:O[28]?=some (.v (.dct (bp nB lt)))) (R:O[31]?=some i) (hS:i.adF=false) (y:O[49]?=some .no)
  (hn:(keys lt).Nodup) (V:(keys l).Nodup) (W:lt.length+l.length<=1000000)
  (z:∀ k∈A,k∉L++[x]->has (ac lt l) k=true/\(val (ac lt l) k).Ok)
  (hA:A.filter (λk=>!(L++[x]).contains k)=q::d) (f:A.length<=1000) (X:L.length<=1000) (C:Y.length+3000<=1000000) :
  ∃ U Z,se O Y=some (.nx,U,Y++Z)/\bg [26,27,28,30,31,32,33,34] O U/\
   U[26]?=some (.own (bv (L++[x]++[(iu o (q,val (ac lt l) q) ((q::d).map λk=>(k,val (ac lt l) k))).1])))/\
   U[27]?=some (.v (.dct (bp tB (ac lt l))))/\U[28]?=some (.v (.dct (bp nB (ac lt l))))/\(∃ S,U[31]?=some S/\S.adF=false)/\
   U[32]?=some (.v (dQ o (iu o (q,val (ac lt l) q) ((q::d).map λk=>(k,val (ac lt l) k)))))/\dG Z/\Z.length<=2000:=by
 have a0:bv (L++[x])=bv L++[T.int (x:Int)]:=nb _ _;have a7:(L++[x]).length<=1001:=by rw[cU];simp;exact ZS X
 have a1:bW (aO 52) (.nm 30) (aR (aR (dV 6) (aR (dV 26) (gO (dK (.int 1))))) (dK (.int 4))) O Y=some (.nx,O.set 30 (.v (.dct (bp tB l))),Y):=by
  refine ef (t:=.dct (bp tB l)) (bM (bM (aM h6 rfl) (bM (aM w rfl) (pL be rfl) rfl ?_) rfl (gL hB J)) be rfl rfl) rfl (cC rfl (l0 e rfl));rw[a0];exact item_last
 have s:bg [26,27,28,30,31,32,33,34] O (O.set 30 (.v (.dct (bp tB l)))):=(bg.refl O).set rfl _;have D:(O.set 30 (.v (.dct (bp tB l))))[30]?=some (.v (.dct (bp tB l))):=bS (l0 e rfl);have a8:(O.set 30 (.v (.dct (bp tB l))))[26]?=some (.own (bv (L++[x]))):=aW rfl w;have a9:(O.set 30 (.v (.dct (bp tB l))))[27]?=some (.v (.dct (bp tB lt))):=aW rfl P;have aa:(O.set 30 (.v (.dct (bp tB l))))[28]?=some (.v (.dct (bp nB lt))):=aW rfl Q;have ab:(O.set 30 (.v (.dct (bp tB l))))[31]?=some i:=aW rfl R;generalize O.set 30 (.v (.dct (bp tB l)))=I at*;have a2:gB (aO 52) [27,28] false [bL [dV 27,dV 30] (cf jW 2 jT),bL [dV 28,j5 (cM (cn [49] (.nm 49) (iK (dV 30)) (λ_ Y=>some (true,Y)) (ie IP F2) (.ownd [])))] (cf jW 2 jT)] I Y
   = some (.nx,(I.set 27 (.v (.dct (bp tB (ac lt l))))).set 28 (.v (.dct (bp nB (ac lt l)))),Y):=by
  have hc:=G6 (Y:=Y) (s.len e) D rfl (s.get y rfl) V (acE W);refine zK (bN (db (bN (aM a9 rfl) (bN (aM D rfl) cv)) (uX yK hn W _ _ rfl rfl)) (bN (db (bN (aM aa rfl) (bN (u4 hc rfl) cv)) (uX abd hn W _ _ rfl rfl)) cv)) rfl (rc rfl (l0 (s.len e) rfl)) (rc rfl (l1 (s.len e) rfl))
 have n:bg [26,27,28,30,31,32,33,34] O ((I.set 27 (.v (.dct (bp tB (ac lt l))))).set 28 (.v (.dct (bp nB (ac lt l))))):=(s.set rfl _).set rfl _;have E:((I.set 27 (.v (.dct (bp tB (ac lt l))))).set 28 (.v (.dct (bp nB (ac lt l)))))[27]?=some (.v (.dct (bp tB (ac lt l)))):=aW rfl (bS (l0 (s.len e) rfl));have ad:((I.set 27 (.v (.dct (bp tB (ac lt l))))).set 28 (.v (.dct (bp nB (ac lt l)))))[28]?=some (.v (.dct (bp nB (ac lt l)))):=bS (l1 (s.len e) rfl);have F:((I.set 27 (.v (.dct (bp tB (ac lt l))))).set 28 (.v (.dct (bp nB (ac lt l)))))[26]?=some (.own (bv (L++[x]))):=aW rfl (aW rfl a8);have ae:((I.set 27 (.v (.dct (bp tB (ac lt l))))).set 28 (.v (.dct (bp nB (ac lt l)))))[31]?=some i:=aW rfl (aW rfl ab);generalize (I.set 27 (.v (.dct (bp tB (ac lt l))))).set 28 (.v (.dct (bp nB (ac lt l))))=a at*;refine aQ λnG=>eo (Rq ho (n.len e) (n.get h4 rfl) (n.get K rfl) F E A [] a Y (.refl a) z (ac6 f C) (by simp;exact dU f)) λb r1 r2 r3=>nG ?_;rw[hA,eE]at r1;have g:(q::d).length<=A.length:=by rw[<- hA];exact Kq _ _
 have r:∀ k∈q::d,(val (ac lt l) k).Ok:=λk hk=>by
  rw[<- hA,uK]at hk;exact(z k hk.1 (by simpa using hk.2)).2
 have a3:jL 31 (jS (aO 52) 31 (cn [49] (.nm 49) (iL (some 22) (dV 22)) sM (cF yW) (.own []))) a Y=some (.nx,a.set 31 (.v (.lst ((q::d).map λk=>dQ o (k,val (ac lt l) k)))),Y++b):=
  tz ae hS (eL (eW (n.get y rfl)) (ia (aM (n.get N rfl) rfl) rfl rfl) r1) rfl rfl (l0 (n.len e) rfl)
 have s3:bg [26,27,28,30,31,32,33,34] O (a.set 31 (.v (.lst ((q::d).map λk=>dQ o (k,val (ac lt l) k))))):=n.set rfl _;have v:(a.set 31 (.v (.lst ((q::d).map λk=>dQ o (k,val (ac lt l) k)))))[31]?=some (.v (.lst ((q::d).map λk=>dQ o (k,val (ac lt l) k)))):=bS (l0 (n.len e) rfl);have af:(a.set 31 (.v (.lst ((q::d).map λk=>dQ o (k,val (ac lt l) k)))))[26]?=some (.own (bv (L++[x]))):=aW rfl F;have ag:(a.set 31 (.v (.lst ((q::d).map λk=>dQ o (k,val (ac lt l) k)))))[27]?=some (.v (.dct (bp tB (ac lt l)))):=aW rfl E;have ah:(a.set 31 (.v (.lst ((q::d).map λk=>dQ o (k,val (ac lt l) k)))))[28]?=some (.v (.dct (bp nB (ac lt l)))):=aW rfl ad;generalize an:a.set 31 (.v (.lst ((q::d).map λk=>dQ o (k,val (ac lt l) k))))=h at*;have a4:bW (aO 52) (.nm 32) (aR (dV 31) (dK (.int 0))) h (Y++b)=some (.nx,h.set 32 (.v (dQ o (q,val (ac lt l) q))),Y++b):=by
  refine ef (bM (aM v rfl) be rfl ?_) rfl (cC rfl (l0 (s3.len e) rfl));exact v7 rfl (Cb (j:=0) rfl (by rw[dm];exact HE f g))
 have H:bg [26,27,28,30,31,32,33,34] O (h.set 32 (.v (dQ o (q,val (ac lt l) q)))):=s3.set rfl _;obtain⟨c,m,b1,G,b3,b4,b5⟩:=Uu ho ((q::d).map λk=>(k,val (ac lt l) k)) (q,val (ac lt l) q) (h.set 32 (.v (dQ o (q,val (ac lt l) q)))) (Y++b) (H.len e) (H.get h4 rfl) (H.get M rfl) (bS (l0 (s3.len e) rfl)) (r q (.head _))
  (λp hp=>by refine aV (eh.mp hp) λk hk y2=>?_;subst y2;exact r k hk) (by rw[cU,dm];exact QX f C r3 g)
 have s5:bg [26,27,28,30,31,32,33,34] O c:=H.trans (G.mono (by decide));have ai:c[26]?=some (.own (bv (L++[x]))):=G.get (aW rfl af) rfl;have aj:c[27]?=some (.v (.dct (bp tB (ac lt l)))):=G.get (aW rfl ag) rfl;have ak:c[28]?=some (.v (.dct (bp nB (ac lt l)))):=G.get (aW rfl ah) rfl;have al:c[31]?=some (.v (.lst ((q::d).map λk=>dQ o (k,val (ac lt l) k)))):=G.get (aW rfl v) rfl;have a5:fc (aO 52) (.nm 33) (iL none (dV 31)) sB (h.set 32 (.v (dQ o (q,val (ac lt l) q)))) (Y++b)=some (.nx,c,Y++b++m):=by
  refine iC (ia (aM (aW rfl v) rfl) rfl rfl) ?_;rw[il]at b1;exact b1
 generalize iu o (q,val (ac lt l) q) ((q::d).map λk=>(k,val (ac lt l) k))=p at*;have a6:dJ 26 (aR (dV 32) (dK (.int 2))) c (Y++b++m)=some (.nx,c.set 26 (.own (bv (L++[x])++[T.int (p.1:Int)])),Y++b++m):=
  qH (bM (aM b3 rfl) be rfl rfl) rfl ai (by rw[iw];exact YS a7)
 refine⟨c.set 26 (.own (bv (L++[x])++[T.int (p.1:Int)])),b++m,?_,s5.set rfl _,?_,aW rfl aj,aW rfl ak,⟨_,aW rfl al,rfl⟩,aW rfl b3,r2.app b4,?_⟩
 ·unfold se;rw[<- eO];exact bz a1 (bz a2 (bz a3 (bz a4 (bz a5 (bz a6 dT)))))
 ·rw[nb (L++[x])];exact bS (l0 (s5.len e) rfl)
 ·rw[cU,b5,dm];exact OQ f r3 g
noncomputable def sv:List Nat->(Nat->V3)->V3
 |[],_=>v0
 |x::L,f=>cq (f x) (sv L f)
theorem MH{f:Nat->V3}{x:Nat}{L:List Nat}:sv (x::L) f=cq (f x) (sv L f):=rfl
theorem fI{c:V3->Int}(hc:i7 c)(L:List Nat)(f:Nat->V3):c (sv L f)=sm L (λx=>c (f x)):=by
 induction L with
 |nil=>exact hc.z
 |cons x L b=>rw[MH,hc.a,b];rfl
theorem xd(o:Od):i7 (bH o) where
 z:=by
  unfold bH v0 V3.w;simp only[o6,Int.mul_zero,Int.sub_self,ite_self]
 a x y:=by
  have hw:∀ k,(cq x y).w k=x.w k+y.w k:=λk=>by
   unfold V3.w cq;dsimp only;repeat' split;all_goals lia
  unfold bH;have b:=Kr o.s1 (x.w o.k1) (y.w o.k1);have c:=Kr o.s2 (x.w o.k2) (y.w o.k2);rw[hw,hw,b,c];unfold cq;dsimp only;exact Su
theorem Ww{L:List Nat}{f:Nat->V3}{v:V3}(h:∀ c,i7 c->c v=sm L (λx=>c (f x))):v=sv L f:=
 sf (by rw[fI yJ];exact h _ yJ) (by rw[fI Bz];exact h _ Bz) (by rw[fI zj];exact h _ zj)
def jH(c:V3->Int):Prop:=c=V3.r\/c=V3.g\/c=V3.b
theorem jH.lin{c:V3->Int}(h:jH c):i7 c:=by
 rcases h with h|h|h
 ·rw[h];exact yJ
 ·rw[h];exact Bz
 ·rw[h];exact zj
theorem oX{a b:V3}(h:∀ c,jH c->c a=c b):a=b:=sf (h _ (.inl rfl)) (h _ (.inr (.inl rfl))) (h _ (.inr (.inr rfl)))
theorem Cf{v:V3}(h:∀ c,jH c->0<=c v/\c v<=45):v.Ok:=
 ⟨(h _ (.inl rfl)).1,(h _ (.inl rfl)).2,(h _ (.inr (.inl rfl))).1,(h _ (.inr (.inl rfl))).2,(h _ (.inr (.inr rfl))).1,(h _ (.inr (.inr rfl))).2⟩
theorem BH:∀ {R A:List Nat},R.Nodup->(∀ x∈R,x∈A)->∃ C,A.Perm (R++C):=by
 intro a;induction a with
 |nil=>
  intro A _ _;exact⟨A,.refl _⟩
 |cons x R b=>
  intro A e hs;have c:=gu.mp e;have f:=hs x (.head _);exact aU (b (A:=A.erase x) c.2 λy d=>(uI (λq=>by subst q;exact c.1 d)).mpr (hs y (.tail _ d))) λC hC=>⟨C,(lR f).trans (hC.cons x)⟩
structure j6 (A:List Nat) (w:Nat->Nat->V3) (bk:Nat->V3×Dc):Prop where
 nd:A.Nodup
 sy:∀ i j,w i j=w j i
 dg:∀ i,w i i=v0
 nn:∀ c,jH c->∀ i j,0<=c (w i j)
 tt:∀ c,jH c->tot (λi j=>c (w i j)) A<=45
 kn:∀ n∈A,(keys (bk n).2).Nodup
 ks:∀ n∈A,∀ k,k∈keys (bk n).2↔k∈A/\k≠n
 vl:∀ n∈A,∀ k∈A,val (bk n).2 k=w n k
 dv:∀ n∈A,(bk n).1=sv A (w n)
theorem oC{R A:List Nat}(a:R.Nodup)(hs:∀ x∈R,x∈A):R.length<=A.length:=by
 refine aU (BH a hs) λC h=>?_;rw[h.length_eq,cU];exact(dI _ _)
theorem j6.ok{A:List Nat}{w:Nat->Nat->V3}{a:Nat->V3×Dc}(h:j6 A w a){R:List Nat}{y:Nat}(b:(y::R).Nodup)(hs:∀ x∈y::R,x∈A):(sv R (λu=>w u y)).Ok:=by
 refine Cf λc hc=>?_;rw[fI hc.lin];refine aU (BH b hs) λC d=>⟨qr λu=>h.nn c hc u y,?_⟩;have:=D5 (W:=λi j=>c (w i j)) (h.nn c hc) (λi j=>by rw[h.sy]) d;exact fD this (h.tt c hc)
theorem U1(o:Od):∀ (a:List (Nat×V3)) (p:Nat×V3),iu o p a∈p::a/\bH o p.2<=bH o (iu o p a).2/\∀ q∈a,bH o q.2<=bH o (iu o p a).2:=by
 intro b;induction b with
 |nil=>
  intro p;exact⟨.head _,lF _,λq h=>nomatch h⟩
 |cons q a c=>
  intro p;refine aQ λg=>bO (c (iW o p q)) λh1 h2 h3=>g ?_;have e:iu o p (q::a)=iu o (iW o p q) a:=rfl;rw[e];have f:bH o p.2<=bH o (iW o p q).2/\bH o q.2<=bH o (iW o p q).2:=by
   unfold iW;split<;>lia
  refine⟨?_,UP h2 f,λr d=>?_⟩
  ·rcases bP.mp h1 with h|h
   ·rw[h];unfold iW;split
    ·exact .tail _ (.head _)
    ·exact .head _
   ·exact .tail _ (.tail _ h)
  ·rcases bP.mp d with rfl|d
   ·exact P5 h2 f
   ·exact h3 r d
structure Ln (o:Od) (A:List Nat) (w:Nat->Nat->V3) (L:List Nat) (x:Nat) (lt:Dc):Prop where
 nd:(L++[x]).Nodup
 su:∀ y∈L++[x],y∈A
 ma:Ma (λi j=>bH o (w i j)) A (x::L.reverse)
 kn:(keys lt).Nodup
 ks:∀ k∈keys lt,k∈A
 vl:∀ y∈A,val lt y=sv L (λu=>w u y)
theorem TG{o:Od}(e:o.Ok){v:V3}(h:∀ c,jH c->0<=c v):0<=bH o v:=by
 have h0:=h _ (.inl rfl);have h1:=h _ (.inr (.inl rfl));have h2:=h _ (.inr (.inr rfl));refine aQ λf=>?_;obtain⟨a,i,d,j⟩:=o;obtain⟨p1,p2,p3,p4⟩:=e;refine f ?_;simp only at p1 p2 p3 p4;have a1:v.w a<=v.r+v.g+v.b/\0<=v.w a:=by rcases p1 with rfl|rfl|rfl<;>simp[V3.w]<;>lia
 have a2:v.w d<=10000*(v.r+v.g+v.b)/\-(10000*(v.r+v.g+v.b))<=v.w d:=by rcases p3 with rfl|rfl|rfl<;>simp[V3.w]<;>lia
 unfold bH;dsimp only;generalize v.w a=x at*;generalize v.w d=y at*;rcases p2 with rfl|rfl<;>rcases p4 with rfl|rfl<;>lia
theorem Lm(L:List Nat)(x:Nat)(f:Nat->V3):sv (L++[x]) f=cq (sv L f) (f x):=by
 symm;apply Ww;intro c hc;rw[hc.a,fI hc,Fw];first|exact congrArg _ (o6 _)|exact congrArg _ (o6 _).symm
structure ql (A:List Nat) (w:Nat->Nat->V3) (L:List Nat) (x:Nat) (lt:Dc):Prop where
 kn:(keys lt).Nodup
 ks:∀ k∈keys lt,k∈A
 vl:∀ y∈A,val lt y=sv (L++[x]) (λu=>w u y)
 ha:∀ k∈A,k≠x->has lt k=true
section
variable{o:Od}(ho:o.Ok){A:List Nat}{w:Nat->Nat->V3}{bk:Nat->V3×Dc}(hR:j6 A w bk)
include hR
theorem abD{L:List Nat}{x:Nat}{lt:Dc}(h:Ln o A w L x lt):ql A w L x (ac lt (bk x).2):=by
 have a:x∈A:=h.su x (by simp);refine⟨p8 _ h.kn,λk hk=>?_,λy c=>?_,λk hk b=>?_⟩
 ·rcases(qB _).mp hk with q|q
  ·exact h.ks k q
  ·exact((hR.ks x a k).mp q).1
 ·rw[xf _ _ (hR.kn x a),h.vl y c,hR.vl x a y c,Lm]
 ·exact kZ.mpr ((qB _).mpr (.inr ((hR.ks x a k).mpr ⟨hk,b⟩)))
theorem aaF{L:List Nat}{x:Nat}{lt fh:Dc}(h:Ln o A w L x lt)(b:ql A w L x fh){k:Nat}(hk:k∈A)(c:k∉L++[x]):has fh k=true/\(val fh k).Ok:=by
 refine⟨b.ha k hk λq=>c (q▸by simp),?_⟩;rw[b.vl k hk];exact hR.ok (gu.mpr ⟨c,h.nd⟩) λy a=>by
  rcases bP.mp a with rfl|a
  ·exact hk
  ·exact h.su y a
theorem aa6{L:List Nat}{x:Nat}{lt:Dc}(h:Ln o A w L x lt)(c:L.length+2<=A.length):∃ q a,A.filter (λk=>!(L++[x]).contains k)=q::a:=by
 cases e:A.filter (λk=>!(L++[x]).contains k)with
 |cons q a=>exact(dE q a rfl)
 |nil=>
  exfalso;have:A.length<=(L++[x]).length:=oC hR.nd λy b=>by
   have:=Jl.mp e y b;simp at this;rw[fQ,jd];exact Decidable.or_iff_not_imp_left.mpr this
  rw[cU]at this;simp at this;lia
include ho
theorem Lx{L:List Nat}{x:Nat}{lt fh:Dc}(h:Ln o A w L x lt)(g:ql A w L x fh){q:Nat}{f:List Nat}(e:A.filter (λk=>!(L++[x]).contains k)=q::f):
  Ln o A w (L++[x]) (iu o (q,val fh q) ((q::f).map λk=>(k,val fh k))).1 fh/\
  (iu o (q,val fh q) ((q::f).map λk=>(k,val fh k))).2=val fh (iu o (q,val fh q) ((q::f).map λk=>(k,val fh k))).1:=by
 refine aQ λt=>bO (U1 o ((q::f).map λk=>(k,val fh k)) (q,val fh q)) λl D v=>t ?_;generalize iu o (q,val fh q) ((q::f).map λk=>(k,val fh k))=p at*;have z:p.1∈q::f/\p.2=val fh p.1:=by
  rcases bP.mp l with rfl|l
  ·exact⟨.head _,rfl⟩
  ·refine aV (eh.mp l) λk hk B=>?_;subst B;exact⟨hk,rfl⟩
 refine bn z λp1 p2=>?_;rw[<- e,uK]at p1;have pA:=p1.1;have r:p.1∉L++[x]:=by simpa using p1.2
 have key:∀ y∈A,bH o (val fh y)=sm (x::L.reverse) (λu=>bH o (w u y)):=λy d=>by
  rw[g.vl y d,fI (xd o)];refine ly ?_ _;have:(L++[x]).Perm (x::L):=Ks x L;exact this.trans ((Kt L).symm.cons x)
 have m:∀ y,y∉x::L.reverse->y∉L++[x]:=λy d q=>d (by
  rcases fQ.mp q with q|q
  ·exact .tail _ (CT.mpr q)
  ·rw[jd]at q;rw[q];exact .head _)
 refine⟨⟨?_,?_,?_,g.kn,g.ks,g.vl⟩,p2⟩
 ·rw[pz];refine⟨h.nd,by simp,?_⟩;intro a C b s;rw[jd]at s;subst s;rintro rfl;exact r C
 ·intro y d;rcases fQ.mp d with q|q
  ·exact h.su y q
  ·rw[jd]at q;rw[q];exact pA
 ·have:(p.1::(L++[x]).reverse)=p.1::x::L.reverse:=by simp
  rw[this];refine Qj (λi j=>TG ho λc hc=>hR.nn c hc i j) h.ma pA (λq=>r ?_) λy d n=>?_
  ·rcases bP.mp q with q|q
   ·rw[q];simp
   ·exact fQ.mpr (.inl (CT.mp q))
  ·rw[<- key y d,<- key p.1 pA,<- p2];refine v (y,val fh y) (eh.mpr (aS y ?_ rfl));rw[<- e,uK];exact⟨d,by simpa using m y n⟩
structure Sl (o:Od) (A:List Nat) (B:List T) (O:List S):Prop where
 len:O.length=52
 s4:O[4]?=some .nts
 s6:O[6]?=some (.own B)
 s17:O[17]?=some (.v (cO o))
 s21:O[21]?=some (.v (.inst (cO o)))
 s22:O[22]?=some (.own (bv A))
 s49:O[49]?=some .no
omit ho hR in
theorem Sl.same{B:List T}{O U:List S}(h:Sl o A B O){is:List Nat}(hs:bg is O U)(hc:(is.all λi=>!([4,6,17,21,22,49].contains i))=true):Sl o A B U:=by
 have key:∀ j,[4,6,17,21,22,49].contains j=true->is.contains j=false:=λj a=>by
  cases q:is.contains j with
  |false=>rfl
  |true=>
   have:=c8.mp hc j (pp.mp q);rw[a]at this;cases this
 exact⟨hs.len h.len,hs.get h.s4 (key _ rfl),hs.get h.s6 (key _ rfl),hs.get h.s17 (key _ rfl),hs.get h.s21 (key _ rfl),hs.get h.s22 (key _ rfl),hs.get h.s49 (key _ rfl)⟩
theorem Gi{B:List T}(X:∀ n∈A,B[n]?=some (bR (bk n).1 (bk n).2))(i:B.length<=1000000)(b:A.length<=6):
  ∀ (items:List T) (h:T) (L:List Nat) (x:Nat) (lt:Dc) (O:List S) (Y:List T),Ln o A w L x lt->A.length=L.length+2+items.length->Sl o A B O->
   O[26]?=some (.own (bv (L++[x])))->O[27]?=some (.v (.dct (bp tB lt)))->O[28]?=some (.v (.dct (bp nB lt)))->(∃ S,O[31]?=some S/\S.adF=false)->Y.length+3000*(items.length+1)<=1000000->
   ∃ U v j s t fh,em (bU (aO 52) (.nm 29)) se (h::items) O Y=some (.nx,U,Y++v)/\bg [26,27,28,29,30,31,32,33,34] O U/\(∃ y,Ln o A w j s y)/\ql A w j s fh/\
    t∈A/\t∉j++[s]/\A.length=j.length+2/\U[26]?=some (.own (bv (j++[s]++[t])))/\U[27]?=some (.v (.dct (bp tB fh)))/\U[28]?=some (.v (.dct (bp nB fh)))/\(∃ S,U[31]?=some S/\S.adF=false)/\
    U[32]?=some (.v (dQ o (t,val fh t)))/\dG v/\v.length<=2000*(items.length+1)
 |items,h,L,x,lt,O,Y,d,e,hs,z,C,D,E,c=>by
  have u:x∈A:=d.su x (by simp);have F:=abD hR d;refine aQ λG=>gU (aa6 hR d (Nat.le.intro (id (Eq.symm e)))) λq H hq=>bn (Lx ho hR d F hq) λJ n2=>G ?_;have l1:lt.length<=6:=by have:=oC d.kn d.ks;unfold keys at this;rw[dm]at this;exact sE b this
  have l2:(bk x).2.length<=6:=by have:=oC (hR.kn x u) λk hk=>((hR.ks x u k).mp hk).1;unfold keys at this;rw[dm]at this;exact sE b this
  have l:bg [26,27,28,29,30,31,32,33,34] O (O.set 29 (.v h)):=(bg.refl O).set rfl _;have a:=hs.same l rfl;refine aV E λa0 m r=>?_;obtain⟨I,f,Z,r2,r3,r4,r5,r6,r7,r8,K⟩:=Qx ho (O:=O.set 29 (.v h)) (Y:=Y) a.len a.s4 a.s6 (X x u) i a.s17 a.s21 a.s22 (aW rfl z) (aW rfl C) (aW rfl D) (aW rfl m) r a.s49 d.kn (hR.kn x u) (Lp l1 l2)
   (λk hk hn=>aaF hR d F hk hn) hq (nO b) (aaD b e) (LY c)
  have hb:bU (aO 52) (.nm 29) h O=some (O.set 29 (.v h)):=cC rfl (l0 hs.len rfl);have g:bg [26,27,28,29,30,31,32,33,34] O I:=l.trans (r2.mono (by decide));have pA:(iu o (q,val (ac lt (bk x).2) q) ((q::H).map λk=>(k,val (ac lt (bk x).2) k))).1∈A:=J.su _ (by simp);have pn:(iu o (q,val (ac lt (bk x).2) q) ((q::H).map λk=>(k,val (ac lt (bk x).2) k))).1∉L++[x]:=λhm=>by
   have:=J.nd;rw[pz]at this;exact this.2.2 _ hm _ (.head _) rfl
  generalize iu o (q,val (ac lt (bk x).2) q) ((q::H).map λk=>(k,val (ac lt (bk x).2) k))=p at*;have ep:p=(p.1,val (ac lt (bk x).2) p.1):=by rw[<- n2]
  match items,e,c with
  |[],e,c=>
   refine(vK I f L x p.1 _ ⟨gj hb Z FE,g,⟨lt,d⟩,F,pA,pn,(by simpa using e),r3,r4,r5,r6,?_,r8,(by simpa using K)⟩);rw[<- ep];exact r7
  |i1::items,e,c=>
   simp only[cK]at e c;refine aQ λG=>EM (Gi X i b items i1 (L++[x]) p.1 _ I (Y++f) J (by rw[cU];simp;exact abR e) (hs.same g rfl) r3 r4 r5 r6 (by rw[cU];exact Zw ‹_› ‹_› K e)) λM N L2 x2 t2 mT f1 f2 f3 f4 f5 f6 f7 f8 f9 P Q R V W=>G (vK M (f++N) L2 x2 t2 mT ⟨?_,g.trans f2,f3,f4,f5,f6,f7,f8,f9,P,Q,R,r8.app V,(by rw[cU];simp only[cK];exact Wx K W)⟩);rw[<- eO];exact gj hb Z f1
end
theorem PM(l:List T)(a b:T):i9 (l++[a]++[b]) (some (-2)) none=[a,b]:=by
 have:=QU (l++[a]++[b]) 2 (by simp) (by decide);rw[show(-((2:Nat):Int))=-2 from rfl]at this;rw[this,eO];have e:(l++([a]++[b])).length-2=l.length:=by simp
 rw[e,List.drop_left];rfl
theorem MI(l:List T)(b:T):i9 (l++[b]) none (some (-1))=l:=by
 have:=HV (l++[b]) 1 (by simp) (by decide);rw[show(-((1:Nat):Int))=-1 from rfl]at this;rw[this];have e:(l++[b]).length-1=l.length:=by simp
 rw[e,List.take_left]
theorem Qn(l:List T)(a b:T):i9 (l++[a]++[b]) none (some (-2))=l:=by
 have:=HV (l++[a]++[b]) 2 (by simp) (by decide);rw[show(-((2:Nat):Int))=-2 from rfl]at this;rw[this,eO];have e:(l++([a]++[b])).length-2=l.length:=by simp
 rw[e,List.take_left]
theorem eq_int(n:Nat)(a:Int):eqT n (T.int a) (T.int a)=true:=by cases n<;>(show(a==a)=true;simp)
theorem Ga(n:Nat)(v:V3):eqT (n+1) (tB v) (tB v)=true:=by
 unfold tB;show(true&&[(T.int v.r,T.int v.r),(T.int v.g,T.int v.g),(T.int v.b,T.int v.b),(T.int (v.r+v.g+v.b),T.int (v.r+v.g+v.b))].all λp=>eqT n p.1 p.2)=true;simp only[gX,eq_int];rfl
theorem Es{e:V3->T}{n:Nat}(c:∀ v,eqT n (e v) (e v)=true){l:Dc}(d:(keys l).Nodup):eqT (n+1) (.dct (bp e l)) (.dct (bp e l))=true:=by
 show((bp e l).length==(bp e l).length&&(bp e l).all λp=>wF (eqT n p.2) (iP (bp e l) p.1))=true;rw[fg];refine⟨by simp,c8.mpr λp f=>?_⟩;refine aQ λg=>aV (eh.mp f) λa b h=>?_;subst h;refine g ?_;have h1:=Bn e l a.1;rw[if_pos (Bj b),Ax d b]at h1;simp only[h1];exact c _
theorem UL(n:Nat)(v:V3):eqT n (nB v) (nB v)=true:=eq_int n _
theorem RH:∀ (l:Dc) (a:S) (b:S) (c:Int) (Y:List T),∃ d,em (bU (aO 3) (.nm 2)) Dx ((bp nB l).map λp=>p.2) [a,.v (.int c),b] Y=some (.nx,[a,.v (.int (c+ix V3.n l)),d],Y):=by
 intro f;induction f with
 |nil=>
  intro a b c Y;exact⟨b,by rw[show ix V3.n []=0 from rfl,o6];rfl⟩
 |cons g l h=>
  obtain⟨k,v⟩:=g;intro a b c Y;refine aU (h a (.v (nB v)) (c+v.n) Y) λy i=>⟨y,?_⟩;have e:c+ix V3.n ((k,v)::l)=c+v.n+ix V3.n l:=by show c+(v.n+_)=_;exact IE
  rw[e];exact gj (I:=[a,.v (.int c),.v (nB v)]) rfl (bz (PZ rfl (aM rfl rfl) rfl rfl rfl (by simp)) dT) i
theorem Oi{l:Dc}{Y:List T}:cf oR 1 ot [.v (.dct (bp nB l))] Y=some (.v (.int (ix V3.n l)),Y):=by
 refine aU (RH l (.v (.dct (bp nB l))) .no 0 Y) λy h=>?_;rw[xL]at h;refine' kh (σ0:=[_,.no,.no]) rfl rfl rfl ?h1 ?h2
 case h1=>
  unfold ot;refine' bz ?a1 (bz (iC (Nc (aM rfl rfl) rfl rfl) h) (ig (kC (aM rfl rfl))))
  case a1=>exact ef be rfl (cC rfl (by simp))
 case h2=>rfl
theorem BP{u v:V3}{l m:Dc}{Y:List T}(a:(keys l).Nodup)(c:l.length+m.length<=1000000):cf jf 2 jI [.v (bR u l),.v (bR v m)] Y=some (.v (bR (cq v u) (ac l m)),Y):=by
 unfold bR;rw[ac7 a c];have e:v.r+v.g+v.b+(u.r+u.g+u.b)=(cq v u).r+(cq v u).g+(cq v u).b:=by unfold cq;dsimp only;exact MM
 rw[e];rfl
theorem O4{A:List Nat}{t:Nat}(h:t∈A):∃ j,(bv A).findIdx? (oz (t:Int))=some j/\(bv A).eraseIdx j=bv (A.erase t):=by
 induction A with
 |nil=>cases h
 |cons a A d=>
  by_cases q:a=t
  ·subst q;refine(aS 0 ?_ ?_)
   ·unfold bv;rw[cB,JA];have:oz (a:Int) (T.int (a:Int))=true:=by show((a:Int)==(a:Int))=true;simp
    rw[this];rfl
   ·rw[List.erase_cons_head];rfl
  ·have e:t∈A:=by
    rcases bP.mp h with h|h
    ·exact absurd h.symm q
    ·exact h
   refine aQ λf=>aV (d e) λj b c=>f (aS (j+1) ?_ ?_)
   ·unfold bv at b ⊢;rw[cB,JA];have:oz (t:Int) (T.int (a:Int))=false:=by
     show((a:Int)==(t:Int))=false;rw[beq_eq_false_iff_ne];exact Up q
    rw[this,b];rfl
   ·rw[List.erase_cons_tail (by simpa using q)];unfold bv at c ⊢;rw[cB,List.eraseIdx_cons_succ,c];rfl
theorem OZ{O:List S}{Y G:List T}{f:aP}{x:X}{i:Nat}{A:List Nat}{t:Nat}(a:f O Y=some (x,G))(b:x.t?=some (.int (t:Int)))(hi:O[i]?=some (.own (bv A)))(c:t∈A)(d:A.length<=1000000):
  sL i f O Y=some (.nx,O.set i (.own (bv (A.erase t))),G):=
 aV (O4 c) λj e g=>aT a (aT b (aT rfl (aT hi (aT rfl (aT (A9 A) (aT e ((if_pos (by rw[iw];exact d)).trans (g▸rfl))))))))
theorem Wz{a:Int}:∀ (r:List Int),(∀ b∈r,a<=b)->HD (a::r)=a:=by
 intro d;induction d with
 |nil=>
  intro _;exact rfl
 |cons b r e=>
  intro h;have f:=h b (.head _);show r.foldl _ (if b<a then b else a)=a;rw[if_neg (zL f)];exact e λc hc=>h c (.tail _ hc)
theorem ints_map{J:Type}(l:List J)(f:J->Int):ky (l.map λa=>T.int (f a))=some (l.map f):=by
 induction l with
 |nil=>rfl
 |cons a l b=>show(ky (l.map _)).map _=_;rw[b];rfl
theorem OL{J:Type}{a:J}{l:List J}{f:J->Int}{Y:List T}(h:∀ b∈l,f a<=f b):ml [.fr ((a::l).map λa=>T.int (f a))] Y=some (.v (.int (f a)),Y):=by
 refine da (aT rfl (aT (ints_map (a::l) f) ((if_neg (List.cons_ne_nil _ _)).trans (congrArg (λm=>some (X.v (.int m))) (Wz _ λb d=>?_))))) rfl;exact aV (eh.mp d) λc hc e=>e▸h c hc
section
variable{O:List S}{Y:List T}(hl:O.length=52)
include hl
theorem EU{A:List Nat}{i:Nat}(h:O[i]?=some (.own (bv A)))(a:A.length<=1000):bL [dV i] (cD iB) O Y=some (.v (.int (A.length:Int)),Y):=by
 refine db (bN (aM h rfl) cv) (gk ?_);show(if (bv A).length<=1000000 then some (X.v (T.int ((bv A).length:Int)))else none)=_;rw[if_pos (by rw[iw];exact dU a),iw]
theorem U9{A:List Nat}{cV:Int}{a:Nat}(e:O[15]?=some (.v (.int cV)))(c:O[22]?=some (.own (bv A)))(f:O[25]?=some (.v (.int (a:Int))))(g:a<=4)(hA:0<A.length)(h:A.length<=6):
  ∃ x,x∈A/\gB (aO 52) [26,27,28] false [df [aR (dV 22) (dB .Mod (dB .FloorDiv (dB .FloorDiv (dV 15) (dK (.int 36))) (dB .Pow (dK (.int 6)) (dV 25))) (bL [dV 22] (cD iB)))],j5 ((λO Y=>some (.frd [],Y))),j5 ((λO Y=>some (.frd [],Y)))] O Y
   = some (.nx,((O.set 26 (.own (bv [x]))).set 27 (.v (.dct []))).set 28 (.v (.dct [])),Y):=by
 have l:∃ b:Int,(6:Int)^((a:Int)).toNat=b/\b≠0/\b.natAbs<2^64:=by
  have:a=0\/a=1\/a=2\/a=3\/a=4:=O7 g;rcases this with rfl|rfl|rfl|rfl|rfl<;>exact(cI _ rfl (by decide) (by decide))
 refine aQ λm=>eo l λb n o p=>m ?_;have i:(0:Int)<(A.length:Int):=V5 hA;have h1:=adA ((cV.fdiv 36).fdiv b) i;have h2:=Int.fmod_lt_of_pos ((cV.fdiv 36).fdiv b) i;refine aU (ym h1) λj k=>?_;rw[k]at h2;have d:j<A.length:=IQ h2;have q:dB .FloorDiv (dB .FloorDiv (dV 15) (dK (.int 36))) (dB .Pow (dK (.int 6)) (dV 25)) O Y=some (.v (.int ((cV.fdiv 36).fdiv b)),Y):=by
  refine bV (bV (aM e rfl) rfl be rfl (m7 (by decide) (by decide))) rfl (bV be rfl (aM f rfl) rfl (sh (kx) (Q8 g) (by decide))) rfl ?_;rw[n];exact m7 o p
 have r:dB .Mod (dB .FloorDiv (dB .FloorDiv (dV 15) (dK (.int 36))) (dB .Pow (dK (.int 6)) (dV 25))) (bL [dV 22] (cD iB)) O Y=some (.v (.int (j:Int)),Y):=by
  refine bV q rfl (EU hl c (nO h)) rfl ?_;rw[l9 (Aw hA),k]
 refine(aS (A[j]) (Km d) (XG (bN (gp (bQ (bM (aM c rfl) r rfl (gL (t:=.int (A[j]:Int)) ?_ (by rw[iw];exact GX h))) rfl dh)) (bN (u4 rfl rfl) (bN (u4 rfl rfl) cv))) rfl (oE rfl (l0 hl rfl)) (rc rfl (l1 hl rfl)) (rc rfl (l2 hl rfl))));unfold bv;rw[fR,gv d];rfl
theorem aan{A:List Nat}(a:O[22]?=some (.own (bv A)))(hA:2<=A.length)(c:A.length<=6):∃ d items,iR (dB .Sub (bL [dV 22] (cD iB)) (dK (.int 1))) O Y=some (d::items,Y)/\items.length+2=A.length:=by
 refine aQ λg=>?_;obtain⟨n,b⟩:∃ n,A.length=n+2:=⟨A.length-2,ZC hA⟩;refine g ?_;have e:=jA (O:=O) (Y:=Y) (f:=dB .Sub (bL [dV 22] (cD iB)) (dK (.int 1))) (n:=((n+1:Nat):Int)) (G:=Y) (x:=.v (.int ((n+1:Nat):Int))) ?_ rfl (Ua c b)
 ·rw[mM,adc,cB]at e;exact(iz _ _ e (by simp;exact Lg b))
 ·refine bV (EU hl a (nO c)) rfl be rfl ?_;rw[b];show some (T.int _)=some (T.int _);congr 2;exact ZW
theorem DC{l:List T}{a b:Nat}(c:O[26]?=some (.own (l++[.int (a:Int)]++[.int (b:Int)])))(d:l.length<=1000):h7 (dV 26) (some (gO (dK (.int 2)))) none O Y=some (.fr [.int (a:Int),.int (b:Int)],Y):=
 tn (aM c rfl) (sg (pL be rfl) rfl) tF rfl (by simp;exact abt d) (PM _ _ _)
theorem SY{l:List T}{a b:Nat}(c:O[26]?=some (.own (l++[.int (a:Int)]++[.int (b:Int)])))(d:l.length<=1000):
  bW (aO 52) (.tp [(.nm 35),(.nm 36)]) (h7 (dV 26) (some (gO (dK (.int 2)))) none) O Y=some (.nx,(O.set 35 (.v (.int (a:Int)))).set 36 (.v (.int (b:Int))),Y):=
 ef (DC hl c d) rfl (ab6 (hM (cC rfl (l0 hl rfl)) (hM (cC rfl (l1 hl rfl)) oI)))
noncomputable def jE(o:Od)(v:V3)(m:Nat):T:=.tup [.int (bH o v),dr v,tB v,.int (m:Int)]
theorem Zc{o:Od}{t m:Nat}{lt:Dc}{c d:List T}(e:O[23]?=some (.own c))(f:O[24]?=some (.own d))(g:O[27]?=some (.v (.dct (bp tB lt))))(a:O[32]?=some (.v (dQ o (t,val lt t))))(b:O[36]?=some (.v (.int (t:Int))))
  (i:has lt t=true) (hs:c[t]?=some (.int (m:Int))) (j:c.length<=1000) (h:d.length<=1000) :
  dJ 24 (cJ [aR (dV 32) (dK (.int 0)),aR (dV 32) (dK (.int 1)),aR (dV 27) (dV 36),aR (dV 23) (dV 36)]) O Y=some (.nx,O.set 24 (.own (d++[jE o (val lt t) m])),Y):=
 qH (eD (bQ (bM (aM a rfl) be rfl rfl) rfl (bQ (bM (aM a rfl) be rfl rfl) rfl (bQ (bM (aM g rfl) (aM b rfl) rfl (oK i)) rfl (bQ (bM (aM e rfl) (aM b rfl) rfl (gL hs (dU j))) rfl dh))))) rfl f (dU h)
theorem HP{B:List T}{u:V3}{l:Dc}{i t:Nat}(h6:O[6]?=some (.own B))(hi:O[i]?=some (.v (.int (t:Int))))(a:B[t]?=some (bR u l))(c:B.length<=1000):kq (aR (dV 6) (dV i)) (dK (.int 4)) O Y=some (.v (tB u),Y):=
 Eu (l:=[.int u.r,.int u.g,.int u.b,.int (u.r+u.g+u.b),.dct (bp tB l)]) (bM (aM h6 rfl) (aM hi rfl) rfl (gL a (dU c))) be rfl rfl (by simp)
theorem KR{B:List T}{u:V3}{l lt:Dc}{t:Nat}(h4:O[4]?=some .nts)(h6:O[6]?=some (.own B))(a:O[27]?=some (.v (.dct (bp tB lt))))(c:O[28]?=some (.v (.dct (bp nB lt))))(b:O[36]?=some (.v (.int (t:Int))))(d:O[49]?=some .no)
  (i:B[t]?=some (bR u l)) (j:B.length<=1000) (k:has lt t=true) (m:val lt t=u) (h:(keys lt).Nodup) (f:lt.length<=1000) (g:Y.length<=1000000) :
  ∃ n,dJ 4 (cJ [df [aR (dV 27) (dV 36),dV 28],df [kq (aR (dV 6) (dV 36)) (dK (.int 4)),cM (cn [49] (.nm 49) (iK (dV 27)) (λ_ Y=>some (true,Y)) (ie zG Al) (.ownd []))]]) O Y=some (.nx,O,Y++[n])/\kz n:=by
 have hc:=G6 (Y:=Y) hl a rfl d h (dU f);have h1:=oK (e:=tB) k;rw[m]at h1;refine(mQ _ (ll (eD (bQ (gp (bQ (bM (aM a rfl) (aM b rfl) rfl h1) rfl (bQ (aM c rfl) rfl dh))) rfl (bQ (gp (bQ (HP hl h6 b i j) rfl (bQ hc rfl dh))) rfl dh))) rfl h4 g) _ _ rfl ?_);show(true&&[(tB u,tB u),(T.dct (bp nB lt),T.dct (bp nB lt))].all λp=>eqT 5 p.1 p.2)=true;simp only[gX,Ga,Es (UL 4) h];rfl
end
theorem str_eq(a:Str):(a==a)=true:=by simp
theorem EH(n:Nat)(a:Str):eqT n (.str a) (.str a)=true:=by cases n<;>exact str_eq a
section
variable{O:List S}{Y:List T}(hl:O.length=52)
include hl
theorem QF{B:List T}{b:Nat->V3×Dc}{L:List Nat}{t:Nat}{lt:Dc}(h4:O[4]?=some .nts)(h6:O[6]?=some (.own B))(e:O[26]?=some (.own (bv L++[.int (t:Int)])))(f:O[28]?=some (.v (.dct (bp nB lt))))(g:O[49]?=some .no)
  (l:∀ n∈L,B[n]?=some (bR (b n).1 (b n).2)) (h:B.length<=1000) (c:L.length<=1000) (d:ix V3.n lt=fe (L.map λn=>(b n).1.n)) (m:(ix V3.n lt).natAbs<2^64) (i:Y.length<=1000000) :
  ∃ n,dJ 4 (cJ [bL [bL [dV 28] (cf oR 1 ot)] (cD nz),bL [bL [cM (cn [49] (.nm 49) (iL none (h7 (dV 26) none (some (gO (dK (.int 1)))))) (λ_ Y=>some (true,Y)) (cF wo) (.own []))] (cD jo)] (cD nz)]) O Y=some (.nx,O,Y++[n])/\kz n:=by
 have o:h7 (dV 26) none (some (gO (dK (.int 1)))) O Y=some (.fr (bv L),Y):=tn (aM e rfl) tF (sg (pL be rfl) rfl) rfl (by rw[cU,iw];simp;exact xu c) (MI _ _);have j:=ga (bind:=bU [49] (.nm 49)) (test:=λ_ Y=>some (true,Y)) (fx:=wo) (Y:=Y) (λn:Nat=>T.int (n:Int)) (λ_=>true) (λn=>T.int (b n).1.n) (bg [49] O) (λn I=>I[49]?=some (.v (.int (n:Int))))
  L [] O (.refl O) (by simp;exact dU c) (λa _=>ib hl) (λ_ _ _ _ _=>rfl) (λn p I q r _=>(aS (.v (.int (b n).1.n)) (bM (bM (aM (q.get h6 rfl) rfl) (aM r rfl) rfl (gL (l n p) (dU h))) be rfl rfl) rfl))
 rw[g9,eE]at j;have s:jo (.fr (L.map λn=>T.int (b n).1.n))=some (.v (.int (ix V3.n lt))):=by
  have:=A6 (L.map λn=>(b n).1.n);rw[il]at this;rw[d];exact this
 have k:nz (.v (.int (ix V3.n lt)))=some (.v (.str (aK (toString (ix V3.n lt))))):=by show(if _ then _ else _)=_;rw[if_pos m]
 refine(mQ _ (ll (eD (bQ (db (bN (db (bN (aM f rfl) cv) Oi) cv) (gk k)) rfl (bQ (db (bN (db (bN (fO (eL (eW g) (ia o rfl rfl) j) rfl) cv) (gk s)) cv) (gk k)) rfl dh))) rfl h4 i) _ _ rfl (EH _ _))
theorem T5{a:List T}{t m:Nat}(b:O[23]?=some (.own a))(c:O[36]?=some (.v (.int (t:Int))))(hs:a[t]?=some (.int (m:Int)))(d:a.length<=1000):
  bW (aO 52) (.nm 37) (df [aR (dV 23) (dV 36)]) O Y=some (.nx,O.set 37 (.v (.lst (bv [m]))),Y):=
 ef (gp (bQ (bM (aM b rfl) (aM c rfl) rfl (gL hs (dU d))) rfl dh)) rfl (cC rfl (l0 hl rfl))
end
noncomputable def grow(M:Nat->Nat)(P:List Nat)(n:Nat):List Nat:=P++P.map λp=>p+M n
theorem Yd{m:List T}{M:Nat->Nat}{Y:List T}:∀ (c P:List Nat) (O:List S),O.length=52->O[23]?=some (.own m)->O[49]?=some .no->m.length<=1000->(∀ n∈c,m[n]?=some (.int (M n:Int)))->O[37]?=some (.v (.lst (bv P)))->P.length*2^c.length<=1000->
  ∃ U,em (bU (aO 52) (.nm 38)) tS (bv c) O Y=some (.nx,U,Y)/\bg [37,38] O U/\U[37]?=some (.v (.lst (bv (c.foldl (grow M) P)))):=by
 intro o;induction o with
 |nil=>
  intro P O _ _ _ _ _ b _;exact(cI O rfl (.refl O) b)
 |cons n c q=>
  intro P O d f g t u b r;refine aQ λy=>?_;have i:(P.length+P.length)*2^c.length<=1000:=by
   rw[cK,yu]at r;rw[<- yv]at r;rw[Nat.add_mul];exact NA r
  have j:P.length+P.length<=1000:=bf (Nat.le_mul_of_pos_right _ (Kg _)) i;have e:bg [37,38] O (O.set 38 (.v (.int (n:Int)))):=(bg.refl O).set rfl _;have s:(O.set 38 (.v (.int (n:Int))))[38]?=some (.v (.int (n:Int))):=bS (l0 d rfl);have k:(O.set 38 (.v (.int (n:Int))))[37]?=some (.v (.lst (bv P))):=aW rfl b;have z:bU (aO 52) (.nm 38) (T.int (n:Int)) O=some (O.set 38 (.v (.int (n:Int)))):=cC rfl (l0 d rfl);generalize O.set 38 (.v (.int (n:Int)))=I at*;have v:=ga (bind:=bU [49] (.nm 49)) (test:=λ_ Y=>some (true,Y)) (fx:=Ep) (Y:=Y) (λp:Nat=>T.int (p:Int)) (λ_=>true) (λp=>T.int ((p+M n:Nat):Int)) (bg [49] I) (λp I=>I[49]?=some (.v (.int (p:Int))))
   P [] I (.refl I) (by simp;exact MU j) (λa _=>ib (e.len d)) (λ_ _ _ _ _=>rfl) (λp H A w B _=>(aS (.v (.int ((p:Int)+(M n:Int)))) (bV (aM B rfl) rfl (bM (aM (w.get (e.get f rfl) rfl) rfl) (aM (w.get s rfl) rfl) rfl (gL (u n (.head _)) (dU t))) rfl rfl) rfl))
  rw[g9,eE]at v;have C:tS I Y=some (.nx,I.set 37 (.v (.lst (bv (grow M P n)))),Y):=by
   refine bz (ef (x:=.fr (bv (grow M P n))) ?_ rfl (cC rfl (l0 (e.len d) rfl))) dT;have D:bv (grow M P n)=bv P++P.map (λp=>T.int ((p+M n:Nat):Int)):=by unfold grow;rw[nb];congr 1;unfold bv;rw[il];rfl
   rw[D];exact En (aM k rfl) (fO (eL (eW (e.get g rfl)) (ia (aM k rfl) rfl rfl) v) rfl) rfl rfl (by rw[iw,dm];exact K7 j)
  have l:bg [37,38] O (I.set 37 (.v (.lst (bv (grow M P n))))):=e.set rfl _;obtain⟨U,E,F,G⟩:=q (grow M P n) (I.set 37 (.v (.lst (bv (grow M P n))))) (l.len d) (l.get f rfl) (l.get g rfl) t (λn h=>u n (.tail _ h)) (bS (l0 (e.len d) rfl)) (by unfold grow;rw[cU,dm];exact i);exact y (cI U (gj z C E) (l.trans F) G)
noncomputable def jh(p:Nat):Nat:=if 63-p<p then 63-p else p
theorem XV{O:List S}{Y:List T}{o:Od}{p0:Nat×V3}{C:List T}{b:Nat->Int}{m:Nat}{P:List Nat}(s:O.length=52)(h4:O[4]?=some .nts)(e:O[16]?=some (.own C))(f:O[32]?=some (.v (dQ o p0)))(g:O[37]?=some (.v (.lst (bv (m::P)))))(i:O[49]?=some .no)
  (hC:∀ p,p<=31->C[p]?=some (.int (b p))) (j:C.length<=1000) (t:∀ p∈m::P,p<=63) (k:P.length<=1000) (c:∀ p∈P,b (jh m)<=b (jh p)) (u:b (jh m)=bH o p0.2) (l:Y.length<=1000000) :
  ∃ n,dJ 4 (cJ [bL [cM (cn [49] (.nm 49) (iL none (dV 37)) (λ_ Y=>some (true,Y)) (cF uU) (.own []))] ml,aR (dV 32) (dK (.int 0))]) O Y=some (.nx,O,Y++[n])/\kz n:=by
 have q:=ga (bind:=bU [49] (.nm 49)) (test:=λ_ Y=>some (true,Y)) (fx:=uU) (Y:=Y) (λp:Nat=>T.int (p:Int)) (λ_=>true) (λp=>T.int (b (jh p))) (bg [49] O) (λp I=>I[49]?=some (.v (.int (p:Int))))
  (m::P) [] O (.refl O) (by simp;exact xu k) (λa _=>ib s) (λ_ _ _ _ _=>rfl) (λp w x y r _=>(aS (.v (.int (b (jh p)))) ?_ rfl))
 ·rw[g9,eE]at q;refine(mQ _ (ll (eD (bQ (db (bN (fO (eL (eW i) (ia (aM g rfl) rfl rfl) q) rfl) cv) (OL c)) rfl (bQ (bM (aM f rfl) be rfl rfl) rfl dh))) rfl h4 l) _ _ rfl ?_);rw[u];exact eq_int _ _
 ·have d:=t p w;have z:ml [.v (.int (p:Int)),.v (.int (63-(p:Int)))] Y=some (.v (.int ((jh p:Nat):Int)),Y):=by
   show some (X.v (T.int (if (63:Int)-(p:Int)<(p:Int)then 63-(p:Int)else(p:Int))),Y)=_;congr 3;unfold jh;congr 1;by_cases h:63-p<p
   ·rw[if_pos h,if_pos (acg h)];exact((Int.ofNat_sub d).symm)
   ·rw[if_neg h,if_neg (Ux h)]
  exact bM (aM (y.get e rfl) rfl) (db (bN (aM r rfl) (bN (bV be rfl (aM r rfl) rfl rfl) cv)) z) rfl (gL (hC _ (by unfold jh;split<;>lia)) (dU j))
noncomputable def jm(v:V3):V3:=⟨-2*v.r,-2*v.g,-2*v.b⟩
theorem tq{B:List T}{n:Nat}(t:T)(h:n<B.length)(a:B.length<=1000000):mi (.own B) (.int (n:Int)) t=some (.own (B.set n t)):=by
 show(if _ then _ else _)=_;rw[if_pos ⟨kx,BD h,a⟩];rfl
section
variable{O:List S}{Y:List T}(hl:O.length=52)
include hl
theorem Af{B:List T}{u:V3}{l:Dc}{i n:Nat}(h6:O[6]?=some (.own B))(hi:O[i]?=some (.v (.int (n:Int))))(a:B[n]?=some (bR u l))(b:B.length<=1000):aR (aR (dV 6) (dV i)) (dK (.int 4)) O Y=some (.v (.dct (bp tB l)),Y):=
 bM (bM (aM h6 rfl) (aM hi rfl) rfl (gL a (dU b))) be rfl rfl
theorem ac4{B:List T}{u:V3}{l:Dc}{x t:Nat}(h6:O[6]?=some (.own B))(b:O[35]?=some (.v (.int (x:Int))))(c:O[36]?=some (.v (.int (t:Int))))(d:O[49]?=some .no)(f:B[x]?=some (bR u l))(g:B.length<=1000)(h:has l t=true):
  bW (aO 52) (.nm 39) (iS (bL [cM (cn [49] (.nm 49) (iT (aR (aR (aR (dV 6) (dV 35)) (dK (.int 4))) (dV 36))) (λ_ Y=>some (true,Y)) (cF sJ) (.own []))] (cD sO)) (cJ [(λO Y=>some (.frd [],Y))])) O Y
   = some (.nx,O.set 39 (.v (bR (jm (val l t)) [])),Y):=by
 have e:=ga (bind:=bU [49] (.nm 49)) (test:=λ_ Y=>some (true,Y)) (fx:=sJ) (Y:=Y) T.int (λ_=>true) (λi=>T.int (-2*i)) (bg [49] O) (λi I=>I[49]?=some (.v (.int i)))
  [(val l t).r,(val l t).g,(val l t).b,(val l t).r+(val l t).g+(val l t).b] [] O (.refl O) (by simp) (λa _=>ib hl) (λ_ _ _ _ _=>rfl) (λi hi I n j _=>(aS (.v (.int (-2*i))) (bV (pL be rfl) rfl (aM j rfl) rfl (pD (.inl (by decide)))) rfl))
 rw[g9,eE]at e;have k:bR (jm (val l t)) []=.tup ([T.int (-2*(val l t).r),.int (-2*(val l t).g),.int (-2*(val l t).b),.int (-2*((val l t).r+(val l t).g+(val l t).b))]++[.dct []]):=by
  unfold bR jm;simp only[rA,eE,T.tup.injEq,adz,T.int.injEq,true_and,and_true];exact⟨Sy,rfl⟩
 rw[k];have m:bL [cM (cn [49] (.nm 49) (iT (aR (aR (aR (dV 6) (dV 35)) (dK (.int 4))) (dV 36))) (λ_ Y=>some (true,Y)) (cF sJ) (.own []))] (cD sO) O Y=some (.v (.tup [T.int (-2*(val l t).r),.int (-2*(val l t).g),.int (-2*(val l t).b),.int (-2*((val l t).r+(val l t).g+(val l t).b))]),Y):=
  db (bN (fO (eL (eW d) (i_T (bM (Af hl h6 b f g) (aM c rfl) rfl (oK h)) rfl) e) rfl) cv) (gk rfl)
 exact ef (tl m (eD (l:=[.dct []]) (bQ (x:=.frd []) rfl rfl dh)) rfl rfl (by simp)) rfl (cC rfl (l0 hl rfl))
theorem WU{B:List T}{j ut k:V3}{a l:Dc}{x t:Nat}(h6:O[6]?=some (.own B))(d:O[35]?=some (.v (.int (x:Int))))(e:O[36]?=some (.v (.int (t:Int))))(f:O[39]?=some (.v (bR k [])))(g:B[x]?=some (bR j a))(h:B[t]?=some (bR ut l))(n:B.length<=1000)
  (o:(keys a).Nodup) (b:a.length+l.length<=1000):bW (aO 52) (.nm 40) (bL [bL [aR (dV 6) (dV 35),aR (dV 6) (dV 36)] (cf jf 2 jI),dV 39] (cf jf 2 jI)) O Y
   = some (.nx,O.set 40 (.v (bR (cq k (cq ut j)) (ac a l))),Y):=by
 have c:∀ (m l:Dc),(ac l m).length<=l.length+m.length:=by
  intro m;induction m with
  |nil=>intro l;exact cu _
  |cons p m q=>
   intro l;show(ac (mV l p) m).length<=_;have:=q (mV l p);have h2:=Fi l p.1 (cq p.2 (val l p.1));unfold mV at this ⊢;simp only[cK];exact Ol this h2
 have i:=c l a;exact ef (db (bN (db (bN (bM (aM h6 rfl) (aM d rfl) rfl (gL g (dU n))) (bN (bM (aM h6 rfl) (aM e rfl) rfl (gL h (dU n))) cv)) (BP o (V1 b))) (bN (aM f rfl) cv)) (BP (m:=[]) (p8 _ o) (by simp;exact aae b i))) rfl (cC rfl (l0 hl rfl))
theorem SO{B Ln:List T}{u:V3}{l:Dc}{x t:Nat}(h6:O[6]?=some (.own B))(k:O[26]?=some (.own (Ln++[.int (x:Int)]++[.int (t:Int)])))(m:O[35]?=some (.v (.int (x:Int))))(c:O[40]?=some (.v (bR u l)))(n:O[49]?=some .no)(w:x<B.length)(y:B.length<=1000)(o:Ln.length<=1000)
  (v:(keys l).Nodup) (p:l.length<=1000):jC 6 (dV 35) (iS (kq (dV 40) (dK (.int 4))) (cJ [cM (cn [49] (.nm 49) (iK (aR (dV 40) (dK (.int 4)))) pP (ie sK tP) (.ownd []))])) O Y
   = some (.nx,O.set 6 (.own (B.set x (bR u (l.filter λa=>!([x,t].contains a.1))))),Y):=by
 have d:∀ O,O[40]?=some (.v (bR u l))->aR (dV 40) (dK (.int 4)) O Y=some (.v (.dct (bp tB l)),Y):=λO h=>bM (aM h rfl) be rfl rfl;have q:=Ao (bind:=bU [49] (.nm 49)) (test:=pP) (fk:=sK) (fv:=tP) (Y:=Y) tB (λa:Nat×V3=>T.int (a.1:Int)) (λa=>!([x,t].contains a.1)) (λa=>a.1) (λa=>a.2) (bg [49] O) (λa I=>I[49]?=some (.v (.int (a.1:Int))))
  l [] O (.refl O) (by simp;exact dU p) v (λa _=>ib hl) (λa s I i j=>?_) (λa s I i j _=>(qD _ (.v (tB a.2)) (aM j rfl) rfl ?_ rfl))
 ·rw[eE,BB]at q;refine qd (x:=.v (bR u (l.filter λa=>!([x,t].contains a.1)))) ?_ rfl (aM m rfl) rfl h6 (tq _ w (dU y));rw[<- Fs tB]at q;have z:cM (cn [49] (.nm 49) (iK (aR (dV 40) (dK (.int 4)))) pP (ie sK tP) (.ownd [])) O Y=some (.frd (bp tB (l.filter λa=>!([x,t].contains a.1))),Y):=fO (eL (eW n) (HO (d O c) rfl rfl) q) rfl;exact tl (l:=[.int u.r,.int u.g,.int u.b,.int (u.r+u.g+u.b)]) (r:=[.dct (bp tB (l.filter λa=>!([x,t].contains a.1)))]) (Eu (l:=[.int u.r,.int u.g,.int u.b,.int (u.r+u.g+u.b),.dct (bp tB l)]) (aM c rfl) be rfl rfl (by simp)) (eD (bQ z rfl dh)) rfl rfl (by simp)
 ·have h2:=DC (O:=I) (Y:=Y) (i.len hl) (i.get k rfl) o;have:=DL (neg:=true) (f:=dV 49) (aM j rfl) rfl h2 (Sq [x,t] a.1);rw[JR]at this;exact this
 ·have h1:=oK (e:=tB) (Bj s);rw[Ax v s]at h1;exact bM (d I (i.get c rfl)) (aM j rfl) rfl h1
theorem Tu{a:List T}{x t d mt:Nat}(b:O[23]?=some (.own a))(e:O[35]?=some (.v (.int (x:Int))))(f:O[36]?=some (.v (.int (t:Int))))(h:a[x]?=some (.int (d:Int)))(i:a[t]?=some (.int (mt:Int)))(g:a.length<=1000):
  na 23 (dV 35) (aR (dV 23) (dV 36)) O Y=some (.nx,O.set 23 (.own (a.set x (.int ((d+mt:Nat):Int)))),Y):=by
 have c:x<a.length:=(je.mp h).1;refine Ai (S0:=.own a) (old:=.int (d:Int)) (n:=.int ((d+mt:Nat):Int)) b (aM e rfl) rfl ?_ (bM (aM b rfl) (aM f rfl) rfl (gL i (dU g))) rfl rfl (tq _ c (dU g));show(if _ then _ else _)=_;rw[if_pos ⟨kx,BD c,dU g⟩,mM,h]
end
noncomputable def kp(x t:Nat)(l:Dc):Dc:=ac (l.filter λa=>a.1 != t) [(x,val l t)]
theorem GL{σ0:List S}(c:σ0.length=52){a b:T}:∀ O,bg [49,50] σ0 O->∃ I,bU [49,50] (.tp [.nm 49,.nm 50]) (.tup [a,b]) O=some I/\bg [49,50] σ0 I/\(I[49]?=some (.v a)/\I[50]?=some (.v b)):=λO h=>
 (j0 ((O.set 49 (.v a)).set 50 (.v b)) (qj (hM (cC rfl (l0 (h.len c) rfl)) (hM (cC rfl (l1 (h.len c) rfl)) oI))) ((h.set rfl _).set rfl _)
  (aW rfl (bS (l0 (h.len c) rfl))) (bS (l1 (h.len c) rfl)))
theorem Y8{O:List S}{Y:List T}{B:List T}{u:V3}{l:Dc}{n x t:Nat}{o:S}(c:O.length=52)(h4:O[4]?=some .nts)(h6:O[6]?=some (.own B))(E:O[35]?=some (.v (.int (x:Int))))(q:O[36]?=some (.v (.int (t:Int))))(s:O[38]?=some (.v (.int (n:Int))))
  (F:O[41]?=some o) (Z:o.adF=false) (G:O[49]?=some .no) (H:O[50]?=some .no) (A:B[n]?=some (bR u l)) (C:B.length<=1000) (V:(keys l).Nodup) (hh:has l t=true) (e:l.length<=1000) (J:Y.length<=1000000) :
  ∃ U W,Bp O Y=some (.nx,U,Y++[W])/\bg [6,41,42] O U/\U[6]?=some (.own (B.set n (bR u (kp x t l))))/\(∃ S,U[41]?=some S/\S.adF=false)/\kz W:=by
 have K:n<B.length:=(je.mp A).1;have v:(keys (l.filter λa=>a.1 != t)).Nodup:=V.sublist (adB.map _);have w:(l.filter λa=>a.1 != t).length<=l.length:=Kq _ _;have L:=Ao (bind:=bU [49,50] (.tp [.nm 49,.nm 50])) (test:=wN) (fk:=zf) (fv:=A0) (Y:=Y) tB (λa:Nat×V3=>T.tup [T.int (a.1:Int),tB a.2]) (λa=>a.1 != t) (λa=>a.1) (λa=>a.2) (bg [49,50] O) (λa I=>I[49]?=some (.v (.int (a.1:Int)))/\I[50]?=some (.v (tB a.2)))
  l [] O (.refl O) (by simp;exact dU e) V (λa _=>GL c) (λa ha I X D=>?_) (λa ha I X D _=>(qD _ (.v (tB a.2)) (aM D.1 rfl) rfl (aM D.2 rfl) rfl))
 ·rw[eE,BB]at L;have ei:l.map (λa:Nat×V3=>T.tup [T.int (a.1:Int),tB a.2])=(bp tB l).map λp=>T.tup [T.int p.1,p.2]:=by unfold bp;rw[il];rfl
  rw[ei]at L;have a1:jL 41 (jS (aO 52) 41 (cn [49,50] (.tp [(.nm 49),(.nm 50)]) (iI (aR (aR (dV 6) (dV 38)) (dK (.int 4)))) wN (ie zf A0) (.ownd []))) O Y=some (.nx,O.set 41 (.v (.dct (bp tB (l.filter λa=>a.1 != t)))),Y):=
   tz F Z (eL (kY G (eW H)) (Ad (Af c h6 s A C) rfl rfl) L) rfl rfl (l0 c rfl)
  have M:bg [6,41,42] O (O.set 41 (.v (.dct (bp tB (l.filter λa=>a.1 != t))))):=(bg.refl O).set rfl _;have y:(O.set 41 (.v (.dct (bp tB (l.filter λa=>a.1 != t)))))[41]?=some (.v (.dct (bp tB (l.filter λa=>a.1 != t)))):=bS (l0 c rfl);have k6:(O.set 41 (.v (.dct (bp tB (l.filter λa=>a.1 != t)))))[6]?=some (.own B):=aW rfl h6;generalize O.set 41 (.v (.dct (bp tB (l.filter λa=>a.1 != t))))=I at*;have a2:bW (aO 52) (.nm 42) (bL [dV 41] (cD zJ)) I Y=some (.nx,I.set 42 (.v (.dct (bp tB (l.filter λa=>a.1 != t)))),Y):=by
   refine ef (x:=.frd (bp tB (l.filter λa=>a.1 != t))) (db (bN (aM y rfl) cv) (gk ?_)) rfl (cC rfl (l0 (M.len c) rfl));show(if _ then _ else _)=_;rw[if_pos (by unfold bp;rw[dm];exact HE e w)]
  have d:bg [6,41,42] O (I.set 42 (.v (.dct (bp tB (l.filter λa=>a.1 != t))))):=M.set rfl _;have f:(I.set 42 (.v (.dct (bp tB (l.filter λa=>a.1 != t)))))[41]?=some (.v (.dct (bp tB (l.filter λa=>a.1 != t)))):=aW rfl y;have N:(I.set 42 (.v (.dct (bp tB (l.filter λa=>a.1 != t)))))[42]?=some (.v (.dct (bp tB (l.filter λa=>a.1 != t)))):=bS (l0 (M.len c) rfl);have P:(I.set 42 (.v (.dct (bp tB (l.filter λa=>a.1 != t)))))[6]?=some (.own B):=aW rfl k6;generalize I.set 42 (.v (.dct (bp tB (l.filter λa=>a.1 != t))))=j at*;have k:=d.get s rfl;have Q:=d.get E rfl;have R:=d.get q rfl;have a3:jC 6 (dV 38) (iS (kq (aR (dV 6) (dV 38)) (dK (.int 4))) (cJ [bL [dV 41,j5 (nh (dV 35) (aR (aR (aR (dV 6) (dV 38)) (dK (.int 4))) (dV 36)))] (cf jW 2 jT)])) j Y=some (.nx,j.set 6 (.own (B.set n (bR u (kp x t l)))),Y):=by
   refine qd (x:=.v (bR u (kp x t l))) ?_ rfl (aM k rfl) rfl P (tq _ K (dU C));refine tl (l:=[.int u.r,.int u.g,.int u.b,.int (u.r+u.g+u.b)]) (r:=[.dct (bp tB (kp x t l))]) (HP (d.len c) P k A C) (eD (bQ (db (bN (aM f rfl) (bN (u4 (GT (aM Q rfl) (bM (Af (d.len c) P k A C) (aM R rfl) rfl (oK hh)) rfl rfl) rfl) cv)) (uX (m:=[(x,val l t)]) yK v (by simp;exact TR e w) _ _ rfl rfl)) rfl dh)) rfl rfl (by simp)
  refine(qf (j.set 6 (.own (B.set n (bR u (kp x t l))))) (.tup [.dct (bp tB (l.filter λa=>a.1 != t)),.dct (bp tB (l.filter λa=>a.1 != t))]) ?_ (d.set (i:=6) rfl _) (bS (l0 (d.len c) rfl)) (aS _ (aW rfl f) rfl) (iz _ _ rfl ?_))
  case refine_1=>
   unfold Bp;exact bz a1 (bz a2 (bz a3 (bz (ll (eD (bQ (aM (aW rfl f) rfl) rfl (bQ (aM (aW rfl N) rfl) rfl dh))) rfl (aW rfl (d.get h4 rfl)) J) dT)))
  case refine_2=>exact Es (Ga 4) v
 ·have z:=X.get q rfl;refine jl (aM D.1 rfl) rfl (aM z rfl) rfl ?_;show some ((a.1:Int) != (t:Int))=some (a.1 != t);congr 1;by_cases h:a.1=t
  ·rw[h];simp
  ·have:¬((a.1:Int)=(t:Int)):=tW h;rw[show(a.1 != t)=true by simpa using h,show((a.1:Int) != (t:Int))=true by simpa using this]
theorem TM{bk:Nat->V3×Dc}{x t:Nat}:∀ (p:List Nat) (O:List S) (Y:List T) (B:List T),p.Nodup->O.length=52->O[4]?=some .nts->O[6]?=some (.own B)->O[35]?=some (.v (.int (x:Int)))->O[36]?=some (.v (.int (t:Int)))->
  (∃ S,O[41]?=some S/\S.adF=false)->O[49]?=some .no->O[50]?=some .no->B.length<=1000->Y.length+p.length<=1000000->
  (∀ n∈p,n≠x->B[n]?=some (bR (bk n).1 (bk n).2)/\(keys (bk n).2).Nodup/\has (bk n).2 t=true/\(bk n).2.length<=1000)->
  ∃ U i r,em (bU (aO 52) (.nm 38)) xm (bv p) O Y=some (.nx,U,Y++i)/\bg [6,38,41,42] O U/\U[6]?=some (.own r)/\r.length=B.length/\(∃ S,U[41]?=some S/\S.adF=false)/\
   (∀ n∈p,n≠x->r[n]?=some (bR (bk n).1 (kp x t (bk n).2)))/\(∀ n,n∉p\/n=x->r[n]?=B[n]?)/\dG i/\i.length<=p.length:=by
 intro J;induction J with
 |nil=>
  intro O Y B W v h4 h6 f j s k l F g G;exact(dF O [] B ⟨(by rw[gW];rfl),.refl O,h6,rfl,s,(λ_ h=>nomatch h),(λ_ _=>rfl),.nil,cu _⟩)
 |cons n p w=>
  intro O Y B W v h4 h6 f j s k l F g G;have o:=gu.mp W;simp only[cK]at g;have d:bg [6,38,41,42] O (O.set 38 (.v (.int (n:Int)))):=(bg.refl O).set rfl _;have y:(O.set 38 (.v (.int (n:Int))))[38]?=some (.v (.int (n:Int))):=bS (l0 v rfl);have X:(O.set 38 (.v (.int (n:Int))))[6]?=some (.own B):=aW rfl h6;have z:∃ S,(O.set 38 (.v (.int (n:Int))))[41]?=some S/\S.adF=false:=aV s λS0 a b=>(aS S0 (aW rfl a) b);have Z:bU (aO 52) (.nm 38) (T.int (n:Int)) O=some (O.set 38 (.v (.int (n:Int)))):=cC rfl (l0 v rfl);generalize O.set 38 (.v (.int (n:Int)))=I at*;have hc:tC .NotEq (dV 38) (dV 35) I Y=some (n != x,Y):=by
   have A:=d.get f rfl;refine jl (aM y rfl) rfl (aM A rfl) rfl ?_;show some ((n:Int) != (x:Int))=some (n != x);congr 1;by_cases h:n=x
   ·rw[h];simp
   ·have:¬((n:Int)=(x:Int)):=tW h;rw[show(n != x)=true by simpa using h,show((n:Int) != (x:Int))=true by simpa using this]
  by_cases C:n=x
  ·rw[show(n != x)=false by simpa using C]at hc;refine aQ λnG=>abl (w I Y B o.2 (d.len v) (d.get h4 rfl) X (d.get f rfl) (d.get j rfl) z (d.get k rfl) (d.get l rfl) F (tK g) λm c=>G m (.tail _ c)) λU i r K L M N P Q D R V=>nG (dF U i r ⟨gj Z (bz (kl hc dT) dT) K,d.trans L,M,N,P,(λm c e=>?_),(λm c=>D m ?_),R,(by simp only[cK];exact Gn V)⟩)
   ·rcases bP.mp c with rfl|c
    ·exact absurd C e
    ·exact Q m c e
   ·rcases c with c|c
    ·exact .inl λq=>c (.tail _ q)
    ·exact .inr c
  ·rw[show(n != x)=true by simpa using C]at hc;refine fW (G n (.head _) C) λb1 b2 b3 b4=>aV z λa0 c1 c2=>nN (Y8 (Y:=Y) (d.len v) (d.get h4 rfl) X (d.get f rfl) (d.get j rfl) y c1 c2 (d.get k rfl) (d.get l rfl) b1 F b2 b3 b4 (kD g)) λE H k1 k2 k3 k4 k5=>?_;have u:bg [6,38,41,42] O E:=d.trans (k2.mono (by decide));obtain⟨U,i,r,K,L,M,N,P,Q,D,R,V⟩:=w E (Y++[H]) (B.set n (bR (bk n).1 (kp x t (bk n).2))) o.2 (u.len v) (u.get h4 rfl) k3 (u.get f rfl) (u.get j rfl) k4 (u.get k rfl) (u.get l rfl) (by rw[fH];exact F) (by rw[cU];simp;exact m0 g)
    λm c e=>by
     rw[ed (λq=>by subst q;exact o.1 c)];exact G m (.tail _ c) e
   refine(dF U (H::i) r ⟨?_,u.trans L,M,(by rw[N,fH]),P,(λm c e=>?_),(λm c=>?_),(dG.one k5).app R,(by simp only[cK];exact wS V)⟩)
   ·rw[show Y++H::i=Y++[H]++i by simp];exact gj Z (bz (l5 hc k1) dT) K
   ·rcases bP.mp c with rfl|c
    ·rw[D m (.inl o.1)];rw[fT (je.mp b1).1]
    ·exact Q m c e
   ·rcases c with c|c
    ·rw[D m (.inl λq=>c (.tail _ q)),ed (λq=>by subst q;exact c (.head _))]
    ·rw[D m (.inr c),ed (λq=>C (q.trans c))]
theorem GM(p:Nat->Bool)(l:Dc)(k:Nat):val (l.filter λa=>p a.1) k=if p k=true then val l k else v0:=by
 induction l with
 |nil=>show v0=_;split<;>rfl
 |cons a l b=>
  obtain⟨j,v⟩:=a;by_cases h:p j=true
  ·rw[rW (p:=λa:Nat×V3=>p a.1) (a:=(j,v)) h,gQ,gQ,b];by_cases q:j=k
   ·subst q;rw[if_pos rfl,if_pos rfl,if_pos h]
   ·rw[if_neg q,if_neg q]
  ·rw[uJ (p:=λa:Nat×V3=>p a.1) (a:=(j,v)) h,gQ,b];by_cases q:j=k
   ·subst q;rw[if_pos rfl,if_neg h,if_neg h]
   ·rw[if_neg q]
theorem E3(p:Nat->Bool)(l:Dc)(k:Nat):k∈keys (l.filter λa=>p a.1)↔k∈keys l/\p k=true:=by
 unfold keys;simp only[eh,uK];constructor
 ·rintro ⟨a,⟨h1,h2⟩,rfl⟩;exact⟨(aS a h1 rfl),h2⟩
 ·rintro ⟨⟨a,h1,rfl⟩,h2⟩;exact(aS a ⟨h1,h2⟩ rfl)
theorem FR(p:Nat×V3->Bool){l:Dc}(h:(keys l).Nodup):(keys (l.filter p)).Nodup:=h.sublist (adB.map _)
noncomputable def fY(w:Nat->Nat->V3)(x t:Nat):Nat->Nat->V3:=λi j=>if i=j then w i i else if i=x then cq (w x j) (w t j)else if j=x then cq (w i x) (w i t)else w i j
theorem tL{c:V3->Int}(hc:i7 c)(w:Nat->Nat->V3)(x t i j:Nat):c (fY w x t i j)=fV (λi j=>c (w i j)) x t i j:=by
 unfold fY fV;by_cases h:i=j
 ·subst h;rw[if_pos rfl,if_pos rfl]
 ·rw[if_neg h,if_neg h];split
  ·exact hc.a _ _
  ·split
   ·exact hc.a _ _
   ·rfl
noncomputable def ds(w:Nat->Nat->V3)(b:Nat->V3×Dc)(x t:Nat):Nat->V3×Dc:=λn=>
 if n=x then(cq (jm (val (b x).2 t)) (cq (b t).1 (b x).1),(ac (b x).2 (b t).2).filter λa=>!([x,t].contains a.1))else((b n).1,kp x t (b n).2)
theorem Vg{c:V3->Int}(hc:jH c)(v:V3):c (jm v)=-2*c v:=by rcases hc with rfl|rfl|rfl<;>rfl
theorem xi{A:List Nat}{x t:Nat}(a:x∈A)(b:t∈A)(c:x≠t):A.Perm (t::x::(A.erase t).erase x):=
 (lR b).trans ((lR ((uI c).mpr a)).cons t)
theorem ZA{A:List Nat}{w:Nat->Nat->V3}{l:Nat->V3×Dc}(h:j6 A w l){x t:Nat}(o:x∈A)(p:t∈A)(D:x≠t):j6 (A.erase t) (fY w x t) (ds w l x t):=by
 have E:=xi o p D;have v:(A.erase t).Perm (x::(A.erase t).erase x):=lR ((uI D).mpr o);have y:=E.nodup h.nd;have nB:=(gu.mp (gu.mp y).2);have tB:=(gu.mp y).1;generalize L:(A.erase t).erase x=B at*;have u:∀ k,k∈A.erase t↔k≠t/\k∈A:=λk=>h.nd.mem_erase_iff;have I:∀ k,(![x,t].contains k)=true↔k≠x/\k≠t:=λk=>by simp
 have s:∀ f:Nat->Int,sm A f=f t+(f x+sm B f):=λf=>by rw[ly E];rfl
 have F:∀ f:Nat->Int,sm (A.erase t) f=f x+sm B f:=λf=>by rw[ly v];rfl
 refine⟨h.nd.erase t,λi j=>?_,λi=>?_,λc hc i j=>?_,λc hc=>?_,λn m=>?_,λn m k=>?_,λn m k hk=>?_,λn m=>?_⟩
 ·refine oX λc hc=>?_;rw[tL hc.lin,tL hc.lin,zX λi j=>by rw[h.sy]]
 ·unfold fY;rw[if_pos rfl];exact h.dg i
 ·rw[tL hc.lin];exact X4 (h.nn c hc) x t i j
 ·have C:(λi j=>c (fY w x t i j))=fV (λi j=>c (w i j)) x t:=by funext i j;exact tL hc.lin w x t i j
  have hs:∀ i j,(λi j=>c (w i j)) i j=(λi j=>c (w i j)) j i:=λi j=>by simp only[h.sy i j]
  have m:=zX hs x t;rw[C,ou m v,KW hs nB.1,<- ou hs E];have:=h.tt c hc;have:=h.nn c hc x t;show tot (λi j=>c (w i j)) A-c (w x t)<=45;exact Pj ‹_› this
 ·have d:=(u n).mp m;unfold ds;split
  ·exact FR _ (p8 _ (h.kn x o))
  ·exact p8 _ (FR _ (h.kn n d.2))
 ·have d:=(u n).mp m;rw[u k];unfold ds;by_cases q:n=x
  ·subst q;rw[if_pos rfl];have:=E3 (λk=>!([n,t].contains k)) (ac (l n).2 (l t).2) k;rw[this,qB,h.ks n o,h.ks t p,I k];constructor
   ·rintro ⟨a,b,c⟩;exact⟨⟨c,by rcases a with a|a<;>exact a.1⟩,b⟩
   ·rintro ⟨⟨c,a⟩,b⟩;exact⟨.inl ⟨a,b⟩,b,c⟩
  ·rw[if_neg q];unfold kp;have:=E3 (λk=>k != t) (l n).2 k;rw[qB,this,h.ks n d.2];have e:keys [(x,val (l n).2 t)]=[x]:=rfl;rw[e,jd];constructor
   ·rintro (⟨⟨a,b⟩,c⟩|rfl)
    ·exact⟨⟨by simpa using c,a⟩,b⟩
    ·exact⟨⟨D,o⟩,λw=>q w.symm⟩
   ·rintro ⟨⟨c,a⟩,b⟩;exact .inl ⟨⟨a,b⟩,by simpa using c⟩
 ·have d:=(u n).mp m;have g:=(u k).mp hk;unfold ds;by_cases q:n=x
  ·subst q;rw[if_pos rfl];have:=GM (λk=>!([n,t].contains k)) (ac (l n).2 (l t).2) k;rw[this];by_cases r:n=k
   ·subst r;rw[if_neg (by simp)];unfold fY;rw[if_pos rfl,h.dg]
   ·rw[if_pos ((I k).mpr ⟨Ne.symm r,g.1⟩),xf _ _ (h.kn t p),h.vl n o k g.2,h.vl t p k g.2];unfold fY;rw[if_neg r,if_pos rfl]
  ·rw[if_neg q];unfold kp;have K:=GM (λk=>k != t) (l n).2 k;rw[xf _ _ (by simp[keys]),K,if_pos (by simpa using g.1),h.vl n d.2 k g.2,h.vl n d.2 t p,gQ];unfold fY;by_cases r:n=k
   ·subst r;rw[if_neg (Ne.symm q),if_pos rfl];exact rg _
   ·rw[if_neg r,if_neg q];by_cases G:x=k
    ·subst G;rw[if_pos rfl,if_pos rfl]
    ·rw[if_neg G,if_neg (Ne.symm G)];exact rg _
 ·have d:=(u n).mp m;refine oX λc hc=>?_;rw[fI hc.lin,F];have J:∀ k∈B,k≠x:=λk hk q=>by subst q;exact nB.1 hk
  unfold ds;by_cases q:n=x
  ·subst q;rw[if_pos rfl];have C:c (fY w n t n n)=0:=by unfold fY;rw[if_pos rfl,h.dg,hc.lin.z]
   have H:sm B (λk=>c (fY w n t n k))=sm B (λk=>c (w n k))+sm B (λk=>c (w t k)):=by
    rw[<- vM];refine jG λk hk=>?_;unfold fY;rw[if_neg (Ne.symm (J k hk)),if_pos rfl,hc.lin.a]
   rw[hc.lin.a,hc.lin.a,Vg hc,h.dv t p,h.dv n o,fI hc.lin,fI hc.lin,s,s,C,H,h.vl n o t p,h.dg,h.dg,hc.lin.z,h.sy t n];exact Xi
  ·rw[if_neg q];have C:c (fY w x t n x)=c (w n x)+c (w n t):=by unfold fY;rw[if_neg q,if_neg q,if_pos rfl,hc.lin.a]
   have H:sm B (λk=>c (fY w x t n k))=sm B (λk=>c (w n k)):=jG λk hk=>by
    unfold fY;by_cases r:n=k
    ·subst r;rw[if_pos rfl]
    ·rw[if_neg r,if_neg q,if_neg (J k hk)]
   rw[h.dv n d.2,fI hc.lin,s,C,H];exact UX
noncomputable def cw(c:V3->Int)(w:Nat->Nat->V3):Nat->Nat->Int:=λi j=>c (w i j)
noncomputable def eM(m:Nat):Nat->Bool:=λi=>m.testBit i
noncomputable def iq(c:V3->Int)(a:Nat->Nat->V3)(m:Nat):Int:=tot (dq (cw c a) (eM m)) [0,1,2,3,4,5]
theorem Rm:((aO 64).all λp=>[0,1,2,3,4,5].all λi=>[0,1,2,3,4,5].all λj=>decide (((jh p).testBit i=(jh p).testBit j)↔(p.testBit i=p.testBit j)))=true:=by decide+kernel
theorem Bw(c:V3->Int)(a:Nat->Nat->V3){p:Nat}(h:p<=63):iq c a (jh p)=iq c a p:=by
 refine qw λi hi j b=>?_;have h1:=c8.mp (c8.mp (c8.mp Rm p (eu.mpr (Jj h))) i hi) j b;simp only[decide_eq_true_eq]at h1;unfold dq eM;by_cases q:p.testBit i=p.testBit j
 ·rw[if_pos q,if_pos (h1.mpr q)]
 ·rw[if_neg q,if_neg λr=>q (h1.mp r)]
theorem NQ(L:List Nat)(f:Nat->Int):fe (L.map f)=sm L f:=by
 induction L with
 |nil=>rfl
 |cons x L a=>rw[cB];show f x+fe _=f x+sm L f;rw[a]
theorem KB{L:List Nat}{f:Nat->Int}{b:Int}(h:∀ x∈L,0<=f x/\f x<=b):0<=sm L f/\sm L f<=b*(L.length:Int):=by
 induction L with
 |nil=>simp[fX,fZ]
 |cons x L a=>
  have h1:=h x (.head _);have h2:=a λy c=>h y (.tail _ c);have e:b*((x::L).length:Int)=b+b*(L.length:Int):=by rw[cK,Int.natCast_add,Kr];lia
  simp only[fX,fZ];rw[e];exact Ou h1 h2
section
variable{A:List Nat}{M:Nat->Nat}{x t:Nat}
theorem OA(d:A.Nodup){n:Nat}(e:n∈A){s:Nat->Bool}(hs:s n=false):fo M (λi=>if i=n then true else s i) A=fo M s A+M n:=by
 have c:=lR e;have a:∀ y∈A.erase n,y≠n:=λy b q=>by subst q;exact d.not_mem_erase b
 rw[nj c,nj (s:=s) c];simp only[kR,lq,if_true,hs,jc,if_false];rw[yG (M':=M) (s':=s) λy b=>⟨rfl,by rw[if_neg (a y b)]⟩];exact PH
theorem IX(a:A.Nodup){n:Nat}(b:n∈A):fo M (λi=>i==n) A=M n:=by
 have c:=lR b;rw[nj c];have z:∀ B:List Nat,n∉B->fo M (λi=>i==n) B=0:=by
  intro B;induction B with
  |nil=>intro _;rfl
  |cons y B d=>
   intro h;simp only[kR,lq];rw[d λq=>h (.tail _ q),if_neg (by simp;exact λq=>h (q▸.head _))]
 simp only[kR,lq];rw[z _ a.not_mem_erase];simp
def Good(A:List Nat)(M:Nat->Nat)(x t:Nat)(D:List Nat)(p:Nat):Prop:=∃ s:Nat->Bool,s t=true/\s x=false/\(∀ y,s y=true->y=t\/y∈D)/\p=fo M s A
theorem ab8(hA:A.Nodup):∀ (c D:List Nat) (a:Nat) (r:List Nat),c.Nodup->(∀ n∈c,n∈A/\n∉D/\n≠t/\n≠x)->(∀ p∈a::r,Good A M x t D p)->
  ∃ d,c.foldl (grow M) (a::r)=a::d/\(∀ p∈a::d,∃ D,Good A M x t D p)/\(a::d).length=(a::r).length*2^c.length:=by
 intro k;induction k with
 |nil=>
  intro D a r _ _ h;exact(cI r rfl (λp f=>⟨D,h p f⟩) (by simp))
 |cons n c l=>
  intro D a r C hs h;refine aQ λE=>?_;have e:=gu.mp C;refine fW (hs n (.head _)) λF G H I=>?_;obtain⟨d,J,K,L⟩:=l (D++[n]) a (r++(a::r).map λp=>p+M n) e.2 (λm B=>by
   refine fW (hs m (.tail _ B)) λa1 a2 a3 a4=>⟨a1,λq=>?_,a3,a4⟩;rcases fQ.mp q with q|q
   ·exact a2 q
   ·rw[jd]at q;subst q;exact e.1 B) (λp f=>by
   have b:p∈a::r\/p∈(a::r).map λp=>p+M n:=by rw[<- rA]at f;exact fQ.mp f
   rcases b with b|b
   ·exact ng (h p b) λs o u g v=>(j0 s o u (λy j=>by rcases g y j with q|q;exact .inl q;exact .inr (fQ.mpr (.inl q))) v)
   ·refine aV (eh.mp b) λp0 w N=>?_;subst N;refine ng (h p0 w) λs o u g v=>?_;have z:s n=false:=by
     cases q:s n with
     |false=>rfl
     |true=>
      rcases g n q with q|q
      ·exact absurd q H
      ·exact absurd q G
    refine(j0 (λi=>if i=n then true else s i) ?_ ?_ (λy j=>?_) ?_)
    ·simp[o]
    ·simp[u,Ne.symm I]
    ·by_cases q:y=n
     ·exact .inr (fQ.mpr (.inr (by simp[q])))
     ·simp[q]at j;rcases g y j with q|q
      ·exact .inl q
      ·exact .inr (fQ.mpr (.inl q))
    ·rw[OA hA F z,v])
  refine E (cI d ?_ K ?_)
  ·rw[<- J];rfl
  ·rw[L];simp only[cK,cU,dm,yu];rw[show r.length+(r.length+1)+1=(r.length+1)*2 by exact Sv,yv,uF 2]
end
section
variable{o:Od}(ho:o.Ok){A:List Nat}{w w0:Nat->Nat->V3}{bk:Nat->V3×Dc}(hR:j6 A w bk){L:List Nat}{x t:Nat}{lt0 lt:Dc}(hL:Ln o A w L x lt0)(hT:ql A w L x lt)(ht:t∈A)(hn:t∉L++[x])(hz:A.length=L.length+2)
include hR hL hT ht hn hz
theorem A4:A.Perm (t::(L++[x])):=by
 obtain⟨C,hC⟩:=BH (R:=t::(L++[x])) (A:=A) (gu.mpr ⟨hn,hL.nd⟩) λy a=>by
  rcases bP.mp a with rfl|a
  ·exact ht
  ·exact hL.su y a
 have:=hC.length_eq;simp at this;have b:C=[]:=by cases C with|nil=>rfl|cons _ _=>simp at this;lia
 rw[b,gW]at hC;exact hC
theorem vH:x∈A/\x≠t:=⟨hL.su x (by simp),λq=>hn (by simp[q])⟩
theorem KN:has lt t=true:=hT.ha t ht (vH hR hL hT ht hn hz).2.symm
theorem GR:val lt t=(bk t).1:=by
 rw[hT.vl t ht,hR.dv t ht];refine oX λc hc=>?_;rw[fI hc.lin,fI hc.lin,ly (A4 hR hL hT ht hn hz) (λk=>c (w t k))];simp only[fX,fZ];have e:sm (L++[x]) (λk=>c (w t k))=sm (L++[x]) (λu=>c (w u t)):=jG λu _=>by rw[hR.sy t u]
 rw[hR.dg,hc.lin.z,e];exact Bl
omit hL hT ht hn hz in
theorem HS{n:Nat}(h:n∈A):(bk n).1.Ok:=by
 refine Cf λc hc=>?_;rw[hR.dv n h,fI hc.lin];refine⟨qr λu=>hR.nn c hc n u,?_⟩;have b:=lR h;have a:A.Perm (n::(A.erase n++[])):=by rw[gW];exact b
 have:=D5 (W:=λi j=>c (w i j)) (hR.nn c hc) (λi j=>by rw[hR.sy]) a;rw[ly b];simp only[fX,fZ];have e:sm (A.erase n) (λk=>c (w n k))=sm (A.erase n) (λu=>c (w u n)):=jG λu _=>by rw[hR.sy n u]
 rw[hR.dg,hc.lin.z,e];have:=hR.tt c hc;exact OK ‹_› this
omit hn ht in
theorem aby(a:A.length<=6):ix V3.n lt=fe ((L++[x]).map λn=>(bk n).1.n)/\(ix V3.n lt).natAbs<2^64:=by
 have e:ix V3.n lt=sm (L++[x]) (λn=>(bk n).1.n):=by
  rw[Vn Cc.z hT.kn hR.nd hT.ks];have c:sm A (λk=>(val lt k).n)=sm A (λy=>sm (L++[x]) λu=>(w u y).n):=jG λy d=>by rw[hT.vl y d,fI Cc]
  rw[c,Yg];refine jG λu g=>?_;rw[hR.dv u (hL.su u g),fI Cc]
 refine⟨by rw[e,NQ],?_⟩;have h:=KB (L:=L++[x]) (f:=λn=>(bk n).1.n) (b:=135) λn i=>by
  have:=HS hR (hL.su n i);have h0:=this.r0;have h1:=this.r1;have h2:=this.g0;have h3:=this.g1;have h4:=this.b0;have h5:=this.b1;unfold V3.n;exact Vz h0 h1 h2 h3 h4 h5
 have j:(L++[x]).length<=6:=by rw[cU];simp;exact MS hz a
 rw[e];generalize sm (L++[x]) (λn=>(bk n).1.n)=z at*;generalize (L++[x]).length=k at*;have:(2:Nat)^64=18446744073709551616:=by decide
 exact RD j h
theorem Iy{c:V3->Int}(hc:i7 c){M:Nat->Nat}(a:Inv (cw c w0) (cw c w) M A):iq c w0 (M t)=c (val lt t):=by
 have b:=A4 hR hL hT ht hn hz;have e:=a.cut (λi=>i==t);rw[IX hR.nd ht]at e;show tot (dq (cw c w0) (eM (M t))) [0,1,2,3,4,5]=_;rw[show eM (M t)=λi=>(M t).testBit i from rfl,<- e,ou (ve (λi j=>by unfold cw;rw[hR.sy]) _) b,Rw,hT.vl t ht,fI hc]
 ·rfl
 ·intro u d;have:u≠t:=λq=>by subst q;exact hn d
  simp[this]
include ho in
theorem Td{M:Nat->Nat}(m:Inv (cw (bH o) w0) (cw (bH o) w) M A)(C:fo M (λ_=>true) A=63)(d:A.length<=6):
  ∃ P,L.foldl (grow M) [M t]=M t::P/\(∀ p∈M t::P,p<=63)/\(∀ p∈P,iq (bH o) w0 (jh (M t))<=iq (bH o) w0 (jh p))/\iq (bH o) w0 (jh (M t))=bH o (val lt t)/\P.length<=100:=by
 refine aQ λE=>?_;have f:L.Nodup:=(pz.mp hL.nd).1;have g:x∉L:=λq=>(pz.mp hL.nd).2.2 x q x (.head _) rfl;obtain⟨P,F,r,u⟩:=ab8 (M:=M) (x:=x) (t:=t) hR.nd L [] (M t) [] f (λn c=>⟨hL.su n (by simp[c]),by simp,λq=>by subst q;exact hn (by simp[c]),λq=>by subst q;exact g c⟩) (λp a=>by
  rw[jd]at a;subst a;exact(j0 (λi=>i==t) (by simp) (by simpa using (vH hR hL hT ht hn hz).2) (λy G=>.inl (by simpa using G)) ((IX hR.nd ht).symm)))
 have b:∀ p∈M t::P,p<=63:=λp a=>by
  refine l8 (r p a) λD s v z H h=>?_;rw[h,<- C];exact Qg A
 have B:=Iy hR hL hT ht hn hz (xd o) m;refine E (nw P F b (λp a=>?_) ?_ ?_)
 ·rw[Bw _ _ (b _ (.head _)),Bw _ _ (b p (.tail _ a)),B];refine l8 (r p (.tail _ a)) λD s v z H h=>?_;have e:=m.cut s;rw[<- h]at e;have a:=A4 hR hL hT ht hn hz;have k:A.Perm (t::x::L.reverse):=a.trans (((Ks x L).trans ((Kt L).symm.cons x)).cons t);have l:t∉x::L.reverse:=λq=>hn (by
   rcases bP.mp q with q|q
   ·simp[q]
   ·exact fQ.mpr (.inl (CT.mp q)))
  have c:=NY (W:=cw (bH o) w) (λi j=>by unfold cw;rw[hR.sy]) hL.ma k l s (by rw[v,z];decide);rw[e]at c;refine fD (xJ ?_) c;rw[hT.vl t ht,fI (xd o)];exact ly ((Ks x L).trans ((Kt L).symm.cons x)) _
 ·rw[Bw _ _ (b _ (.head _)),B]
 ·have h1:2^L.length<=2^4:=xZ (by decide) (SG hz d);simp only[cK,iJ,xO,I6]at u;exact Vj h1 u
theorem Pu:(val lt t).Ok:=by rw[GR hR hL hT ht hn hz];exact HS hR ht
omit hR hL hT hn hz in
theorem WZ{M:Nat->Nat}(c:x∈A)(a:x≠t)(b:fo M (λ_=>true) A=63)(h1:∀ n∈A,1<=M n):1<=M t/\M t<=62:=by
 have d:=xi c ht a;rw[nj d]at b;simp only[kR,lq,if_true]at b;have:=h1 x c;have:=h1 t ht;exact QI b ‹_› this
end
noncomputable def nM(M:Nat->Nat)(x t:Nat):Nat->Nat:=λi=>if i=x then M x+M t else M i
theorem WC{A:List Nat}{w g:Nat->Nat->V3}{m:Nat->V3×Dc}(hR:j6 A w m){M:Nat->Nat}{c:V3->Int}(hc:i7 c)(n:Inv (cw c g) (cw c w) M A){x t:Nat}(h:x∈A)(o:t∈A)(b:x≠t):Inv (cw c g) (cw c (fY w x t)) (nM M x t) (A.erase t) where
 cut s:=by
  have k:=xi h o b;have d:=k.nodup hR.nd;have l:=gu.mp d;have p:=gu.mp l.2;have a:(A.erase t).Perm (x::(A.erase t).erase x):=lR ((uI b).mpr h);have hs:∀ i j,cw c w i j=cw c w j i:=λi j=>by unfold cw;rw[hR.sy]
  have:=(Inv.merge hs n k p.1 (λq=>l.1 (.tail _ q)) (Ne.symm b)).cut s;have e:cw c (fY w x t)=fV (cw c w) x t:=by funext i j;exact tL hc w x t i j
  have f:∀ i j,cw c (fY w x t) i j=cw c (fY w x t) j i:=by rw[e];exact zX hs x t
  rw[ou (ve f s) a,nj a,e];exact this
theorem YX{A:List Nat}{M:Nat->Nat}(hA:A.Nodup){x t:Nat}(d:x∈A)(g:t∈A)(e:x≠t)(a:fo M (λ_=>true) A=63):fo (nM M x t) (λ_=>true) (A.erase t)=63:=by
 have f:=xi d g e;have b:(A.erase t).Perm (x::(A.erase t).erase x):=lR ((uI e).mpr d);have c:=f.nodup hA;have h:=gu.mp (gu.mp c).2;rw[nj f]at a;rw[nj b];simp only[kR,lq,if_true]at a ⊢;rw[yG (M':=M) (s':=λ_=>true) λy i=>⟨by unfold nM;rw[if_neg (λ(q:y=x)=>by subst q;exact h.1 i)],rfl⟩];unfold nM;rw[if_pos rfl];exact X1 a
structure yO (w0:Nat->Nat->V3) (A:List Nat) (B Sd:List T) (w:Nat->Nat->V3) (bk:Nat->V3×Dc) (M:Nat->Nat):Prop where
 rnd:j6 A w bk
 inv:∀ c,i7 c->Inv (cw c w0) (cw c w) M A
 tot:fo M (λ_=>true) A=63
 pos:∀ n∈A,1<=M n
 bk:∀ n∈A,B[n]?=some (bR (bk n).1 (bk n).2)
 bl:B.length=6
 sd:∀ n∈A,Sd[n]?=some (.int (M n:Int))
 sl:Sd.length=6
structure qg (o:Od) (w0:Nat->Nat->V3) (C Ls:List T) (cV:Int) (A:List Nat) (O:List S):Prop where
 core:∃ B Sd w bk M,yO w0 A B Sd w bk M/\Sl o A B O/\O[23]?=some (.own Sd)
 s15:O[15]?=some (.v (.int cV))
 s16:O[16]?=some (.own C)
 s24:O[24]?=some (.own Ls)
 s31:∃ S,O[31]?=some S/\S.adF=false
 s41:∃ S,O[41]?=some S/\S.adF=false
 s50:O[50]?=some .no
noncomputable def qe:List Nat:=[26,27,28,29,30,31,32,33,34]
structure Gr (o:Od) (A:List Nat) (w:Nat->Nat->V3) (bk:Nat->V3×Dc) (B:List T) (L:List Nat) (x t:Nat) (lt:Dc) (O:List S):Prop where
 ln:∃ lt0,Ln o A w L x lt0
 ti:ql A w L x lt
 mt:t∈A
 nt:t∉L++[x]
 le:A.length=L.length+2
 sl:Sl o A B O
 s26:O[26]?=some (.own (bv (L++[x]++[t])))
 s27:O[27]?=some (.v (.dct (bp tB lt)))
 s28:O[28]?=some (.v (.dct (bp nB lt)))
 s31:∃ S,O[31]?=some S/\S.adF=false
 s32:O[32]?=some (.v (dQ o (t,val lt t)))
theorem Xe{o:Od}(H:o.Ok){A:List Nat}{w:Nat->Nat->V3}{h:Nat->V3×Dc}(hR:j6 A w h){B:List T}{O:List S}{Y:List T}{cV:Int}{e:Nat}(hs:Sl o A B O)(J:∀ n∈A,B[n]?=some (bR (h n).1 (h n).2))(i:B.length=6)
  (j:O[15]?=some (.v (.int cV))) (k:O[25]?=some (.v (.int (e:Int)))) (l:∃ S,O[31]?=some S/\S.adF=false) (K:e<=4) (hA:2<=A.length) (c:A.length<=6) (m:Y.length+20000<=1000000) :
  ∃ σ0 I g L x t lt,gB (aO 52) [26,27,28] false [df [aR (dV 22) (dB .Mod (dB .FloorDiv (dB .FloorDiv (dV 15) (dK (.int 36))) (dB .Pow (dK (.int 6)) (dV 25))) (bL [dV 22] (cD iB)))],j5 ((λO Y=>some (.frd [],Y))),j5 ((λO Y=>some (.frd [],Y)))] O Y=some (.nx,σ0,Y)/\
   fc (aO 52) (.nm 29) (iR (dB .Sub (bL [dV 22] (cD iB)) (dK (.int 1)))) se σ0 Y=some (.nx,I,Y++g)/\bg qe O I/\Gr o A w h B L x t lt I/\dG g/\g.length<=10000:=by
 refine aQ λM=>aV (U9 (Y:=Y) hs.len j hs.s22 k K (Nat.zero_lt_of_lt hA) c) λf p N=>?_;have G:bg qe O (((O.set 26 (.own (bv [f]))).set 27 (.v (.dct []))).set 28 (.v (.dct []))):=(((bg.refl O).set rfl _).set rfl _).set rfl _;have q:(((O.set 26 (.own (bv [f]))).set 27 (.v (.dct []))).set 28 (.v (.dct [])))[26]?=some (.own (bv ([]++[f]))):=aW rfl (aW rfl (bS (l0 hs.len rfl)));have r:(((O.set 26 (.own (bv [f]))).set 27 (.v (.dct []))).set 28 (.v (.dct [])))[27]?=some (.v (.dct (bp tB []))):=aW rfl (bS (l1 hs.len rfl));have s:(((O.set 26 (.own (bv [f]))).set 27 (.v (.dct []))).set 28 (.v (.dct [])))[28]?=some (.v (.dct (bp nB []))):=bS (l2 hs.len rfl);have u:∃ S,(((O.set 26 (.own (bv [f]))).set 27 (.v (.dct []))).set 28 (.v (.dct [])))[31]?=some S/\S.adF=false:=aV l λP a b=>⟨P,aW rfl (aW rfl (aW rfl a)),b⟩;have d:=hs.same G rfl;refine eA (aan (Y:=Y) d.len d.s22 hA c) λQ items R v=>?_;have U:Ln o A w [] f []:=⟨by simp,by simpa using p,Xq,by simp[keys],by simp[keys],λy _=>rfl⟩;exact EM (Gi H hR J (ZU i) c items Q [] f [] _ Y U (by simp;exact aat v) d q r s u (YH c m v)) λI g L x t lt f1 f2 V W X Z f7 f8 f9 z C D E F=>M ⟨_,I,g,L,x,t,lt,N,iC R f1,G.trans f2,⟨V,W,X,Z,f7,d.same f2 rfl,f8,f9,z,C,D⟩,E,US c v F⟩
theorem DS{A:List Nat}{w:Nat->Nat->V3}{a:Nat->V3×Dc}(hR:j6 A w a){n k:Nat}(b:n∈A)(hk:k∈A)(h:k≠n):has (a n).2 k=true:=kZ.mpr ((hR.ks n b k).mpr ⟨hk,h⟩)
theorem yA{A:List Nat}{w:Nat->Nat->V3}{a:Nat->V3×Dc}(hR:j6 A w a){n:Nat}(b:n∈A):(a n).2.length<=A.length:=by
 have:=oC (hR.kn n b) λk hk=>((hR.ks n b k).mp hk).1;unfold keys at this;rwa [dm]at this
theorem My{o:Od}(ho:o.Ok){A:List Nat}{w w0:Nat->Nat->V3}{bk:Nat->V3×Dc}{B Sd C d:List T}{M:Nat->Nat}(hc:yO w0 A B Sd w bk M){L:List Nat}{x t:Nat}{lt:Dc}{O:List S}{Y:List T}(a:Gr o A w bk B L x t lt O)(g:A.length<=6)
  (j:O[23]?=some (.own Sd)) (Q:O[16]?=some (.own C)) (U:O[24]?=some (.own d)) (hC:∀ p,p<=31->C[p]?=some (.int (iq (bH o) w0 p))) (V:C.length<=1000) (W:d.length<=100) (k:Y.length+10<=1000000) :
  ∃ G0:bC->bC,(∀ R:bC,G0 R=aZ (bW (aO 52) (.tp [(.nm 35),(.nm 36)]) (h7 (dV 26) (some (gO (dK (.int 2)))) none)) (aZ (dJ 24 (cJ [aR (dV 32) (dK (.int 0)),aR (dV 32) (dK (.int 1)),aR (dV 27) (dV 36),aR (dV 23) (dV 36)])) (aZ (dJ 4 (cJ [df [aR (dV 27) (dV 36),dV 28],df [kq (aR (dV 6) (dV 36)) (dK (.int 4)),cM (cn [49] (.nm 49) (iK (dV 27)) (λ_ Y=>some (true,Y)) (ie zG Al) (.ownd []))]])) (aZ (dJ 4 (cJ [bL [bL [dV 28] (cf oR 1 ot)] (cD nz),bL [bL [cM (cn [49] (.nm 49) (iL none (h7 (dV 26) none (some (gO (dK (.int 1)))))) (λ_ Y=>some (true,Y)) (cF wo) (.own []))] (cD jo)] (cD nz)])) (aZ (bW (aO 52) (.nm 37) (df [aR (dV 23) (dV 36)])) (aZ (fc (aO 52) (.nm 38) (iL none (h7 (dV 26) none (some (gO (dK (.int 2)))))) tS) (aZ (dJ 4 (cJ [bL [cM (cn [49] (.nm 49) (iL none (dV 37)) (λ_ Y=>some (true,Y)) (cF uU) (.own []))] ml,aR (dV 32) (dK (.int 0))])) R)))))))/\
  ∃ I X,(∀ (R:bC) (Z:Mine.Internal.Fl) (l:List S) (m:List T),R I (Y++X)=some (Z,l,m)->G0 R O Y=some (Z,l,m))/\bg [24,35,36,37,38] O I/\I[24]?=some (.own (d++[jE o (val lt t) (M t)]))/\I[35]?=some (.v (.int (x:Int)))/\I[36]?=some (.v (.int (t:Int)))/\dG X/\X.length<=3:=by
 refine⟨_,λR=>rfl,?_⟩;refine aU a.ln λaj q=>?_;have hR:=hc.rnd;have hx:=vH hR q a.ti a.mt a.nt a.le;have hh:=KN hR q a.ti a.mt a.nt a.le;have h:L.length<=4:=by have:=a.le;exact ac3 g this
 have a0:bv (L++[x]++[t])=bv L++[T.int (x:Int)]++[T.int (t:Int)]:=by rw[nb,nb];rfl
 have F:bv (L++[x]++[t])=bv (L++[x])++[T.int (t:Int)]:=by rw[nb];rfl
 have r:=a.s26;rw[a0]at r;have i:=a.s26;rw[F]at i;have e:=a.sl.len;have a1:=SY (Y:=Y) e r (by rw[iw];exact WE h);have z:bg [24,35,36,37,38] O ((O.set 35 (.v (.int (x:Int)))).set 36 (.v (.int (t:Int)))):=((bg.refl O).set rfl _).set rfl _;have a8:((O.set 35 (.v (.int (x:Int)))).set 36 (.v (.int (t:Int))))[35]?=some (.v (.int (x:Int))):=aW rfl (bS (l0 e rfl));have G:((O.set 35 (.v (.int (x:Int)))).set 36 (.v (.int (t:Int))))[36]?=some (.v (.int (t:Int))):=bS (l1 e rfl);have a9:((O.set 35 (.v (.int (x:Int)))).set 36 (.v (.int (t:Int))))[24]?=some (.own d):=aW rfl (aW rfl U);generalize (O.set 35 (.v (.int (x:Int)))).set 36 (.v (.int (t:Int)))=f at*;have a2:=Zc (Y:=Y) (z.len e) (z.get j rfl) a9 (z.get a.s27 rfl) (z.get a.s32 rfl) G hh (hc.sd t a.mt) (by rw[hc.sl];decide) (DD W);have b:bg [24,35,36,37,38] O (f.set 24 (.own (d++[jE o (val lt t) (M t)]))):=z.set rfl _;have aa:(f.set 24 (.own (d++[jE o (val lt t) (M t)])))[24]?=some (.own (d++[jE o (val lt t) (M t)])):=bS (l0 (z.len e) rfl);have ab:(f.set 24 (.own (d++[jE o (val lt t) (M t)])))[35]?=some (.v (.int (x:Int))):=aW rfl a8;have s:(f.set 24 (.own (d++[jE o (val lt t) (M t)])))[36]?=some (.v (.int (t:Int))):=aW rfl G;generalize f.set 24 (.own (d++[jE o (val lt t) (M t)]))=c at*;have H:B.length<=1000:=by rw[hc.bl];decide
 have ad:lt.length<=6:=by have:=oC a.ti.kn a.ti.ks;unfold keys at this;rw[dm]at this;exact sE g this
 refine aQ λu=>aV (KR (Y:=Y) (b.len e) (b.get a.sl.s4 rfl) (b.get a.sl.s6 rfl) (b.get a.s27 rfl) (b.get a.s28 rfl) s (b.get a.sl.s49 rfl) (hc.bk t a.mt) H hh (GR hR q a.ti a.mt a.nt a.le) a.ti.kn (nO ad) (GO k)) λv a3 k1=>bn (aby hR q a.ti a.le g) λu1 u2=>aV (QF (Y:=Y++[v]) (b.len e) (b.get a.sl.s4 rfl) (b.get a.sl.s6 rfl) (b.get i rfl) (b.get a.s28 rfl) (b.get a.sl.s49 rfl) (λn hn=>hc.bk n (q.su n hn)) H (by rw[cU];simp;exact aaa h) u1 u2 (by rw[cU];simp;exact FO k)) λD a4 k2=>u ?_;have a5:=T5 (Y:=Y++[v]++[D]) (b.len e) (b.get j rfl) s (hc.sd t a.mt) (by rw[hc.sl];decide);have J:bg [24,35,36,37,38] O (c.set 37 (.v (.lst (bv [M t])))):=b.set rfl _;have ae:(c.set 37 (.v (.lst (bv [M t]))))[24]?=some (.own (d++[jE o (val lt t) (M t)])):=aW rfl aa;have af:(c.set 37 (.v (.lst (bv [M t]))))[35]?=some (.v (.int (x:Int))):=aW rfl ab;have ag:(c.set 37 (.v (.lst (bv [M t]))))[36]?=some (.v (.int (t:Int))):=aW rfl s;have ah:(c.set 37 (.v (.lst (bv [M t]))))[37]?=some (.v (.lst (bv [M t]))):=bS (l0 (b.len e) rfl);generalize c.set 37 (.v (.lst (bv [M t])))=K at*;have ai:2^L.length<=2^4:=xZ (by decide) h;refine aQ λu=>eo (Yd (Y:=Y++[v]++[D]) L [M t] K (J.len e) (J.get j rfl) (J.get a.sl.s49 rfl) (by rw[hc.sl];decide) (λn hn=>hc.sd n (q.su n (by simp[hn]))) ah (by simp;exact Pg ai)) λy b1 N b3=>u ?_;have a6:fc (aO 52) (.nm 38) (iL none (h7 (dV 26) none (some (gO (dK (.int 2)))))) tS K (Y++[v]++[D])=some (.nx,y,Y++[v]++[D]):=
  iC (ia (x:=.fr (bv L)) (tn (aM (J.get r rfl) rfl) tF (sg (pL be rfl) rfl) rfl (by simp[iw];exact aaf h) (Qn _ _ _)) rfl rfl) b1
 have E:bg [24,35,36,37,38] O y:=J.trans (N.mono (by decide));refine aQ λu=>AN (Td ho hR q a.ti a.mt a.nt a.le (hc.inv _ (xd o)) hc.tot g) λP g1 g2 g3 g4 g5=>u ?_;rw[g1]at b3;refine aQ λu=>aV (XV (Y:=Y++[v]++[D]) (E.len e) (E.get a.sl.s4 rfl) (E.get Q rfl) (E.get a.s32 rfl) b3 (E.get a.sl.s49 rfl) hC V g2 (DD g5) g3 g4 (by simp;exact KY k)) λn3 a7 k3=>u ⟨y,[v]++[D]++[n3],λR Z l m hr=>?_,E,N.get ae rfl,N.get af rfl,N.get ag rfl,(((dG.one k1).app (dG.one k2)).app (dG.one k3)),by simp⟩;rw[<- eO,<- eO]at hr;exact bz a1 (bz a2 (bz a3 (bz a4 (bz a5 (bz a6 (bz a7 hr))))))
noncomputable def pF:List Nat:=[6,22,23,24,26,27,28,29,30,31,32,33,34,35,36,37,38,39,40,41,42]
noncomputable def zH(R:bC):bC:=(aZ (bW (aO 52) (.nm 39) (iS (bL [cM (cn [49] (.nm 49) (iT (aR (aR (aR (dV 6) (dV 35)) (dK (.int 4))) (dV 36))) (λ_ Y=>some (true,Y)) (cF sJ) (.own []))] (cD sO)) (cJ [(λO Y=>some (.frd [],Y))]))) (aZ (bW (aO 52) (.nm 40) (bL [bL [aR (dV 6) (dV 35),aR (dV 6) (dV 36)] (cf jf 2 jI),dV 39] (cf jf 2 jI))) (aZ (jC 6 (dV 35) (iS (kq (dV 40) (dK (.int 4))) (cJ [cM (cn [49] (.nm 49) (iK (aR (dV 40) (dK (.int 4)))) pP (ie sK tP) (.ownd []))]))) (aZ (na 23 (dV 35) (aR (dV 23) (dV 36))) (aZ (sL 22 (dV 36)) R)))))
theorem Pk{o:Od}{A:List Nat}{w w0:Nat->Nat->V3}{c:Nat->V3×Dc}{B f:List T}{M:Nat->Nat}(hc:yO w0 A B f w c M){L:List Nat}{x t:Nat}{O:List S}{Y:List T}(hs:Sl o A B O)(i:A.length<=6)(r:x∈A)(v:t∈A)(hn:x≠t)(K:L.length<=6)
  (N:O[23]?=some (.own f)) (P:O[26]?=some (.own (bv L++[T.int (x:Int)]++[T.int (t:Int)]))) (j:O[35]?=some (.v (.int (x:Int)))) (l:O[36]?=some (.v (.int (t:Int)))) (Q:∃ S,O[41]?=some S/\S.adF=false) (R:O[50]?=some .no) (V:Y.length+10<=1000000) :
  ∃ U C D,zH (aZ (fc (aO 52) (.nm 38) (iL (some 22) (dV 22)) xm) cs) O Y=some (.nx,U,Y++C)/\bg [6,22,23,38,39,40,41,42] O U/\U[6]?=some (.own D)/\U[22]?=some (.own (bv (A.erase t)))/\U[23]?=some (.own (f.set x (.int ((M x+M t:Nat):Int))))/\
   (∃ S,U[41]?=some S/\S.adF=false)/\D.length=6/\(∀ n∈A.erase t,D[n]?=some (bR (ds w c x t n).1 (ds w c x t n).2))/\dG C/\C.length<=6:=by
 have hR:=hc.rnd;have s:B.length<=1000:=by rw[hc.bl];decide
 have W:has (c x).2 t=true:=DS hR r v (Ne.symm hn);have p:=hs.len;have X:=yA hR r;have Z:=yA hR v;have a1:=ac4 (Y:=Y) p hs.s6 j l hs.s49 (hc.bk x r) s W;have E:bg [6,22,23,38,39,40,41,42] O (O.set 39 (.v (bR (jm (val (c x).2 t)) []))):=(bg.refl O).set rfl _;have a0:(O.set 39 (.v (bR (jm (val (c x).2 t)) [])))[39]?=some (.v (bR (jm (val (c x).2 t)) [])):=bS (l0 p rfl);have p6:(O.set 39 (.v (bR (jm (val (c x).2 t)) [])))[6]?=some (.own B):=aW rfl hs.s6;have a6:(O.set 39 (.v (bR (jm (val (c x).2 t)) [])))[22]?=some (.own (bv A)):=aW rfl hs.s22;have a7:(O.set 39 (.v (bR (jm (val (c x).2 t)) [])))[23]?=some (.own f):=aW rfl N;have a8:∃ S,(O.set 39 (.v (bR (jm (val (c x).2 t)) [])))[41]?=some S/\S.adF=false:=aV Q λu a b=>(aS u (aW rfl a) b);generalize O.set 39 (.v (bR (jm (val (c x).2 t)) []))=e at*;have a2:=WU (Y:=Y) (E.len p) p6 (E.get j rfl) (E.get l rfl) a0 (hc.bk x r) (hc.bk t v) s (hR.kn x r) (UE i X Z);have eU:bR (cq (jm (val (c x).2 t)) (cq (c t).1 (c x).1)) (ac (c x).2 (c t).2)=bR (ds w c x t x).1 (ac (c x).2 (c t).2):=by unfold ds;rw[if_pos rfl]
 rw[eU]at a2;have z:bg [6,22,23,38,39,40,41,42] O (e.set 40 (.v (bR (ds w c x t x).1 (ac (c x).2 (c t).2)))):=E.set rfl _;have a9:(e.set 40 (.v (bR (ds w c x t x).1 (ac (c x).2 (c t).2))))[40]?=some (.v (bR (ds w c x t x).1 (ac (c x).2 (c t).2))):=bS (l0 (E.len p) rfl);have q6:(e.set 40 (.v (bR (ds w c x t x).1 (ac (c x).2 (c t).2))))[6]?=some (.own B):=aW rfl p6;have aa:(e.set 40 (.v (bR (ds w c x t x).1 (ac (c x).2 (c t).2))))[22]?=some (.own (bv A)):=aW rfl a6;have ab:(e.set 40 (.v (bR (ds w c x t x).1 (ac (c x).2 (c t).2))))[23]?=some (.own f):=aW rfl a7;have ad:∃ S,(e.set 40 (.v (bR (ds w c x t x).1 (ac (c x).2 (c t).2))))[41]?=some S/\S.adF=false:=aV a8 λu a b=>(aS u (aW rfl a) b);generalize e.set 40 (.v (bR (ds w c x t x).1 (ac (c x).2 (c t).2)))=g at*;have F:x<B.length:=(je.mp (hc.bk x r)).1;have G:=p8 (c t).2 (hR.kn x r);have ae:(ac (c x).2 (c t).2).length<=6:=by
  have:=oC G (A:=A) λk hk=>by
   rcases(qB _).mp hk with q|q
   ·exact((hR.ks x r k).mp q).1
   ·exact((hR.ks t v k).mp q).1
  unfold keys at this;rw[dm]at this;exact sE i this
 have a3:=SO (Y:=Y) (z.len p) q6 (z.get P rfl) (z.get j rfl) a9 (z.get hs.s49 rfl) F s (by rw[iw];exact nO K) G (nO ae);have eN:(ac (c x).2 (c t).2).filter (λa=>!([x,t].contains a.1))=(ds w c x t x).2:=by unfold ds;rw[if_pos rfl]
 rw[eN]at a3;have H:bg [6,22,23,38,39,40,41,42] O (g.set 6 (.own (B.set x (bR (ds w c x t x).1 (ds w c x t x).2)))):=z.set rfl _;have r6:(g.set 6 (.own (B.set x (bR (ds w c x t x).1 (ds w c x t x).2))))[6]?=some (.own (B.set x (bR (ds w c x t x).1 (ds w c x t x).2))):=bS (l0 (z.len p) rfl);have af:(g.set 6 (.own (B.set x (bR (ds w c x t x).1 (ds w c x t x).2))))[22]?=some (.own (bv A)):=aW rfl aa;have ag:(g.set 6 (.own (B.set x (bR (ds w c x t x).1 (ds w c x t x).2))))[23]?=some (.own f):=aW rfl ab;have ah:∃ S,(g.set 6 (.own (B.set x (bR (ds w c x t x).1 (ds w c x t x).2))))[41]?=some S/\S.adF=false:=aV ad λu a b=>(aS u (aW rfl a) b);generalize g.set 6 (.own (B.set x (bR (ds w c x t x).1 (ds w c x t x).2)))=h at*;have a4:=Tu (Y:=Y) (H.len p) ag (H.get j rfl) (H.get l rfl) (hc.sd x r) (hc.sd t v) (by rw[hc.sl];decide);have s4:bg [6,22,23,38,39,40,41,42] O (h.set 23 (.own (f.set x (.int ((M x+M t:Nat):Int))))):=H.set rfl _;have ai:(h.set 23 (.own (f.set x (.int ((M x+M t:Nat):Int)))))[23]?=some (.own (f.set x (.int ((M x+M t:Nat):Int)))):=bS (l0 (H.len p) rfl);have u6:(h.set 23 (.own (f.set x (.int ((M x+M t:Nat):Int)))))[6]?=some (.own (B.set x (bR (ds w c x t x).1 (ds w c x t x).2))):=aW rfl r6;have aj:(h.set 23 (.own (f.set x (.int ((M x+M t:Nat):Int)))))[22]?=some (.own (bv A)):=aW rfl af;have ak:∃ S,(h.set 23 (.own (f.set x (.int ((M x+M t:Nat):Int)))))[41]?=some S/\S.adF=false:=aV ah λu a b=>(aS u (aW rfl a) b);generalize h.set 23 (.own (f.set x (.int ((M x+M t:Nat):Int))))=d at*;have a5:sL 22 (dV 36) d Y=some (.nx,d.set 22 (.own (bv (A.erase t))),Y):=OZ (aM (s4.get l rfl) rfl) rfl aj v (GX i);have y:bg [6,22,23,38,39,40,41,42] O (d.set 22 (.own (bv (A.erase t)))):=s4.set rfl _;have I:(d.set 22 (.own (bv (A.erase t))))[22]?=some (.own (bv (A.erase t))):=bS (l0 (s4.len p) rfl);have al:(d.set 22 (.own (bv (A.erase t))))[23]?=some (.own (f.set x (.int ((M x+M t:Nat):Int)))):=aW rfl ai;have v6:(d.set 22 (.own (bv (A.erase t))))[6]?=some (.own (B.set x (bR (ds w c x t x).1 (ds w c x t x).2))):=aW rfl u6;have an:∃ S,(d.set 22 (.own (bv (A.erase t))))[41]?=some S/\S.adF=false:=aV ak λu a b=>(aS u (aW rfl a) b);generalize d.set 22 (.own (bv (A.erase t)))=ao at*;have mA:∀ k,k∈A.erase t↔k≠t/\k∈A:=λk=>hR.nd.mem_erase_iff;have J:(A.erase t).length<=6:=bf (List.length_erase_le ..) i;obtain⟨U,C,D,b1,b2,b3,b4,b5,b6,b7,b8,b9⟩:=TM (bk:=c) (x:=x) (t:=t) (A.erase t) ao Y _ (hR.nd.erase t) (y.len p) (y.get hs.s4 rfl) v6 (y.get j rfl) (y.get l rfl) an (y.get hs.s49 rfl) (y.get R rfl) (by rw[fH];exact s) (Nk V J)
  λn hm aq=>by
   have m:=(mA n).mp hm;rw[ed (Ne.symm aq)];exact⟨hc.bk n m.2,hR.kn n m.2,DS hR m.2 v (Ne.symm m.1),by have:=yA hR m.2;exact Qc i this⟩
 refine(dF U C D ⟨?_,y.trans (b2.mono (by decide)),b3,b2.get I rfl,b2.get al rfl,b5,(by rw[b4,fH,hc.bl]),(λn hm=>?_),b8,sE J b9⟩)
 ·unfold zH;exact bz a1 (bz a2 (bz a3 (bz a4 (bz a5 (bz (iC (ia (aM I rfl) rfl rfl) b1) dT)))))
 ·by_cases q:n=x
  ·subst q;rw[b7 n (.inr rfl),fT F]
  ·rw[b6 n hm q];have:ds w c x t n=((c n).1,kp x t (c n).2):=by unfold ds;rw[if_neg q]
   rw[this]
def me(o:Od)(a:Nat->Nat->V3)(v:V3)(m:Nat):Prop:=v.Ok/\1<=m/\m<=62/\∀ c,i7 c->c v=iq c a m
theorem Y6{o:Od}(ho:o.Ok){G:Nat->Nat->V3}{C H:List T}{cV:Int}{A:List Nat}{O:List S}{Y:List T}{turn:Nat}(h:qg o G C H cV A O)(J:O[25]?=some (.v (.int (turn:Int))))(K:turn<=4)(hA:2<=A.length)(i:A.length<=6)
  (hC:∀ p,p<=31->C[p]?=some (.int (iq (bH o) G p))) (N:C.length<=1000) (P:H.length<=100) (j:Y.length+20000<=1000000) :
  ∃ U Q t v m,t∈A/\vX O Y=some (.nx,U,Y++Q)/\bg pF O U/\qg o G C (H++[jE o v m]) cV (A.erase t) U/\dG Q/\Q.length<=10009/\me o G v m:=by
 refine aQ λnG=>WH h.core λB Sd w bk M hc hs u=>?_;have hR:=hc.rnd;refine Y7 (Xe ho hR (Y:=Y) hs hc.bk hc.bl h.s15 J h.s31 K hA i j) λa3 I l L x t lt a1 a2 r d d1 d2=>YG (My ho hc d (Y:=Y++l) i (r.get u rfl) (r.get h.s16 rfl) (r.get h.s24 rfl) hC N P (by rw[cU];exact Yn j d2)) λG0 hG y z b1 s b2 b3 b4 d3 d4=>aU d.ln λa4 R=>?_;have f:=vH hR R d.ti d.mt d.nt d.le;have V:bv (L++[x]++[t])=bv L++[T.int (x:Int)]++[T.int (t:Int)]:=by rw[nb,nb];rfl
 have D:=d.s26;rw[V]at D;have W:bg pF O y:=(r.mono (by decide)).trans (s.mono (by decide));have X:∃ S,y[41]?=some S/\S.adF=false:=aV h.s41 λZ a b=>(aS Z (s.get (r.get a rfl) rfl) b);refine PV (Pk hc (L:=L) (x:=x) (t:=t) (Y:=Y++l++z) (d.sl.same s rfl) i f.1 d.mt f.2 (by have:=d.le;exact PX i this) (s.get (r.get u rfl) rfl) (s.get D rfl) b3 b4 X (s.get (r.get h.s50 rfl) rfl) (by simp only[cU];exact Tr j d2 d4)) λE a0 B' c1 s3 c2 c3 c4 c5 c6 c7 d5 d6=>?_;have e:bg pF O E:=W.trans (s3.mono (by decide));have mA:∀ k,k∈A.erase t↔k≠t/\k∈A:=λk=>hR.nd.mem_erase_iff;have F:=WZ d.mt f.1 f.2 hc.tot hc.pos;refine nG (qc E (l++z++a0) t (val lt t) (M t) ⟨d.mt,?_,e,?_,(d1.app d3).app d5,(by simp only[cU];exact OX d2 d4 d6),Pu hR R d.ti d.mt d.nt d.le,F.1,F.2,(λc g=>(Iy hR R d.ti d.mt d.nt d.le g (hc.inv c g)).symm)⟩)
 ·have hb:=b1 (zH (aZ (fc (aO 52) (.nm 38) (iL (some 22) (dV 22)) xm) cs)) _ _ _ c1;rw[hG]at hb;rw[<- eO,<- eO];unfold vX;exact bz a1 (bz a2 hb)
 ·refine⟨(qc B' (Sd.set x (.int ((M x+M t:Nat):Int))) (fY w x t) (ds w bk x t) (nM M x t) ⟨⟨ZA hR f.1 d.mt f.2,λc g=>WC hR g (hc.inv c g) f.1 d.mt f.2,YX hR.nd f.1 d.mt f.2 hc.tot,λn hn=>?_,c7,c6,λn hn=>?_,by rw[fH,hc.sl]⟩,?_,c4⟩),e.get h.s15 rfl,e.get h.s16 rfl,s3.get b2 rfl,?_,c5,e.get h.s50 rfl⟩
  ·unfold nM;have:=hc.pos n ((mA n).mp hn).2;have:=hc.pos x f.1;split<;>lia
  ·unfold nM;by_cases q:n=x
   ·subst q;rw[if_pos rfl,fT (je.mp (hc.sd n f.1)).1]
   ·rw[if_neg q,ed (Ne.symm q)];exact hc.sd n ((mA n).mp hn).2
  ·exact⟨e.len hs.len,e.get hs.s4 rfl,c2,e.get hs.s17 rfl,e.get hs.s21 rfl,c3,e.get hs.s49 rfl⟩
  ·exact aV d.s31 λZ p q=>(aS Z (s3.get (s.get p rfl) rfl) q)
noncomputable def lh(o:Od)(a:List (V3×Nat)):List T:=a.map λr=>jE o r.1 r.2
theorem RO{o:Od}(Q:o.Ok){q:Nat->Nat->V3}{C:List T}{cV:Int}(hC:∀ p,p<=31->C[p]?=some (.int (iq (bH o) q p)))(x:C.length<=1000):
  ∀ (k c:Nat) (A:List Nat) (i:List (V3×Nat)) (O:List S) (Y:List T),k+c=5->A.length=k+1->i.length=c->O.length=52->qg o q C (lh o i) cV A O->Y.length+20000+10009*k<=1000000->(∀ r∈i,me o q r.1 r.2)->
  ∃ U z d,em (bU (aO 52) (.nm 25)) vX ((Ct c k).map λ(j:Nat)=>T.int (j:Int)) O Y=some (.nx,U,Y++z)/\bg (25::pF) O U/\U[24]?=some (.own (lh o d))/\d.length=5/\(∀ r∈d,me o q r.1 r.2)/\dG z/\z.length<=10009*k:=by
 intro D;induction D with
 |zero=>
  intro c A i O Y hk hA f s h l E;exact(dF O [] i ⟨(by rw[gW];rfl),.refl O,h.s24,K2 hk f,E,.nil,lE _⟩)
 |succ k F=>
  intro c A i O Y hk hA f s h l E;refine aQ λR=>?_;have V:bg (25::pF) O (O.set 25 (.v (.int (c:Int)))):=(bg.refl O).set rfl _;have g:∀ {j:Nat} {y:S},O[j]?=some y->mG 25 j=false->(O.set 25 (.v (.int (c:Int))))[j]?=some y:=λa b=>aW b a;have W:qg o q C (lh o i) cV A (O.set 25 (.v (.int (c:Int)))):=by
   obtain⟨⟨B,X,w,Z,M,c1,n,c3⟩,b1,b2,b3,⟨S0,b4,G⟩,⟨S1,b5,H⟩,b6⟩:=h;refine⟨(qc B X w Z M ⟨c1,⟨by rw[fH];exact s,?_,?_,?_,?_,?_,?_⟩,?_⟩),?_,?_,?_,(aS S0 ?_ G),(aS S1 ?_ H),?_⟩
   ·exact g n.s4 rfl
   ·exact g n.s6 rfl
   ·exact g n.s17 rfl
   ·exact g n.s21 rfl
   ·exact g n.s22 rfl
   ·exact g n.s49 rfl
   ·exact g c3 rfl
   ·exact g b1 rfl
   ·exact g b2 rfl
   ·exact g b3 rfl
   ·exact g b4 rfl
   ·exact g b5 rfl
   ·exact g b6 rfl
  refine Yo (Y6 Q W (turn:=c) (Y:=Y) (bS (l0 s rfl)) (ace hk) (TH hA) (Rh hk hA) hC x (by unfold lh;rw[dm];exact Yi hk f) (Ru l)) λI u t v m r1 r2 L N r5 P r7=>?_;have e:lh o i++[jE o v m]=lh o (i++[(v,m)]):=by unfold lh;rw[mO];rfl
  rw[e]at N;obtain⟨J,K,d,q1,q2,q3,q4,q5,q6,q7⟩:=F (c+1) (A.erase t) (i++[(v,m)]) I (Y++u) (WG hk) (by rw[List.length_erase_of_mem r1];exact ZG hA) (by rw[cU];simp;exact Vu f) ((L.len (by rw[fH];exact s))) N (by rw[cU];exact KP l P)
   λr f=>by
    rcases fQ.mp f with f|f
    ·exact E r f
    ·rw[jd]at f;rw[f];exact r7
  refine R (dF J (u++K) d ⟨?_,(V.trans (L.mono (by decide))).trans q2,q3,q4,q5,r5.app q6,(by rw[cU];exact V0 P q7)⟩);rw[Cu,cB,<- eO];exact gj (cC rfl (l0 s rfl)) r2 q1
theorem ZV{o:Od}(f:o.Ok){c:Nat->Nat->V3}{C:List T}{cV:Int}(hC:∀ p,p<=31->C[p]?=some (.int (iq (bH o) c p)))(d:C.length<=1000){A:List Nat}{O:List S}{Y:List T}(hA:A.length=6)(g:O.length=52)(h:qg o c C [] cV A O)(e:Y.length+100000<=1000000):
  ∃ U a b,Az O Y=some (.nx,U,Y++a)/\bg (25::pF) O U/\U[24]?=some (.own (lh o b))/\b.length=5/\(∀ r∈b,me o c r.1 r.2)/\dG a/\a.length<=60000:=by
 refine aQ λi=>GB (RO f hC d 5 0 A [] O Y rfl hA rfl g h (X9 e) (λ_ h=>nomatch h)) λU a b j k l m n q s=>i (dF U a b ⟨?_,k,l,m,n,q,SR s⟩);unfold Az;exact iC (jA be rfl (by decide)) j
noncomputable def oS:Nat->List T->List T
 |_,[]=>[]
 |p,t::l=>T.tup [T.int (p:Int),t]::oS (p+1) l
theorem aah(l:List T):∀ p,(Ct p l.length).zipWith (λ(j:Nat) t=>T.tup [T.int (j:Int),t]) l=oS p l:=by
 induction l with
 |nil=>intro p;rfl
 |cons t l a=>
  intro p;rw[cK,Cu,List.zipWith_cons_cons,a];rfl
theorem yC(l:List T):iX l=oS 0 l:=by unfold iX;rw[acC,aah]
def Lt(c:Nat):Prop:=c=114\/c=103\/c=98\/c=13191
theorem Wn{k:Nat}(h:k<12):(X.v (T.lst (eS.map T.int))).item (T.int (k:Int))=some (T.int (eS.getD k 0))/\65<=eS.getD k 0:=by
 have:((aO 12).all λk=>decide ((eS)[k]?=some (eS.getD k 0))&&decide (65<=eS.getD k 0))=true:=by decide+kernel
 have:=c8.mp this k (eu.mpr h);simp only[fg,decide_eq_true_eq]at this;refine⟨vQ ?_ (by decide),this.2⟩;rw[fR,this.1];rfl
theorem ON{i k:Nat}(hi:i<3)(hk:k<3):∃ r,(X.v (T.lst (eF.map λr=>T.lst (r.map T.int)))).item (T.int (i:Int))=some r/\(X.v r).item (T.int (k:Int))=some (T.int ((eF.getD i []).getD k 0))/\0<=(eF.getD i []).getD k 0:=by
 refine aQ λa=>?_;have:((aO 3).all λi=>(aO 3).all λk=>decide (eF[i]?=some (eF.getD i []))&&decide ((eF.getD i [])[k]?=some ((eF.getD i []).getD k 0))&&decide (0<=(eF.getD i []).getD k 0)&&decide ((eF.getD i []).length<=1000000))=true:=by decide+kernel
 have:=c8.mp (c8.mp this i (eu.mpr hi)) k (eu.mpr hk);simp only[fg,decide_eq_true_eq]at this;refine bn this λb h4=>?_;obtain⟨⟨h1,h2⟩,h3⟩:=b;refine a (cI (T.lst ((eF.getD i []).map T.int)) (vQ ?_ (by decide)) (vQ ?_ (by rw[dm];exact h4)) h3)
 ·rw[fR,h1];rfl
 ·rw[fR,h2];rfl
theorem Vk(c:Nat):qG (.v (cy c))=some (.v (.int (c:Int))):=rfl
theorem OT{w:S}{st p c:Nat}{acc:List T}{x6 x7 x8:S}{Y:List T}(hc:Lt c)(A:acc.length<=1000):
  ∃ C D,vy [w,.v (.int (st:Int)),.v (.lst (fJ.map T.int)),.v (.lst (eS.map T.int)),.v (.lst (eF.map λr=>T.lst (r.map T.int))),.own acc,.v (.int (p:Int)),.v (cy c),x8] Y
   = some (.nx,[w,.v (.int (st:Int)),.v (.lst (fJ.map T.int)),.v (.lst (eS.map T.int)),.v (.lst (eF.map λr=>T.lst (r.map T.int))),.own (acc++[cy (gw st p),cy (eK (kd st p) c)]),.v (.int (p:Int)),C,D],Y):=by
 have E:=MC st p;have j:=(Ah st p).2;have hk:=RM st p;have f:=Aq st p;have B:=(BJ (k:=kd st p) (c:=c) f (by unfold Lt at hc;exact sV hc)).2.2;have m:dp .Mult (.int 10) (.int (p:Int))=some (.int (10*(p:Int))):=pD (.inl (by decide));have F:dp .Mult (.int 4) (.int (p:Int))=some (.int (4*(p:Int))):=pD (.inl (by decide));have f2:dp .FloorDiv (.int (st:Int)) (.int 2)=some (.int (n8 (st:Int) 2)):=m7 (by decide) (by decide);have n:dp .FloorDiv (.int (st:Int)) (.int 54)=some (.int (n8 (st:Int) 54)):=m7 (by decide) (by decide);have o:dp .Mod (.int (n8 (st:Int) 2+10*(p:Int))) (.int 27)=some (.int (yy (n8 (st:Int) 2+10*(p:Int)) 27)):=l9 (by decide);have q:dp .Mod (.int (n8 (st:Int) 54+4*(p:Int))) (.int 15)=some (.int ((kd st p:Nat):Int)):=by rw[l9 (by decide),hk]
 have a1:dJ 5 (bL [aR (dV 2) (dB .Mod (dB .Add (dB .FloorDiv (dV 1) (dK (.int 2))) (dB .Mult (dK (.int 10)) (dV 6))) (dK (.int 27)))] (cD mP)) [w,.v (.int (st:Int)),.v (.lst (fJ.map T.int)),.v (.lst (eS.map T.int)),.v (.lst (eF.map λr=>T.lst (r.map T.int))),.own acc,.v (.int (p:Int)),.v (cy c),x8] Y
   = some (.nx,[w,.v (.int (st:Int)),.v (.lst (fJ.map T.int)),.v (.lst (eS.map T.int)),.v (.lst (eF.map λr=>T.lst (r.map T.int))),.own (acc++[cy (gw st p)]),.v (.int (p:Int)),.v (cy c),x8],Y):=
  qH (db (bN (bM (aM rfl rfl) (bV (bV (bV (aM rfl rfl) rfl be rfl f2) rfl (bV be rfl (aM rfl rfl) rfl m) rfl rfl) rfl be rfl o) rfl E) cv) (gk (A7 j))) rfl rfl (dU A)
 have a2:bW (aO 9) (.nm 8) (dB .Mod (dB .Add (dB .FloorDiv (dV 1) (dK (.int 54))) (dB .Mult (dK (.int 4)) (dV 6))) (dK (.int 15))) [w,.v (.int (st:Int)),.v (.lst (fJ.map T.int)),.v (.lst (eS.map T.int)),.v (.lst (eF.map λr=>T.lst (r.map T.int))),.own (acc++[cy (gw st p)]),.v (.int (p:Int)),.v (cy c),x8] Y
   = some (.nx,[w,.v (.int (st:Int)),.v (.lst (fJ.map T.int)),.v (.lst (eS.map T.int)),.v (.lst (eF.map λr=>T.lst (r.map T.int))),.own (acc++[cy (gw st p)]),.v (.int (p:Int)),.v (cy c),.v (.int ((kd st p:Nat):Int))],Y):=
  ef (bV (bV (bV (aM rfl rfl) rfl be rfl n) rfl (bV be rfl (aM rfl rfl) rfl F) rfl rfl) rfl be rfl q) rfl (cC rfl (by simp))
 have a3:gx (tA (tC .In (dV 7) (dK (.str (aK "rgb")))) (tC .Lt (dV 8) (dK (.int 12)))) yL uW [w,.v (.int (st:Int)),.v (.lst (fJ.map T.int)),.v (.lst (eS.map T.int)),.v (.lst (eF.map λr=>T.lst (r.map T.int))),.own (acc++[cy (gw st p)]),.v (.int (p:Int)),.v (cy c),.v (.int ((kd st p:Nat):Int))] Y
   = some (.nx,[w,.v (.int (st:Int)),.v (.lst (fJ.map T.int)),.v (.lst (eS.map T.int)),.v (.lst (eF.map λr=>T.lst (r.map T.int))),.own (acc++[cy (gw st p)]),.v (.int (p:Int)),.v (cy (eK (kd st p) c)),.v (.int ((kd st p:Nat):Int))],Y):=by
  by_cases d:c=13191
  ·subst d;have e:eK (kd st p) 13191=13191:=by unfold eK;rw[if_pos rfl]
   rw[e];unfold uW;exact kl (Vi (jl (aM rfl rfl) rfl be rfl EY)) (bz (kl (jl (aM rfl rfl) rfl be rfl EY) dT) dT)
  ·have b:c=114\/c=103\/c=98:=by unfold Lt at hc;exact ME hc d
   by_cases a:kd st p<12
   ·refine bn (Wn a) λs u=>?_;have e:eS.getD (kd st p) 0+(c:Int)-97=((eK (kd st p) c:Nat):Int):=by
     unfold eK;rw[if_neg d,if_pos a];generalize eS.getD (kd st p) 0=z at*;exact WW b u
    have g:mP (.v (.int (eS.getD (kd st p) 0+(c:Int)-97)))=some (.v (cy (eK (kd st p) c))):=by rw[e];exact A7 B
    have h:d9 .Lt (.int ((kd st p:Nat):Int)) (.int 12)=some true:=by show some (decide _)=_;rw[decide_eq_true (UU a)]
    unfold yL;exact l5 (D0 (jl (aM rfl rfl) rfl be rfl (Bi b)) (jl (aM rfl rfl) rfl be rfl h)) (bz (ef (db (bN (bV (bV (bM (aM rfl rfl) (aM rfl rfl) rfl s) rfl (db (bN (aM rfl rfl) cv) (gk (Vk c))) rfl rfl) rfl be rfl rfl) cv) (gk g)) rfl (cC rfl (by simp))) dT)
   ·have h:d9 .Lt (.int ((kd st p:Nat):Int)) (.int 12)=some false:=by show some (decide _)=_;rw[decide_eq_false (ac8 a)]
    refine aQ λG=>eo (ON (i:=if c=114 then 0 else if c=103 then 1 else 2) (k:=kd st p-12) (by split<;>(try split)<;>lia) (XQ f)) λr s u H=>G ?_;have e:(eF.getD (if c=114 then 0 else if c=103 then 1 else 2) []).getD (kd st p-12) 0=((eK (kd st p) c:Nat):Int):=by
     unfold eK;rw[if_neg d,if_neg a];exact((Cm H).symm)
    have g:mP (.v (.int ((eF.getD (if c=114 then 0 else if c=103 then 1 else 2) []).getD (kd st p-12) 0)))=some (.v (cy (eK (kd st p) c))):=by rw[e];exact A7 B
    have v:dp .Sub (.int ((kd st p:Nat):Int)) (.int 12)=some (.int ((kd st p-12:Nat):Int)):=by
     have e:((kd st p:Nat):Int)-12=((kd st p-12:Nat):Int):=Tp a;show some (T.int (((kd st p:Nat):Int)-12))=_;rw[e]
    have y:=Ni b;unfold uW Hi;exact kl (D0 (jl (aM rfl rfl) rfl be rfl (Bi b)) (jl (aM rfl rfl) rfl be rfl h)) (bz (l5 (jl (aM rfl rfl) rfl be rfl (Bi b)) (bz (ef (db (bN (bM (bM (aM rfl rfl) (oM be rfl (bN (aM rfl rfl) cv) (rb y)) rfl s) (bV (aM rfl rfl) rfl be rfl v) rfl u) cv) (gk g)) rfl (cC rfl (by simp))) dT)) dT)
 have I:acc++[cy (gw st p),cy (eK (kd st p) c)]=acc++[cy (gw st p)]++[cy (eK (kd st p) c)]:=by rw[eO];rfl
 have a4:dJ 5 (dV 7) [w,.v (.int (st:Int)),.v (.lst (fJ.map T.int)),.v (.lst (eS.map T.int)),.v (.lst (eF.map λr=>T.lst (r.map T.int))),.own (acc++[cy (gw st p)]),.v (.int (p:Int)),.v (cy (eK (kd st p) c)),.v (.int ((kd st p:Nat):Int))] Y
   = some (.nx,[w,.v (.int (st:Int)),.v (.lst (fJ.map T.int)),.v (.lst (eS.map T.int)),.v (.lst (eF.map λr=>T.lst (r.map T.int))),.own (acc++[cy (gw st p),cy (eK (kd st p) c)]),.v (.int (p:Int)),.v (cy (eK (kd st p) c)),.v (.int ((kd st p:Nat):Int))],Y):=by
  rw[I];exact qH (l:=acc++[cy (gw st p)]) (t:=cy (eK (kd st p) c)) (x:=.v (cy (eK (kd st p) c))) (aM rfl rfl) rfl rfl (by rw[cU];simp;exact xu A)
 refine(dE (.v (cy (eK (kd st p) c))) (.v (.int ((kd st p:Nat):Int))) ?_);unfold vy;exact bz a1 (bz a2 (bz a3 (bz a4 dT)))
theorem Yq{w:S}{st:Nat}{Y:List T}:∀ (d:List Nat) (p:Nat) (a:List T) (e f b:S),(∀ c∈d,Lt c)->a.length+2*d.length<=1000->
  ∃ m g i,em (bU (aO 9) (.tp [(.nm 6),(.nm 7)])) vy (oS p (d.map cy)) [w,.v (.int (st:Int)),.v (.lst (fJ.map T.int)),.v (.lst (eS.map T.int)),.v (.lst (eF.map λr=>T.lst (r.map T.int))),.own a,e,f,b] Y
   = some (.nx,[w,.v (.int (st:Int)),.v (.lst (fJ.map T.int)),.v (.lst (eS.map T.int)),.v (.lst (eF.map λr=>T.lst (r.map T.int))),.own (a++(ku st p d).map cy),m,g,i],Y):=by
 intro j;induction j with
 |nil=>
  intro p a e f b _ _;exact(dF e f b (by simp only[Ql,wx,rS,gW];rfl))
 |cons c d k=>
  intro p a e f b hc l;refine aQ λn=>?_;simp only[cK]at l;obtain⟨g,i,h1⟩:=OT (w:=w) (st:=st) (p:=p) (c:=c) (acc:=a) (x6:=e) (x7:=f) (x8:=b) (Y:=Y) (hc c (.head _)) (xK l);obtain⟨o,q,s,h2⟩:=k (p+1) (a++[cy (gw st p),cy (eK (kd st p) c)]) (.v (.int (p:Int))) g i (λc h=>hc c (.tail _ h)) (by rw[cU];simp;exact Nl l);refine n (dF o q s ?_);rw[eO]at h2;exact gj (I:=[w,.v (.int (st:Int)),.v (.lst (fJ.map T.int)),.v (.lst (eS.map T.int)),.v (.lst (eF.map λr=>T.lst (r.map T.int))),.own a,.v (.int (p:Int)),.v (cy c),b]) rfl h1 h2
noncomputable def sgn(st:Nat)(w:List Nat):List Nat:=if st%2=1 then tw w else w
theorem GG(st:Nat){w:List Nat}(h:w∈kB):(sgn st w).flatMap og=w/\(sgn st w).length<=3/\∀ c∈sgn st w,Lt c:=by
 have h1:=c8.mp W7 w h;have h2:=c8.mp Hr w h;simp only[fg,beq_iff_eq,decide_eq_true_eq]at h1 h2;have key:∀ l:List Nat,(l.all λc=>[114,103,98,13191].contains c)=true->∀ c∈l,Lt c:=λl a c hc=>by
  have:=c8.mp a c hc;simp at this;unfold Lt;exact sV this
 unfold sgn;split
 ·exact⟨h1.1.1,h1.1.2,key _ h1.2⟩
 ·exact⟨h2.1.1,h2.1.2,key _ h2.2⟩
theorem Lu(l:List Nat):mq (cj l)=l.map cy:=by unfold mq cj;rfl
theorem Ye(w:List Nat):mq (Txt.replace (cj w) (aK "gb") ⟨#[(13191:Int).toNat]⟩)=(tw w).map cy:=rfl
theorem Rz(st:Nat){w:List Nat}(h:w∈kB)(Y:List T):cf pT 2 qW [.v (.str (cj w)),.v (.int (st:Int))] Y=some (.v (.lst ((ku st 0 (sgn st w)).map cy)),Y):=by
 refine aQ λa=>bO (GG st h) λg1 g2 g3=>a ?_;have hw:w.length<=3:=by
  have h2:=c8.mp Hr w h;simp only[fg,beq_iff_eq,decide_eq_true_eq]at h2;exact h2.1.2
 refine aQ λa=>eZ (Yq (w:=.v (.str (cj w))) (st:=st) (Y:=Y) (sgn st w) 0 [] .no .no .no g3 (by simp;exact GJ g2)) λe f g b=>a ?_;rw[<- yC]at b;refine' kh (σ0:=[_,_,.no,.no,.no,.no,.no,.no,.no]) rfl rfl rfl ?h1 ?h2
 case h1=>
  unfold qW;refine' bz (I:=[.v (.str (cj w)),.v (.int (st:Int)),.v (.lst (fJ.map T.int)),.no,.no,.no,.no,.no,.no]) (G:=Y) ?a1 (bz (I:=[.v (.str (cj w)),.v (.int (st:Int)),.v (.lst (fJ.map T.int)),.v (.lst (eS.map T.int)),.no,.no,.no,.no,.no]) (G:=Y) ?a2 (bz (I:=[.v (.str (cj w)),.v (.int (st:Int)),.v (.lst (fJ.map T.int)),.v (.lst (eS.map T.int)),.v (.lst (eF.map λr=>T.lst (r.map T.int))),.no,.no,.no,.no]) (G:=Y) ?a3 (bz (I:=[.v (.str (cj w)),.v (.int (st:Int)),.v (.lst (fJ.map T.int)),.v (.lst (eS.map T.int)),.v (.lst (eF.map λr=>T.lst (r.map T.int))),.own [],.no,.no,.no]) (G:=Y) ?a4 (bz (iC (items:=iX ((sgn st w).map cy)) ?a5 b) (ig (kC (aM rfl rfl)))))))
  case a1=>rfl
  case a2=>rfl
  case a3=>rfl
  case a4=>rfl
  case a5=>
   have c:dp .Mod (.int (st:Int)) (.int 2)=some (.int ((st%2:Nat):Int)):=by rw[l9 (by decide)];exact congrArg _ (congrArg _ (oN st 2))
   unfold sgn;by_cases q:st%2=1
   ·rw[if_pos q,<- Ye];refine FW (yH (rk (bV (aM rfl rfl) rfl be rfl c) rfl (show oh _=some true by rw[q];rfl)) ?_);show(if _ then _ else _)=_;rw[if_pos ⟨show(cj w).cps.size<=1000 by unfold cj;rw[eY];exact Ht hw,by decide,by decide,by decide+kernel⟩]
   ·have d:st%2=0:=K4 q;rw[if_neg q,<- Lu];exact FW (yE (rk (bV (aM rfl rfl) rfl be rfl c) rfl (show oh _=some false by rw[d];rfl)) (aM rfl rfl))
 case h2=>rfl
noncomputable def ri(j:Nat):Nat:=if j=0 then 114 else if j=1 then 103 else 98
noncomputable def cT(cell:Nat):List Nat:=(aO (cell%4)).map λk=>ri (cell/4/3^k%3)
theorem R2:∀ w:List Nat,w.length<=3->(∀ c∈w,c=114\/c=103\/c=98)->w∈kB
 |[],_,_=>by decide
 |[a],_,h=>by
  have e:=h a (.head _);rcases e with rfl|rfl|rfl<;>decide
 |[a,b],_,h=>by
  have e:=h a (.head _);have f:=h b (.tail _ (.head _));rcases e with rfl|rfl|rfl<;>rcases f with rfl|rfl|rfl<;>decide
 |[a,b,c],_,h=>by
  have e:=h a (.head _);have f:=h b (.tail _ (.head _));have hc:=h c (.tail _ (.tail _ (.head _)));rcases e with rfl|rfl|rfl<;>rcases f with rfl|rfl|rfl<;>rcases hc with rfl|rfl|rfl<;>decide
 |a::b::c::d::r,h,_=>by simp at h
theorem Bm(cell:Nat):cT cell∈kB:=by
 refine R2 _ ?_ λc hc=>?_
 ·unfold cT;rw[dm,kc];exact Ri
 ·refine aV (eh.mp hc) λk _ a=>?_;subst a;unfold ri;split
  ·exact .inl rfl
  ·split
   ·exact .inr (.inl rfl)
   ·exact .inr (.inr rfl)
theorem Gy(a:List Str)(h:(a.map (·.length)).sum<=1000000):ny (.v (.str (aK ""))) (.fr (a.map T.str))=some (.v (.str (cj (a.flatMap λy=>y.cps.toList)))):=by
 show((strs? (a.map T.str)).bind λa=>if (a.map (·.length)).sum+a.length*(aK "").length<=1000000 then some (X.v (.str (Txt.join (aK "") a)))else none)=_;rw[strs_map,ip,if_pos,join_nil];have:(aK "").length=0:=by decide+kernel
 rw[this];exact Mk h
theorem EQ(a:List Str):(a.map (·.length)).sum=(a.flatMap λy=>y.cps.toList).length:=by
 induction a with
 |nil=>rfl
 |cons y a b=>
  rw[cB,List.sum_cons,b,yx,cU];rfl
theorem wa{w:List Nat}(h:w∈kB):w.length<=3/\w.count 114+w.count 103+w.count 98=w.length:=by
 have:(kB.all λw=>decide (w.length<=3)&&decide (w.count 114+w.count 103+w.count 98=w.length))=true:=by decide+kernel
 have:=c8.mp this w h;simpa using this
noncomputable def vW(w:List Nat):V3:=⟨(w.count 114:Nat),(w.count 103:Nat),(w.count 98:Nat)⟩
noncomputable def vC(cell:Nat):V3:=vW (cT cell)
theorem OS{w:List Nat}(h:w∈kB):∀ c,jH c->0<=c (vW w)/\c (vW w)<=3:=λc hc=>by
 refine bn (wa h) λh1 h2=>?_;rcases hc with rfl|rfl|rfl<;>simp only[vW]<;>lia
theorem XK(k:Nat):((3:Int)^((k:Int)).toNat)=((3^k:Nat):Int):=by rw[mM];simp
theorem Sc{j:Nat}(h:j<3):JU (aK "rgb") (j:Int)=some (ri j):=by
 have:j=0\/j=1\/j=2:=uS h;rcases this with rfl|rfl|rfl<;>kernel_rfl
theorem Nq(st:Nat){a:List Nat}(h:∀ c∈a,Lt c):∀ p,((ku st p a).filter λ(c:Nat)=>!dZ (c:Int)).map m3=a.map λc=>cj (og c):=by
 induction a with
 |nil=>intro p;rfl
 |cons c a b=>
  intro p;have h1:=(Ah st p).1;have h2:=BJ (Aq st p) (c:=c) (by have:=h c (.head _);unfold Lt at this;exact sV this);rw[wx];rw[uJ (by simp[h1]),rW (by simp[h2.1]),cB,cB,b (λc hc=>h c (.tail _ hc)) (p+1),h2.2.1]
theorem aca(st:Nat){a:List Nat}(h:∀ c∈a,Lt c):∀ p,(ku st p a).map (λ(c:Nat)=>dZ (c:Int))=a.flatMap λ_=>[true,false]:=by
 induction a with
 |nil=>intro p;rfl
 |cons c a b=>
  intro p;have h1:=(Ah st p).1;have h2:=BJ (Aq st p) (c:=c) (by have:=h c (.head _);unfold Lt at this;exact sV this);rw[wx];rw[cB,cB,b (λc hc=>h c (.tail _ hc)) (p+1),h1,h2.1];rfl
theorem NE(st:Nat)(a:List Nat):∀ p,(ku st p a).length=2*a.length:=by
 induction a with
 |nil=>intro p;rfl
 |cons c a b=>intro p;rw[wx];simp only[cK];rw[b];exact(Nat.succ_add (2*_) 1)
theorem ZP{d:List Nat}(h:d.length<=3):eqT 6 (.lst ((d.flatMap λ_=>[true,false]).map λb=>T.tup [.bool b,.bool !b])) (.lst ((aO (2*d.length)).map λ(k:Nat)=>T.tup [.bool (decide (k%2=0)),.bool (decide (k%2=1))]))=true:=by
 match d,h with
 |[],_=>kernel_rfl
 |[a],_=>kernel_rfl
 |[a,b],_=>kernel_rfl
 |[a,b,c],_=>kernel_rfl
 |_::_::_::_::_,h=>simp at h
noncomputable def ez(b:Nat×Nat×V3):T:=.tup [.int (b.1:Int),.int (b.2.1:Int),tB b.2.2]
section
variable{O:List S}{Y:List T}(hl:O.length=52)
include hl
theorem W6{cell:Nat}(g:O[9]?=some (.v (.int (cell:Int))))(d:O[49]?=some .no):
  iA "str" (dK (.str (aK ""))) [cM (cn [49] (.nm 49) (iR (dB .Mod (dV 9) (dK (.int 4)))) (λ_ Y=>some (true,Y)) (cF sQ) (.own []))] (gR ny) O Y=some (.v (.str (cj (cT cell))),Y):=by
 have m:dp .Mod (.int (cell:Int)) (.int 4)=some (.int ((cell%4:Nat):Int)):=by rw[l9 (by decide)];exact congrArg _ (congrArg _ (oN cell 4))
 have e:=ga (bind:=bU [49] (.nm 49)) (test:=λ_ Y=>some (true,Y)) (fx:=sQ) (Y:=Y) (λk:Nat=>T.int (k:Int)) (λ_=>true) (λk=>T.str ⟨#[ri (cell/4/3^k%3)]⟩) (bg [49] O) (λk I=>I[49]?=some (.v (.int (k:Int))))
  (aO (cell%4)) [] O (.refl O) (by rw[iJ,kc];exact QQ) (λa _=>ib hl) (λ_ _ _ _ _=>rfl) (λk hk I n o _=>⟨.v (.str ⟨#[ri (cell/4/3^k%3)]⟩),?_,rfl⟩)
 ·rw[g9,eE]at e;have p:(aO (cell%4)).map (λk=>T.str ⟨#[ri (cell/4/3^k%3)]⟩)=((cT cell).map λc=>(⟨#[c]⟩:Str)).map T.str:=by unfold cT;rw[il,il];rfl
  rw[p]at e;have h:((cT cell).map λc=>(⟨#[c]⟩:Str)).flatMap (λy=>y.cps.toList)=cT cell:=by
   generalize cT cell=l;induction l with
   |nil=>rfl
   |cons c l q=>rw[cB,yx,q];rfl
  have i:=Gy ((cT cell).map λc=>(⟨#[c]⟩:Str)) (by rw[EQ,h];have:=(wa (Bm cell)).1;exact HQ this);rw[h]at i;exact oM be rfl (bN (fO (eL (eW d) (jA (bV (aM g rfl) rfl be rfl m) rfl (UI)) e) rfl) cv) (rb i)
 ·have b:k<4:=by have:=eu.mp hk;omega
  have r:dp .FloorDiv (.int (cell:Int)) (.int 4)=some (.int ((cell/4:Nat):Int)):=by rw[m7 (by decide) (by decide)];exact congrArg _ (congrArg _ (qC cell 4))
  have d2:dp .Pow (.int 3) (.int (k:Int))=some (.int ((3^k:Nat):Int)):=by rw[sh (kx) (aak b) (by decide),XK]
  have x:0<3^k:=Nat.pow_pos (by decide);have f:3^k<=3^4:=xZ (by decide) (jN b);have s:dp .FloorDiv (.int ((cell/4:Nat):Int)) (.int ((3^k:Nat):Int))=some (.int ((cell/4/3^k:Nat):Int)):=by
   rw[m7 (by omega) (by have:(2:Nat)^64=18446744073709551616:=rfl;exact Ot f)];exact congrArg _ (congrArg _ (qC _ _))
  have t:dp .Mod (.int ((cell/4/3^k:Nat):Int)) (.int 3)=some (.int ((cell/4/3^k%3:Nat):Int)):=by rw[l9 (by decide)];exact congrArg _ (congrArg _ (oN _ 3))
  have u:=Sc (j:=cell/4/3^k%3) (abq);have w:dB .Mod (dB .FloorDiv (dB .FloorDiv (dV 9) (dK (.int 4))) (dB .Pow (dK (.int 3)) (dV 49))) (dK (.int 3)) I Y=some (.v (.int ((cell/4/3^k%3:Nat):Int)),Y):=
   bV (bV (bV (aM (n.get g rfl) rfl) rfl be rfl r) rfl (bV be rfl (aM o rfl) rfl d2) rfl s) rfl be rfl t
  unfold sQ AJ;rw[show dK (T.str (aK "rgb")) I Y=some (.v (.str (aK "rgb")),Y)from rfl,ip,w,ip];show(if (-1000:Int)<=((cell/4/3^k%3:Nat):Int)/\((cell/4/3^k%3:Nat):Int)<=1000 then(JU (aK "rgb") ((cell/4/3^k%3:Nat):Int)).map λc=>(X.v (.str ⟨#[c]⟩),Y)else none)=_;rw[if_pos (aaH),u];rfl
theorem PG{L:List Nat}{b:S}(d:O[11]?=some (.v (.lst (L.map cy))))(e:O[12]?=some b)(h:b.adF=false)(f:O[49]?=some .no)(i:L.length<=1000):
  jL 12 (jS (aO 52) 12 (cn [49] (.nm 49) (iL none (dV 11)) (λ_ Y=>some (true,Y)) (cF yN) (.own []))) O Y=some (.nx,O.set 12 (.v (.lst (L.map λ(c:Nat)=>T.bool (dZ (c:Int))))),Y):=by
 have g:=ga (bind:=bU [49] (.nm 49)) (test:=λ_ Y=>some (true,Y)) (fx:=yN) (Y:=Y) cy (λ_=>true) (λ(c:Nat)=>T.bool (dZ (c:Int))) (bg [49] O) (λc I=>I[49]?=some (.v (cy c)))
  L [] O (.refl O) (by simp;exact dU i) (λa _=>ib hl) (λ_ _ _ _ _=>rfl) (λc hc I k j _=>⟨.v (.bool (dZ (c:Int))),db (bN (aM j rfl) cv) (Wa c Y),rfl⟩)
 rw[g9,eE]at g;exact tz e h (eL (eW f) (ia (aM d rfl) rfl rfl) g) rfl rfl (l0 hl rfl)
theorem Mv{L w:List Nat}{b:List Str}(d:O[11]?=some (.v (.lst (L.map cy))))(e:O[12]?=some (.v (.lst (L.map λ(c:Nat)=>T.bool (dZ (c:Int))))))(f:O[49]?=some .no)(g:O[50]?=some .no)(m:L.length<=1000)
  (n:((L.filter λ(c:Nat)=>!dZ (c:Int)).map m3)=b) (hw:b.flatMap (λy=>y.cps.toList)=w) (h:w.length<=1000) :
  iA "str" (dK (.str (aK ""))) [cM (cn [49,50] (.tp [(.nm 49),(.nm 50)]) (iZ (dV 11) (dV 12)) sT (cF uN) (.own []))] (gR ny) O Y=some (.v (.str (cj w)),Y):=by
 have i:=ga (bind:=bU [49,50] (.tp [.nm 49,.nm 50])) (test:=sT) (fx:=uN) (Y:=Y) (λc:Nat=>T.tup [cy c,T.bool (dZ (c:Int))]) (λ(c:Nat)=>!dZ (c:Int)) (λc=>T.str (m3 c)) (bg [49,50] O) (λ(c:Nat) I=>I[49]?=some (.v (cy c))/\I[50]?=some (.v (.bool (dZ (c:Int)))))
  L [] O (.refl O) (by simp;exact dU m) (λa _=>GL hl) (λc _ I o j=>VJ (rk (aM j.2 rfl) rfl rfl)) (λc hc I o j _=>⟨.v (.str (m3 c)),db (bN (aM j.1 rfl) cv) (Uk c Y),rfl⟩)
 rw[eE]at i;have p:(L.filter λ(c:Nat)=>!dZ (c:Int)).map (λc=>T.str (m3 c))=b.map T.str:=by rw[<- n,il];rfl
 rw[p]at i;have k:mh (L.map cy) (L.map λ(c:Nat)=>T.bool (dZ (c:Int)))=L.map λc:Nat=>T.tup [cy c,T.bool (dZ (c:Int))]:=by unfold mh;rw[List.zipWith_map,List.zipWith_self]
 have l:=Gy b (by rw[EQ,hw];exact dU h);rw[hw]at l;exact oM be rfl (bN (fO (eL (kY f (eW g)) (D6 (aM d rfl) (aM e rfl) ⟨rfl,rfl⟩ rfl rfl k) i) rfl) cv) (rb l)
theorem QL{c:List Bool}{n:Nat}(h4:O[4]?=some .nts)(d:O[12]?=some (.v (.lst (c.map T.bool))))(e:O[49]?=some .no)(j:c.length=n)(i:n<=1000)(l:Y.length<=1000000)
  (hq:eqT 6 (.lst (c.map λb=>T.tup [.bool b,.bool !b])) (.lst ((aO n).map λ(k:Nat)=>T.tup [.bool (decide (k%2=0)),.bool (decide (k%2=1))]))=true) :
  ∃ o,dJ 4 (cJ [cM (cn [49] (.nm 49) (iL none (dV 12)) (λ_ Y=>some (true,Y)) (cF BF) (.own [])),cM (cn [49] (.nm 49) (iR (bL [dV 12] (cD iB))) (λ_ Y=>some (true,Y)) (cF zd) (.own []))]) O Y=some (.nx,O,Y++[o])/\kz o:=by
 have p:=ga (bind:=bU [49] (.nm 49)) (test:=λ_ Y=>some (true,Y)) (fx:=BF) (Y:=Y) T.bool (λ_=>true) (λb=>T.tup [.bool b,.bool !b]) (bg [49] O) (λb I=>I[49]?=some (.v (.bool b)))
  c [] O (.refl O) (by simp;exact Hq j i) (λa _=>ib hl) (λ_ _ _ _ _=>rfl) (λb t I s f _=>⟨.v (.tup [.bool b,.bool !b]),by
   have c1:d9 .Is (.bool b) (.bool true)=some b:=by cases b<;>rfl
   have m:d9 .Is (.bool b) (.bool false)=some (!b):=by cases b<;>rfl
   exact eD (bQ (kW (aM f rfl) rfl be rfl c1) rfl (bQ (kW (aM f rfl) rfl be rfl m) rfl dh)),rfl⟩)
 have q:=ga (bind:=bU [49] (.nm 49)) (test:=λ_ Y=>some (true,Y)) (fx:=zd) (Y:=Y) (λk:Nat=>T.int (k:Int)) (λ_=>true) (λk=>T.tup [.bool (decide (k%2=0)),.bool (decide (k%2=1))]) (bg [49] O) (λk I=>I[49]?=some (.v (.int (k:Int))))
  (aO n) [] O (.refl O) (by simp;exact dU i) (λa _=>ib hl) (λ_ _ _ _ _=>rfl) (λk hk I s f _=>⟨.v (.tup [.bool (decide (k%2=0)),.bool (decide (k%2=1))]),by
   have r:dp .Mod (.int (k:Int)) (.int 2)=some (.int ((k%2:Nat):Int)):=by rw[l9 (by decide)];exact congrArg _ (congrArg _ (oN k 2))
   have h2:k%2=0\/k%2=1:=(Nat.mod_two_eq_zero_or_one _);have c1:d9 .Eq (.int ((k%2:Nat):Int)) (.int 0)=some (decide (k%2=0)):=by rcases h2 with h|h<;>rw[h]<;>rfl
   have m:d9 .Eq (.int ((k%2:Nat):Int)) (.int 1)=some (decide (k%2=1)):=by rcases h2 with h|h<;>rw[h]<;>rfl
   exact eD (bQ (kW (bV (aM f rfl) rfl be rfl r) rfl be rfl c1) rfl (bQ (kW (bV (aM f rfl) rfl be rfl r) rfl be rfl m) rfl dh)),rfl⟩)
 rw[g9,eE]at p q;have g:bL [dV 12] (cD iB) O Y=some (.v (.int (n:Int)),Y):=by
  refine db (bN (aM d rfl) cv) (gk ?_);show(if (c.map T.bool).length<=1000000 then some (X.v (T.int ((c.map T.bool).length:Int)))else none)=_;rw[if_pos (by rw[dm];exact Hq j i),dm,j]
 exact⟨_,ll (eD (bQ (fO (eL (eW e) (ia (aM d rfl) rfl rfl) p) rfl) rfl (bQ (fO (eL (eW e) (jA g rfl (Hv i)) q) rfl) rfl dh))) rfl h4 l,_,_,rfl,hq⟩
theorem Y5{w:List Nat}(hw:w∈kB)(a:O[13]?=some (.v (.str (cj w)))):
  bW (aO 52) (.nm 14) (cJ [iA "str" (dV 13) [dK (.str (aK "r"))] (gR lu),iA "str" (dV 13) [dK (.str (aK "g"))] (gR lu),iA "str" (dV 13) [dK (.str (aK "b"))] (gR lu),bL [dV 13] (cD iB)]) O Y=some (.nx,O.set 14 (.v (tB (vW w))),Y):=by
 have hc:=c8.mp Xd w hw;simp only[fg,beq_iff_eq]at hc;refine aQ λc=>bn hc λd e=>?_;obtain⟨c1,f⟩:=d;refine bn (wa hw) λg h=>c ?_;have i:lu (.v (.str (cj w))) (.v (.str (aK "r")))=some (.v (.int ((w.count 114:Nat):Int))):=by show some (X.v (T.int _))=_;rw[c1]
 have j:lu (.v (.str (cj w))) (.v (.str (aK "g")))=some (.v (.int ((w.count 103:Nat):Int))):=by show some (X.v (T.int _))=_;rw[f]
 have l:lu (.v (.str (cj w))) (.v (.str (aK "b")))=some (.v (.int ((w.count 98:Nat):Int))):=by show some (X.v (T.int _))=_;rw[e]
 have b:(cj w).length=w.length:=by show(cj w).cps.size=_;unfold cj;exact eY
 have m:iB (.v (.str (cj w)))=some (.v (.int ((w.count 114:Nat)+(w.count 103:Nat)+(w.count 98:Nat):Int))):=by
  refine FG (aT rfl ((if_pos (by rw[b];exact HQ g)).trans (congrArg (λk:Int=>some (X.v (.int k))) ?_)));rw[b];exact TX h
 exact ef (t:=tB (vW w)) (eD (bQ (oM (aM a rfl) rfl (bN be cv) (rb i)) rfl (bQ (oM (aM a rfl) rfl (bN be cv) (rb j)) rfl (bQ (oM (aM a rfl) rfl (bN be cv) (rb l)) rfl (bQ (db (bN (aM a rfl) cv) (gk m)) rfl dh))))) rfl (cC rfl (l0 hl rfl))
theorem GK{B:List T}{v u:V3}{l:Dc}{a b i j:Nat}(h6:O[6]?=some (.own B))(c:O[14]?=some (.v (tB v)))(e:O[a]?=some (.v (.int (i:Int))))(k:O[b]?=some (.v (.int (j:Int))))(f:B[i]?=some (bR u l))(h:B.length<=1000)(m:(keys l).Nodup)(d:l.length<=1000):
  jC 6 (dV a) (bL [aR (dV 6) (dV a),iS (dV 14) (cJ [nh (dV b) (dV 14)])] (cf jf 2 jI)) O Y=some (.nx,O.set 6 (.own (B.set i (bR (cq v u) (ac l [(j,v)])))),Y):=by
 have n:iS (dV 14) (cJ [nh (dV b) (dV 14)]) O Y=some (.v (bR v [(j,v)]),Y):=tl (l:=[.int v.r,.int v.g,.int v.b,.int (v.r+v.g+v.b)]) (r:=[.dct (bp tB [(j,v)])]) (aM c rfl) (eD (bQ (GT (aM k rfl) (aM c rfl) rfl rfl) rfl dh)) rfl rfl (by simp);exact qd (x:=.v (bR (cq v u) (ac l [(j,v)]))) (db (bN (bM (aM h6 rfl) (aM e rfl) rfl (gL f (dU h))) (bN n cv)) (BP m (by simp;exact xu d))) rfl (aM e rfl) rfl h6 (tq _ (je.mp f).1 (dU h))
end
noncomputable def l7:List Nat:=[5,6,9,10,11,12,13,14]
theorem SS{O:List S}{Y:List T}{P:List Nat}{B:List T}{h:List (Nat×Nat×V3)}{s uj:V3}{q Q:Dc}{p i j cell:Nat}{r:S}(d:O.length=52)(h1:O[1]?=some (.own (bv P)))(W:P[p]?=some cell)(X:P.length<=1000)
  (h2:O[2]?=some (.v (.int (p:Int)))) (Z:O[7]?=some (.v (.int (i:Int)))) (h8:O[8]?=some (.v (.int (j:Int)))) (h4:O[4]?=some .nts) (h5:O[5]?=some (.own (h.map ez))) (h6:O[6]?=some (.own B)) (a0:B[i]?=some (bR s q)) (aa:B[j]?=some (bR uj Q)) (ab:i≠j)
  (ad:O[12]?=some r) (hS:r.adF=false) (u:O[49]?=some .no) (ae:O[50]?=some .no) (af:(keys q).Nodup) (ag:(keys Q).Nodup) (ah:q.length<=1000) (ai:Q.length<=1000) (hz:B.length<=1000) (aj:h.length<=1000) (A:Y.length+10<=1000000) :
  ∃ U δ,wQ O Y=some (.nx,U,Y++δ)/\bg l7 O U/\U[5]?=some (.own ((h++[(i,j,vC cell)]).map ez))/\U[6]?=some (.own ((B.set i (bR (cq (vC cell) s) (ac q [(j,vC cell)]))).set j (bR (cq (vC cell) uj) (ac Q [(i,vC cell)]))))/\
   (∃ S,U[12]?=some S/\S.adF=false)/\dG δ/\δ.length<=2:=by
 have hw:=Bm cell;refine aQ λnG=>bO (GG (cell/108) hw) λg1 g2 g3=>nG ?_;have ak:(bv P)[p]?=some (.int (cell:Int)):=by unfold bv;rw[fR,W];rfl
 have a1:bW (aO 52) (.nm 9) (aR (dV 1) (dV 2)) O Y=some (.nx,O.set 9 (.v (.int (cell:Int))),Y):=ef (bM (aM h1 rfl) (aM h2 rfl) rfl (gL ak (by rw[iw];exact dU X))) rfl (cC rfl (l0 d rfl));have C:bg l7 O (O.set 9 (.v (.int (cell:Int)))):=(bg.refl O).set rfl _;have p9:(O.set 9 (.v (.int (cell:Int))))[9]?=some (.v (.int (cell:Int))):=bS (l0 d rfl);have p5:(O.set 9 (.v (.int (cell:Int))))[5]?=some (.own (h.map ez)):=aW rfl h5;have p6:(O.set 9 (.v (.int (cell:Int))))[6]?=some (.own B):=aW rfl h6;have al:(O.set 9 (.v (.int (cell:Int))))[12]?=some r:=aW rfl ad;generalize O.set 9 (.v (.int (cell:Int)))=e at*;have a2:bW (aO 52) (.nm 10) (iA "str" (dK (.str (aK ""))) [cM (cn [49] (.nm 49) (iR (dB .Mod (dV 9) (dK (.int 4)))) (λ_ Y=>some (true,Y)) (cF sQ) (.own []))] (gR ny)) e Y=some (.nx,e.set 10 (.v (.str (cj (cT cell)))),Y):=
  ef (W6 (C.len d) p9 (C.get u rfl)) rfl (cC rfl (l0 (C.len d) rfl))
 have s2:bg l7 O (e.set 10 (.v (.str (cj (cT cell))))):=C.set rfl _;have D:(e.set 10 (.v (.str (cj (cT cell)))))[10]?=some (.v (.str (cj (cT cell)))):=bS (l0 (C.len d) rfl);have q9:(e.set 10 (.v (.str (cj (cT cell)))))[9]?=some (.v (.int (cell:Int))):=aW rfl p9;have q5:(e.set 10 (.v (.str (cj (cT cell)))))[5]?=some (.own (h.map ez)):=aW rfl p5;have q6:(e.set 10 (.v (.str (cj (cT cell)))))[6]?=some (.own B):=aW rfl p6;have an:(e.set 10 (.v (.str (cj (cT cell)))))[12]?=some r:=aW rfl al;generalize e.set 10 (.v (.str (cj (cT cell))))=f at*;have E:dp .FloorDiv (.int (cell:Int)) (.int 108)=some (.int ((cell/108:Nat):Int)):=by rw[m7 (by decide) (by decide)];exact congrArg _ (congrArg _ (qC cell 108))
 have a3:bW (aO 52) (.nm 11) (bL [dV 10,dB .FloorDiv (dV 9) (dK (.int 108))] (cf pT 2 qW)) f Y=some (.nx,f.set 11 (.v (.lst ((ku (cell/108) 0 (sgn (cell/108) (cT cell))).map cy))),Y):=
  ef (db (bN (aM D rfl) (bN (bV (aM q9 rfl) rfl be rfl E) cv)) (Rz (cell/108) hw Y)) rfl (cC rfl (l0 (s2.len d) rfl))
 have t1:=Nq (cell/108) g3 0;have t2:=aca (cell/108) g3 0;have t3:=NE (cell/108) (sgn (cell/108) (cT cell)) 0;have t4:=ZP g2;generalize ku (cell/108) 0 (sgn (cell/108) (cT cell))=L at*;have R:bg l7 O (f.set 11 (.v (.lst (L.map cy)))):=s2.set rfl _;have F:(f.set 11 (.v (.lst (L.map cy))))[11]?=some (.v (.lst (L.map cy))):=bS (l0 (s2.len d) rfl);have ao:(f.set 11 (.v (.lst (L.map cy))))[10]?=some (.v (.str (cj (cT cell)))):=aW rfl D;have r5:(f.set 11 (.v (.lst (L.map cy))))[5]?=some (.own (h.map ez)):=aW rfl q5;have r6:(f.set 11 (.v (.lst (L.map cy))))[6]?=some (.own B):=aW rfl q6;have aq:(f.set 11 (.v (.lst (L.map cy))))[12]?=some r:=aW rfl an;generalize f.set 11 (.v (.lst (L.map cy)))=m at*;have a4:=PG (Y:=Y) (R.len d) F aq hS (R.get u rfl) (HC g2 t3);have z:bg l7 O (m.set 12 (.v (.lst (L.map λ(c:Nat)=>T.bool (dZ (c:Int)))))):=R.set rfl _;have G:(m.set 12 (.v (.lst (L.map λ(c:Nat)=>T.bool (dZ (c:Int))))))[12]?=some (.v (.lst (L.map λ(c:Nat)=>T.bool (dZ (c:Int))))):=bS (l0 (R.len d) rfl);have ar:(m.set 12 (.v (.lst (L.map λ(c:Nat)=>T.bool (dZ (c:Int))))))[11]?=some (.v (.lst (L.map cy))):=aW rfl F;have au:(m.set 12 (.v (.lst (L.map λ(c:Nat)=>T.bool (dZ (c:Int))))))[10]?=some (.v (.str (cj (cT cell)))):=aW rfl ao;have u5:(m.set 12 (.v (.lst (L.map λ(c:Nat)=>T.bool (dZ (c:Int))))))[5]?=some (.own (h.map ez)):=aW rfl r5;have u6:(m.set 12 (.v (.lst (L.map λ(c:Nat)=>T.bool (dZ (c:Int))))))[6]?=some (.own B):=aW rfl r6;generalize m.set 12 (.v (.lst (L.map λ(c:Nat)=>T.bool (dZ (c:Int)))))=g at*;have av:((sgn (cell/108) (cT cell)).map λc=>cj (og c)).flatMap (λy=>y.cps.toList)=cT cell:=by
  rw[List.flatMap_map];refine Eq.trans ?_ g1;rfl
 have a5:bW (aO 52) (.nm 13) (iA "str" (dK (.str (aK ""))) [cM (cn [49,50] (.tp [(.nm 49),(.nm 50)]) (iZ (dV 11) (dV 12)) sT (cF uN) (.own []))] (gR ny)) g Y=some (.nx,g.set 13 (.v (.str (cj (cT cell)))),Y):=
  ef (Mv (z.len d) ar G (z.get u rfl) (z.get ae rfl) (HC g2 t3) t1 av (by have:=(wa hw).1;exact Ht this)) rfl (cC rfl (l0 (z.len d) rfl))
 have x:bg l7 O (g.set 13 (.v (.str (cj (cT cell))))):=z.set rfl _;have H:(g.set 13 (.v (.str (cj (cT cell)))))[13]?=some (.v (.str (cj (cT cell)))):=bS (l0 (z.len d) rfl);have I:(g.set 13 (.v (.str (cj (cT cell)))))[12]?=some (.v (.lst (L.map λ(c:Nat)=>T.bool (dZ (c:Int))))):=aW rfl G;have v10:(g.set 13 (.v (.str (cj (cT cell)))))[10]?=some (.v (.str (cj (cT cell)))):=aW rfl au;have v5:(g.set 13 (.v (.str (cj (cT cell)))))[5]?=some (.own (h.map ez)):=aW rfl u5;have v6:(g.set 13 (.v (.str (cj (cT cell)))))[6]?=some (.own B):=aW rfl u6;generalize g.set 13 (.v (.str (cj (cT cell))))=k at*;have eb:(L.map λ(c:Nat)=>T.bool (dZ (c:Int)))=(L.map λ(c:Nat)=>dZ (c:Int)).map T.bool:=by rw[il];rfl
 have v:=I;rw[eb,t2]at v;refine aQ λnG=>aV (QL (Y:=Y) (n:=2*(sgn (cell/108) (cT cell)).length) (x.len d) (x.get h4 rfl) v (x.get u rfl) (by rw[<- t2,dm,t3]) (GJ g2) (GO A) t4) λw a6 k1=>nG ?_;have a7:dJ 4 (cJ [dV 13,dV 10]) k (Y++[w])=some (.nx,k,Y++[w]++[.tup [.str (cj (cT cell)),.str (cj (cT cell))]]):=
  ll (eD (bQ (aM H rfl) rfl (bQ (aM v10 rfl) rfl dh))) rfl (x.get h4 rfl) (by rw[cU];simp;exact FO A)
 have a8:=Y5 (Y:=Y++[w]++[.tup [.str (cj (cT cell)),.str (cj (cT cell))]]) (x.len d) hw H;have ev:vW (cT cell)=vC cell:=rfl;rw[ev]at a8;have V:bg l7 O (k.set 14 (.v (tB (vC cell)))):=x.set rfl _;have J:(k.set 14 (.v (tB (vC cell))))[14]?=some (.v (tB (vC cell))):=bS (l0 (x.len d) rfl);have aw:(k.set 14 (.v (tB (vC cell))))[12]?=some (.v (.lst (L.map λ(c:Nat)=>T.bool (dZ (c:Int))))):=aW rfl I;have w5:(k.set 14 (.v (tB (vC cell))))[5]?=some (.own (h.map ez)):=aW rfl v5;have w6:(k.set 14 (.v (tB (vC cell))))[6]?=some (.own B):=aW rfl v6;generalize k.set 14 (.v (tB (vC cell)))=l at*;have a9:dJ 5 (cJ [dV 7,dV 8,dV 14]) l (Y++[w]++[.tup [.str (cj (cT cell)),.str (cj (cT cell))]])=some (.nx,l.set 5 (.own ((h++[(i,j,vC cell)]).map ez)),Y++[w]++[.tup [.str (cj (cT cell)),.str (cj (cT cell))]]):=by
  rw[mO];exact qH (t:=ez (i,j,vC cell)) (eD (bQ (aM (V.get Z rfl) rfl) rfl (bQ (aM (V.get h8 rfl) rfl) rfl (bQ (aM J rfl) rfl dh)))) rfl w5 (by rw[dm];exact dU aj)
 have K:bg l7 O (l.set 5 (.own ((h++[(i,j,vC cell)]).map ez))):=V.set rfl _;have x5:(l.set 5 (.own ((h++[(i,j,vC cell)]).map ez)))[5]?=some (.own ((h++[(i,j,vC cell)]).map ez)):=bS (l0 (V.len d) rfl);have M:(l.set 5 (.own ((h++[(i,j,vC cell)]).map ez)))[14]?=some (.v (tB (vC cell))):=aW rfl J;have ax:(l.set 5 (.own ((h++[(i,j,vC cell)]).map ez)))[12]?=some (.v (.lst (L.map λ(c:Nat)=>T.bool (dZ (c:Int))))):=aW rfl aw;have x6:(l.set 5 (.own ((h++[(i,j,vC cell)]).map ez)))[6]?=some (.own B):=aW rfl w6;generalize l.set 5 (.own ((h++[(i,j,vC cell)]).map ez))=o at*;have ay:=GK (Y:=Y++[w]++[.tup [.str (cj (cT cell)),.str (cj (cT cell))]]) (a:=7) (b:=8) (K.len d) x6 M (K.get Z rfl) (K.get h8 rfl) a0 hz af ah;have N:bg l7 O (o.set 6 (.own (B.set i (bR (cq (vC cell) s) (ac q [(j,vC cell)]))))):=K.set rfl _;have y6:(o.set 6 (.own (B.set i (bR (cq (vC cell) s) (ac q [(j,vC cell)])))))[6]?=some (.own (B.set i (bR (cq (vC cell) s) (ac q [(j,vC cell)])))):=bS (l0 (K.len d) rfl);have az:(o.set 6 (.own (B.set i (bR (cq (vC cell) s) (ac q [(j,vC cell)])))))[14]?=some (.v (tB (vC cell))):=aW rfl M;have aA:(o.set 6 (.own (B.set i (bR (cq (vC cell) s) (ac q [(j,vC cell)])))))[12]?=some (.v (.lst (L.map λ(c:Nat)=>T.bool (dZ (c:Int))))):=aW rfl ax;have y5:(o.set 6 (.own (B.set i (bR (cq (vC cell) s) (ac q [(j,vC cell)])))))[5]?=some (.own ((h++[(i,j,vC cell)]).map ez)):=aW rfl x5;generalize o.set 6 (.own (B.set i (bR (cq (vC cell) s) (ac q [(j,vC cell)]))))=aC at*;have aB:=GK (Y:=Y++[w]++[.tup [.str (cj (cT cell)),.str (cj (cT cell))]]) (a:=8) (b:=7) (B:=B.set i (bR (cq (vC cell) s) (ac q [(j,vC cell)]))) (N.len d) y6 az (N.get h8 rfl) (N.get Z rfl) (by rw[ed ab];exact aa) (by rw[fH];exact hz) ag ai;refine⟨_,[w]++[.tup [.str (cj (cT cell)),.str (cj (cT cell))]],?_,N.set (i:=6) rfl _,aW rfl y5,bS (l0 (N.len d) rfl),⟨_,aW rfl aA,rfl⟩,(dG.one k1).app (dG.one ⟨_,_,rfl,EH _ _⟩),by simp⟩;rw[<- eO];unfold wQ;exact bz a1 (bz a2 (bz a3 (bz a4 (bz a5 (bz a6 (bz a7 (bz a8 (bz a9 (bz ay (bz aB dT))))))))))
noncomputable def code(a b:Nat):Nat:=if a<b then b*(b-1)/2+a else if b<a then a*(a-1)/2+b else 99
noncomputable def lw:List (Nat×Nat):=[(0,1),(0,2),(1,2),(0,3),(1,3),(2,3),(0,4),(1,4),(2,4),(3,4),(0,5),(1,5),(2,5),(3,5),(4,5)]
noncomputable def pI(p:Nat):Nat:=(lw.getD p (0,0)).1
noncomputable def pJ(p:Nat):Nat:=(lw.getD p (0,0)).2
noncomputable def dD:List Nat:=[0,1,2,3,4,5]
noncomputable def wp(c:Nat->V3)(p:Nat):Nat->Nat->V3:=λa b=>if code a b<p then c (code a b)else v0
theorem TU:((aO 15).all λp=>decide (pI p<6)&&decide (pJ p<6)&&decide (pI p≠pJ p)&&decide (lw[p]?=some (pI p,pJ p))&&(aO 6).all λa=>(aO 6).all λb=>decide (code a b=p↔(a=pI p/\b=pJ p)\/(a=pJ p/\b=pI p)))=true:=by decide+kernel
theorem yV{p:Nat}(h:p<15):pI p<6/\pJ p<6/\pI p≠pJ p/\lw[p]?=some (pI p,pJ p)/\∀ a<6,∀ b<6,(code a b=p↔(a=pI p/\b=pJ p)\/(a=pJ p/\b=pI p)):=by
 refine aQ λc=>?_;have h1:=c8.mp TU p (eu.mpr h);simp only[fg,decide_eq_true_eq]at h1;refine bn h1 λd a5=>?_;obtain⟨⟨⟨a1,a2⟩,a3⟩,a4⟩:=d;refine c ⟨a1,a2,a3,a4,λa e b f=>?_⟩;have:=c8.mp (c8.mp a5 a (eu.mpr e)) b (eu.mpr f);exact of_decide_eq_true this
theorem Zs(a b:Nat):code a b=code b a:=by
 unfold code;by_cases h1:a<b
 ·rw[if_pos h1,if_neg (Nat.not_lt_of_gt h1),if_pos h1]
 ·by_cases h2:b<a
  ·rw[if_neg h1,if_pos h2,if_pos h2]
  ·rw[if_neg h1,if_neg h2,if_neg h2,if_neg h1]
theorem Uy{L:List Nat}(b:L.Nodup){f g:Nat->Int}{j:Nat}{d:Int}(c:j∈L)(h1:g j=f j+d)(h2:∀ k∈L,k≠j->g k=f k):sm L g=sm L f+d:=by
 have a:=lR c;rw[ly a,ly a f];simp only[fX,fZ];rw[jG (f:=g) (g:=f) λk hk=>h2 k (List.mem_of_mem_erase hk) λq=>by subst q;exact b.not_mem_erase hk,h1];exact(Int.add_right_comm _ _ _)
structure Bo (bd:Nat->V3) (p:Nat) (n:Nat) (e:V3×Dc):Prop where
 kn:(keys e.2).Nodup
 ks:∀ k,k∈keys e.2↔k<6/\code n k<p
 vl:∀ k<6,val e.2 k=wp bd p n k
 dv:e.1=sv dD (wp bd p n)
theorem Vh(a:Nat->V3)(n:Nat):Bo a 0 n (v0,[]):=⟨by simp[keys],λk=>by simp[keys],λk _=>rfl,oX λc hc=>by
 rw[fI hc.lin];have:(λx=>c (wp a 0 n x))=λ_=>0:=by funext x;show c v0=0;exact hc.lin.z
 rw[this,sn];exact hc.lin.z⟩
theorem Wv{d:Nat->V3}{p n:Nat}{e:V3×Dc}(h:Bo d p n e)(f:∀ k<6,code n k≠p):Bo d (p+1) n e:=by
 have hw:∀ k<6,wp d (p+1) n k=wp d p n k:=λk hk=>by
  have:=f k hk;unfold wp;by_cases q:code n k<p
  ·rw[if_pos q,if_pos (xg q)]
  ·rw[if_neg q,if_neg (HU this q)]
 refine⟨h.kn,λk=>?_,λk hk=>by rw[h.vl k hk,hw k hk],?_⟩
 ·rw[h.ks k];constructor
  ·rintro ⟨a,b⟩;exact⟨a,xg b⟩
  ·rintro ⟨a,b⟩;exact⟨a,by have:=f k a;exact IL b this⟩
 ·rw[h.dv];refine oX λc hc=>?_;rw[fI hc.lin,fI hc.lin];refine jG λk hk=>?_;rw[hw k (by unfold dD at hk;simp at hk;exact tQ hk)]
theorem ER{i:Nat->V3}{p n m:Nat}{e:V3×Dc}(h:Bo i p n e)(u:m<6)(v:∀ k<6,(code n k=p↔k=m)):Bo i (p+1) n (cq (i p) e.1,ac e.2 [(m,i p)]):=by
 have l:code n m=p:=(v m u).mpr rfl;have hw:∀ k<6,k≠m->wp i (p+1) n k=wp i p n k:=λk hk o=>by
  have:code n k≠p:=λq=>o ((v k hk).mp q);unfold wp;by_cases q:code n k<p
  ·rw[if_pos q,if_pos (xg q)]
  ·rw[if_neg q,if_neg (HU this q)]
 have s:wp i (p+1) n m=i p:=by unfold wp;rw[l,if_pos (Nat.lt_add_one _)]
 have t:wp i p n m=v0:=by unfold wp;rw[l,if_neg (zv)]
 refine⟨p8 _ h.kn,λk=>?_,λk hk=>?_,?_⟩
 ·rw[qB,h.ks k];have w:keys [(m,i p)]=[m]:=rfl;rw[w,jd];constructor
  ·rintro (⟨a,b⟩|rfl)
   ·exact⟨a,xg b⟩
   ·exact⟨u,Tw l⟩
  ·rintro ⟨a,b⟩;by_cases q:k=m
   ·exact .inr q
   ·exact .inl ⟨a,by have:code n k≠p:=λr=>q ((v k a).mp r);exact IL b this⟩
 ·rw[xf _ _ (by simp[keys]),h.vl k hk,gQ];by_cases q:m=k
  ·subst q;rw[if_pos rfl,t,s,NV]
  ·rw[if_neg q,hw k hk (Ne.symm q)];exact rg _
 ·refine oX λc hc=>?_;rw[hc.lin.a,h.dv,fI hc.lin,fI hc.lin,Uy (f:=λx=>c (wp i p n x)) (g:=λx=>c (wp i (p+1) n x)) (j:=m) (d:=c (i p)) (by unfold dD;decide) (by unfold dD;simp;exact xn u) (by simp only[t,s,hc.lin.z];exact Bl) λk hk o=>by simp only[hw k (by unfold dD at hk;simp at hk;exact tQ hk) o]];exact Dv
theorem Qw{l:Nat->V3}(o:∀ p<15,∀ c,jH c->0<=c (l p)/\c (l p)<=3){q:Nat->V3×Dc}(h:∀ n<6,Bo l 15 n (q n)):j6 dD (wp l 15) q:=by
 have f:∀ n,n∈dD↔n<6:=λn=>by unfold dD;simp;exact(⟨tQ,xn⟩)
 have m:∀ a<6,∀ b<6,(code a b<15↔b≠a):=by
  have:((aO 6).all λa=>(aO 6).all λb=>decide (code a b<15↔b≠a))=true:=by decide+kernel
  intro a r b o;exact of_decide_eq_true (c8.mp (c8.mp this a (eu.mpr r)) b (eu.mpr o))
 have hc:∀ c,jH c->∀ i j,0<=c (wp l 15 i j)/\c (wp l 15 i j)<=3:=λc hc i j=>by
  unfold wp;split
  ·exact o _ (by assumption) c hc
  ·rw[hc.lin.z];exact⟨by decide,by decide⟩
 refine⟨by unfold dD;decide,λi j=>by unfold wp;rw[Zs],λi=>?_,λc g i j=>(hc c g i j).1,λc g=>?_,λn e=>(h n ((f n).mp e)).kn,λn e k=>?_,λn e k hk=>(h n ((f n).mp e)).vl k ((f k).mp hk),λn e=>(h n ((f n).mp e)).dv⟩
 ·unfold wp;have:code i i=99:=by unfold code;rw[if_neg (zv),if_neg (zv)]
  rw[this,if_neg (by decide)]
 ·have d:=λi j=>(hc c g i j).2;unfold dD;simp only[jY,iD,fX,fZ];have:=d 1 0;have:=d 2 0;have:=d 3 0;have:=d 4 0;have:=d 5 0;have:=d 2 1;have:=d 3 1;have:=d 4 1;have:=d 5 1;have:=d 3 2;have:=d 4 2;have:=d 5 2;have:=d 4 3;have:=d 5 3;have:=d 5 4;exact Kv ‹_› ‹_› ‹_› ‹_› ‹_› ‹_› ‹_› ‹_› ‹_› ‹_› ‹_› ‹_› ‹_› ‹_› this
 ·rw[(h n ((f n).mp e)).ks k,f k];constructor
  ·rintro ⟨a,b⟩;exact⟨a,(m n ((f n).mp e) k a).mp b⟩
  ·rintro ⟨a,b⟩;exact⟨a,(m n ((f n).mp e) k a).mpr b⟩
noncomputable def du(a:List Nat):Nat->V3:=λp=>vC (a.getD p 0)
noncomputable def dy(a:Nat->V3)(p:Nat):List (Nat×Nat×V3):=(aO p).map λk=>(pI k,pJ k,a k)
noncomputable def kQ(q:Nat×Nat):T:=.tup [.int (q.1:Int),.int (q.2:Int)]
theorem Zt(a:Nat->V3)(p:Nat):dy a (p+1)=dy a p++[(pI p,pJ p,a p)]:=by unfold dy;rw[Kk,mO];rfl
theorem abI{p:Nat}(h:p<15):lw.drop p=(pI p,pJ p)::lw.drop (p+1):=by
 refine aQ λb=>gl (yV h) λ_ _ _ e _=>b ?_;have a:p<lw.length:=h;rw[JB a];rw[gv a]at e;injection e with e
 rw[e]
noncomputable def Il:List Nat:=[2,5,6,7,8,9,10,11,12,13,14]
theorem UB{f:List Nat}(D:f.length=16):∀ (k p:Nat) (l:Nat->V3×Dc) (B:List T) (O:List S) (Y:List T),p+k=15->O.length=52->O[1]?=some (.own (bv f))->O[4]?=some .nts->O[5]?=some (.own ((dy (du f) p).map ez))->O[6]?=some (.own B)->
  (∃ S,O[12]?=some S/\S.adF=false)->O[49]?=some .no->O[50]?=some .no->B.length=6->(∀ n<6,B[n]?=some (bR (l n).1 (l n).2)/\Bo (du f) p n (l n))->Y.length+10*(k+1)<=1000000->
  ∃ U Q,∃ (r:Nat->V3×Dc) (E:List T),em (bU (aO 52) (.tp [(.nm 2),(.tp [(.nm 7),(.nm 8)])])) wQ (oS p ((lw.drop p).map kQ)) O Y=some (.nx,U,Y++Q)/\bg Il O U/\U[5]?=some (.own ((dy (du f) 15).map ez))/\U[6]?=some (.own E)/\E.length=6/\
   (∀ n<6,E[n]?=some (bR (r n).1 (r n).2)/\Bo (du f) 15 n (r n))/\dG Q/\Q.length<=2*k:=by
 intro R;induction R with
 |zero=>
  intro p l B O Y hk s h1 h4 h5 h6 F G H x z u;have:p=15:=aaQ hk;subst this;exact⟨O,[],l,B,by rw[gW];rfl,.refl O,h5,h6,x,z,.nil,lE _⟩
 |succ k V=>
  intro p l B O Y hk s h1 h4 h5 h6 F G H x z u;have hp:p<15:=Nv hk;refine aQ λv=>gl (yV hp) λW X Z _ h=>v ?_;rw[abI hp,cB];refine aQ λv=>bn (z (pI p) W) λbi oi=>bn (z (pJ p) X) λbj oj=>v ?_;have e1:bU (aO 52) (.tp [(.nm 2),(.tp [(.nm 7),(.nm 8)])]) (T.tup [T.int (p:Int),kQ (pI p,pJ p)]) O=some (((O.set 2 (.v (.int (p:Int)))).set 7 (.v (.int (pI p:Int)))).set 8 (.v (.int (pJ p:Int)))):=
   qj (hM (cC rfl (l0 s rfl)) (hM (qj (hM (cC rfl (l1 s rfl)) (hM (cC rfl (l2 s rfl)) oI))) oI))
  have s1:bg Il O (((O.set 2 (.v (.int (p:Int)))).set 7 (.v (.int (pI p:Int)))).set 8 (.v (.int (pJ p:Int)))):=(((bg.refl O).set rfl _).set rfl _).set rfl _;have q2:(((O.set 2 (.v (.int (p:Int)))).set 7 (.v (.int (pI p:Int)))).set 8 (.v (.int (pJ p:Int))))[2]?=some (.v (.int (p:Int))):=aW rfl (aW rfl (bS (l0 s rfl)));have q7:(((O.set 2 (.v (.int (p:Int)))).set 7 (.v (.int (pI p:Int)))).set 8 (.v (.int (pJ p:Int))))[7]?=some (.v (.int (pI p:Int))):=aW rfl (bS (l1 s rfl));have q8:(((O.set 2 (.v (.int (p:Int)))).set 7 (.v (.int (pI p:Int)))).set 8 (.v (.int (pJ p:Int))))[8]?=some (.v (.int (pJ p:Int))):=bS (l2 s rfl);have g:∀ {m:Nat} {y:S},O[m]?=some y->mG 2 m=false->mG 7 m=false->mG 8 m=false->(((O.set 2 (.v (.int (p:Int)))).set 7 (.v (.int (pI p:Int)))).set 8 (.v (.int (pJ p:Int))))[m]?=some y:=λa b c d=>aW d (aW c (aW b a));have q1:=g h1 rfl rfl rfl;have q4:=g h4 rfl rfl rfl;have q5:=g h5 rfl rfl rfl;have q6:=g h6 rfl rfl rfl;have J:=g G rfl rfl rfl;have K:=g H rfl rfl rfl;refine aQ λv=>aV F λa7 a0 a1=>v ?_;have a2:=g a0 rfl rfl rfl;clear g;generalize ((O.set 2 (.v (.int (p:Int)))).set 7 (.v (.int (pI p:Int)))).set 8 (.v (.int (pJ p:Int)))=I at*;have w:f[p]?=some (f.getD p 0):=by rw[yn,gv (QG D hk)];rfl
  have t:∀ {n:Nat} {e:V3×Dc},Bo (du f) p n e->e.2.length<=6:=λ{n e} o=>by
   have:=oC (A:=dD) o.kn λk hk=>by have:=((o.ks k).mp hk).1;unfold dD;simp;exact xn this
   unfold keys at this;rw[dm]at this;exact this
  have li:=t oi;have lj:=t oj;refine aQ λv=>G8 (SS (O:=I) (Y:=Y) (p:=p) (i:=pI p) (j:=pJ p) (s1.len s) q1 w (Uh D) q2 q7 q8 q4 q5 q6 bi bj Z a2 a1 J K oi.kn oj.kn (nO li) (nO lj) (Wf x) (by unfold dy;rw[dm,kc];exact VN hk) (Xk u)) λa3 L r1 C r3 r4 r5 r6 r7=>v ?_;have M:vC (f.getD p 0)=du f p:=rfl;rw[M,<- Zt]at r3;rw[M]at r4;have a4:pI p<B.length:=El x W;have a5:pJ p<B.length:=El x X;obtain⟨U,a6,r,E,f1,f2,f3,f4,f5,f6,f7,f8⟩:=V (p+1) (λn=>if n=pI p then(cq (du f p) (l (pI p)).1,ac (l (pI p)).2 [(pJ p,du f p)])else if n=pJ p then(cq (du f p) (l (pJ p)).1,ac (l (pJ p)).2 [(pI p,du f p)])else l n) _ a3 (Y++L) (aa7 hk) (C.len (s1.len s)) (C.get q1 rfl) (C.get q4 rfl) r3 r4 r5 (C.get J rfl) (C.get K rfl) (by rw[fH,fH];exact x)
   (λn N=>by
    by_cases a:n=pI p
    ·subst a;rw[if_pos rfl,ed (Ne.symm Z),fT a4];refine⟨rfl,ER oi X λm P=>?_⟩;rw[h _ N m P];constructor
     ·rintro (⟨_,q⟩|⟨q,_⟩)
      ·exact q
      ·exact absurd q Z
     ·rintro rfl;exact .inl ⟨rfl,rfl⟩
    ·rw[if_neg a];by_cases b:n=pJ p
     ·subst b;rw[if_pos rfl,fT (by rw[fH];exact a5)];refine⟨rfl,ER oj W λm P=>?_⟩;rw[h _ N m P];constructor
      ·rintro (⟨q,_⟩|⟨_,q⟩)
       ·exact absurd q a
       ·exact q
      ·rintro rfl;exact .inr ⟨rfl,rfl⟩
     ·rw[if_neg b,ed (Ne.symm b),ed (Ne.symm a)];refine⟨(z n N).1,Wv (z n N).2 λm P q=>?_⟩;rcases(h n N m P).mp q with q|q
      ·exact a q.1
      ·exact b q.1) (by rw[cU];exact Lb u r7)
  refine⟨U,L++a6,r,E,?_,(s1.trans (C.mono (by decide))).trans f2,f3,f4,f5,f6,r6.app f7,by rw[cU];exact KE r7 f8⟩;rw[<- eO];exact gj e1 r1 f1
section
variable{O:List S}{Y:List T}(hl:O.length=52)
include hl
theorem NN(b:O[49]?=some .no):vY O Y=some (.nx,O.set 6 (.own ((aO 6).map λ_=>bR v0 [])),Y):=by
 have c:=ga (bind:=bU [49] (.nm 49)) (test:=λ_ Y=>some (true,Y)) (fx:=Hy) (Y:=Y) (λk:Nat=>T.int (k:Int)) (λ_=>true) (λk=>bR v0 []) (bg [49] O) (λk I=>I[49]?=some (.v (.int (k:Int))))
  (aO 6) [] O (.refl O) (by decide) (λa _=>ib hl) (λ_ _ _ _ _=>rfl) (λk hk I d e _=>(aS _ rfl rfl))
 rw[g9,eE]at c;unfold vY;exact s8 (fO (eL (eW b) (jA be rfl (by decide)) c) rfl) rfl rfl (l0 hl rfl)
theorem Pw(d:O[50]?=some .no){t:Nat}(c:O[49]?=some (.v (.int (t:Int))))(e:t<=1000)(b:List T)(g:b.length<=1000):
  oF [49,50] (.nm 50) (iR (dV 49)) (λ_ Y=>some (true,Y)) (cF rX) O Y (.own b)=some (.own (b++(aO t).map λo=>kQ (o,t)),Y):=by
 have f:=ga (bind:=bU [49,50] (.nm 50)) (test:=λ_ Y=>some (true,Y)) (fx:=rX) (Y:=Y) (λk:Nat=>T.int (k:Int)) (λ_=>true) (λo=>kQ (o,t)) (bg [50] O) (λk I=>I[50]?=some (.v (.int (k:Int))))
  (aO t) b O (.refl O) (by rw[kc];exact ZF e g) (λa _ I h=>(cI (I.set 50 (.v (.int (a:Int)))) (cC rfl (l0 (h.len hl) rfl)) (h.set rfl _) (bS (l0 (h.len hl) rfl)))) (λ_ _ _ _ _=>rfl) (λk hk I i j _=>(aS (.v (kQ (k,t))) (eD (bQ (aM j rfl) rfl (bQ (aM (i.get c rfl) rfl) rfl dh))) rfl))
 rw[g9]at f;unfold oF;rw[if_pos (show kS (PT.idx (.nm 50)) O=true from eW d)];rw[jA (O:=O) (Y:=Y) (aM c rfl) rfl (Hv e),ip];exact f
end
theorem P2{σ0:List S}{Y:List T}(c:σ0.length=52)(d:σ0[50]?=some .no):∀ (b:List Nat) (a:List T) (O:List S),bg [49] σ0 O->(∀ t∈b,t<=10)->a.length+10*b.length<=1000->
  iv (bU [49,50] (.nm 49)) (λ_ Y=>some (true,Y)) (oF [49,50] (.nm 50) (iR (dV 49)) (λ_ Y=>some (true,Y)) (cF rX)) (bv b) O Y (.own a)=some (.own (a++b.flatMap λt=>(aO t).map λo=>kQ (o,t)),Y):=by
 intro e;induction e with
 |nil=>
  intro a O _ _ _;simp only[List.flatMap_nil,gW];rfl
 |cons t b f=>
  intro a O hs g i;simp only[cK]at i;have l:bU [49,50] (.nm 49) (T.int (t:Int)) O=some (O.set 49 (.v (.int (t:Int)))):=cC rfl (l0 (hs.len c) rfl);have j:bg [49] σ0 (O.set 49 (.v (.int (t:Int)))):=hs.set rfl _;have h1:=Pw (Y:=Y) (j.len c) (j.get d rfl) (bS (l0 (hs.len c) rfl)) (t:=t) (by have:=g t (.head _);exact abO this) a (xK i);have k:=f (a++(aO t).map λo=>kQ (o,t)) _ j (λt h=>g t (.tail _ h)) (by rw[cU,dm,kc];have:=g t (.head _);exact XJ i this);rw[eO]at k;rw[yx];exact lC l rfl h1 k
theorem Wq:dD.flatMap (λt=>(aO t).map λo=>kQ (o,t))=lw.map kQ:=rfl
theorem Mi{O:List S}{Y:List T}(c:O.length=52)(b:O[49]?=some .no)(a:O[50]?=some .no):
  iE none (cM (cn [49,50] (.nm 49) (iR (dK (.int 6))) (λ_ Y=>some (true,Y)) (oF [49,50] (.nm 50) (iR (dV 49)) (λ_ Y=>some (true,Y)) (cF rX)) (.own []))) O Y=some (oS 0 (lw.map kQ),Y):=by
 have h:=P2 (Y:=Y) c a dD [] O (.refl O) (by decide) (by decide);rw[Wq,eE]at h;rw[<- yC];exact Eh (fO (eL (kY b (eW a)) (jA be rfl (by decide)) h) rfl) rfl rfl
noncomputable def nu(cV:Nat):Od:=⟨1+((cV%3:Nat):Int),1-2*((cV/9%2:Nat):Int),4+((cV/3%3:Nat):Int),1-2*((cV/18%2:Nat):Int)⟩
theorem EJ(cV:Nat):(nu cV).Ok:=by
 refine⟨?_,?_,?_,?_⟩<;>unfold nu<;>dsimp only<;>lia
theorem sH(a b:Nat)(h:0<b):dp .Mod (.int (a:Int)) (.int (b:Int))=some (.int ((a%b:Nat):Int)):=by rw[l9 (Aw h)];exact congrArg _ (congrArg _ (oN a b))
theorem BZ(a b:Nat)(h:0<b)(h2:b<2^64):dp .FloorDiv (.int (a:Int)) (.int (b:Int))=some (.int ((a/b:Nat):Int)):=by rw[m7 (Aw h) (Qy h2)];exact congrArg _ (congrArg _ (qC a b))
section
variable{O:List S}{Y:List T}(hl:O.length=52)
include hl
theorem MR{a:List Nat}{cV:Nat}(h1:O[1]?=some (.own (bv a)))(hd:a[15]?=some cV)(b:a.length=16):vZ O Y=some (.nx,(O.set 15 (.v (.int (cV:Int)))).set 16 (.own []),Y):=by
 unfold vZ;refine zK (bN (bM (aM h1 rfl) be rfl (gL (j:=15) (t:=.int (cV:Int)) ?_ (by rw[iw];exact BE b))) (bN (gp dh) cv)) rfl (rc rfl (l0 hl rfl)) (oE rfl (l1 hl rfl));unfold bv;rw[fR,hd];rfl
theorem Wj{cV:Nat}(a:O[15]?=some (.v (.int (cV:Int)))):xp O Y=some (.nx,O.set 17 (.v (cO (nu cV))),Y):=by
 have c:=sH cV 3 (by decide);have d:=BZ cV 9 (by decide) (by decide);have e:=sH (cV/9) 2 (by decide);have d2:=BZ cV 3 (by decide) (by decide);have m3:=sH (cV/3) 3 (by decide);have f:=BZ cV 18 (by decide) (by decide);have g:=sH (cV/18) 2 (by decide);have b:∀ n:Nat,dp .Mult (.int 2) (.int (n:Int))=some (.int (2*(n:Int))):=λn=>pD (.inl (by decide));unfold xp;exact ef (t:=cO (nu cV)) (gp (bQ (eD (bQ be rfl (bQ be rfl dh))) rfl
  (bQ (eD (bQ (bV be rfl (bV (aM a rfl) rfl be rfl c) rfl rfl) rfl (bQ (bV be rfl (bV be rfl (bV (bV (aM a rfl) rfl be rfl d) rfl be rfl e) rfl (b _)) rfl rfl) rfl dh))) rfl
  (bQ (eD (bQ (bV be rfl (bV (bV (aM a rfl) rfl be rfl d2) rfl be rfl m3) rfl rfl) rfl (bQ (bV be rfl (bV be rfl (bV (bV (aM a rfl) rfl be rfl f) rfl be rfl g) rfl (b _)) rfl rfl) rfl dh))) rfl dh)))) rfl (cC rfl (l0 hl rfl))
end
theorem zx{σ0:List S}(d:σ0.length=52){a b c:T}:∀ O,bg [49,50,51] σ0 O->∃ I,bU [49,50,51] (.tp [.nm 49,.nm 50,.nm 51]) (.tup [a,b,c]) O=some I/\bg [49,50,51] σ0 I/\(I[49]?=some (.v a)/\I[50]?=some (.v b)/\I[51]?=some (.v c)):=λO h=>
 (nw (((O.set 49 (.v a)).set 50 (.v b)).set 51 (.v c)) (qj (hM (cC rfl (l0 (h.len d) rfl)) (hM (cC rfl (l1 (h.len d) rfl)) (hM (cC rfl (l2 (h.len d) rfl)) oI)))) (((h.set rfl _).set rfl _).set rfl _)
  (aW rfl (aW rfl (bS (l0 (h.len d) rfl)))) (aW rfl (bS (l1 (h.len d) rfl))) (bS (l2 (h.len d) rfl)))
noncomputable def iY(o:Od)(b:Nat×Nat×V3):T:=.tup [.int (b.1:Int),.int (b.2.1:Int),.int (bH o b.2.2)]
section
variable{O:List S}{Y:List T}(hl:O.length=52)
include hl
theorem Ut{o:Od}(l:o.Ok){d:List (Nat×Nat×V3)}{c:S}(h5:O[5]?=some (.own (d.map ez)))(e:O[17]?=some (.v (cO o)))(f:O[18]?=some c)(m:c.adF=false)(g:O[49]?=some .no)(h:O[50]?=some .no)(i:O[51]?=some .no)(n:d.length<=1000):
  xv O Y=some (.nx,O.set 18 (.v (.lst (d.map (iY o)))),Y):=by
 have k:=ga (bind:=bU [49,50,51] (.tp [.nm 49,.nm 50,.nm 51])) (test:=λ_ Y=>some (true,Y)) (fx:=DM) (Y:=Y) ez (λ_=>true) (iY o) (bg [49,50,51] O) (λ(b:Nat×Nat×V3) (I:List S)=>I[49]?=some (S.v (T.int (b.1:Int)))/\I[50]?=some (S.v (T.int (b.2.1:Int)))/\I[51]?=some (S.v (tB b.2.2)))
  d [] O (.refl O) (by simp;exact dU n) (λa _=>zx hl) (λ_ _ _ _ _=>rfl) (λb q I p j _=>(aS (.v (iY o b)) (eD (bQ (aM j.1 rfl) rfl (bQ (aM j.2.1 rfl) rfl (bQ (db (bN (db (bN (aM j.2.2 rfl) cv) (Iv b.2.2 Y)) (bN (aM (p.get e rfl) rfl) cv)) (G3 l b.2.2 Y)) rfl dh)))) rfl))
 rw[g9,eE]at k;unfold xv;exact tz f m (eL (kY g (kY h (eW i))) (ia (aM h5 rfl) rfl rfl) k) rfl rfl (l0 hl rfl)
end
theorem Rs:((aO 32).all λm=>(aO 6).all λk=>((dp .BitAnd (.int ((m:Int).fdiv (2^k))) (.int 1)).bind T.int?)==some (if m.testBit k then 1 else 0))=true:=by decide+kernel
noncomputable def ji(m k:Nat):Int:=if m.testBit k then 1 else 0
theorem Zj{m k:Nat}(a:m<32)(hk:k<6):dp .BitAnd (.int ((m:Int).fdiv (2^((k:Int)).toNat))) (.int 1)=some (.int (ji m k)):=by
 have:=c8.mp (c8.mp Rs m (eu.mpr a)) k (eu.mpr hk);rw[mM];exact aX (λt e h=>e.trans (congrArg some (T.adV h))) (dN this)
theorem aaK{J:Type}(p:J->Bool)(f:J->Int)(l:List J):fe ((l.filter p).map f)=fe (l.map λa=>if p a=true then f a else 0):=by
 induction l with
 |nil=>rfl
 |cons a l b=>
  by_cases h:p a=true
  ·rw[rW h,cB,cB];show f a+fe _=(if p a=true then f a else 0)+fe _;rw[b,if_pos h]
  ·rw[uJ h,cB,b];show _=(if p a=true then f a else 0)+fe _;rw[if_neg h];exact Bl
theorem Lq(c:V3->Int)(w:Nat->Nat->V3)(s:Nat->Bool)(u x:Nat):dq (cw c w) s u x=if (s x != s u)=true then c (w u x)else 0:=by
 unfold dq cw;cases s u<;>cases s x<;>rfl
theorem Gw(c:V3->Int)(a:Nat->V3)(m:Nat):fe (((dy a 15).filter λb=>eM m b.1 != eM m b.2.1).map λb=>c b.2.2)=iq c (wp a 15) m:=by
 rw[aaK];have e:dy a 15=[(0,1,a 0),(0,2,a 1),(1,2,a 2),(0,3,a 3),(1,3,a 4),(2,3,a 5),(0,4,a 6),(1,4,a 7),(2,4,a 8),(3,4,a 9),(0,5,a 10),(1,5,a 11),(2,5,a 12),(3,5,a 13),(4,5,a 14)]:=rfl;rw[e];unfold iq;simp only[jY,iD,fX,fZ,Lq,cB,rS,Ag,abB];have d:wp a 15 1 0=a 0:=rfl;have f:wp a 15 2 0=a 1:=rfl;have g:wp a 15 2 1=a 2:=rfl;have h:wp a 15 3 0=a 3:=rfl;have i:wp a 15 3 1=a 4:=rfl;have j:wp a 15 3 2=a 5:=rfl;have k:wp a 15 4 0=a 6:=rfl;have l:wp a 15 4 1=a 7:=rfl;have n:wp a 15 4 2=a 8:=rfl;have o:wp a 15 4 3=a 9:=rfl;have p:wp a 15 5 0=a 10:=rfl;have q:wp a 15 5 1=a 11:=rfl;have r:wp a 15 5 2=a 12:=rfl;have s:wp a 15 5 3=a 13:=rfl;have t:wp a 15 5 4=a 14:=rfl;rw[d,f,g,h,i,j,k,l,n,o,p,q,r,s,t];exact Yx
noncomputable def kP(o:Od)(a:List (Nat×Nat×V3))(m:Nat):Int:=fe ((a.filter λb=>eM m b.1 != eM m b.2.1).map λb=>bH o b.2.2)
theorem Rt(m i j:Nat):(ji m i != ji m j)=(eM m i != eM m j):=by
 unfold ji eM;cases m.testBit i<;>cases m.testBit j<;>rfl
theorem ZL{o:Od}{bs:List (Nat×Nat×V3)}{O:List S}{Y:List T}{m:Nat}{g:List T}(j:O.length=52)(r:O[16]?=some (.own g))(s:O[18]?=some (.v (.lst (bs.map (iY o)))))(t:O[19]?=some (.v (.int (m:Int))))(l:O[49]?=some .no)(u:O[50]?=some .no)(w:O[51]?=some .no)
  (B:m<32) (C:bs.length<=1000) (D:∀ b∈bs,b.1<6/\b.2.1<6) (hc:g.length<=1000) :
  ∃ U,Ca O Y=some (.nx,U,Y)/\bg [16,20] O U/\U[16]?=some (.own (g++[.int (kP o bs m)])):=by
 have z:=ga (bind:=bU [49] (.nm 49)) (test:=λ_ Y=>some (true,Y)) (fx:=zM) (Y:=Y) (λk:Nat=>T.int (k:Int)) (λ_=>true) (λk=>T.int (ji m k)) (bg [49] O) (λ(k:Nat) (I:List S)=>I[49]?=some (S.v (T.int (k:Int))))
  (aO 6) [] O (.refl O) (by decide) (λa _=>ib j) (λ_ _ _ _ _=>rfl) (λk hk I q e _=>(aS (.v (.int (ji m k))) (bV (bV (aM (q.get t rfl) rfl) rfl (aM e rfl) rfl (AA (kx))) rfl be rfl (Zj B (eu.mp hk))) rfl))
 rw[g9,eE]at z;have a1:jB (aO 52) 20 (cM (cn [49] (.nm 49) (iR (dK (.int 6))) (λ_ Y=>some (true,Y)) (cF zM) (.own []))) O Y=some (.nx,O.set 20 (.own ((aO 6).map λk=>T.int (ji m k))),Y):=
  s8 (fO (eL (eW l) (jA be rfl (by decide)) z) rfl) rfl rfl (l0 j rfl)
 have d:bg [16,20] O (O.set 20 (.own ((aO 6).map λk=>T.int (ji m k)))):=(bg.refl O).set rfl _;have x:(O.set 20 (.own ((aO 6).map λk=>T.int (ji m k))))[20]?=some (.own ((aO 6).map λk=>T.int (ji m k))):=bS (l0 j rfl);have y:(O.set 20 (.own ((aO 6).map λk=>T.int (ji m k))))[16]?=some (.own g):=aW rfl r;generalize O.set 20 (.own ((aO 6).map λk=>T.int (ji m k)))=f at*;have n:∀ {i:Nat},i<6->((aO 6).map λk=>T.int (ji m k))[i]?=some (T.int (ji m i)):=λh=>by
  rw[fR,rJ h];rfl
 have hq:∀ b∈bs,∀ I,bg [49,50,51] f I->(I[49]?=some (S.v (T.int (b.1:Int)))/\I[50]?=some (S.v (T.int (b.2.1:Int)))/\I[51]?=some (S.v (T.int (bH o b.2.2))))->sr I Y=some (eM m b.1 != eM m b.2.1,Y):=λb p I q e=>by
  refine bn (D b p) λE F=>?_;have c:=q.get x rfl;rw[<- Rt];exact jl (bM (aM c rfl) (aM e.1 rfl) rfl (gL (n E) (by simp))) rfl (bM (aM c rfl) (aM e.2.1 rfl) rfl (gL (n F) (by simp))) rfl rfl
 have A:=ga (bind:=bU [49,50,51] (.tp [.nm 49,.nm 50,.nm 51])) (test:=sr) (fx:=BY) (Y:=Y) (iY o) (λb=>eM m b.1 != eM m b.2.1) (λb=>T.int (bH o b.2.2)) (bg [49,50,51] f) (λ(b:Nat×Nat×V3) (I:List S)=>I[49]?=some (S.v (T.int (b.1:Int)))/\I[50]?=some (S.v (T.int (b.2.1:Int)))/\I[51]?=some (S.v (T.int (bH o b.2.2))))
  bs [] f (.refl f) (by simp;exact dU C) (λa _=>zx (d.len j)) hq (λb p I q e _=>(aS (.v (.int (bH o b.2.2))) (aM e.2.2 rfl) rfl))
 rw[eE]at A;have G:jo (.fr ((bs.filter λb=>eM m b.1 != eM m b.2.1).map λb=>T.int (bH o b.2.2)))=some (.v (.int (kP o bs m))):=by
  have:=A6 ((bs.filter λb=>eM m b.1 != eM m b.2.1).map λb=>bH o b.2.2);rw[il]at this;exact this
 have a2:dJ 16 (bL [cM (cn [49,50,51] (.tp [(.nm 49),(.nm 50),(.nm 51)]) (iL none (dV 18)) sr (cF BY) (.own []))] (cD jo)) f Y=some (.nx,f.set 16 (.own (g++[.int (kP o bs m)])),Y):=
  qH (db (bN (fO (eL (kY (d.get l rfl) (kY (d.get u rfl) (eW (d.get w rfl)))) (ia (aM (d.get s rfl) rfl) rfl rfl) A) rfl) cv) (gk G)) rfl y (dU hc)
 exact(cI _ (bz a1 (bz a2 dT)) (d.set rfl _) (bS (l0 (d.len j) rfl)))
theorem aa9{o:Od}{a:List (Nat×Nat×V3)}{Y:List T}(t:a.length<=1000)(u:∀ b∈a,b.1<6/\b.2.1<6):∀ (k m:Nat) (O:List S),m+k=32->O.length=52->O[16]?=some (.own ((aO m).map λm=>T.int (kP o a m)))->O[18]?=some (.v (.lst (a.map (iY o))))->O[49]?=some .no->O[50]?=some .no->O[51]?=some .no->
  ∃ U,em (bU (aO 52) (.nm 19)) Ca ((Ct m k).map λ(j:Nat)=>T.int (j:Int)) O Y=some (.nx,U,Y)/\bg [16,19,20] O U/\U[16]?=some (.own ((aO 32).map λm=>T.int (kP o a m))):=by
 intro n;induction n with
 |zero=>
  intro m O hk i c d e f g;have:m=32:=Ph hk;subst this;exact(cI O rfl (.refl O) c)
 |succ k p=>
  intro m O hk i c d e f g;have v:bU (aO 52) (.nm 19) (T.int (m:Int)) O=some (O.set 19 (.v (.int (m:Int)))):=cC rfl (l0 i rfl);have r:bg [16,19,20] O (O.set 19 (.v (.int (m:Int)))):=(bg.refl O).set rfl _;refine aQ λq=>?_;obtain⟨l,w,x,s⟩:=ZL (o:=o) (bs:=a) (O:=O.set 19 (.v (.int (m:Int)))) (Y:=Y) (m:=m) (r.len i) (aW rfl c) (aW rfl d) (bS (l0 i rfl)) (aW rfl e) (aW rfl f) (aW rfl g) (RE hk) t u (by rw[dm,kc];exact QT hk);refine q ?_;have y:(aO m).map (λm=>T.int (kP o a m))++[.int (kP o a m)]=(aO (m+1)).map λm=>T.int (kP o a m):=by rw[Kk,mO];rfl
  rw[y]at s;have h:bg [16,19,20] O l:=r.trans (x.mono (by decide));refine aQ λq=>?_;obtain⟨U,f1,f2,z⟩:=p (m+1) l (S7 hk) (h.len i) s (h.get d rfl) (h.get e rfl) (h.get f rfl) (h.get g rfl);refine q ?_;rw[Cu,cB];exact(cI U (gj v w f1) (h.trans f2) z)
theorem QB{O:List S}{Y:List T}{o:Od}(b:O.length=52)(c:O[17]?=some (.v (cO o)))(d:O[49]?=some .no):vI O Y=some (.nx,(((O.set 21 (.v (.inst (cO o)))).set 22 (.own (bv dD))).set 23 (.own (dD.map λn=>T.int ((2^n:Nat):Int)))).set 24 (.own []),Y):=by
 have g:=ga (bind:=bU [49] (.nm 49)) (test:=λ_ Y=>some (true,Y)) (fx:=Dz) (Y:=Y) (λk:Nat=>T.int (k:Int)) (λ_=>true) (λn=>T.int ((2^n:Nat):Int)) (bg [49] O) (λ(k:Nat) (I:List S)=>I[49]?=some (S.v (T.int (k:Int))))
  dD [] O (.refl O) (by decide) (λa _=>ib b) (λ_ _ _ _ _=>rfl) (λk hk I i h _=>(aS (.v (.int ((2^k:Nat):Int))) ?_ rfl))
 ·rw[g9,eE]at g;unfold vI;exact WX (bN (Pd (aM c rfl) rfl) (bN (OF be rfl (by decide)) (bN (fO (eL (eW d) (jA be rfl (by decide)) g) rfl) (bN (gp dh) cv)))) rfl (rc rfl (l0 b rfl)) (oE rfl (l1 b rfl)) (oE rfl (l2 b rfl)) (oE rfl (l3 b rfl))
 ·have f:k<6:=by unfold dD at hk;simp at hk;exact tQ hk
  refine bV be rfl (aM h rfl) rfl ?_;rw[sh (kx) (M0 f) (by decide),mM];have e:(2:Int)^k=((2^k:Nat):Int):=by simp
  rw[e]
noncomputable def nA:List Nat:=[2,5,6,7,8,9,10,11,12,13,14,15,16,17,18,19,20,21,22,23,24]
theorem Dl(a:List Nat):∀ p<15,∀ c,jH c->0<=c (du a p)/\c (du a p)<=3:=λp _ c hc=>OS (Bm _) c hc
theorem HW(a:Nat->V3):∀ b∈dy a 15,b.1<6/\b.2.1<6:=λb c=>by
 refine aQ λd=>aV (eh.mp c) λk hk e=>?_;subst e;exact bO (yV (eu.mp hk)) λh1 h2 _=>d ⟨h1,h2⟩
noncomputable def qi(a:List Nat):Nat->Nat->V3:=wp (du a) 15
noncomputable def rh(o:Od)(a:Nat->Nat->V3):List T:=(aO 32).map λm=>T.int (iq (bH o) a m)
theorem NU(o:Od)(a:Nat->Nat->V3):∀ p,p<=31->(rh o a)[p]?=some (.int (iq (bH o) a p)):=λp b=>by
 unfold rh;rw[fR,rJ (Jj b)];rfl
theorem LO{f:List Nat}(u:f.length=16){O:List S}(j:O.length=52)(h1:O[1]?=some (.own (bv f)))(h4:O[4]?=some .nts)(h5:O[5]?=some (.own []))(M:O[12]?=some .no)(N:O[18]?=some .no)(P:O[31]?=some .no)(Q:O[41]?=some .no)(p:O[49]?=some .no)(s:O[50]?=some .no)(C:O[51]?=some .no):
  ∃ U q,(∀ (R:bC) (V:Mine.Internal.Fl) (v:List S) (w:List T),R U q=some (V,v,w)->aZ vY (aZ wd (aZ vZ (aZ xp (aZ xv (aZ vz (aZ vI R)))))) O []=some (V,v,w))/\
   bg nA O U/\qg (nu (f.getD 15 0)) (qi f) (rh (nu (f.getD 15 0)) (qi f)) [] ((f.getD 15 0:Nat):Int) dD U/\U[5]?=some (.own ((dy (du f) 15).map ez))/\dG q/\q.length<=30:=by
 have hd:f[15]?=some (f.getD 15 0):=by rw[yn,gv (Xr u)];rfl
 have ho:=EJ (f.getD 15 0);generalize f.getD 15 0=cV at*;generalize W:nu cV=o at*;have a1:=NN (Y:=[]) j p;have t:bg nA O (O.set 6 (.own ((aO 6).map λ_=>bR v0 []))):=(bg.refl O).set rfl _;have p6:(O.set 6 (.own ((aO 6).map λ_=>bR v0 [])))[6]?=some (.own ((aO 6).map λ_=>bR v0 [])):=bS (l0 j rfl);have p5:(O.set 6 (.own ((aO 6).map λ_=>bR v0 [])))[5]?=some (.own ((dy (du f) 0).map ez)):=aW rfl h5;have X:(O.set 6 (.own ((aO 6).map λ_=>bR v0 [])))[12]?=some .no:=aW rfl M;have Z:(O.set 6 (.own ((aO 6).map λ_=>bR v0 [])))[18]?=some .no:=aW rfl N;generalize O.set 6 (.own ((aO 6).map λ_=>bR v0 []))=D at*;obtain⟨h,q,bk,B,b1,b2,b3,b4,b5,b6,b7,b8⟩:=UB u 15 0 (λ_=>(v0,[])) ((aO 6).map λ_=>bR v0 []) D [] rfl (t.len j) (t.get h1 rfl) (t.get h4 rfl) p5 p6 (aS _ X rfl) (t.get p rfl) (t.get s rfl) rfl
  (λn r=>⟨by rw[fR,rJ r];rfl,Vh _ n⟩) (by decide)
 have a2:wd D []=some (.nx,h,q):=by
  unfold wd;exact iC (Mi (t.len j) (t.get p rfl) (t.get s rfl)) b1
 have E:bg nA O h:=t.trans (b2.mono (by decide));have a0:h[18]?=some .no:=b2.get Z rfl;clear b1;have a3:=MR (Y:=q) (E.len j) (E.get h1 rfl) hd u;have s3:bg nA O ((h.set 15 (.v (.int (cV:Int)))).set 16 (.own [])):=(E.set rfl _).set rfl _;have F:((h.set 15 (.v (.int (cV:Int)))).set 16 (.own []))[15]?=some (.v (.int (cV:Int))):=aW rfl (bS (l0 (E.len j) rfl));have a8:((h.set 15 (.v (.int (cV:Int)))).set 16 (.own []))[16]?=some (.own []):=bS (l1 (E.len j) rfl);have r5:((h.set 15 (.v (.int (cV:Int)))).set 16 (.own []))[5]?=some (.own ((dy (du f) 15).map ez)):=aW rfl (aW rfl b3);have r6:((h.set 15 (.v (.int (cV:Int)))).set 16 (.own []))[6]?=some (.own B):=aW rfl (aW rfl b4);have a9:((h.set 15 (.v (.int (cV:Int)))).set 16 (.own []))[18]?=some .no:=aW rfl (aW rfl a0);generalize (h.set 15 (.v (.int (cV:Int)))).set 16 (.own [])=k at*;have a4:=Wj (Y:=q) (s3.len j) F;rw[W]at a4;have A:bg nA O (k.set 17 (.v (cO o))):=s3.set rfl _;have G:(k.set 17 (.v (cO o)))[17]?=some (.v (cO o)):=bS (l0 (s3.len j) rfl);have t5:(k.set 17 (.v (cO o)))[5]?=some (.own ((dy (du f) 15).map ez)):=aW rfl r5;have t6:(k.set 17 (.v (cO o)))[6]?=some (.own B):=aW rfl r6;have aa:(k.set 17 (.v (cO o)))[15]?=some (.v (.int (cV:Int))):=aW rfl F;have ab:(k.set 17 (.v (cO o)))[16]?=some (.own []):=aW rfl a8;have ad:(k.set 17 (.v (cO o)))[18]?=some .no:=aW rfl a9;generalize k.set 17 (.v (cO o))=l at*;have H:(dy (du f) 15).length<=1000:=by unfold dy;rw[dm,kc];decide
 have a5:=Ut (Y:=q) (A.len j) ho t5 G ad rfl (A.get p rfl) (A.get s rfl) (A.get C rfl) H;have I:bg nA O (l.set 18 (.v (.lst ((dy (du f) 15).map (iY o))))):=A.set rfl _;have ae:(l.set 18 (.v (.lst ((dy (du f) 15).map (iY o)))))[18]?=some (.v (.lst ((dy (du f) 15).map (iY o)))):=bS (l0 (A.len j) rfl);have u5:(l.set 18 (.v (.lst ((dy (du f) 15).map (iY o)))))[5]?=some (.own ((dy (du f) 15).map ez)):=aW rfl t5;have u6:(l.set 18 (.v (.lst ((dy (du f) 15).map (iY o)))))[6]?=some (.own B):=aW rfl t6;have af:(l.set 18 (.v (.lst ((dy (du f) 15).map (iY o)))))[15]?=some (.v (.int (cV:Int))):=aW rfl aa;have ag:(l.set 18 (.v (.lst ((dy (du f) 15).map (iY o)))))[16]?=some (.own []):=aW rfl ab;have ah:(l.set 18 (.v (.lst ((dy (du f) 15).map (iY o)))))[17]?=some (.v (cO o)):=aW rfl G;generalize l.set 18 (.v (.lst ((dy (du f) 15).map (iY o))))=J at*;refine aQ λnG=>eo (aa9 (o:=o) (Y:=q) H (HW _) 32 0 J rfl (I.len j) ag ae (I.get p rfl) (I.get s rfl) (I.get C rfl)) λi c1 K c3=>nG ?_;have a6:vz J q=some (.nx,i,q):=by
  unfold vz;exact iC (jA be rfl (by decide)) c1
 have eC:((aO 32).map λm=>T.int (kP o (dy (du f) 15) m))=rh o (qi f):=by
  unfold rh;refine us λm _=>?_;unfold kP;rw[Gw (bH o) (du f) m];rfl
 rw[eC]at c3;have x:bg nA O i:=I.trans (K.mono (by decide));have w5:=K.get u5 rfl;have w6:=K.get u6 rfl;have ai:=K.get af rfl;have L:=K.get ah rfl;have a7:=QB (Y:=q) (x.len j) L (x.get p rfl);have z:bg nA O ((((i.set 21 (.v (.inst (cO o)))).set 22 (.own (bv dD))).set 23 (.own (dD.map λn=>T.int ((2^n:Nat):Int)))).set 24 (.own [])):=(((x.set rfl _).set rfl _).set rfl _).set rfl _;have aj:((((i.set 21 (.v (.inst (cO o)))).set 22 (.own (bv dD))).set 23 (.own (dD.map λn=>T.int ((2^n:Nat):Int)))).set 24 (.own []))[21]?=some (.v (.inst (cO o))):=aW rfl (aW rfl (aW rfl (bS (l0 (x.len j) rfl))));have ak:((((i.set 21 (.v (.inst (cO o)))).set 22 (.own (bv dD))).set 23 (.own (dD.map λn=>T.int ((2^n:Nat):Int)))).set 24 (.own []))[22]?=some (.own (bv dD)):=aW rfl (aW rfl (bS (l1 (x.len j) rfl)));have al:((((i.set 21 (.v (.inst (cO o)))).set 22 (.own (bv dD))).set 23 (.own (dD.map λn=>T.int ((2^n:Nat):Int)))).set 24 (.own []))[23]?=some (.own (dD.map λn=>T.int ((2^n:Nat):Int))):=aW rfl (bS (l2 (x.len j) rfl));have an:((((i.set 21 (.v (.inst (cO o)))).set 22 (.own (bv dD))).set 23 (.own (dD.map λn=>T.int ((2^n:Nat):Int)))).set 24 (.own []))[24]?=some (.own []):=bS (l3 (x.len j) rfl);have g:∀ {m:Nat} {y:S},i[m]?=some y->mG 21 m=false->mG 22 m=false->mG 23 m=false->mG 24 m=false->((((i.set 21 (.v (.inst (cO o)))).set 22 (.own (bv dD))).set 23 (.own (dD.map λn=>T.int ((2^n:Nat):Int)))).set 24 (.own []))[m]?=some y:=λa b c d e=>aW e (aW d (aW c (aW b a)));have x5:=g w5 rfl rfl rfl rfl;have x6:=g w6 rfl rfl rfl rfl;have ao:=g ai rfl rfl rfl rfl;have aq:=g c3 rfl rfl rfl rfl;have ar:=g L rfl rfl rfl rfl;clear g;generalize (((i.set 21 (.v (.inst (cO o)))).set 22 (.own (bv dD))).set 23 (.own (dD.map λn=>T.int ((2^n:Nat):Int)))).set 24 (.own [])=au at*;have m6:∀ n∈dD,n<6:=λn r=>by unfold dD at r;simp at r;exact tQ r
 refine(jz au q (λR V v w hr=>bz a1 (bz a2 (bz a3 (bz a4 (bz a5 (bz a6 (bz a7 hr))))))) z ⟨(qc B _ (qi f) bk (λn=>2^n) ⟨⟨Qw (Dl f) λn r=>(b6 n r).2,λc hc=>Inv.base _,by decide,λn r=>Nat.one_le_two_pow,λn r=>(b6 n (m6 n r)).1,b5,λn r=>?_,by decide⟩,⟨z.len j,z.get h4 rfl,x6,ar,aj,ak,z.get p rfl⟩,al⟩),ao,aq,an,(aS _ (z.get P rfl) rfl),(aS _ (z.get Q rfl) rfl),z.get s rfl⟩ x5 b7 (aax b8));have h6:n=0\/n=1\/n=2\/n=3\/n=4\/n=5:=by have:=m6 n r;exact xn this
 rcases h6 with rfl|rfl|rfl|rfl|rfl|rfl<;>rfl
noncomputable def yQ(v:V3):Rat:=((30*v.r+59*v.g+11*v.b:Int):Rat)/6400
noncomputable def iQ(v:V3):Rat:=((5990*v.r-2773*v.g-3217*v.b:Int):Rat)/640000
noncomputable def qQ(v:V3):Rat:=((2130*v.r-5251*v.g+3121*v.b:Int):Rat)/640000
theorem zD(v:V3):Fl.rI (yQ v) (iQ v) (qQ v)=(v.r:Rat)/64:=by
 unfold Fl.rI yQ iQ qQ;simp only[lP,lO,gK];exact R3
theorem B3(v:V3):Fl.gI (yQ v) (iQ v) (qQ v)=(v.g:Rat)/64:=by
 unfold Fl.gI yQ iQ qQ;simp only[lP,lO,gK];exact MB
theorem z0(v:V3):Fl.bI (yQ v) (iQ v) (qQ v)=(v.b:Rat)/64:=by
 unfold Fl.bI yQ iQ qQ;simp only[lP,lO,gK];exact ZM
theorem abW(a b c d e f:Rat):Fl.rI (8*(a-b)) (8*(c-d)) (8*(e-f))=8*(Fl.rI a c e-Fl.rI b d f):=by unfold Fl.rI;exact La
theorem Oa(a b c d e f:Rat):Fl.gI (8*(a-b)) (8*(c-d)) (8*(e-f))=8*(Fl.gI a c e-Fl.gI b d f):=by unfold Fl.gI;exact VF
theorem ac0(a b c d e f:Rat):Fl.bI (8*(a-b)) (8*(c-d)) (8*(e-f))=8*(Fl.bI a c e-Fl.bI b d f):=by unfold Fl.bI;exact Mw
theorem re{v:V3}(h:v.Ok):0<=yQ v/\yQ v<=3/4:=by
 have:=h.r0;have:=h.r1;have:=h.g0;have:=h.g1;have:=h.b0;have:=h.b1;unfold yQ;have h1:(0:Rat)<=((30*v.r+59*v.g+11*v.b:Int):Rat):=uH.mpr (aa0 ‹_› ‹_› ‹_›);have h2:((30*v.r+59*v.g+11*v.b:Int):Rat)<=((4500:Int):Rat):=gg.mpr (KG ‹_› ‹_› this);have e:((4500:Int):Rat)=4500:=rfl;rw[e]at h2;generalize ((30*v.r+59*v.g+11*v.b:Int):Rat)=z at*;constructor<;>grind
theorem qS{v:V3}(h:v.Ok):-(9/20)<=iQ v/\iQ v<=9/20:=by
 have:=h.r0;have:=h.r1;have:=h.g0;have:=h.g1;have:=h.b0;have:=h.b1;unfold iQ;have h1:((-288000:Int):Rat)<=((5990*v.r-2773*v.g-3217*v.b:Int):Rat):=gg.mpr (Rc ‹_› ‹_› this);have h2:((5990*v.r-2773*v.g-3217*v.b:Int):Rat)<=((288000:Int):Rat):=gg.mpr (Nh ‹_› ‹_› ‹_›);have e:((288000:Int):Rat)=288000:=rfl;have a:((-288000:Int):Rat)=-288000:=rfl;rw[e]at h2;rw[a]at h1;generalize ((5990*v.r-2773*v.g-3217*v.b:Int):Rat)=z at*;constructor<;>grind
theorem rl{v:V3}(h:v.Ok):-(9/20)<=qQ v/\qQ v<=9/20:=by
 have:=h.r0;have:=h.r1;have:=h.g0;have:=h.g1;have:=h.b0;have:=h.b1;unfold qQ;have h1:((-288000:Int):Rat)<=((2130*v.r-5251*v.g+3121*v.b:Int):Rat):=gg.mpr (Xa ‹_› ‹_› ‹_›);have h2:((2130*v.r-5251*v.g+3121*v.b:Int):Rat)<=((288000:Int):Rat):=gg.mpr (YC ‹_› ‹_› this);have e:((288000:Int):Rat)=288000:=rfl;have a:((-288000:Int):Rat)=-288000:=rfl;rw[e]at h2;rw[a]at h1;generalize ((2130*v.r-5251*v.g+3121*v.b:Int):Rat)=z at*;constructor<;>grind
theorem DY{i:Int}(h0:0<=i)(h1:i<=45):(0:Rat)<=(i:Rat)/\(i:Rat)<=45:=by
 refine⟨uH.mpr h0,?_⟩;have:(i:Rat)<=((45:Int):Rat):=gg.mpr h1;exact this
structure uP (V:V3) (zy zi zq:UInt64):Prop where
 y:Fl.Ap zy (yQ V) (1/2^40)
 i:Fl.Ap zi (iQ V) (1/2^40)
 q:Fl.Ap zq (qQ V) (1/2^40)
theorem B7:(2:Rat)^7=128:=by decide+kernel
theorem E7:(2:Rat)^7/2^54=1/2^47:=by decide+kernel
theorem B4:(2:Rat)^4=16:=by decide+kernel
theorem E4:(2:Rat)^4/2^54=1/2^50:=by decide+kernel
open PySem.Float64 in
theorem AD{x:UInt64}{i:Int}(h0:0<=i)(h1:i<=45)(h:Fl.Ap x ((i:Rat)/64) (5/2^40)):Fl.Sm (abs (sub (mul (ofInt 64) x) (ofInt i))) (1/2^31):=by
 refine bn (DY h0 h1) λp0 p1=>?_;have a:=Fl.ap_int (i:=64) 6 (by decide) Fl.E6 (by decide);have c:=Fl.ap_int (i:=i) 6 (by decide) Fl.E6 (NX h0 h1);have b:((64:Int):Rat)=64:=rfl;rw[b]at a;have m:=Fl.ap_mul (P:=64) (Q:=1) 7 (by decide) B7 E7 a h (by decide+kernel) (by decide+kernel) (I2 p1) (abz p0) (by decide+kernel);replace m:=m.mono (e':=330/2^40) (by decide+kernel);have d:(64:Rat)*((i:Rat)/64)=i:=Lh;rw[d]at m;have s:=Fl.ap_sub 1 (by decide) Fl.B1 Fl.E1 m c (Mm) (M1);exact Fl.sm_abs s (Vs) (ZX)
open PySem.Float64 in
theorem ZB{x:UInt64}{z:Int}{p:Rat}(h0:0<=z)(h1:z<=8)(a:8*p=z)(h:Fl.Ap x p (37/2^40)):Fl.Sm (abs (sub (mul (ofInt 8) x) (ofInt z))) (1/2^31):=by
 have p0:(0:Rat)<=z:=uH.mpr h0;have p1:(z:Rat)<=8:=by
  have:(z:Rat)<=((8:Int):Rat):=gg.mpr h1;exact this
 have b:=Fl.ap_int (i:=8) 4 (by decide) E4 (by decide);have c:=Fl.ap_int (i:=z) 4 (by decide) E4 (aam h0 h1);have d:((8:Int):Rat)=8:=rfl;rw[d]at b;have m:=Fl.ap_mul (P:=8) (Q:=1) 4 (by decide) B4 E4 b h (by decide+kernel) (by decide+kernel) (UN a p1) (RQ a p0) (by decide+kernel);replace m:=m.mono (e':=300/2^40) (by decide+kernel);rw[a]at m;have s:=Fl.ap_sub 1 (by decide) Fl.B1 Fl.E1 m c (Vx) (aaO);exact Fl.sm_abs s (aa8) (aa3)
theorem Y3{p:Rat}(h0:0<=p)(h1:p<=1):Fl.clip p=p:=by unfold Fl.clip;grind
theorem UD{V:V3}(hV:V.Ok){a d e:UInt64}(h:uP V a d e):
  Fl.Ap (Fl.clipF (Fl.rF a d e)) ((V.r:Rat)/64) (5/2^40)/\Fl.Ap (Fl.clipF (Fl.gF a d e)) ((V.g:Rat)/64) (5/2^40)/\Fl.Ap (Fl.clipF (Fl.bF a d e)) ((V.b:Rat)/64) (5/2^40):=by
 refine aQ λp=>bn (re hV) λf j=>bn (qS hV) λl m=>bn (rl hV) λn o=>?_;have r:=Fl.r_ap h.y h.i h.q (by decide+kernel) (by decide+kernel) (Bs f) (z8 j) (pQ l) (qa m) (pQ n) (qa o);have g:=Fl.g_ap h.y h.i h.q (by decide+kernel) (by decide+kernel) (Bs f) (z8 j) (pQ l) (qa m) (pQ n) (qa o);have b:=Fl.b_ap h.y h.i h.q (by decide+kernel) (by decide+kernel) (Bs f) (z8 j) (pQ l) (qa m) (pQ n) (qa o);rw[zD]at r;rw[B3]at g;rw[z0]at b;have k:∀ {x:UInt64} {i:Int},0<=i->i<=45->Fl.Ap x ((i:Rat)/64) (4*(1/2^40)+1/2^44)->Fl.Ap (Fl.clipF x) ((i:Rat)/64) (5/2^40):=λ{x i} h0 h1 h=>by
  refine bn (DY h0 h1) λp0 p1=>?_;have c:=(Fl.clip_ap h (by decide+kernel)).mono (e':=5/2^40) (by decide+kernel)
  rwa [Y3 (RW p0) (I2 p1)]at c
 exact p ⟨k hV.r0 hV.r1 r,k hV.g0 hV.g1 g,k hV.b0 hV.b1 b⟩
open PySem.Float64 in
theorem yD{x z:UInt64}{p q:Rat}(b:Fl.Ap x p (1/2^45))(c:Fl.Ap z q (1/2^40))(h1:p-q<=1-1/2^20)(h2:-(1-1/2^20)<=p-q):Fl.Ap (mul (ofInt 8) (sub x z)) (8*(p-q)) (9/2^40):=by
 have s:=Fl.ap_sub 0 (by decide) Fl.B0 Fl.E0 b c (dj (ch (ch h1 dt) dt) (by decide+kernel)) (dj (by decide+kernel) (dA (dA h2 dt) dt));replace s:=s.mono (e':=17/2^44) (by decide+kernel);have a:=Fl.ap_int (i:=8) 4 (by decide) E4 (by decide);have d:((8:Int):Rat)=8:=rfl;rw[d]at a;have m:=Fl.ap_mul (P:=8) (Q:=1) 4 (by decide) B4 E4 a s (by decide+kernel) (by decide+kernel) (dj h1 (by decide+kernel)) (dj (by decide+kernel) h2) (by decide+kernel);exact m.mono (by decide+kernel)
noncomputable def fy(d:Int):Int:=if (if d<8 then d else 8)>0 then(if d<8 then d else 8)else 0
theorem Ef(d:Int):0<=fy d/\fy d<=8/\8*Fl.clip (8*((d:Rat)/64))=(fy d:Rat):=by
 have e:((8:Int):Rat)=8:=rfl;have h0:((0:Int):Rat)=0:=rfl;have key:fy d=if d<=0 then 0 else if 8<=d then 8 else d:=by
  unfold fy;repeat' split;all_goals lia
 have c:0<=fy d/\fy d<=8:=by
  rw[key];repeat' split;all_goals lia
 refine⟨c.1,c.2,?_⟩;rw[key];by_cases a:d<=0
 ·rw[if_pos a,h0];have:(d:Rat)<=0:=by
   have:(d:Rat)<=((0:Int):Rat):=gg.mpr a;exact this
  unfold Fl.clip;grind
 ·rw[if_neg a];have a1:(0:Rat)<d:=Rat.intCast_pos.mpr (W2 a);by_cases b:8<=d
  ·rw[if_pos b,e];have:(8:Rat)<=d:=by
    have:((8:Int):Rat)<=(d:Rat):=gg.mpr b;exact this
   unfold Fl.clip;grind
  ·rw[if_neg b];have:(d:Rat)<=8:=by
    have:(d:Rat)<=((8:Int):Rat):=gg.mpr (Int.le_of_not_le b);exact this
   unfold Fl.clip;grind
theorem abH{V l:V3}(hV:V.Ok)(a:l.Ok){y i q:UInt64}(d:Fl.Ap y (8*(yQ l-yQ V)) (9/2^40))(hi:Fl.Ap i (8*(iQ l-iQ V)) (9/2^40))(hq:Fl.Ap q (8*(qQ l-qQ V)) (9/2^40)):
  Fl.Ap (Fl.clipF (Fl.rF y i q)) (Fl.clip (8*(((l.r-V.r:Int):Rat)/64))) (37/2^40)/\Fl.Ap (Fl.clipF (Fl.gF y i q)) (Fl.clip (8*(((l.g-V.g:Int):Rat)/64))) (37/2^40)/\Fl.Ap (Fl.clipF (Fl.bF y i q)) (Fl.clip (8*(((l.b-V.b:Int):Rat)/64))) (37/2^40):=by
 refine aQ λB=>bn (re hV) λf m=>bn (qS hV) λn o=>bn (rl hV) λp s=>bn (re a) λt u=>bn (qS a) λv w=>bn (rl a) λz A=>?_;have r:=Fl.r_ap d hi hq (by decide+kernel) (by decide+kernel) (zN m t) (BL f u) (ra o v) (pY n w) (ra s z) (pY p A);have g:=Fl.g_ap d hi hq (by decide+kernel) (by decide+kernel) (zN m t) (BL f u) (ra o v) (pY n w) (ra s z) (pY p A);have b:=Fl.b_ap d hi hq (by decide+kernel) (by decide+kernel) (zN m t) (BL f u) (ra o v) (pY n w) (ra s z) (pY p A);rw[abW,zD,zD]at r;rw[Oa,B3,B3]at g;rw[ac0,z0,z0]at b;have k:∀ {x:UInt64} {i j:Int},Fl.Ap x (8*((i:Rat)/64-(j:Rat)/64)) (4*(9/2^40)+1/2^44)->Fl.Ap (Fl.clipF x) (Fl.clip (8*(((i-j:Int):Rat)/64))) (37/2^40):=λ{x i j} h=>by
  have c:=(Fl.clip_ap h (by decide+kernel)).mono (e':=37/2^40) (by decide+kernel);have e:8*((i:Rat)/64-(j:Rat)/64)=8*(((i-j:Int):Rat)/64):=by rw[lO];exact LW
  rwa [e]at c
 exact B ⟨k r,k g,k b⟩
abbrev Lr:=V3×Nat
noncomputable def lT(o:Od)(r:Lr):T:=jE o r.1 r.2
noncomputable def mv(o:Od)(p q:Lr):Lr:=if bH o q.1<bH o p.1 then q else p
theorem Of{o:Od}(f:o.Ok){O:List S}{Y:List T}{p q:Lr}(g:O.length=52)(h4:O[4]?=some .nts)(c:O[21]?=some (.v (.inst (cO o))))(a:O[32]?=some (.v (lT o p)))(b:O[33]?=some (.v (lT o q)))
  (i:p.1.Ok) (hq:q.1.Ok) (d:Y.length<=1000000) :
  ∃ n,vt O Y=some (.nx,O.set 32 (.v (lT o (mv o p q))),Y++[n])/\kz n:=by
 refine(mQ (.tup [.int (eX (bH o q.1) (bH o p.1)),.int (eX (bH o q.1) (bH o p.1))]) ?_ _ _ rfl (eq_int _ _));unfold vt;refine bz (ll (eD (bQ (E5 (aM c rfl) (bN (bM (aM b rfl) be rfl rfl) (bN (bM (aM a rfl) be rfl rfl) cv)) (ED f hq i Y)) rfl (bQ (bV (kW (bM (aM b rfl) be rfl rfl) rfl (bM (aM a rfl) be rfl rfl) rfl rfl) rfl (kW (bM (aM b rfl) be rfl rfl) rfl (bM (aM a rfl) be rfl rfl) rfl rfl) rfl (Dm _ _)) rfl dh))) rfl h4 d)
  (bz (ef (t:=lT o (mv o p q)) (x:=.v (lT o (mv o p q))) ?_ rfl (cC rfl (l0 g rfl))) dT)
 have e:∀ Y,tC .Lt (aR (dV 33) (dK (.int 0))) (aR (dV 32) (dK (.int 0))) O Y=some (decide (bH o q.1<bH o p.1),Y):=λY=>jl (bM (aM b rfl) be rfl rfl) rfl (bM (aM a rfl) be rfl rfl) rfl rfl;unfold mv;by_cases h:bH o q.1<bH o p.1
 ·rw[if_pos h];exact yH (by rw[e,decide_eq_true h]) (aM b rfl)
 ·rw[if_neg h];exact yE (by rw[e,decide_eq_false h]) (aM a rfl)
theorem QH{o:Od}(r:o.Ok){i:Nat->Nat->V3}:∀ (f:List Lr) (p:Lr) (O:List S) (Y:List T),O.length=52->O[4]?=some .nts->O[21]?=some (.v (.inst (cO o)))->O[32]?=some (.v (lT o p))->me o i p.1 p.2->(∀ q∈f,me o i q.1 q.2)->Y.length+f.length<=1000000->
  ∃ U b g,em (bU (aO 52) (.nm 33)) vt (f.map (lT o)) O Y=some (.nx,U,Y++b)/\bg [32,33] O U/\U[32]?=some (.v (lT o g))/\me o i g.1 g.2/\dG b/\b.length<=f.length:=by
 intro k;induction k with
 |nil=>
  intro p O Y e h4 c d j hq a;exact(dF O [] p ⟨(by rw[gW];rfl),.refl O,d,j,.nil,cu _⟩)
 |cons q f l=>
  intro p O Y e h4 c d j hq a;refine aQ λs=>?_;simp only[cK]at a;refine aV (Of (O:=O.set 33 (.v (lT o q))) r (p:=p) (q:=q) (Y:=Y) (by rw[fH];exact e) (aW rfl h4) (aW rfl c) (aW rfl d) (bS (vB e)) j.1 (hq q (.head _)).1 (kD a)) λn t u=>?_;have sm:bg [32,33] O ((O.set 33 (.v (lT o q))).set 32 (.v (lT o (mv o p q)))):=((bg.refl O).set rfl _).set rfl _;have m:me o i (mv o p q).1 (mv o p q).2:=by unfold mv;split;exact hq q (.head _);exact j
  refine Bt (l (mv o p q) _ (Y++[n]) (sm.len e) (sm.get h4 rfl) (sm.get c rfl) (bS (by simp only[fH];exact Eg e)) m (λq h=>hq q (.tail _ h)) (by rw[cU];simp;exact m0 a)) λU b g h1 h2 h3 h5 h6 v=>s (dF U (n::b) g ⟨?_,sm.trans h2,h3,h5,(dG.one u).app h6,(by simp only[cK];exact wS v)⟩);rw[show Y++n::b=Y++[n]++b by simp];exact gj (cC rfl (vB e)) t h1
theorem abk:((aO 64).all λm=>(aO 6).all λi=>(aO 6).all λj=>(((dp .BitXor (.int ((m:Int).fdiv (2^i))) (.int ((m:Int).fdiv (2^j)))).bind T.int?).bind λz=>((dp .BitAnd (.int z) (.int 1)).bind T.int?).map λy=>decide (y≠0))==some (m.testBit i != m.testBit j))=true:=by decide+kernel
theorem K0{m i j:Nat}(a:m<64)(hi:i<6)(b:j<6):∃ z y,dp .BitXor (.int ((m:Int).fdiv (2^((i:Int)).toNat))) (.int ((m:Int).fdiv (2^((j:Int)).toNat)))=some (.int z)/\dp .BitAnd (.int z) (.int 1)=some (.int y)/\oh (.int y)=some (eM m i != eM m j):=by
 have:=c8.mp (c8.mp (c8.mp abk m (eu.mpr a)) i (eu.mpr hi)) j (eu.mpr b);rw[mM,mM];exact aX (λz h1=>cb λy h2 h3=>aX (λt e h=>aX (λu c h2=>cE z y (e.trans (congrArg some (T.adV h))) (c.trans (congrArg some (T.adV h2))) (congrArg some h3)) h2) h1) (dN this)
noncomputable def fC(v:V3):T:=.tup [.flt (yT v),.flt (gC v),.flt (qT v)]
theorem FB{O:List S}{Y:List T}{f:aP}{v:V3}(h:v.Ok)(a:f O Y=some (.v (tB v),Y)):
  bL [dB .Div (aR f (dK (.int 0))) (dK (.int 64)),dB .Div (aR f (dK (.int 1))) (dK (.int 64)),dB .Div (aR f (dK (.int 2))) (dK (.int 64))] (cf lS 3 mX) O Y=some (.v (fC v),Y):=by
 have c:=pR (i:=v.r) h.r0 (by have:=h.r1;exact jU this);have d2:=pR (i:=v.g) h.g0 (by have:=h.g1;exact jU this);have d:=pR (i:=v.b) h.b0 (by have:=h.b1;exact jU this);exact db (bN (bV (bM a be rfl rfl) rfl be rfl c) (bN (bV (bM a be rfl rfl) rfl be rfl d2) (bN (bV (bM a be rfl rfl) rfl be rfl d) cv))) (IJ _ _ _ Y)
theorem Sk{v:V3}(h:∀ c,jH c->0<=c v/\c v<=3):v.Ok:=Cf λc hc=>⟨(h c hc).1,by have:=(h c hc).2;exact Wu this⟩
noncomputable def lV(a:List (Nat×Nat×V3))(m:Nat):List (Nat×Nat×V3):=a.filter λb=>eM m b.1 != eM m b.2.1
theorem L4{o:Od}{c:List (Nat×Nat×V3)}{O:List S}{Y:List T}{V:V3}{m:Nat}{e:S}(p:O.length=52)(h5:O[5]?=some (.own (c.map ez)))(h:O[32]?=some (.v (lT o (V,m))))(i:O[43]?=some e)(t:e.adF=false)(j:O[49]?=some .no)(k:O[50]?=some .no)(l:O[51]?=some .no)
  (u:m<64) (w:c.length<=1000) (x:∀ b∈c,b.1<6/\b.2.1<6) (n:∀ b∈c,b.2.2.Ok):wL O Y=some (.nx,O.set 43 (.v (.lst ((lV c m).map λb=>fC b.2.2))),Y):=by
 have q:(X.v (lT o (V,m))).item (T.int 3)=some (T.int (m:Int)):=rfl;have hq:∀ b∈c,∀ I,bg [49,50,51] O I->(I[49]?=some (S.v (T.int (b.1:Int)))/\I[50]?=some (S.v (T.int (b.2.1:Int)))/\I[51]?=some (S.v (tB b.2.2)))->wM I Y=some (eM m b.1 != eM m b.2.1,Y):=λb d I r g=>by
  refine aQ λA=>bn (x b d) λB C=>bG (K0 u B C) λz y D E F=>A ?_;have f:=r.get h rfl;exact rk (bV (bV (bV (bM (aM f rfl) be rfl q) rfl (aM g.1 rfl) rfl (AA (kx))) rfl (bV (bM (aM f rfl) be rfl q) rfl (aM g.2.1 rfl) rfl (AA (kx))) rfl D) rfl be rfl E) rfl F
 have s:=ga (bind:=bU [49,50,51] (.tp [.nm 49,.nm 50,.nm 51])) (test:=wM) (fx:=E2) (Y:=Y) ez (λb=>eM m b.1 != eM m b.2.1) (λb=>fC b.2.2) (bg [49,50,51] O) (λ(b:Nat×Nat×V3) (I:List S)=>I[49]?=some (S.v (T.int (b.1:Int)))/\I[50]?=some (S.v (T.int (b.2.1:Int)))/\I[51]?=some (S.v (tB b.2.2)))
  c [] O (.refl O) (by simp;exact dU w) (λa _=>zx p) hq (λb d I r g _=>(aS (.v (fC b.2.2)) (FB (n b d) (aM g.2.2 rfl)) rfl))
 rw[eE]at s;unfold wL;exact Zq i t (fO (eL (kY j (kY k (eW l))) (ia (aM h5 rfl) rfl rfl) s) rfl) rfl rfl rfl (l0 p rfl)
theorem Uc:∀ l:List UInt64,nJ (l.map T.flt)=some (l.map lQ):=by
 intro a;induction a with
 |nil=>
  exact rfl
 |cons x r b=>
  exact aT rfl (da (b) rfl)
theorem P8{l:List UInt64}{z:UInt64}(h:lM 0 (l.map lQ)=some (.float z)):jo (.fr (l.map T.flt))=some (.v (.flt z)):=by
 show(nJ (l.map T.flt)).bind _=_;rw[Uc,ip,h];rfl
theorem O8{O:List S}{Y:List T}{b:List V3}{zs:List UInt64}{e:S}(i:O.length=52)(n:O[43]?=some (.v (.lst (b.map fC))))(o:O[44]?=some e)(u:e.adF=false)(p:O[49]?=some .no)(q:O[50]?=some .no)(w:b.length<=1000)
  {j l m:UInt64} (x:lM 0 ((b.map yT).map lQ)=some (.float j)) (hi:lM 0 ((b.map gC).map lQ)=some (.float l)) (hq:lM 0 ((b.map qT).map lQ)=some (.float m)) :
  w9 O Y=some (.nx,O.set 44 (.v (.lst [.flt j,.flt l,.flt m])),Y):=by
 have qe:∀ (k:Nat) (g:V3->UInt64) (z:UInt64),(∀ v,(X.v (fC v)).item (T.int (k:Int))=some (T.flt (g v)))->lM 0 ((b.map g).map lQ)=some (.float z)->∀ I,bg [49] O I->I[49]?=some (S.v (T.int (k:Int)))->Br I Y=some (.v (.flt z),Y):=λk g z y hs I d f=>by
  have r:=ga (bind:=bU [50] (.nm 50)) (test:=λ_ Y=>some (true,Y)) (fx:=He) (Y:=Y) fC (λ_=>true) (λv=>T.flt (g v)) (bg [50] I) (λ(v:V3) (c:List S)=>c[50]?=some (S.v (fC v)))
   b [] I (.refl I) (by simp;exact dU w) (λa _ c h=>(cI (c.set 50 (.v (fC a))) (cC rfl (l0 (h.len (d.len i)) rfl)) (h.set rfl _) (bS (l0 (h.len (d.len i)) rfl)))) (λ_ _ _ _ _=>rfl) (λv D c A B _=>(aS (.v (.flt (g v))) (bM (aM B rfl) (aM (A.get f rfl) rfl) rfl (y v)) rfl))
  rw[g9,eE]at r;have C:b.map (λv=>T.flt (g v))=(b.map g).map T.flt:=by rw[il];rfl
  rw[C]at r;exact db (bN (fO (eL (eW (d.get q rfl)) (ia (aM (d.get n rfl) rfl) rfl rfl) r) rfl) cv) (gk (P8 hs))
 have t:=ga (bind:=bU [49] (.nm 49)) (test:=λ_ Y=>some (true,Y)) (fx:=Br) (Y:=Y) (λk:Nat=>T.int (k:Int)) (λ_=>true) (λk=>T.flt (if k=0 then j else if k=1 then l else m)) (bg [49] O) (λ(k:Nat) (I:List S)=>I[49]?=some (S.v (T.int (k:Int))))
  (aO 3) [] O (.refl O) (by decide) (λa _=>ib i) (λ_ _ _ _ _=>rfl) (λk hk I d f _=>by
   have s:=eu.mp hk;have:k=0\/k=1\/k=2:=uS s;rcases this with rfl|rfl|rfl
   ·exact(aS _ (qe 0 yT j (λ_=>rfl) x I d f) rfl)
   ·exact(aS _ (qe 1 gC l (λ_=>rfl) hi I d f) rfl)
   ·exact(aS _ (qe 2 qT m (λ_=>rfl) hq I d f) rfl))
 rw[g9,eE]at t;unfold w9;exact tz o u (eL (eW p) (jA be rfl (by decide)) t) rfl rfl (l0 i rfl)
noncomputable def oJ:List V3->V3
 |[]=>v0
 |v::r=>cq v (oJ r)
theorem F6{x:V3}{r:List V3}:oJ (x::r)=cq x (oJ r):=rfl
theorem Yb{c:V3->Int}(hc:i7 c)(l:List V3):c (oJ l)=fe (l.map c):=by
 induction l with
 |nil=>exact hc.z
 |cons v l b=>rw[F6,hc.a,b,cB];rfl
theorem M3(a b:V3):yQ (cq a b)=yQ a+yQ b:=by
 unfold yQ cq;simp only[lP,gK];exact PF
theorem aap(a b:V3):iQ (cq a b)=iQ a+iQ b:=by
 unfold iQ cq;simp only[lP,gK,lO];exact Rf
theorem W4(a b:V3):qQ (cq a b)=qQ a+qQ b:=by
 unfold qQ cq;simp only[lP,gK,lO];exact K5
theorem yP{f:V3->Rat}(h0:f v0=0)(c:∀ a b,f (cq a b)=f a+f b)(l:List V3):Fl.sumQ (l.map f)=f (oJ l):=by
 induction l with
 |nil=>exact h0.symm
 |cons v l d=>rw[cB,F6,c];show f v+Fl.sumQ _=_;rw[d]
theorem BV{g:V3->UInt64}{f:V3->Rat}{l:List V3}(h:∀ v∈l,Fl.Ap (g v) (f v) (1/2^45)/\f v<=1/\-1<=f v):Fl.Aps (1/2^45) (l.map g) (l.map f):=by
 induction l with
 |nil=>exact .nil
 |cons v l d=>
  exact bO (h v (.head _)) λa b c=>.cons a b c (d λv e=>h v (.tail _ e))
theorem RY{l:List V3}(h0:l≠[])(m:l.length<=15)(c:∀ v∈l,v.Ok):∃ i j k,lM 0 ((l.map yT).map lQ)=some (.float i)/\lM 0 ((l.map gC).map lQ)=some (.float j)/\lM 0 ((l.map qT).map lQ)=some (.float k)/\uP (oJ l) i j k:=by
 refine aQ λr=>?_;have e:∀ g:V3->UInt64,l.map g≠[]:=λg q=>h0 (adC.mp q);have h:∀ g:V3->UInt64,(l.map g).length<=15:=λg=>by rw[dm];exact m
 obtain⟨i,s,n⟩:=Fl.sum_ap (e yT) (h yT) (BV (f:=yQ) λv d=>by
  exact bn (re (c v d)) λa b=>⟨(vT (c v d)).mono (by decide+kernel),(dj b (by decide+kernel)),wE a⟩)
 obtain⟨j,t,o⟩:=Fl.sum_ap (e gC) (h gC) (BV (f:=iQ) λv d=>by
  exact bn (qS (c v d)) λa b=>⟨xC (c v d),Da b,Do a⟩)
 obtain⟨k,u,p⟩:=Fl.sum_ap (e qT) (h qT) (BV (f:=qQ) λv d=>by
  exact bn (rl (c v d)) λa b=>⟨wU (c v d),Da b,Do a⟩)
 rw[yP (by decide+kernel) M3]at n;rw[yP (by decide+kernel) aap]at o;rw[yP (by decide+kernel) W4]at p;exact r (fw i j k s t u ⟨n,o,p⟩)
theorem Uz:((aO 62).all λm=>(aO 15).any λk=>(m+1).testBit (pI k) != (m+1).testBit (pJ k))=true:=by decide+kernel
theorem Ub(a:Nat->V3){m:Nat}(h1:1<=m)(h2:m<=62):(lV (dy a 15) m).map (λb=>b.2.2)≠[]:=by
 have:=c8.mp Uz (m-1) (eu.mpr (by exact KV h2));refine aQ λd=>aV (J9.mp this) λk hk e=>d ?_;rw[show m-1+1=m by exact(Ji h1)]at e;intro q;rw[adC]at q;have c:(pI k,pJ k,a k)∈lV (dy a 15) m:=uK.mpr ⟨eh.mpr (aS k hk rfl),e⟩;rw[q]at c;cases c
theorem Ul(a:Nat->V3){m:Nat}{V:V3}(h:∀ c,i7 c->c V=iq c (wp a 15) m):oJ ((lV (dy a 15) m).map λb=>b.2.2)=V:=by
 refine oX λc hc=>?_;rw[Yb hc.lin,h c hc.lin,<- Gw,il];rfl
noncomputable def ir(a b c:UInt64):T:=.tup [.flt a,.flt b,.flt c]
theorem Eo{O:List S}{Y:List T}{i:Nat}{x y z f:UInt64}(h4:O[4]?=some .nts)(hi:O[i]?=some (.v (ir x y z)))(a:O[46]?=some (.v (.flt f)))(c:Fl.Sm f (1/2^31))(b:Y.length<=1000000):
  ∃ n,dJ 4 (cJ [df [nE true (dV i),dC .Lt (dB .Mult (dV 46) (dB .Pow (dK (.int 10)) (dK (.int 9)))) (dK (.int 1))],df [dK (.bool true),dK (.bool true)]]) O Y=some (.nx,O,Y++[n])/\kz n:=by
 have d:dp .Pow (.int 10) (.int 9)=some (.int 1000000000):=by rw[sh (by decide) (by decide) (by decide)];rfl
 have e:d9 .Lt (.flt (c9 f (bZ 1000000000))) (.int 1)=some true:=by
  show some (Ju _ 1==some jO)=some true;rw[Fl.far_ok 1000000000 (by decide) c (by decide+kernel) (by decide+kernel) (by decide) (by decide+kernel)]
 exact(mQ (.tup [.lst [.bool true,.bool true],.lst [.bool true,.bool true]]) (ll (eD (bQ (gp (bQ (r9 (aM hi rfl) rfl rfl) rfl (bQ (kW (bV (aM a rfl) rfl (bV be rfl be rfl d) rfl (A8 (by decide))) rfl be rfl e) rfl dh))) rfl (bQ (gp (bQ be rfl (bQ be rfl dh))) rfl dh))) rfl h4 b) _ _ rfl rfl)
noncomputable def vk(v:V3)(k:Nat):Int:=if k=0 then v.r else if k=1 then v.g else v.b
noncomputable def nL(a b c:UInt64)(k:Nat):UInt64:=if k=0 then a else if k=1 then b else c
theorem DH{a b c:UInt64}{k:Nat}(h:k<3):(X.v (ir a b c)).item (T.int (k:Int))=some (T.flt (nL a b c k)):=by
 have:k=0\/k=1\/k=2:=uS h;rcases this with rfl|rfl|rfl<;>rfl
theorem Bf{v:V3}{k:Nat}(h:k<3):(X.v (tB v)).item (T.int (k:Int))=some (T.int (vk v k)):=by
 have:k=0\/k=1\/k=2:=uS h;rcases this with rfl|rfl|rfl<;>rfl
theorem Xn{v:V3}(h:v.Ok)(k:Nat):0<=vk v k/\vk v k<=45:=by
 have:=h.r0;have:=h.r1;have:=h.g0;have:=h.g1;have:=h.b0;have:=h.b1;unfold vk;split
 ·exact Fk ‹_› ‹_›
 ·split<;>lia
theorem Gl(x:UInt64):tR (.v (.flt x))=some (.v (.flt (fU x))):=rfl
theorem OD{o:Od}{O:List S}{Y:List T}{V:V3}{m:Nat}{a b c:UInt64}(p:O.length=52)(e:O[32]?=some (.v (lT o (V,m))))(h:O[45]?=some (.v (ir a b c)))(i:O[49]?=some .no)(hV:V.Ok)
  (w:Fl.Ap a ((V.r:Rat)/64) (5/2^40)) (y:Fl.Ap b ((V.g:Rat)/64) (5/2^40)) (hc:Fl.Ap c ((V.b:Rat)/64) (5/2^40)):∃ f,xe O Y=some (.nx,O.set 46 (.v (.flt f)),Y)/\Fl.Sm f (1/2^31):=by
 have q:=ga (bind:=bU [49] (.nm 49)) (test:=λ_ Y=>some (true,Y)) (fx:=BM) (Y:=Y) (λk:Nat=>T.int (k:Int)) (λ_=>true) (λk=>T.flt (fU (dk (c9 (bZ 64) (nL a b c k)) (bZ (vk V k))))) (bg [49] O) (λ(k:Nat) (I:List S)=>I[49]?=some (S.v (T.int (k:Int))))
  (aO 3) [] O (.refl O) (by decide) (λa _=>ib p) (λ_ _ _ _ _=>rfl) (λk hk I s t _=>by
   have d:=eu.mp hk;have z:=Xn hV k;have j:(vk V k).natAbs<2^64:=ff (show(vk V k).natAbs<=45 by exact Wl z) (by decide);have A:=Dy (a:=64) (b:=nL a b c k) (by decide);have B:=z6 (a:=c9 (bZ 64) (nL a b c k)) (b:=vk V k) j;have C:(X.v (lT o (V,m))).item (T.int 2)=some (tB V):=rfl;have l1:=DH (a:=a) (b:=b) (c:=c) d;have l2:=Bf (v:=V) d;have l:=s.get h rfl;have n:=s.get e rfl;refine(aS (.v (.flt (fU (dk (c9 (bZ 64) (nL a b c k)) (bZ (vk V k)))))) ?_ rfl);unfold BM;exact db (bN (bV (bV be rfl (bM (aM l rfl) (aM t rfl) rfl l1) rfl A) rfl (bM (bM (aM n rfl) be rfl C) (aM t rfl) rfl l2) rfl B) cv) (gk (Gl _)))
 rw[g9,eE]at q;refine(aS (n7 [fU (dk (c9 (bZ 64) a) (bZ V.r)),fU (dk (c9 (bZ 64) b) (bZ V.g)),fU (dk (c9 (bZ 64) c) (bZ V.b))]) ?_ (Fl.sm_max (by simp) λx u=>?_))
 ·unfold xe;exact ef (db (bN (fO (eL (eW i) (jA be rfl (by decide)) q) rfl) cv) (zY _ _ _ Y)) rfl (cC rfl (l0 p rfl))
 ·simp only[bP,dP,or_false]at u;rcases u with rfl|rfl|rfl
  ·exact AD hV.r0 hV.r1 w
  ·exact AD hV.g0 hV.g1 y
  ·exact AD hV.b0 hV.b1 hc
noncomputable def ov:List Nat:=[20,30,33,34,46,47,48]
theorem UY{o:Od}{O:List S}{Y:List T}{V l:V3}{m m':Nat}{w z A:UInt64}(B:O.length=52)(h4:O[4]?=some .nts)(L:O[32]?=some (.v (lT o (V,m))))(M:O[44]?=some (.v (.lst [.flt w,.flt z,.flt A])))(G:O[48]?=some (.v (tB l)))(N:O[49]?=some .no)
  (hV:V.Ok) (e:l.Ok) (hT:uP V w z A) (P:Y.length<=1000000):∃ U n,uO O Y=some (.nx,U,Y++[n])/\bg ov O U/\kz n:=by
 refine aQ λQ=>bn (re hV) λy0 y1=>bn (qS hV) λi0 i1=>bn (rl hV) λq0 q1=>bn (re e) λy2 y3=>bn (qS e) λi2 i3=>bn (rl e) λq2 q3=>?_;have R:=yD ((vT e).mono (e':=1/2^45) (by decide+kernel)) hT.y (show yQ l-yQ V<=_ by grind) (show _<=yQ l-yQ V by grind);have W:=yD (xC e) hT.i (show iQ l-iQ V<=_ by grind) (show _<=iQ l-iQ V by grind);have Z:=yD (wU e) hT.q (show qQ l-qQ V<=_ by grind) (show _<=qQ l-qQ V by grind);refine bO (abH hV e R W Z) λmr mg mb=>Q ?_;have a1:bW (aO 52) (.nm 34) (bL [dB .Div (aR (dV 48) (dK (.int 0))) (dK (.int 64)),dB .Div (aR (dV 48) (dK (.int 1))) (dK (.int 64)),dB .Div (aR (dV 48) (dK (.int 2))) (dK (.int 64))] (cf lS 3 mX)) O Y=some (.nx,O.set 34 (.v (fC l)),Y):=
  ef (FB e (aM G rfl)) rfl (cC rfl (l0 B rfl))
 have J:bg ov O (O.set 34 (.v (fC l))):=(bg.refl O).set rfl _;have C:(O.set 34 (.v (fC l)))[34]?=some (.v (fC l)):=bS (l0 B rfl);have a0:(O.set 34 (.v (fC l)))[48]?=some (.v (tB l)):=aW rfl G;generalize O.set 34 (.v (fC l))=p at*;have K:∀ x:UInt64,dp .Mult (.int 8) (.flt x)=some (.flt (c9 (bZ 8) x)):=λx=>Dy (by decide);have D:=J.get M rfl;have a2:bW (aO 52) (.nm 30) (bL [dB .Mult (dK (.int 8)) (dB .Sub (aR (dV 34) (dK (.int 0))) (aR (dV 44) (dK (.int 0)))),dB .Mult (dK (.int 8)) (dB .Sub (aR (dV 34) (dK (.int 1))) (aR (dV 44) (dK (.int 1)))),dB .Mult (dK (.int 8)) (dB .Sub (aR (dV 34) (dK (.int 2))) (aR (dV 44) (dK (.int 2))))] (cf oq 3 m8)) p Y
   = some (.nx,p.set 30 (.v (ir (Fl.clipF (Fl.rF (c9 (bZ 8) (dk (yT l) w)) (c9 (bZ 8) (dk (gC l) z)) (c9 (bZ 8) (dk (qT l) A)))) (Fl.clipF (Fl.gF (c9 (bZ 8) (dk (yT l) w)) (c9 (bZ 8) (dk (gC l) z)) (c9 (bZ 8) (dk (qT l) A)))) (Fl.clipF (Fl.bF (c9 (bZ 8) (dk (yT l) w)) (c9 (bZ 8) (dk (gC l) z)) (c9 (bZ 8) (dk (qT l) A)))))),Y):=
  ef (db (bN (bV be rfl (bV (bM (aM C rfl) be rfl rfl) rfl (bM (aM D rfl) be rfl rfl) rfl rfl) rfl (K _)) (bN (bV be rfl (bV (bM (aM C rfl) be rfl rfl) rfl (bM (aM D rfl) be rfl rfl) rfl rfl) rfl (K _)) (bN (bV be rfl (bV (bM (aM C rfl) be rfl rfl) rfl (bM (aM D rfl) be rfl rfl) rfl rfl) rfl (K _)) cv))) (F9 _ _ _ Y)) rfl (cC rfl (l0 (J.len B) rfl))
 generalize Fl.clipF (Fl.rF (c9 (bZ 8) (dk (yT l) w)) (c9 (bZ 8) (dk (gC l) z)) (c9 (bZ 8) (dk (qT l) A)))=s at*;generalize Fl.clipF (Fl.gF (c9 (bZ 8) (dk (yT l) w)) (c9 (bZ 8) (dk (gC l) z)) (c9 (bZ 8) (dk (qT l) A)))=t at*;generalize Fl.clipF (Fl.bF (c9 (bZ 8) (dk (yT l) w)) (c9 (bZ 8) (dk (gC l) z)) (c9 (bZ 8) (dk (qT l) A)))=u at*;have F:bg ov O (p.set 30 (.v (ir s t u))):=J.set rfl _;have H:(p.set 30 (.v (ir s t u)))[30]?=some (.v (ir s t u)):=bS (l0 (J.len B) rfl);have a5:(p.set 30 (.v (ir s t u)))[48]?=some (.v (tB l)):=aW rfl a0;generalize p.set 30 (.v (ir s t u))=j at*;have a6:=F.get L rfl;have e1:=ga (bind:=bU [49] (.nm 49)) (test:=λ_ Y=>some (true,Y)) (fx:=vw) (Y:=Y) (λk:Nat=>T.int (k:Int)) (λ_=>true) (λk=>T.flt (fU (dk (c9 (bZ 8) (nL s t u k)) (bZ (fy (vk l k-vk V k)))))) (bg [49] j) (λ(k:Nat) (I:List S)=>I[49]?=some (S.v (T.int (k:Int))))
  (aO 3) [] j (.refl j) (by decide) (λa _=>ib (F.len B)) (λ_ _ _ _ _=>rfl) (λk hk I j1 r1 _=>by
   have E:=eu.mp hk;have a7:=Ef (vk l k-vk V k);have a8:(fy (vk l k-vk V k)).natAbs<2^64:=ff (show(fy (vk l k-vk V k)).natAbs<=8 by exact abv a7) (by decide);have n2:=z6 (a:=c9 (bZ 8) (nL s t u k)) (b:=fy (vk l k-vk V k)) a8;have n3:(X.v (lT o (V,m))).item (T.int 2)=some (tB V):=rfl;have l1:=DH (a:=s) (b:=t) (c:=u) E;have l2:=Bf (v:=l) E;have l3:=Bf (v:=V) E;have a9:=j1.get H rfl;have aa:=j1.get a6 rfl;have ab:=j1.get a5 rfl;have mn:ml [.v (.int 8),.v (.int (vk l k-vk V k))] Y=some (.v (.int (if vk l k-vk V k<8 then vk l k-vk V k else 8)),Y):=rfl;have mx:nC [.v (.int 0),.v (.int (if vk l k-vk V k<8 then vk l k-vk V k else 8))] Y=some (.v (.int (fy (vk l k-vk V k))),Y):=rfl;refine(aS (.v (.flt (fU (dk (c9 (bZ 8) (nL s t u k)) (bZ (fy (vk l k-vk V k))))))) ?_ rfl);unfold vw;exact db (bN (bV (bV be rfl (bM (aM a9 rfl) (aM r1 rfl) rfl l1) rfl (K _)) rfl (db (bN be (bN (db (bN be (bN (bV (bM (aM ab rfl) (aM r1 rfl) rfl l2) rfl (bM (bM (aM aa rfl) be rfl n3) (aM r1 rfl) rfl l3) rfl rfl) cv)) mn) cv)) mx) rfl n2) cv) (gk (Gl _)))
 rw[g9,eE]at e1;have ad:Fl.Sm (n7 [fU (dk (c9 (bZ 8) s) (bZ (fy (l.r-V.r)))),fU (dk (c9 (bZ 8) t) (bZ (fy (l.g-V.g)))),fU (dk (c9 (bZ 8) u) (bZ (fy (l.b-V.b))))]) (1/2^31):=by
  refine Fl.sm_max (by simp) λx hx=>?_;have key:∀ {x:UInt64} {d:Int},Fl.Ap x (Fl.clip (8*((d:Rat)/64))) (37/2^40)->Fl.Sm (fU (dk (c9 (bZ 8) x) (bZ (fy d)))) (1/2^31):=λ{x d} h=>by
   exact bO (Ef d) λc0 c1 c2=>ZB c0 c1 c2 h
  simp only[bP,dP,or_false]at hx;rcases hx with rfl|rfl|rfl
  ·exact key mr
  ·exact key mg
  ·exact key mb
 have a3:bW (aO 52) (.nm 46) (bL [cM (cn [49] (.nm 49) (iR (dK (.int 3))) (λ_ Y=>some (true,Y)) (cF vw) (.own []))] nC) j Y=some (.nx,j.set 46 (.v (.flt (n7 [fU (dk (c9 (bZ 8) s) (bZ (fy (l.r-V.r)))),fU (dk (c9 (bZ 8) t) (bZ (fy (l.g-V.g)))),fU (dk (c9 (bZ 8) u) (bZ (fy (l.b-V.b))))]))),Y):=
  ef (db (bN (fO (eL (eW (F.get N rfl)) (jA be rfl (by decide)) e1) rfl) cv) (zY _ _ _ Y)) rfl (cC rfl (l0 (F.len B) rfl))
 generalize n7 [fU (dk (c9 (bZ 8) s) (bZ (fy (l.r-V.r)))),fU (dk (c9 (bZ 8) t) (bZ (fy (l.g-V.g)))),fU (dk (c9 (bZ 8) u) (bZ (fy (l.b-V.b))))]=f at*;have s3:bg ov O (j.set 46 (.v (.flt f))):=F.set rfl _;refine aQ λQ=>aV (Eo (O:=j.set 46 (.v (.flt f))) (Y:=Y) (i:=30) (s3.get h4 rfl) (aW rfl H) (bS (l0 (F.len B) rfl)) ad P) λn a4 k4=>Q (cE _ n ?_ s3 k4);unfold uO;exact bz a1 (bz a2 (bz a3 (bz a4 dT)))
theorem R7{o:Od}{V:V3}{m:Nat}{s t u:UInt64}(hV:V.Ok)(hT:uP V s t u):∀ (j:List Lr) (O:List S) (Y:List T),O.length=52->O[4]?=some .nts->O[32]?=some (.v (lT o (V,m)))->O[44]?=some (.v (.lst [.flt s,.flt t,.flt u]))->O[49]?=some .no->(∀ q∈j,q.1.Ok)->Y.length+j.length<=1000000->
  ∃ U c,em (bU (aO 52) (.tp [(.nm 47),(.nm 33),(.nm 48),(.nm 20)])) uO (j.map (lT o)) O Y=some (.nx,U,Y++c)/\bg ov O U/\dG c/\c.length<=j.length:=by
 intro l;induction l with
 |nil=>
  intro O Y b h4 d e f hq a;exact(qD O [] (by rw[gW];rfl) (.refl O) .nil (cu _))
 |cons q j p=>
  intro O Y b h4 d e f hq a;refine aQ λv=>?_;simp only[cK]at a;have w:bU (aO 52) (.tp [(.nm 47),(.nm 33),(.nm 48),(.nm 20)]) (lT o q) O=some ((((O.set 47 (.v (.int (bH o q.1)))).set 33 (.v (dr q.1))).set 48 (.v (tB q.1))).set 20 (.v (.int (q.2:Int)))):=
   qj (hM (cC rfl (l0 b rfl)) (hM (cC rfl (l1 b rfl)) (hM (cC rfl (l2 b rfl)) (hM (cC rfl (l3 b rfl)) oI))))
  have g:bg ov O ((((O.set 47 (.v (.int (bH o q.1)))).set 33 (.v (dr q.1))).set 48 (.v (tB q.1))).set 20 (.v (.int (q.2:Int)))):=((((bg.refl O).set rfl _).set rfl _).set rfl _).set rfl _;have r:((((O.set 47 (.v (.int (bH o q.1)))).set 33 (.v (dr q.1))).set 48 (.v (tB q.1))).set 20 (.v (.int (q.2:Int))))[48]?=some (.v (tB q.1)):=aW rfl (bS (l2 b rfl));generalize (((O.set 47 (.v (.int (bH o q.1)))).set 33 (.v (dr q.1))).set 48 (.v (tB q.1))).set 20 (.v (.int (q.2:Int)))=I at*;refine bG (UY (Y:=Y) (m':=0) (g.len b) (g.get h4 rfl) (g.get d rfl) (g.get e rfl) r (g.get f rfl) hV (hq q (.head _)) hT (kD a)) λk n x y z=>?_;have i:bg ov O k:=g.trans y;refine l8 (p k (Y++[n]) (i.len b) (i.get h4 rfl) (i.get d rfl) (i.get e rfl) (i.get f rfl) (λq h=>hq q (.tail _ h)) (by rw[cU];simp;exact m0 a)) λU c f1 f2 A B=>v (qD U (n::c) ?_ (i.trans f2) ((dG.one z).app A) (by simp only[cK];exact wS B));rw[show Y++n::c=Y++[n]++c by simp];exact gj w x f1
theorem Ws{O:List S}{Y:List T}{i:Nat}{f:aP}{t:T}(h4:O[i]?=some .nts)(h:f ((O.map S.un).set i (.own Y)) []=some (.v t,[])):AK i f O Y=some (.ret (.v t),O,Y):=aT h4 (aT rfl (aT h (aT rfl (if_pos rfl))))
theorem Vb{O:List S}{Y:List T}(j:O.length=52)(h4:O[4]?=some .nts)(d:O[49]?=some .no)(m:dG Y)(f:Y.length<=1000000):AF O Y=some (.ret (.v (.bool true)),O,Y):=by
 have g:((O.map S.un).set 4 (.own Y)).length=52:=by rw[fH,dm];exact j
 have g4:((O.map S.un).set 4 (.own Y))[4]?=some (.own Y):=bS (by rw[dm,j];decide);have h:((O.map S.un).set 4 (.own Y))[49]?=some .no:=aW rfl (by rw[fR,d];rfl);refine Ws h4 ?_;generalize (O.map S.un).set 4 (.own Y)=c at*;have k:=ga (bind:=bU [49] (.nm 49)) (test:=qR) (fx:=uT) (Y:=[]) (λt:T=>t) (λ_=>false) (λt=>t) (bg [49] c) (λ(t:T) (I:List S)=>I[49]?=some (S.v t))
  Y [] c (.refl c) (by simpa using f) (λa _=>ib g) (λt l I n i=>by
   refine aQ λo=>eA (m t l) λa b p e=>?_;subst p;refine o ?_;have f1:aR (dV 49) (dK (.int 0)) I []=some (.v a,[]):=bM (aM i rfl) be rfl rfl;have f2:aR (dV 49) (dK (.int 1)) I []=some (.v b,[]):=bM (aM i rfl) be rfl rfl;unfold qR Bc;rw[f1,ip];show Cn (some a) _=_;rw[ip,f2,ip];show Cn (some b) _=_;rw[ip,if_pos e]) (λt l I n i q=>by cases q)
 rw[List.map_id',Jl.mpr (λa _=>by simp)]at k;have r:BI (cM (cn [49] (.nm 49) (iL (some 4) (dV 4)) qR (cF uT) (.own []))) c []=some (.v (.bool true),[]):=by
  have s:cM (cn [49] (.nm 49) (iL (some 4) (dV 4)) qR (cF uT) (.own [])) c []=some (.fr [],[]):=fO (eL (eW h) (ia (aM g4 rfl) rfl rfl) k) rfl;exact aT s (aT rfl (if_pos rfl))
 rw[r]
theorem Mr{cl:List Nat}{o:Od}(ho:o.Ok){rs:List Lr}{O:List S}{Y:List T}(s:O.length=52)(h4:O[4]?=some .nts)(h5:O[5]?=some (.own ((dy (du cl) 15).map ez)))(ae:O[21]?=some (.v (.inst (cO o))))(z:O[24]?=some (.own (lh o rs)))(af:O[43]?=some .no)(ag:O[44]?=some .no)(w:O[49]?=some .no)(M:O[50]?=some .no)(ah:O[51]?=some .no)
  (d:rs.length=5) (H:∀ r∈rs,me o (qi cl) r.1 r.2) (hn:dG Y) (A:Y.length+100<=1000000) :
  ∃ U ai,aZ w4 (aZ wl (aZ wL (aZ w9 (aZ u7 (aZ xe (aZ vO (aZ wq (aZ AF cs)))))))) O Y=some (.ret (.v (.bool true)),U,ai):=by
 refine aQ λnG=>?_;obtain⟨u,I,rfl⟩:∃ u I,rs=u::I:=by cases rs with|nil=>simp at d|cons a b=>exact(dE a b rfl)
 have aj:lh o (u::I)=(u::I).map (lT o):=rfl;rw[aj]at z;have a1:w4 O Y=some (.nx,O.set 32 (.v (lT o u)),Y):=by
  unfold w4;exact ef (bM (aM z rfl) be rfl (gL (j:=0) (t:=lT o u) rfl (by rw[dm];exact L9 d))) rfl (cC rfl (l0 s rfl))
 have N:bg [32,33] O (O.set 32 (.v (lT o u))):=(bg.refl O).set rfl _;refine Bt (QH ho (u::I) u (O.set 32 (.v (lT o u))) Y (N.len s) (N.get h4 rfl) (N.get ae rfl) (bS (l0 s rfl)) (H u (.head _)) H (VA A d)) λe c p b1 b2 b3 b4 b5 b6=>?_;have a2:wl (O.set 32 (.v (lT o u))) Y=some (.nx,e,Y++c):=by
  unfold wl;exact iC (ia (aM (N.get z rfl) rfl) rfl rfl) b1
 have B:bg [32,33] O e:=N.trans b2;obtain⟨V,m⟩:=p;refine fW b4 λhV ak P hc=>?_;have al:(dy (du cl) 15).length<=1000:=by unfold dy;rw[dm,kc];decide
 have Q:∀ b∈dy (du cl) 15,b.2.2.Ok:=λb hb=>by
  refine aV (eh.mp hb) λk hk y2=>?_;subst y2;exact Sk (Dl cl k (eu.mp hk))
 have a3:=L4 (Y:=Y++c) (B.len s) (B.get h5 rfl) b3 (B.get af rfl) rfl (B.get w rfl) (B.get M rfl) (B.get ah rfl) (Q6 P) al (HW _) Q;have ec:(lV (dy (du cl) 15) m).map (λb=>fC b.2.2)=((lV (dy (du cl) 15) m).map λb=>b.2.2).map fC:=by rw[il];rfl
 rw[ec]at a3;have an:=Ub (du cl) ak P;have R:=Ul (du cl) hc;have F:((lV (dy (du cl) 15) m).map λb=>b.2.2).length<=15:=by
  rw[dm];refine bf (Kq _ _) ?_;unfold dy;rw[dm,kc];exact cu _
 have W:∀ v∈(lV (dy (du cl) 15) m).map (λb=>b.2.2),v.Ok:=λv hv=>by
  refine aV (eh.mp hv) λb hb y2=>?_;subst y2;exact Q b (uK.mp hb).1
 generalize (lV (dy (du cl) 15) m).map (λb=>b.2.2)=X at*;refine gH (RY an F W) λh l n t1 t2 t3 x=>?_;rw[R]at x;have Z:bg [32,33,43,44,45,46] O (e.set 43 (.v (.lst (X.map fC)))):=(B.mono (by decide)).set rfl _;have ao:(e.set 43 (.v (.lst (X.map fC))))[43]?=some (.v (.lst (X.map fC))):=bS (l0 (B.len s) rfl);have aq:(e.set 43 (.v (.lst (X.map fC))))[32]?=some (.v (lT o (V,m))):=aW rfl b3;have ar:(e.set 43 (.v (.lst (X.map fC))))[44]?=some .no:=aW rfl (B.get ag rfl);generalize e.set 43 (.v (.lst (X.map fC)))=C at*;have a4:=O8 (zs:=[]) (Y:=Y++c) (Z.len s) ao ar rfl (Z.get w rfl) (Z.get M rfl) (abe F) t1 t2 t3;have s4:bg [32,33,43,44,45,46] O (C.set 44 (.v (.lst [.flt h,.flt l,.flt n]))):=Z.set rfl _;have D:(C.set 44 (.v (.lst [.flt h,.flt l,.flt n])))[44]?=some (.v (.lst [.flt h,.flt l,.flt n])):=bS (l0 (Z.len s) rfl);have au:(C.set 44 (.v (.lst [.flt h,.flt l,.flt n])))[32]?=some (.v (lT o (V,m))):=aW rfl aq;generalize C.set 44 (.v (.lst [.flt h,.flt l,.flt n]))=g at*;have a5:u7 g (Y++c)=some (.nx,g.set 45 (.v (ir (Fl.clipF (Fl.rF h l n)) (Fl.clipF (Fl.gF h l n)) (Fl.clipF (Fl.bF h l n)))),Y++c):=by
  unfold u7;exact ef (db (bN (bM (aM D rfl) be rfl rfl) (bN (bM (aM D rfl) be rfl rfl) (bN (bM (aM D rfl) be rfl rfl) cv))) (F9 h l n _)) rfl (cC rfl (l0 (s4.len s) rfl))
 refine bO (UD hV x) λla lb lc=>?_;generalize Fl.clipF (Fl.rF h l n)=J at*;generalize Fl.clipF (Fl.gF h l n)=K at*;generalize Fl.clipF (Fl.bF h l n)=L at*;have s5:bg [32,33,43,44,45,46] O (g.set 45 (.v (ir J K L))):=s4.set rfl _;have a0:(g.set 45 (.v (ir J K L)))[45]?=some (.v (ir J K L)):=bS (l0 (s4.len s) rfl);have av:(g.set 45 (.v (ir J K L)))[44]?=some (.v (.lst [.flt h,.flt l,.flt n])):=aW rfl D;have aa:(g.set 45 (.v (ir J K L)))[32]?=some (.v (lT o (V,m))):=aW rfl au;generalize g.set 45 (.v (ir J K L))=y at*;refine aV (OD (Y:=Y++c) (s5.len s) aa a0 (s5.get w rfl) hV la lb lc) λf a6 hf=>?_;have G:bg [32,33,43,44,45,46] O (y.set 46 (.v (.flt f))):=s5.set rfl _;refine aV (Eo (O:=y.set 46 (.v (.flt f))) (Y:=Y++c) (i:=45) (G.get h4 rfl) (aW rfl a0) (bS (l0 (s5.len s) rfl)) hf (by rw[cU];exact aad A d b6)) λn1 a7 k7=>?_;have aw:(y.set 46 (.v (.flt f)))[32]?=some (.v (lT o (V,m))):=aW rfl aa;have ax:(y.set 46 (.v (.flt f)))[44]?=some (.v (.lst [.flt h,.flt l,.flt n])):=aW rfl av;generalize y.set 46 (.v (.flt f))=E at*;have ay:c.length<=5:=by rw[d]at b6;exact b6
 refine l8 (R7 hV x (u::I) E (Y++c++[n1]) (G.len s) (G.get h4 rfl) aw ax (G.get w rfl) (λq hq=>(H q hq).1) (by simp only[cU,cK,iJ]at d ⊢;exact Va A d ay)) λab ad c1 c2 c3 c4=>?_;have a8:wq E (Y++c++[n1])=some (.nx,ab,Y++c++[n1]++ad):=by
  unfold wq;exact iC (ia (aM (G.get z rfl) rfl) rfl rfl) c1
 rw[d]at c4;have a9:=Vb (O:=ab) (Y:=Y++c++[n1]++ad) (c2.len (G.len s)) (c2.get (G.get h4 rfl) rfl) (c2.get (G.get w rfl) rfl) (((hn.app b5).app (dG.one k7)).app c3) (by simp only[cU,cK,iJ];exact U2 A d b6 c4);have az:vO E (Y++c)=some (.nx,E,Y++c++[n1]):=by unfold vO;exact a7
 exact nG (dE _ _ (bz a1 (bz a2 (bz a3 (bz a4 (bz a5 (bz a6 (bz az (bz a8 (ig a9))))))))))
theorem qZ{O:List S}(h:O.all S.adO=true){i:Nat}{x:S}(b:x.adO=true):(O.set i x).all S.adO=true:=by
 rw[c8]at h ⊢;intro y a;rcases List.mem_or_eq_of_mem_set a with a|rfl
 ·exact h y a
 ·exact b
theorem TQ{Y:List T}:∀ (i:List Int) (p:Nat) (a:List Nat) (O:List S),O.length=52->O[1]?=some (.own (bv a))->a.length=16->O.all S.adO=true->
  ∃ U b,em (bU (aO 52) (.tp [(.nm 2),(.nm 3)])) zg (oS p (i.map T.int)) O Y=some (.nx,U,Y)/\bg [1,2,3] O U/\U[1]?=some (.own (bv b))/\b.length=16/\U.all S.adO=true:=by
 intro f;induction f with
 |nil=>
  intro p a O c h1 hc g;exact(qf O a rfl (.refl O) h1 hc g)
 |cons z i h=>
  intro p a O c h1 hc g;refine aQ λl=>?_;have m:bU (aO 52) (.tp [(.nm 2),(.nm 3)]) (T.tup [T.int (p:Int),T.int z]) O=some ((O.set 2 (.v (.int (p:Int)))).set 3 (.v (.int z))):=
   qj (hM (cC rfl (l0 c rfl)) (hM (cC rfl (l1 c rfl)) oI))
  have j:bg [1,2,3] O ((O.set 2 (.v (.int (p:Int)))).set 3 (.v (.int z))):=((bg.refl O).set rfl _).set rfl _;have n:((O.set 2 (.v (.int (p:Int)))).set 3 (.v (.int z)))[2]?=some (.v (.int (p:Int))):=aW rfl (bS (l0 c rfl));have o:((O.set 2 (.v (.int (p:Int)))).set 3 (.v (.int z)))[3]?=some (.v (.int z)):=bS (l1 c rfl);have q:((O.set 2 (.v (.int (p:Int)))).set 3 (.v (.int z)))[1]?=some (.own (bv a)):=aW rfl (aW rfl h1);have r:((O.set 2 (.v (.int (p:Int)))).set 3 (.v (.int z))).all S.adO=true:=qZ (qZ g rfl) rfl;generalize (O.set 2 (.v (.int (p:Int)))).set 3 (.v (.int z))=I at*;refine aU (ym (adA z (show(0:Int)<1000000 by decide))) λy s=>?_;have t:=sH p 16 (by decide);have u:dp .Mod (.int z) (.int 1000000)=some (.int (y:Int)):=by rw[l9 (by decide),s]
  have d:p%16<a.length:=by rw[hc];exact nT _ (by decide)
  have v:wb (.own (bv a)) (.int ((p%16:Nat):Int))=some (.int (a[p%16]:Int)):=by
   show(if _ then _ else _)=_;rw[if_pos ⟨(nS _),by rw[iw];exact XS hc,by rw[iw];exact BE hc⟩,mM];unfold bv;rw[fR,gv d];rfl
  have e:mi (.own (bv a)) (.int ((p%16:Nat):Int)) (.int ((a[p%16]:Int)+(y:Int)))=some (.own (bv (a.set (p%16) (a[p%16]+y)))):=by
   rw[tq _ (by rw[iw];exact d) (by rw[iw];exact BE hc)];unfold bv;rw[List.map_set];rfl
  have a1:na 1 (dB .Mod (dV 2) (dK (.int 16))) (dB .Mod (dV 3) (dK (.int 1000000))) I Y=some (.nx,I.set 1 (.own (bv (a.set (p%16) (a[p%16]+y)))),Y):=
   Ai q (bV (aM n rfl) rfl be rfl t) rfl v (bV (aM o rfl) rfl be rfl u) rfl rfl e
  have k:bg [1,2,3] O (I.set 1 (.own (bv (a.set (p%16) (a[p%16]+y))))):=j.set rfl _;refine nN (h (p+1) (a.set (p%16) (a[p%16]+y)) _ (k.len c) (bS (l0 (j.len c) rfl)) (by rw[fH];exact hc) (qZ r rfl)) λU b f1 f2 w x A=>l (qf U b ?_ (k.trans f2) w x A);rw[cB];exact gj m (bz a1 dT) f1
noncomputable def pV:List Nat:=[1850,7569,13314,19008,24733,30479,36185,41904,47630,53455,59163,64809,70524,76253,81982,42970]
theorem plain(l:List Int)(m:l.length<=63):∃ U,tZ (ic dL [.v (.lst (l.map T.int))]) []=some (.ret (.v (.bool true)),U,[]):=by
 have n:ic dL [S.v (.lst (l.map T.int))]=S.v (.lst (l.map T.int))::CP 51 .no:=rfl;rw[n];generalize c:S.v (.lst (l.map T.int))::CP 51 S.no=O;have k:O.length=52:=by rw[<- c];rfl
 have h0:O[0]?=some (.v (.lst (l.map T.int))):=by rw[<- c];rfl
 have a:∀ i,0<i->i<52->O[i]?=some .no:=λi h1 h2=>by
  refine aQ λf=>?_;obtain⟨j,rfl⟩:∃ j,i=j+1:=⟨i-1,OY h1⟩;refine f ?_;rw[<- c,acX,List.getElem?_replicate,if_pos (YA h2)]
 have p:O.all S.adO=true:=by
  rw[<- c,gX];show(true&&(CP 51 S.no).all S.adO)=true;rw[Bool.true_and,c8];intro x H;rw[(yj.mp H).2];rfl
 clear c n;have a1:jB (aO 52) 1 (df [dK (.int 1850),dK (.int 7569),dK (.int 13314),dK (.int 19008),dK (.int 24733),dK (.int 30479),dK (.int 36185),dK (.int 41904),dK (.int 47630),dK (.int 53455),dK (.int 59163),dK (.int 64809),dK (.int 70524),dK (.int 76253),dK (.int 81982),dK (.int 42970)]) O []=some (.nx,O.set 1 (.own (bv pV)),[]):=
  s8 (x:=.fr (bv pV)) rfl rfl rfl (l0 k rfl)
 have u:bg [1,2,3] O (O.set 1 (.own (bv pV))):=(bg.refl O).set rfl _;refine aQ λf=>nN (TQ (Y:=[]) (l.take 60) 0 pV (O.set 1 (.own (bv pV))) (u.len k) (bS (l0 k rfl)) rfl (qZ p rfl)) λb r I J K L M=>f ?_;have a2:fc (aO 52) (.tp [(.nm 2),(.nm 3)]) (iE none (h7 (dV 0) none (some (dK (.int 60))))) zg (O.set 1 (.own (bv pV))) []=some (.nx,b,[]):=by
  have N:i9 (l.map T.int) none (some 60)=(l.take 60).map T.int:=by
   have:=Tj (l.map T.int) 60;rw[List.map_take];exact this
  refine iC (Eh (tn (aM (u.get h0 rfl) rfl) tF (sg be rfl) rfl (by rw[dm];exact WV m) N) rfl rfl) ?_;rw[yC];exact I
 have C:bg [1,2,3] O b:=u.trans J;have e:=C.len k;have a3:gB (aO 52) [4,5] false [df [],df []] b []=some (.nx,(b.set 4 (.own [])).set 5 (.own []),[]):=
  zK (bN (gp dh) (bN (gp dh) cv)) rfl (oE rfl (l0 e rfl)) (oE rfl (l1 e rfl))
 have g:((b.set 4 (.own [])).set 5 (.own [])).all S.adO=true:=qZ (qZ M rfl) rfl;have g4:((b.set 4 (.own [])).set 5 (.own []))[4]?=some (.own []):=aW rfl (bS (l0 e rfl));have d:bg [1,2,3,4,5] O (((b.set 4 (.own [])).set 5 (.own [])).set 4 .nts):=(((C.mono (by decide)).set rfl _).set rfl _).set rfl _;have P:(((b.set 4 (.own [])).set 5 (.own [])).set 4 .nts)[1]?=some (.own (bv r)):=aW rfl (aW rfl (aW rfl K));have D:(((b.set 4 (.own [])).set 5 (.own [])).set 4 .nts)[4]?=some .nts:=bS (l2 e rfl);have Q:(((b.set 4 (.own [])).set 5 (.own [])).set 4 .nts)[5]?=some (.own []):=aW rfl (bS (l1 e rfl));refine aQ λf=>iy (LO L (d.len k) P D Q (d.get (a 12 (by decide) (by decide)) rfl) (d.get (a 18 (by decide) (by decide)) rfl) (d.get (a 31 (by decide) (by decide)) rfl) (d.get (a 41 (by decide) (by decide)) rfl) (d.get (a 49 (by decide) (by decide)) rfl) (d.get (a 50 (by decide) (by decide)) rfl) (d.get (a 51 (by decide) (by decide)) rfl)) λw s c1 h E R V F=>f ?_;have G:=EJ (r.getD 15 0);generalize nu (r.getD 15 0)=o at*;have t:=h.len (d.len k);refine aQ λf=>GB (ZV G (Y:=s) (NU o (qi r)) (by unfold rh;rw[dm,kc];decide) (show dD.length=6 from rfl) t E (Pf F)) λy z W X d2 Z d4 d5 d6 d7=>f ?_;have A:w[21]?=some (.v (.inst (cO o))):=by obtain⟨⟨_,_,_,_,_,_,q,_⟩,_⟩:=E;exact q.s21
 obtain⟨U,B,e1⟩:=Mr (cl:=r) G (rs:=W) (O:=y) (Y:=s++z) (d2.len t) (d2.get (h.get D rfl) rfl) (d2.get R rfl) (d2.get A rfl) Z (d2.get (h.get (d.get (a 43 (by decide) (by decide)) rfl) rfl) rfl) (d2.get (h.get (d.get (a 44 (by decide) (by decide)) rfl) rfl) rfl) (d2.get (h.get (d.get (a 49 (by decide) (by decide)) rfl) rfl) rfl) (d2.get (h.get (d.get (a 50 (by decide) (by decide)) rfl) rfl) rfl) (d2.get (h.get (d.get (a 51 (by decide) (by decide)) rfl) rfl) rfl)
  d4 d5 (V.app d6) (by rw[cU];exact PR F d7)
 have hR:zS (((b.set 4 (.own [])).set 5 (.own [])).set 4 .nts) []=some (.ret (.v (.bool true)),U,B):=by
  unfold zS;exact c1 _ _ _ _ (bz X e1)
 exact⟨U.map S.un,bz a1 (bz a2 (aT a3 ((if_pos g).trans (aT rfl (aT g4 (aT rfl ((if_pos rfl).trans (aT hR (aT rfl (da rfl rfl))))))))))⟩
end
end Pl
end Mine.Internal
theorem PySem.Challenge.cw_xh0036_01_holds : PySem.Challenge.rw_xh0036_01.Holds :=
  Mine.Internal.law_holds Mine.Internal.Pl.plain
