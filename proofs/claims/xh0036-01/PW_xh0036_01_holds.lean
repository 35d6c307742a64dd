import PyProof.Rows.All
import Wide.All
import Flt.RightMore
import Flt.Lists
import OpenK.AllK
import Wide.FinOn
import PySem.Challenge.RW_xh0036_01
set_option maxRecDepth 100000
set_option Elab.async false
set_option genSizeOf false
set_option linter.all false
set_option exponentiation.threshold 3000
open Array renaming append_assoc->xT,append_empty->acZ,ext_getElem?->t7,getElem?_append_left->xP,getElem?_append_right->acO,getElem?_eq_getElem->acL,getElem?_modify->nR,getElem?_push->ua,getElem?_push_size->Jl,mem_toList_iff->Jt,toList_inj->adI
open Bool renaming and_eq_true->fg,and_eq_true_iff->ru,and_false->nQ,bne_true->JN,false_and->Cj,false_eq_true->jc,false_ne_true->o5,not_eq_true->Kh,or_eq_true_iff->ya
open Classical renaming byContradiction->aQ
open ForInStep renaming yield->kH
open Function renaming comp->Kj
open Int renaming add_assoc->xH,add_comm->xI,add_le_add->fE,add_le_add_right->acz,add_nonneg->I4,add_zero->oY,eq_ofNat_of_zero_le->yh,fdiv->n0,fmod->yt,fmod_nonneg_of_pos->adL,le_natAbs->Ja,le_of_eq->xE,le_of_lt->Ca,le_refl->my,le_trans->fD,lt_of_le_of_lt->xD,lt_trichotomy->C2,max_eq_right->acE,mul_add->Kn,natAbs_of_nonneg->acv,natCast_nonneg->nO,neg_le_of_neg_le->xB,not_lt->Jd,not_lt_of_ge->acx,ofNat->et,ofNat_le->j7,ofNat_lt->nL,ofNat_natAbs_of_nonpos->acu,one_mul->Je,sub_right_le_of_le_add->acC,sub_zero->uq,toNat_natCast->mH,toNat_of_nonneg->Cf,zero_add->xG
open Int.ofNat renaming inj->acw
open LawfulBEq renaming eq_of_beq->dN
open LawfulMonad renaming bind_assoc->xN,pure_bind->xO
open List renaming all_cons->gX,all_eq_true->c8,any_cons->JM,any_eq_true->J5,append_assoc->eO,append_nil->gW,cons_append->rq,contains_iff_mem->pe,drop_eq_getElem_cons->Jx,ext_getElem?->adw,filterMap_cons->adi,filter_cons_of_neg->uE,filter_cons_of_pos->rS,filter_eq_nil_iff->Ji,filter_nil->Kl,filter_sublist->adM,find?_cons->CX,find?_cons_of_neg->acW,find?_cons_of_pos->acV,findIdx?_cons->Jw,flatMap_cons->yr,foldl_cons->adm,forIn_cons->rm,forIn_nil->Ck,getD_eq_getElem?_getD->yi,getElem?_append->CL,getElem?_cons_succ->ad8,getElem?_cons_zero->JE,getElem?_eq_getElem->gv,getElem?_eq_none->lG,getElem?_eq_none_iff->rC,getElem?_eq_some_iff->je,getElem?_map->fR,getElem?_range->rD,getElem?_set_ne->ed,getElem?_set_self->fT,getElem?_toArray->im,getElem?_zipWith->adg,getElem?_zip_eq_some->CM,getElem_mem->Ki,isEmpty_cons->acM,isEmpty_iff->nX,length->j9,length_append->cU,length_cons->cK,length_drop->yd,length_eq_zero_iff->CN,length_filter_le->Km,length_map->dm,length_nil->iJ,length_range->kc,length_set->fH,length_tail->JW,length_zip->adC,lookup_cons->pb,map_append->mJ,map_congr_left->uk,map_cons->cB,map_eq_nil_iff->adN,map_id->Jm,map_map->il,map_nil->rO,map_reverse->adb,mem_append->fQ,mem_append_left->J2,mem_append_right->J1,mem_cons->bP,mem_cons_of_mem->acQ,mem_cons_self->Cr,mem_erase_of_ne->uD,mem_filter->uF,mem_filterMap->JD,mem_iff_getElem?->ad7,mem_map->eh,mem_map_of_mem->Kk,mem_of_getElem?->ke,mem_range->eu,mem_replicate->ye,mem_reverse->CO,mem_singleton->jd,nil_append->eE,nodup_append->pr,nodup_cons->gu,not_mem_nil->dP,pairwise_cons->ada,perm_append_singleton->Ko,perm_cons_erase->lN,range->aO,range'->Cn,range'_succ->Co,range_eq_range'->acN,range_succ->Kg,range_succ_eq_map->ado,replicate->CK,reverse_perm->Kp,singleton_append->ro,size_toArray->eY,take->Ch,take_of_length_le->uw,take_succ_eq_append_getElem->adl,zip_cons_cons->uo
open List.cons renaming injEq->adK
open Nat renaming add_assoc->oX,add_comm->rg,add_le_add->I9,add_le_add_left->nN,add_le_add_right->rh,add_right_cancel->acA,add_right_comm->xC,add_sub_cancel'->I6,add_zero->tZ,beq->mC,ble->jr,ble_eq->Cq,blt->yq,le_add_of_sub_le->acD,le_add_right->dI,le_antisymm->Jv,le_of_add_left_le->acP,le_of_add_right_le->xF,le_of_ble_eq_true->xz,le_of_eq->gV,le_of_lt->j8,le_of_lt_succ->acH,le_of_not_lt->Cd,le_of_succ_le->jN,le_refl->cu,le_sub_of_add_le->I5,le_succ->mz,le_succ_of_le->uh,le_trans->bg,lt_add_of_pos_right->I7,lt_irrefl->cQ,lt_of_add_right_lt->acy,lt_of_le_of_lt->ff,lt_of_lt_of_le->ck,lt_of_not_le->acF,lt_of_succ_lt_succ->ad9,lt_or_ge->ur,lt_succ_of_le->Jg,lt_succ_of_lt->rJ,lt_succ_self->o7,lt_trans->tY,min_le_right->adq,mod_lt->nP,mul_assoc->yp,mul_comm->uA,mul_le_mul_left->Cc,mul_le_mul_right->acI,mul_zero->Cm,ne_of_gt->nS,ne_of_lt->dW,not_lt->lC,not_succ_le_self->adr,one_mul->I3,pow_add->Kb,pow_le_pow_right->xU,pow_succ->yo,sub_add_cancel->Jf,sub_eq_zero_of_le->Jc,sub_le_of_le_add->acB,sub_le_sub_right->acG,succ_le_succ->Cb,succ_ne_self->adD,succ_pos->I8,two_pow_pos->Kc,zero_add->xJ,zero_le->lA
open Nat.succ renaming inj->yg
open OfNat renaming ofNat->nK
open Option renaming bind->Cg,bind_some->ip,getD_none->C4,getD_some->JF,isSome_iff_exists->pg,isSome_some->acK,map->ri,map_eq_some_iff->xZ,map_some->mB,none->nU,none_or->JC
open Option.some renaming inj->bw,injEq->lH
open Ordering renaming gt->o9,lt->jO
open PUnit renaming unit->kG
open Prod renaming snd->Cx
open Prod.mk renaming inj->x9,injEq->mF
open PyProof.Rows renaming AllBare->mD,args_cons->lF,args_nil->nW,callWith_builtin1->Ju,callWith_type1->kb,lt'->fh,plain1->jv,slot_tuple_getitem->Cz,tail_any->Cy
open PySem renaming Addr->aJ,Around->bx,CmpOp->gq,Comprehension->CV,DictEntry->cW,Env->cz,Expr->iG,Frame->rk,FuncData->uf,GenState->Ci,Heap->bh,IntMulOk->Cu,IsZip->rN,Keyword->uu,Model->kI,Obj->bK,Operator->gf,OsState->lD,Params->bX,Pos->br,Program->rj,Result->o0,Sem->bA,Shared->aL,Stmt->dw,Tok->dz,Value->aI,World->aZ,assign->iN,assignEach->jt,assignInOrder->CC,attributeBase->nY,backTo->ka,behindInMarks->rA,binaryOp->Cv,bindArgs->yf,builtinsNs->nV,cLine->rL,call->Jn,callType_newIn->JX,call_range_1->JL,cellsFrom->g6,codeAny->mG,codeAny_call_function->JJ,codeAny_func->JK,codeAny_of_tree->yc,compPost->yj,compareOp->Cw,comprehension->yk,dictPut->xM,dictSet->t8,draw->cV,evalPairs->Cp,firstIterPos->J3,foldedSetIterable->rG,getItem->uc,hashInt->iH,holding->js,intKind->xS,keywordEach->JO,letOwnedTupleGo->xY,mainGlobals->o8,mergeMapping->Jj,newFunctionEnv->CE,noteFrame->CG,nsFind->rB,pushCells->um,pyIter->jP,pyNext->mE,rawHash->rl,rawInt->gY,runOwn->rK,seqIndex?->ud,sizeLine->kF,sliceBounds->kJ,slicePick->CR,spliced->ub,standAt->gJ,starEach->ju,subDict->t9,swappedStores->nT,swapsWithSole->rt,sysModules->rp,theTreesLotGoes->JI,treeTable->fF,unpackItems->CB,valueAt->xX,wpAny->bc,wpAny_Assign_stores->yb,wpAny_BinOp->xW,wpAny_Call_method->rH,wpAny_Compare1->Js,wpAny_Constant_int->Jr,wpAny_Name->rz,wpAny_assignInOrder_more->JB,wpAny_assignInOrder_none->ad6,wpAny_assign_Name->x0,wpAny_bind->ba,wpAny_callSpecial?_slot->us,wpAny_call_entry->rE,wpAny_execs_cons->JH,wpAny_execs_nil->JG,wpAny_field->jw,wpAny_holding->fG,wpAny_isTrue_Compare1->CA,wpAny_list_append_plain->JR,wpAny_loadName_local->xV,wpAny_mono->iM,wpAny_newObj_type->ux,wpAny_noted->CH,wpAny_of_eq->J4,wpAny_onRaise->CJ,wpAny_pure->cm,wpAny_pyIter_list->Jz,wpAny_pyIter_zip->CQ,wpAny_pyNext_list_end->ad1,wpAny_pyNext_list_item->ad0,wpAny_rule->CW,wpAny_seqItems->uy,wpAny_setField_rec->ym,wpAny_specialOf->Jy,wpAny_standAt->gr,wpAny_storeName_cell->ad5,wpAny_storeName_local->ad4,wpAny_truthy_bool->ue,wpAny_unpackItems_tuple->JA
open PySem.AutoFloatOps renaming gt_0->acU
open PySem.Builtin.Int renaming intBits->acR
open PySem.Builtin.Range renaming rangeFitsLong->adf,small->ade
open PySem.Builtin.Slice renaming sliceAdjust->JZ,sliceApplied->adp,slicePlaces->CU
open PySem.Builtin.SmallTypes renaming nextOf->pp,ownedTupleHandOut->adx,ownedTupleIsFree->CZ
open PySem.Builtin.Str renaming glued->adJ,occurrences->acT
open PySem.Builtin.Tuple renaming tupleExact->JY
open PySem.Calls renaming Name_function_global->acX,callWith_builtin->uv
open PySem.Challenge renaming rw_xh0036_01->Ct
open PySem.F renaming args_tuple_iterator_next_1->adu,args_zip_next_1->adz,called_zip->adA,entry_tuple_iterator_next->adt,entry_zip_new->adB,entry_zip_next->ady,plainAttrs_dict->adc,plainAttrs_list->JS,plainAttrs_str->pj,slot_dict_get->ads,slot_dict_itemiterator_iter->ad3,slot_list_remove->adk,slot_str_count->J7,slot_str_join->adE,slot_tuple_iterator_next->CY,slot_zip_next->C0,type_list_append->adj,type_str_count->J8,type_str_join->adF
open PySem.Float64 renaming abs->fU,cmp->ry,cmpInt->Jq,isNaN->uB,mul->c9,ofFrac->Jo,ofInt->bZ,sub->dk
open PySem.Flt renaming NumIs->JT,bestBits->Ke,gtB->adn,iter_list_->JU,maxOfBits->nZ
open PySem.Heap renaming ExtBut->ui,SameBut->gZ,dictOf_iff->pa,get?_push_of_some->cA,get?_push_size->dx,get?_update_self->o6,lt_size->cg,size_push->eQ
open PySem.Heap.SameBut renaming update->ug
open PySem.IntMulOk renaming of_left->acS
open PySem.IsRange renaming new->CP
open PySem.NameKind renaming cell->CD,free->pf
open PySem.Obj renaming data_mapFields->adv,mapSeq->ph
open PySem.P renaming chr_of_int->adh
open PySem.Sem renaming bind_eq_wrap'->acJ
open PySem.Shared renaming heap->yn,setGen->acY
open PySem.Str renaming ofString->aK
open PySem.Txt renaming charAt->JQ,count->CS,lower->JP
open PySem.Value renaming builtin->Jk,int->Jp,isInt->lJ,isInt_shape->ad2,none->yl,ref->rM
open PySem.Value.ref renaming inj->CT
open PySem.W renaming ReadsAllW->C1,absHeap->xQ,behindTheImports->Jh,boot_heap->oZ,cellsFrom_some->CF,emptyDict->uz,instObj->lE,piece_app->Cs,piecesOf->xL,plainGet_of->J6,segRunT->xK,segRun_of->xR,topRun->jb
open PySem.W.Num renaming settled->C3,sumFloats->adH,sumInts->lI
open PySem.W.WData renaming float->lM,int->jQ,list->Ka
open PySem.W.WTm renaming holds->J9
open PySem.Walks renaming list->JV
open Rat renaming div_mul_cancel->gh,intCast_add->lL,intCast_le_intCast->gg,intCast_mul->gK,intCast_neg->rR,intCast_nonneg->uC,intCast_pow->mI,intCast_sub->lK,le_of_lt->oW,le_of_mul_le_mul_left->adG,le_of_mul_le_mul_right->rQ,le_refl->IZ,le_trans->dj,mul_le_mul_of_nonneg_left->I2,mul_le_mul_of_nonneg_right->rP,mul_nonneg->xA,mul_pos->Kd,natCast_add->Kf,natCast_nonneg->I1,ne_of_lt->Jb,pow_pos->pq,sub_eq_add_neg->act,sub_self->Ce
namespace Mine.Internal
section
section
variable{A B C D0 E F H I0 J0 K:Sort _}{G0:Prop}
theorem bn{a P1:Prop}(h:a/\P1)(k:a->P1->G0):G0:=h.elim k
theorem aU{a:A->Prop}(h:∃ v0,a v0)(k:∀ v0,a v0->G0):G0:=h.elim k
theorem bO{a P1 b:Prop}(h:a/\P1/\b)(k:a->P1->b->G0):G0:=h.elim λx h=>bn h (k x)
theorem aV{a P1:A->Prop}(h:∃ v0,a v0/\P1 v0)(k:∀ v0,a v0->P1 v0->G0):G0:=aU h λb h=>bn h (k b)
theorem gQ{a:A->B->Prop}(h:∃ v0 v1,a v0 v1)(k:∀ v0 v1,a v0 v1->G0):G0:=h.elim λx h=>aU h (k x)
theorem fX{a P1 b c:Prop}(h:a/\P1/\b/\c)(k:a->P1->b->c->G0):G0:=h.elim λx h=>bO h (k x)
theorem K9{a P1:Prop}{b:A->Prop}(h:a/\P1/\∃ v0,b v0)(k:a->P1->∀ v0,b v0->G0):G0:=bO h λc d h=>aU h (k c d)
theorem eo{a:Prop}{P1 b:A->Prop}(h:a/\∃ v0,P1 v0/\b v0)(k:a->∀ v0,P1 v0->b v0->G0):G0:=bn h λc h=>aV h (k c)
theorem ej{a P1 b:A->Prop}(h:∃ v0,a v0/\P1 v0/\b v0)(k:∀ v0,a v0->P1 v0->b v0->G0):G0:=aU h λc h=>bO h (k c)
theorem eA{a P1:A->B->Prop}(h:∃ v0 v1,a v0 v1/\P1 v0 v1)(k:∀ v0 v1,a v0 v1->P1 v0 v1->G0):G0:=gQ h λb c h=>bn h (k b c)
theorem eZ{b:A->B->C->Prop}(h:∃ v0 v1 a,b v0 v1 a)(k:∀ v0 v1 a,b v0 v1 a->G0):G0:=h.elim λx h=>gQ h (k x)
theorem gj{a P1 b c d:Prop}(h:a/\P1/\b/\c/\d)(k:a->P1->b->c->d->G0):G0:=h.elim λx h=>fX h (k x)
theorem ou{a P1:Prop}{b c:A->Prop}(h:a/\P1/\∃ v0,b v0/\c v0)(k:a->P1->∀ v0,b v0->c v0->G0):G0:=bO h λd e h=>aV h (k d e)
theorem u4{a:Prop}{P1 b c:A->Prop}(h:a/\∃ v0,P1 v0/\b v0/\c v0)(k:a->∀ v0,P1 v0->b v0->c v0->G0):G0:=bn h λd h=>ej h (k d)
theorem nH{a P1 b c:A->Prop}(h:∃ v0,a v0/\P1 v0/\b v0/\c v0)(k:∀ v0,a v0->P1 v0->b v0->c v0->G0):G0:=aU h λd h=>fX h (k d)
theorem ls{a P1:A->Prop}{b:A->B->Prop}(h:∃ v0,a v0/\P1 v0/\∃ v1,b v0 v1)(k:∀ v0,a v0->P1 v0->∀ v1,b v0 v1->G0):G0:=aU h λc h=>K9 h (k c)
theorem GM{a:A->Prop}{P1 b:A->B->Prop}(h:∃ v0,a v0/\∃ v1,P1 v0 v1/\b v0 v1)(k:∀ v0,a v0->∀ v1,P1 v0 v1->b v0 v1->G0):G0:=aU h λc h=>eo h (k c)
theorem bG{a P1 b:A->B->Prop}(h:∃ v0 v1,a v0 v1/\P1 v0 v1/\b v0 v1)(k:∀ v0 v1,a v0 v1->P1 v0 v1->b v0 v1->G0):G0:=gQ h λc d h=>bO h (k c d)
theorem lV{b P1:A->B->C->Prop}(h:∃ v0 v1 a,b v0 v1 a/\P1 v0 v1 a)(k:∀ v0 v1 a,b v0 v1 a->P1 v0 v1 a->G0):G0:=eZ h λc d e h=>bn h (k c d e)
theorem SV{c:A->B->C->D0->Prop}(h:∃ v0 v1 a b,c v0 v1 a b)(k:∀ v0 v1 a b,c v0 v1 a b->G0):G0:=h.elim λx h=>eZ h (k x)
theorem ot{a P1 b c d e:Prop}(h:a/\P1/\b/\c/\d/\e)(k:a->P1->b->c->d->e->G0):G0:=h.elim λx h=>gj h (k x)
theorem zZ{a P1 b c d:A->Prop}(h:∃ v0,a v0/\P1 v0/\b v0/\c v0/\d v0)(k:∀ v0,a v0->P1 v0->b v0->c v0->d v0->G0):G0:=aU h λe h=>gj h (k e)
theorem mj{a P1 b c:A->B->Prop}(h:∃ v0 v1,a v0 v1/\P1 v0 v1/\b v0 v1/\c v0 v1)(k:∀ v0 v1,a v0 v1->P1 v0 v1->b v0 v1->c v0 v1->G0):G0:=gQ h λd e h=>fX h (k d e)
theorem sg{b P1 c:A->B->C->Prop}(h:∃ v0 v1 a,b v0 v1 a/\P1 v0 v1 a/\c v0 v1 a)(k:∀ v0 v1 a,b v0 v1 a->P1 v0 v1 a->c v0 v1 a->G0):G0:=eZ h λd e f h=>bO h (k d e f)
theorem pD{c:A->B->C->D0->E->Prop}(h:∃ v0 v1 a b v4,c v0 v1 a b v4)(k:∀ v0 v1 a b v4,c v0 v1 a b v4->G0):G0:=h.elim λx h=>SV h (k x)
theorem tM{a P1 b c d e f:Prop}(h:a/\P1/\b/\c/\d/\e/\f)(k:a->P1->b->c->d->e->f->G0):G0:=h.elim λx h=>ot h (k x)
theorem ZT{a P1:Prop}{b c d:A->B->Prop}(h:a/\P1/\∃ v0 v1,b v0 v1/\c v0 v1/\d v0 v1)(k:a->P1->∀ v0 v1,b v0 v1->c v0 v1->d v0 v1->G0):G0:=bO h λe f h=>bG h (k e f)
theorem aa2{b:Prop}{P1 c d:A->B->C->Prop}(h:b/\∃ v0 v1 a,P1 v0 v1 a/\c v0 v1 a/\d v0 v1 a)(k:b->∀ v0 v1 a,P1 v0 v1 a->c v0 v1 a->d v0 v1 a->G0):G0:=bn h λe h=>sg h (k e)
theorem nE{a P1 b c d:A->B->Prop}(h:∃ v0 v1,a v0 v1/\P1 v0 v1/\b v0 v1/\c v0 v1/\d v0 v1)(k:∀ v0 v1,a v0 v1->P1 v0 v1->b v0 v1->c v0 v1->d v0 v1->G0):G0:=gQ h λe f h=>gj h (k e f)
theorem gC{b P1 c d:A->B->C->Prop}(h:∃ v0 v1 a,b v0 v1 a/\P1 v0 v1 a/\c v0 v1 a/\d v0 v1 a)(k:∀ v0 v1 a,b v0 v1 a->P1 v0 v1 a->c v0 v1 a->d v0 v1 a->G0):G0:=eZ h λe f g h=>fX h (k e f g)
theorem DU{c P1:A->B->C->D0->E->Prop}(h:∃ v0 v1 a b v4,c v0 v1 a b v4/\P1 v0 v1 a b v4)(k:∀ v0 v1 a b v4,c v0 v1 a b v4->P1 v0 v1 a b v4->G0):G0:=pD h λd e f g i h=>bn h (k d e f g i)
theorem yH{d:A->B->C->D0->E->F->Prop}(h:∃ v0 v1 a b v4 c,d v0 v1 a b v4 c)(k:∀ v0 v1 a b v4 c,d v0 v1 a b v4 c->G0):G0:=h.elim λx h=>pD h (k x)
theorem Vz{a P1 b c d e f g:Prop}(h:a/\P1/\b/\c/\d/\e/\f/\g)(k:a->P1->b->c->d->e->f->g->G0):G0:=h.elim λx h=>tM h (k x)
theorem QR{c:A->Prop}{P1 d e:A->B->C->D0->Prop}(h:∃ v0,c v0/\∃ v1 a b,P1 v0 v1 a b/\d v0 v1 a b/\e v0 v1 a b)(k:∀ v0,c v0->∀ v1 a b,P1 v0 v1 a b->d v0 v1 a b->e v0 v1 a b->G0):G0:=aU h λf h=>aa2 h (k f)
theorem iy{a P1 b c d e:A->B->Prop}(h:∃ v0 v1,a v0 v1/\P1 v0 v1/\b v0 v1/\c v0 v1/\d v0 v1/\e v0 v1)(k:∀ v0 v1,a v0 v1->P1 v0 v1->b v0 v1->c v0 v1->d v0 v1->e v0 v1->G0):G0:=gQ h λf g h=>ot h (k f g)
theorem WA{c P1 d:A->B->C->D0->E->Prop}(h:∃ v0 v1 a b v4,c v0 v1 a b v4/\P1 v0 v1 a b v4/\d v0 v1 a b v4)(k:∀ v0 v1 a b v4,c v0 v1 a b v4->P1 v0 v1 a b v4->d v0 v1 a b v4->G0):G0:=pD h λe f g i j h=>bO h (k e f g i j)
theorem Xf{d:A->B->C->D0->E->F->H->Prop}(h:∃ v0 v1 a b v4 c v6,d v0 v1 a b v4 c v6)(k:∀ v0 v1 a b v4 c v6,d v0 v1 a b v4 c v6->G0):G0:=h.elim λx h=>yH h (k x)
theorem FK{a P1 b c d e f g i:Prop}(h:a/\P1/\b/\c/\d/\e/\f/\g/\i)(k:a->P1->b->c->d->e->f->g->i->G0):G0:=h.elim λx h=>Vz h (k x)
theorem Fb{a P1 b c d e f:A->B->Prop}(h:∃ v0 v1,a v0 v1/\P1 v0 v1/\b v0 v1/\c v0 v1/\d v0 v1/\e v0 v1/\f v0 v1)(k:∀ v0 v1,a v0 v1->P1 v0 v1->b v0 v1->c v0 v1->d v0 v1->e v0 v1->f v0 v1->G0):G0:=gQ h λg i h=>tM h (k g i)
theorem GE{c P1:A->B->Prop}{d e f:A->B->C->D0->Prop}(h:∃ v0 v1,c v0 v1/\P1 v0 v1/\∃ a b,d v0 v1 a b/\e v0 v1 a b/\f v0 v1 a b)(k:∀ v0 v1,c v0 v1->P1 v0 v1->∀ a b,d v0 v1 a b->e v0 v1 a b->f v0 v1 a b->G0):G0:=gQ h λg i h=>ZT h (k g i)
theorem zU{b P1 c d e f:A->B->C->Prop}(h:∃ v0 v1 a,b v0 v1 a/\P1 v0 v1 a/\c v0 v1 a/\d v0 v1 a/\e v0 v1 a/\f v0 v1 a)(k:∀ v0 v1 a,b v0 v1 a->P1 v0 v1 a->c v0 v1 a->d v0 v1 a->e v0 v1 a->f v0 v1 a->G0):G0:=eZ h λg i j h=>ot h (k g i j)
theorem FW{d P1 e:A->B->C->D0->E->F->Prop}(h:∃ v0 v1 a b v4 c,d v0 v1 a b v4 c/\P1 v0 v1 a b v4 c/\e v0 v1 a b v4 c)(k:∀ v0 v1 a b v4 c,d v0 v1 a b v4 c->P1 v0 v1 a b v4 c->e v0 v1 a b v4 c->G0):G0:=yH h λf g i j l m h=>bO h (k f g i j l m)
theorem IX{a P1 b c d e f g i j:Prop}(h:a/\P1/\b/\c/\d/\e/\f/\g/\i/\j)(k:a->P1->b->c->d->e->f->g->i->j->G0):G0:=h.elim λx h=>FK h (k x)
theorem KT{a:Prop}{P1 b c d e f g:A->B->Prop}(h:a/\∃ v0 v1,P1 v0 v1/\b v0 v1/\c v0 v1/\d v0 v1/\e v0 v1/\f v0 v1/\g v0 v1)(k:a->∀ v0 v1,P1 v0 v1->b v0 v1->c v0 v1->d v0 v1->e v0 v1->f v0 v1->g v0 v1->G0):G0:=bn h λi h=>Fb h (k i)
theorem Do{b P1 c d e f g:A->B->C->Prop}(h:∃ v0 v1 a,b v0 v1 a/\P1 v0 v1 a/\c v0 v1 a/\d v0 v1 a/\e v0 v1 a/\f v0 v1 a/\g v0 v1 a)(k:∀ v0 v1 a,b v0 v1 a->P1 v0 v1 a->c v0 v1 a->d v0 v1 a->e v0 v1 a->f v0 v1 a->g v0 v1 a->G0):G0:=eZ h λi j l h=>tM h (k i j l)
theorem aaH{c P1 d e f:A->B->C->D0->E->Prop}(h:∃ v0 v1 a b v4,c v0 v1 a b v4/\P1 v0 v1 a b v4/\d v0 v1 a b v4/\e v0 v1 a b v4/\f v0 v1 a b v4)(k:∀ v0 v1 a b v4,c v0 v1 a b v4->P1 v0 v1 a b v4->d v0 v1 a b v4->e v0 v1 a b v4->f v0 v1 a b v4->G0):G0:=pD h λg i j l m h=>gj h (k g i j l m)
theorem Ny{b P1 c d e f g i j l a:Prop}(h:b/\P1/\c/\d/\e/\f/\g/\i/\j/\l/\a)(k:b->P1->c->d->e->f->g->i->j->l->a->G0):G0:=h.elim λx h=>IX h (k x)
theorem LS{b:A->Prop}{P1 c d e f g i:A->B->C->Prop}(h:∃ v0,b v0/\∃ v1 a,P1 v0 v1 a/\c v0 v1 a/\d v0 v1 a/\e v0 v1 a/\f v0 v1 a/\g v0 v1 a/\i v0 v1 a)(k:∀ v0,b v0->∀ v1 a,P1 v0 v1 a->c v0 v1 a->d v0 v1 a->e v0 v1 a->f v0 v1 a->g v0 v1 a->i v0 v1 a->G0):G0:=aU h λj h=>KT h (k j)
theorem GN{c P1 d e f g:A->B->C->D0->E->Prop}(h:∃ v0 v1 a b v4,c v0 v1 a b v4/\P1 v0 v1 a b v4/\d v0 v1 a b v4/\e v0 v1 a b v4/\f v0 v1 a b v4/\g v0 v1 a b v4)(k:∀ v0 v1 a b v4,c v0 v1 a b v4->P1 v0 v1 a b v4->d v0 v1 a b v4->e v0 v1 a b v4->f v0 v1 a b v4->g v0 v1 a b v4->G0):G0:=pD h λi j l m n h=>ot h (k i j l m n)
theorem PN{c P1 d e f g i j l m a b:Prop}(h:c/\P1/\d/\e/\f/\g/\i/\j/\l/\m/\a/\b)(k:c->P1->d->e->f->g->i->j->l->m->a->b->G0):G0:=h.elim λx h=>Ny h (k x)
theorem Sb{b P1 c d e f g i j:A->B->C->Prop}(h:∃ v0 v1 a,b v0 v1 a/\P1 v0 v1 a/\c v0 v1 a/\d v0 v1 a/\e v0 v1 a/\f v0 v1 a/\g v0 v1 a/\i v0 v1 a/\j v0 v1 a)(k:∀ v0 v1 a,b v0 v1 a->P1 v0 v1 a->c v0 v1 a->d v0 v1 a->e v0 v1 a->f v0 v1 a->g v0 v1 a->i v0 v1 a->j v0 v1 a->G0):G0:=eZ h λl m n h=>FK h (k l m n)
theorem Ol{c P1 d e f g i:A->B->C->D0->E->Prop}(h:∃ v0 v1 a b v4,c v0 v1 a b v4/\P1 v0 v1 a b v4/\d v0 v1 a b v4/\e v0 v1 a b v4/\f v0 v1 a b v4/\g v0 v1 a b v4/\i v0 v1 a b v4)(k:∀ v0 v1 a b v4,c v0 v1 a b v4->P1 v0 v1 a b v4->d v0 v1 a b v4->e v0 v1 a b v4->f v0 v1 a b v4->g v0 v1 a b v4->i v0 v1 a b v4->G0):G0:=pD h λj l m n o h=>tM h (k j l m n o)
theorem Po{d P1 e f g i j l m n a b c:Prop}(h:d/\P1/\e/\f/\g/\i/\j/\l/\m/\n/\a/\b/\c)(k:d->P1->e->f->g->i->j->l->m->n->a->b->c->G0):G0:=h.elim λx h=>PN h (k x)
theorem aaK{b P1 c d e f g i j l:A->B->C->Prop}(h:∃ v0 v1 a,b v0 v1 a/\P1 v0 v1 a/\c v0 v1 a/\d v0 v1 a/\e v0 v1 a/\f v0 v1 a/\g v0 v1 a/\i v0 v1 a/\j v0 v1 a/\l v0 v1 a)(k:∀ v0 v1 a,b v0 v1 a->P1 v0 v1 a->c v0 v1 a->d v0 v1 a->e v0 v1 a->f v0 v1 a->g v0 v1 a->i v0 v1 a->j v0 v1 a->l v0 v1 a->G0):G0:=eZ h λm n o h=>IX h (k m n o)
theorem X8{d P1 e f g i:A->B->C->D0->E->F->H->Prop}(h:∃ v0 v1 a b v4 c v6,d v0 v1 a b v4 c v6/\P1 v0 v1 a b v4 c v6/\e v0 v1 a b v4 c v6/\f v0 v1 a b v4 c v6/\g v0 v1 a b v4 c v6/\i v0 v1 a b v4 c v6)(k:∀ v0 v1 a b v4 c v6,d v0 v1 a b v4 c v6->P1 v0 v1 a b v4 c v6->e v0 v1 a b v4 c v6->f v0 v1 a b v4 c v6->g v0 v1 a b v4 c v6->i v0 v1 a b v4 c v6->G0):G0:=Xf h λj l m n o p q h=>ot h (k j l m n o p q)
theorem Ub{e P1 f g i j l m n o a b c d:Prop}(h:e/\P1/\f/\g/\i/\j/\l/\m/\n/\o/\a/\b/\c/\d)(k:e->P1->f->g->i->j->l->m->n->o->a->b->c->d->G0):G0:=h.elim λx h=>Po h (k x)
theorem DH{i P1 j l m n o p q r d e f g:A->B->C->D0->E->F->Prop}(h:∃ v0 v1 a b v4 c,i v0 v1 a b v4 c/\P1 v0 v1 a b v4 c/\j v0 v1 a b v4 c/\l v0 v1 a b v4 c/\m v0 v1 a b v4 c/\n v0 v1 a b v4 c/\o v0 v1 a b v4 c/\p v0 v1 a b v4 c/\q v0 v1 a b v4 c/\r v0 v1 a b v4 c/\d v0 v1 a b v4 c/\e v0 v1 a b v4 c/\f v0 v1 a b v4 c/\g v0 v1 a b v4 c)(k:∀ v0 v1 a b v4 c,i v0 v1 a b v4 c->P1 v0 v1 a b v4 c->j v0 v1 a b v4 c->l v0 v1 a b v4 c->m v0 v1 a b v4 c->n v0 v1 a b v4 c->o v0 v1 a b v4 c->p v0 v1 a b v4 c->q v0 v1 a b v4 c->r v0 v1 a b v4 c->d v0 v1 a b v4 c->e v0 v1 a b v4 c->f v0 v1 a b v4 c->g v0 v1 a b v4 c->G0):G0:=yH h λs t u v w x h=>Ub h (k s t u v w x)
theorem dA{c:A->B->Prop}(a:A)(b:B)(h0:c a b):∃ a b,c a b:=⟨a,⟨b,h0⟩⟩
theorem dH{d:A->B->C->Prop}(a:A)(b:B)(c:C)(h0:d a b c):∃ a b c,d a b c:=⟨a,dA b c h0⟩
theorem wY{e:A->B->C->D0->Prop}(a:A)(b:B)(c:C)(d:D0)(h0:e a b c d):∃ a b c d,e a b c d:=dH a b c ⟨d,h0⟩
theorem qE{f:A->B->C->D0->E->Prop}(a:A)(b:B)(c:C)(d:D0)(e:E)(h0:f a b c d e):∃ a b c d e,f a b c d e:=dH a b c (dA d e h0)
theorem wA{g:A->B->C->D0->E->F->Prop}(a:A)(b:B)(c:C)(d:D0)(e:E)(f:F)(h0:g a b c d e f):∃ a b c d e f,g a b c d e f:=dH a b c (dH d e f h0)
theorem Hw{h:A->B->C->D0->E->F->H->Prop}(a:A)(b:B)(c:C)(d:D0)(e:E)(f:F)(g:H)(h0:h a b c d e f g):∃ a b c d e f g,h a b c d e f g:=dH a b c (dH d e f ⟨g,h0⟩)
theorem aam{j:A->B->C->D0->E->F->H->I0->J0->Prop}(a:A)(b:B)(c:C)(d:D0)(e:E)(f:F)(g:H)(h:I0)(i:J0)(h0:j a b c d e f g h i):∃ a b c d e f g h i,j a b c d e f g h i:=dH a b c (dH d e f (dH g h i h0))
theorem MT{k:A->B->C->D0->E->F->H->I0->J0->K->Prop}(a:A)(b:B)(c:C)(d:D0)(e:E)(f:F)(g:H)(h:I0)(i:J0)(j:K)(h0:k a b c d e f g h i j):∃ a b c d e f g h i j,k a b c d e f g h i j:=dH a b c (dH d e f (dH g h i ⟨j,h0⟩))
theorem aS{b P1:A->Prop}(a:A)(h0:b a)(h1:P1 a):∃ a,b a/\P1 a:=⟨a,⟨h0,h1⟩⟩
theorem fu{b:Prop}{P1 c:A->Prop}(h0:b)(a:A)(h1:P1 a)(h2:c a):b/\∃ a,P1 a/\c a:=⟨h0,a,⟨h1,h2⟩⟩
theorem cI{b P1 c:A->Prop}(a:A)(h0:b a)(h1:P1 a)(h2:c a):∃ a,b a/\P1 a/\c a:=⟨a,⟨h0,h1,h2⟩⟩
theorem iz{c P1:A->B->Prop}(a:A)(b:B)(h0:c a b)(h1:P1 a b):∃ a b,c a b/\P1 a b:=dA a b ⟨h0,h1⟩
theorem j3{b P1 c d:A->Prop}(a:A)(h0:b a)(h1:P1 a)(h2:c a)(h3:d a):∃ a,b a/\P1 a/\c a/\d a:=⟨a,⟨h0,h1,h2,h3⟩⟩
theorem cE{c P1 d:A->B->Prop}(a:A)(b:B)(h0:c a b)(h1:P1 a b)(h2:d a b):∃ a b,c a b/\P1 a b/\d a b:=dA a b ⟨h0,h1,h2⟩
theorem ny{b P1 c d e:A->Prop}(a:A)(h0:b a)(h1:P1 a)(h2:c a)(h3:d a)(h4:e a):∃ a,b a/\P1 a/\c a/\d a/\e a:=⟨a,⟨h0,h1,h2,h3,h4⟩⟩
theorem m0{d:A->Prop}{P1 e:A->B->C->Prop}(a:A)(h0:d a)(b:B)(c:C)(h1:P1 a b c)(h2:e a b c):∃ a,d a/\∃ b c,P1 a b c/\e a b c:=⟨a,⟨h0,dA b c ⟨h1,h2⟩⟩⟩
theorem qX{c P1 d e:A->B->Prop}(a:A)(b:B)(h0:c a b)(h1:P1 a b)(h2:d a b)(h3:e a b):∃ a b,c a b/\P1 a b/\d a b/\e a b:=dA a b ⟨h0,h1,h2,h3⟩
theorem qd{c P1 d e f:A->B->Prop}(a:A)(b:B)(h0:c a b)(h1:P1 a b)(h2:d a b)(h3:e a b)(h4:f a b):∃ a b,c a b/\P1 a b/\d a b/\e a b/\f a b:=dA a b ⟨h0,h1,h2,h3,h4⟩
theorem fy{d P1 e f:A->B->C->Prop}(a:A)(b:B)(c:C)(h0:d a b c)(h1:P1 a b c)(h2:e a b c)(h3:f a b c):∃ a b c,d a b c/\P1 a b c/\e a b c/\f a b c:=dH a b c ⟨h0,h1,h2,h3⟩
theorem jG{c P1 d e f g:A->B->Prop}(a:A)(b:B)(h0:c a b)(h1:P1 a b)(h2:d a b)(h3:e a b)(h4:f a b)(h5:g a b):∃ a b,c a b/\P1 a b/\d a b/\e a b/\f a b/\g a b:=dA a b ⟨h0,h1,h2,h3,h4,h5⟩
end
local macro_rules |`(tactic| grind)=>`(tactic| grind -abstractProof)
local macro_rules |`(tactic| lia)=>`(tactic| lia -abstractProof)
theorem lk{a k n:Nat}(e:a=k)(h:jr (k+1) n=true):a<n:=e▸xz h
theorem dt{a:Rat}:a<=a:=IZ
theorem ch{a b c d:Rat}(h:a<=b)(k:c<=d):a+c<=b+d:=dj (Rat.add_le_add_right.mpr h) (Rat.add_le_add_left.mpr k)
theorem C8{a b:Rat}(h:a<=b):-b<=-a:=Rat.neg_le_neg h
theorem dE{a b c d:Rat}(h:a<=b)(k:c<=d):a-d<=b-c:=act a d▸act b c▸ch h (C8 k)
theorem AB(m:Nat):0<=(nK m:Rat):=I1
theorem vt{a b:Rat}{m:Nat}(h:a<=b):(nK m:Rat)*a<=nK m*b:=I2 h (AB m)
theorem YU(m n:Nat):(0:Rat)<=nK m/nK n:=by
 rcases Rat.le_iff_lt_or_eq.mp (AB n)with q|q
 ·exact Rat.div_def _ _▸xA (AB m) (oW (Rat.inv_pos.mpr q))
 ·rw[<- q,Rat.div_def,Rat.inv_zero,Rat.mul_zero];exact IZ
theorem dX{a b:Rat}{m n:Nat}(h:a<=b):(nK m:Rat)/nK n*a<=nK m/nK n*b:=I2 h (YU m n)
theorem mo{x:Int}{n:Nat}(h1:x<=n)(h2:-(n:Int)<=x):x.natAbs<=n:=by
 cases x with
 |ofNat k=>exact j7.mp h1
 |negSucc k=>exact j7.mp (xB h2)
theorem ZB{c:Nat}{a b:Int}(h:a+b<=((2^(c:Nat):Nat):Int))(k:-((2^(c:Nat):Nat):Int)<=a+b):(a+b).natAbs<=1*2^(c:Nat):=(I3 _).symm▸mo h k
theorem Zt{a:Int}(h:0<=a/\a<=45):a.natAbs<=45:=mo h.2 (fD (by decide) h.1)
theorem RY{a:Int}(h:0<=a)(k:a<=45):a.natAbs<=2^6:=mo (fD k (by decide)) (fD (by decide) h)
theorem FH{a:Int}(h:0<a)(k:a<=640000):a.natAbs<=2^20:=mo (fD k (by decide)) (fD (by decide) (Ca h))
theorem QG{a b c:Int}(h1:0<=a)(h2:a<=45)(h3:0<=b)(h4:b<=45)(h5:0<=c)(h6:c<=45):0<=a+b+c/\a+b+c<=135:=⟨I4 (I4 h1 h3) h5,fE (fE h2 h4) h6⟩
theorem Oj{a b c d:Int}(h:0<=a/\a<=c)(k:0<=b/\b<=d):0<=a+b/\a+b<=c+d:=⟨I4 h.1 k.1,fE h.2 k.2⟩
theorem Uo{a b c:Nat}(h:c+(a+1)<=b):a<b-c:=I5 (rg c (a+1)▸h)
theorem U2{a b c:Nat}(h:b<=c)(k:(a:Int)<(b:Int)):a+(b-a)<=c:=bg (gV (I6 (j8 (nL.mp k)))) h
theorem MU{a b:Nat}(h:a+(b+1)=15):a<15:=h▸I7 (I8 b)
theorem ZK{a b:Nat}(h:a+(b+1)<900):a+1<1000:=tY (ff (nN (Cb (lA b)) a) h) (by decide)
theorem VX{a b c:Nat}(h:b<=c)(k:a+8*c<9000):a+8*b<9000:=ff (nN (Cc 8 h) a) k
theorem L8{a b c d e:Nat}(h:a+b<=e)(k:e+c<=d):a+(b+c)<=d:=oX a b c▸bg (rh h c) k
theorem Np{a b c d e f:Int}(h:0<=c)(k:f<=d+e)(l:b<=f):a+b<=a+c+(d+e):=fE (Int.le_add_of_nonneg_right h) (fD l k)
theorem ZM{a b c:Nat}(h:a<=2000)(k:b<=2000*(c+1)):a+b<=2000*(c+1+1):=bg (I9 h k) (gV (rg ..))
theorem Zf{a b c d:Nat}(h:a<=d+c)(k:d<=b+1):a<=b+(c+1):=bg h (bg (rh k c) (gV (xC b 1 c)))
theorem R5{a b c:Nat}(h:c+(b+1)<=1000000)(k:a<=c+1):a+b<=1000000:=bg (rh k b) (bg (gV (xC c 1 b)) h)
theorem MB{a:Int}(h:a<0):-((a.natAbs:Nat):Int)=a:=(congrArg Neg.neg (acu (Ca h))).trans (Int.neg_neg a)
theorem X0{a:Int}(h:a.natAbs<2^64):a<2^64:=xD Ja (nL.mpr h)
theorem Ie{a b:Int}(h:0<b)(k:a.natAbs<=b.natAbs):a<=b:=fD Ja (fD (j7.mpr k) (xE (acv (Ca h))))
theorem NC{a b:Int}(h:0<a)(k:b.natAbs<=a.natAbs):-a<=b:=xB (Ie h ((Int.natAbs_neg b).symm▸k))
theorem dR{a:Nat}(_:a<=1000):a<=1000000:=bg ‹_› (by decide)
theorem j5{a:Int}(_:a<=45):a<=64:=fD ‹_› (by decide)
theorem km{a b:Nat}(_:a+(b+1)<=1000000):a<=1000000:=xF ‹_›
theorem kB{a:Nat}:0<=(a:Int):=nO _
theorem mZ{a b:Nat}(_:a+(b+1)<=1000000):a+1+b<=1000000:=by simp_all+arith
theorem mU{a:Nat}(_:a<=6):a<=1000:=bg ‹_› (by decide)
theorem GC{a b:Nat}:a+(b+1)=a+1+b:=Eq.symm (Nat.succ_add_eq_add_succ a b)
theorem qR{a b:Rat}(h:-(9/20)<=b)(i:a<=9/20):8*(a-b)<=8:=dj (vt (dE i h)) (by decide+kernel)
theorem qH{a b:Rat}(h:b<=9/20)(i:-(9/20)<=a):-8<=8*(a-b):=dj (by decide+kernel) (vt (dE i h))
theorem pT{a:Rat}(h:-(9/20)<=a):-8<=a:=dj (by decide+kernel) h
theorem qo{a:Rat}(_:0<a):a≠0:=Ne.symm (Jb ‹_›)
theorem re{a:Rat}(h:a<=9/20):a<=8:=dj h (by decide+kernel)
theorem sG{a b:Nat}(_:a+(b+1)<=1000000):a+b<=1000000:=jN ‹_›
theorem wu{a b:Nat}(_:a<b):a<b+1:=Nat.lt_add_one_of_lt ‹_›
theorem sA{a b:Nat}(_:b<=6)(_:a<=b):a<=6:=bg ‹_› ‹_›
theorem sK{a b:Nat}(_:¬a=b):¬(a:Int)=(b:Int):=λh=>‹¬_› (acw h)
theorem sR{a:Nat}(_:a=114\/a=103\/a=98\/a=13191):a=114\/a=103\/a=98\/a=13191:=by assumption
theorem wW{a b:Int}(_:a<b):1*a<1*b:=by simp;omega
theorem vL{a b:Int}(_:a=b):a<=b:=xE ‹_›
theorem xj{a b:Int}(_:b=a):a<=b:=xE (id (Eq.symm ‹_›))
theorem vg{a b:Nat}(_:a<=b):a+1<=b+1:=rh ‹_› 1
theorem ZC{a b:Rat}(_:b<=a):0<=a-b:=(λa b=>(Rat.le_iff_sub_nonneg a b).mp) b a ‹_›
theorem aaw{a:Int}(h:-1000001<=a)(k:a<=1000001):-2^63<=a/\a<2^63:=⟨fD (by decide) h,xD k (by decide)⟩
theorem HH{a:Int}(_:0<=a)(_:a<=45):0<=a/\a<=45:=⟨‹_›,‹_›⟩
theorem Av{a:Int}:a=0+a:=Eq.symm (xG a)
theorem wU{a:Nat}(h:a<3):a=0\/a=1\/a=2:=(by decide:∀ a<3,a=0\/a=1\/a=2) a h
theorem sH{a:Nat}(h:a=0\/a=1\/a=2\/a=3\/a=4\/a=5):a<6:=h.elim (lk · rfl) λh=>h.elim (lk · rfl) λh=>h.elim (lk · rfl) λh=>h.elim (lk · rfl) λh=>h.elim (lk · rfl) (lk · rfl)
theorem xm{a:Nat}(_:a=52):33<a:=by simp[*]
theorem wt{a:Nat}(_:a<=1000):a<=999999:=bg ‹_› (by decide)
theorem wb{a:Nat}(_:a<=60):1074+a<=2000:=by lia
theorem wL{a:Nat}:54<=1074+a:=by simp+arith
theorem vV{a:Nat}:¬(a:Int)<0:=Int.not_ofNat_neg a
theorem wJ{a:Rat}(h:0<=a):-1<=a:=dj (by decide+kernel) h
theorem vd{a:Rat}(_:a<=1/2^20):(1+1/2^52)*(8+a)<=64:=by grind
theorem uU{a:Rat}(_:a<=1/2^20):1/2^52*(8+a)+1*a+1/2^48<=a+1/2^47:=by grind
theorem IC{a b c d:Int}:a+b+(c+d)=a+c+(b+d):=by simp+arith
theorem zk{a b c d:Rat}(_:-a<=d)(_:-b<=c-d):-(a+b)<=c:=by grind
theorem Af{a b c d:Rat}(_:d<=b)(_:a-d<=c):a<=b+c:=by grind
theorem HC{a b c:Int}:a+(b+c)=a+b+c:=Eq.symm (xH a b c)
theorem EN{a b c:Nat}(_:b-a=c+1):a<b:=Nat.lt_of_sub_eq_succ ‹_›
theorem AR{a b:Int}(_:b<a):¬a<b:=Int.lt_asymm ‹_›
theorem AD{a b:Int}(_:b<=a):¬a<b:=acx ‹_›
theorem zR{a b:Nat}(_:a+(b+1)<=1000):a<1000:=acy ‹_›
theorem Dg{a b:Nat}(_:a-b=0):a<=b:=Nat.le_of_sub_eq_zero ‹_›
theorem Br{a b:Nat}(_:a<b):(a:Int)<(b:Int):=nL.mpr ‹_›
theorem Bq{a b:Rat}(h:0<=b)(i:a<=3/4):8*(a-b)<=8:=dj (vt (dE i h)) (by decide+kernel)
theorem zJ{a b:Rat}(h:b<=3/4)(i:0<=a):-8<=8*(a-b):=dj (by decide+kernel) (vt (dE i h))
theorem zL{a:Int}(_:0<(a:Rat)):(a:Rat)≠0:=Ne.symm (Jb ‹_›)
theorem y8{a:Nat}(_:0<a):(a:Int)≠0:=by lia
theorem vR{a:Nat}(h:a<6):a=0\/a=1\/a=2\/a=3\/a=4\/a=5:=(by decide:∀ a<6,a=0\/a=1\/a=2\/a=3\/a=4\/a=5) a h
theorem zw{a:Nat}(_:a=16):a<=1000000:=by subst_vars;decide
theorem Ad{a:Nat}:1074+a-54=1020+a:=by simp+arith
theorem zY{a:Nat}:¬a<a:=cQ a
theorem zI{a:Rat}(h:0<=a):-8<=a:=dj (by decide+kernel) h
theorem BD{a:Rat}(h:a<=3/4):a<=8:=dj h (by decide+kernel)
theorem Ir{a b c d e f:Int}:a+b+(c+d)+(e+f)=a+c+e+(b+d+f):=by simp+arith
theorem D9{a b c:Nat}(_:a+(b+1)<=c):a+b<c:=by assumption
theorem Qs{a b c:Nat}(_:b=c)(_:a<c):a<b:=by simp[*]
theorem Fq{a b:Int}(_:a<b):a<=b:=Ca ‹_›
theorem E8{a b:Int}:a+b=b+a:=xI a b
theorem C5{a b:Nat}(_:(a:Int)<(b:Int)):a<b:=nL.mp ‹_›
theorem IW{a b:Nat}(_:11<=a):11<=a+1+b:=by lia
theorem Ig{a b:Nat}(_:a+(b+1)<900):a<1000:=by lia
theorem Ee{a b:Nat}(_:a<b+1)(_:a≠b):a<b:=by lia
theorem D6{a b:Nat}(_:a=b)(_:b<=1000):a<=1000000:=by simp[*];lia
theorem Ho{a b:Nat}(_:a≠b)(_:¬a<b):¬a<b+1:=by lia
theorem Db{a b:Nat}(_:a<=b):a<=b+1:=Nat.le_add_right_of_le ‹_›
theorem Ij{a b:Nat}(_:b=6)(_:a<6):a<b:=by simp[*]
theorem HQ{a b:Nat}(_:b<=1000)(_:a<=b):a<=1000000:=by lia
theorem DO{a b:Nat}(_:b<=3)(_:a=2*b):a<=1000:=by simp[*];lia
theorem EI{a b:Nat}(_:¬b<a+1):a+1<=b:=Cd ‹_›
theorem U8{a b:Nat}:a+3*(b+1)=a+3+3*b:=by simp+arith
theorem Gc{a b:Nat}:a≠a+1+b:=by simp+arith
theorem Es{a b:Nat}:a<=a+1+b:=by simp+arith
theorem Hz{a b:Nat}:max 0 (min (-(a:Int)+(b:Int)) (b:Int))=((b-a:Nat):Int):=(congrArg _ (Int.min_eq_left (fD (acz (Int.neg_nonpos_of_nonneg (nO a)) b) (xE (xG _))))).trans ((Int.max_comm ..).trans ((congrArg (max · 0) (xI ..)).trans (Int.toNat_sub b a▸(Int.ofNat_toNat _).symm)))
theorem DG{a b:Rat}(_:0<a*b):a*b≠0:=Ne.symm (Jb ‹_›)
theorem HK{a b:Rat}(h:0<=a)(i:b<=1):-1<=a-b:=dj (by decide+kernel) (dE h i)
theorem Fk{a b:Rat}(h:0<=a)(i:b<=1):-2<=a-b-1/2^54-1/2^48:=dj (by decide+kernel) (dE (dE (dE h i) dt) dt)
theorem Hr{a b:Rat}(h:a<=1)(i:0<=b):a-b+1/2^54+1/2^48<=2:=dj (ch (ch (dE h i) dt) dt) (by decide+kernel)
theorem HX{a b:Rat}(h:a<=1)(i:0<=b):a-b<=1:=dj (dE h i) (by decide+kernel)
theorem Hx{a:Int}(_:(a:Rat)<=45):(a:Rat)/64<=1:=by grind
theorem Fv{a:Int}{b:Rat}:-(a:Rat)/b=-((a:Rat)/b):=by grind
theorem HR{a:Nat}(_:0<a):-(a:Int)<0:=by simp[*]
theorem HG{a:Nat}(_:0<a):a-1<a:=Nat.sub_one_lt_of_lt ‹_›
theorem Gy{a:Nat}(_:a+10<=1000000):a<=1000000:=xF ‹_›
theorem Fw{a:Nat}(_:a+10<=1000000):a<=999999:=by lia
theorem Di{a:Nat}(_:a+1<17):¬a=16:=by lia
theorem HO{a:Nat}(_:a+1=17):a=16:=acA ‹_›
theorem GY{a:Nat}(_:a=17):15<a:=by simp[*]
theorem IM{a:Nat}(_:a=52):32<a:=by simp[*]
theorem Hs{a:Nat}(_:a<=100):a<=1000:=bg ‹_› (by decide)
theorem HB{a:Nat}(_:a<=1000):(a:Int).natAbs<=1000000:=bg ‹_› (by decide)
theorem EQ{a:Nat}(_:a<=3):2*a<=1000:=by lia
theorem IY{a:Nat}(_:a<=3):a<=1000:=bg ‹_› (by decide)
theorem GQ{a:Nat}(_:a<=3):a<=1000000:=bg ‹_› (by decide)
theorem F1{a:Nat}(_:a<=6):a<=1000000:=bg ‹_› (by decide)
theorem G5{a:Nat}:(a:Int)≠-1:=not_eq_of_beq_eq_false rfl
theorem E2{a:Nat}:a-1<=a-1:=cu (a-1)
theorem Dx{a:Rat}(h:-(9/20)<=a):-1<=a:=dj (by decide+kernel) h
theorem HW{a:Rat}(_:0<=a):a+(a+1/2^47)+1/2^48+(a+1/2^47)+1/2^48<=4*a+1/2^44:=by grind
theorem Ht{a:Rat}(_:a-0<=0/\-0<=a-0):a=0:=by grind
theorem GG{a:Rat}(h:a<=9/20):a<=1:=dj h (by decide+kernel)
theorem Fi{a:Rat}:¬a<a:=Rat.lt_irrefl
theorem DK{b:Nat}{a:Int}(h:0<=a/\a<(b:Int)/\b<=1000000):a<2^63:=Int.lt_trans h.2.1 (xD (j7.mpr h.2.2) (by decide))
theorem IP{b:Nat}{a:Int}{c:Rat}(_:(a:Rat)<=c*2^(b:Nat)):(a:Rat)<=2^(b:Nat)*c:=by grind
theorem Ld{a b c d e f g i j k l m n o p:Int}(h1:a<=3)(h2:b<=3)(h3:c<=3)(h4:d<=3)(h5:e<=3)(h6:f<=3)(v:g<=3)(w:i<=3)(x:j<=3)(h:k<=3)(q:l<=3)(r:m<=3)(s:n<=3)(t:o<=3)(u:p<=3):a+(b+(c+(d+(e+0))))+(f+(g+(i+(j+0)))+(k+(l+(m+0))+(n+(o+0)+(p+0+(0+0)))))<=45:=fE (fE h1 (fE h2 (fE h3 (fE h4 (fE h5 (my 0)))))) (fE (fE h6 (fE v (fE w (fE x (my 0))))) (fE (fE h (fE q (fE r (my 0)))) (fE (fE s (fE t (my 0))) (fE (fE u (my 0)) (my (0+0))))))
theorem Ts{a b c d e f g i j k l m n o p:Int}:a+(b+(c+(d+(e+(f+(g+(i+(j+(k+(l+(m+(n+(o+(p+0))))))))))))))=a+(b+(d+(g+(l+0))))+(c+(e+(i+(m+0)))+(f+(j+(n+0))+(k+(o+0)+(p+0+(0+0))))):=by lia
theorem Nw{a b c d e f g i j k:Int}:10^12*(a+b+(c+d)+(e+f))+10^6*(g+i)+(j+k)=10^12*(a+c+e)+10^6*g+j+(10^12*(b+d+f)+10^6*i+k):=by simp+arith
theorem aa4{a b c d e f g i j k:Rat}(_:-e<=f-j*k)(_:-(a*(b+c))<=(j-g)*k)(_:-(d*c)<=g*(k-i)):-(a*(b+c)+d*c+e)<=f-g*i:=by grind
theorem Ku{a b c d e f g i j k:Rat}(_:a-j*k<=i)(_:(j-b)*k<=d*(e+f))(_:b*(k-c)<=g*f):a-b*c<=d*(e+f)+g*f+i:=by grind
theorem QA{a b c d e f g i:Rat}(_:-a<=g-e)(_:-b<=i-f)(_:-c<=d-(g+i)):-(a+b+c)<=d-(e+f):=by grind
theorem acs{a b c d e f g i:Rat}(_:-a<=g-e)(_:i-f<=b)(_:-c<=d-(g-i)):-(a+b+c)<=d-(e-f):=by grind
theorem TG{a b c d e f g i:Rat}(_:g-b<=d)(_:-e<=i-c)(_:a-(g-i)<=f):a-(b-c)<=d+e+f:=by grind
theorem ab2{a b c d e f g i:Rat}(_:g-b<=d)(_:i-c<=e)(_:a-(g+i)<=f):a-(b+c)<=d+e+f:=by grind
theorem Rv{a b c d e f g:Rat}(_:(d+e)*(f+g)<=a)(_:-((d+e)*(f+g))<=b*c):-a<=b*c:=by grind
theorem MP{a b c d e f g:Rat}(_:-a<=d+e-f-g)(_:-f<=b-d)(_:-g<=c-e):-a<=b+c:=by grind
theorem Qm{a b c d e f g:Rat}(_:-a<=d-e-f-g)(_:-f<=b-d)(_:c-e<=g):-a<=b-c:=by grind
theorem Tr{a b c d e f g:Rat}(_:d+e+f+g<=c)(_:a-d<=f)(_:b-e<=g):a+b<=c:=by grind
theorem Pw{a b c d e f g:Rat}(_:d-e+f+g<=c)(_:a-d<=f)(_:-g<=b-e):a-b<=c:=by grind
theorem Zh{a b c d e f:Int}:(((2130:Int):Rat)*((a:Rat)+(b:Rat))-((5251:Int):Rat)*((c:Rat)+(d:Rat))+((3121:Int):Rat)*((e:Rat)+(f:Rat)))/640000=(((2130:Int):Rat)*(a:Rat)-((5251:Int):Rat)*(c:Rat)+((3121:Int):Rat)*(e:Rat))/640000+(((2130:Int):Rat)*(b:Rat)-((5251:Int):Rat)*(d:Rat)+((3121:Int):Rat)*(f:Rat))/640000:=by simp;grind
theorem NP{a b c d e f:Int}:(((30:Int):Rat)*((a:Rat)+(b:Rat))+((59:Int):Rat)*((c:Rat)+(d:Rat))+((11:Int):Rat)*((e:Rat)+(f:Rat)))/6400=(((30:Int):Rat)*(a:Rat)+((59:Int):Rat)*(c:Rat)+((11:Int):Rat)*(e:Rat))/6400+(((30:Int):Rat)*(b:Rat)+((59:Int):Rat)*(d:Rat)+((11:Int):Rat)*(f:Rat))/6400:=by simp;grind
theorem Mt{a b c d e f:Int}:(((5990:Int):Rat)*((a:Rat)+(b:Rat))-((2773:Int):Rat)*((c:Rat)+(d:Rat))-((3217:Int):Rat)*((e:Rat)+(f:Rat)))/640000=(((5990:Int):Rat)*(a:Rat)-((2773:Int):Rat)*(c:Rat)-((3217:Int):Rat)*(e:Rat))/640000+(((5990:Int):Rat)*(b:Rat)-((2773:Int):Rat)*(d:Rat)-((3217:Int):Rat)*(f:Rat))/640000:=by simp;grind
theorem QO{a b c d e f:Int}:a+b+(c+d)+(e+f)=b+d+f+(a+c+e):=by simp+arith
theorem abK{a b c d e f:Int}:a+b+c+(d+e+f)=a+d+(b+e)+(c+f):=by simp+arith
theorem MS{a b c d e f:Nat}(_:d=e+2+f)(_:a+3000*(f+1)<=1000000)(_:b<=2000)(_:d=e+2+(c+1)):a+b+3000*(c+1)<=1000000:=by lia
theorem R0{a b c d e f:Rat}:8*(a-b)+410/433*(8*(c-d))+270/433*(8*(e-f))=8*(a+410/433*c+270/433*e-(b+410/433*d+270/433*f)):=by grind
theorem Q0{a b c d e f:Rat}:8*(a-b)-480/433*(8*(c-d))+740/433*(8*(e-f))=8*(a-480/433*c+740/433*e-(b-480/433*d+740/433*f)):=by grind
theorem Xp{a b c d e f:Rat}:8*(a-b)-7020/25547*(8*(c-d))-16240/25547*(8*(e-f))=8*(a-7020/25547*c-16240/25547*e-(b-7020/25547*d-16240/25547*f)):=by grind
theorem YW{a b c d e:Int}(_:0<=d)(_:b<=c+e):a+b<=a+c+(d+e):=by lia
theorem Uw{a b c d e:Int}:1*(a+b+c)*10^12+(d*10^6+(e*1+0))=10^12*(a+b+c)+10^6*d+e:=by simp+arith
theorem Os{a b c d e:Rat}(_:-(1/2^48)<=b-(c+d))(_:e-(c-b)<=1/2^48)(_:a-(e+d)<=1/2^48):a<=3/2^48:=by grind
theorem Qc{a b c d e:Rat}(_:-(1/2^48)<=b-(c+d))(_:e-(d-b)<=1/2^48)(_:a-(e+c)<=1/2^48):a<=3/2^48:=by grind
theorem Un{a b c d e:Rat}(_:b*d=e)(_:a*(c*d)=e*c):(a-b)*(c*d)=0:=by grind
theorem UF{a b c d e:Rat}(_:b-(c+d)<=1/2^48)(_:-(1/2^48)<=e-(c-b))(_:-(1/2^48)<=a-(e+d)):-(3/2^48)<=a:=by grind
theorem TZ{a b c d e:Rat}(_:b-(c+d)<=1/2^48)(_:-(1/2^48)<=e-(d-b))(_:-(1/2^48)<=a-(e+c)):-(3/2^48)<=a:=by grind
theorem Sr{a b c d:Int}(_:a<=c)(_:b<=d):a+b<=c+d:=by lia
theorem VQ{a b c d:Int}(_:c<d):10^12*a+10^6*b+c<10^12*a+10^6*b+d:=by simp[*]
theorem U3{a b c d:Int}(_:c<=b)(_:a<=c/\d<=c):a<=b:=by lia
theorem Qr{a b c d:Int}(_:c<=b)(_:d<=c/\a<=c):a<=b:=by lia
theorem aaM{a b c d:Int}:a+b+c=d+b+(a+c)-d:=by simp+arith
theorem Yd{a b c d:Nat}(_:a+100<=1000000)(_:d=5)(_:b<=d)(_:c<=5):a+b+(0+1)+c<=1000000:=by lia
theorem O0{a b c d:Nat}(_:b+c+d=a):(a:Int)=(b:Int)+(c:Int)+(d:Int):=by lia
theorem Sx{a b c d:Nat}(_:b=c)(_:d<c)(_:a<d):a<b:=by simp[*];lia
theorem Mz{a b c d:Nat}(h:d<2*c)(k:b+d=a+c):a-b+(b-a)<=c:=by
 rcases Nat.le_total a b with q|q
 ·rw[Jc q,xJ];exact acB (rg c a▸k▸dI b d)
 ·rw[Jc q,tZ];exact acB (rg b c▸Nat.le_of_add_le_add_right (k▸oX b c c▸nN (Nat.two_mul c▸j8 h) b))
theorem MQ{a b c d:Nat}(h:d<=1000)(k:a+3000<=1000000)(l:b<=d)(m:c<=d):a+b+c<=1000000:=bg (I9 (nN (bg l h) a) (bg m h)) (bg (gV (oX ..)) (bg (nN (by decide) a) k))
theorem Lb{a b c d:Rat}(_:-(1/2^48)<=c-(b+d))(_:a-(d-c)<=1/2^48):a+b<=64:=by grind
theorem Pa{a b c d:Rat}(_:-(1/2^48)<=c-(d+b))(_:a-(d-c)<=1/2^48):a+b<=64:=by grind
theorem Zv{a b c d:Rat}(_:-a<=c)(_:-(1+1/2)<=d)(_:-(1/2^48)<=b-(c+d)):-(a+2)<=b:=by grind
theorem Pm{a b c d:Rat}(_:-a<=c)(_:-(3/2^48)<=d)(_:-(1/2^54)<=b-(c+d)):-(a+4/2^48)<=b:=by grind
theorem Nb{a b c d:Rat}(_:-a<=d)(_:-(1/2^48)<=b-(c+d)):-(a+1/2^48)<=b-c:=by grind
theorem O4{a b c d:Rat}(_:-b<=c-d)(_:-d<=a-c):-a<=b:=by grind
theorem VN{a b c d:Rat}(_:c+d<=b)(_:a-c<=d):a<=b:=by grind
theorem L4{a b c d:Rat}(_:c-(b+d)<=1/2^48)(_:-(1/2^48)<=a-(d-c)):-64<=a+b:=by grind
theorem ac9{a b c d:Rat}(_:c-(d+b)<=1/2^48)(_:-(1/2^48)<=a-(d-c)):-64<=a+b:=by grind
theorem Xy{a b c d:Rat}(_:c<=b)(_:d<=1+1/2)(_:a-(c+d)<=1/2^48):a<=b+2:=by grind
theorem KS{a b c d:Rat}(_:c<=b)(_:d<=3/2^48)(_:a-(c+d)<=1/2^54):a<=b+4/2^48:=by grind
theorem SL{a b c d:Rat}(h:d<=1/2^20)(i:-8<=a)(j:-8<=b)(k:-8<=c):-64<=a+410/433*b+270/433*c-(d+(d+1/2^47)+1/2^48)-(d+1/2^47):=dj (by decide+kernel) (dE (dE (ch (ch i (dX j)) (dX k)) (ch (ch h (ch h dt)) dt)) (ch h dt))
theorem Vr{a b c d:Rat}(h:d<=1/2^20)(i:-8<=a)(j:b<=8)(k:-8<=c):-64<=a-480/433*b+740/433*c-(d+(6/5*d+1/2^47)+1/2^48)-(9/5*d+1/2^47):=dj (by decide+kernel) (dE (dE (ch (dE i (dX j)) (dX k)) (ch (ch h (ch (dX h) dt)) dt)) (ch (dX h) dt))
theorem Rt{a b c d:Rat}(h:d<=1/2^20)(i:-8<=a)(j:b<=8)(k:c<=8):-64<=a-7020/25547*b-16240/25547*c-(d+(d+1/2^47)+1/2^48)-(d+1/2^47):=dj (by decide+kernel) (dE (dE (dE (dE i (dX j)) (dX k)) (ch (ch h (ch h dt)) dt)) (ch h dt))
theorem Xx{a b c d:Rat}(h:d<=1/2^20)(i:a<=8)(j:-8<=b)(k:-8<=c):a-7020/25547*b-16240/25547*c+(d+(d+1/2^47)+1/2^48)+(d+1/2^47)<=64:=dj (ch (ch (dE (dE i (dX j)) (dX k)) (ch (ch h (ch h dt)) dt)) (ch h dt)) (by decide+kernel)
theorem Wu{a b c d:Rat}(h:d<=1/2^20)(i:a<=8)(j:-8<=b)(k:c<=8):a-480/433*b+740/433*c+(d+(6/5*d+1/2^47)+1/2^48)+(9/5*d+1/2^47)<=64:=dj (ch (ch (ch (dE i (dX j)) (dX k)) (ch (ch h (ch (dX h) dt)) dt)) (ch (dX h) dt)) (by decide+kernel)
theorem Ss{a b c d:Rat}(h:d<=1/2^20)(i:a<=8)(j:b<=8)(k:c<=8):a+410/433*b+270/433*c+(d+(d+1/2^47)+1/2^48)+(d+1/2^47)<=64:=dj (ch (ch (ch (ch i (dX j)) (dX k)) (ch (ch h (ch h dt)) dt)) (ch h dt)) (by decide+kernel)
theorem Oh{a b c d:Rat}(_:d<=a)(_:-d<=b-c):-a<=b-c:=by grind
theorem Px{a b c d:Rat}(_:d<=c)(_:a-(b+d)<=1/2^48):a-b<=c+1/2^48:=by grind
theorem RG{a b c:Int}(_:0<=a)(_:0<=b)(_:0<=c):0<=30*a+59*b+11*c:=by lia
theorem NZ{a b c:Int}(_:0<=a)(_:a<=45)(_:0<=b)(_:b<=45)(_:0<=c)(_:c<=45):(30*a+59*b+11*c).natAbs<=300000/\(5990*a-2773*b-3217*c).natAbs<=300000/\(2130*a-5251*b+3121*c).natAbs<=300000:=⟨mo (by omega) (by omega),mo (by omega) (by omega),mo (by omega) (by omega)⟩
theorem SU{a b c:Int}(_:0<=a)(_:b<=45)(_:0<=c):-288000<=2130*a-5251*b+3121*c:=by lia
theorem Tw{a b c:Int}(_:0<=a)(_:b<=45)(_:c<=45):-288000<=5990*a-2773*b-3217*c:=by lia
theorem WH{a b c:Int}(_:0<=b)(_:0<=c):a<=a+b+c:=by lia
theorem abb{a b c:Int}(_:a<=45)(_:0<=b)(_:0<=c):5990*a-2773*b-3217*c<=288000:=by lia
theorem L6{a b c:Int}(_:a<=45)(_:0<=b)(_:c<=45):2130*a-5251*b+3121*c<=288000:=by lia
theorem Vu{a b c:Int}(_:a<=45)(_:b<=45)(_:c<=45):30*a+59*b+11*c<=4500:=by lia
theorem Ud{a b c:Int}:(((30:Int):Rat)*(a:Rat)+((59:Int):Rat)*(b:Rat)+((11:Int):Rat)*(c:Rat))/6400+410/433*((((5990:Int):Rat)*(a:Rat)-((2773:Int):Rat)*(b:Rat)-((3217:Int):Rat)*(c:Rat))/640000)+270/433*((((2130:Int):Rat)*(a:Rat)-((5251:Int):Rat)*(b:Rat)+((3121:Int):Rat)*(c:Rat))/640000)=(a:Rat)/64:=by simp;grind
theorem T7{a b c:Int}:(((30:Int):Rat)*(a:Rat)+((59:Int):Rat)*(b:Rat)+((11:Int):Rat)*(c:Rat))/6400-480/433*((((5990:Int):Rat)*(a:Rat)-((2773:Int):Rat)*(b:Rat)-((3217:Int):Rat)*(c:Rat))/640000)+740/433*((((2130:Int):Rat)*(a:Rat)-((5251:Int):Rat)*(b:Rat)+((3121:Int):Rat)*(c:Rat))/640000)=(c:Rat)/64:=by simp;grind
theorem Rk{a b c:Int}:(((30:Int):Rat)*(a:Rat)+((59:Int):Rat)*(b:Rat)+((11:Int):Rat)*(c:Rat))/6400-7020/25547*((((5990:Int):Rat)*(a:Rat)-((2773:Int):Rat)*(b:Rat)-((3217:Int):Rat)*(c:Rat))/640000)-16240/25547*((((2130:Int):Rat)*(a:Rat)-((5251:Int):Rat)*(b:Rat)+((3121:Int):Rat)*(c:Rat))/640000)=(b:Rat)/64:=by simp;grind
theorem aay{a b c:Int}:-2*a+(0+(a+b)+(a+(0+c)))=0+(c+b):=by lia
theorem RV{a b c:Int}:-2*a+-2*b+-2*c=-2*(a+b+c):=by simp+arith
theorem Pf{a b c:Int}:3/10*((a:Rat)/64)+59/100*((b:Rat)/64)+11/100*((c:Rat)/64)=(((30:Int):Rat)*(a:Rat)+((59:Int):Rat)*(b:Rat)+((11:Int):Rat)*(c:Rat))/6400:=by simp;grind
theorem Ro{a b c:Int}:48/100*((a:Rat)/64-(3/10*((a:Rat)/64)+59/100*((b:Rat)/64)+11/100*((c:Rat)/64)))+41/100*((c:Rat)/64-(3/10*((a:Rat)/64)+59/100*((b:Rat)/64)+11/100*((c:Rat)/64)))=(((2130:Int):Rat)*(a:Rat)-((5251:Int):Rat)*(b:Rat)+((3121:Int):Rat)*(c:Rat))/640000:=by simp;grind
theorem Rm{a b c:Int}:74/100*((a:Rat)/64-(3/10*((a:Rat)/64)+59/100*((b:Rat)/64)+11/100*((c:Rat)/64)))-27/100*((c:Rat)/64-(3/10*((a:Rat)/64)+59/100*((b:Rat)/64)+11/100*((c:Rat)/64)))=(((5990:Int):Rat)*(a:Rat)-((2773:Int):Rat)*(b:Rat)-((3217:Int):Rat)*(c:Rat))/640000:=by simp;grind
theorem aa6{a b c:Int}:a+(b+c)=b+a+c:=by simp+arith
theorem abc{a b c:Int}:a+b+c=0+b+(a+c):=by simp+arith
theorem ZE{a b c:Int}{d:Rat}:((a:Rat)-((b:Rat)+(c:Rat)))/d=(a:Rat)/d-((b:Rat)/d+(c:Rat)/d):=by grind
theorem aby{a b c:Nat}(_:a+(b+1)<c):a+1+b<c:=by simp_all+arith
theorem ab1{a b c:Nat}(_:a+(b+1)<=c):a+1+b<=c:=by simp_all+arith
theorem Va{a b c:Nat}(_:a+(b+c)=63)(_:1<=b)(_:1<=a):1<=a/\a<=62:=by simp[*];lia
theorem abB{a b c:Nat}(_:a+(b+c)<=1000):a+b<=1000:=by lia
theorem WC{a b c:Nat}(_:a+1+b<=c):a+(b+1)<=c:=by simp_all+arith
theorem ach{a b c:Nat}(_:a+10*(c+1)<=1000)(_:b<=10):a+b+10*c<=1000:=by lia
theorem Ob{a b c:Nat}(_:a+10*(c+1+1)<=1000000)(_:b<=2):a+b+10*(c+1)<=1000000:=by lia
theorem MG{a b c:Nat}(_:a+100<=1000000)(_:c+1=5)(_:b<=5):a+b+(0+1)+(c+1)<=1000000:=by simp[*];lia
theorem LZ{a b c:Nat}(_:a+100<=1000000)(_:c=5)(_:b<=c):a+b<=1000000:=by lia
theorem XJ{a b c:Nat}(h:a+20000+10009*(c+1)<=1000000)(k:b<=10009):a+b+20000+10009*c<=1000000:=bg (rh (rh (nN k a) 20000) _) (bg (gV (by rw[Nat.mul_succ,xC a,oX (a+20000),rg 10009])) h)
theorem XO{a b c:Nat}(_:a+20000<=1000000)(_:b<=10000)(_:c<=3):a+b+c+10<=1000000:=by simp;lia
theorem X6{a b c:Nat}(_:a=b)(_:c<b):0<a:=by lia
theorem P4{a b c:Nat}(_:a=b+2+(c+1)):a=b+1+2+c:=by simp+arith [*]
theorem XB{a b c:Nat}(_:a<=10000)(_:b<=3)(_:c<=6):a+b+c<=10009:=by lia
theorem XU{a b c:Nat}(_:a<=10009)(_:b<=10009*c):a+b<=10009*(c+1):=by lia
theorem Pu{a b c:Nat}(_:a<=2)(_:b<=2*c):a+b<=2*(c+1):=by lia
theorem M0{a b c:Nat}(_:a<=c)(_:c+1<=b):a<=b:=by lia
theorem Rf{a b c:Nat}(_:b+(a+c)=63):a+b+c=63:=by simp_all+arith
theorem Yi{a b c:Nat}(_:b+1+c=5)(_:a=b+1+1):a<=6:=by simp[*];lia
theorem K1{a b c:Nat}(_:b+1+c=5)(_:a=c):a<=100:=by simp[*];lia
theorem Qy{a b c:Nat}(_:b+1<=c)(_:c<=a):a≠0:=by lia
theorem aab{a b c:Nat}(_:b+c<=1000)(_:a<=b+c):a<=1000000:=by lia
theorem WN{a b c:Nat}(h:b-a+(a-b)<=c):(a:Int)-(b:Int)<=(c:Int)/\-(c:Int)<=(a:Int)-(b:Int):=
 ⟨acC (j7.mpr (acD (bg (Nat.le_add_left _ _) h))),
  Int.neg_sub (b:Int) a▸Int.neg_le_neg (acC (j7.mpr (acD (bg (dI _ _) h))))⟩
theorem Tu{a b c:Nat}(_:b=16)(_:a+(c+1)=15):a<b:=by lia
theorem Sa{a b c:Nat}(_:b=c)(_:1<=(a:Int)/\(a:Int)<(c:Int)/\c<=1000000):a<b:=by simp_all
theorem Xg{a b c:Nat}(_:b=c)(_:c=a):a=b:=by simp[*]
theorem MI{a b c:Nat}(_:b<=6)(_:b=a+2+c):a<=1000:=by lia
theorem Rh{a b c:Nat}(_:b<=6)(_:c+2=b)(_:a<=2000*(c+1)):a<=10000:=by lia
theorem Ur{a b c:Nat}(_:c<b)(_:a<c):a<b:=tY ‹_› ‹_›
theorem Wf{a b c:Nat}(_:c=b)(_:a<c):a<b:=by simp_all
theorem Si{a b c:Nat}(_:c<=1000)(_:a<=c)(_:b<=c):a+b<=2000:=by lia
theorem acd{a b c:Nat}(_:c<=6)(_:a+20000<=1000000)(_:b+2=c):a+3000*(b+1)<=1000000:=by lia
theorem RN{a b c:Nat}(_:c<=6)(_:a<=c)(_:b<=c):a+b<=1000:=by lia
theorem OP{a b c:Rat}(_:-(1+1/2)<=b)(_:-(1/2^54)<=c-0)(_:-(1/2^48)<=a-(c+b)):-2<=a:=by grind
theorem XW{a b c:Rat}(_:-(64*(1/2^54))<=64*a-c)(_:b*64=c):-(1/2^54)<=a-b:=by grind
theorem ZW{a b c:Rat}(_:-2<=c)(_:-(1/2^48)<=b-(a+c)):a-b<=64:=by grind
theorem Qh{a b c:Rat}(_:-58<=c)(_:-(1/2^48)<=b-(c+a)):a-b<=64:=by grind
theorem abn{a b c:Rat}(_:-60<=a)(_:-c<=b)(_:c<=1):-64<=a+b:=by grind
theorem Pj{a b c:Rat}(h:0<=a)(i:0<=b)(j:0<=c):-2<=3/10*a+59/100*b+11/100*c-1/2^49-1/2^51:=dj (by decide+kernel) (dE (dE (ch (ch (dX h) (dX i)) (dX j)) dt) dt)
theorem Y0{a b c:Rat}(_:0<=a)(_:c<=1)(_:-1<=a-b):-2<=37/50*(a-b)-27/100*(c-b)-(1/2^46-1/2^54)-(1/2^46-1/2^54):=by grind
theorem XN{a b c:Rat}(_:0<=a)(_:c<=1)(_:a-b<=1):12/25*(a-b)+41/100*(c-b)+(1/2^46-1/2^54)+(1/2^46-1/2^54)<=2:=by grind
theorem VY{a b c:Rat}(_:64*a-c<=64*(1/2^54))(_:b*64=c):a-b<=1/2^54:=by grind
theorem Tv{a b c:Rat}(_:a<=1)(_:0<=c)(_:-1<=a-b):-2<=12/25*(a-b)+41/100*(c-b)-(1/2^46-1/2^54)-(1/2^46-1/2^54):=by grind
theorem Q7{a b c:Rat}(_:a<=1)(_:0<=c)(_:a-b<=1):37/50*(a-b)-27/100*(c-b)+(1/2^46-1/2^54)+(1/2^46-1/2^54)<=2:=by grind
theorem R8{a b c:Rat}(h:a<=1)(i:b<=1)(j:c<=1):3/10*a+59/100*b+11/100*c+1/2^49+1/2^51<=2:=dj (ch (ch (ch (ch (dX h) (dX i)) (dX j)) dt) dt) (by decide+kernel)
theorem aas{a b c:Rat}(_:a<=60)(_:b<=c)(_:c<=1):a+b<=64:=by grind
theorem L3{a b c:Rat}(_:b<=1+1/2)(_:c-0<=1/2^54)(_:a-(c+b)<=1/2^48):a<=2:=by grind
theorem Yp{a b c:Rat}(_:b<=1/2)(_:-1<=c)(_:-b<=a-c):-(1+1/2)<=a:=by grind
theorem Yq{a b c:Rat}(_:b<=1/2)(_:c<=1)(_:a-c<=b):a<=1+1/2:=by grind
theorem aa8{a b c:Rat}(h:c<=1/2^20)(i:-8<=a)(j:-8<=b):-64<=a+410/433*b-c-(c+1/2^47):=dj (by decide+kernel) (dE (dE (ch i (dX j)) h) (ch h dt))
theorem abg{a b c:Rat}(h:c<=1/2^20)(i:-8<=a)(j:b<=8):-64<=a-480/433*b-c-(6/5*c+1/2^47):=dj (by decide+kernel) (dE (dE (dE i (dX j)) h) (ch (dX h) dt))
theorem XV{a b c:Rat}(h:c<=1/2^20)(i:-8<=a)(j:b<=8):-64<=a-7020/25547*b-c-(c+1/2^47):=dj (by decide+kernel) (dE (dE (dE i (dX j)) h) (ch h dt))
theorem abL{a b c:Rat}(h:c<=1/2^20)(i:a<=8)(j:-8<=b):a-480/433*b+c+(6/5*c+1/2^47)<=64:=dj (ch (ch (dE i (dX j)) h) (ch (dX h) dt)) (by decide+kernel)
theorem OQ{a b c:Rat}(h:c<=1/2^20)(i:a<=8)(j:-8<=b):a-7020/25547*b+c+(c+1/2^47)<=64:=dj (ch (ch (dE i (dX j)) h) (ch h dt)) (by decide+kernel)
theorem Sj{a b c:Rat}(h:c<=1/2^20)(i:a<=8)(j:b<=8):a+410/433*b+c+(c+1/2^47)<=64:=dj (ch (ch (ch i (dX j)) h) (ch h dt)) (by decide+kernel)
theorem ON{a b c:Rat}(_:c<=2)(_:b-(a+c)<=1/2^48):-64<=a-b:=by grind
theorem TC{a b c:Rat}(_:c<=58)(_:b-(c+a)<=1/2^48):-64<=a-b:=by grind
theorem RD{a b c:Rat}(_:c<=a)(_:-a<=c):-(a+1/2^48)<=b-b:=by grind
theorem aae{a b c:Rat}(_:c<=b)(_:-b<=c):a-a<=b+1/2^48:=by grind
theorem OS{a b c:Rat}:12/25*(a-(3/10*a+59/100*b+11/100*c))+41/100*(c-(3/10*a+59/100*b+11/100*c))=48/100*(a-(3/10*a+59/100*b+11/100*c))+41/100*(c-(3/10*a+59/100*b+11/100*c)):=by grind
theorem Mi{a b c:Rat}:37/50*(a-(3/10*a+59/100*b+11/100*c))-27/100*(c-(3/10*a+59/100*b+11/100*c))=74/100*(a-(3/10*a+59/100*b+11/100*c))-27/100*(c-(3/10*a+59/100*b+11/100*c)):=by grind
theorem abq{a b c:Rat}:a*b*c*c=a*c*(b*c):=by grind
theorem M6{a b:Int}(_:(a:Rat)<=(b:Rat)):(a:Rat)<=1*(b:Rat):=by simp;omega
theorem aac{a b:Int}(_:-(a:Rat)<=(b:Rat)):-1*(a:Rat)<=(b:Rat):=by grind
theorem ZA{a b:Int}(_:0<=a)(_:0<=b):0<=a+b:=by lia
theorem Rz{a b:Int}(_:0<=b)(_:0<=a):0<=a+b:=by lia
theorem aat{a b:Int}(_:0<=b/\b<=a/\a<=1000000):(a-b).toNat<=2^24:=by simp;lia
theorem Wh{a b:Int}(_:a=b):¬a<b:=by simp[*]
theorem KE{a b:Int}(_:a<=45)(_:0<=b):a-b<=45:=by lia
theorem U0{a b:Int}(_:a<=b)(_:b<=45):0+a<=45:=by lia
theorem Oz{a b:Int}(_:b=a):¬a<b:=by simp[*]
theorem aaZ{a b:Int}:8*((a:Rat)/64-(b:Rat)/64)=8*(((a:Rat)-(b:Rat))/64):=by grind
theorem Qb{a b:Nat}(h:0+a<=12521):a+(12+b)+(12600-12-a)=12600+b:=by
 rw[xC a,I6 (bg (xJ a▸h) (by decide)),<- oX]
theorem Yt{a b:Nat}(_:0+b=5)(_:a=b):a=5:=by simp_all
theorem V0{a b:Nat}(_:2^(b:Nat)<=2^4)(_:a+1=2^(b:Nat)):a<=100:=by lia
theorem Xi{a b:Nat}(_:a+(b+1)<17):a+(0+1)+b<17:=by simp_all+arith
theorem Y5{a b:Nat}(_:a+(b+1)<17):a+1<17:=by lia
theorem OD{a b:Nat}(_:a+(b+1)<900):a+1+b<900:=by simp_all+arith
theorem Pv{a b:Nat}(_:a+(b+1)=15):a+1+b=15:=by simp_all+arith
theorem Vp{a b:Nat}(_:a+(b+1)=15):a<=1000:=by lia
theorem V5{a b:Nat}(_:a+(b+1)=32):a+1+b=32:=by simp_all+arith
theorem YL{a b:Nat}(h:a+(b+1)=32):a<32:=h▸I7 (I8 b)
theorem QD{a b:Nat}(_:a+(b+1)=32):a<=1000:=by lia
theorem X7{a b:Nat}(_:a+(b+1)<=1000000):a+(0+1)+b<=1000000:=by simp_all+arith
theorem ZU{a b:Nat}(_:a+(b+1+1)=17):a+(0+1)+(b+1)=17:=by simp_all+arith
theorem Zq{a b:Nat}(_:a+(b+1+1)=17):a+1<17:=by lia
theorem Rp{a b:Nat}(_:a+1+b=5):a+(b+1)=5:=by simp_all+arith
theorem YN{a b:Nat}(_:a+10*(b+1+1)<=1000000):a+10<=1000000:=by simp;lia
theorem ab5{a b:Nat}(_:a+100<=1000000)(_:b=5):a+b<=1000000:=by simp[*];lia
theorem Qj{a b:Nat}(_:a+10<=1000000)(_:b<=6):a+b<=1000000:=by lia
theorem XE{a b:Nat}(_:a+2*(b+1)<=1000):a+2+2*b<=1000:=by simp_all+arith
theorem aaq{a b:Nat}(_:a+20000+10009*(b+1)<=1000000):a+20000<=1000000:=bg (dI _ _) ‹_›
theorem QK{a b:Nat}(_:a+20000<=1000000)(_:b<=10000):a+b+10<=1000000:=by simp;lia
theorem LD{a b:Nat}(_:a+3000*(b+1)<=1000000):a+3000<=1000000:=by simp;lia
theorem LI{a b:Nat}(h:a+8*(b+1)<9000):a+(5+1)<9900:=tY (ff (nN (bg (by decide:5+1<=8*1) (Cc 8 (Cb (lA b)))) a) h) (by decide)
theorem Tm{a b:Nat}(h:a+8*(b+1)<9000):a+3+8*b<9000:=ff (bg (gV (oX ..)) (nN (bg (rh (by decide:3<=8) _) (gV (rg ..))) a)) h
theorem Vt{a b:Nat}(h:a+8*(b+1)<9000):a<9900:=tY (ff (dI _ _) h) (by decide)
theorem Uu{a b:Nat}(_:a+b<=1000):a+b<=1000:=by assumption
theorem XA{a b:Nat}(_:a+b<=1000):a+b<=1000000:=bg ‹_› (by decide)
theorem OI{a b:Nat}(_:a+b<=1000000):a+b<=16777216:=bg ‹_› (by decide)
theorem U6{a b:Nat}(_:a=b%2^63):a%2^52=b%2^52:=by simp[*]
theorem Nd{a b:Nat}(_:a=b%2^63):a/2^63=0:=by simp[*]
theorem R9{a b:Nat}(_:a=b):a<b+1:=by simp[*]
theorem VB{a b:Nat}(_:a=b):a=b:=by assumption
theorem XX{a b:Nat}(_:a=b+1+1):2<=a:=by simp[*]
theorem Zw{a b:Nat}(_:a=b+1+1):a-1=b+1:=by simp;omega
theorem Wq{a b:Nat}(_:a<=1000000):a+b*0<=1000000:=by assumption
theorem abY{a b:Nat}(_:a<=30)(_:b<=60000):a+b+100<=1000000:=by simp;lia
theorem OA{a b:Nat}(_:a<=6)(_:b<=6):a+b<=1000000:=by lia
theorem D3{a b:Nat}:max 0 (min (a:Int) (b:Int))=((min a b:Nat):Int):=match Nat.le_total a b with|.inl h=>(congrArg (max 0) (Int.min_eq_left (j7.mpr h))).trans ((acE (nO a)).trans (congrArg _ (Nat.min_eq_left h).symm))|.inr h=>(congrArg (max 0) (Int.min_eq_right (j7.mpr h))).trans ((acE (nO b)).trans (congrArg _ (Nat.min_eq_right h).symm))
theorem abd{a b:Nat}(_:a<=b):max 0 (min (a:Int) (b:Int))=(a:Int):=D3.trans (congrArg _ (Nat.min_eq_left ‹_›))
theorem Yz{a b:Nat}(_:a<=b):min (a:Int) (b:Int)=(a:Int):=by grind
theorem R1{a b:Nat}(_:b+1+a=5):a<=4:=by lia
theorem abt{a b:Nat}(_:b+2=a):a=2+b:=by simp+arith [*]
theorem aaX{a b:Nat}(h:b=16):((a%16:Nat):Int)<(b:Int):=nL.mpr (h.symm▸nP a (I8 15))
theorem SK{a b:Nat}(_:b=a+2)(_:b<=6):a<=4:=by simp_all
theorem Mw{a b:Nat}(_:b=a+2)(_:b<=6):a<=5:=by lia
theorem T9{a b:Nat}(_:b=a+2):a+2=b:=acA (congrFun (congrArg HAdd.hAdd (id (Eq.symm ‹_›))) a)
theorem WD{a b:Nat}(_:b<=1000)(_:a+3000<=1000000):a+b<=1000000:=by lia
theorem WQ{a b:Nat}(_:b<=1000)(_:a<=1000):a+b<=1000000:=by lia
theorem Sn{a b:Nat}(_:b<=1000)(_:a<=b):a<=999999:=by lia
theorem ZO{a b:Nat}(_:b<=6)(_:a<=b):a<=1000:=by lia
theorem ZV{a b:Nat}(h:b<=6)(k:b=a+2):((a+1:Nat):Int).natAbs<=1000000:=bg (show a+1<=6 from bg (mz _) (show a+2<=6 from k▸h)) (by decide)
theorem OK{a b:Nat}(_:b<=6)(_:b=a+2):a<=4:=by simp_all
theorem QL{a b:Nat}(_:b<=6)(_:b=a+2):a<=6:=by lia
theorem LU{a b:Nat}(h:¬(b:Int)<(a:Int)):a-b=0:=Jc (j7.mp (Jd.mp h))
theorem M4{a b:Nat}(_:¬a=b):(a:Int)≠(b:Int):=λh=>‹¬_› (acw h)
theorem V4{a b:Nat}:((a:Int)+1*(b:Int)).toNat=a+b:=congrArg (λx=>((a:Int)+x).toNat) (Je b)
theorem U5{a b:Nat}:((a:Int)-(b:Int)+1-1).toNat=a-b:=by simp
theorem Rc{a b:Nat}:(a:Int)-((b+1:Nat):Int)=(a:Int)-(b:Int)-1:=by simp+arith
theorem Ws{a b:Nat}:a+1+13*b+5+6*b<=a+6+19*b:=by simp+arith
theorem ab3{a b:Nat}:a+1+3*b+10*b=a+1+13*b:=by simp+arith
theorem Lg{a b:Nat}:a+10*(b+1)=a+10+10*b:=by simp+arith
theorem Rx{a b:Nat}:a+13*(b+1)=a+13+13*b:=by simp+arith
theorem X3{a b:Nat}:a+2*b+b=a+3*b:=by simp+arith
theorem NK{a b:Nat}:a+2+13*b+5+6*b<=a+7+19*b:=by simp+arith
theorem Vs{a b:Nat}:a+330*(b+1)=a+7+19*17+330*b:=by simp+arith
theorem NG{a b:Nat}:a+6*(b+1)=a+6+6*b:=by simp+arith
theorem V7{a b:Nat}:a+b=0+b+a:=by simp+arith
theorem acn{a b:Nat}:min (min a b) b=min a b:=by simp
theorem SE{a b:Nat}{d:Int}{c:Rat}(_:-((a:Rat)*c-(d:Rat))<=(a:Rat)*(2^(b:Nat)/2^54)):-((a:Rat)*(2^(b:Nat)/2^54))<=(a:Rat)*c-(d:Rat):=by grind
theorem K4{a b:Rat}(_:-(1+1/2)<=b)(_:-(1/2^54)<=a-0):-64<=a+b:=by grind
theorem Zx{a b:Rat}(h:-(1-1/2^20)<=a-b):-1<=a-b:=dj (by decide+kernel) h
theorem Vm{a b:Rat}(h:-(1-1/2^20)<=a-b):-1<=a-b-1/2^45-1/2^40:=dj (by decide+kernel) (dE (dE h dt) dt)
theorem abf{a b:Rat}(h:-58<=a)(i:-2<=b):-64<=a+b:=dj (by decide+kernel) (ch h i)
theorem Mq{a b:Rat}(_:-b<=a)(_:b+2*0<=58):-60<=a:=by grind
theorem Pc{a b:Rat}(h:0<=a)(i:0<=b):-2<=3/10*a+59/100*b-1/2^51-1/2^51:=dj (by decide+kernel) (dE (dE (ch (dX h) (dX i)) dt) dt)
theorem YS{a b:Rat}(_:a-b=0):a=b:=by grind
theorem O6{a b:Rat}(h:a-b<=1-1/2^20):a-b+1/2^45+1/2^40<=1:=dj (ch (ch h dt) dt) (by decide+kernel)
theorem abS{a b:Rat}(h:a-b<=1-1/2^20):a-b<=1:=dj h (by decide+kernel)
theorem Vo{a b:Rat}(h:a<=1)(i:b<=1):3/10*a+59/100*b+1/2^51+1/2^51<=2:=dj (ch (ch (ch (dX h) (dX i)) dt) dt) (by decide+kernel)
theorem NL{a b:Rat}(h:a<=58)(i:b<=2):a+b<=64:=dj (ch h i) (by decide+kernel)
theorem XF{a b:Rat}(_:a<=b)(_:b+2*0<=58):a<=60:=by grind
theorem Lz{a b:Rat}(_:b<=1+1/2)(_:a-0<=1/2^54):a+b<=64:=by grind
theorem QU{a b:Rat}(_:¬b<a)(_:¬a<b):a=b:=by grind -linarith
theorem W2{a c:Int}{b:Rat}:(a:Rat)/b+(c:Rat)/b=((a:Rat)+(c:Rat))/b:=by grind
theorem aaW{a c:Nat}{b:Int}(h:a=c)(k:0<=b+(c:Int)/\b+(c:Int)<(c:Int)):-(a:Int)<=b:=h▸Int.le_of_sub_nonneg ((Int.sub_neg b c).symm▸k.1)
theorem KF{a:Int}(h:-1000<=a/\a<=1000):-9223372036854775808<=a/\a<9223372036854775808:=⟨fD (by decide) h.1,xD h.2 (by decide)⟩
theorem ZI{a:Int}(_:0<(a:Rat)):-640000<=(a:Rat):=by grind
theorem Q9{a:Int}(_:0<=(a:Rat)):-1<=(a:Rat)/64:=by grind
theorem Y8{a:Int}(_:0<=(a:Rat)):0<=(a:Rat)/64:=by grind
theorem Uc{a:Int}(_:0<=a)(_:a<=8):a.natAbs<=2^4:=by lia
theorem aag{a:Int}(_:0<=a):0<=a:=by assumption
theorem YF{a:Int}(h:a.natAbs<2^64):-2^64<a:=Int.neg_lt_of_neg_lt (xD ((Int.natAbs_neg a)▸Ja) (nL.mpr h))
theorem So{a:Int}(h:a=1\/a=2\/a=3):a=0\/a=1\/a=2\/a=3\/a=4\/a=5\/a=6:=.inr (h.imp id (Or.imp id .inl))
theorem QJ{a:Int}(_:a=4\/a=5\/a=6):a=0\/a=1\/a=2\/a=3\/a=4\/a=5\/a=6:=by simp[*]
theorem Y7{a:Int}(_:a≠0)(_:a.natAbs<2^64):¬(a=0\/2^64<=a.natAbs):=by simp[*]
theorem Xh{a:Int}(_:a<=3):a<=45:=fD ‹_› (by decide)
theorem NW{a:Int}(_:¬a<=0):0<a:=Int.lt_of_not_ge ‹_›
theorem UC{a:Int}:(a:Rat)-(a:Rat)+(1/2^25+1/2^34+1/2^54)<=1/2^24:=by grind
theorem S7{a:Int}:(a:Rat)-(a:Rat)+(300/2^40+1/2^50+1/2^53)<=1/2^31:=by grind
theorem OL{a:Int}:(a:Rat)-(a:Rat)+(330/2^40+1/2^48+1/2^53)<=1/2^31:=Ce.symm▸by decide+kernel
theorem abV{a:Int}:(a:Rat)-(a:Rat)+1/2^25+1/2^34<=1:=Ce.symm▸by decide+kernel
theorem S6{a:Int}:(a:Rat)-(a:Rat)+300/2^40+1/2^50<=2:=by grind
theorem UI{a:Int}:(a:Rat)-(a:Rat)+330/2^40+1/2^48<=2:=by grind
theorem X1{a:Int}:-(1/2^24)<=(a:Rat)-(a:Rat)-(1/2^25+1/2^34+1/2^54):=Ce.symm▸by decide+kernel
theorem XR{a:Int}:-(1/2^31)<=(a:Rat)-(a:Rat)-(300/2^40+1/2^50+1/2^53):=by grind
theorem KB{a:Int}:-(1/2^31)<=(a:Rat)-(a:Rat)-(330/2^40+1/2^48+1/2^53):=by grind
theorem Ms{a:Int}:-1<=(a:Rat)-(a:Rat)-1/2^25-1/2^34:=by grind
theorem Vw{a:Int}:-2<=(a:Rat)-(a:Rat)-300/2^40-1/2^50:=Ce.symm▸by decide+kernel
theorem QX{a:Int}:-2<=(a:Rat)-(a:Rat)-330/2^40-1/2^48:=by grind
theorem Zm{a:Int}:64*((a:Rat)/64)=(a:Rat):=by grind
theorem O8{a:Int}:a+0<=a+0+(0+0):=Int.le.intro (0+0) rfl
theorem ZD{a:Int}{b:Prop}(_:(b/\0<=a)/\a<=1114111):a.toNat<=1114111:=by simp[*]
theorem Ym{a:Int}{b:Rat}(_:0<=(a:Rat))(_:-(1/2^21)<=b-(a:Rat)):-((a:Rat)+1/2^21)<=b:=by grind
theorem KW{a:Int}{b:Rat}(_:0<=a/\a<=8/\8*b=(a:Rat)):a.natAbs<=8:=by lia
theorem Uf{a:Int}{b:Rat}:-((a:Rat)/b)=-(a:Rat)/b:=by grind
theorem RI{a:Nat}(_:(a:Int)<=64):a<=64*2^0:=j7.mp ‹_›
theorem WB{a:Nat}(_:(a:Rat)<=14):0+4/2^48*(a:Rat)<=1:=by grind
theorem Y6{a:Nat}(_:(a:Rat)<=14):2+2*(a:Rat)<=58:=by grind
theorem Om{a:Nat}(_:0<a):0<(a:Int):=nL.mpr ‹_›
theorem QF{a:Nat}(_:0<a):a=a-1+1:=by simp_all+arith
theorem SH{a:Nat}(_:2^(a:Nat)<=2^4):2^(a:Nat)<=1000:=bg ‹_› (by decide)
theorem Th{a:Nat}(_:2<=a):a=a-2+2:=by simp[*]
theorem We{a:Nat}(_:3^(a:Nat)<=3^4):((3^(a:Nat):Nat):Int).natAbs<2^64:=ff ‹_› (by decide)
theorem abj{a:Nat}(h:54<=a):a-53=a-54+1:=(Jf (show 1<=a-53 from I5 h)).symm.trans (congrArg (·+1) (Nat.sub_sub a 53 1))
theorem PS{a:Nat}(h:63-a<a):63-(a:Int)<(a:Int):=Int.sub_right_lt_of_lt_add (nL.mpr (acF λq=>cQ a (ff (I5 q) h)))
theorem Lc{a:Nat}(_:a*2<=1000):a+a<=1000:=by simp_all+arith
theorem PX{a:Nat}(_:a+0=15):a=15:=by assumption
theorem RE{a:Nat}(_:a+0=32):a=32:=by assumption
theorem Yh{a:Nat}(_:a+100000<=1000000):a+20000+10009*5<=1000000:=by simp;lia
theorem To{a:Nat}(_:a+10<=1000000):a<=999998:=by lia
theorem Pp{a:Nat}(_:a+1<52):a<51:=by simp_all+arith
theorem ZY{a:Nat}(_:a+a<=1000):a+a<=1000000:=bg ‹_› (by decide)
theorem Wy{a:Nat}(_:a+a<=1000):a<=1000000:=by lia
theorem Pg{a:Nat}(_:a<12):(a:Int)<12:=nL.mpr ‹_›
theorem Zs{a:Nat}(h:a<15):a-12<3:=ff (acG (acH h) 12) (by decide)
theorem SQ{a:Nat}(_:a<2^64):(a:Int).natAbs<2^64:=by assumption
theorem W8{a:Nat}(_:a<4):(a:Int)<=1000000:=by lia
theorem Y4{a:Nat}(_:a<6):(a:Int)<=1000000:=by lia
theorem Zg{a:Nat}(_:a<64):a<9000:=ck ‹_› (by decide)
theorem MK{a:Nat}(_:a=114\/a=103\/a=98\/a=13191)(_:¬a=13191):a=114\/a=103\/a=98:=by simp_all
theorem aa0{a:Nat}(_:a=16):15<a:=by simp[*]
theorem aca{a:Nat}(_:a=16):a<=1000:=by subst_vars;decide
theorem K7{a:Nat}(_:a=17):a<=1000:=by subst_vars;decide
theorem ZS{a:Nat}(_:a=5):a<=1000000:=by subst_vars;decide
theorem Zi{a:Nat}(_:a=6):a<=1000:=by subst_vars;decide
theorem Nl{a:Nat}(_:a=6):a<=1000000:=by subst_vars;decide
theorem Ux{a:Nat}(_:a=650):a<=1000:=by subst_vars;decide
theorem ZF{a:Nat}(_:a<=10):a<=1000:=bg ‹_› (by decide)
theorem VZ{a:Nat}(_:a<=1000):a<=1000:=by assumption
theorem ac0{a:Nat}(_:a<=1000):a<=999998:=bg ‹_› (by decide)
theorem Vc{a:Nat}(_:a<=1000):¬2^24+1<a:=by lia
theorem Qz{a:Nat}(_:a<=1000000):(a:Int)<2^63:=by lia
theorem QN{a:Nat}(_:a<=1000000):a<=5592405:=bg ‹_› (by decide)
theorem MN{a:Nat}(_:a<=1000000):¬2^63<=(a:Int):=by lia
theorem TH{a:Nat}(_:a<=10000000):a<2^61-1:=ff ‹_› (by decide)
theorem KI{a:Nat}(_:a<=10009*5):a<=60000:=bg ‹_› (by decide)
theorem OZ{a:Nat}(_:a<=1001):a<=1000000:=bg ‹_› (by decide)
theorem VU{a:Nat}(_:a<=1114111):0<=(a:Int)/\(a:Int)<=1114111:=by simp;lia
theorem X2{a:Nat}(_:a<=15):0+a<=1000:=by simp;lia
theorem Zp{a:Nat}(_:a<=15):a<=1000:=bg ‹_› (by decide)
theorem Ks{a:Nat}(_:a<=15):a<=15:=by assumption
theorem ac5{a:Nat}(_:a<=2*15):a<=30:=by assumption
theorem VW{a:Nat}(_:a<=20):a<30:=ff ‹_› (by decide)
theorem PW{a:Nat}(_:a<=30):a+100000<=1000000:=by simp;lia
theorem WI{a:Nat}(_:a<=4):(a:Int)<=1000000:=by lia
theorem SO{a:Nat}(h:a<=4):a=0\/a=1\/a=2\/a=3\/a=4:=(by decide:∀ a<5,a=0\/a=1\/a=2\/a=3\/a=4) a (Jg h)
theorem XY{a:Nat}(_:a<=4):a<=1000:=bg ‹_› (by decide)
theorem aaJ{a:Nat}(_:a<=4):a<=999:=bg ‹_› (by decide)
theorem Wt{a:Nat}(_:a<=4):a<=999998:=bg ‹_› (by decide)
theorem PV{a:Nat}(h:a<=62):a-1<62:=ff (acG h 1) (by decide)
theorem LO{a:Nat}(_:a<=62):a<64:=ff ‹_› (by decide)
theorem KG{a:Nat}(_:a<=63):a<=1000000:=bg ‹_› (by decide)
theorem abl{a:Nat}(_:¬2^52<=a):2*a<=2^53:=by lia
theorem Sh{a:Nat}(h:¬63-a<a):¬63-(a:Int)<(a:Int):=Jd.mpr (Int.le_sub_right_of_add_le (j7.mpr ((Nat.le_sub_iff_add_le (bg (Cd h) (Nat.sub_le _ _))).mp (Cd h))))
theorem Ly{a:Nat}(_:¬a%2=1):a%2=0:=by simp_all
theorem abu{a:Nat}(h:¬a<12):(a:Int)-12=((a-12:Nat):Int):=(Int.ofNat_sub (lC.mp h)).symm
theorem RR{a:Nat}(_:¬a<12):¬(a:Int)<12:=by lia
theorem VO{a:Nat}(_:¬a<=63):63<(a:Int):=by lia
theorem KM{a:Nat}:((a%4:Nat):Int).natAbs<=1000000:=bg (j8 (nP a (by decide))) (by decide)
theorem NJ{a:Nat}:((a+2:Nat):Int)-1=((a+1:Nat):Int):=by simp+arith
theorem U1{a:Nat}:(-(a:Int)+1074).toNat=1074-a:=(congrArg Int.toNat (xI (-(a:Int)) 1074)).trans (Int.toNat_sub 1074 a)
theorem Pr{a:Nat}:(0+(a:Int)*1).toNat=0+a:=by simp
theorem VE{a:Nat}:(0<=-1+((a:Int)+1)/\-1+((a:Int)+1)<(a:Int)+1)/\(-1+((a:Int)+1)).toNat=a:=have e:-1+((a:Int)+1)=a:=(xI ..).trans ((xH ..).trans (oY _));e.symm▸⟨⟨nO _,Int.lt_succ _⟩,rfl⟩
theorem PZ{a:Nat}:(a:Int)-(a:Int)<=0:=by simp
theorem L9{a:Nat}:-1000<=((a%3:Nat):Int)/\((a%3:Nat):Int)<=1000:=⟨fD (by decide) (nO _),j7.mpr (bg (j8 (nP a (by decide))) (by decide))⟩
theorem UM{a:Nat}:0+(a:Int)*1=(a:Int):=by simp
theorem acf{a:Nat}:0+a%4<=1000000:=by simp;grind
theorem VG{a:Nat}:0+a<=a:=by simp
theorem S9{a:Nat}:a%3<3:=by grind
theorem Wa{a:Nat}:a%4<=3:=by grind
theorem YO{a:Nat}:a+(a+1)+1=(a+1)*2:=by simp+arith
theorem OT{a:Nat}:a+1+2+13*17+330*37+6+19*4<=a+12520:=by simp
theorem WX{a:Nat}:a≠a+1+1:=by simp+arith
theorem Yr{a:Nat}{b c d:Int}(_:-((b:Rat)/2^1074-((c:Rat)/2^1074+(d:Rat)/2^1074))<=2^(a:Nat)/2^54):-(2^(a:Nat)/2^54)<=(b:Rat)/2^1074-((c:Rat)/2^1074+(d:Rat)/2^1074):=by grind
theorem XG{a:Nat}{b c d:Int}(_:-((b:Rat)/2^1074-(c:Rat)/2^1074*((d:Rat)/2^1074))<=2^(a:Nat)/2^54):-(2^(a:Nat)/2^54)<=(b:Rat)/2^1074-(c:Rat)/2^1074*((d:Rat)/2^1074):=by grind
theorem RJ{a:Nat}{b c d:Rat}(_:-(2^(a:Nat)/2^54)<=b-(c+-d)):-(2^(a:Nat)/2^54)<=b-(c-d):=by grind
theorem aaQ{a:Nat}{b c:Rat}(_:-2^(a:Nat)<=b-c):-2^(a:Nat)<=b+-c:=by grind
theorem Oe{a:Nat}{b c:Rat}:2^(a:Nat)/b*(c*b)=2^(a:Nat)/b*b*c:=by grind
theorem KY{a:Nat}{b:Int}{c:Prop}(h:a<=1000/\0<=b/\b<=1114111/\c):a+(a+1)*1<=16777216:=bg (I9 h.1 (acI 1 (Cb h.1))) (by decide)
theorem Ni{a:Rat}(h:-(1+1/2)<=a):-2<=a:=dj (by decide+kernel) h
theorem Nc{a:Rat}(_:0<=a):-a<=a:=by grind
theorem Ps{a:Rat}(_:a+4/2^48*0<=1):a<=1:=by grind
theorem UR{a:Rat}(_:a-1<=0/\-0<=a-1):a=1:=by grind
theorem OR{a:Rat}(_:a=0):-0<=a:=Std.le_of_eq (id (Eq.symm ‹_›))
theorem Vl{a:Rat}(h:a<=0):0<=-a:=dj (by decide+kernel) (C8 h)
theorem Rw{a:Rat}(h:a<=1+1/2):a<=2:=dj h (by decide+kernel)
theorem Kt{a:Rat}(_:a<=1/2^20):(6/5+1/2^52)*(8+a)<=64:=by grind
theorem R6{a:Rat}(_:a<=1/2^20):(9/5+1/2^52)*(8+a)<=64:=by grind
theorem abJ{a:Rat}(_:a<=1/2^20):1/2^52*(8+a)+6/5*a+1/2^48<=6/5*a+1/2^47:=by grind
theorem Zk{a:Rat}(_:a<=1/2^20):1/2^52*(8+a)+9/5*a+1/2^48<=9/5*a+1/2^47:=by grind
theorem aaD{a:Rat}(h:a<=3/4):a<=1:=dj h (by decide+kernel)
theorem LL{a:Rat}:-0<=a-a:=by grind -linarith
theorem ZJ{a:Rat}:a+(6/5*a+1/2^47)+1/2^48+(9/5*a+1/2^47)+1/2^48<=4*a+1/2^44:=by grind
theorem N8{a:Rat}:a-a<=0:=by grind -linarith
theorem Sy{b c:Nat}{a:Int}(_:c<=b)(_:a<(c:Int)):a<(b:Int)+1:=by lia
theorem W4{b f:Nat}{d:Int}{a c e:Rat}(_:-((b:Rat)*(e*2^(f:Nat)))<=a*((b:Rat)*c-(d:Rat))):a*-((b:Rat)*c-(d:Rat))<=(b:Rat)*(e*2^(f:Nat)):=by grind
theorem W6{b:Int}{a c:Rat}(_:(b:Rat)*a<=(b:Rat)*c):a*(b:Rat)<=(b:Rat)*c:=by grind
theorem Pn{b:Int}{a:Rat}(_:8*a=(b:Rat))(_:(b:Rat)<=8):a<=1:=by grind
theorem Wc{b:Int}{a:Rat}(_:8*a=(b:Rat))(_:0<=(b:Rat)):-1<=a:=by grind
theorem V9{b:Int}{a:Rat}(_:a-(b:Rat)<=1/2^21):a<=(b:Rat)+1/2^21:=by grind
theorem Mn{b:Nat}{a c d e f g:Rat}(_:-(1/2^48)<=g-(d+e))(_:-(a+4/2^48+5/2^48*(b:Rat)+1/2^48)<=c-(g+f)):-(a+5/2^48*((b:Rat)+1)+1/2^48)<=c-(d+(e+f)):=by grind
theorem aax{b:Nat}{a:Int}(_:1<=a/\a<(b:Int)/\b<=1000000):0<=a:=by lia
theorem Ve{b:Nat}{a:Int}(h:b=114\/b=103\/b=98)(c:65<=a):a+(b:Int)-97=(((a+(b:Int)-97).toNat:Nat):Int):=
 (Cf (Int.sub_nonneg_of_le (fD (by rcases h with rfl|rfl|rfl<;>decide) (acz c b)))).symm
theorem Sf{b:Nat}{a:Int}(h:b<=6)(k:0<=a/\a<=135*(b:Int)):a.natAbs<2^64:=ff (mo (n:=810) (fD k.2 (Int.mul_le_mul_of_nonneg_left (j7.mpr h) (by decide))) (fD (by decide) k.1)) (by decide)
theorem Lj{b:Nat}{a:Int}:a+(b:Int)*1=a+(b:Int):=by simp
theorem RP{b:Nat}{a:Int}{c:Prop}(_:b<=1000/\0<=a/\a<=1114111/\c):0<=a/\a<=1114111:=by simp[*]
theorem QT{b:Nat}{a:Rat}(_:a+2*((b:Rat)+1)<=58):a+2+2*(b:Rat)<=58:=by grind
theorem acq{b:Nat}{a:Rat}(_:a+4/2^48*((b:Rat)+1)<=1):a+4/2^48+4/2^48*(b:Rat)<=1:=by grind
theorem aaG{c:Int}{a b d e:Rat}(_:b<=1)(_:(c:Rat)*b<=1/2)(_:d<=b)(_:d*e<=d*((c:Rat)+1/2^21))(_:d*(c:Rat)<=(c:Rat)*b)(_:a-d*e<=1/2^54):a<1:=by grind
theorem Y1{c:Nat}{a b d:Rat}(_:b*a<=(c:Rat)*(d*b)):a*b<=(c:Rat)*d*b:=by grind
theorem P8{c:Nat}{a b:Int}(_:-2^(c:Nat)<=(a:Rat)/2^1074+(b:Rat)/2^1074):-((a:Rat)/2^1074+(b:Rat)/2^1074)<=2^(c:Nat):=by grind
theorem abC{c:Nat}{a b:Int}{d:Rat}(_:-2^(c:Nat)*d*d<=(a:Rat)*(b:Rat)):-((a:Rat)*(b:Rat))<=2^(c:Nat)*d*d:=by grind
theorem Xo{c:Nat}{a b:Rat}(_:-b<=a)(_:b+2*((c:Rat)+1)<=58):-58<=a:=by grind
theorem MR{c:Nat}{a b:Rat}(_:a-b<=2^(c:Nat)):a+-b<=2^(c:Nat):=by grind
theorem Qa{c:Nat}{a b:Rat}(_:a<=b)(_:b+2*((c:Rat)+1)<=58):a<=58:=by grind
theorem S5{c:Nat}{a b:Rat}(_:b*a<=2^(c:Nat)):a*b<=2^(c:Nat):=by grind
theorem Wp{c:Nat}{a:Int}{b:Rat}(_:(a:Rat)<=2^(c:Nat)*b):(a:Rat)<=b*2^(c:Nat):=by grind
theorem Tk{d e:Int}{a b c:Rat}(_:(d:Rat)+1<=(e:Rat))(_:b<=640000)(_:a*b=(d:Rat))(_:c*b=(e:Rat)):(a+1/2^20)*b<=c*b:=by grind
theorem ac6{d e:Nat}{a b c:Rat}(_:a*b*c<=(d:Rat)*(a*2^(e:Nat))):a*(b*c)<=a*((d:Rat)*2^(e:Nat)):=by grind
theorem YQ{d:Int}{a b c:Rat}(_:c<=1)(_:(d:Rat)*c<=1/2)(_:a<=c)(_:-(a*((d:Rat)+1/2^21))<=a*b)(_:a*(d:Rat)<=(d:Rat)*c):-1<=a*b:=by grind
theorem MA{d:Int}{a b c:Rat}(_:c<=1)(_:(d:Rat)*c<=1/2)(_:a<=c)(_:a*b<=a*((d:Rat)+1/2^21))(_:a*(d:Rat)<=(d:Rat)*c):a*b<=1:=by grind
theorem aaV{d:Nat}{a b c:Int}(_:-2^(1074+d-54:Nat)<=a-(b+c)):-(a-(b+c))<=2^(1074+d-54:Nat):=xB ‹_›
theorem Lu{d:Nat}{a b c:Rat}(_:-c<=a)(_:c+4/2^48*((d:Rat)+1)<=1)(_:-(3/2^48)<=b):-1<=a+b:=by grind
theorem Vh{d:Nat}{a b c:Rat}(_:a*b*(a*b)*c<=a*b*(a*2^(d:Nat))):a*b*a*(b*c)<=a*b*a*2^(d:Nat):=by grind
theorem aaY{d:Nat}{a b c:Rat}(_:a-(b+-c)<=2^(d:Nat)/2^54):a-(b-c)<=2^(d:Nat)/2^54:=by grind
theorem P0{d:Nat}{a b c:Rat}(_:a<=c)(_:c+4/2^48*((d:Rat)+1)<=1)(_:b<=3/2^48):a+b<=1:=by grind
theorem Nj{f:Nat}{a b c d e g:Rat}(_:-(1/2^54)<=c-0)(_:-(1/2^48)<=d-(c+e))(_:(f:Rat)<=14)(_:-(0+5/2^48*(f:Rat)+1/2^48)<=a-(d+g))(_:-(((f:Rat)+1)*(1/2^45))<=e+g-b):-(1/2^40)<=a-b:=by grind
theorem Wj{f:Nat}{a b c d e g:Rat}(_:c-0<=1/2^54)(_:d-(c+e)<=1/2^48)(_:(f:Rat)<=14)(_:a-(d+g)<=0+5/2^48*(f:Rat)+1/2^48)(_:e+g-b<=((f:Rat)+1)*(1/2^45)):a-b<=1/2^40:=by grind
theorem U9{f:Nat}{a b c d e g:Rat}(_:g-(b+c)<=1/2^48)(_:a-(g+d)<=e+4/2^48+5/2^48*(f:Rat)+1/2^48):a-(b+(c+d))<=e+5/2^48*((f:Rat)+1)+1/2^48:=by grind
theorem Lo{f:Nat}{b c d:Int}{a e:Rat}(_:-(a*(e*2^(f:Nat)))<=a*a*((b:Rat)/a-(c:Rat)/a*((d:Rat)/a))):a*a*-((b:Rat)/a-(c:Rat)/a*((d:Rat)/a))<=a*(e*2^(f:Nat)):=by grind
end
theorem aX{J b:Type _}{o:Option J}{k:J->Option b}{r:b}{P:Prop}(c:∀ a,o=some a->k a=some r->P):o.bind k=some r->P:=λh=>by
 cases o with
 |none=>exact nomatch h
 |some a=>exact c a rfl h
theorem bJ{J d e:Type _}{o:Option (J×d)}{k:J×d->Option e}{r:e}{P:Prop}(c:∀ a b,o=some (a,b)->k (a,b)=some r->P):o.bind k=some r->P:=aX λa=>c a.1 a.2
theorem pF{J e f g:Type _}{o:Option (J×e×f)}{k:J×e×f->Option g}{r:g}{P:Prop}(c:∀ a b d,o=some (a,b,d)->k (a,b,d)=some r->P):o.bind k=some r->P:=aX λa=>c a.1 a.2.1 a.2.2
theorem ca{J b:Type _}{o:Option J}{k:J->b}{r:b}{P:Prop}(c:∀ a,o=some a->k a=r->P):o.map k=some r->P:=λh=>by
 cases o with
 |none=>exact nomatch h
 |some a=>exact c a rfl (bw h)
theorem kC{J d e:Type _}{o:Option (J×d)}{k:J×d->e}{r:e}{P:Prop}(c:∀ a b,o=some (a,b)->k (a,b)=r->P):o.map k=some r->P:=ca λa=>c a.1 a.2
theorem bD{J:Type _}{r:J}{P:Prop}(h:(none:Option J)=some r):P:=nomatch h
theorem cb{J:Type _}{c:Prop}{a:Decidable c}{o:Option J}{r:J}{P:Prop}(k:c->o=some r->P):(@ite _ c a o none)=some r->P:=λh=>by
 by_cases q:c
 ·rw[if_pos q]at h;exact k q h
 ·rw[if_neg q]at h;exact bD h
theorem Bv{J:Type _}{c:Prop}{a:Decidable c}{o:Option J}{r:J}{P:Prop}(k:¬c->o=some r->P):(@ite _ c a none o)=some r->P:=λh=>by
 by_cases q:c
 ·rw[if_pos q]at h;exact bD h
 ·rw[if_neg q]at h;exact k q h
theorem nI{P:Prop}(h:false=true):P:=nomatch h
theorem ee{a b:Bool}(h:(a&&b)=true):a=true/\b=true:=by
 cases a with
 |false=>exact nI h
 |true=>exact⟨rfl,h⟩
theorem aT{J b:Type _}{o:Option J}{a:J}{k:J->Option b}{r:Option b}(h:o=some a)(e:k a=r):o.bind k=r:=(congrArg (Cg · k) h).trans e
theorem da{J b:Type _}{o:Option J}{a:J}{k:J->b}{r:Option b}(h:o=some a)(e:some (k a)=r):o.map k=r:=(congrArg (ri k) h).trans e
theorem xp{J:Type _}{a b:Option J}{r:J}{P:Prop}(h1:a=some r->P)(h2:b=some r->P)(h:a.or b=some r):P:=by
 cases a with
 |none=>exact h2 h
 |some x=>exact h1 h
noncomputable def Ep{J:Type _}:List J->Option J
 |[]=>none
 |a::l=>match l with
  |[]=>some a
  |_::_=>none
theorem abM{J:Type _}{l:List J}{a:J}(h:Ep l=some a):l=[a]:=by
 cases l with
 |nil=>exact nomatch h
 |cons b l=>
  cases l with
  |nil=>exact bw h▸rfl
  |cons=>exact nomatch h
theorem g8{J c:Type _}{a x:J}{b y:c}{P:J->c->Prop}(k:P a b):some (a,b)=some (x,y)->P x y:=λh=>by cases h;exact k
theorem dU{J c:Type _}{a x:J}{b y:c}{P:J->c->Prop}(k:P a b):(a,b)=(x,y)->P x y:=λh=>by cases h;exact k
theorem Oa{b:Bool}(h:(!b)=true):b=false:=by cases b<;>first|rfl|cases h
open PySem PySem.W PySem.Calls PyProof.Rows
noncomputable abbrev pw:rj:=PySem.Challenge.pw_xh0036_01
noncomputable def bB(i:Nat):dw:=(pw.main.body[i]?).getD (.Pass ⟨0,0,0,0⟩)
noncomputable def sP:dw->Arguments×List dw×Scope×iG×List iG×br
 |.FunctionDef _ a b _ _ _ s ..=>(a,b,s,default)
 |.ClassDef _ _ _ b ..=>(default,b,default)
 |.Assign t v q=>(default,[],default,v,t,q)
 |_=>default
noncomputable def fA(s:dw):Arguments:=(sP s).1
noncomputable def fB(s:dw):List dw:=(sP s).2.1
noncomputable def fS(s:dw):Scope:=(sP s).2.2.1
noncomputable def oq(i j:Nat):dw:=((fB (bB i))[j]?).getD (.Pass ⟨0,0,0,0⟩)
noncomputable def eP:iG->List (Option iG)×List iG×Const
 |.Dict k v _=>(k,v,.none)
 |.Constant c _ _=>([],[],c)
 |_=>([],[],.none)
noncomputable def vM(s:dw):List (Option iG):=(eP (sP s).2.2.2.1).1
noncomputable def xc(s:dw):List iG:=(eP (sP s).2.2.2.1).2.1
noncomputable def lQ(s:dw):br:=(sP s).2.2.2.1.pos
noncomputable def cN:Const->Option Nat
 |.int (.ofNat k)=>some k
 |_=>none
noncomputable def cS:Const->Option Str
 |.str x=>some x
 |_=>none
noncomputable def Dm(e:Option iG):Option Nat:=e.bind λe=>cN (eP e).2.2
noncomputable def Hm(e:iG):Option Str:=cS (eP e).2.2
noncomputable def wF:List (Option iG)->List iG->Option (List (Nat×Str))
 |[],a=>if a.isEmpty=true then some []else none
 |k::b,a=>(Dm k).bind λk=>a.head?.bind λv=>(Hm v).bind λx=>(wF b a.tail).map ((k,x)::·)
noncomputable def nb:List (Nat×Str):=(wF (vM (bB 11)) (xc (bB 11))).getD []
noncomputable def pP:List (Int×Str):=nb.map λx=>(et x.1,x.2)
noncomputable def pL:Nat->List (Int×Str)->List cW
 |_,[]=>[]
 |j,(k,v)::r=>(if j<646 then⟨k,.int k (364+3*j),.str v (365+3*j)⟩else⟨k,.int k (2302+2*(j-646)),.str v (2303+2*(j-646))⟩)::pL (j+1) r
noncomputable def kP:List cW:=pL 0 pP
noncomputable def H8(n:Nat):bK:=⟨.type "dict",none,.dict (kP.take n).toArray n,#[]⟩
noncomputable def X4(i:Nat):bK:=⟨.type "dict",none,.dict ((kP.drop (17*i)).take 17).toArray (if i=38 then 4 else 17),#[]⟩
noncomputable def pA:br:=⟨0,0,0,0⟩
noncomputable def pB:br:=⟨0,0,0,0⟩
noncomputable def p0:br:=⟨61,0,61,8⟩
noncomputable def p1:br:=⟨62,0,62,6⟩
noncomputable def p2:br:=⟨63,0,64,30⟩
noncomputable def p3:br:=⟨65,0,65,13⟩
noncomputable def p4:br:=⟨96,0,166,63⟩
noncomputable def hs(s:String)(t:Nat):aI:=.str (aK s) t
noncomputable def hD(P:bX)(n:Nat)(l:List (String×Nat×aI)):bK:=⟨.type "dict",none,.dict (l.map λx=>⟨PyData.keyHash P (aK x.1),hs x.1 x.2.1,x.2.2⟩).toArray n,#[]⟩
noncomputable def hq(s:String)(n:Nat)(l:List aI):bK:=⟨.type s,none,.seq l.toArray n,#[]⟩
noncomputable def hT(l:List aI):bK:=hq "tuple" 0 l
noncomputable def hV(t:Nat):List String->List aI
 |[]=>[]
 |s::r=>hs s t::hV (t+1) r
noncomputable def hi(t:Nat):List Int->List aI
 |[]=>[]
 |s::r=>.int s t::hi (t+1) r
noncomputable def hF(v:aI)(l:List aI):bK:=⟨v,none,.fields l.toArray,#[]⟩
noncomputable def hC(nm q:String)(t u:Nat)(c d e k:Int)(a:Nat)(b:Bool)(x y z:aI):bK:=
 hF (.type "code") [hs nm t,hs q (t+1),hs "/claim/cut.py" (t+2),.int c 0,.int d 0,.int 0 0,.int 0 0,.int e 0,.ref a,.bool b,.int k 0,.ref (a+1),.none,x,y,z,.int u 0,.int c 0,hs "/claim/cut.py" (u+1)]
noncomputable def hU(v:aI)(nm q:String)(s:dw)(g:Nat)(a c:aI):bK:=⟨v,none,.func {name:=aK nm,qualname:=aK q,params:=fA s,body:=.stmts (fB s),scope:=fS s,globals:=g,closure:=[],defaults:=.none,kwdefaults:=.none,doc:=.none,pyModule:=a,annotations:=none,code:=c,closureTuple:=.none,builtins:=0},#[]⟩
noncomputable def hG(a t:Nat)(nm q:String)(s:dw)(b c:Int)(d:aI):List String->List bK
 |[]=>[hT [],hF .none [],hU .none nm q s 0 .none .none,hC nm q t (t+3) b c 3 181 a true .none .none (.ref (a+2)),hU (.type "function") nm q s 3 d (.ref (a+3))]
 |v=>[hT [],hF .none [],hT (hV (t+3) v),hT [],hU .none nm q s 0 .none .none,hC nm q t (t+3+v.length) b c 3 181 a true (.ref (a+2)) (.ref (a+3)) (.ref (a+4)),hU (.type "function") nm q s 3 d (.ref (a+5))]
noncomputable def hR(f d:Nat)(a:aI):bK:=⟨.type "frame",none,.plain,#[some (.ref f),some (.ref 3),some (.ref d),none,some a,none,some (.ref 0)]⟩
noncomputable def bT(l:List bK):Nat->Nat->Nat->BT
 |0,_,_=>.nil
 |d+1,i,s=>match l[i]? with
  |none=>.nil
  |some o=>.node o (bT l d (i+s) (s+s)) (bT l d (i+s+s) (s+s))
noncomputable def hN(P:bX)(s:String)(t n k:Nat):bK:=hD P k (("__name__",165,hs s t)::Ch n [("__doc__",166,.none),("__package__",167,.none),("__loader__",168,.builtin "__main__.__loader__#opaque"),("__spec__",169,.none),("__annotations__",170,.ref 6),("__builtins__",171,.ref 4),("__file__",173,hs "/claim/cut.py" 172),("__cached__",174,.none),("TupleComp",230,.ref 38),("add_func_stats",248,.ref 49),("add_callers",259,.ref 56),("count_calls",268,.ref 63),("rgb_to_yiq",282,.ref 70),("yiq_to_rgb",294,.ref 77),("b1_set",356,.ref 85),("in_table_b1",363,.ref 95),("b3_exceptions",2314,.ref 96),("map_table_b3",2322,.ref 141),("_law_typed",2339,.ref 148),("_law_whole",2349,.ref 155),("_law_rank",2355,.ref 160),("_law_row",2361,.ref 165),("law",2367,.ref 170)])
noncomputable def hK(n:Nat):bK:=hF .none ((Ch n [(2,20),(16,48),(20,55),(33,62),(39,69),(44,76),(63,94),(66,140),(72,147),(86,154),(89,159),(91,164),(96,169)]).flatMap λx:Int×Nat=>[.int x.1 0,.int 0 0,.ref x.2])
noncomputable def zp(P:bX):bK:=hD P 159 [("__name__",1,hs "builtins" 160),("__doc__",2,.builtin "builtins.__doc__:str#opaque"),("__package__",3,.builtin "builtins.__package__:str#opaque"),("__loader__",4,.builtin "builtins.__loader__:shared#opaque"),("__spec__",5,.builtin "builtins.__spec__#opaque"),("__build_class__",6,.builtin "__build_class__"),("__import__",7,.builtin "__import__"),("abs",8,.builtin "abs"),("all",9,.builtin "all"),("any",10,.builtin "any"),("ascii",11,.builtin "ascii"),("bin",12,.builtin "bin"),("breakpoint",13,.builtin "breakpoint"),("callable",14,.builtin "callable"),("chr",15,.builtin "chr"),("compile",16,.builtin "compile"),("delattr",17,.builtin "delattr"),("dir",18,.builtin "dir"),("divmod",19,.builtin "divmod"),("eval",20,.builtin "eval"),("exec",21,.builtin "exec"),("format",22,.builtin "format"),("getattr",23,.builtin "getattr"),("globals",24,.builtin "globals"),("hasattr",25,.builtin "hasattr"),("hash",26,.builtin "hash"),("hex",27,.builtin "hex"),("id",28,.builtin "id"),("input",29,.builtin "input"),("isinstance",30,.builtin "isinstance"),("issubclass",31,.builtin "issubclass"),("iter",32,.builtin "iter"),("aiter",33,.builtin "aiter"),("len",34,.builtin "len"),("locals",35,.builtin "locals"),("max",36,.builtin "max"),("min",37,.builtin "min"),("next",38,.builtin "next"),("anext",39,.builtin "anext"),("oct",40,.builtin "oct"),("ord",41,.builtin "ord"),("pow",42,.builtin "pow"),("print",43,.builtin "print"),("repr",44,.builtin "repr"),("round",45,.builtin "round"),("setattr",46,.builtin "setattr"),("sorted",47,.builtin "sorted"),("sum",48,.builtin "sum"),("vars",49,.builtin "vars"),("None",50,.none),("Ellipsis",51,.ellipsis),("NotImplemented",52,.notImplemented),("False",53,.bool false),("True",54,.bool true),("bool",55,.type "bool"),("memoryview",56,.type "memoryview"),("bytearray",57,.type "bytearray"),("bytes",58,.type "bytes"),("classmethod",59,.type "classmethod"),("complex",60,.type "complex"),("dict",61,.type "dict"),("enumerate",62,.type "enumerate"),("filter",63,.type "filter"),("float",64,.type "float"),("frozenset",65,.type "frozenset"),("property",66,.type "property"),("int",67,.type "int"),("list",68,.type "list"),("map",69,.type "map"),("object",70,.type "object"),("range",71,.type "range"),("reversed",72,.type "reversed"),("set",73,.type "set"),("slice",74,.type "slice"),("staticmethod",75,.type "staticmethod"),("str",76,.type "str"),("super",77,.type "super"),("tuple",78,.type "tuple"),("type",79,.type "type"),("zip",80,.type "zip"),("__debug__",81,.bool true),("BaseException",82,.type "BaseException"),("BaseExceptionGroup",83,.type "BaseExceptionGroup"),("Exception",84,.type "Exception"),("GeneratorExit",85,.type "GeneratorExit"),("KeyboardInterrupt",86,.type "KeyboardInterrupt"),("SystemExit",87,.type "SystemExit"),("ArithmeticError",88,.type "ArithmeticError"),("AssertionError",89,.type "AssertionError"),("AttributeError",90,.type "AttributeError"),("BufferError",91,.type "BufferError"),("EOFError",92,.type "EOFError"),("ImportError",93,.type "ImportError"),("LookupError",94,.type "LookupError"),("MemoryError",95,.type "MemoryError"),("NameError",96,.type "NameError"),("OSError",97,.type "OSError"),("ReferenceError",98,.type "ReferenceError"),("RuntimeError",99,.type "RuntimeError"),("StopAsyncIteration",100,.type "StopAsyncIteration"),("StopIteration",101,.type "StopIteration"),("SyntaxError",102,.type "SyntaxError"),("SystemError",103,.type "SystemError"),("TypeError",104,.type "TypeError"),("ValueError",105,.type "ValueError"),("Warning",106,.type "Warning"),("FloatingPointError",107,.type "FloatingPointError"),("OverflowError",108,.type "OverflowError"),("ZeroDivisionError",109,.type "ZeroDivisionError"),("BytesWarning",110,.type "BytesWarning"),("DeprecationWarning",111,.type "DeprecationWarning"),("EncodingWarning",112,.type "EncodingWarning"),("FutureWarning",113,.type "FutureWarning"),("ImportWarning",114,.type "ImportWarning"),("PendingDeprecationWarning",115,.type "PendingDeprecationWarning"),("ResourceWarning",116,.type "ResourceWarning"),("RuntimeWarning",117,.type "RuntimeWarning"),("SyntaxWarning",118,.type "SyntaxWarning"),("UnicodeWarning",119,.type "UnicodeWarning"),("UserWarning",120,.type "UserWarning"),("BlockingIOError",121,.type "BlockingIOError"),("ChildProcessError",122,.type "ChildProcessError"),("ConnectionError",123,.type "ConnectionError"),("FileExistsError",124,.type "FileExistsError"),("FileNotFoundError",125,.type "FileNotFoundError"),("InterruptedError",126,.type "InterruptedError"),("IsADirectoryError",127,.type "IsADirectoryError"),("NotADirectoryError",128,.type "NotADirectoryError"),("PermissionError",129,.type "PermissionError"),("ProcessLookupError",130,.type "ProcessLookupError"),("TimeoutError",131,.type "TimeoutError"),("IndentationError",132,.type "IndentationError"),("_IncompleteInputError",133,.type "_IncompleteInputError"),("IndexError",134,.type "IndexError"),("KeyError",135,.type "KeyError"),("ModuleNotFoundError",136,.type "ModuleNotFoundError"),("NotImplementedError",137,.type "NotImplementedError"),("PythonFinalizationError",138,.type "PythonFinalizationError"),("RecursionError",139,.type "RecursionError"),("UnboundLocalError",140,.type "UnboundLocalError"),("UnicodeError",141,.type "UnicodeError"),("BrokenPipeError",142,.type "BrokenPipeError"),("ConnectionAbortedError",143,.type "ConnectionAbortedError"),("ConnectionRefusedError",144,.type "ConnectionRefusedError"),("ConnectionResetError",145,.type "ConnectionResetError"),("TabError",146,.type "TabError"),("UnicodeDecodeError",147,.type "UnicodeDecodeError"),("UnicodeEncodeError",148,.type "UnicodeEncodeError"),("UnicodeTranslateError",149,.type "UnicodeTranslateError"),("ExceptionGroup",150,.type "ExceptionGroup"),("EnvironmentError",151,.type "OSError"),("IOError",152,.type "OSError"),("open",153,.builtin "open"),("quit",154,.builtin "builtins.quit#opaque"),("exit",155,.builtin "builtins.exit#opaque"),("copyright",156,.builtin "builtins.copyright#opaque"),("credits",157,.builtin "builtins.credits#opaque"),("license",158,.builtin "builtins.license#opaque"),("help",159,.builtin "builtins.help#opaque")]
noncomputable def GR(P:bX):bK:=hD P 2 [("builtins",162,.ref 4),("__main__",163,.ref 5)]
noncomputable def HM(P:bX):bK:=⟨.none,none,(.dict (List.toArray []) 0),#[]⟩
noncomputable def rW(P:bX):bK:=⟨(.type "module"),(some 0),.plain,#[]⟩
noncomputable def mV(P:bX):bK:=⟨.type "set",none,.set (([(65024,313),(65025,314),(65026,315),(65027,316),(65028,317),(65029,318),(6150,299),(65030,319),(65031,320),(65032,321),(65033,322),(6155,300),(6156,301),(6157,302),(8203,303),(8204,304),(8205,305),(65034,323),(65035,324),(65036,325),(65037,326),(65038,327),(65039,328),(173,297),(847,298),(8288,306),(65279,307)]:List (Nat×Nat)).map λx=>(x.1,.int x.1 x.2)).toArray 29 {mask:=127,place:=#[0,1,2,3,4,5,6,7,8,9,10,11,12,13,14,15,16,17,18,19,20,21,22,45,79,96,127],dummies:=#[],finger:=0,led:=!P.followText "set-order",moves:=2,plain:=true},#[]⟩
noncomputable def wX(P:bX):bK:=hN P "law_xh0036_01" 2323 23 24
noncomputable def Uv(P:bX):bK:=hC "__init__" "TupleComp.__init__" 201 206 4 2 3 181 22 true (.ref 24) (.ref 25) (.ref 26)
noncomputable def Nu(P:bX):bK:=hU (.type "function") "__init__" "TupleComp.__init__" (oq 1 0) 3 (hs "cpy313.pstats" 187) (.ref 27)
noncomputable def Yg(P:bX):bK:=hF .none []
noncomputable def Hb(P:bX):bK:=hC "add_callers" "add_callers" 249 257 20 2 3 181 50 true (.ref 52) (.ref 53) (.ref 54)
noncomputable def NR(P:bX):bK:=hC "law" "law" 2362 2365 96 1 3 181 166 true .none .none (.ref 168)
noncomputable def h0(P:bX)(o:bK):List bK:=[zp P,GR P,HM P,o,rW P,⟨(.type "module"),(some 3),.plain,#[]⟩,hD P 0 [],hT [],hF .none [],hC "<module>" "<module>" 176 179 1 0 0 175 7 false .none .none .none,hR 9 3 (hs "__main__" 164)]
noncomputable def h1(k:Nat):List bK:=[hT [],hK k,hC "<module>" "<module>" 182 185 1 0 0 181 11 false .none .none .none,hR 13 3 (hs "__main__" 164)]
noncomputable def h2(P:bX):List bK:=[hT [],hF (.type "builtin_function_or_method") [(.builtin "type.__prepare__"),(.type "type")],hD P 6 [("__module__",196,hs "cpy313.pstats" 187),("__qualname__",198,hs "TupleComp" 197),("__firstlineno__",200,.int 2 199),("__init__",208,.ref 28),("compare",221,.ref 35),("__static_attributes__",223,.ref 36)],hT [],hF .none [(.int 4 0),(.int 4 0),(.ref 27),(.int 7 0),(.int 4 0),(.ref 34)],hC "TupleComp" "TupleComp" 191 194 2 0 0 181 18 false .none .none .none,hR 20 17 (hs "cpy313.pstats" 187)]++hG 22 201 "__init__" "TupleComp.__init__" (oq 1 0) 4 2 (hs "cpy313.pstats" 187) ["self","comp_select_list"]++hG 29 209 "compare" "TupleComp.compare" (oq 1 1) 7 3 (hs "cpy313.pstats" 187) ["self","left","right","index","direction","l","r"]++[hT [hs "comp_select_list" 222],hD P 4 [("__module__",196,hs "cpy313.pstats" 187),("__firstlineno__",200,.int 2 199),("__init__",208,.ref 28),("compare",221,.ref 35),("__static_attributes__",223,.ref 36),("__dict__",225,.ref 39),("__weakref__",227,.ref 40),("__doc__",228,.none)],⟨(.type "type"),none,(.cls {name:=(aK "TupleComp"),bases:=[(.type "object")],mro:=[(.ref 38),(.type "object")],ns:=37,qualname:=(aK "TupleComp"),hasDict:=true,slotNames:=[],subclasses:=[],abstract:=false,collection:=none,hasDel:=false}),#[none,none,some (hs "TupleComp" 189),some (hs "TupleComp" 197),some (.builtin "object.__new__"),some (.bool true)]⟩,hF (.type "getset_descriptor") [hs "__dict__" 224,(.ref 38),(.builtin "function.__dict__"),(.builtin "function.__dict__#set")],hF (.type "getset_descriptor") [hs "__weakref__" 226,(.ref 38),(.builtin "ExceptionGroup.__weakref__"),.none],hF (.type "super") [(.ref 38),(.ref 38),(.ref 38)],hF (.type "builtin_function_or_method") [(.builtin "object.__init_subclass__"),(.ref 38)]]++hG 43 231 "add_func_stats" "add_func_stats" (bB 2) 16 2 (hs "cpy313.pstats" 187) ["target","source","cc","nc","tt","ct","callers","t_cc","t_nc","t_tt","t_ct","t_callers"]++hG 50 249 "add_callers" "add_callers" (bB 3) 20 2 (hs "cpy313.pstats" 187) ["target","source","new_callers","func","caller"]++hG 57 260 "count_calls" "count_calls" (bB 4) 33 1 (hs "cpy313.pstats" 187) ["callers","nc","calls"]++hG 64 271 "rgb_to_yiq" "rgb_to_yiq" (bB 6) 39 3 (hs "cpy313.colorsys" 269) ["r","g","b","y","i","q"]++hG 71 283 "yiq_to_rgb" "yiq_to_rgb" (bB 7) 44 3 (hs "cpy313.colorsys" 269) ["y","i","q","r","g","b"]
noncomputable def h3(P:bX):List bK:=[hq "list" 0 (hi 297 [173,847,6150,6155,6156,6157,8203,8204,8205,8288,65279]),hF (.type "range") [(.int 65024 308),(.int 65040 309),(.int 1 310)],hq "list" 18 (hi 313 [65024,65025,65026,65027,65028,65029,65030,65031,65032,65033,65034,65035,65036,65037,65038,65039]),hF (.type "range_iterator") [(.int 65040 0),(.int 0 0),(.int 1 0)],hT [],hF (.type "StopIteration") [(.ref 82),.none,.none,.none,(.bool false),.none],hq "list" 0 (hi 297 [173,847,6150,6155,6156,6157,8203,8204,8205,8288,65279]++hi 313 [65024,65025,65026,65027,65028,65029,65030,65031,65032,65033,65034,65035,65036,65037,65038,65039]),mV P,hF (.type "list_iterator") [.none,(.int 27 0)],hT [],hF (.type "StopIteration") [(.ref 87),.none,.none,.none,(.bool false),.none]]
noncomputable def h4:List bK:=hG 89 357 "in_table_b1" "in_table_b1" (bB 10) 63 1 (hs "cpy313.stringprep" 295) ["code"]
noncomputable def h5:List bK:=H8 650::(aO 38).map λi=>X4 (i+1)
noncomputable def h6:List bK:=hG 135 2315 "map_table_b3" "map_table_b3" (bB 12) 66 1 (hs "cpy313.stringprep" 295) ["code","r"]++hG 142 2325 "_law_typed" "_law_typed" (bB 14) 72 2 (hs "law_xh0036_01" 2323) ["word","style","unseen","bases","other","typed","place","sign","kind"]++hG 149 2340 "_law_whole" "_law_whole" (bB 15) 86 1 (hs "law_xh0036_01" 2323) ["light","r","g","b"]++hG 156 2350 "_law_rank" "_law_rank" (bB 16) 89 2 (hs "law_xh0036_01" 2323) []++hG 161 2356 "_law_row" "_law_row" (bB 17) 91 3 (hs "law_xh0036_01" 2323) []++hG 166 2362 "law" "law" (bB 18) 96 1 (hs "law_xh0036_01" 2323) []
noncomputable def lB(P:bX):List bK:=h0 P (hN P "__main__" 164 8 9)++h1 0
noncomputable def l0(P:bX):List bK:=h0 P (hN P "cpy313.stringprep" 295 14 15)++h1 6++h2 P
noncomputable def l1(P:bX):List bK:=h0 P (hN P "cpy313.stringprep" 295 15 16)++h1 6++h2 P++h3 P
noncomputable def l2(P:bX):List bK:=h0 P (hN P "cpy313.stringprep" 295 16 17)++h1 7++h2 P++h3 P++h4
noncomputable def l3(P:bX):List bK:=h0 P (hN P "cpy313.stringprep" 295 17 18)++h1 7++h2 P++h3 P++h4++h5
noncomputable def l4(P:bX):List bK:=h0 P (wX P)++h1 13++h2 P++h3 P++h4++h5++h6
noncomputable def TB(P:bX):BT:=bT (lB P) 9 0 1
noncomputable def T0(P:bX):BT:=bT (l0 P) 9 0 1
noncomputable def T1(P:bX):BT:=bT (l1 P) 9 0 1
noncomputable def T2(P:bX):BT:=bT (l2 P) 9 0 1
noncomputable def T3(P:bX):BT:=bT (l3 P) 9 0 1
noncomputable def T4(P:bX):BT:=bT (l4 P) 9 0 1
noncomputable def HA(P:bX):bh:=⟨(lB P).toArray,{}⟩
noncomputable def HF(P:bX):bh:=⟨(l4 P).toArray,{}⟩
noncomputable def tb:=fF
noncomputable def fP:Option aI:=some (.ref 6)
noncomputable def ez:cz:={scope:=pw.main.scope,locals:=mainNs,globals:=mainNs,cells:=[],code:=.ref 13,frame:=some 14}
noncomputable def fq:Code:=.body (Jh pw) ez
noncomputable def i5:List rk:=[topFrame ⟨0,0,0,0⟩]
noncomputable def g0:List dw:=[bB 0,bB 1,bB 2,bB 3,bB 4,bB 5,bB 6,bB 7,bB 8]
noncomputable def g1:List dw:=[bB 9]
noncomputable def g2:List dw:=[bB 10]
noncomputable def g3:List dw:=[bB 11]
noncomputable def g4:List dw:=[bB 12,bB 13,bB 14,bB 15,bB 16,bB 17,bB 18]
noncomputable abbrev fj(T:bX->BT)(n k:Nat)(w:aZ)(os:lD):SharedT:=⟨T w.params,n,{},#[],{},k,os⟩
theorem OY(w:aZ):(λos=>xK fF pw w 11 fP 1 459 (fj TB 15 187 w os) (xL g0 ez fq pB i5))=λos=>some (.next,fj T0 78 297 w os,fq,p0):=by
 kernel_rfl
theorem YT(w:aZ):(λos=>xK fF pw w 11 fP 1 30 (fj T1 89 357 w os) (xL g2 ez fq p1 i5))=λos=>some (.next,fj T2 96 364 w os,fq,p2):=by
 kernel_rfl
theorem Ow(w:aZ):(λos=>xK fF pw w 11 fP 1 187 (fj T3 135 2315 w os) (xL g4 ez fq p3 i5))=λos=>some (.next,fj T4 171 2368 w os,fq,p4):=by
 kernel_rfl
noncomputable def SZ(w:aZ)(os:lD):aL:=⟨oZ w.params,#[],boot_drawn,boot_toks,os⟩
noncomputable def SA(w:aZ)(os:lD):aL:=⟨HA w.params,#[],{},187,os⟩
noncomputable def SF(w:aZ)(os:lD):aL:=⟨HF w.params,#[],{},2368,os⟩
theorem abN(w:aZ):(λos=>topGo fF pw w 11 fP 12 (SZ w os) (topStub pw))=λos=>some (SA w os,⟨denote fF fq,fq,pA,i5⟩):=by
 kernel_rfl
theorem Zn(w:aZ):(λos=>segRun fF pw w 11 fP 1 1 (SA w os) (blockOf (Jh pw) ez fq pA i5))=λos=>some (.next,(fj TB 15 187 w os).abs,fq,pB):=by
 kernel_rfl
theorem abA(w:aZ):(λos=>jb fF pw w 11 fP 2 (fj T4 171 2368 w os).abs ⟨doneF .next,fq,p4,i5⟩)=λos=>some (SF w os):=by
 kernel_rfl
def P1(w:aZ):Prop:=(λos=>xK fF pw w 11 fP 1 999 (fj T0 78 297 w os) (xL g1 ez fq p0 i5))=λos=>some (.next,fj T1 89 357 w os,fq,p1)
def lP(w:aZ):Prop:=(λos=>PySem.W.Fast.tw10110043849684766642 PySem.W.Fast.tw14364793385576792824 pw w 11 fP 1 999 (fj T0 78 297 w os) (xL g1 ez fq p0 i5))=λos=>some (.next,fj T1 89 357 w os,fq,p1)
theorem wQ{w:aZ}(h:lP w):P1 w:=by
 unfold P1;rw[PySem.W.Fast.te10110043849684766642,PySem.W.Fast.te14364793385576792824];exact h
theorem Wr(w:aZ):lP ((w.withFollow "special-get-raises" false).withFollow "set-order" false):=by
 unfold lP;kernel_rfl
theorem Ul(w:aZ):lP ((w.withFollow "special-get-raises" true).withFollow "set-order" false):=by
 unfold lP;kernel_rfl
theorem T5(w:aZ):lP ((w.withFollow "special-get-raises" false).withFollow "set-order" true):=by
 unfold lP;kernel_rfl
theorem Qd(w:aZ):lP ((w.withFollow "special-get-raises" true).withFollow "set-order" true):=by
 unfold lP;kernel_rfl
theorem aaj(w:aZ):P1 w:=
 byRow2 "set-order" (P:=P1)
  (λw=>byRow2 "special-get-raises" (P:=λw=>P1 (w.withFollow "set-order" false)) (λw=>wQ (Wr w)) (λw=>wQ (Ul w)) w)
  (λw=>byRow2 "special-get-raises" (P:=λw=>P1 (w.withFollow "set-order" true)) (λw=>wQ (T5 w)) (λw=>wQ (Qd w)) w) w
section
variable{w:aZ}{J β:Type}{n₀:Nat}{ann:Option aI}{tb:String->Option Builtin}{prog:rj}
def Go(tb:String->Option Builtin)(prog:rj)(w:aZ)(n₀:Nat)(ann:Option aI){J:Type}(m:bA J)(s:aL)(p:br)(b:Nat)(a:J)(D:aL)(e:br)(d:Nat):Prop:=
 ∃ n,b+n<=d/\∀ (K:J->bA Fin) (H:aI->bA Fin) (f:Bool->Bool) (g:List aI->List aI) (B:List rk) (c:Code) (N:Nat) (r:aL),
  jb tb prog w n₀ ann N D ⟨K a,c,e,B⟩=some r->jb tb prog w n₀ ann (n+N) s ⟨m.wrap K H f g,c,p,B⟩=some r
variable{x x1 x2:Nat}{s s1 D s2:aL}{p p1 p' p2:br}{a:J}{b:β}{m:bA J}
theorem Go.pure:Go tb prog w n₀ ann (.pure a) s p x a s p x:=(aS 0 (cu _) (λK H d e B c N r h=>by rw[xJ];exact h))
theorem Go.mono(h:Go tb prog w n₀ ann m s p x a s1 p1 x1)(c:x1<=x2):Go tb prog w n₀ ann m s p x a s1 p1 x2:=by
 exact aV h λn d h=>(aS n (bg d c) h)
theorem Go.wrap{d:J->bA β}{e:aI->bA β}{g1:Bool->Bool}{l1:List aI->List aI}(h1:Go tb prog w n₀ ann m s p x a s1 p1 x1)(h2:Go tb prog w n₀ ann (d a) s1 p1 x1 b s2 p2 x2):
  Go tb prog w n₀ ann (m.wrap d e g1 l1) s p x b s2 p2 x2:=by
 refine aQ λf=>aV h1 λg i h1=>?_;obtain⟨j,k,h2⟩:=h2;refine f (aS (g+j) (L8 i k) (λK H l n B c N r h=>?_));rw[Sem.wrap_wrap,oX];exact h1 _ _ _ _ _ _ _ _ (h2 _ _ _ _ _ _ _ _ h)
theorem Go.bind{f:J->bA β}(h1:Go tb prog w n₀ ann m s p x a s1 p1 x1)(h2:Go tb prog w n₀ ann (f a) s1 p1 x1 b s2 p2 x2):Go tb prog w n₀ ann (m >>= f) s p x b s2 p2 x2:=by
 rw[acJ];exact h1.wrap h2
theorem Go.keep{c:List aI}(h1:Go tb prog w n₀ ann m s p x a s1 p1 x1):Go tb prog w n₀ ann (m.keep c) s p x a s1 p1 x1:=by
 rw[Sem.keep_eq_wrap];exact h1.wrap .pure
theorem Go.holding{c:List aI}(h1:Go tb prog w n₀ ann m s p x a s1 p1 x1):Go tb prog w n₀ ann (holding c m) s p x a s1 p1 x1:=by
 delta js
 generalize List.filter _ c=l;cases l with
 |nil=>exact h1
 |cons=>exact h1.keep
theorem Go.onRaise{h:aI->bA Unit}(h1:Go tb prog w n₀ ann m s p x a s1 p1 x1):Go tb prog w n₀ ann (m.onRaise h) s p x a s1 p1 x1:=by
 rw[Sem.onRaise_eq_wrap];exact h1.wrap .pure
theorem Go.one {i:bA J} (hs:∀ (K:J->bA Fin) (H:aI->bA Fin) (d:Bool->Bool) (f:List aI->List aI) (B:List rk) (c:Code),
   through ⟨m.wrap K H d f,c,p,B⟩=false/\stepOk n₀ ann ⟨m.wrap K H d f,c,p,B⟩=true/\step (denote tb) prog w s ⟨m.wrap K H d f,c,p,B⟩=.go s1 ⟨i.wrap K H d f,c,p1,B⟩)
  (h:Go tb prog w n₀ ann i s1 p1 (x+1) a s2 p2 x2):Go tb prog w n₀ ann m s p x a s2 p2 x2:=by
 refine aQ λg=>aV h λn e h=>g (aS (n+1) (by exact WC e) (λK H d f B c N r q=>aQ λg=>?_));obtain⟨h1,h2,h3⟩:=hs K H d f B c;refine g ?_;rw[show n+1+N=(n+N)+1 by exact(xC _ 1 _)];unfold jb;rw[h1,h2,h3];exact h _ _ _ _ _ _ _ _ q
variable{ht:bh}{gens:Array Ci}{drawn:Drawn}{toks:Nat}{os:lD}
theorem Go.rule{t:String}{k:Unit->bA J}(h:Go tb prog w n₀ ann (k ()) ⟨ht,gens,drawn,toks,os⟩ p (x+1) a s2 p2 x2):Go tb prog w n₀ ann (.rule t k) ⟨ht,gens,drawn,toks,os⟩ p x a s2 p2 x2:=
 .one (λK H d e B c=>⟨nQ _,rfl,rfl⟩) h
theorem Go.at{q:br}{k:Unit->bA J}(h:Go tb prog w n₀ ann (k ()) ⟨ht,gens,drawn,toks,os⟩ q (x+1) a s2 p2 x2):Go tb prog w n₀ ann (.at q k) ⟨ht,gens,drawn,toks,os⟩ p x a s2 p2 x2:=
 .one (λK H d e B c=>⟨nQ _,rfl,rfl⟩) h
theorem Go.ask{k:Setting->bA J}(h:Go tb prog w n₀ ann (k ⟨prog,w.params⟩) ⟨ht,gens,drawn,toks,os⟩ p (x+1) a s2 p2 x2):Go tb prog w n₀ ann (.ask k) ⟨ht,gens,drawn,toks,os⟩ p x a s2 p2 x2:=
 .one (λK H d e B c=>⟨nQ _,rfl,rfl⟩) h
theorem Go.fresh{k:dz->bA J}(h:Go tb prog w n₀ ann (k toks) ⟨ht,gens,drawn,toks+1,os⟩ p (x+1) a s2 p2 x2):Go tb prog w n₀ ann (.fresh k) ⟨ht,gens,drawn,toks,os⟩ p x a s2 p2 x2:=
 .one (λK H d e B c=>⟨nQ _,rfl,rfl⟩) h
theorem Go.alloc{o:bK}{k:aJ->bA J}(h:Go tb prog w n₀ ann (k ht.objs.size) ⟨ht.push o,gens,drawn,toks,os⟩ p (x+1) a s2 p2 x2):Go tb prog w n₀ ann (.alloc o k) ⟨ht,gens,drawn,toks,os⟩ p x a s2 p2 x2:=
 .one (λK H d e B c=>⟨nQ _,rfl,rfl⟩) h
theorem Go.load{d:aJ}{part:Option aI}{k:bK->bA J}{o:bK}(e:ht.get? d=some o)(h:Go tb prog w n₀ ann (k o) ⟨ht,gens,drawn,toks,os⟩ p (x+1) a s2 p2 x2):Go tb prog w n₀ ann (.load d part k) ⟨ht,gens,drawn,toks,os⟩ p x a s2 p2 x2:=
 .one (λK H f g B c=>⟨nQ _,rfl,by simp only[Sem.wrap,step,e]⟩) h
theorem Go.update{d:aJ}{part:Option aI}{f:bK->bK}{k:Unit->bA J}{o:bK}(hd:n₀<=d)(e:ht.get? d=some o)(h:Go tb prog w n₀ ann (k ()) ⟨ht.update d f,gens,drawn,toks,os⟩ p (x+1) a s2 p2 x2):Go tb prog w n₀ ann (.update d part f k) ⟨ht,gens,drawn,toks,os⟩ p x a s2 p2 x2:=
 .one (λK H g i B c=>⟨nQ _,by simp only[Sem.wrap,stepOk,fg];exact⟨rfl,by rw[Nat.ble_eq_true_of_le hd];rfl⟩,by simp only[Sem.wrap,step,e,acK,if_true]⟩) h
end
abbrev dZ(w:aZ){J:Type}(m:bA J)(s:aL)(p:br)(b:Nat)(a:J)(D:aL)(d:br)(c:Nat):Prop:=Go fF pw w 11 fP m s p b a D d c
section
variable{w:aZ}{J β:Type}{x x1 x2:Nat}{p p1 p' p2:br}{s s1 s2:aL}{a:J}{b:β}
variable{ht:bh}{gens:Array Ci}{drawn:Drawn}{toks:Nat}{os:lD}
theorem EP(k:Int)(t:dz):specialOf (.int k t) "__hash__"=.pure (some (.builtin "int.__hash__")):=by kernel_rfl
theorem Na(k:Int)(t:dz):bindSpecial (.builtin "int.__hash__") (.int k t)=.pure (.builtin "int.__hash__",[.int k t]):=by kernel_rfl
theorem wh{tb:String->Option Builtin}{c:rj}{d:Nat}{e:Option aI}{t f:Thread}{N:Nat}(h1:through t=false)(h2:stepOk d e t=true)(h3:step (denote tb) c w s t=.go s1 f):
  jb tb c w d e (N+1) s t=jb tb c w d e N s1 f:=by
 show(match through t with|true=>_|false=>_)=_;exact h1▸h2▸h3▸rfl
theorem YE(k:Nat)(t:dz):denote fF (.call (.builtin "int.__hash__") ⟨[.int (et k) t],[]⟩)=.pure (.again (.builtin "int.__hash__" ⟨[.int (et k) t],[]⟩)):=by kernel_rfl
theorem W5(k:Nat)(t:dz):denote fF (.builtin "int.__hash__" ⟨[.int (et k) t],[]⟩)=.fresh λu=>.pure (.done (.ret (.int (rl (et k)) u))):=by kernel_rfl
theorem acg(k:Nat)(t:dz)(N:Nat)(g:Bool)(l:List aI)(d:o0->bA Fin)(c:Code)(B:List rk):
  jb fF pw w 11 fP (N+4) ⟨ht,gens,drawn,toks,os⟩ ⟨.call (.call (.builtin "int.__hash__") ⟨[.int (et k) t],[]⟩) none g l d,c,p,B⟩
   = jb fF pw w 11 fP N ⟨ht,gens,drawn,toks+1,os⟩ ⟨d (.ok (.ret (.int (rl (et k)) toks))),c,p,B⟩:=by
 rw[wh (by exact nQ _) rfl rfl];rw[YE,wh (by exact Cj _) (by kernel_rfl) (step_again ..),W5,wh (by exact nQ _) (by kernel_rfl) rfl,wh (by exact Cj _) (by kernel_rfl) rfl]
theorem Go.callv {f v:aI} {args:List aI} (h:∀ (N:Nat) (g:Bool) (l:List aI) (d:o0->bA Fin) (c:Code) (B:List rk),
  jb fF pw w 11 fP (N+4) s ⟨.call (.call f ⟨args,[]⟩) none g l d,c,p,B⟩=jb fF pw w 11 fP N s1 ⟨d (.ok (.ret v)),c,p1,B⟩):dZ w (call f args) s p x v s1 p1 (x+4):=by
 refine(aS 4 (cu _) (λK H e i B c N r q=>?_));rw[rg];exact(h N _ _ _ c B).trans q
theorem M3(k:Nat)(t:dz):dZ w (pyHash (.int (et k) t)) ⟨ht,gens,drawn,toks,os⟩ p x (iH (et k)) ⟨ht,gens,drawn,toks+1,os⟩ p (x+5):=by
 have d:=rawHash_range (et k);unfold pyHash pyHashByItsType;refine Go.bind (a:=()) (b:=iH (et k)) .pure ?_;rw[EP];refine Go.bind .pure ?_;rw[if_neg (by rw[beq_builtin_none];exact o5)];refine Go.bind .pure (Go.bind (a:=some (.int (rl (et k)) toks)) (s1:=⟨ht,gens,drawn,toks+1,os⟩) (p1:=p) (x1:=x+5) ?_ ?_)
 ·unfold callSpecialIfBoundUnlessNone?;refine .holding (Go.bind (a:=some (.builtin "int.__hash__",[.int (et k) t])) (s1:=⟨ht,gens,drawn,toks,os⟩) (p1:=p) (x1:=x+1) ?_ ?_)
  ·unfold bindSpecialIfBound?;rw[EP];refine Go.bind .pure (Go.ask ?_);show dZ w (if _ then _ else _) _ _ _ _ _ _ _;rw[Na];split
   ·exact .pure
   ·exact .pure
  ·show dZ w (if _ then _ else _) _ _ _ _ _ _ _;rw[if_neg (by intro h;cases h)];exact Go.bind (Go.callv λN g l e c B=>acg k t N g l e c B) .pure
 ·show dZ w (if (decide (-(2:Int)^63<=rl (et k))&&decide (rl (et k)<2^63))=true then _ else _) _ _ _ _ _ _ _;rw[if_pos (by rw[decide_eq_true d.1,decide_eq_true d.2];rfl)];exact .pure
end
section
variable{w:aZ}{J β:Type}{c c1:Nat}{p p1 p' p2:br}{s s1 s2:aL}{a:J}{b:β}
variable{ht:bh}{gens:Array Ci}{drawn:Drawn}{toks:Nat}{os:lD}
theorem F8{h:bh}{d:aJ}{o:bK}(f:h.get? d=some o):h.objs[d]?=some o:=by
 delta Heap.get? at f
 revert f;generalize h.objs[d]?=q;intro f;cases q with
 |none=>exact nomatch f
 |some x=>cases x with
  |mk c e y s=>cases y with
   |freed=>exact nomatch f
   |_=>exact f
noncomputable def dO(d:List cW)(n:Nat):bK:={cls:=.type "dict",data:=.dict d.toArray n}
theorem Go.ld{d:aJ}{part:Option aI}{o:bK}(e:ht.get? d=some o):dZ w (loadPart d part) ⟨ht,gens,drawn,toks,os⟩ p c o ⟨ht,gens,drawn,toks,os⟩ p (c+1):=.load e .pure
theorem RA{n:Nat}{f:Nat->Option Int}{h:Int}(d:∀ i,i<n->f i≠some h):placesWithHash n f h=[]:=by
 unfold placesWithHash;refine Ji.mpr ?_;intro i hi;simpa using d i (eu.mp hi)
theorem DE{d:aJ}{f:List cW}{n:Nat}(g:ht.get? d=some (dO f n)){k:Int}{t:dz}{h:Int}(j:∀ e∈f,e.hash≠h):
  dZ w (dictFind d (.int k t) h) ⟨ht,gens,drawn,toks,os⟩ p c none ⟨ht,gens,drawn,toks,os⟩ p (c+1):=by
 unfold dictFind;refine .holding (Go.bind (a:=f.toArray) (Go.bind (Go.ld g) .pure) ?_);dsimp only;rw[RA (λi hi=>by
  rw[acL hi,mB];intro e;exact j _ (by simpa using Array.getElem_mem hi) (bw e))]
 exact .pure
theorem abo{h:bh}{d:aJ}{o:bK}{f g:bK->bK}(k:h.get? d=some o)(e:f o=g o):h.update d f=h.update d g:=by
 have hd:h.objs[d]?=some o:=F8 k;obtain⟨j,l⟩:=h;show(⟨j.modify d f,l⟩:bh)=⟨j.modify d g,l⟩;congr 1;refine t7 λi=>?_;rw[nR,nR];split
 ·next q=>subst q;change j[d]?=some o at hd;refine hd▸?_;simp[e]
 ·rfl
noncomputable def ib(d:List cW)(n:Nat)(e:cW):bK->bK:=λ_=>dO (d++[e]) (n+1)
theorem ab7{ht:bh}{d:aJ}{part:Option aI}{e:List cW}{n:Nat}(f:ht.get? d=some (dO e n))(g:e.length<=1000):
  dZ w (lookBehind d part) ⟨ht,gens,drawn,toks,os⟩ p c () ⟨ht,gens,drawn,toks,os⟩ p (c+1):=by
 unfold lookBehind;refine Go.bind (Go.ld f) ?_;have:(dO e n).data.pastItsLine=none:=by
  show(if e.toArray.size>kF+1 then some "dict:memory" else none)=none;exact(if_neg (by rw[eY];unfold kF;exact Vc g))
 exact this▸.pure
theorem Dq{d:aJ}{part:Option aI}{f:List cW}{n:Nat}{e:cW}(g:ht.get? d=some (dO f n))(hd:11<=d)(h:f.length<1000):
  dZ w (updateDictKeys d (·.push e) part) ⟨ht,gens,drawn,toks,os⟩ p c () ⟨ht.update d (ib f n e),gens,drawn,toks,os⟩ p (c+3):=by
 unfold updateDictKeys;refine Go.bind (Go.ld g) (Go.bind (a:=()) (s1:=⟨ht.update d (ib f n e),gens,drawn,toks,os⟩) (p1:=p) (x1:=c+2) ?_ ?_)
 ·exact(show ht.update d (ib f n e)=ht.update d (Obj.mapDictKeys (·.push e))from abo g (congrArg (λl=>Obj.mk (.type "dict") none (.dict l (n+1)) #[]) (List.push_toArray ..).symm))▸(Go.update hd g .pure)
 ·exact ab7 (o6 _ g rfl) (by simp;exact(acH h))
theorem Ib{d:aJ}{f:List cW}{n:Nat}(g:ht.get? d=some (dO f n))(hd:11<=d)(h:f.length<1000){k:Nat}{t:dz}{v:aI}(i:∀ e∈f,e.hash≠iH (et k)):
  dZ w (t8 d (.int (et k) t) v) ⟨ht,gens,drawn,toks,os⟩ p c () ⟨ht.update d (ib f n ⟨iH (et k),.int (et k) t,v⟩),gens,drawn,toks+1,os⟩ p (c+10):=by
 unfold t8;refine .holding (Go.bind (M3 k t) ?_);unfold dictSetHashed;refine .holding (Go.bind (DE g i) ?_);dsimp only;exact Go.bind (Go.rule .pure) (Dq g hd h)
theorem WP{d:aJ}{f:List cW}{n:Nat}(g:ht.get? d=some (dO f n))(hd:11<=d)(i:f.length<1000){k:Int}{h:Int}{t:dz}{v:aI}(j:∀ e∈f,e.hash≠h):
  dZ w (xM d h (.int k t) v) ⟨ht,gens,drawn,toks,os⟩ p c () ⟨ht.update d (ib f n ⟨h,.int k t,v⟩),gens,drawn,toks,os⟩ p (c+4):=by
 unfold xM;refine Go.bind (DE g j) ?_;dsimp only;exact Dq g hd i
structure Mc (w:aZ) (kv:bA aI×bA aI) (k:Nat) (x:Str) (q:br):Prop where
 key:∀ ht gens drawn toks os p c,dZ w kv.1 ⟨ht,gens,drawn,toks,os⟩ p c (.int (et k) toks) ⟨ht,gens,drawn,toks+1,os⟩ p (c+1)
 val:∀ ht gens drawn toks os p c,dZ w kv.2 ⟨ht,gens,drawn,toks,os⟩ p c (.str x toks) ⟨ht,gens,drawn,toks+1,os⟩ q (c+2)
noncomputable def gm(k:Nat)(x:Str)(t:Nat):cW:=⟨iH (et k),.int (et k) t,.str x (t+1)⟩
noncomputable def ew:List (Nat×Str)->Nat->List cW
 |[],_=>[]
 |(k,x)::l,t=>gm k x t::ew l (t+3)
theorem BB{t:Nat}:ew [] t=[]:=rfl
theorem zm{p:Nat×Str}{l:List (Nat×Str)}{t:Nat}:ew (p::l) t=gm p.1 p.2 t::ew l (t+3):=rfl
def Apart:List cW->List (Nat×Str)->Prop
 |_,[]=>True
 |d,(k,x)::l=>(∀ e∈d,e.hash≠iH (et k))/\∀ t,Apart (d++[gm k x t]) l
inductive gw (w:aZ) (q:br):List (bA aI×bA aI)->List (Nat×Str)->Prop
 |nil:gw w q [] []
 |cons {kv l k x m}:Mc w kv k x q->gw w q l m->gw w q (kv::l) ((k,x)::m)
theorem gw.length{q:br}{l:List (bA aI×bA aI)}{m:List (Nat×Str)}(h:gw w q l m):l.length=m.length:=by
 induction h with
 |nil=>rfl
 |cons _ _ d=>simp[d]
theorem zG(h:bh)(d:aJ)(a b:bK):(h.update d λ_=>a).update d (λ_=>b)=h.update d λ_=>b:=by
 obtain⟨e,l⟩:=h;show(⟨(e.modify d _).modify d _,l⟩:bh)=⟨e.modify d _,l⟩;congr 1;refine t7 λi=>?_;rw[nR,nR,nR];split
 ·cases e[i]?<;>rfl
 ·rfl
theorem Bd{h:bh}{d:aJ}{o:bK}(f:h.get? d=some o):h.update d (λ_=>o)=h:=by
 have hd:h.objs[d]?=some o:=F8 f;obtain⟨e,l⟩:=h;show(⟨e.modify d _,l⟩:bh)=⟨e,l⟩;congr 1;refine t7 λi=>nR▸?_;split
 ·next q=>subst q;change e[d]?=some o at hd;refine hd▸?_;rfl
 ·rfl
theorem ace{d:aJ}(hd:11<=d){q:br}{l:List (bA aI×bA aI)}{m:List (Nat×Str)}(h:gw w q l m):∀ (e:List cW) (n:Nat) (ht:bh) (toks:Nat) (p:br) (c:Nat),
  ht.get? d=some (dO e n)->e.length+m.length<=1000->Apart e m->dZ w (forIn l kG λ(o:bA aI×bA aI) _=>do
    let k <- o.1;let v <- js [k] o.2
    js [k,v] (t8 d k v)
    pure (kH kG)) ⟨ht,gens,drawn,toks,os⟩ p c kG ⟨ht.update d (λ_=>dO (e++ew m toks) (n+m.length)),gens,drawn,toks+3*m.length,os⟩ (if m.isEmpty then p else q) (c+13*m.length):=by
 induction h with
 |nil=>
  intro e n ht toks p c i j f;rw[Ck];simp only[BB,zm,gW,iJ,tZ,Cm,Bd i];exact .pure
 |@cons o l k x m t y u=>
  intro e n ht toks p c i j f;have r:e.length<1000:=by simp only[cK]at j;exact zR j
  have g:=u (e++[gm k x toks]) (n+1) (ht.update d (ib e n (gm k x toks))) (toks+3) q (c+13) (o6 _ i rfl) (by simp only[cU,cK,iJ]at j ⊢;lia) (f.2 toks);rw[rm];refine Go.bind (Go.bind (t.key ..) (Go.bind (Go.holding (t.val ..)) (Go.bind (Go.holding (Ib i hd r f.1)) .pure))) ?_;dsimp only;unfold ib at g;rw[zG,ite_self]at g;simp only[BB,zm,eO,ro,cK,acM,jc,if_false]at g ⊢;refine(show n+(m.length+1)=n+1+m.length by lia)▸(show toks+3*(m.length+1)=toks+3+3*m.length by lia)▸(show c+13*(m.length+1)=c+13+13*m.length by exact Rx)▸?_;unfold ib;exact g
theorem FA{q:br}{l:List (bA aI×bA aI)}{m:List (Nat×Str)}(h:gw w q l m)(f:15<m.length)(k:m.length<=1000)(n:11<=ht.objs.size)(j:Apart [] m):
  dZ w (t9 l) ⟨ht,gens,drawn,toks,os⟩ p c ht.objs.size ⟨ht.push (dO (ew m toks) m.length),gens,drawn,toks+3*m.length,os⟩ q (c+2+13*m.length):=by
 unfold t9;refine Go.bind (Go.alloc .pure) (Go.bind (a:=()) (s1:=⟨ht.push (dO (ew m toks) m.length),gens,drawn,toks+3*m.length,os⟩) (p1:=q) (x1:=c+2+13*m.length) ?_ .pure);refine .holding ?_;rw[if_neg (by rw[h.length];exact(Nat.not_le_of_lt f))];refine Go.bind (Go.rule .pure) ?_;have o:(ht.push (dO [] 0)).get? ht.objs.size=some (dO [] 0):=dx _ rfl;have g:=ace (w:=w) (gens:=gens) (drawn:=drawn) (os:=os) n h [] 0 _ toks p (c+2) o (by simpa using k) j;have e:(ht.push (dO [] 0)).update ht.objs.size (λ_=>dO ([]++ew m toks) (0+m.length))=ht.push (dO (ew m toks) m.length):=by
  obtain⟨d,l⟩:=ht;show(⟨(d.push _).modify d.size _,l⟩:bh)=⟨d.push _,l⟩;congr 1;refine t7 λi=>nR▸?_;by_cases q:d.size=i
  ·subst q;simp
  ·rw[if_neg q,ua,ua,if_neg (Ne.symm q),if_neg (Ne.symm q)]
 replace g:=e▸g;have r:(if m.isEmpty then p else q)=q:=by cases m with
  |nil=>cases f
  |cons=>rfl
 replace g:=r▸g;exact Go.bind g .pure
theorem Fe{d:aJ}{e:List cW}{n:Nat}(f:ht.get? d=some (dO e n)):dZ w (typeOf (.ref d)) ⟨ht,gens,drawn,toks,os⟩ p c (.type "dict") ⟨ht,gens,drawn,toks,os⟩ p (c+1):=
 Go.bind (Go.load f .pure) .pure
theorem M5:isSubtype (.type "dict") (.type "dict")=.pure true:=by kernel_rfl
theorem NM:typeLookup (.type "dict") "__iter__"=.pure (some (.builtin "dict.__iter__")):=by kernel_rfl
theorem yM{d:aJ}{part:Option aI}{e:List cW}{n:Nat}(f:ht.get? d=some (dO e n)):dZ w (dictEntries d part) ⟨ht,gens,drawn,toks,os⟩ p c e.toArray ⟨ht,gens,drawn,toks,os⟩ p (c+1):=
 Go.bind (Go.ld f) .pure
theorem GV{d:aJ}{part:Option aI}{e:List cW}{n:Nat}(f:ht.get? d=some (dO e n)):dZ w (dictEpoch d part) ⟨ht,gens,drawn,toks,os⟩ p c n ⟨ht,gens,drawn,toks,os⟩ p (c+1):=
 Go.bind (Go.ld f) .pure
def rY:List cW->List cW->Prop
 |_,[]=>True
 |d,x::l=>(∃ k t,x.key=.int k t)/\(∀ e∈d,e.hash≠x.hash)/\rY (d++[x]) l
theorem Su{d a:aJ}(hd:11<=d)(q:d≠a){n':Nat}:∀ (post pre f:List cW) (n:Nat) (ht:bh) (c:Nat),ht.get? d=some (dO f n)->ht.get? a=some (dO (pre++post) n')->
  f.length+post.length<=1000->rY f post->dZ w (forIn (Cn pre.length post.length) kG λi (_:PUnit)=>do
    let A <- dictEntries a;match A[i]? with
    |some e=>do
     js [e.key,e.val] (if false=true then do
          let hit <- dictFind d e.key e.hash
          if hit.isSome=true then do
            rule "dict.merge.duplicate-key"
            let r <- newExc (.type "KeyError") [e.key]
            raiseNew r
            xM d e.hash e.key e.val
           else xM d e.hash e.key e.val
         else xM d e.hash e.key e.val)
     let B <- dictEpoch a
     if (B != n')=true then do
      unsupported "dict.changed-during-merge"
      pure (kH kG)
     else pure (kH kG)
    |_=>do
     unsupported "dict.changed-during-merge"
     pure (kH kG)) ⟨ht,gens,drawn,toks,os⟩ p c kG ⟨ht.update d (λ_=>dO (f++post) (n+post.length)),gens,drawn,toks,os⟩ p (c+6*post.length):=by
 intro u;induction u with
 |nil=>
  intro pre f n ht c l v m o;rw[iJ,List.range'_zero,Ck];simp only[gW,tZ,Cm,Bd l];exact .pure
 |cons x post y=>
  intro pre f n ht c l v m o;refine aQ λC=>bO o λD E o=>?_;obtain⟨k,t,hk⟩:=D;refine C ?_;have z:f.length<1000:=by simp only[cK]at m;exact zR m
  rw[cK,Co,rm];have j:(ht.update d (ib f n x)).get? a=some (dO (pre++x::post) n'):=by rw[Heap.get?_update_other _ _ q];exact v
  have g:=y (pre++[x]) (f++[x]) (n+1) (ht.update d (ib f n x)) (c+6) (o6 _ l rfl)
   (by rw[eO,ro];exact j) (by simp only[cU,cK,iJ]at m ⊢;lia) o
  refine Go.bind (a:=kH kG) (s1:=⟨ht.update d (ib f n x),gens,drawn,toks,os⟩) (p1:=p) (x1:=c+6) ?_ ?_
  ·refine Go.bind (yM v) ((show(pre++x::post).toArray[pre.length]?=some x by simp)▸?_);dsimp only;refine Go.bind (a:=()) (s1:=⟨ht.update d (ib f n x),gens,drawn,toks,os⟩) (p1:=p) (x1:=c+5) (Go.holding ?_) (Go.bind (GV j) ?_)
   ·obtain⟨h,key,val⟩:=x;subst hk;rw[if_neg (by simp)];exact WP l hd z E
   ·rw[if_neg (by simp)];exact .pure
  ·dsimp only;unfold ib at g;rw[zG,eO,ro,cU,List.length_singleton]at g;refine(show n+(post.length+1)=n+1+post.length by lia)▸(show c+6*(post.length+1)=c+6+6*post.length by exact NG)▸?_;unfold ib;exact g
theorem Sw{d:aJ}{e:List cW}{n:Nat}(f:ht.get? d=some (dO e n)):dZ w (isInstance (.ref d) (.type "dict")) ⟨ht,gens,drawn,toks,os⟩ p c true ⟨ht,gens,drawn,toks,os⟩ p (c+1):=by
 unfold isInstance;refine Go.bind (Fe f) ?_;refine M5▸?_;exact .pure
theorem Ut{d:aJ}{e:List cW}{n:Nat}(f:ht.get? d=some (dO e n)):dZ w (specialOf (.ref d) "__iter__") ⟨ht,gens,drawn,toks,os⟩ p c (some (.builtin "dict.__iter__")) ⟨ht,gens,drawn,toks,os⟩ p (c+1):=by
 unfold specialOf;refine Go.bind (Fe f) ?_;refine NM▸?_;exact .pure
theorem EF{d a:aJ}(hd:11<=d)(f:a≠rp)(i:d≠a){e post:List cW}{n n':Nat}(k:ht.get? d=some (dO e n))(h:ht.get? a=some (dO post n'))
  (j:e≠[]) (l:e.length+post.length<=1000) (m:rY e post) :
  dZ w (Jj d (.ref a) false) ⟨ht,gens,drawn,toks,os⟩ p c () ⟨ht.update d (λ_=>dO (e++post) (n+post.length)),gens,drawn,toks,os⟩ p (c+5+6*post.length):=by
 unfold Jj;refine Go.bind (Sw h) ?_;rw[if_pos rfl];refine Go.bind (Ut h) (Go.bind (a:=true) (by rw[show(some (Jk "dict.__iter__")==some (Jk "dict.__iter__"))=true by simp];exact .pure) ?_);dsimp only;rw[if_neg (by simpa using f)];refine Go.bind (yM k) ?_;rw[if_neg (by cases e with|nil=>exact absurd rfl j|cons=>simp)];refine Go.bind (yM h) (Go.bind (GV h) ?_);have g:=Su (w:=w) (gens:=gens) (drawn:=drawn) (toks:=toks) (os:=os) (p:=p) hd i (n':=n') post [] e n ht (c+5) k h l m;rw[iJ,<- acN]at g;rw[eY];exact Go.bind g .pure
noncomputable def vals2:List (Nat×Str)->Nat->List (aI×aI)
 |[],_=>[]
 |(k,x)::l,t=>(.int (et k) t,.str x (t+1))::vals2 l (t+2)
theorem yv{t:Nat}:vals2 [] t=[]:=rfl
theorem By{p:Nat×Str}{l:List (Nat×Str)}{t:Nat}:vals2 (p::l) t=(.int (et p.1) t,.str p.2 (t+1))::vals2 l (t+2):=rfl
noncomputable def fO:List (Nat×Str)->Nat->List cW
 |[],_=>[]
 |(k,x)::l,t=>gm k x t::fO l (t+2)
theorem Aw{t:Nat}:fO [] t=[]:=rfl
theorem yw{p:Nat×Str}{l:List (Nat×Str)}{t:Nat}:fO (p::l) t=gm p.1 p.2 t::fO l (t+2):=rfl
theorem Sv{q:br}{l:List (bA aI×bA aI)}{m:List (Nat×Str)}(h:gw w q l m):∀ (ht:bh) (toks:Nat) (p:br) (c:Nat),
  dZ w (Cp l) ⟨ht,gens,drawn,toks,os⟩ p c (vals2 m toks) ⟨ht,gens,drawn,toks+2*m.length,os⟩ (if m.isEmpty then p else q) (c+3*m.length):=by
 induction h with
 |nil=>intro ht toks p c;exact .pure
 |@cons f l k x m d i e=>
  intro ht toks p c;have g:=e ht (toks+2) q (c+3);rw[ite_self]at g;unfold Cp;simp only[yv,By,cK,acM,jc,if_false];rw[show toks+2*(m.length+1)=toks+2+2*m.length by lia,show c+3*(m.length+1)=c+3+3*m.length by exact U8];exact Go.bind (d.key ..) (Go.bind (Go.holding (d.val ..)) (Go.bind (Go.holding g) .pure))
theorem go_short{d:aJ}(hd:11<=d):∀ (m:List (Nat×Str)) (f:Nat) (e:List cW) (n:Nat) (ht:bh) (toks:Nat) (p:br) (c:Nat),
  ht.get? d=some (dO e n)->e.length+m.length<=1000->Apart e m->dZ w (forIn (vals2 m f) kG λ(o:aI×aI) _=>do
    t8 d o.1 o.2
    pure (kH kG)) ⟨ht,gens,drawn,toks,os⟩ p c kG ⟨ht.update d (λ_=>dO (e++fO m f) (n+m.length)),gens,drawn,toks+m.length,os⟩ p (c+10*m.length):=by
 intro m;induction m with
 |nil=>
  intro f e n ht toks p c i j h;simp only[yv,By,Ck,Aw,yw,gW,iJ,tZ,Cm,Bd i];exact .pure
 |cons q m r=>
  obtain⟨k,x⟩:=q;intro f e n ht toks p c i j h;have l:e.length<1000:=by simp only[cK]at j;exact zR j
  have g:=r (f+2) (e++[gm k x f]) (n+1) (ht.update d (ib e n (gm k x f))) (toks+1) p (c+10) (o6 _ i rfl) (by simp only[cU,cK,iJ]at j ⊢;lia) (h.2 f);simp only[yv,By,rm];refine Go.bind (Go.bind (Ib i hd l h.1) .pure) ?_;dsimp only;unfold ib at g;rw[zG]at g;simp only[Aw,yw,eO,ro,cK]at g ⊢;rw[show n+(m.length+1)=n+1+m.length by lia,show toks+(m.length+1)=toks+1+m.length by lia,show c+10*(m.length+1)=c+10+10*m.length by exact Lg];unfold ib;exact g
theorem UD(ht:bh)(a b:bK):(ht.push a).update ht.objs.size (λ_=>b)=ht.push b:=by
 obtain⟨d,l⟩:=ht;show(⟨(d.push _).modify d.size _,l⟩:bh)=⟨d.push _,l⟩;congr 1;refine t7 λi=>?_;rw[nR];by_cases q:d.size=i
 ·subst q;simp
 ·rw[if_neg q,ua,ua,if_neg (Ne.symm q),if_neg (Ne.symm q)]
theorem SW{q:br}{l:List (bA aI×bA aI)}{m:List (Nat×Str)}(h:gw w q l m)(d:m.length<=15)(e:m≠[])(i:11<=ht.objs.size)(f:Apart [] m):
  dZ w (t9 l) ⟨ht,gens,drawn,toks,os⟩ p c ht.objs.size ⟨ht.push (dO (fO m toks) m.length),gens,drawn,toks+3*m.length,os⟩ q (c+1+13*m.length):=by
 unfold t9;refine Go.bind (Go.alloc .pure) (Go.bind (a:=()) (s1:=⟨ht.push (dO (fO m toks) m.length),gens,drawn,toks+3*m.length,os⟩) (p1:=q) (x1:=c+1+13*m.length) ?_ .pure);refine .holding ?_;rw[if_pos (by rw[h.length];exact Ks d)];have g1:=Sv (w:=w) (gens:=gens) (drawn:=drawn) (os:=os) h (ht.push (dO [] 0)) toks p (c+1);rw[if_neg (by cases m with|nil=>exact absurd rfl e|cons=>simp)]at g1;refine Go.bind g1 (.holding ?_);have j:(ht.push (dO [] 0)).get? ht.objs.size=some (dO [] 0):=dx _ rfl;have g:=go_short (w:=w) (gens:=gens) (drawn:=drawn) (os:=os) i m toks [] 0 _ (toks+2*m.length) q (c+1+3*m.length) j (by simp only[iJ];exact X2 d) f;rw[UD,eE,xJ,show toks+2*m.length+m.length=toks+3*m.length by exact X3,show c+1+3*m.length+10*m.length=c+1+13*m.length by exact ab3]at g;exact Go.bind g .pure
noncomputable abbrev so(x:bA aI×bA aI):Option (bA aI)×bA aI:=(some x.1,x.2)
theorem F3(f:(Option (bA aI)×bA aI)->(Option aJ×List (bA aI×bA aI))->bA (ForInStep (Option aJ×List (bA aI×bA aI))))(jL:List (bA aI×bA aI)->Option aJ->bA (Option aJ))
  (h1:∀ x d run,run.length+1<17->f (so x) (d,run)=pure (.yield (d,run++[x])))
  (h2:∀ x d run,run.length+1=17->f (so x) (d,run)=(jL (run++[x]) d >>= λm=>pure (.yield (m,[])))) (rest:List (bA aI×bA aI)) (d:Option aJ) :
  ∀ (c run:List (bA aI×bA aI)),c≠[]->run.length+c.length=17->forIn ((c++rest).map so) (d,run) f=(jL (run++c) d >>= λm=>forIn (rest.map so) (m,[]) f):=by
 intro g;induction g with
 |nil=>
  intro _ h _;exact absurd rfl h
 |cons x c i=>
  intro run _ e;rw[rq,cB,rm];simp only[cK]at e;cases c with
  |nil=>
   rw[h2 x d run (by simpa using e),xN];simp only[xO,eE]
  |cons y c=>
   simp only[cK]at e;rw[h1 x d run (Zq e),xO];dsimp only;rw[i (run++[x]) (by simp) (by simp only[cU,cK,iJ];exact ZU e),eO,ro]
theorem aal(f:(Option (bA aI)×bA aI)->(Option aJ×List (bA aI×bA aI))->bA (ForInStep (Option aJ×List (bA aI×bA aI))))
  (h1:∀ x d run,run.length+1<17->f (so x) (d,run)=pure (.yield (d,run++[x]))) (d:Option aJ) :
  ∀ (c run:List (bA aI×bA aI)),run.length+c.length<17->forIn (c.map so) (d,run) f=pure (d,run++c):=by
 intro e;induction e with
 |nil=>
  intro run _;simp
 |cons x c g=>
  intro run h;simp only[cK]at h;rw[cB,rm,h1 x d run (Y5 h),xO];have:=g (run++[x]) (by simp only[cU,cK,iJ];exact Xi h);simpa using this
theorem gw.split{q:br}:∀ {l:List (bA aI×bA aI)} {e d:List (Nat×Str)},gw w q l (e++d)->∃ l1 l2,l=l1++l2/\gw w q l1 e/\gw w q l2 d:=by
 intro f g;revert f;induction g with
 |nil=>
  intro l d h;exact(cE [] l rfl .nil h)
 |cons x e i=>
  intro _ d h;cases h with
  |cons j k=>
   refine aQ λm=>bG (i k) λl1 l2 n h1 h2=>?_;subst n;exact m (cE (_::l1) l2 rfl (.cons j h1) h2)
noncomputable def gO:Nat->List (Nat×Str)->Bool
 |_,[]=>true
 |lo,(k,_)::l=>jr lo k&&jr k 10000000&&gO (k+1) l
theorem Dv{t:Nat}:gO t []=true:=rfl
theorem H9{p:Nat×Str}{l:List (Nat×Str)}{lo:Nat}:gO lo (p::l)=(jr lo p.1&&jr p.1 10000000&&gO (p.1+1) l):=rfl
def Below(d:List cW)(lo:Nat):Prop:=∀ e∈d,e.hash<(lo:Int)
theorem FC{k:Nat}(h:k<=10000000):iH (et k)=(k:Int):=by
 have:rl (et k)=(k:Int):=by
  unfold rl;have h1:(et k).natAbs=k:=rfl;rw[h1];have h2:k%(2^61-1:Nat)=k:=Nat.mod_eq_of_lt (TH h);have h3:((k:Int)%((2^61-1:Nat):Int))=(k:Int):=by rw[<- Int.natCast_emod,h2]
  simp only[h3];have h4:¬(et k<0):=by have:(0:Int)<=et k:=nO k;exact(acx this)
  rw[if_neg h4];have h5:((k:Int)==-1)=false:=by
   rw[beq_eq_false_iff_ne];exact G5
  rw[h5];rfl
 unfold iH;rw[this];have h5:((k:Int)==-1)=false:=by
  rw[beq_eq_false_iff_ne];exact G5
 rw[h5];rfl
theorem vH{lo k:Nat}{x:Str}{l:List (Nat×Str)}(h:gO lo ((k,x)::l)=true):lo<=k/\k<=10000000/\gO (k+1) l=true:=by
 simp only[Dv,H9,fg,Cq]at h;exact⟨h.1.1,h.1.2,h.2⟩
theorem Below.cons{d:List cW}{lo k:Nat}{x:Str}(h:Below d lo)(h1:lo<=k)(h2:k<=10000000)(t:Nat):Below (d++[gm k x t]) (k+1):=by
 intro e f;rcases fQ.mp f with q|q
 ·have:=h e q;have h3:(lo:Int)<=(k:Int):=by exact_mod_cast h1
  have h4:((k+1:Nat):Int)=(k:Int)+1:=by norm_cast
  rw[h4];exact Sy h1 this
 ·rw[jd]at q;subst q;show iH (et k)<_;rw[FC h2]
  exact_mod_cast o7 k
theorem Below.ne{d:List cW}{lo k:Nat}(h:Below d lo)(h1:lo<=k)(h2:k<=10000000):∀ e∈d,e.hash≠iH (et k):=by
 intro e f q;have:=h e f;rw[q,FC h2]at this;have h3:(lo:Int)<=(k:Int):=by exact_mod_cast h1
 lia
theorem A3:∀ {m:List (Nat×Str)} {d:List cW} {lo:Nat},gO lo m=true->Below d lo->Apart d m:=by
 intro e;induction e with
 |nil=>
  intro _ _ _ _;exact trivial
 |cons f m g=>
  obtain⟨k,x⟩:=f;intro d lo h i;exact bO (vH h) λh1 h2 h3=>⟨i.ne h1 h2,λt=>g h3 (i.cons h1 h2 t)⟩
theorem aau:∀ {m:List (Nat×Str)} {d:List cW} {lo:Nat} (t:Nat),gO lo m=true->Below d lo->rY d (ew m t):=by
 intro e;induction e with
 |nil=>
  intro _ _ _ _ _;exact trivial
 |cons f m g=>
  obtain⟨k,x⟩:=f;intro d lo t h i;exact bO (vH h) λh1 h2 h3=>⟨(dA _ _ rfl),i.ne h1 h2,g _ h3 (i.cons h1 h2 t)⟩
theorem aaz:∀ {m:List (Nat×Str)} {d:List cW} {lo:Nat} (t:Nat),gO lo m=true->Below d lo->rY d (fO m t):=by
 intro e;induction e with
 |nil=>
  intro _ _ _ _ _;exact trivial
 |cons f m g=>
  obtain⟨k,x⟩:=f;intro d lo t h i;exact bO (vH h) λh1 h2 h3=>⟨(dA _ _ rfl),i.ne h1 h2,g _ h3 (i.cons h1 h2 t)⟩
theorem GS:∀ {e f:List (Nat×Str)} {lo:Nat},gO lo (e++f)=true->gO lo e=true/\∃ hi,lo<=hi/\gO hi f=true/\∀ (d:List cW) (t:Nat),Below d lo->Below (d++ew e t) hi:=by
 intro g;induction g with
 |nil=>
  intro f lo h;exact⟨rfl,(cI lo (cu _) h (λd t i=>(gW d).symm▸i))⟩
 |cons j e l=>
  obtain⟨k,x⟩:=j;intro f lo h;refine aQ λm=>bO (vH h) λh1 h2 h3=>u4 (l h3) λh4 hi h5 h6 n=>m ⟨(by simp only[Dv,H9,fg,Cq];exact⟨⟨h1,h2⟩,h4⟩),(cI hi (M0 h1 h5) h6 (λd t i=>?_))⟩;have:=n (d++[gm k x t]) (t+3) (i.cons h1 h2 t);rw[eO,ro]at this;exact this
theorem qy(m:List (Nat×Str)):∀ t,(ew m t).length=m.length:=by
 induction m with
 |nil=>intro t;rfl
 |cons x m d=>intro t;obtain⟨k,x⟩:=x;simp[BB,zm,d]
theorem Fu(m:List (Nat×Str)):∀ t,(fO m t).length=m.length:=by
 induction m with
 |nil=>intro t;rfl
 |cons x m d=>intro t;obtain⟨k,x⟩:=x;simp[Aw,yw,d]
noncomputable def hA(ht:bh)(e:List cW)(d:List bK):bh:=⟨(ht.objs.push (dO e e.length))++d.toArray,ht.life⟩
theorem Hd(ht:bh)(e:List cW)(d:List bK):(hA ht e d).get? ht.objs.size=some (dO e e.length):=by
 unfold hA Heap.get?;rw[xP (by simp),Jl];rfl
theorem uW(ht:bh)(e:List cW)(d:List bK):(hA ht e d).objs.size=ht.objs.size+1+d.length:=by
 unfold hA;simp;exact GC
theorem xl(ht:bh)(e:List cW)(d:List bK)(o:bK):(hA ht e d).push o=hA ht e (d++[o]):=by
 unfold hA Heap.push;simp
theorem G8(ht:bh)(g e:List cW)(d:List bK):(hA ht g d).update ht.objs.size (λ_=>dO e e.length)=hA ht e d:=by
 unfold hA;show(⟨_,_⟩:bh)=⟨_,_⟩;congr 1;refine t7 λi=>?_;rw[nR];by_cases q:ht.objs.size=i
 ·subst q;rw[if_pos rfl,xP (by simp),xP (by simp),Jl,Jl];rfl
 ·rw[if_neg q];by_cases f:i<ht.objs.size+1
  ·rw[xP (by simpa using f),xP (by simpa using f),ua,ua,if_neg (Ne.symm q),if_neg (Ne.symm q)]
  ·rw[acO (by simp;exact EI f),acO (by simp;exact EI f)];simp
noncomputable def jL(run:List (bA aI×bA aI))(e:Option aJ):bA (Option aJ):=do
 if run.isEmpty then return e
 match e with
 |none=>return some (<- t9 run)
 |some d=>
  let sub <- holding [.ref d] (t9 run)
  (holding [.ref d,.ref sub] (Jj d (.ref sub) false)).onRaise λx=>do let _ <- holding [.ref d,x] (runValue (.builtin "proto.let_go" {}))
  return some d
theorem Oo{q:br}{l:List (bA aI×bA aI)}{m:List (Nat×Str)}{d:List cW}{subs:List bK}{lo:Nat}(h:gw w q l m)(f:15<m.length)(n:d.length+m.length<=1000)(i:11<=ht.objs.size)
  (j:d≠[]) (hi:gO lo m=true) (k:Below d lo) :
  dZ w (jL l (some ht.objs.size)) ⟨hA ht d subs,gens,drawn,toks,os⟩ p c (some ht.objs.size) ⟨hA ht (d++ew m toks) (subs++[dO (ew m toks) m.length]),gens,drawn,toks+3*m.length,os⟩ q (c+7+19*m.length):=by
 unfold jL;rw[if_neg (by cases h with|nil=>simp at f|cons=>simp)];dsimp only;have g:=FA (w:=w) (ht:=hA ht d subs) (gens:=gens) (drawn:=drawn) (os:=os) (toks:=toks) (p:=p) (c:=c) h f (acP n) (by rw[uW];exact IW i) (A3 hi (λe o=>by cases o));rw[xl]at g;refine Go.bind (Go.holding g) (Go.bind (a:=()) (x1:=c+7+19*m.length) (Go.onRaise (Go.holding ?_)) .pure);have hs:(hA ht d subs).objs.size=ht.objs.size+1+subs.length:=uW ..;have e:hA ht (d++ew m toks) (subs++[dO (ew m toks) m.length])=(hA ht d (subs++[dO (ew m toks) m.length])).update ht.objs.size (λ_=>dO (d++ew m toks) (d.length+(ew m toks).length)):=by
  rw[<- cU,G8]
 rw[e];refine(EF (c:=c+2+13*m.length) i ?_ ?_ (Hd ..) (n':=m.length) ?_ j (by rw[qy];exact n) (aau _ hi k)).mono (by rw[qy];exact NK)
 ·rw[hs];exact nS (ck (by decide) (bg i (Es)))
 ·rw[hs];show(ht.objs.size:Nat)≠ht.objs.size+1+subs.length;exact Gc
 ·rw[<- xl];exact dx _ rfl
theorem abp{q:br}{l:List (bA aI×bA aI)}{m:List (Nat×Str)}{d:List cW}{subs:List bK}{lo:Nat}(h:gw w q l m)(f:m.length<=15)(n:m≠[])(o:d.length+m.length<=1000)(i:11<=ht.objs.size)
  (j:d≠[]) (hi:gO lo m=true) (k:Below d lo) :
  dZ w (jL l (some ht.objs.size)) ⟨hA ht d subs,gens,drawn,toks,os⟩ p c (some ht.objs.size) ⟨hA ht (d++fO m toks) (subs++[dO (fO m toks) m.length]),gens,drawn,toks+3*m.length,os⟩ q (c+6+19*m.length):=by
 unfold jL;rw[if_neg (by cases h with|nil=>exact absurd rfl n|cons=>simp)];dsimp only;have g:=SW (w:=w) (ht:=hA ht d subs) (gens:=gens) (drawn:=drawn) (os:=os) (toks:=toks) (p:=p) (c:=c) h f n (by rw[uW];exact IW i) (A3 hi (λe r=>by cases r));rw[xl]at g;refine Go.bind (Go.holding g) (Go.bind (a:=()) (x1:=c+6+19*m.length) (Go.onRaise (Go.holding ?_)) .pure);have hs:(hA ht d subs).objs.size=ht.objs.size+1+subs.length:=uW ..;have e:hA ht (d++fO m toks) (subs++[dO (fO m toks) m.length])=(hA ht d (subs++[dO (fO m toks) m.length])).update ht.objs.size (λ_=>dO (d++fO m toks) (d.length+(fO m toks).length)):=by
  rw[<- cU,G8]
 rw[e];refine(EF (c:=c+1+13*m.length) i ?_ ?_ (Hd ..) (n':=m.length) ?_ j (by rw[Fu];exact o) (aaz _ hi k)).mono (by rw[Fu];exact Ws)
 ·rw[hs];exact nS (ck (by decide) (bg i (Es)))
 ·rw[hs];show(ht.objs.size:Nat)≠ht.objs.size+1+subs.length;exact Gc
 ·rw[<- xl];exact dx _ rfl
theorem Um{q:br}{l:List (bA aI×bA aI)}{m:List (Nat×Str)}(h:gw w q l m)(d:15<m.length)(f:m.length<=1000)(i:11<=ht.objs.size)(hi:gO 0 m=true):
  dZ w (jL l none) ⟨ht,gens,drawn,toks,os⟩ p c (some ht.objs.size) ⟨hA ht (ew m toks) [],gens,drawn,toks+3*m.length,os⟩ q (c+2+13*m.length):=by
 unfold jL;rw[if_neg (by cases h with|nil=>simp at d|cons=>simp)];dsimp only;have g:=FA (w:=w) (ht:=ht) (gens:=gens) (drawn:=drawn) (os:=os) (toks:=toks) (p:=p) (c:=c) h d f i (A3 hi (λe j=>by cases j));have e:ht.push (dO (ew m toks) m.length)=hA ht (ew m toks) []:=by unfold hA Heap.push;rw[qy];simp
 rw[e]at g;exact Go.bind g .pure
noncomputable def n9:List (List (Nat×Str))->Nat->List cW
 |[],_=>[]
 |m::d,t=>ew m t++n9 d (t+51)
theorem Da{t:Nat}:n9 [] t=[]:=rfl
theorem Ih{m:List (Nat×Str)}{d:List (List (Nat×Str))}{t:Nat}:n9 (m::d) t=ew m t++n9 d (t+51):=rfl
noncomputable def oR:List (List (Nat×Str))->Nat->List bK
 |[],_=>[]
 |m::d,t=>dO (ew m t) 17::oR d (t+51)
theorem Hl{t:Nat}:oR [] t=[]:=rfl
theorem Iu{m:List (Nat×Str)}{d:List (List (Nat×Str))}{t:Nat}:oR (m::d) t=dO (ew m t) 17::oR d (t+51):=rfl
theorem ab8(f:(Option (bA aI)×bA aI)->(Option aJ×List (bA aI×bA aI))->bA (ForInStep (Option aJ×List (bA aI×bA aI))))
  (h1:∀ x h run,run.length+1<17->f (so x) (h,run)=pure (.yield (h,run++[x])))
  (h2:∀ x h run,run.length+1=17->f (so x) (h,run)=(jL (run++[x]) h >>= λm=>pure (.yield (m,[])))) {q:br} (I:11<=ht.objs.size) {tail:List (Nat×Str)} (A:tail.length<=15) (B:tail≠[])
  (k:Option aJ×List (bA aI×bA aI)->bA aI) (hk:∀ h run,k (h,run)=(jL run h >>= λm=>match m with|some d=>pure (.ref d)|none=>newDict)) :
  ∀ (j:List (List (Nat×Str))) (l:List (bA aI×bA aI)) (n:List cW) (i:List bK) (lo toks:Nat) (p:br) (c:Nat),(∀ m∈j,m.length=17)->gw w q l (j.flatten++tail)->
   n.length+(j.flatten++tail).length<=1000->n≠[]->gO lo (j.flatten++tail)=true->Below n lo->
   dZ w (forIn (l.map so) ((some ht.objs.size:Option aJ),([]:List (bA aI×bA aI))) f >>= k) ⟨hA ht n i,gens,drawn,toks,os⟩ p c (.ref ht.objs.size)
    ⟨hA ht (n++n9 j toks++fO tail (toks+51*j.length)) (i++oR j toks++[dO (fO tail (toks+51*j.length)) tail.length]),gens,drawn,toks+51*j.length+3*tail.length,os⟩ q (c+330*j.length+6+19*tail.length):=by
 intro C;induction C with
 |nil=>
  intro l n i lo toks p c D v y o hi r;rw[aal f h1 _ l [] (by rw[v.length];simp;lia),xO,hk,eE];simp only[List.flatten_nil,eE]at v y hi;have g:=abp (w:=w) (ht:=ht) (gens:=gens) (drawn:=drawn) (os:=os) (toks:=toks) (p:=p) (c:=c) (subs:=i) v A B y I o hi r;simp only[Da,Ih,Hl,Iu,gW,iJ,Cm,tZ];exact(Go.bind g .pure)
 |cons m j E=>
  intro l n i lo toks p c D v y o hi r;rw[List.flatten_cons,eO]at v y hi;refine aQ λF=>bG v.split λl1 l2 K z G=>?_;subst K;refine F ?_;have t:m.length=17:=D m (Cr ..);have u:l1.length=17:=z.length.trans t;rw[cU]at y;refine aQ λF=>u4 (GS hi) λL H P M N=>F ?_;rw[F3 f jL h1 h2 l2 _ l1 [] (by intro e;rw[e]at u;cases u) (by simpa using u),eE,xN];have g:=Oo (w:=w) (ht:=ht) (gens:=gens) (drawn:=drawn) (os:=os) (toks:=toks) (p:=p) (c:=c) (subs:=i) z (by exact GY t) (abB y) I o L r;refine Go.bind g ?_;have g2:=E l2 (n++ew m toks) (i++[dO (ew m toks) m.length]) H (toks+3*m.length) q (c+7+19*m.length) (λx O=>D x (acQ _ O)) G
   (by rw[cU,qy];lia) (by simp[o]) M (N n toks r)
  rw[t]at g2 ⊢;simp only[Da,Ih,Hl,Iu,cK,eO,ro,rq]at g2 ⊢;rw[show toks+51*(j.length+1)=toks+3*17+51*j.length by lia,show c+330*(j.length+1)=c+7+19*17+330*j.length by exact Vs];exact g2
theorem LC{q:br}(z:11<=ht.objs.size){n:List (Nat×Str)}{j:List (List (Nat×Str))}{tail:List (Nat×Str)}{l:List (bA aI×bA aI)}(h0:n.length=17)(t:tail.length<=15)(u:tail≠[])(B:∀ m∈j,m.length=17)
  (C:gw w q l (n++(j.flatten++tail))) (A:(n++(j.flatten++tail)).length<=1000) (hi:gO 0 (n++(j.flatten++tail))=true) :
  dZ w (dictDisplay (l.map so)) ⟨ht,gens,drawn,toks,os⟩ p c (.ref ht.objs.size)
   ⟨hA ht (ew n toks++n9 j (toks+51)++fO tail (toks+51+51*j.length)) (oR j (toks+51)++[dO (fO tail (toks+51+51*j.length)) tail.length]),gens,drawn,toks+51+51*j.length+3*tail.length,os⟩ q (c+2+13*17+330*j.length+6+19*tail.length):=by
 refine aQ λD=>bG C.split λl1 l2 E r v=>?_;subst E;have o:l1.length=17:=r.length.trans h0;refine u4 (GS hi) λF y K G H=>D ?_;rw[cU]at A;unfold dictDisplay;dsimp only;rw[F3 _ jL (λx i run h=>by
   have d:((run++[(x.1,x.2)]).length==17)=false:=by simp;exact Di h
   simp only[d,jc,if_false]) (λx i run h=>by
   have d:((run++[(x.1,x.2)]).length==17)=true:=by simp;exact HO h
   simp only[d,if_true];rfl) l2 none l1 [] (by intro e;rw[e]at o;cases o) (by simpa using o),eE,xN]
 have g:=Um (w:=w) (ht:=ht) (gens:=gens) (drawn:=drawn) (os:=os) (toks:=toks) (p:=p) (c:=c) r (GY h0) (K7 h0) z F;refine Go.bind g ?_;have g2:=λf h1 h2 k hk=>ab8 (w:=w) (ht:=ht) (gens:=gens) (drawn:=drawn) (os:=os) f h1 h2 z t u k hk j l2 (ew n toks) [] y (toks+3*n.length) q (c+2+13*n.length) B v
   (by rw[qy];exact Uu A) (by intro e;have:=congrArg j9 e;rw[qy,h0]at this;cases this) G (H [] toks (λe I=>by cases I))
 rw[h0]at g2 ⊢;simp only[eE]at g2;refine g2 _ (λx i run h=>by
   have d:((run++[(x.1,x.2)]).length==17)=false:=by simp;exact Di h
   simp only[d,jc,if_false]) (λx i run h=>by
   have d:((run++[(x.1,x.2)]).length==17)=true:=by simp;exact HO h
   simp only[d,if_true];rfl) _ (λi run=>rfl)
theorem VT{e:Option iG}{k:Nat}(h:Dm e=some k):∃ n q,e=some (.Constant (.int (.ofNat k)) n q):=by
 cases e with
 |none=>exact bD h
 |some e=>cases e with
  |Constant c n q=>cases c with
   |int i=>cases i with
    |ofNat j=>exact(dA n q (bw h▸rfl))
    |negSucc=>exact bD h
   |_=>exact bD h
  |_=>exact bD h
theorem WV{e:iG}{x:Str}(h:Hm e=some x):∃ n q,e=.Constant (.str x) n q:=by
 cases e with
 |Constant c n q=>cases c with
  |str y=>exact(dA n q (bw h▸rfl))
  |_=>exact bD h
 |_=>exact bD h
theorem Zz(d:cz)(k:Nat)(n:Nat)(q:br):dZ w (eval (.Constant (.int (.ofNat k)) n q) d) ⟨ht,gens,drawn,toks,os⟩ p c (.int (et k) toks) ⟨ht,gens,drawn,toks+1,os⟩ p (c+1):=Go.fresh .pure
theorem LH(d:cz)(x:Str)(n:Nat)(q:br):dZ w (eval (.Constant (.str x) n q) d) ⟨ht,gens,drawn,toks,os⟩ p c (.str x toks) ⟨ht,gens,drawn,toks+1,os⟩ p (c+1):=Go.fresh .pure
theorem Z8(d:cz)(q:br):∀ (g:List (Option iG)) (f:List iG) (m:List (Nat×Str)),wF g f=some m->
  ∃ l,(evalEachOpt g d).zip ((evalEach f d).map λv=>do let x <- v;gJ q;pure x)=l.map so/\gw w q l m:=by
 intro i;induction i with
 |nil=>
  intro j;cases j with
  |nil=>
   intro m h;exact bw h▸(aS [] rfl .nil)
  |cons v f=>
   intro m h;exact bD (J:=List (Nat×Str)) h
 |cons E g o=>
  intro r;cases r with
  |nil=>
   intro m h;revert h;exact aX λ_ _=>bD
  |cons v f=>
   intro m h;revert h;refine aX λk h1=>aX λF z=>aX λx h2=>ca λA B e=>?_;obtain rfl:=bw z;refine gQ (VT h1) λn t C=>gQ (WV h2) λu y D=>aV (o f A B) λl g1 g2=>?_;subst e C D;refine(aS ((eval (.Constant (.int (.ofNat k)) n t) d,(do let x <- eval (.Constant (.str x) u y) d;gJ q;pure x))::l) ?_ (.cons (k:=k) (x:=x) ⟨λht gens drawn toks os p c=>Zz d k n t,λht gens drawn toks os p c=>Go.bind (LH d x u y) (Go.bind (Go.at .pure) .pure)⟩ g2));rw[cB,<- g1];rfl
noncomputable def qK(s:dw):List iG:=(sP s).2.2.2.2.1
noncomputable def qD(s:dw):br:=(sP s).2.2.2.2.2
theorem ab6:wF (vM (bB 11)) (xc (bB 11))=some nb:=by kernel_rfl
theorem abv:bB 11=.Assign (qK (bB 11)) (.Dict (vM (bB 11)) (xc (bB 11)) (lQ (bB 11))) (qD (bB 11)):=by kernel_rfl
theorem Op:gO 0 nb=true:=by kernel_rfl
theorem UO:nb.length=650:=by kernel_rfl
noncomputable def Gi:Nat->List (Nat×Str)->List (List (Nat×Str))
 |0,_=>[]
 |n+1,l=>l.take 17::Gi n (l.drop 17)
noncomputable def ES:List (Nat×Str):=nb.take 17
noncomputable def tn:List (List (Nat×Str)):=Gi 37 (nb.drop 17)
noncomputable def oP:List (Nat×Str):=nb.drop 646
theorem Bg:nb=ES++(tn.flatten++oP):=by kernel_rfl
theorem Sg:tn.all (λm=>mC m.length 17)=true:=by kernel_rfl
theorem OO:tn.length=37:=by kernel_rfl
end
section
variable{w:aZ}{os:lD}{c:Nat}
noncomputable def qp(P:bX):BT:=(T3 P).set 3 (λ_=>((T2 P).get 3).getD default)
noncomputable def ww:List cW:=ew ES 364++n9 tn 415++fO oP 2302
noncomputable def yE:List bK:=oR tn 415++[dO (fO oP 2302) 4]
theorem ML:ww.length=650:=by kernel_rfl
theorem abz(P:bX):(qp P).list 135=(T2 P).list 96++(dO ww 650::yE):=by kernel_rfl
theorem hA3(P:bX):hA (xQ (T2 P) 96 {}) ww yE=xQ (qp P) 135 {}:=by
 unfold hA xQ;rw[abz,ML];simp
noncomputable def lS:iG:=.Dict (vM (bB 11)) (xc (bB 11)) (lQ (bB 11))
noncomputable def td(v:aI):bA Flow:=do
 let x <- nT (qK (bB 11)) lS ez
 assignStores ez v x ((jt (qK (bB 11)) ez).map (·.2))
theorem aav:rt (qK (bB 11)) lS (qD (bB 11)).line ez=.pure false:=by kernel_rfl
theorem LQ:exec (bB 11) ez=(do
  gJ (qD (bB 11))
  let b <- rt (qK (bB 11)) lS (qD (bB 11)).line ez
  if b=true then do
   evalThenUse lS ez λv=>assignAll v ((jt (qK (bB 11)) ez).map (·.2))
   pure .next
  else do
   let v <- eval lS ez
   td v):=by
 rw[abv];rfl
theorem Vb:dZ w (eval lS ez) (fj T2 96 364 w os).abs p c (.ref 96) (fj qp 135 2314 w os).abs (lQ (bB 11)) (c+12520):=by
 refine aQ λd=>aV (Z8 (w:=w) ez (lQ (bB 11)) _ _ _ ab6) λl h1 h2=>d ?_;unfold lS;rw[arm_eval_Dict,h1];rw[Bg]at h2;have a:(xQ (T2 w.params) 96 {}).objs.size=96:=absHeap_size ..;have hi:=Op;rw[Bg]at hi;have b:=UO;rw[Bg]at b;have g:=LC (w:=w) (ht:=xQ (T2 w.params) 96 {}) (gens:=#[]) (drawn:={}) (os:=os) (toks:=364) (p:=lQ (bB 11)) (c:=c+1) (by rw[a];decide) (by kernel_rfl) (by show oP.length<=15;rw[show oP.length=4 by kernel_rfl];decide)
  (by intro e;have:oP.length=4:=(by kernel_rfl);rw[e]at this;cases this) (λm f=>Nat.eq_of_beq_eq_true (c8.mp Sg m f)) h2 (Ux b) hi
 rw[OO,a,show oP.length=4 by kernel_rfl]at g;have e:=hA3 w.params;unfold ww yE at e;rw[e]at g;exact(Go.bind (Go.at .pure) g).mono (OT)
theorem Wk(w:aZ):(λos=>xK fF pw w 11 fP 1 12 (fj qp 135 2314 w os) ⟨(td (.ref 96)).wrap doneF deadEnd id id,fq,lQ (bB 11),i5⟩)=λos=>some (.next,fj T3 135 2315 w os,fq,p3):=by
 kernel_rfl
theorem Td(K:Flow->bA Fin)(H:aI->bA Fin){N:Nat}{r:aL}(h:jb fF pw w 11 fP N (fj T3 135 2315 w os).abs ⟨K .next,fq,p3,i5⟩=some r):
  jb fF pw w 11 fP (12600+N) (fj T2 96 364 w os).abs ⟨(execs g3 ez).wrap K H id id,fq,p2,i5⟩=some r:=by
 have e:(execs g3 ez).wrap K H id id=(exec (bB 11) ez).wrap (λf=>match f with|.next=>K .next|f=>K f) H id id:=by
  unfold g3;rw[execs_cons_wrap];refine Sem.wrap_congr _ _ _ (λf=>?_) λ_=>rfl;cases f<;>rfl
 obtain⟨a,d,hN⟩:=seg_top (res:=id) (K':=λf=>match f with|.next=>K .next|f=>K f) (H':=H) (gd:=id) (lv:=id) (B:=i5) rfl 12 (fj qp 135 2314 w os).abs ⟨(td (.ref 96)).wrap doneF deadEnd id id,fq,lQ (bB 11),i5⟩
  ⟨(td (.ref 96)).wrap (λf=>match f with|.next=>K .next|f=>K f) H id id,fq,lQ (bB 11),i5⟩ _ _ _ _ ⟨rfl,rfl,.inl ⟨rfl,rfl,(aS _ rfl rfl)⟩⟩ (xR (congrFun (Wk w) os))
 obtain rfl:a=.next:=d;have b:=hN N r h;have i:exec (bB 11) ez=((do gJ (qD (bB 11));eval lS ez) >>= td):=by
  rw[LQ,aav];rw[xN];rfl
 refine aQ λj=>?_;obtain⟨n,k,g⟩:dZ w (do gJ (qD (bB 11));eval lS ez) (fj T2 96 364 w os).abs p2 0 (.ref 96) (fj qp 135 2314 w os).abs (lQ (bB 11)) 12521:=Go.bind (a:=()) (Go.at .pure) Vb;refine j ?_;have l:jb fF pw w 11 fP (n+(12+N)) (fj T2 96 364 w os).abs ⟨(execs g3 ez).wrap K H id id,fq,p2,i5⟩=some r:=by
  rw[e,i,acJ,Sem.wrap_wrap];exact g _ _ _ _ _ _ _ _ b
 have:=topRun_mono (12600-12-n) _ _ _ _ l;rw[show n+(12+N)+(12600-12-n)=12600+N by exact Qb k]at this;exact this
end
theorem NX:Jh pw=g0++(g1++(g2++(g3++(g4++[])))):=by kernel_rfl
theorem Uk{w:aZ}{os:lD}{rest:List dw}{N:Nat}{r:aL}(k:jb fF pw w 11 fP N (fj T3 135 2315 w os).abs (restOf rest ez fq p3 [topFrame ⟨0,0,0,0⟩])=some r):
  jb fF pw w 11 fP (12600+N) (fj T2 96 364 w os).abs (restOf (g3++rest) ez fq p2 [topFrame ⟨0,0,0,0⟩])=some r:=by
 unfold restOf;rw[execs_app_wrap];exact Td (K:=λf=>match f with|.next=>(execs rest ez).wrap doneF (leaveH ez) id id|f=>doneF f) (leaveH ez) k
theorem abW(w:aZ)(os:lD):jb fF pw w 11 fP (12+(1+(459+(999+(30+(12600+(187+2))))))) (SZ w os) (topStub pw)=some (SF w os):=by
 refine go_top (congrFun (abN w) os) (piece_block (congrFun (Zn w) os) ?_);rw[NX];exact Cs (xR (congrFun (OY w) os)) (Cs (xR (congrFun (aaj w) os)) (Cs (xR (congrFun (YT w) os)) (Uk (Cs (xR (congrFun (Ow w) os)) (piece_nil (congrFun (abA w) os))))))
theorem P6(w:aZ):(fencedOpening fF pw w 20000).map (λs=>(s.heap,s.gens,s.drawn,s.toks))=some (oZ w.params,#[],boot_drawn,boot_toks):=
 boot_open (p:=pw) (N:=20000) (by kernel_rfl) rfl (λs=>by kernel_rfl) w
theorem Lp(w:aZ):((oZ w.params).isNs o8&&(#[]:Array Ci).size==0,(oZ w.params).objs.size,(oZ w.params).nsMap o8 "__annotations__")=(true,11,fP):=by kernel_rfl
noncomputable abbrev vq:rj:=view pw [1,2,3,4,6,7,9,10,11,12,14,15,16,17,18]
noncomputable abbrev sj:List Str:=[aK "b1_set",aK "b3_exceptions"]
noncomputable def uO:List aJ:=aO 171
noncomputable def qv(P:bX):Frag:=uO.map λa=>(a,((HF P).get? a).getD default)
theorem acr(P:bX):uO=(qv P).map (·.1):=by
 unfold qv;rw[il];exact(Jm _).symm
noncomputable abbrev hk:Hook:=kHook qv uO acr
noncomputable abbrev dr:=Ct.row
theorem Mh(w:aZ):(λ(os:lD)=>((staticsOk (importedModules pw.main.body) (oZ w.params) (HF w.params)&&namesBound pw (HF w.params)&&gensDone ⟨HF w.params,#[],{},2368,os⟩&&laidKept (oZ w.params) (HF w.params)),
    openSeen vq sj (importedModules pw.main.body) (λs=>xlAt vq [] s&&recOk dr.toRowW.records s) true ⟨HF w.params,#[],{},2368,os⟩,hk.obs ⟨HF w.params,#[],{},2368,os⟩))=λ_=>(true,openGood vq sj,hk.val w):=by
 kernel_rfl
theorem aaA:LeftO pw vq sj (λs=>xlAt vq [] s&&recOk dr.toRowW.records s) hk.obs hk.val 20000:=
 LeftO.of_pieces (H₀:=oZ) (H₁:=HF) (gs₀:=#[]) (gs₁:=#[]) (d₀:=boot_drawn) (d₁:={}) (k₀:=boot_toks) (k₁:=2368) (m₀:=11) (ann:=fP) (M:=12+(1+(459+(999+(30+(12600+(187+2)))))))
  P6 Lp abW (by decide) Mh
theorem head (call:∀ d a,defOf vq (aK "law")=some (d,a)->WalkO vq sj (XL vq []) (hk.says) dr.toRowW d a λf c=>Jn f c):Ct.Holds:=by
 refine holds_law (by kernel_rfl) λb=>?_;refine holds_open (q:=vq) (loose:=sj) (Xt:=λs=>xlAt vq [] s&&recOk dr.toRowW.records s) (XP:=XL vq []) (Yf:=hk.obs) (Ya:=hk.val) (YP:=hk.says) (N:=20000) aaA hk.of hk.keeps
  (λs e=>xl_of s (ru.mp e).1) XL.keeps (by rfl) (by rfl) (by rfl) (λs e=>recFacts_of (ru.mp e).2) (by rfl) b (by decide+kernel) ⟨rfl,rfl,rfl,rfl,rfl,by decide+kernel⟩ ?hw ?hc
 case hw=>w_witness2
 case hc=>exact call _ _ (by rfl)
theorem DL{J:Type}{M:kI}{A:bx}{t:bA J}{Q:J->aL->Prop}{E:aI->aL->Prop}{s:aL}(h:∀ b:J->aL->Prop,(∀ a s,Q a s->b a s)->bc M A t b E s):bc M A t Q E s:=h Q λ_ _ x=>x
inductive T where
 |none|bool (b:Bool)|int (i:Int)|flt (b:UInt64)|str (s:Str)
 |tup (l:List T)|lst (l:List T)|dct (l:List (Int×T))|inst (t:T)
 deriving Inhabited
noncomputable def T.int?:T->Option Int
 |.int i=>some i
 |.none|.bool _|.flt _|.str _|.tup _|.lst _|.dct _|.inst _=>nU
noncomputable def T.flt?:T->Option UInt64
 |.flt i=>some i
 |.none|.bool _|.int _|.str _|.tup _|.lst _|.dct _|.inst _=>nU
noncomputable def T.str?:T->Option Str
 |.str i=>some i
 |.none|.bool _|.int _|.flt _|.tup _|.lst _|.dct _|.inst _=>nU
theorem T.int_eq{t:T}{i:Int}(h:t.int?=some i):t=.int i:=by
 cases t with
 |int j=>exact congrArg T.int (bw h)
 |_=>exact bD h
theorem T.flt_eq{t:T}{i:UInt64}(h:t.flt?=some i):t=.flt i:=by
 cases t with
 |flt j=>exact congrArg T.flt (bw h)
 |_=>exact bD h
theorem T.str_eq{t:T}{i:Str}(h:t.str?=some i):t=.str i:=by
 cases t with
 |str j=>exact congrArg T.str (bw h)
 |_=>exact bD h
abbrev Fz:=aJ->Option bK
def Le(Z a:Fz):Prop:=∀ b o,Z b=some o->a b=some o
def On(Z:Fz)(h:bh):Prop:=∀ b o,Z b=some o->h.get? b=some o
theorem Le.refl(Z:Fz):Le Z Z:=λ_ _ e=>e
theorem Le.trans{Z d c:Fz}(a:Le Z d)(b:Le d c):Le Z c:=λx o e=>b x o (a x o e)
def Vx(o:bK)(a:List aI):Prop:=o.cls=.type "tuple"/\∃ n,o.data=.seq a.toArray n
def Nh(o:bK)(a:List aI):Prop:=o.cls=.type "list"/\∃ n,o.data=.seq a.toArray n
noncomputable abbrev ik(w:aZ):KeyKind pw w Int:=xS pw w
noncomputable abbrev eS:aJ:=38
noncomputable abbrev kY:aJ:=55
noncomputable abbrev eB:aJ:=51
def ack(o:bK)(d:aJ):Prop:=o=lE eS d
def Nt(o:bK)(v:aI):Prop:=∃ h k n,o=dictOf [⟨h,.str (aK "comp_select_list") k,v⟩] n
section
variable(w:aZ)(Z:Fz)
mutual
def Rd:T->aI->Prop
 |.none,v=>v=.none
 |.bool b,v=>v=.bool b
 |.int i,v=>∃ t,v=.int i t
 |.flt b,v=>∃ t,v=.float b t
 |.str x,v=>∃ t,v=.str x t
 |.tup l,v=>∃ a o c,v=.ref a/\Z a=some o/\Vx o c/\bm l c
 |.lst l,v=>∃ a o c,v=.ref a/\Z a=some o/\Nh o c/\bm l c
 |.dct l,v=>∃ a o e,v=.ref a/\Z a=some o/\o.IsDictOf (ik w) e/\bY l e
 |.inst t,v=>∃ a o d f x,v=.ref a/\Z a=some o/\ack o d/\Z d=some f/\Nt f x/\Rd t x
def bm:List T->List aI->Prop
 |[],a=>a=[]
 |t::r,a=>∃ v b,a=v::b/\Rd t v/\bm r b
def bY:List (Int×T)->List (Int×aI)->Prop
 |[],a=>a=[]
 |(k,t)::r,a=>∃ v b,a=(k,v)::b/\Rd t v/\bY r b
end
end
mutual
theorem Rd.mono{w:aZ}{Z k:Fz}(c:Le Z k):∀ (t:T) {v:aI},Rd w Z t v->Rd w k t v
 |.none,_,h=>h
 |.bool _,_,h=>h
 |.int _,_,h=>h
 |.flt _,_,h=>h
 |.str _,_,h=>h
 |.tup l,_,h=>gC h λa o i e b f g=>(fy a o i e (c _ _ b) f (bm.mono c l g))
 |.lst l,_,h=>gC h λa o i e b f g=>(fy a o i e (c _ _ b) f (bm.mono c l g))
 |.dct l,_,h=>gC h λa o i e b f g=>(fy a o i e (c _ _ b) f (bY.mono c l g))
 |.inst t,_,h=>GN h λa o d m x e b f hd j g=>(qE a o d m x ⟨e,c _ _ b,f,c _ _ hd,j,Rd.mono c t g⟩)
theorem bm.mono{w:aZ}{Z a:Fz}(b:Le Z a):∀ (l:List T) {c:List aI},bm w Z l c->bm w a l c
 |[],_,h=>h
 |t::r,_,h=>bG h λv d e h1 h2=>(cE v d e (Rd.mono b t h1) (bm.mono b r h2))
theorem bY.mono{w:aZ}{Z a:Fz}(b:Le Z a):∀ (l:List (Int×T)) {c:List (Int×aI)},bY w Z l c->bY w a l c
 |[],_,h=>h
 |(k,t)::r,_,h=>bG h λv d e h1 h2=>(cE v d e (Rd.mono b t h1) (bY.mono b r h2))
end
inductive X where
 |v (t:T)|fr (l:List T)|frd (l:List (Int×T))|bo (i:Nat) (l:List T)|bod (i:Nat) (l:List (Int×T))|nts
inductive S where
 |no|v (t:T)|own (l:List T)|ownd (l:List (Int×T))|nts
 deriving Inhabited
def S.isOwn:S->Prop
 |.own _|.ownd _=>True
 |_=>False
def Mu(a:Option aJ)(b:aJ):Prop:=a=some b\/b=eB
def fi(w:aZ)(Z:Fz)(c:Option aJ)(Y:List T)(h:bh):Prop:=match c with
 |none=>Y=[]
 |some a=>Z a=none/\∃ b,h.PlainList a b.toArray/\bm w Z Y b
def Md(w:aZ)(Z:Fz):Prop:=(∀ a o,(HF w.params).get? a=some o->a≠eB->Z a=some o)/\Z eB=none
def jz(h:bh)(a:Array aI):Prop:=h.TableAt kY eB a/\TriplesOk a.toList
structure Nx (w:aZ) (nt:Option aJ) (Z:Fz) (s:aL) (Z':Fz) (ν':List T) (D:aL):Prop where
 le:Le Z Z'
 new:∀ b,b<s.heap.objs.size->Z' b=Z b
 on:On Z' D.heap
 ext:∀ b o,¬Mu nt b->s.heap.get? b=some o->D.heap.get? b=some o
 size:s.heap.objs.size<=D.heap.objs.size
 nts:fi w Z' nt ν' D.heap
 gens:mD s.gens->mD D.gens
 os:D.os=s.os
 tab:∀ ps,jz s.heap ps->∃ more,jz D.heap (ps++more)
theorem Nx.trans{w:aZ}{g:Option aJ}{Z j d:Fz}{s D f:aL}{i c:List T}(a:Nx w g Z s j i D)(b:Nx w g j D d c f):Nx w g Z s d c f where
 le:=a.le.trans b.le
 new:=λx h=>(b.new x (ck h a.size)).trans (a.new x h)
 on:=b.on
 ext:=λx o h e=>b.ext x o h (a.ext x o h e)
 size:=bg a.size b.size
 nts:=b.nts
 gens:=λh=>b.gens (a.gens h)
 os:=b.os.trans a.os
 tab:=λk h=>by
  exact aQ λl=>aU (a.tab k h) λm h1=>aU (b.tab _ h1) λn h2=>l ⟨m++n,by refine xT▸?_;exact h2⟩
structure Fx where
 nt:Option aJ
 h₀:bh
 env:cz
 nm:List (Option Str)
 fa:List aJ
 wr:List Nat
structure Aj (F:Fx):Prop where
 kf:F.env.scope.kind=.function
 eg:F.env.globals=o8
 eb:F.env.builtins=nV
 cap:∀ x y c,F.env.cells.lookup x=some c->F.env.cells.lookup y=some c->x=y
 fah:∀ a∈F.fa,F.h₀.objs.size<=a
 loc:F.env.locals∈F.fa
 ntf:∀ a,F.nt=some a->a∉F.fa
 big:171<=F.h₀.objs.size
 celk:∀ x,F.env.kindOf x=some .cell\/F.env.kindOf x=some .free->(F.env.cells.lookup x).isSome=true
 nmi:∀ (i j:Nat) x,F.nm[i]?=some (some x)->F.nm[j]?=some (some x)->i=j
 wrk:∀ i∈F.wr,∀ x,F.nm[i]?=some (some x)->F.env.kindOf x=some .local\/(F.env.kindOf x=some .cell/\∃ c,F.env.cells.lookup x=some c/\c∈F.fa)
def Look(a:cz)(m:Str->Option aI)(h:bh)(x:Str)(v:aI):Prop:=
 (a.kindOf x=some .local/\m x=some v)\/((a.kindOf x=some .cell\/a.kindOf x=some .free)/\∃ c,a.cells.lookup x=some c/\h.IsCell c (some v))
def dY(w:aZ)(e:Option aJ)(Z:Fz)(h:bh)(a:aJ):S->aI->Prop
 |.no,_=>True
 |.v t,v=>Rd w Z t v
 |.own l,v=>v=.ref a/\∃ d,h.PlainList a d.toArray/\bm w Z l d
 |.ownd l,v=>v=.ref a/\∃ c,h.DictOf (ik w) a c/\bY w Z l c
 |.nts,v=>∃ b,e=some b/\v=.ref b
structure St (w:aZ) (F:Fx) (J:Nat->aJ) (Z:Fz) (O:List S) (Y:List T) (s:aL):Prop where
 ok:Aj F
 on:On Z s.heap
 md:Md w Z
 nts:fi w Z F.nt Y s.heap
 gens:mD s.gens
 base:∀ b o,¬Mu F.nt b->F.h₀.get? b=some o->s.heap.get? b=some o
 tab:∃ ps,jz s.heap ps
 fz:∀ a∈F.fa,Z a=none/\a<s.heap.objs.size
 cel:∀ x c,F.env.cells.lookup x=some c->∃ v,s.heap.IsCell c v
 vars:∃ m,s.heap.Ns F.env.locals m/\∀ i x S,F.nm[i]?=some (some x)->O[i]?=some S->S≠.no->∃ v,Look F.env m s.heap x v/\dY w F.nt Z s.heap (J i) S v
 own:∀ (i:Nat) (S:Mine.Internal.S),O[i]?=some S->S.isOwn->Z (J i)=none/\F.h₀.objs.size<=J i/\F.nt≠some (J i)/\J i<s.heap.objs.size/\J i∉F.fa
 inj:∀ (i j:Nat) (S:Mine.Internal.S) (S':Mine.Internal.S),O[i]?=some S->S.isOwn->O[j]?=some S'->S'.isOwn->J i=J j->i=j
section
variable{w:aZ}{Z Z':Fz}{h h':bh}
theorem Md.le(M:Md w Z)(b:Le Z Z')(c:Z' eB=Z eB):Md w Z':=⟨λa o e n=>b a o (M.1 a o e n),c.trans M.2⟩
theorem pv{a:aJ}{m:Str->Option aI}(n:h.Ns a m)(k:∀ o,h.get? a=some o->h'.get? a=some o):h'.Ns a m:=
 lV n λo b c d r=>dH o b c ⟨k _ d,r⟩
theorem jg{a:aJ}{v:Option aI}(n:h.IsCell a v)(k:∀ o,h.get? a=some o->h'.get? a=some o):h'.IsCell a v:=
 aV n λo b r=>aS o (k _ b) r
theorem mY{a:aJ}{v:Array aI}(n:h.PlainList a v)(k:∀ o,h.get? a=some o->h'.get? a=some o):h'.PlainList a v:=aU n λm e=>⟨m,k _ e⟩
theorem oU{a:aJ}{v:Array aI}(n:h.IsList a v)(k:∀ o,h.get? a=some o->h'.get? a=some o):h'.IsList a v:=
 aV n λo b r=>aS o (k _ b) r
theorem xh{a:aJ}{v:List (Int×aI)}(n:h.DictOf (ik w) a v)(k:∀ o,h.get? a=some o->h'.get? a=some o):h'.DictOf (ik w) a v:=
 lV n λo b c d r=>dH o b c ⟨k _ d,r⟩
theorem Fy{c:Option aJ}{Y:List T}{f:Array aI}{b:aJ}{o:bK}(d:fi w Z c Y h)(g:jz h f)(e:h.get? b=some o)
  (hd:match o.data with|.seq ..=>False|.fields _=>o.cls≠.none|_=>True):¬Mu c b:=by
 rintro (rfl|rfl)
 ·refine eo d λ_ j i _=>?_;clear d;obtain⟨n,a⟩:=i;replace a:=e▸a;cases a;exact hd
 ·have:=g.1.2;replace this:=e▸this;cases this;exact hd rfl
theorem AA{a:Option aJ}{Y:List T}{c:Array aI}{b:aJ}{m:Str->Option aI}(d:fi w Z a Y h)(f:jz h c)(e:h.Ns b m):¬Mu a b:=by
 exact sg e λo i j g hd _=>Fy d f g (by refine hd▸?_;trivial)
theorem wq{a:Option aJ}{Y:List T}{c:Array aI}{b:aJ}{v:Option aI}(d:fi w Z a Y h)(f:jz h c)(e:h.IsCell b v):¬Mu a b:=by
 exact aV e λo g hd=>Fy d f g (by refine hd▸?_;trivial)
theorem Look.ext{b:cz}{m:Str->Option aI}{x:Str}{v:aI}(l:Look b m h x v)(k:∀ c o,b.cells.lookup x=some c->h.get? c=some o->h'.get? c=some o):Look b m h' x v:=by
 rcases l with l|⟨a,c,hc,d⟩
 ·exact .inl l
 ·exact .inr (fu a c hc (jg d λo=>k c o hc))
theorem dY.ext{d:Option aJ}{a:aJ}{S:S}{v:aI}(x:dY w d Z h a S v)(b:Le Z Z')(k:S.isOwn->∀ o,h.get? a=some o->h'.get? a=some o):dY w d Z' h' a S v:=by
 cases S with
 |no=>trivial
 |v t=>exact Rd.mono b t x
 |own l=>exact⟨x.1,aV x.2 λc y z=>aS c (mY y (k trivial)) (bm.mono b l z)⟩
 |ownd l=>exact⟨x.1,aV x.2 λc y z=>aS c (xh y (k trivial)) (bY.mono b l z)⟩
 |nts=>exact x
end
section
variable{w:aZ}{F:Fx}{J:Nat->aJ}{Z Z':Fz}{O:List S}{Y ν':List T}{s D:aL}
theorem St.ownMu(H:St w F J Z O Y s){i:Nat}{S:S}(e:O[i]?=some S)(o:S.isOwn):¬Mu F.nt (J i):=by
 refine aQ λc=>fX (H.own i S e o) λ_ a b _=>c ?_;rintro (h|h)
 ·exact b h
 ·have:=H.ok.big;replace a:=h▸a;exact absurd (bg this a) (by decide)
theorem St.next(H:St w F J Z O Y s)(N:Nx w F.nt Z s Z' ν' D):St w F J Z' O ν' D:=by
 refine aU H.tab λq j=>⟨H.ok,N.on,H.md.le N.le (N.new _ (cg j.1.2)),N.nts,N.gens H.gens,λb o n e=>N.ext b o n (H.base b o n e),?_,λa k=>⟨(N.new a (H.fz a k).2).trans (H.fz a k).1,ck (H.fz a k).2 N.size⟩,λx c hc=>?_,?_,λi S e o=>?_,H.inj⟩
 ·exact aU (N.tab q j) λmore h=>⟨_,h⟩
 ·exact aU (H.cel x c hc) λv g=>⟨v,jg g λo=>N.ext c o (wq H.nts j g)⟩
 ·refine aV H.vars λm p g=>(aS m (pv p λo=>N.ext _ o (AA H.nts j p)) (λi x S hi hs r=>aQ λt=>aV (g i x S hi hs r) λv u g=>t (aS v (u.ext λc o hc=>?_) (g.ext N.le λy o=>N.ext _ o (H.ownMu hs y)))));exact aU (H.cel x c hc) λz l=>N.ext c o (wq H.nts j l)
 ·exact gj (H.own i S e o) λa b c d f=>⟨(N.new _ d).trans a,b,c,ck d N.size,f⟩
theorem St.nx(H:St w F J Z O Y s):Nx w F.nt Z s Z Y s:=
 ⟨.refl Z,λ_ _=>rfl,H.on,λ_ _ _ e=>e,cu _,H.nts,id,rfl,λa h=>⟨#[],h⟩⟩
def RX(w:aZ)(F:Fx)(J:Nat->aJ)(O:List S)(n:Nat)(Z:Fz)(h:bh):X->aI->Prop
 |.v t,v=>Rd w Z t v
 |.fr l,v=>∃ a d,v=.ref a/\n<=a/\Z a=none/\F.nt≠some a/\h.PlainList a d.toArray/\bm w Z l d
 |.frd l,v=>∃ a c,v=.ref a/\n<=a/\Z a=none/\F.nt≠some a/\h.DictOf (ik w) a c/\bY w Z l c
 |.bo i l,v=>v=.ref (J i)/\O[i]?=some (.own l)/\∃ d,h.PlainList (J i) d.toArray/\bm w Z l d
 |.bod i l,v=>v=.ref (J i)/\O[i]?=some (.ownd l)/\∃ c,h.DictOf (ik w) (J i) c/\bY w Z l c
 |.nts,v=>∃ b,F.nt=some b/\v=.ref b
theorem jo{h:bh}{a:aJ}{b:Array aI}(x:h.PlainList a b):a<h.objs.size:=aU x λ_ e=>cg e
theorem mS{h:bh}{a:aJ}{b:Array aI}(x:h.IsList a b):a<h.objs.size:=aV x λ_ e _=>cg e
theorem tl{h:bh}{a:aJ}{b:List (Int×aI)}(x:h.DictOf (ik w) a b):a<h.objs.size:=lV x λ_ _ _ e _=>cg e
theorem RX.next{n:Nat}{x:X}{v:aI}(c:171<=n)(H:St w F J Z O Y s)(r:RX w F J O n Z s.heap x v)(N:Nx w F.nt Z s Z' ν' D):RX w F J O n Z' D.heap x v:=by
 have fin {a:aJ} (h1:n<=a) (h2:F.nt≠some a):¬Mu F.nt a:=by
  rintro (h|h)
  ·exact h2 h
  ·replace h1:=h▸h1;exact absurd (bg c h1) (by decide)
 cases x with
 |v t=>exact Rd.mono N.le t r
 |fr l=>
  exact iy r λa b e h1 h2 h3 h4 h5=>(jG a b e h1 ((N.new a (jo h4)).trans h2) h3 (mY h4 λo=>N.ext a o (fin h1 h3)) (bm.mono N.le l h5))
 |frd l=>
  exact iy r λa b e h1 h2 h3 h4 h5=>(jG a b e h1 ((N.new a (tl h4)).trans h2) h3 (xh h4 λo=>N.ext a o (fin h1 h3)) (bY.mono N.le l h5))
 |bo i l=>
  exact ou r λe h1 b h2 h3=>⟨e,h1,(aS b (mY h2 λo=>N.ext _ o (H.ownMu h1 trivial)) (bm.mono N.le l h3))⟩
 |bod i l=>
  exact ou r λe h1 b h2 h3=>⟨e,h1,(aS b (xh h2 λo=>N.ext _ o (H.ownMu h1 trivial)) (bY.mono N.le l h3))⟩
 |nts=>exact r
structure di (n:Nat) (A:bx):Prop where
 d:A.depth+n<900
 u:A.units+8*n<9000
 h:A.handled=none
def Ev(w:aZ)(A:bx)(F:Fx)(J:Nat->aJ)(Z:Fz)(O:List S)(s:aL)(e:Expr)(x:X)(ν':List T):Prop:=
 ∀ (Q:aI->aL->Prop) (E:aI->aL->Prop),(∀ v Z' D,Nx w F.nt Z s Z' ν' D->RX w F J O s.heap.objs.size Z' D.heap x v->Q v D)->bc (model pw w) A (eval e F.env) Q E s
end
inductive Nm where
 |i (a:Int)|f (a:UInt64)|b (a:Bool)
noncomputable def T.nm?:T->Option Nm
 |.int a=>some (.i a)
 |.flt a=>some (.f a)
 |.bool a=>some (.b a)
 |_=>nU
noncomputable def AK(op:gf)(a b:Int):Option T:=match op with
 |.Add=>some (.int (a+b))
 |.Sub=>some (.int (a-b))
 |.Mult=>if a.natAbs<2^64\/b.natAbs<2^64 then some (.int (a*b))else none
 |.FloorDiv=>if b=0\/2^64<=b.natAbs then none else some (.int (a.fdiv b))
 |.Mod=>if b=0 then none else some (.int (a.fmod b))
 |.Pow=>if 0<=b/\b<=1000000/\a.natAbs<2^64 then some (.int (a^b.toNat))else none
 |.RShift=>if 0<=b then some (.int (a.fdiv (2^b.toNat)))else none
 |.BitAnd=>some (.int (Builtin.bitAnd a b))
 |.BitXor=>some (.int (Builtin.bitXor a b))
 |.Div=>if b=0\/Float64.isInf (Jo (decide (a<0) != decide (b<0)) a.natAbs b.natAbs)=true then none else some (.flt (Jo (decide (a<0) != decide (b<0)) a.natAbs b.natAbs))
 |.MatMult=>none
 |.LShift=>none
 |.BitOr=>none
noncomputable def Bl(op:gf)(a b:UInt64):Option T:=if op=.Add then some (.flt (Float64.add a b))else if op=.Sub then some (.flt (dk a b))else if op=.Mult then some (.flt (c9 a b))else none
noncomputable def zo(op:gf)(a:UInt64)(b:Int):Option T:=if op=.Mult then(if b.natAbs<2^64 then some (.flt (c9 a (bZ b)))else none)else if op=.Sub then(if b.natAbs<2^64 then some (.flt (dk a (bZ b)))else none)else none
noncomputable def AS(op:gf)(a:Int)(b:UInt64):Option T:=if op=.Mult then(if a.natAbs<2^64 then some (.flt (c9 (bZ a) b))else none)else if op=.Add then(if a.natAbs<2^64 then some (.flt (Float64.add (bZ a) b))else none)else none
noncomputable def oK(op:gf):Nm->Nm->Option T
 |.i a,.i b=>AK op a b
 |.f a,.f b=>Bl op a b
 |.f a,.i b=>zo op a b
 |.i a,.f b=>AS op a b
 |.b a,.b b=>if op=.Sub then some (.int (b2i a-b2i b))else none
 |.b _,.i _=>none
 |.b _,.f _=>none
 |.i _,.b _=>none
 |.f _,.b _=>none
noncomputable def dn(op:gf)(x y:T):Option T:=x.nm?.bind λa=>y.nm?.bind λb=>oK op a b
theorem lr{J:Type _}{c:Prop}[Decidable c]{a r:J}(h:(if c then some a else none)=some r):c/\a=r:=by
 by_cases q:c
 ·rw[if_pos q]at h;exact⟨q,bw h⟩
 ·rw[if_neg q]at h;exact nomatch h
theorem Bk{J:Type _}{c:Prop}[Decidable c]{a r:J}(h:(if c then none else some a)=some r):¬c/\a=r:=by
 by_cases q:c
 ·rw[if_pos q]at h;exact nomatch h
 ·rw[if_neg q]at h;exact⟨q,bw h⟩
theorem qh{J:Type _}{c:Prop}[Decidable c]{a b:Option J}{r:J}(h:(if c then a else b)=some r):c/\a=some r\/¬c/\b=some r:=by
 by_cases q:c
 ·rw[if_pos q]at h;exact .inl ⟨q,h⟩
 ·rw[if_neg q]at h;exact .inr ⟨q,h⟩
theorem vN{n:Nat}(h:n<2^64):n<2^1023:=ck h (xU (by decide) (by decide))
theorem EE{a:Int}(h:a.natAbs<2^64):acR a<=64:=intBits_le_64 (YF h) (X0 h)
theorem Ue{a b:Int}(h:Cu a b):Cu b a:=by
 unfold Cu at h ⊢;rw[xI,Bool.and_comm (decide (acR b>shortFactorBits))];exact h
theorem mulOk_of{a b:Int}(h:a.natAbs<2^64\/b.natAbs<2^64):Cu a b:=by
 rcases h with h|h
 ·exact acS (EE h)
 ·exact Ue (acS (EE h))
theorem PJ{a b:Int}(h:¬(2^64<=b.natAbs)):Builtin.divisionGoesByPylong a b=false:=by
 refine PyProof.noPylong_of_log2 ?_;by_cases h0:b.natAbs=0
 ·rw[h0];decide
 ·have:b.natAbs.log2<64:=(Nat.log2_lt h0).mpr (acF h);exact Zg this
section
variable{w:aZ}{A:bx}{E:aI->aL->Prop}{s:aL}{Z:Fz}
def Nm.At:Nm->aI->Prop
 |.i a,v=>∃ k,v=.int a k
 |.f a,v=>∃ k,v=.float a k
 |.b a,v=>v=.bool a
theorem zB{a:Int}{v:aI}(h:(Nm.i a).At v):∃ k,v=.int a k:=h
theorem zr{a:UInt64}{v:aI}(h:(Nm.f a).At v):∃ k,v=.float a k:=h
theorem EG{a:Bool}{v:aI}(h:(Nm.b a).At v):v=.bool a:=h
theorem De{t:T}{n:Nm}{v:aI}(h:t.nm?=some n)(r:Rd w Z t v):n.At v:=by
 cases t with
 |int a=>cases h;exact r
 |flt a=>cases h;exact r
 |bool a=>cases h;exact r
 |none=>exact bD h
 |str _=>exact bD h
 |tup _=>exact bD h
 |lst _=>exact bD h
 |dct _=>exact bD h
 |inst _=>exact bD h
def sn(w:aZ)(A:bx)(E:aI->aL->Prop)(s:aL)(op:gf)(v1 a:aI)(t:T):Prop:=
 ∀ Q:aI->aL->Prop,(∀ v k,(∀ Z,Rd w Z t v)->Q v {s with toks:=k})->bc (model pw w) A (Cv op v1 a) Q E s
theorem jZ{a:Int}{k:dz}(Z:Fz):Rd w Z (.int a) (.int a k):=(⟨k,rfl⟩:∃ t,Jp a k=Jp a t)
theorem YM{a:Str}{k:dz}(Z:Fz):Rd w Z (.str a) (.str a k):=(⟨k,rfl⟩:∃ t,Value.str a k=Value.str a t)
theorem gA{t:T}{v:aI}{i:Int}(e:t.int?=some i)(r:Rd w Z t v):∃ k,v=.int i k:=by rw[T.int_eq e]at r;exact r
theorem Ip{t:T}{v:aI}{i:UInt64}(e:t.flt?=some i)(r:Rd w Z t v):∃ k,v=.float i k:=by rw[T.flt_eq e]at r;exact r
theorem IK{t:T}{v:aI}{i:Str}(e:t.str?=some i)(r:Rd w Z t v):∃ k,v=.str i k:=by rw[T.str_eq e]at r;exact r
theorem l7{a:UInt64}{k:dz}(Z:Fz):Rd w Z (.flt a) (.float a k):=(⟨k,rfl⟩:∃ t,Value.float a k=Value.float a t)
theorem Mx{op:gf}{a b:Int}{e f:dz}{t:T}(h:AK op a b=some t):sn w A E s op (.int a e) (.int b f) t:=by
 cases op with
 |Add=>cases h;exact λQ c=>PyProof.Rows.add_int (c _ _ jZ)
 |Sub=>cases h;exact λQ c=>PyProof.Rows.sub_int (c _ _ jZ)
 |Mult=>refine bn (lr h) λhc d=>?_;subst d;exact λQ c=>PyProof.Rows.mul_int (c _ _ jZ) (mulOk_of hc)
 |FloorDiv=>refine bn (Bk h) λhc d=>?_;subst d;exact λQ c=>PyProof.Rows.floordiv_int (λx=>hc (.inl x)) (c _ _ jZ) (.inl (PJ λx=>hc (.inr x)))
 |Mod=>refine bn (Bk h) λhc d=>?_;subst d;exact λQ c=>PyProof.Rows.mod_int' hc (c _ _ jZ)
 |Pow=>refine bn (lr h) λhc d=>?_;subst d;exact λQ c=>PyProof.Rows.pow_int_small hc.1 hc.2.1 hc.2.2 (c _ _ jZ)
 |RShift=>refine bn (lr h) λhc d=>?_;subst d;exact λQ c=>PyProof.Rows.rshift_int hc (c _ _ jZ)
 |BitAnd=>cases h;exact λQ c=>PyProof.Rows.and_int (c _ _ jZ)
 |BitXor=>cases h;exact λQ c=>PyProof.Rows.xor_int (c _ _ jZ)
 |Div=>refine bn (Bk h) λhc d=>?_;subst d;exact λQ c=>AutoIntOps.truediv_2 (λx=>hc (.inl (by simpa using x))) (λx=>hc (.inr x)) (c _ _ l7)
 |MatMult=>exact bD h
 |LShift=>exact bD h
 |BitOr=>exact bD h
theorem aad{op:gf}{a b:UInt64}{d e:dz}{t:T}(h:Bl op a b=some t):sn w A E s op (.float a d) (.float b e) t:=by
 rcases qh h with ⟨rfl,h⟩|⟨_,h⟩
 ·cases h;exact λQ c=>PyProof.Rows.add_float (c _ _ l7)
 ·rcases qh h with ⟨rfl,h⟩|⟨_,h⟩
  ·cases h;exact λQ c=>PyProof.Rows.sub_float (c _ _ l7)
  ·refine bn (lr h) λf g=>?_;subst f;subst g;exact λQ c=>PyProof.Rows.mul_float (c _ _ l7)
theorem Qn{op:gf}{a:UInt64}{b:Int}{e f:dz}{t:T}(h:zo op a b=some t):sn w A E s op (.float a e) (.int b f) t:=by
 rcases qh h with ⟨rfl,h⟩|⟨_,h⟩
 ·refine bn (lr h) λhc c=>?_;subst c;exact λQ d=>PyProof.Rows.mul_fi_fits (vN hc) (d _ _ l7)
 ·rcases qh h with ⟨rfl,h⟩|⟨_,h⟩
  ·refine bn (lr h) λhc c=>?_;subst c;exact λQ d=>PyProof.Rows.sub_fi_fits (vN hc) (d _ _ l7)
  ·exact bD h
theorem abT{op:gf}{a:Int}{b:UInt64}{e f:dz}{t:T}(h:AS op a b=some t):sn w A E s op (.int a e) (.float b f) t:=by
 rcases qh h with ⟨rfl,h⟩|⟨_,h⟩
 ·refine bn (lr h) λhc c=>?_;subst c;exact λQ d=>PyProof.Rows.mul_if_fits (vN hc) (d _ _ l7)
 ·rcases qh h with ⟨rfl,h⟩|⟨_,h⟩
  ·refine bn (lr h) λhc c=>?_;subst c;exact λQ d=>PyProof.Rows.add_if_fits (vN hc) (d _ _ l7)
  ·exact bD h
theorem SB{op:gf}{a b:Int}{t:T}(h:oK op (.i a) (.i b)=some t):AK op a b=some t:=h
theorem Q8{op:gf}{a:UInt64}{b:Int}{t:T}(h:oK op (.f a) (.i b)=some t):zo op a b=some t:=h
theorem abR{op:gf}{a b:UInt64}{t:T}(h:oK op (.f a) (.f b)=some t):Bl op a b=some t:=h
theorem Ox{op:gf}{a:Int}{b:UInt64}{t:T}(h:oK op (.i a) (.f b)=some t):AS op a b=some t:=h
theorem Qk{op:gf}{a b:Bool}{t:T}(h:oK op (.b a) (.b b)=some t):op=.Sub/\T.int (b2i a-b2i b)=t:=lr h
set_option maxHeartbeats 2000000 in
theorem V6{op:gf}{x y:Nm}{t:T}{v1 j:aI}(h:oK op x y=some t)(e:x.At v1)(d:y.At j):sn w A E s op v1 j t:=by
 cases x with
 |i a=>
  refine aU (zB e) λk c=>?_;subst c;cases y with
  |i b=>refine aU (zB d) λg c=>?_;subst c;exact Mx (SB h)
  |f b=>refine aU (zr d) λg c=>?_;subst c;exact abT (Ox h)
  |b b=>exact bD h
 |f a=>
  refine aU (zr e) λk c=>?_;subst c;cases y with
  |i b=>refine aU (zB d) λg c=>?_;subst c;exact Qn (Q8 h)
  |f b=>refine aU (zr d) λg c=>?_;subst c;exact aad (abR h)
  |b b=>exact bD h
 |b a=>
  obtain rfl:=EG e;cases y with
  |i b=>exact bD h
  |f b=>exact bD h
  |b b=>
   obtain rfl:=EG d;refine bn (Qk h) λl c=>?_;subst l;subst c;exact λQ m=>PyProof.Rows.sub_bool (m _ _ λZ=>⟨_,rfl⟩)
theorem DQ{op:gf}{a b t:T}{v1 c:aI}{Q:aI->aL->Prop}(h:dn op a b=some t)(d:Rd w Z a v1)(e:Rd w Z b c)
  (f:∀ v k,(∀ Z,Rd w Z t v)->Q v {s with toks:=k}):bc (model pw w) A (Cv op v1 c) Q E s:=by
 revert h;exact aX λx h1=>aX λy h2 h=>V6 h (De h1 d) (De h2 e) Q f
end
noncomputable def Fc(op:gq)(a b:Int):Option Bool:=match op with
 |.Eq=>some (a==b)
 |.NotEq=>some (a != b)
 |.Lt=>some (decide (a<b))
 |.LtE=>none
 |.Gt=>some (decide (b<a))
 |.GtE=>none
 |.Is=>none
 |.IsNot=>none
 |.In=>none
 |.NotIn=>none
noncomputable def He(op:gq)(a b:UInt64):Option Bool:=match op with
 |.Eq=>none
 |.NotEq=>none
 |.Lt=>some (ry a b==some jO)
 |.LtE=>none
 |.Gt=>some (ry a b==some o9)
 |.GtE=>none
 |.Is=>none
 |.IsNot=>none
 |.In=>none
 |.NotIn=>none
noncomputable def pN(o op:gq)(r:Bool):Option Bool:=if op=o then some r else none
noncomputable def d9(op:gq)(x y:T):Option Bool:=match x with
 |.int a=>(match y with
  |.int b=>Fc op a b
  |_=>none)
 |.flt a=>(match y with
  |.flt b=>He op a b
  |.int b=>pN .Lt op (Jq a b==some jO)
  |_=>none)
 |.str a=>(match y with
  |.str b=>pN .In op (!(acT b a 0 b.length 1).isEmpty)
  |.none=>pN .IsNot op true
  |_=>none)
 |.bool a=>(match y with
  |.bool b=>pN .Is op (a==b)
  |_=>none)
 |.none=>(match y with
  |.none=>pN .IsNot op false
  |_=>none)
 |_=>none
section
variable{w:aZ}{A:bx}{E:aI->aL->Prop}{s:aL}{Z:Fz}
theorem B3{a:Int}{v:aI}(h:Rd w Z (.int a) v):∃ k,v=.int a k:=h
theorem G6{a:UInt64}{v:aI}(h:Rd w Z (.flt a) v):∃ k,v=.float a k:=h
theorem Hv{a:Str}{v:aI}(h:Rd w Z (.str a) v):∃ k,v=.str a k:=h
theorem FJ{a:Bool}{v:aI}(h:Rd w Z (.bool a) v):v=.bool a:=h
theorem zb{v:aI}(h:Rd w Z .none v):v=.none:=h
theorem th{o op:gq}{r b:Bool}{P:gq->Bool->Prop}(h:pN o op r=some b)(k:P o r):P op b:=by
 refine bn (lr h) λa c=>?_;subst a;subst c;exact k
def mR(w:aZ)(A:bx)(E:aI->aL->Prop)(s:aL)(op:gq)(v1 a:aI)(b:Bool):Prop:=∀ Q:aI->aL->Prop,Q (.bool b) s->bc (model pw w) A (Cw op v1 a) Q E s
theorem Xq{op:gq}{a b:Int}{d e:dz}{r:Bool}(h:Fc op a b=some r):mR w A E s op (.int a d) (.int b e) r:=by
 cases op with
 |Lt=>cases h;exact λQ c=>PyProof.Rows.lt_int c
 |Gt=>cases h;exact λQ c=>PyProof.Rows.gt_int c
 |Eq=>cases h;exact λQ c=>PyProof.Rows.eq_int c
 |NotEq=>cases h;exact λQ c=>PyProof.Rows.ne_int c
 |_=>exact bD h
theorem Tt{op:gq}{a b:UInt64}{d e:dz}{r:Bool}(h:He op a b=some r):mR w A E s op (.float a d) (.float b e) r:=by
 cases op with
 |Lt=>cases h;exact λQ c=>AutoFloatOps.lt_0 c
 |Gt=>cases h;exact λQ c=>acU c
 |_=>exact bD h
theorem NO{op:gq}{i e:T}{b:Bool}{v1 k:aI}(h:d9 op i e=some b)(g:Rd w Z i v1)(f:Rd w Z e k):mR w A E s op v1 k b:=by
 cases i with
 |int a=>
  refine aU (B3 g) λl c=>?_;subst c;cases e with
  |int b=>refine aU (B3 f) λj c=>?_;subst c;exact Xq h
  |_=>exact bD h
 |flt a=>
  refine aU (G6 g) λl c=>?_;subst c;cases e with
  |flt b=>refine aU (G6 f) λj c=>?_;subst c;exact Tt h
  |int b=>refine aU (B3 f) λj c=>?_;subst c;exact th (P:=λo r=>mR w A E s o _ _ r) h λQ d=>PyProof.Rows.lt_fi d
  |_=>exact bD h
 |str a=>
  refine aU (Hv g) λl c=>?_;subst c;cases e with
  |str b=>refine aU (Hv f) λj c=>?_;subst c;exact th (P:=λo r=>mR w A E s o _ _ r) h λQ d=>PyProof.Rows.in_str d
  |none=>obtain rfl:=zb f;exact th (P:=λo r=>mR w A E s o _ _ r) h λQ d=>PyProof.Rows.isnot_none_ne (by intro x;cases x) d
  |_=>exact bD h
 |bool a=>
  obtain rfl:=FJ g;cases e with
  |bool b=>obtain rfl:=FJ f;exact th (P:=λo r=>mR w A E s o _ _ r) h λQ d=>PyProof.Rows.is_bool d
  |_=>exact bD h
 |none=>
  obtain rfl:=zb g;cases e with
  |none=>obtain rfl:=zb f;exact th (P:=λo r=>mR w A E s o _ _ r) h λQ d=>PyProof.Rows.isnot_none_none d
  |_=>exact bD h
 |_=>exact bD h
theorem Ec{op:gq}{a c:T}{b:Bool}{v1 d:aI}{Q:aI->aL->Prop}(h:d9 op a c=some b)(e:Rd w Z a v1)(f:Rd w Z c d)
  (g:Q (.bool b) s):bc (model pw w) A (Cw op v1 d) Q E s:=NO h e f Q g
end
noncomputable def oh:T->Option Bool
 |.bool b=>some b
 |.int i=>some (decide (i≠0))
 |_=>none
section
variable{w:aZ}{A:bx}{F:Fx}{J:Nat->aJ}{Z Z':Fz}{O:List S}{Y ν':List T}{s D:aL}
theorem St.tok(H:St w F J Z O Y s)(k:dz):Nx w F.nt Z s Z Y {s with toks:=k}:={H.nx with}
theorem St.k(H:St w F J Z O Y s)(k:dz):St w F J Z O Y {s with toks:=k}:=H.next (H.tok k)
theorem Ev.of(x:X)(h:∀ (Q:aI->aL->Prop) (E:aI->aL->Prop),(∀ v Z' D,Nx w F.nt Z s Z' ν' D->RX w F J O s.heap.objs.size Z' D.heap x v->Q v D)->bc (model pw w) A (eval e F.env) Q E s):
  Ev w A F J Z O s e x ν':=h
theorem St.sz(H:St w F J Z O Y s):171<=s.heap.objs.size:=by
 have h1:=H.ok.big;have h2:=(H.fz _ H.ok.loc).2;have h3:=H.ok.fah _ H.ok.loc;exact bg h1 (j8 (ff h3 h2))
theorem KR(H:St w F J Z O Y s){i:Int}{k pos}:Ev w A F J Z O s (.Constant (.int i) k pos) (.v (.int i)) Y:=
 λQ E a=>Jr (a _ _ _ (H.tok _) ⟨_,rfl⟩)
theorem aaU(H:St w F J Z O Y s){i:Str}{k pos}:Ev w A F J Z O s (.Constant (.str i) k pos) (.v (.str i)) Y:=
 λQ E a=>wpAny_Constant_str (a _ _ _ (H.tok _) ⟨_,rfl⟩)
theorem Z9(H:St w F J Z O Y s){k pos}:Ev w A F J Z O s (.Constant .none k pos) (.v .none) Y:=
 λQ E a=>wpAny_Constant_none (a _ _ _ H.nx rfl)
theorem Ys(H:St w F J Z O Y s){b:Bool}{k pos}:Ev w A F J Z O s (.Constant (.bool b) k pos) (.v (.bool b)) Y:=
 λQ E a=>wpAny_Constant_bool (a _ _ _ H.nx rfl)
theorem Wg(H:St w F J Z O Y s){b:UInt64}{k pos}:Ev w A F J Z O s (.Constant (.float b) k pos) (.v (.flt b)) Y:=
 λQ E a=>wpAny_Constant_float (a _ _ _ (H.tok _) ⟨_,rfl⟩)
noncomputable def S.x(i:Nat):S->Option X
 |.no=>none
 |.v t=>some (.v t)
 |.own l=>some (.bo i l)
 |.ownd l=>some (.bod i l)
 |.nts=>some .nts
theorem vf{e:cz}{m:Str->Option aI}{x:Str}{v:aI}{Q:aI->aL->Prop}{E:aI->aL->Prop}(hk:e.scope.kind=.function)(f:s.heap.Ns e.locals m)(l:Look e m s.heap x v)(h:Q v s)
  (hc:(x==("__classdict__":Str))=false):bc (model pw w) A (loadName e x) Q E s:=by
 rcases l with ⟨a,b⟩|⟨a|a,c,b,d⟩
 ·exact xV hk a f b h
 ·exact wpAny_loadName_cell hk a b d h
 ·exact wpAny_loadName_free hk a b d h hc
theorem Xs(H:St w F J Z O Y s){id:Str}{i:Nat}{S:S}{x:X}{pos}(hi:F.nm[i]?=some (some id))(hs:O[i]?=some S)(b:S.x i=some x)
  (hd:(id==("__debug__":Str))=false) (hc:(id==("__classdict__":Str))=false):Ev w A F J Z O s (.Name id pos) x Y:=λQ E c=>by
 refine rz ?_ hd;refine aV H.vars λm d a=>aV (a i id S hi hs (by rintro rfl;cases b)) λv e a=>vf H.ok.kf d e (c v Z s H.nx ?_) hc;cases S with
 |no=>cases b
 |v t=>cases b;exact a
 |own l=>cases b;exact⟨a.1,hs,a.2⟩
 |ownd l=>cases b;exact⟨a.1,hs,a.2⟩
 |nts=>cases b;exact a
theorem Uy(H:St w F J Z O Y s){a b:Expr}{op:gf}{pos}{d g t:T}{G c:List T}(h1:Ev w A F J Z O s a (.v d) G)
  (h2:∀ Z' D,Nx w F.nt Z s Z' G D->Ev w A F J Z' O D b (.v g) c) (h:dn op d g=some t):Ev w A F J Z O s (.BinOp a op b pos) (.v t) c:=λQ E i=>by
 refine xW (h1 _ _ λv1 j l e m=>h2 j l e _ _ λq r u f n=>DQ h (Rd.mono f.le d m) n λv k o=>?_);have p:=(H.next e).next f;exact i _ _ _ ((e.trans f).trans (p.tok k)) (o _)
theorem ZN(H:St w F J Z O Y s){a b:Expr}{op:gq}{pos}{e f:T}{c:Bool}{G d:List T}(h1:Ev w A F J Z O s a (.v e) G)
  (h2:∀ Z' D,Nx w F.nt Z s Z' G D->Ev w A F J Z' O D b (.v f) d) (i:d9 op e f=some c) (j:rA op b=false):Ev w A F J Z O s (.Compare a [op] [b] pos) (.v (.bool c)) d:=λQ E k=>by
 refine Js (h1 _ _ λv1 l m g n=>h2 l m g _ _ λp q r h o=>?_) j;exact Ec i (Rd.mono h.le e n) o (k _ _ _ (g.trans h) rfl)
end
noncomputable def X.t?:X->Option T
 |.v t=>some t
 |.fr l=>some (.lst l)
 |.frd l=>some (.dct l)
 |_=>none
noncomputable def X.vt?:X->Option T
 |.v t=>some t
 |.fr _|.frd _|.bo _ _|.bod _ _|.nts=>none
theorem X.vt_eq{x:X}{t:T}(h:x.vt?=some t):x=.v t:=by
 cases x with
 |v j=>exact congrArg X.v (bw h)
 |_=>exact bD h
noncomputable def X.int?(x:X):Option Int:=x.vt?.bind T.int?
noncomputable def X.flt?(x:X):Option UInt64:=x.vt?.bind T.flt?
noncomputable def X.str?(x:X):Option Str:=x.vt?.bind T.str?
theorem kz{w:aZ}{F:Fx}{J:Nat->aJ}{O:List S}{n:Nat}{Z:Fz}{h:bh}{a:Int}{k:dz}:RX w F J O n Z h (.v (.int a)) (.int a k):=jZ (w:=w) Z
theorem QI{w:aZ}{F:Fx}{J:Nat->aJ}{O:List S}{n:Nat}{Z:Fz}{h:bh}{a:UInt64}{k:dz}:RX w F J O n Z h (.v (.flt a)) (.float a k):=l7 (w:=w) Z
theorem oV{w:aZ}{F:Fx}{J:Nat->aJ}{O:List S}{n:Nat}{Z:Fz}{h:bh}{a:Str}{k:dz}:RX w F J O n Z h (.v (.str a)) (.str a k):=YM (w:=w) Z
theorem j4{w:aZ}{F:Fx}{J:Nat->aJ}{O:List S}{n:Nat}{Z:Fz}{h:bh}{x:X}{v:aI}{i:Int}(e:x.int?=some i)(r:RX w F J O n Z h x v):∃ k,v=.int i k:=by
 revert e;exact aX λt a b=>gA (w:=w) (Z:=Z) b (by rw[X.vt_eq a]at r;exact r)
theorem Xb{w:aZ}{F:Fx}{J:Nat->aJ}{O:List S}{n:Nat}{Z:Fz}{h:bh}{x:X}{v:aI}{i:UInt64}(e:x.flt?=some i)(r:RX w F J O n Z h x v):∃ k,v=.float i k:=by
 revert e;exact aX λt a b=>Ip (w:=w) (Z:=Z) b (by rw[X.vt_eq a]at r;exact r)
theorem ku{w:aZ}{F:Fx}{J:Nat->aJ}{O:List S}{n:Nat}{Z:Fz}{h:bh}{x:X}{v:aI}{i:Str}(e:x.str?=some i)(r:RX w F J O n Z h x v):∃ k,v=.str i k:=by
 revert e;exact aX λt a b=>IK (w:=w) (Z:=Z) b (by rw[X.vt_eq a]at r;exact r)
noncomputable def X.lst?:X->Option (List T)
 |.v (.lst l)=>some l
 |.fr l=>some l
 |.bo _ l=>some l
 |_=>none
noncomputable def X.tup?:X->Option (List T)
 |.v (.tup l)=>some l
 |_=>none
noncomputable def X.dct?:X->Option (List (Int×T))
 |.v (.dct l)=>some l
 |.frd l=>some l
 |.bod _ l=>some l
 |_=>none
section
variable{w:aZ}{A:bx}{F:Fx}{J:Nat->aJ}{Z Z':Fz}{O:List S}{Y ν':List T}{s D:aL}
def LstAt(w:aZ)(Z:Fz)(h:bh)(l:List T)(v:aI):Prop:=∃ a b,v=.ref a/\h.IsList a b.toArray/\bm w Z l b
def TupAt(w:aZ)(Z:Fz)(h:bh)(l:List T)(v:aI):Prop:=∃ a b,v=.ref a/\IsTup h a b.toArray/\bm w Z l b
def VA(w:aZ)(Z:Fz)(h:bh)(l:List (Int×T))(v:aI):Prop:=∃ a b,v=.ref a/\h.DictOf (ik w) a b/\bY w Z l b
theorem RX.lst{n:Nat}{x:X}{v:aI}{l:List T}{h:bh}(f:On Z h)(r:RX w F J O n Z h x v)(e:x.lst?=some l):LstAt w Z h l v:=by
 cases x with
 |v t=>cases t with
  |lst c=>exact bw e▸gC r λa o b e g d j=>(cE a b e (cI o (f _ _ g) d.1 d.2) j)
  |_=>exact bD e
 |fr c=>exact bw e▸iy r λa b e _ _ _ h4 h5=>(cE a b e h4.isList h5)
 |bo i c=>exact bw e▸ou r λe _ b h4 h5=>(cE _ b e h4.isList h5)
 |_=>exact bD e
theorem RX.tup{n:Nat}{x:X}{v:aI}{l:List T}{h:bh}(c:On Z h)(r:RX w F J O n Z h x v)(e:x.tup?=some l):TupAt w Z h l v:=by
 cases x with
 |v t=>cases t with
  |tup i=>exact bw e▸gC r λa o d e f b g=>(cE a d e (cI o (c _ _ f) b.1 b.2) g)
  |_=>exact bD e
 |_=>exact bD e
theorem RX.dct{n:Nat}{x:X}{v:aI}{l:List (Int×T)}{h:bh}(d:On Z h)(r:RX w F J O n Z h x v)(e:x.dct?=some l):VA w Z h l v:=by
 cases x with
 |v t=>cases t with
  |dct c=>exact bw e▸gC r λa o b e f g j=>(cE a b e (pa.mpr (aS o (d _ _ f) g)) j)
  |_=>exact bD e
 |frd c=>exact bw e▸iy r λa b e _ _ _ h4 h5=>(cE a b e h4 h5)
 |bod i c=>exact bw e▸ou r λe _ b h4 h5=>(cE _ b e h4 h5)
 |_=>exact bD e
noncomputable def put(Z:Fz)(h:bh)(a:aJ):Fz:=λb=>if b=a then h.get? a else Z b
theorem gM{h:bh}{a:aJ}:put Z h a a=h.get? a:=if_pos rfl
theorem jF{h:bh}{a b:aJ}(q:b≠a):put Z h a b=Z b:=if_neg q
theorem gc{h:bh}{a:aJ}(c:Z a=none):Le Z (put Z h a):=λb o e=>(jF λq=>bD (c.symm.trans (q▸e))).trans e
theorem w7{h:bh}{a:aJ}(c:On Z h):On (put Z h a) h:=λb o e=>by
 by_cases q:b=a
 ·subst q;exact gM.symm.trans e
 ·exact c b o ((jF q).symm.trans e)
theorem fi.imp{b:Option aJ}{h d:bh}(e:fi w Z b Y h)(f:Le Z Z')(k:∀ a,b=some a->Z a=none->Z' a=none)(kp:∀ a c,b=some a->h.PlainList a c->d.PlainList a c):fi w Z' b Y d:=by
 cases b with
 |none=>exact e
 |some a=>exact eo e λx c y z=>(fu (k a rfl x) c (kp a _ rfl y) (bm.mono f _ z))
theorem fi.put{b:Option aJ}{h:bh}{a:aJ}(d:fi w Z b Y h)(h2:Z a=none)(h3:b≠some a):fi w (put Z h a) b Y h:=
 d.imp (gc h2) (λc e x=>(jF λq=>h3 (e.trans (congrArg some q))).trans x) λ_ _ _ y=>y
theorem Nx.put(N:Nx w F.nt Z s Z' ν' D){a:aJ}(h1:s.heap.objs.size<=a)(h2:Z' a=none)(h3:F.nt≠some a):Nx w F.nt Z s (put Z' D.heap a) ν' D where
 le:=N.le.trans (gc h2)
 new:=λb c=>(jF (dW (ck c h1))).trans (N.new b c)
 on:=w7 N.on
 ext:=N.ext
 size:=N.size
 nts:=N.nts.put h2 h3
 gens:=N.gens
 os:=N.os
 tab:=N.tab
theorem RX.frz{x:X}{v:aI}{t:T}(r:RX w F J O s.heap.objs.size Z' D.heap x v)(N:Nx w F.nt Z s Z' ν' D)(e:x.t?=some t):
  ∃ c,Nx w F.nt Z s c ν' D/\Le Z' c/\(∀ b,b<s.heap.objs.size->c b=Z' b)/\Rd w c t v:=by
 cases x with
 |v i=>exact bw e▸(j3 Z' N (.refl _) (λ_ _=>rfl) r)
 |fr l=>exact bw e▸iy r λa d e h1 h2 h3 h4 h5=>ej h4.isList λo f hc h=>
   (j3 _ (N.put h1 h2 h3) (gc h2) (λb g=>jF (dW (ck g h1))) (fy a o d e (gM.trans f) ⟨hc,h⟩ (bm.mono (gc h2) _ h5)))
 |frd l=>exact bw e▸iy r λa d e h1 h2 h3 h4 h5=>aV (pa.mp h4) λo f hc=>
   (j3 _ (N.put h1 h2 h3) (gc h2) (λb g=>jF (dW (ck g h1))) (fy a o d e (gM.trans f) hc (bY.mono (gc h2) _ h5)))
 |_=>exact bD e
theorem Ev.frz{e:Expr}{x:X}{t:T}(h:Ev w A F J Z O s e x ν')(b:x.t?=some t):Ev w A F J Z O s e (.v t) ν':=λQ E c=>
 h _ _ λv Z' D N r=>nH (r.frz N b) λa d _ _ f=>c v a D d f
theorem Nx.push(N:Nx w F.nt Z s Z' ν' D)(o:bK):Nx w F.nt Z s Z' ν' {D with heap:=D.heap.push o} where
 le:=N.le
 new:=N.new
 on:=λb a e=>cA o (N.on b a e)
 ext:=λb a c e=>cA o (N.ext b a c e)
 size:=bg N.size (by show D.heap.objs.size<=(D.heap.push o).objs.size;rw[eQ];exact mz _)
 nts:=N.nts.imp (.refl _) (λ_ _ x=>x) λ_ _ _ y=>mY y λa e=>cA o e
 gens:=N.gens
 os:=N.os
 tab:=λd h=>aV (N.tab d h) λmore f h4=>bn f λy h3=>eA y λa g h1 h2=>
  (aS more ⟨(iz a g (cA o h1) h2),cA o h3⟩ h4)
theorem Nx.fresh(N:Nx w F.nt Z s Z' ν' D):Z' D.heap.objs.size=none:=by
 cases h:Z' D.heap.objs.size with
 |none=>rfl
 |some o=>exact absurd (cg (N.on _ _ h)) (cQ _)
theorem Nx.freshN(N:Nx w F.nt Z s Z' ν' D):F.nt≠some D.heap.objs.size:=λe=>
 eo (show fi w Z' (some D.heap.objs.size) ν' D.heap from e▸N.nts) λ_ a y _=>cQ _ (jo y)
def pS(w:aZ)(A:bx)(F:Fx)(J:Nat->aJ)(Z:Fz)(O:List S)(s:aL)(pos:br)(b:List Expr)(l:List T)(ν':List T):Prop:=
 ∀ (Q:List aI->aL->Prop) (E:aI->aL->Prop),(∀ a Z' D,Nx w F.nt Z s Z' ν' D->bm w Z' l a->Q a D)->bc (model pw w) A (ub (ka pos (ju b F.env))) Q E s
noncomputable def dQ(e:Expr):Bool:=!(e.ctorIdx.beq 22)
theorem eG{e:Expr}{rest:List Expr}{a:cz}(h:dQ e=true):ju (e::rest) a=(false,eval e a)::ju rest a:=by
 cases e<;>first|rfl|cases h
theorem GH(H:St w F J Z O Y s){pos}:pS w A F J Z O s pos [] [] Y:=λQ E a=>nW (a [] Z s H.nx rfl)
theorem WR(H:St w F J Z O Y s){pos}{e:Expr}{b:List Expr}{t:T}{l G a:List T}(h1:Ev w A F J Z O s e (.v t) G)
  (h2:∀ Z' D,Nx w F.nt Z s Z' G D->pS w A F J Z' O D pos b l a) (f:dQ e=true):pS w A F J Z O s pos (e::b) (t::l) a:=λQ E g=>
 lF (h1 _ _ λv1 h i c j=>h2 h i c _ _ λm n o d k=>g _ _ _ (c.trans d) (cE _ _ rfl (Rd.mono d.le t j) k)) (eG f)
theorem bm.length{Z:Fz}:∀ {l:List T} {c:List aI},bm w Z l c->c.length=l.length:=by
 intro a;induction a with
 |nil=>
  intro _ h;exact congrArg j9 h
 |cons t r b=>
  intro _ h;exact bG h λv e d _ h2=>(congrArg j9 d).trans (congrArg (·+1) (b h2))
theorem bm.get{Z:Fz}:∀ {l:List T} {f:List aI},bm w Z l f->∀ {i:Nat} {t:T},l[i]?=some t->∃ v,f[i]?=some v/\Rd w Z t v:=by
 intro a;induction a with
 |nil=>
  intro _ h i t e;exact bD e
 |cons t r b=>
  intro _ h c;cases c with
  |zero=>
   intro g e;exact bG h λv j d h1 h2=>(aS v (d▸rfl) (bw e▸h1))
  |succ i=>
   intro g e;exact bG h λv j d h1 h2=>aV (b (i:=i) (t:=g) h2 e) λu h3 h4=>(aS u (d▸h3) h4)
theorem eD(H:St w F J Z O Y s){a:List Expr}{l:List T}{k pos}(h:pS w A F J Z O s pos a l ν')(c:l.length<=kF):Ev w A F J Z O s (.Tuple a k pos) (.v (.tup l)) ν':=λQ E d=>by
 refine wpAny_Tuple (h _ _ λb Z' D N r=>⟨by rw[bm.length r];exact c,?_⟩);have e:=N.push {cls:=.type "tuple",data:=.seq b.toArray};have f:Z' D.heap.objs.size=none:=N.fresh;exact d _ _ _ (e.put N.size f N.freshN) (fy _ _ b rfl (gM.trans (dx _ rfl)) ⟨rfl,0,rfl⟩ (bm.mono (gc f) _ r))
theorem gn(H:St w F J Z O Y s){a:List Expr}{l:List T}{pos}(h:pS w A F J Z O s pos a l ν')(c:l.length<=kF):Ev w A F J Z O s (.List a pos) (.fr l) ν':=λQ E d=>by
 refine wpAny_List (h _ _ λb Z' D N r=>⟨by rw[bm.length r];exact c,?_⟩);exact d _ _ _ (N.push {cls:=.type "list",data:=.seq b.toArray}) (jG _ b rfl N.size N.fresh N.freshN ⟨0,dx _ rfl⟩ r)
theorem Xc(H:St w F J Z O Y s){pos}:Ev w A F J Z O s (.Dict [] [] pos) (.frd []) Y:=λQ E a=>by
 refine wpAny_Dict_empty (a _ _ _ (H.nx.push {cls:=.type "dict",data:=.dict #[]}) (jG _ [] rfl (cu _) H.nx.fresh H.nx.freshN ?_ (by show _=_;rfl)));exact pa.mpr (m0 _ (dx _ rfl) (#[]) 0 ⟨rfl,rfl,rfl⟩ ⟨rfl,(λ_ b=>by simp at b),.nil,.nil⟩)
end
noncomputable def nr(e:Expr):Bool:=!(e.ctorIdx.beq 26)
theorem wc{e:Expr}(h:nr e=true)(o i:aI):subscripted e false o i=operate [o,i] (uc o i):=by
 cases e<;>first|rfl|cases h
noncomputable def tI(k:Int):Bool:=decide (-(2^63)<=k)&&decide (k<2^63)
noncomputable def lR(l:List T)(k:Int):Option T:=if tI k then(ud k l.length).bind λj=>l[j]? else none
noncomputable def i6(l:List (Int×T))(k:Int):Option T:=(l.find? λp=>p.1=k).map (·.2)
noncomputable def X.item(x:X)(i:T):Option T:=i.int?.bind λk=>(x.lst?.bind (lR · k)).or ((x.tup?.bind (lR · k)).or (x.dct?.bind (i6 · k)))
section
variable{w:aZ}{A:bx}{F:Fx}{J:Nat->aJ}{Z Z':Fz}{O:List S}{Y ν':List T}{s D:aL}
theorem ng{k:Int}{u:dz}:(ik w).is k (.int k u)=true:=decide_eq_true rfl
theorem O7{a k:Int}{t:T}{r:List (Int×T)}:i6 ((a,t)::r) k=if a=k then some t else i6 r k:=by
 by_cases q:a=k
 ·rw[if_pos q];exact congrArg (ri Cx) (acV (p:=λp:Int×_=>decide (p.1=k)) (decide_eq_true q))
 ·rw[if_neg q];exact congrArg (ri Cx) (acW (p:=λp:Int×_=>decide (p.1=k)) λh=>q (of_decide_eq_true h))
theorem G4{a k:Int}{t:aI}{r:List (Int×aI)}:xX ((a,t)::r) k=if a=k then some t else xX r k:=by
 by_cases q:a=k
 ·rw[if_pos q];exact congrArg (ri Cx) (acV (p:=λp:Int×_=>decide (p.1=k)) (decide_eq_true q))
 ·rw[if_neg q];exact congrArg (ri Cx) (acW (p:=λp:Int×_=>decide (p.1=k)) λh=>q (of_decide_eq_true h))
theorem A6{Z:Fz}:∀ {l:List (Int×T)} {a:List (Int×aI)},bY w Z l a->∀ {k:Int} {t:T},i6 l k=some t->∃ v,xX a k=some v/\Rd w Z t v:=by
 intro b;induction b with
 |nil=>
  intro _ h k t e;exact bD e
 |cons c r d=>
  obtain⟨f,i⟩:=c;intro _ h k t e;exact bG h λv j g h1 h2=>by
    subst g;rw[O7]at e;rw[G4];by_cases q:f=k
    ·rw[if_pos q]at e ⊢;exact(aS v rfl (bw e▸h1))
    ·rw[if_neg q]at e ⊢;exact d h2 e
theorem Lf{x:X}{v:aI}{k:Int}{u:dz}{t:T}{n:Nat}{value slice:Expr}{Q:aI->aL->Prop}{E:aI->aL->Prop}(z:On Z s.heap)(r:RX w F J O n Z s.heap x v)
  (B:nr slice=true) (q:∀ v G,Rd w Z t v->Q v {s with toks:=G}):((x.lst?.bind (lR · k)).or ((x.tup?.bind (lR · k)).or (x.dct?.bind (i6 · k))))=some t->bc (model pw w) A (subscriptTail value slice v (.int k u)) Q E s:=by
 have sm:tI k=true->-(2^63)<=k/\k<2^63:=λh=>bn (ee h) λa b=>⟨of_decide_eq_true a,of_decide_eq_true b⟩;refine xp (aX λl h1=>cb λhk=>aX λj g C=>?_) (xp (aX λl h2=>cb λhk=>aX λj g C=>?_) (aX λl h3 e=>?_))
 ·refine bG (r.lst z h1) λa H p d i=>?_;subst p;refine aV (bm.get i C) λy m c=>Cy d.typeIs slot_list_getitem.lookup ?_ (wc B _ _);have f:=bm.length i;revert g;unfold ud;by_cases h0:k<0
  ·rw[if_pos h0];refine cb λI g=>?_;obtain rfl:=bw g;refine wpAny_getItem_list_neg d h0 (by rw[eY];exact aaW f (bn (ee I) λa b=>⟨of_decide_eq_true a,of_decide_eq_true b⟩)) (sm hk).1 ?_ (q y s.toks c);rw[eY,f,im];exact m
  ·rw[if_neg h0];refine cb λ_ g=>?_;obtain rfl:=bw g;exact wpAny_getItem_list d (Jd.mp h0) (sm hk).2 (im.trans m) (q y s.toks c)
 ·refine bG (r.tup z h2) λa H p d i=>?_;subst p;refine aV (bm.get i C) λy m c=>Cy (ej d λo K hc _=>(aS o K hc)) Cz.lookup ?_ (wc B _ _);exact PyProof.Rows.getItem_tuple d (sm hk).1 (sm hk).2 (by rw[eY,bm.length i];exact g) (im.trans m) (q y s.toks c)
 ·refine bG (r.dct z h3) λa L p d i=>?_;subst p;refine aV (A6 i e) λy m c=>Cy d.mapOf.typeIs slot_dict_getitem.lookup ?_ (wc B _ _);exact wpAny_getItem_of (knd:=ik w) (k:=k) ng d.mapOf m (q y _ c)
theorem bM(H:St w F J Z O Y s){a b:Expr}{pos}{x:X}{k t:T}{G c:List T}(h1:Ev w A F J Z O s a x G)
  (h2:∀ Z' D,Nx w F.nt Z s Z' G D->Ev w A F J Z' O D b (.v k) c) (h:x.item k=some t) (i:nr b=true):Ev w A F J Z O s (.Subscript a b pos) (.v t) c:=λQ E j=>by
 refine Subscript_ (h1 _ _ λv1 l m d n=>h2 l m d _ _ λz B C e o=>?_);have f:=H.next d;have g:=f.next e;revert h;refine aX λk p=>?_;refine aU (gA p o) λu q=>?_;subst q;exact Lf g.on (RX.next H.sz f n e) i λv r y=>j _ _ _ ((d.trans e).trans (g.tok r)) y
def Et(w:aZ)(A:bx)(F:Fx)(J:Nat->aJ)(Z:Fz)(O:List S)(s:aL)(e:Expr)(b:Bool)(ν':List T):Prop:=
 ∀ (Q:Bool->aL->Prop) (E:aI->aL->Prop),(∀ Z' D,Nx w F.nt Z s Z' ν' D->Q b D)->bc (model pw w) A (isTrue e F.env (eval e F.env)) Q E s
noncomputable def IE(e:Expr):Bool:=!([0,3,5,15].elem e.ctorIdx)
theorem truthy_T{t:T}{b:Bool}{v:aI}{Q:Bool->aL->Prop}{E:aI->aL->Prop}(h:oh t=some b)(r:Rd w Z t v)(a:Q b s):bc (model pw w) A (truthy v) Q E s:=by
 cases t with
 |bool c=>
  obtain rfl:v=_:=r;obtain rfl:=bw h;exact ue a
 |int i=>
  refine aU r λk d=>?_;obtain rfl:=bw h;exact d▸PyProof.Rows.truthy_int ((show(i != 0)=decide (i≠0)by by_cases q:i=0<;>simp[q])▸a)
 |_=>exact nomatch h
theorem Y9{e:Expr}{t:T}{b:Bool}(h:Ev w A F J Z O s e (.v t) ν')(c:oh t=some b)(a:IE e=true):Et w A F J Z O s e b ν':=λQ E d=>by
 refine wpAny_isTrue_value (h _ _ λv Z' D N r=>truthy_T c r (d _ _ N)) ?_;cases e<;>first|rfl|cases a|(rename_i op _ _;cases op<;>first|rfl|cases a)
theorem KP(H:St w F J Z O Y s){a b:Expr}{op:gq}{pos}{e f:T}{c:Bool}{G d:List T}(h1:Ev w A F J Z O s a (.v e) G)
  (h2:∀ Z' D,Nx w F.nt Z s Z' G D->Ev w A F J Z' O D b (.v f) d) (i:d9 op e f=some c) (j:rA op b=false):Et w A F J Z O s (.Compare a [op] [b] pos) c d:=λQ E k=>by
 refine CA (h1 _ _ λv1 l m g n=>h2 l m g _ _ λp q r h o=>?_) j;exact Ec i (Rd.mono h.le e n) o (ue (k _ _ (g.trans h)))
theorem Ww{e:Expr}{pos}{b:Bool}(h:Et w A F J Z O s e b ν'):Et w A F J Z O s (.UnaryOp .Not e pos) (!b) ν':=λQ E a=>
 wpAny_isTrue_Not (h _ _ λZ' D N=>a _ _ N)
theorem UP(H:St w F J Z O Y s){c a b:Expr}{pos}{x:X}{t:Bool}{G d:List T}(h1:Et w A F J Z O s c t G)
  (h2:∀ Z' D,Nx w F.nt Z s Z' G D->Ev w A F J Z' O D (if t then a else b) x d):Ev w A F J Z O s (.IfExp c a b pos) x d:=λQ E i=>by
 refine wpAny_IfExp (h1 _ _ λj k g=>?_);have go:=h2 j k g Q E λv m n o f=>i v m n (g.trans o) ?_
 ·cases t<;>exact go
 ·cases x with
  |fr l=>refine bG f λa h e p1 p2=>?_;clear f;exact(cE a h e (bg g.size p1) p2)
  |frd l=>refine bG f λa h e p1 p2=>?_;clear f;exact(cE a h e (bg g.size p1) p2)
  |_=>exact f
end
noncomputable def Dj(o:bK):Array cW:=match o.data with
 |.dict a _=>a
 |_=>#[]
noncomputable def gE(P:bX):Array cW:=Dj (wX P)
noncomputable def bE(P:bX):Array cW:=Dj (zp P)
noncomputable def Dk:List (String×aI):=[("TupleComp",.ref 38),("add_func_stats",.ref 49),("add_callers",.ref 56),("count_calls",.ref 63),("rgb_to_yiq",.ref 70),("yiq_to_rgb",.ref 77),("b1_set",.ref 85),
 ("in_table_b1",.ref 95),("b3_exceptions",.ref 96),("map_table_b3",.ref 141),("_law_typed",.ref 148),("_law_whole",.ref 155),("_law_rank",.ref 160),("_law_row",.ref 165)]
noncomputable def zC:List (String×aI):=[("enumerate",.type "enumerate"),("range",.type "range"),("zip",.type "zip"),("len",.builtin "len"),("sum",.builtin "sum"),("list",.type "list"),("isinstance",.builtin "isinstance"),
 ("bool",.type "bool"),("str",.type "str"),("min",.builtin "min"),("tuple",.type "tuple"),("dict",.type "dict"),("max",.builtin "max"),("chr",.builtin "chr"),("ord",.builtin "ord"),("abs",.builtin "abs")]
theorem Te(P:bX):(Dk.all λp=>rB (gE P) (aK p.1)==some p.2)=true:=by kernel_rfl
theorem Pb(P:bX):(zC.all λp=>rB (gE P) (aK p.1)==none)=true:=by kernel_rfl
theorem VC(P:bX):(zC.all λp=>rB (bE P) (aK p.1)==some p.2)=true:=by kernel_rfl
noncomputable def aaC:aI->Bool
 |.str ..=>true
 |_=>false
theorem HT{a:Array cW}(h:(a.toList.all λe=>aaC e.key)=true):StrKeys a:=λe b=>by
 have:=c8.mp h e (Jt.mpr b);revert this;cases q:e.key<;>intro h<;>first|exact(dA _ _ rfl)|cases h
theorem OH(P:bX):StrKeys (gE P):=HT (by kernel_rfl)
theorem LV(P:bX):StrKeys (bE P):=HT (by kernel_rfl)
theorem Gn(P:bX):(HF P).get? 3=some (wX P):=by kernel_rfl
theorem QZ(P:bX):(HF P).get? 0=some (zp P):=by kernel_rfl
theorem NT(P:bX):(HF P).get? 2=some (HM P):=by kernel_rfl
section
variable{w:aZ}{A:bx}{F:Fx}{J:Nat->aJ}{Z Z':Fz}{O:List S}{Y ν':List T}{s D:aL}{h:bh}
theorem i7(M:Md w Z)(b:On Z h){a:aJ}{o:bK}(e:(HF w.params).get? a=some o)(n:a≠eB):h.get? a=some o:=b _ _ (M.1 _ _ e n)
theorem zu(M:Md w Z)(a:On Z h):h.Ns o8 (rB (gE w.params)):=(fy _ (gE w.params) _ (i7 M a (Gn _) (by decide)) rfl (OH _) (λ_=>rfl))
theorem P5(M:Md w Z)(a:On Z h):h.Ns nV (rB (bE w.params)):=(fy _ (bE w.params) _ (i7 M a (QZ _) (by decide)) rfl (LV _) (λ_=>rfl))
theorem tL(M:Md w Z)(a:On Z h):h.NoLimit:=(aS (λ_=>none) (fy _ (#[]) 0 (i7 M a (NT _) (by decide)) rfl (λ_ b=>by simp at b) (λ_=>rfl)) rfl)
noncomputable def Ac(x:String):Option aI:=Dk.lookup x
noncomputable def pG(x:String):Option aI:=zC.lookup x
theorem Bt{J a:Type _}[BEq J]{x y:J}{b v:a}{l:List (J×a)}{P:Prop}(h1:(x==y)=true->b=v->P)(h2:l.lookup x=some v->P)(e:((y,b)::l).lookup x=some v):P:=by
 rw[pb]at e;cases q:x==y with
 |true=>rw[q]at e;exact h1 q (bw e)
 |false=>rw[q]at e;exact h2 e
theorem z9{a:Type}[BEq a]:∀ {l:List (String×a)} {x:String} {v:a},l.lookup x=some v->(x,v)∈l:=by
 intro c;induction c with
 |nil=>
  intro _ _;exact bD
 |cons d l f=>
  obtain⟨y,b⟩:=d;intro x v;exact Bt (λq e=>e▸dN q▸.head _) λe=>.tail _ (f e)
theorem uT(H:St w F J Z O Y s){x:String}{v:aI}{pos}{Q:aI->aL->Prop}{E:aI->aL->Prop}(a:F.env.kindOf (aK x)=some .globalImplicit)(b:Ac x=some v)(c:Q v s)
  (hd:(aK x==("__debug__":Str))=false):bc (model pw w) A (eval (.Name (aK x) pos) F.env) Q E s:=by
 refine acX H.ok.kf a ?_ hd;have:=c8.mp (Te w.params) _ (z9 b);exact loadGlobal_global (by rw[H.ok.eg];exact zu H.md H.on) (dN this) c
theorem ia(H:St w F J Z O Y s){x:String}{v:aI}{pos}{Q:aI->aL->Prop}{E:aI->aL->Prop}(b:F.env.kindOf (aK x)=some .globalImplicit)(a:pG x=some v)(c:Q v s)
  (hd:(aK x==("__debug__":Str))=false):bc (model pw w) A (eval (.Name (aK x) pos) F.env) Q E s:=by
 refine acX H.ok.kf b ?_ hd;have h1:=c8.mp (Pb w.params) _ (z9 a);have h2:=c8.mp (VC w.params) _ (z9 a);exact loadGlobal_builtin (by rw[H.ok.eg];exact zu H.md H.on) (dN h1) (by rw[H.ok.eb];exact P5 H.md H.on) (dN h2) c
theorem RX.le{n c:Nat}{x:X}{v:aI}(r:RX w F J O n Z h x v)(d:c<=n):RX w F J O c Z h x v:=by
 cases x with
 |fr l=>refine bG r λa b e p1 p2=>?_;clear r;exact(cE a b e (bg d p1) p2)
 |frd l=>refine bG r λa b e p1 p2=>?_;clear r;exact(cE a b e (bg d p1) p2)
 |_=>exact r
def cT(w:aZ)(F:Fx)(J:Nat->aJ)(O:List S)(n:Nat)(Z:Fz)(h:bh):List X->List aI->Prop
 |[],a=>a=[]
 |x::c,a=>∃ v b,a=v::b/\RX w F J O n Z h x v/\cT w F J O n Z h c b
theorem cT.le{n d:Nat}(i:d<=n):∀ {f:List X} {g:List aI},cT w F J O n Z h f g->cT w F J O d Z h f g:=by
 intro a;induction a with
 |nil=>
  intro _ r;exact r
 |cons _ _ b=>
  intro _ c;exact bG c λv j e k l=>(cE v j e (k.le i) (b l))
theorem cT.next{n:Nat}(g:171<=n)(H:St w F J Z O Y s)(N:Nx w F.nt Z s Z' ν' D):∀ {d:List X} {f:List aI},cT w F J O n Z s.heap d f->cT w F J O n Z' D.heap d f:=by
 intro a;induction a with
 |nil=>
  intro _ r;exact r
 |cons _ _ b=>
  intro _ c;exact bG c λv i e j k=>(cE v i e (RX.next g H j N) (b k))
def gp(w:aZ)(A:bx)(F:Fx)(J:Nat->aJ)(Z:Fz)(O:List S)(s:aL)(pos:br)(b:List Expr)(c:List X)(ν':List T):Prop:=
 ∀ (Q:List aI->aL->Prop) (E:aI->aL->Prop),(∀ a Z' D,Nx w F.nt Z s Z' ν' D->cT w F J O s.heap.objs.size Z' D.heap c a->Q a D)->bc (model pw w) A (ub (ka pos (ju b F.env))) Q E s
theorem yX(H:St w F J Z O Y s){pos}:gp w A F J Z O s pos [] [] Y:=λQ E a=>nW (a [] Z s H.nx rfl)
theorem z6(H:St w F J Z O Y s){pos}{e:Expr}{c:List Expr}{x:X}{d:List X}{G a:List T}(h1:Ev w A F J Z O s e x G)
  (h2:∀ Z' D,Nx w F.nt Z s Z' G D->gp w A F J Z' O D pos c d a) (g:dQ e=true):gp w A F J Z O s pos (e::c) (x::d) a:=λQ E i=>
 lF (h1 _ _ λv1 j k b l=>h2 j k b _ _ λn o p f m=>i _ _ _ (b.trans f) (cE _ _ rfl (RX.next H.sz (H.next b) l f) (m.le b.size))) (eG g)
theorem ji{env:cz}{pos:br}:∀ {a:List Expr},a.all dQ=true->(ka pos (ju a env)).any (·.1)=false:=by
 intro b;induction b with
 |nil=>
  intro _;exact rfl
 |cons e a c=>
  intro h;rw[gX,fg]at h;rw[eG h.1];show(false||(ka pos (ju a env)).any (·.1))=false;rw[c h.2];rfl
def lO(w:aZ)(A:bx)(F:Fx)(J:Nat->aJ)(Z:Fz)(O:List S)(s:aL)(f:aI)(a:List aI)(x:X)(ν':List T):Prop:=
 ∀ (Q:aI->aL->Prop) (E:aI->aL->Prop),(∀ v Z' D,Nx w F.nt Z s Z' ν' D->RX w F J O s.heap.objs.size Z' D.heap x v->Q v D)->bc (model pw w) A (call f a) Q E s
theorem gN{func:Expr}{args:List Expr}{pos:br}{a:cz}{Q:aI->aL->Prop}{E:aI->aL->Prop}(c:(!(func.ctorIdx.beq 20))=true)
  (h:bc (model pw w) A (eval func a) (λf b=>bc (model pw w) A (callWith pos f [] (ka pos (ju args a)) []) Q E b) E s):bc (model pw w) A (eval (.Call func args [] pos) a) Q E s:=by
 refine Call_ h ?_;cases func<;>first|rfl|cases c
theorem Y3(H:St w F J Z O Y s){x:String}{id:String}{p pos:br}{e:Expr}{d:List Expr}{g:List X}{r:X}{G a:List T}(i:F.env.kindOf (aK x)=some .globalImplicit)(j:pG x=some (.builtin id))
  (hd:(aK x==("__debug__":Str))=false) (k:gp w A F J Z O s pos (e::d) g G) (f:(e::d).all dQ=true)
  (hc:∀ b Z' D,St w F J Z' O G D->s.heap.objs.size<=D.heap.objs.size->cT w F J O s.heap.objs.size Z' D.heap g b->lO w A F J Z' O D (.builtin id) b r a) :
  Ev w A F J Z O s (.Call (.Name (aK x) p) (e::d) [] pos) r a:=λQ E l=>by
 refine gN rfl (ia H i j ?_ hd);rw[gX,fg]at f;refine Ju (k _ _ λb m n c o=>hc b m n (H.next c) c.size o _ _ λv q t u y=>l v q t (c.trans u) (y.le c.size)) (eG f.1) (ji f.2)
theorem LR(H:St w F J Z O Y s){x:String}{id:String}{p pos:br}{e:Expr}{d:List Expr}{g:List X}{r:X}{G a:List T}(i:F.env.kindOf (aK x)=some .globalImplicit)(j:pG x=some (.type id))
  (hd:(aK x==("__debug__":Str))=false) (k:gp w A F J Z O s pos (e::d) g G) (f:(e::d).all dQ=true)
  (hc:∀ b Z' D,St w F J Z' O G D->s.heap.objs.size<=D.heap.objs.size->cT w F J O s.heap.objs.size Z' D.heap g b->lO w A F J Z' O D (.type id) b r a) :
  Ev w A F J Z O s (.Call (.Name (aK x) p) (e::d) [] pos) r a:=λQ E l=>by
 refine gN rfl (ia H i j ?_ hd);rw[gX,fg]at f;refine kb (k _ _ λb m n c o=>hc b m n (H.next c) c.size o _ _ λv q t u y=>l v q t (c.trans u) (y.le c.size)) (eG f.1) (ji f.2)
theorem Vd(H:St w F J Z O Y s){x:String}{f:aJ}{o:bK}{fd:uf}{p pos:br}{e:Expr}{g:List Expr}{j:List X}{r:X}{G b:List T}(l:F.env.kindOf (aK x)=some .globalImplicit)(m:Ac x=some (.ref f))
  (hd:(aK x==("__debug__":Str))=false) (n:(HF w.params).get? f=some o) (c:o.data=.func fd) (i:f≠eB)
  (q:gp w A F J Z O s pos (e::g) j G) (k:(e::g).all dQ=true)
  (hc:∀ d Z' D,St w F J Z' O G D->s.heap.objs.size<=D.heap.objs.size->cT w F J O s.heap.objs.size Z' D.heap j d->lO w A F J Z' O D (.ref f) d r b) :
  Ev w A F J Z O s (.Call (.Name (aK x) p) (e::g) [] pos) r b:=λQ E t=>by
 refine gN rfl (uT H l m ?_ hd);rw[gX,fg]at k;refine PyProof.Rows.callWith_def c (q _ _ λd u y a z=>⟨i7 (H.next a).md (H.next a).on n i,hc d u y (H.next a) a.size z _ _ λv B C I K=>t v B C (a.trans I) (K.le a.size)⟩) (eG k.1)
end
theorem Fh(h:bh)(a:aJ)(f:bK->bK):(h.update a f).objs.size=h.objs.size:=(ug ..).1
theorem Ed{M:kI}{a:Ctx}{p:br}{t:bA Fin}{b:List rk}{s D:aL}{e:End}(h:Runs M a p t b s e D):s.heap.objs.size<=D.heap.objs.size:=by
 induction h<;>(try simp only[acY,Fh,eQ]at*)<;>lia
theorem Zc{M:kI}{a:Ctx}{p:br}{s D:aL}{r:o0}(h:Returns M a p s r D):s.heap.objs.size<=D.heap.objs.size:=Ed h
theorem IR{M:kI}{k:Ctx}{p:br}{g:Nat}{r:Resume}{s D:aL}{res:GenResult}{P:Prop}
  (a:∀ {i l t m e f},Runs M i l t m (s.setGen g .running) e f->D=f.setGen g e.genState->P) (b:D=s->P) (c:D=s.setGen g .finished->P):Wakes M k p g r s res D->P:=by
 unfold Wakes;cases s.gens[g]? with
 |none=>exact False.elim
 |some st=>
  cases st with
  |fresh d=>
   cases r with
   |send v=>
    cases v with
    |none=>exact λh=>mj h λ_ _ j _ _ y=>a j y
    |_=>exact λh=>b h.2
   |throw x=>exact λh=>c h.2
  |suspended=>exact λh=>mj h λ_ _ j _ _ y=>a j y
  |running=>exact λh=>b h.2
  |finished=>exact λh=>b h.2
theorem ac3{M:kI}{b:Ctx}{p:br}{g:Nat}{r:Resume}{s D:aL}{res:GenResult}:Wakes M b p g r s res D->s.heap.objs.size<=D.heap.objs.size:=
 IR (λ{_ _ _ _ _ a} c y=>y▸(Ed c:(s.setGen g .running).heap.objs.size<=a.heap.objs.size)) (λy=>y▸cu _) (λy=>y▸cu _)
open Sem in
theorem Rq{J:Type}(M:kI)(j:Ctx)(n:Nat)(t:bA J):∀ (Q:J->br->aL->Prop) (E:aI->br->aL->Prop) (p:br) (s:aL),n<=s.heap.objs.size->wp M j t Q E p s->
  wp M j t (λa i D=>n<=D.heap.objs.size/\Q a i D) (λe i D=>n<=D.heap.objs.size/\E e i D) p s:=by
 induction t with
 |pure a=>intro Q E p s b h;exact⟨b,h⟩
 |raise e=>intro Q E p s b h;exact⟨b,h⟩
 |unsupported _=>intro Q E p s _ h;exact h
 |finish _=>intro Q E p s _ h;exact h
 |rule _ k d=>intro Q E p s b h;exact d () Q E p s b h
 |«at» i k d=>intro Q E p s b h;exact d () Q E i s b h
 |load a _ k d=>intro Q E p s b h;refine aV h λo u h=>?_;exact(aS o u (d o Q E p s b h))
 |update a _ f k d=>intro Q E p s b h;exact⟨h.1,d () Q E p _ (by show n<=(s.heap.update a f).objs.size;rw[Fh];exact b) h.2⟩
 |loadIfAlive a k d=>intro Q E p s b h;exact d _ Q E p s b h
 |point _ k d=>intro Q E p s b h;exact d () Q E p s b h
 |register _ _=>intro Q E p s _ h;exact h
 |alloc o k d=>intro Q E p s b h;exact d _ Q E p _ (by show n<=(s.heap.push o).objs.size;rw[eQ];exact uh b) h
 |fresh k d=>intro Q E p s b h;exact d _ Q E p _ b h
 |ask k d=>intro Q E p s b h;exact d _ Q E p s b h
 |choose v m k d=>intro Q E p s b h;exact⟨h.1,d _ Q E p _ b h.2⟩
 |os q _ k d=>intro Q E p s b h;exact d _ Q E p _ b h
 |call c hd _ _ k d=>intro Q E p s b h;refine eA h λr D l h=>?_;exact(iz r D l (d r Q E p D (bg b (Zc l)) h))
 |handled own k d=>intro Q E p s b h;exact d _ Q E p s b h
 |genState g k d=>intro Q E p s b h;refine aV h λst hs h=>?_;exact(aS st hs (d _ Q E p s b h))
 |newGen c k d=>intro Q E p s b h;exact d _ Q E p _ b h
 |resume g r _ k d=>intro Q E p s b h;refine eA h λres D hw h=>?_;exact(iz res D hw (d res Q E p D (bg b (ac3 hw)) h))
 |yield _ _ _ _=>intro Q E p s _ h;exact h
 |stack k d=>intro Q E p s b h;exact d _ Q E p s b h
 |fork _ _=>intro Q E p s _ h;exact h
 |thread k d=>intro Q E p s b h;exact d _ Q E p s b h
 |await _ _ _ _ _=>intro Q E p s _ h;exact h
section
variable{J:Type}{M:kI}{A:bx}{s:aL}
theorem WY{t:bA J}{Q:J->aL->Prop}{E:aI->aL->Prop}(h:bc M A t Q E s):
  bc M A t (λa D=>s.heap.objs.size<=D.heap.objs.size/\Q a D) (λe D=>s.heap.objs.size<=D.heap.objs.size/\E e D) s:=
 λc p b=>Rq M c _ t _ _ p s (cu _) (h c p b)
theorem e9{t:bA J}{Q:J->aL->Prop}{E:aI->aL->Prop}
  (h:bc M A t (λa D=>s.heap.objs.size<=D.heap.objs.size->Q a D) (λe D=>s.heap.objs.size<=D.heap.objs.size->E e D) s):bc M A t Q E s:=
 iM (WY h) (λ_ _ x=>x.2 x.1) (λ_ _ x=>x.2 x.1)
end
structure cY (w:aZ) (nt:Option aJ) (W:List aJ) (Z:Fz) (s:aL) (Z':Fz) (ν':List T) (D:aL):Prop where
 le:Le Z Z'
 new:∀ b,b<s.heap.objs.size->Z' b=Z b
 on:On Z' D.heap
 ext:∀ b o,¬Mu nt b->b∉W->s.heap.get? b=some o->D.heap.get? b=some o
 size:s.heap.objs.size<=D.heap.objs.size
 nts:fi w Z' nt ν' D.heap
 gens:mD s.gens->mD D.gens
 os:D.os=s.os
 tab:∀ ps,jz s.heap ps->∃ more,jz D.heap (ps++more)
section
variable{w:aZ}{A:bx}{nt:Option aJ}{Z Z' Z'':Fz}{s D s'':aL}{Y ν' ν'':List T}{W W':List aJ}
theorem Nx.toW(N:Nx w nt Z s Z' ν' D)(W:List aJ):cY w nt W Z s Z' ν' D:={N with ext:=λb o h _ e=>N.ext b o h e}
theorem cY.mono(N:cY w nt W Z s Z' ν' D)(h:∀ b∈W,b∈W'):cY w nt W' Z s Z' ν' D:={N with ext:=λb o h1 h2 e=>N.ext b o h1 (λq=>h2 (h b q)) e}
theorem cY.trans(a:cY w nt W Z s Z' ν' D)(b:cY w nt W Z' D Z'' ν'' s''):cY w nt W Z s Z'' ν'' s'' where
 le:=a.le.trans b.le
 new:=λx h=>(b.new x (ck h a.size)).trans (a.new x h)
 on:=b.on
 ext:=λx o h h2 e=>b.ext x o h h2 (a.ext x o h h2 e)
 size:=bg a.size b.size
 nts:=b.nts
 gens:=λh=>b.gens (a.gens h)
 os:=b.os.trans a.os
 tab:=λc h=>by
  exact aQ λd=>aU (a.tab c h) λf h1=>aU (b.tab _ h1) λg h2=>d ⟨f++g,by refine xT▸?_;exact h2⟩
theorem cY.nx(N:cY w nt W Z s Z' ν' D)(h:∀ b∈W,s.heap.objs.size<=b):Nx w nt Z s Z' ν' D:=
 {N with ext:=λb o h1 e=>N.ext b o h1 (λq=>absurd (cg e) (lC.mpr (h b q))) e}
def fc(nt:Option aJ)(Z:Fz)(W:List aJ):Prop:=∀ b∈W,Z b=none/\171<=b/\nt≠some b
theorem eI(c:fi w Z nt Y s.heap)(d:On Z s.heap)(hw:fc nt Z W){h':bh}{tk:dz}(keep:∀ b o,b∉W->s.heap.get? b=some o->h'.get? b=some o)(hs:s.heap.objs.size<=h'.objs.size):
  cY w nt W Z s Z Y {s with heap:=h',toks:=tk} where
 le:=.refl _
 new:=λ_ _=>rfl
 on:=λb o e=>keep b o (λq=>by replace e:=(hw b q).1▸e;cases e) (d b o e)
 ext:=λb o _ h2 e=>keep b o h2 e
 size:=hs
 nts:=c.imp (.refl _) (λ_ _ x=>x) λ_ _ e y=>mY y λf g=>keep _ f (λq=>(hw _ q).2.2 e) g
 gens:=id
 os:=rfl
 tab:=λl h=>bn h λi h4=>bn i λy h3=>eA y λo j h1 h2=>
  have a:∀ b,b<171->b∉W:=λb k q=>absurd k (lC.mpr (hw b q).2.1)
  ⟨#[],acZ▸⟨⟨(iz o j (keep _ _ (a _ (by decide)) h1) h2),keep _ _ (a _ (by decide)) h3⟩,h4⟩⟩
theorem cY.put(N:cY w nt W Z s Z' ν' D){a:aJ}(h1:s.heap.objs.size<=a)(h2:Z' a=none)(h3:nt≠some a):cY w nt W Z s (Mine.Internal.put Z' D.heap a) ν' D where
 le:=N.le.trans (gc h2)
 new:=λb c=>(jF (dW (ck c h1))).trans (N.new b c)
 on:=w7 N.on
 ext:=N.ext
 size:=N.size
 nts:=N.nts.put h2 h3
 gens:=N.gens
 os:=N.os
 tab:=N.tab
noncomputable def i4(e:Expr):Bool:=e.ctorIdx.beq 25
structure It (w:aZ) (A:bx) (nt:Option aJ) (tg:Bool) (I0:aJ) (fp W:List aJ) (items:List T) (P:Nat->Fz->bh->Prop) (Mid:Nat->aI->Fz->bh->Prop):Prop where
 sub:∀ b∈W,b∈fp
 ok:∀ i Z h,P i Z h->fc nt Z W
 lt:∀ i Z h,P i Z h->∀ b∈fp,b<h.objs.size
 frame:∀ i Z Z' h h',P i Z h->Le Z Z'->fc nt Z' W->(∀ b∈fp,∀ o,h.get? b=some o->h'.get? b=some o)->P i Z' h'
 item:∀ i t Z (s:aL) Y (Q:Option aI->aL->Prop) (E:aI->aL->Prop),items[i]?=some t->P i Z s.heap->On Z s.heap->fi w Z nt Y s.heap->
  (∀ v Z' D,cY w nt W Z s Z' Y D->Rd w Z' t v->Mid i v Z' D.heap->Q (some v) D)->bc (model pw w) A (mE (.ref I0)) Q E s
 go:∀ tgt i v Z (s:aL) Y (Q:Unit->aL->Prop) (E:aI->aL->Prop),(tg=true->i4 tgt=true)->Mid i v Z s.heap->On Z s.heap->fi w Z nt Y s.heap->
  (∀ D,cY w nt W Z s Z Y D->P (i+1) Z D.heap->Q () D)->bc (model pw w) A (xY tgt (.ref I0) v) Q E s
 done:∀ i Z (s:aL) Y (Q:Option aI->aL->Prop) (E:aI->aL->Prop),items[i]?=none->P i Z s.heap->On Z s.heap->fi w Z nt Y s.heap->
  (∀ D,cY w nt W Z s Z Y D->Q none D)->bc (model pw w) A (mE (.ref I0)) Q E s
 self:∀ i Z (s:aL) (Q:aI->aL->Prop) (E:aI->aL->Prop),P i Z s.heap->Q (.ref I0) s->bc (model pw w) A (jP (.ref I0)) Q E s
noncomputable def AX:List String:=["enumerate","zip","dict_itemiterator","dict_reverseitemiterator","odict_iterator","itertools.zip_longest","itertools.pairwise"]
theorem Ga{a:Expr}{c:aJ}{v:aI}{o:bK}{n:String}{Q:Unit->aL->Prop}{E:aI->aL->Prop}(e:s.heap.get? c=some o)(hc:o.cls=.type n)(f:AX.contains n=false)(b:Q () s):
  bc (model pw w) A (xY a (.ref c) v) Q E s:=by
 have key:∀ T,bc (model pw w) A (do
   let o <- load c;match o.cls,o.data with
   |.type n,.fields d=>
    if ["enumerate","zip","dict_itemiterator","dict_reverseitemiterator","odict_iterator","itertools.zip_longest","itertools.pairwise"].contains n&&d[0]?==some (gY T)then
     rule "for.unpacks-the-owned-tuple"
     updateField c 0 .none
   |_,_=>pure ()) Q E s:=λT=>by
  refine ba (wpAny_load e (hc▸?_));cases o.data with
  |fields d=>
   show bc _ A (if (AX.contains n&&d[0]?==some (gY T))=true then _ else _) Q E s;rw[f,Cj];exact cm b
  |_=>exact cm b
 cases a with
 |Tuple=>cases v<;>first|exact key _|exact cm b
 |List=>cases v<;>first|exact key _|exact cm b
 |_=>exact cm b
theorem in1{b a:aJ}(h:b∈[a]):b=a:=jd.mp h
theorem in2{b a l:aJ}(h:b∈[a,l]){P:aJ->Prop}(p:P a)(q:P l):P b:=(bP.mp h).elim (λe=>e▸p) λe=>in1 e▸q
theorem z0{a:aJ}{h c:bh}(hs:ui a h c):∀ b o,b∉[a]->h.get? b=some o->c.get? b=some o:=λb o d e=>hs b o (λq=>d (q▸.head _)) e
theorem It.mk2(c l:aJ)(m:l≠c)(items:List T)(a:bh->Nat->Prop)(IsL:bh->Prop)(R:Fz->Prop)
  (B:∀ {h i},a h i->∃ o n,h.get? c=some o/\o.cls=.type n/\AX.contains n=false) (F:∀ {h},IsL h->l<h.objs.size)
  (G:∀ {h d i},a h i->(∀ o,h.get? c=some o->d.get? c=some o)->a d i) (C:∀ {h d},IsL h->(∀ o,h.get? l=some o->d.get? l=some o)->IsL d) (H:∀ {Z Z'},Le Z Z'->R Z->R Z')
  (I:∀ {i t Z} {s:aL} {Q:Option aI->aL->Prop} {E:aI->aL->Prop},items[i]?=some t->a s.heap i->IsL s.heap->R Z->
   (∀ v d,gZ c s.heap d->a d (i+1)->Rd w Z t v->Q (some v) {s with heap:=d})->bc (model pw w) A (mE (.ref c)) Q E s)
  (J:∀ {i Z} {s:aL} {Q:Option aI->aL->Prop} {E:aI->aL->Prop},items[i]?=none->a s.heap i->IsL s.heap->R Z->
   (∀ d,ui c s.heap d->s.heap.objs.size<=d.objs.size->Q none {s with heap:=d})->bc (model pw w) A (mE (.ref c)) Q E s)
  (K:∀ {i} {s:aL} {Q:aI->aL->Prop} {E:aI->aL->Prop},a s.heap i->Q (.ref c) s->bc (model pw w) A (jP (.ref c)) Q E s) :
  It w A nt false c [c,l] [c] items (λi Z h=>a h i/\IsL h/\R Z/\fc nt Z [c]) (λi _ Z h=>a h (i+1)/\IsL h/\R Z/\fc nt Z [c]) where
 sub:=λb q=>in1 q▸.head _
 ok:=λi Z h p=>p.2.2.2
 lt:=λi Z h p b q=>in2 q (P:=(·<h.objs.size)) (bG (B p.1) λo n r _ _=>cg r) (F p.2.1)
 frame:=λi Z Z' h d p f hw k=>⟨G p.1 (k c (.head _)),C p.2.1 (k l (.tail _ (.head _))),H f p.2.2.1,hw⟩
 item:=λi t Z s Y Q E u p f j g=>I u p.1 p.2.1 p.2.2.1 λv d hs hi L=>
  g v Z _ (eI j f p.2.2.2 (z0 hs.extBut) (gV hs.1.symm)) L ⟨hi,C p.2.1 λo=>hs.extBut l o m,p.2.2⟩
 go:=λM i v Z s Y Q E _ p f j g=>bG (B p.1) λo n r hc x=>Ga r hc x (g s (eI j f p.2.2.2 (λ_ _ _ e=>e) (cu _)) p)
 done:=λi Z s Y Q E u p f j g=>J u p.1 p.2.1 p.2.2.1 λd y z=>g _ (eI j f p.2.2.2 (z0 y) z)
 self:=λi Z s Q E p g=>K p.1 g
theorem It.list(j:A.handled=none)(a l:aJ)(d:l≠a)(items:List T)(b:List aI):
  It w A nt false a [a,l] [a] items (λi Z h=>h.IsListIter a l i/\h.IsList l b.toArray/\bm w Z items b/\fc nt Z [a]) (λi v Z h=>h.IsListIter a l (i+1)/\h.IsList l b.toArray/\bm w Z items b/\fc nt Z [a]):=
 It.mk2 a l d items (λh=>h.IsListIter a l) (λh=>h.IsList l b.toArray) (λZ=>bm w Z items b) (λp=>ej p λo m hc _=>(cE o _ m hc rfl)) mS (λp k=>aU p λo r=>(aS o (k o r.1) r.2)) oU (λn=>bm.mono n _)
  (λe p q r f=>aV (bm.get r e) λv t u=>ad0 p q (x:=v) (im.trans t) λy c g=>f v y g c u)
  (λe p q r f=>e9 (ad1 j p q (im.trans (lG (by refine bm.length r▸?_;exact rC.mp e))) f))
  wpAny_pyIter_listiter
theorem It.tuple(m:A.handled=none)(a l:aJ)(d:l≠a)(items:List T)(b:List aI):
  It w A nt false a [a,l] [a] items (λi Z h=>h.IsTupleIter a l i/\h.IsTuple l b.toArray/\bm w Z items b/\fc nt Z [a]) (λi v Z h=>h.IsTupleIter a l (i+1)/\h.IsTuple l b.toArray/\bm w Z items b/\fc nt Z [a]):=
 It.mk2 a l d items (λh=>h.IsTupleIter a l) (λh=>h.IsTuple l b.toArray) (λZ=>bm w Z items b) (λp=>ej p λo e hc _=>(cE o _ e hc rfl)) (λp=>aV p λo e _=>cg e) (λp k=>aU p λo r=>(aS o (k o r.1) r.2)) (λp k=>aU p λo r=>(aS o (k o r.1) r.2)) (λn=>bm.mono n _)
  (λf p q r g=>aV (bm.get r f) λv t u=>wpAny_pyNext_tuple_item p q (x:=v) (im.trans t) λy c j=>g v y j c u)
  (λf p q r g=>e9 (wpAny_pyNext_tuple_end m p q (im.trans (lG (by refine bm.length r▸?_;exact rC.mp f))) g))
  wpAny_pyIter_tupleiter
theorem It.range(C:A.handled=none)(c:aJ)(a:Int)(n:Nat):
  It w A nt false c [c] [c] ((aO n).map λ(j:Nat)=>T.int (a+j*1)) (λi Z h=>i<=n/\IsRangeIter h c (a+(i:Nat)*1) ((n:Int)-(i:Nat)) 1/\fc nt Z [c]) (λi v Z h=>i+1<=n/\IsRangeIter h c (a+((i+1:Nat):Int)*1) ((n:Int)-((i+1:Nat):Int)) 1/\fc nt Z [c]) where
 sub:=λb d=>d
 ok:=λi Z h p=>p.2.2
 lt:=λi Z h p b d=>by
  simp only[bP,dP,or_false]at d;subst d;exact cg p.2.1
 frame:=λi Z Z' h u p g hw k=>⟨p.1,k c (by simp) _ p.2.1,hw⟩
 item:=λi t Z s Y Q E l p g m f=>by
  have hi:i<n:=by
   have:=je.mp l;refine aU this λx _=>?_;clear this;simpa using x
  have y:t=.int (a+i*1):=by
   rw[fR,rD hi]at l;simpa using l.symm
  refine wpAny_pyNext_range_item p.2.1 (by lia) λu q r=>?_;have keep:∀ b o,b∉[c]->s.heap.get? b=some o->u.get? b=some o:=λb o d e=>r.extBut b o (λh=>d (by simp[h])) e;refine f _ Z _ (eI m g p.2.2 keep (by rw[r.1];exact cu _)) (by rw[y];exact⟨_,rfl⟩) ⟨hi,?_,p.2.2⟩;rw[show a+((i+1:Nat):Int)*1=a+(i:Nat)*1+1 by lia,show(n:Int)-((i+1:Nat):Int)=(n:Int)-(i:Nat)-1 by exact Rc];exact q
 go:=λF i v Z s Y Q E _ p g m f=>Ga p.2.1 rfl rfl (f s (eI m g p.2.2 (λ_ _ _ e=>e) (cu _)) p)
 done:=λi Z s Y Q E l p g m f=>by
  have hi:i=n:=by
   have:=rC.mp l;simp only[dm,kc]at this;exact Jv p.1 this
  subst hi;exact e9 (wpAny_pyNext_range_end C p.2.1 (PZ) λu z B=>f _ (eI m g p.2.2 (λb o d e=>z b o (λh=>d (by simp[h])) e) B))
 self:=λi Z s Q E p f=>wpAny_pyIter_rangeiter p.2.1 f
theorem bY.length{Z:Fz}:∀ {l:List (Int×T)} {d:List (Int×aI)},bY w Z l d->d.length=l.length:=by
 intro a;induction a with
 |nil=>
  intro _ h;exact congrArg j9 h
 |cons b r c=>
  obtain⟨k,t⟩:=b;intro _ h;exact bG h λv f e _ h2=>(congrArg j9 e).trans (congrArg (·+1) (c h2))
theorem bY.get{Z:Fz}:∀ {l:List (Int×T)} {g:List (Int×aI)},bY w Z l g->∀ {i:Nat} {p:Int×T},l[i]?=some p->∃ v,g[i]?=some (p.1,v)/\Rd w Z p.2 v:=by
 intro a;induction a with
 |nil=>
  intro _ h i p e;exact bD e
 |cons b r c=>
  obtain⟨k,m⟩:=b;intro _ h d;cases d with
  |zero=>
   intro p e;exact bG h λv j f h1 h2=>(aS v (f▸bw e▸rfl) (bw e▸h1))
  |succ i=>
   intro p e;exact bG h λv j f h1 h2=>aV (c (i:=i) h2 e) λu h3 h4=>(aS u (f▸h3) h4)
theorem bY.at{Z:Fz}{l:List (Int×T)}{a:List (Int×aI)}(h:bY w Z l a){i:Nat}{t:T}{f:Int×T->T}(e:(l.map f)[i]?=some t):∃ p v,f p=t/\a[i]?=some (p.1,v)/\Rd w Z p.2 v:=
 aV (xZ.mp (fR.symm.trans e)) λp hk b=>aV (bY.get h hk) λv c d=>(cE p v b c d)
theorem bY.end_{Z:Fz}{l:List (Int×T)}{a:List (Int×aI)}(h:bY w Z l a){i:Nat}{f:Int×T->T}(e:(l.map f)[i]?=none):a[i]?=none:=
 lG (by rw[bY.length h,<- dm f];exact rC.mp e)
theorem tw{h c:bh}{a:aJ}{b:List (Int×aI)}{d:Nat}(x:h.DictAt (ik w) a b d)(k:∀ o,h.get? a=some o->c.get? a=some o):c.DictAt (ik w) a b d:=
 eA x λo e f r=>iz o e (k _ f) r
theorem Fa{h:bh}{a:aJ}{b:List (Int×aI)}{c:Nat}(x:h.DictAt (ik w) a b c):a<h.objs.size:=eA x λo _ d _=>cg d
theorem It.keys(t:A.handled=none)(b l:aJ)(g:l≠b)(items:List (Int×T))(a:List (Int×aI))(c:Nat):
  It w A nt false b [b,l] [b] (items.map λp=>T.int p.1) (λi Z h=>h.IsKeyIter b l i a.length c/\h.DictAt (ik w) l a c/\bY w Z items a/\fc nt Z [b]) (λi v Z h=>h.IsKeyIter b l (i+1) a.length c/\h.DictAt (ik w) l a c/\bY w Z items a/\fc nt Z [b]):=
 It.mk2 b l g _ (λh i=>h.IsKeyIter b l i a.length c) (λh=>h.DictAt (ik w) l a c) (λZ=>bY w Z items a) (λp=>ej p λo x hc _=>(cE o _ x hc rfl)) Fa (λp k=>aU p λo r=>(aS o (k o r.1) r.2)) tw (λy=>bY.mono y _)
  (λj p q r m=>bG (r.at j) λE v e z F=>wpAny_pyNext_dict_item p q z λkey B d f n=>aU (ad2 d) λu C=>m key B n f (e▸⟨u,C⟩))
  (λj p q r m=>e9 (wpAny_pyNext_dict_end t p q (r.end_ j) m))
  wpAny_pyIter_keyiter
theorem It.vals(n:A.handled=none)(b l:aJ)(f:l≠b)(items:List (Int×T))(a:List (Int×aI))(c:Nat):
  It w A nt false b [b,l] [b] (items.map λp=>p.2) (λi Z h=>h.IsValIter b l i a.length c/\h.DictAt (ik w) l a c/\bY w Z items a/\fc nt Z [b]) (λi v Z h=>h.IsValIter b l (i+1) a.length c/\h.DictAt (ik w) l a c/\bY w Z items a/\fc nt Z [b]):=
 It.mk2 b l f _ (λh i=>h.IsValIter b l i a.length c) (λh=>h.DictAt (ik w) l a c) (λZ=>bY w Z items a) (λp=>ej p λo t hc _=>(cE o _ t hc rfl)) Fa (λp k=>aU p λo r=>(aS o (k o r.1) r.2)) tw (λu=>bY.mono u _)
  (λg p q r j=>bG (r.at g) λB v e x y=>wpAny_pyNext_values_item p q x λz d m=>j v z m d (e▸y))
  (λg p q r j=>e9 (wpAny_pyNext_values_end n p q (r.end_ g) j))
  wpAny_pyIter_valiter
theorem Xe:entryFor table "dict_itemiterator.__iter__"=some Builtin.«dict_keyiterator.__iter__»:=
 entryFor_alias (id':="dict_keyiterator.__iter__") (by kernel_rfl) rfl (by decide+kernel) (by kernel_rfl)
theorem V8{E:aI->aL->Prop}{a d:aJ}{i n b:Nat}{ok c:aI}{Q:aI->aL->Prop}(hit:IsItemIter s.heap a d i n b ok c)(h:Q (.ref a) s):bc (model pw w) A (jP (.ref a)) Q E s:=by
 have hT:s.TypeIs (.ref a) "dict_itemiterator":=(aS _ hit rfl);refine wpAny_pyIter_slot hT ad3 (rE ad3 hT Xe ?_ (F.args_dict_itemiterator_iter_1 _));show bc _ _ (ret (.ref a)) _ _ s;exact cm (m0 _ rfl ("dict_itemiterator") _ hT ⟨F.slot_dict_itemiterator_next.lookup,h⟩)
theorem LX{a:Expr}(h:i4 a=true):∃ b k pos,a=.Tuple b k pos:=by cases a<;>first|exact(dH _ _ _ rfl)|cases h
theorem It.items(U:A.handled=none)(d l:aJ)(F:l≠d)(items:List (Int×T))(g:List (Int×aI))(L:Nat):
  It w A nt true d [d,l] [d] (items.map λp=>T.tup [T.int p.1,p.2]) (λi Z h=>(∃ ok x,IsItemIter h d l i g.length L ok x)/\h.DictAt (ik w) l g L/\bY w Z items g/\fc nt Z [d])
   (λi v Z h=>(∃ a ok x,v=.ref a/\IsItemIterOut h d l (i+1) g.length L ok x a)/\h.DictAt (ik w) l g L/\bY w Z items g/\fc nt Z [d]) where
 sub:=λb c=>by simp at c;simp[c]
 ok:=λi Z h p=>p.2.2.2
 lt:=λi Z h p b c=>by
  simp only[bP,dP,or_false]at c;rcases c with rfl|rfl
  ·refine gQ p.1 λ_ _ z=>?_;exact cg z
  ·refine eA p.2.1 λo _ z _=>?_;exact cg z
 frame:=λi Z Z' h m p r hw k=>⟨gQ p.1 λa b z=>dA a b (k d (by simp) _ z),tw p.2.1 λo e=>k l (by simp) o e,bY.mono r _ p.2.2.1,hw⟩
 item:=λi t Z s Y Q E M p r B C=>by
  rw[fR]at M;refine aQ λG=>aV (xZ.mp M) λn hk V=>?_;obtain⟨k,t'⟩:=n;subst V;refine aV (bY.get p.2.2.1 hk) λv X hr=>fX p λn hd j hw=>?_;clear p;obtain⟨ok,x,hit⟩:=n;refine G (wpAny_pyNext_items_item hit hd X λkey m H I hT J O=>?_);have keep:∀ b o,b∉[d]->s.heap.get? b=some o->m.get? b=some o:=λb o c e=>O b o (by simpa using c) e;refine aU (ad2 H) λu y1=>?_;subst y1;have N0:cY w nt [d] Z s Z Y {s with heap:=m}:=eI B r hw keep (by rw[J];exact mz _);have f:Z s.heap.objs.size=none:=by
   cases q:Z s.heap.objs.size with
   |none=>rfl
   |some o=>exact absurd (cg (r _ _ q)) (cQ _)
  have f2:nt≠some s.heap.objs.size:=λe=>by
   rw[e]at B;exact eo B λ_ vs y _=>absurd (jo y) (cQ _)
  have N:=N0.put (cu _) f f2;have hI:d<s.heap.objs.size:=cg hit;refine C _ _ {s with heap:=m} N ?_ ⟨(dH _ _ _ ⟨rfl,I⟩),tw hd λo e=>keep l o (by simpa using F) e,bY.mono N.le _ j,λb c=>?_⟩
  ·exact(fy _ _ [.int k u,v] rfl (gM.trans hT) ⟨rfl,0,rfl⟩ (dA _ _ ⟨rfl,⟨_,rfl⟩,(cE _ _ rfl (Rd.mono N.le _ hr) rfl)⟩))
  ·refine bO (hw b c) λa1 a2 a3=>⟨?_,a2,a3⟩;simp only[bP,dP,or_false]at c;subst c;show(if b=s.heap.objs.size then _ else _)=_;rw[if_neg (dW hI)];exact a1
 go:=λa0 i v Z s Y Q E P p r B C=>by
  refine aQ λG=>eZ (LX (P rfl)) λes k pos y3=>?_;subst y3;refine fX p λn hd j hw=>?_;clear p;obtain⟨a,ok,x,rfl,z⟩:=n;refine G (wpAny_letOwnedTupleGo_items z λm hi K=>?_);have keep:∀ b o,b∉[d]->s.heap.get? b=some o->m.get? b=some o:=λb o c e=>K.extBut b o (λh=>c (by simp[h])) e;exact C {s with heap:=m} (eI B r hw keep (by rw[K.1];exact cu _)) ⟨(dA _ _ hi),tw hd λo e=>keep l o (by simpa using F) e,j,hw⟩
 done:=λi Z s Y Q E M p r B C=>by
  refine aQ λG=>fX p λn hd j hw=>?_;clear p;obtain⟨ok,x,hit⟩:=n;refine G (e9 (wpAny_pyNext_items_end U hit hd (lG (by rw[bY.length j];simpa using rC.mp M)) λm R S=>?_));exact C {s with heap:=m} (eI B r hw (λb o c e=>R b o (λh=>c (by simp[h])) e) S)
 self:=λi Z s Q E p C=>by refine bn p λn _=>?_;clear p;obtain⟨ok,x,hit⟩:=n;exact V8 hit C
end
inductive PT where
 |nm (i:Nat)|tp (l:List PT)
noncomputable def T.seq?:T->Option (List T)
 |.tup l=>some l
 |.lst l=>some l
 |.none|.bool _|.int _|.flt _|.str _|.dct _|.inst _=>nU
mutual
noncomputable def bU(a:List Nat):PT->T->List S->Option (List S)
 |.nm i,t,O=>if a.contains i/\i<O.length then some (O.set i (.v t))else none
 |.tp l,t,O=>t.seq?.bind λb=>kr a l b O
noncomputable def kr(b:List Nat):List PT->List T->List S->Option (List S)
 |[],a,O=>if a.isEmpty=true then some O else none
 |p::c,a,O=>a.head?.bind λt=>(bU b p t O).bind λU=>kr b c a.tail U
end
noncomputable def pE:Expr->Option Str×Option (List Expr)
 |.Name x _=>(some x,none)
 |.Tuple a _ _=>(none,some a)
 |_=>(none,none)
noncomputable def aci(o:Option (Option Str))(e:Expr):Bool:=(pE e).1.any λx=>o==some (some x)
noncomputable def OC(e:Expr):Option (List Expr):=(pE e).2
mutual
noncomputable def gP(nm:List (Option Str)):PT->Expr->Bool
 |.nm i,e=>aci nm[i]? e
 |.tp l,e=>match OC e with
  |some a=>oz nm l a
  |none=>false
noncomputable def oz(nm:List (Option Str)):List PT->List Expr->Bool
 |[],a=>a.isEmpty
 |p::b,a=>match a with
  |[]=>false
  |e::a=>gP nm p e&&dQ e&&oz nm b a
end
theorem HE{nm:List (Option Str)}{i:Nat}{e:Expr}(h:gP nm (.nm i) e=true):∃ x pos,e=.Name x pos/\nm[i]?=some (some x):=by
 cases e with
 |Name x p=>exact(iz x p rfl (dN h))
 |_=>exact nI h
theorem M9{nm:List (Option Str)}{l:List PT}{e:Expr}(h:gP nm (.tp l) e=true):∃ a k pos,e=.Tuple a k pos/\oz nm l a=true:=by
 cases e with
 |Tuple a k p=>exact(dH a k p ⟨rfl,h⟩)
 |_=>exact nI h
section
variable{w:aZ}{A:bx}{F:Fx}{J:Nat->aJ}{Z Z':Fz}{O U:List S}{Y ν':List T}{s D:aL}
theorem qf{h:bh}{a c:aJ}{m}{v}(x:h.Ns a m)(y:h.IsCell c v):a≠c:=by
 rintro rfl;refine aQ λe=>sg x λo g i f hd _=>?_;clear x;refine aV y λj b d=>?_;clear y;refine e ?_;replace b:=f▸b;cases b;replace d:=hd▸d;cases d
theorem St.faW(H:St w F J Z O Y s):fc F.nt Z F.fa:=λb a=>⟨(H.fz b a).1,bg H.ok.big (H.ok.fah b a),λe=>H.ok.ntf b e a⟩
theorem St.turn(H:St w F J Z O Y s){c:aJ}{g:bh}{p:dz}(hc:c∈F.fa)(hs:gZ c s.heap g)
  (k:∀ x d,F.env.cells.lookup x=some d->∃ v,g.IsCell d v)
  (z:∃ m,g.Ns F.env.locals m/\∀ i x S,F.nm[i]?=some (some x)->U[i]?=some S->S≠.no->∃ v,Look F.env m g x v/\dY w F.nt Z g (J i) S v)
  (l:∀ (i:Nat) (S:Mine.Internal.S),U[i]?=some S->S.isOwn->O[i]?=some S):St w F J Z U Y {s with heap:=g,toks:=p}:=by
 have keep:∀ b o,b∉F.fa->s.heap.get? b=some o->g.get? b=some o:=λb o n e=>(hs.2 b (λq=>n (q▸hc))).trans e;have N:=eI (tk:=p) H.nts H.on H.faW keep (gV hs.1.symm);refine aU H.tab λB C=>⟨H.ok,N.on,H.md,N.nts,H.gens,λb o n e=>?_,?_,λa r=>⟨(H.fz a r).1,?_⟩,k,z,λi S e q=>?_,λi j S t E u G y=>H.inj i j S t (l i S E u) u (l j t G y) y⟩
 ·have h1:=H.base b o n e;have:b≠c:=λq=>absurd (cg e) (lC.mpr (q▸H.ok.fah c hc));exact(hs.2 b this).trans h1
 ·refine aU (N.tab B C) λmore h=>?_;exact⟨_,h⟩
 ·show a<g.objs.size;refine hs.1▸?_;exact(H.fz a r).2
 ·exact gj (H.own i S (l i S e q) q) λa b I d f=>⟨a,b,I,by show _<g.objs.size;refine hs.1▸?_;exact d,f⟩
theorem Look.other{d:cz}{m g:Str->Option aI}{h i:bh}{x:Str}{v:aI}(l:Look d m h x v)(j:d.kindOf x=some .local->g x=m x)(hc:∀ c,d.cells.lookup x=some c->h.IsCell c (some v)->i.IsCell c (some v)):Look d g i x v:=by
 rcases l with ⟨a,b⟩|⟨a,c,e,f⟩
 ·exact .inl ⟨a,(j a).trans b⟩
 ·exact .inr (fu a c e (hc c e f))
theorem AL(H:St w F J Z O Y s){i:Nat}{x:Str}{t:T}{v:aI}{Q:Unit->aL->Prop}{E:aI->aL->Prop}(hi:F.nm[i]?=some (some x))(hw:i∈F.wr)(P:i<O.length)(r:Rd w Z t v)
  (W:∀ D,cY w F.nt F.fa Z s Z Y D->St w F J Z (O.set i (.v t)) Y D->Q () D):bc (model pw w) A (storeName F.env x v) Q E s:=by
 refine aQ λG=>aV H.vars λm I X=>G ?_;have z:∀ (j:Nat) (S:Mine.Internal.S),(O.set i (.v t))[j]?=some S->S.isOwn->O[j]?=some S:=λj S e q=>by
  by_cases g:i=j
  ·subst g;replace e:=fT P▸e;cases e;exact q.elim
  ·rwa [ed g]at e
 have K:∀ (h:bh) (tk:dz) (c:aJ),c∈F.fa->gZ c s.heap h->cY w F.nt F.fa Z s Z Y {s with heap:=h,toks:=tk}:=λh tk c hc hs=>
  eI H.nts H.on H.faW (λb o hb e=>(hs.2 b (λq=>hb (q▸hc))).trans e) (gV hs.1.symm)
 have other:∀ (h:bh) (c:aJ),c∈F.fa->gZ c s.heap h->∀ (j:Nat) (S:Mine.Internal.S) (u:aI),O[j]?=some S->dY w F.nt Z s.heap (J j) S u->dY w F.nt Z h (J j) S u:=λh c hc hs j S u e so=>
  so.ext (.refl _) λq o k=>(hs.2 (J j) (λ(q2:J j=c)=>(H.own j S e q).2.2.2.2 (q2.symm▸hc))).trans k
 rcases H.ok.wrk i hw x hi with hk|⟨hk,c,l,hc⟩
 ·refine ad4 hk I (λh n hs=>?_) (by refine H.ok.kf▸?_;rfl);refine W _ (K h _ _ H.ok.loc hs) (H.turn H.ok.loc hs (λy d hd=>?_) (aS _ n (λj y S g a R=>?_)) z)
  ·exact aU (H.cel y d hd) λu N=>⟨u,jg N λo k=>(hs.2 d (λq=>qf I N q.symm)).trans k⟩
  ·by_cases f:i=j
   ·subst f;replace a:=fT P▸a;cases a;replace g:=hi▸g;cases g;exact(aS v (.inl ⟨hk,if_pos rfl⟩) r)
   ·replace a:=ed f▸a;refine aQ λG=>aV (X j y S g a R) λu B C=>G (aS u (B.other (λ_=>if_neg (λ(q:y=x)=>f (H.ok.nmi i j x hi (by refine q▸?_;exact g)))) λd hd p=>jg p λo k=>(hs.2 d (λq=>qf I p q.symm)).trans k) (other h _ H.ok.loc hs j S u a C))
 ·refine aU (H.cel x c l) λu0 L=>ad5 H.ok.kf hk l L λh n hs=>?_;have V:F.env.locals≠c:=qf I L;refine W _ (K h _ _ hc hs) (H.turn hc hs (λy d hd=>?_) (aS m (pv I λo k=>(hs.2 _ V).trans k) (λj y S g a R=>?_)) z)
  ·by_cases M:d=c
   ·exact⟨_,M▸n⟩
   ·exact aU (H.cel y d hd) λu N=>⟨u,jg N λo k=>(hs.2 d M).trans k⟩
  ·by_cases f:i=j
   ·subst f;replace a:=fT P▸a;cases a;replace g:=hi▸g;cases g;exact(aS v (.inr (fu (.inl hk) c l n)) r)
   ·replace a:=ed f▸a;refine aQ λG=>aV (X j y S g a R) λu B C=>G (aS u (B.other (λ_=>rfl) λd hd p=>jg p λo k=>(hs.2 d λ(q:d=c)=>?_).trans k) (other h _ hc hs j S u a C));subst q;have:=H.ok.cap x y d l hd;subst this;exact f (H.ok.nmi i j x hi g)
theorem Fd{b:cz}{a:List Expr}{k:Nat}{pos:br}{v:aI}{n:Nat}{Q:Unit->aL->Prop}{E:aI->aL->Prop}(e:(jt a b).length=n)(c:(jt a b).findIdx? (·.1)=none)
  (h:bc (model pw w) A (CB v n none) (λf d=>bc (model pw w) A (CC ((jt a b).map (·.2)) f) Q E d) E s) :
  bc (model pw w) A (iN (.Tuple a k pos) b v) Q E s:=by
 subst e;show bc _ _ (do gJ pos;unpack v (jt a b)) _ _ _;refine ba (gr ?_);unfold unpack;exact c▸(ba (fG h))
theorem Al{env:cz}:∀ {es:List Expr},es.all dQ=true->(jt es env).length=es.length/\(jt es env).findIdx? (·.1)=none/\(jt es env).map (·.2)=es.map λe=>iN e env:=by
 intro d;induction d with
 |nil=>
  intro _;exact⟨rfl,rfl,rfl⟩
 |cons e es f=>
  intro h;exact bn (ee h) λh1 h2=>bO (f h2) λa b c=>by
    have:jt (e::es) env=(false,iN e env)::jt es env:=by
     cases e with
     |Starred=>exact nI h1
     |_=>rfl
    exact this▸⟨congrArg (·+1) a,(Jw).trans (congrArg (ri (·+1)) b),congrArg (iN e env::·) c⟩
theorem FD{nm:List (Option Str)}:∀ {d:List PT} {c:List Expr},oz nm d c=true->c.all dQ=true/\d.length=c.length:=by
 intro f;induction f with
 |nil=>
  intro c h;refine nX.mp h▸?_;exact⟨rfl,rfl⟩
 |cons p d g=>
  intro i;cases i with
  |nil=>
   intro h;exact nI h
  |cons e c=>
   intro h;exact bn (ee h) λh1 h2=>bn (g h2) λa b=>⟨by rw[gX,(ee h1).2,a];rfl,congrArg (·+1) b⟩
theorem Qv{e:List Nat}:∀ {a:List PT} {ts:List T} {O U:List S},kr e a ts O=some U->a.length=ts.length:=by
 intro b;induction b with
 |nil=>
  intro ts O U;exact cb λh _=>(congrArg j9 (nX.mp h)).symm
 |cons p a c=>
  intro d;cases d with
  |nil=>
   intro _ _;exact bD
  |cons t ts=>
   intro O U;exact aX λf _=>aX λI _ h2=>congrArg (·+1) (c (ts:=ts) h2)
theorem Ou{e l:aJ}{items:List aI}(j:l≠e):∀ (n i:Nat) (s:aL) (Q:List aI->aL->Prop) (E:aI->aL->Prop),s.heap.IsListIter e l i->s.heap.IsList l items.toArray->i+n<=items.length->
  (∀ k,k.IsListIter e l (i+n)->gZ e s.heap k->Q ((items.drop i).take n) {s with heap:=k})->bc (model pw w) A (cV (.ref e) n) Q E s:=by
 intro m;induction m with
 |zero=>
  intro i s Q E hit _ _ o;exact cm (by simpa using o s.heap hit (Heap.SameBut.refl ..))
 |succ n p=>
  intro i s Q E hit q f o;have g:i<items.length:=by exact(acy f)
  show bc _ _ (mE (.ref e) >>= _) Q E s;refine ba (ad0 hit q (x:=items[i]) (by simp[g]) λr b a=>ba (fG (p (i+1) _ _ _ b (q.extBut a.extBut j) (by exact ab1 f) λh c d=>cm ?_)));have hd:items.drop i=items[i]::items.drop (i+1):=Jx g;have:=o h (by refine(show i+(n+1)=i+1+n by exact GC)▸?_;exact c) (a.trans d);replace this:=List.take_succ_cons▸hd▸this;exact this
theorem Vv{l:aJ}{items:List aI}{Q:List aI->aL->Prop}{E:aI->aL->Prop}(p:A.handled=none)(g:s.heap.IsList l items.toArray)
  (q:∀ k,ui s.heap.objs.size s.heap k->Q items {s with heap:=k}):bc (model pw w) A (CB (.ref l) items.length none) Q E s:=by
 have h:l≠s.heap.objs.size:=by refine aV g λo r _=>?_;clear g;exact dW (cg r)
 have a:(s.heap.push {cls:=.type "list_iterator",data:=.fields #[.ref l,.int 0 0]}).IsList l items.toArray:=oU g λo e=>cA _ e;unfold CB;refine ba ?_;unfold notIterableAtAll;refine ba (Jy g.typeIs PySem.F.slot_list_iter.lookup (cm ?_));simp only[jc,if_false];refine ba (fG (Jz g (ba (fG (Ou h items.length 0 _ _ _ (cI _ (dx _ rfl) rfl rfl) a (VG) λm d c=>?_)))));have i:Ch items.length (List.drop 0 items)=items:=by simp
 rw[i,if_neg (by simp)];refine ba (fG (ad1 p d (a.extBut c.extBut h) (by simp) λj f=>?_));simp only[Option.isSome_none,jc,if_false];exact cm (q j λb o n e=>f b o n (c.extBut b o n (cA _ e)))
theorem Oy(q:A.handled=none)(H:St w F J Z O Y s){t:T}{u:List T}{v:aI}(e:t.seq?=some u)(r:Rd w Z t v):
  ∃ d,bm w Z u d/\∀ {n:Nat} {Q:List aI->aL->Prop} {E:aI->aL->Prop},n=d.length->(∀ D,Nx w F.nt Z s Z Y D->Q d D)->bc (model pw w) A (CB v n none) Q E s:=by
 have fin:∀ {Q:List aI->aL->Prop} {d:List aI},(∀ D,Nx w F.nt Z s Z Y D->Q d D)->∀ g,ui s.heap.objs.size s.heap g->s.heap.objs.size<=g.objs.size->Q d {s with heap:=g}:=λf g x h=>
  f _ ((eI (tk:=s.toks) (W:=[]) H.nts H.on (λb i=>nomatch i) (λb o _ e=>x b o (dW (cg e)) e) h).nx (λb i=>nomatch i))
 cases t with
 |tup l=>
  obtain rfl:=bw e;exact gC r λa o d j k c m=>(aS d m (λ{n Q E} p f=>by
   subst j p;exact e9 (JA q (cI o (H.on _ _ k) c.1 c.2) (fin f))))
 |lst l=>
  obtain rfl:=bw e;exact gC r λa o d j k c m=>(aS d m (λ{n Q E} p f=>by
   subst j p;exact e9 (Vv q (cI o (H.on _ _ k) c.1 c.2) (fin f))))
 |_=>exact bD e
mutual
theorem wD(g:A.handled=none):∀ (p:PT) {a:Expr} {t:T} {v:aI} {O U:List S} {s:aL} {Q:Unit->aL->Prop} {E:aI->aL->Prop},gP F.nm p a=true->St w F J Z O Y s->Rd w Z t v->bU F.wr p t O=some U->
  (∀ D,cY w F.nt F.fa Z s Z Y D->St w F J Z U Y D->Q () D)->bc (model pw w) A (iN a F.env v) Q E s
 |.nm i,a,t,v,O,U,s,Q,E,d,H,r,b,e=>by
  refine eA (HE d) λx pos y j=>?_;subst y;revert b;refine cb λhc b=>?_;obtain rfl:=bw b;exact x0 (AL H j (pe.mp hc.1) hc.2 r e)
 |.tp l,a,t,v,O,U,s,Q,E,d,H,r,b,e=>by
  refine lV (M9 d) λq k pos y c=>?_;subst y;revert b;refine aX λu m b=>?_;exact aV (Oy g H m r) λz h un=>bn (FD c) λh1 h2=>bO (Al (env:=F.env) h1) λa1 a2 a3=>Fd rfl a2 (un (by exact a1▸bm.length h▸Qv b▸h2▸rfl) λD N=>a3▸(F0 g l c (H.next N) h b λf n o=>e f ((N.toW F.fa).trans n) o))
theorem F0(k:A.handled=none):∀ (c:List PT) {f:List Expr} {g:List T} {b:List aI} {O U:List S} {s:aL} {Q:Unit->aL->Prop} {E:aI->aL->Prop},oz F.nm c f=true->St w F J Z O Y s->bm w Z g b->kr F.wr c g O=some U->
  (∀ D,cY w F.nt F.fa Z s Z Y D->St w F J Z U Y D->Q () D)->bc (model pw w) A (CC (f.map λe=>iN e F.env) b) Q E s
 |[],f,g,b,O,U,s,Q,E,d,H,r,a,h=>by
  revert a;refine cb λl a=>?_;obtain rfl:=bw a;replace r:=nX.mp l▸r;exact nX.mp d▸(show b=[]from r)▸(ad6 (h s (H.nx.toW _) H))
 |p::c,[],g,b,O,U,s,Q,E,d,H,r,a,h=>nI d
 |p::c,e::f,[],b,O,U,s,Q,E,d,H,r,a,h=>bD a
 |p::c,e::f,t::g,b,O,U,s,Q,E,d,H,r,a,h=>by
  refine bn (ee d) λp1 p2=>?_;revert a;refine aX λC m=>aX λI i j=>?_;obtain rfl:=bw m;refine bG r λv G n o q=>?_;subst n;exact JB (wD k p (ee p1).1 H o i λK u x=>F0 k c p2 x q j λy z B=>h y (u.trans z) B)
end
end
noncomputable def jI(b:cz):List (Str×NameKind)->List (Str×aJ)->List (Str×aJ)
 |[],a=>a
 |(n,k)::r,a=>jI b r (if k==.free then(n,(b.cells.lookup n).getD 0)::a else a)
theorem Yl{b:cz}{a:List (Str×aJ)}:jI b [] a=a:=rfl
theorem MM{a:cz}{p:Str×NameKind}{r:List (Str×NameKind)}{b:List (Str×aJ)}:jI a (p::r) b=jI a r (if p.2==.free then(p.1,(a.cells.lookup p.1).getD 0)::b else b):=rfl
theorem abr{d:Scope}{b:cz}(h:∀ x∈d.names,x.2=.free->(b.cells.lookup x.1).isSome=true):closureFor d b=pure (jI b d.names []):=by
 have key:∀ (l:List (Str×NameKind)) (e:List (Str×aJ)),(∀ x∈l,x.2=.free->(b.cells.lookup x.1).isSome=true)->
   (forIn l e λ(x:Str×NameKind) (r:List (Str×aJ))=>(match x with|(name,kind)=>if (kind==pf)=true then(do let a <- cellOf b name;pure (kH ((name,a)::r)))else pure (kH r):bA (ForInStep (List (Str×aJ)))))=(pure (jI b l e):bA _):=by
  intro l;induction l with
  |nil=>intro e _;rfl
  |cons x l i=>
   intro e f;obtain⟨n,k⟩:=x;rw[rm];show _=pure (jI b l (if k==.free then(n,(b.cells.lookup n).getD 0)::e else e));by_cases hk:(k==pf)=true
   ·have hs:=f (n,k) (.head _) (dN hk);refine aU (pg.mp hs) λc hc=>?_;have:cellOf b n=pure c:=by unfold cellOf;exact hc▸rfl
    simp only[hk,if_true,this];refine(i _ λy g=>f y (.tail _ g))▸?_;show(forIn l ((n,c)::e) _:bA _)=forIn l ((n,(b.cells.lookup n).getD 0)::e) _;refine hc▸?_;rfl
   ·simp only[hk];rw[if_neg (by simp)];exact i e λy g=>f y (.tail _ g)
 simp only[closureFor];have:=key d.names [] h;first
  |(refine this▸?_;rfl)
  |(refine Eq.trans (congrArg (λz=>z >>= pure) this) rfl)
theorem P2{b:cz}{x:Str}:∀ (l:List (Str×NameKind)) (a:List (Str×aJ)),(jI b l a).lookup x=if (x,pf)∈l then some ((b.cells.lookup x).getD 0)else a.lookup x:=by
 intro c;induction c with
 |nil=>
  intro a;simp[Yl,MM]
 |cons d l e=>
  obtain⟨n,k⟩:=d;intro a;rw[show jI b ((n,k)::l) a=jI b l (if k==.free then(n,(b.cells.lookup n).getD 0)::a else a)from rfl,e];by_cases h:(x,pf)∈l
  ·rw[if_pos h,if_pos (.tail _ h)]
  ·refine if_neg h▸?_;by_cases hk:(k==pf)=true
   ·rw[if_pos hk,pb];have f:=dN hk;subst f;by_cases g:x=n
    ·subst g;simp
    ·have:(x==n)=false:=by simpa using g
     rw[this,if_neg];intro q;rcases bP.mp q with q|q
     ·exact g (x9 q).1
     ·exact h q
   ·rw[if_neg hk,if_neg];intro q;rcases bP.mp q with q|q
    ·exact hk (by refine(x9 q).2▸?_;rfl)
    ·exact h q
theorem EO:∀ (b:List (Str×NameKind)) (n:Nat) (a:List (Str×aJ)),g6 n b a=g6 n b []++a:=by
 intro d;induction d with
 |nil=>
  intro n a;exact rfl
 |cons e r c=>
  obtain⟨x,k⟩:=e;intro n a;by_cases h:(k==.cell)=true
  ·exact(if_pos h).trans ((c (n+1) ((x,n)::a)).trans ((eO _ [(x,n)] a).symm.trans (congrArg (·++a) ((c (n+1) [(x,n)]).symm.trans (if_pos h).symm))))
  ·exact(if_neg h).trans ((c n a).trans (congrArg (·++a) (if_neg h).symm))
theorem Gp{f:Type}{x:Str}:∀ (a b:List (Str×f)),(a++b).lookup x=(a.lookup x).or (b.lookup x):=by
 intro c;induction c with
 |nil=>
  intro b;simp
 |cons d a e=>
  obtain⟨y,v⟩:=d;intro b;rw[rq,pb,pb];cases x==y with
  |true=>rfl
  |false=>exact e b
theorem YZ{x:Str}:∀ (a:List (Str×NameKind)) (n:Nat),((g6 n a []).lookup x).isSome=true->(x,CD)∈a:=by
 intro d;induction d with
 |nil=>
  intro n h;exact nomatch h
 |cons e r b=>
  obtain⟨y,k⟩:=e;intro n h;by_cases hk:(k==.cell)=true
  ·rw[show g6 n ((y,k)::r) []=_ from if_pos hk,EO,Gp]at h;cases q:(g6 (n+1) r []).lookup x with
   |some c=>exact .tail _ (b (n+1) (by refine q▸?_;rfl))
   |none=>
    replace h:=JC▸q▸h;exact aU (pg.mp h) λc=>Bt (λf _=>dN f▸dN hk▸.head _) bD
  ·exact .tail _ (b n (by rw[show g6 n ((y,k)::r) []=_ from if_neg hk]at h;exact h))
theorem Sk{x:Str}(g:Str->NameKind->NameKind):∀ (l:List (Str×NameKind)),(l.map λp=>(p.1,g p.1 p.2)).lookup x=(l.lookup x).map (g x):=by
 intro a;induction a with
 |nil=>
  exact rfl
 |cons b l c=>
  obtain⟨y,k⟩:=b;rw[cB,pb,pb];cases h:x==y with
  |true=>refine dN h▸?_;rfl
  |false=>exact c
theorem MY{a:Scope}{b:cz}{x:Str}:(relabel a b).names.lookup x=(a.names.lookup x).map λk=>if (k==.free&&b.scope.kind==.function&&b.kindOf x==some .cell)=true then .cell else k:=by
 unfold relabel;refine(Sk (λn k=>if (k==.free&&b.scope.kind==.function&&b.kindOf n==some .cell)=true then .cell else k) a.names)▸?_;show List.lookup x _=List.lookup x _;congr 1;refine uk λp _=>?_;obtain⟨n,k⟩:=p;show(if _ then _ else _)=_;split<;>simp_all
noncomputable def M7(c a:Scope)(nm b:List (Option Str))(d:List Nat):Bool:=
 decide (a.kind=.function)&&decide (c.kind=.function)&&decide ((a.names.map (·.1)).Nodup)&&decide ((b.filterMap id).Nodup)&&
 (a.names.all λp=>p.2 != .free||c.names.lookup p.1==some .cell||c.names.lookup p.1==some .free)&&
 b.zipIdx.all λp=>match p.1 with
  |none=>true
  |some x=>if d.contains p.2 then(a.names.lookup x==some .local||a.names.lookup x==some .cell)
   else nm[p.2]?==some (some x)&&a.names.lookup x==some .free
noncomputable def l6(F:Fx)(a:Scope)(n:Nat):cz:=
 {newEnv a n F.env.globals (g6 (n+1) a.names (jI F.env a.names [])) F.env.qual none .none (some F.env) nV with scope:=relabel a F.env}
noncomputable def eL(F:Fx)(a:Scope)(b:List (Option Str))(c:List Nat)(n:Nat):Fx:=
 {nt:=F.nt,h₀:=F.h₀,env:=l6 F a n,nm:=b,fa:=n::(g6 (n+1) a.names []).map (·.2),wr:=c}
structure mw (sc scope:Scope) (nm nm':List (Option Str)) (wr':List Nat):Prop where
 kf:scope.kind=.function
 ko:sc.kind=.function
 nd:(scope.names.map (·.1)).Nodup
 nn:(nm'.filterMap id).Nodup
 fr:∀ p∈scope.names,p.2=.free->sc.names.lookup p.1=some .cell\/sc.names.lookup p.1=some .free
 wr:∀ i x,nm'[i]?=some (some x)->i∈wr'->scope.names.lookup x=some .local\/scope.names.lookup x=some .cell
 cp:∀ i x,nm'[i]?=some (some x)->i∉wr'->nm[i]?=some (some x)/\scope.names.lookup x=some .free
theorem Eh{a:Type}{l:List a}{i:Nat}{b:a}(h:l[i]?=some b):(b,i)∈l.zipIdx:=by
 rw[ad7];exact⟨i,by rw[List.getElem?_zipIdx,h];simp⟩
theorem eH{d a:Scope}{nm b:List (Option Str)}{c:List Nat}(h:M7 d a nm b c=true):mw d a nm b c:=
 bn (ee h) λh h6=>bn (ee h) λh h5=>bn (ee h) λh h4=>bn (ee h) λh h3=>bn (ee h) λh1 h2=>
 ⟨of_decide_eq_true h1,of_decide_eq_true h2,of_decide_eq_true h3,of_decide_eq_true h4,
  λp f g=>(ya.mp (c8.mp h5 p f)).elim (λe=>.inl ((ya.mp e).elim (λe=>absurd g (bne_iff_ne.mp e)) dN)) λe=>.inr (dN e),
  λi x hi hw=>(ya.mp ((if_pos (pe.mpr hw)).symm.trans (c8.mp h6 (some x,i) (Eh hi)))).imp dN dN,
  λi x hi hw=>(ee ((if_neg λe=>hw (pe.mp e)).symm.trans (c8.mp h6 (some x,i) (Eh hi)))).imp dN dN⟩
theorem Dz{l:List (Option Str)}(h:(l.filterMap id).Nodup):∀ {i j:Nat} {x:Str},l[i]?=some (some x)->l[j]?=some (some x)->i=j:=by
 induction l with
 |nil=>intro i j x a;simp at a
 |cons a l c=>
  intro i j x hi b;have d:∀ k:Nat,l[k]?=some (some x)->x∈l.filterMap id:=λk hk=>JD.mpr (aS (some x) (ke hk) rfl);cases a with
  |none=>
   rw[show(nU::l).filterMap id=l.filterMap id from rfl]at h;cases i with
   |zero=>simp at hi
   |succ i=>cases j with
    |zero=>simp at b
    |succ j=>exact congrArg _ (c h (by simpa using hi) (by simpa using b))
  |some y=>
   rw[show(some y::l).filterMap id=y::l.filterMap id from rfl]at h;refine bn (gu.mp h) λh1 h2=>?_;cases i with
   |zero=>cases j with
    |zero=>rfl
    |succ j=>
     simp only[JE,lH]at hi;subst hi;exact absurd (d j (by simpa using b)) h1
   |succ i=>cases j with
    |zero=>
     simp only[JE,lH]at b;subst b;exact absurd (d i (by simpa using hi)) h1
    |succ j=>exact congrArg _ (c h2 (by simpa using hi) (by simpa using b))
theorem Xu{l:List (Str×NameKind)}(h:(l.map (·.1)).Nodup){x:Str}{a b:NameKind}(d:(x,a)∈l)(g:(x,b)∈l):a=b:=by
 induction l with
 |nil=>cases d
 |cons p l i=>
  rw[cB,gu]at h;have e:∀ k,(x,k)∈l->x∈l.map (·.1):=λk hk=>eh.mpr (aS _ hk rfl);rcases bP.mp d with f|h1<;>rcases bP.mp g with c|h2
  ·rw[<- f]at c;exact(x9 c).2.symm
  ·exact absurd (by rw[<- f];exact e _ h2) h.1
  ·exact absurd (by rw[<- c];exact e _ h1) h.1
  ·exact i h.2 h1 h2
theorem YA(a:List (Str×NameKind)):∀ h:bh,h.objs.size<=(um h a).objs.size:=by
 induction a with
 |nil=>intro h;exact cu _
 |cons p r b=>
  intro h;obtain⟨x,k⟩:=p;unfold um;split
  ·exact bg (by rw[eQ];exact mz _) (b _)
  ·exact b h
section
variable{w:aZ}{A:bx}{F:Fx}{J:Nat->aJ}{Z Z':Fz}{O U:List S}{Y ν':List T}{s D:aL}
theorem u9{a:Scope}{n:Nat}{x:Str}:(l6 F a n).cells.lookup x=((g6 (n+1) a.names []).lookup x).or (if (x,pf)∈a.names then some ((F.env.cells.lookup x).getD 0)else none):=by
 show(g6 (n+1) a.names (jI F.env a.names [])).lookup x=_;rw[EO,Gp,P2];rfl
theorem Bp{scope:Scope}{n:Nat}{x:Str}:(l6 F scope n).kindOf x=(scope.names.lookup x).map λk=>if (k==.free&&F.env.scope.kind==.function&&F.env.kindOf x==some .cell)=true then .cell else k:=MY
theorem Nq(H:St w F J Z O Y s){g:Scope}{r:List (Option Str)}{l:List Nat}(h:mw F.env.scope g F.nm r l)(a1:∀ i∈l,∀ x,r[i]?=some (some x)->O[i]?=some .no){Q:cz->aL->Prop}{E:aI->aL->Prop}
  (hQ:∀ B h',{B with scope:=relabel g F.env}=l6 F g s.heap.objs.size->B.locals=s.heap.objs.size->St w (eL F g r l s.heap.objs.size) J Z O Y {s with heap:=h'}->Nx w F.nt Z s Z Y {s with heap:=h'}->
   (∀ x c,(l6 F g s.heap.objs.size).cells.lookup x=some c->s.heap.objs.size+1<=c\/F.env.cells.lookup x=some c)->(∀ a∈(eL F g r l s.heap.objs.size).fa,s.heap.objs.size<=a)->Q B {s with heap:=h'}) :
  bc (model pw w) A (CE g F.env.globals (jI F.env g.names []) [] F.env.qual none .none (some F.env)) Q E s:=by
 have hh:=H;generalize z:s.heap.objs.size=n at hQ;simp only[CE,acK,if_true];refine ba (wpAny_alloc ?_);rw[z];refine ba (wpAny_layCells _ (λname kind a2=>by cases a3:kind==CD<;>simp[a3]) _ _ _ _ ?_);have a4:({s with heap:=s.heap.push {cls:=.type "dict",data:=.dict #[]}}:aL).heap.objs.size=n+1:=by
  show(s.heap.push _).objs.size=_;rw[eQ,z]
 rw[a4];show bc _ _ (pure _) _ _ _;have keep:∀ b o,s.heap.get? b=some o->(um (s.heap.push {cls:=.type "dict",data:=.dict #[]}) g.names).get? b=some o:=λb o e=>pushCells_keeps _ _ b o (cA _ e);have ok:=cellsFrom_ok g.names (s.heap.push {cls:=.type "dict",data:=.dict #[]}) (n+1) [] ⟨λ_ _ t=>(nomatch t),List.Pairwise.nil⟩ (by rw[eQ,z];exact cu _);rw[eQ,z]at ok;have C:n+1<=(um (s.heap.push {cls:=.type "dict",data:=.dict #[]}) g.names).objs.size:=bg (by rw[eQ,z];exact cu _) (YA _ _);have N:Nx w F.nt Z s Z Y {s with heap:=um (s.heap.push {cls:=.type "dict",data:=.dict #[]}) g.names}:=
  (eI (tk:=s.toks) (W:=[]) H.nts H.on (nofun) (λb o _ e=>keep b o e) (by rw[z];exact jN C)).nx (nofun)
 have ns:(um (s.heap.push {cls:=.type "dict",data:=.dict #[]}) g.names).Ns n λ_=>none:=by
  rw[<- z];exact(Heap.Ns.new s.heap (.type "dict")).keeps (pushCells_keeps _ _)
 have old:∀ x c,F.env.cells.lookup x=some c->c<n:=λx c hc=>by
  refine aQ λP=>eA (H.cel x c hc) λv o ho _=>P ?_;rw[<- z];exact cg ho
 have fresh:∀ b,n<=b->Z b=none:=λb hb=>by
  cases q:Z b with
  |none=>rfl
  |some o=>exact absurd (cg (H.on _ _ q)) (by rw[z];exact lC.mpr hb)
 have h0:F.h₀.objs.size<=n:=by
  rw[<- z];exact j8 (ff (H.ok.fah _ H.ok.loc) (H.fz _ H.ok.loc).2)
 have bound:∀ x,(x,pf)∈g.names->(F.env.cells.lookup x).isSome=true:=λx R=>H.ok.celk x ((h.fr _ R rfl).imp id id);have G:∀ x c,(g6 (n+1) g.names []).lookup x=some c->n+1<=c/\(x,c)∈g6 (n+1) g.names []:=λx c hc=>⟨(ok.empty x c (mem_of_lookup hc)).2,mem_of_lookup hc⟩;have split:∀ x c,(l6 F g n).cells.lookup x=some c->((x,c)∈g6 (n+1) g.names []/\n+1<=c)\/(F.env.cells.lookup x=some c/\c<n):=λx c hc=>by
  rw[u9]at hc;cases q:(g6 (n+1) g.names []).lookup x with
  |some d=>rw[q]at hc;simp only[Option.some_or,lH]at hc;subst hc;exact .inl ⟨(G x d q).2,(G x d q).1⟩
  |none=>
   rw[q,JC]at hc;revert hc;refine cb λV hc=>?_;refine aU (pg.mp (bound x V)) λd hd=>?_;rw[hd]at hc;simp only[JF,lH]at hc;subst hc;exact .inr ⟨hd,old x d hd⟩
 have F':Aj (eL F g r l n):=by
  refine⟨h.kf,H.ok.eg,H.ok.eb,λx y c R hy=>?_,λa u=>?_,.head _,λa u t=>?_,H.ok.big,λx hk=>?_,λi j x hi hj=>Dz h.nn hi hj,λi hi x R=>?_⟩
  ·rcases split x c R with ⟨a,X⟩|⟨a,X⟩<;>rcases split y c hy with ⟨b,b'⟩|⟨b,b'⟩
   ·exact name_of_addr ok.apart a b
   ·exact absurd (ck b' (jN X)) (cQ _)
   ·exact absurd (ck X (jN b')) (cQ _)
   ·exact H.ok.cap x y c a b
  ·rcases bP.mp u with rfl|u
   ·exact h0
   ·refine aV (eh.mp u) λp K L=>?_;subst L;exact bg h0 (jN (ok.empty p.1 p.2 K).2)
  ·have:a<n:=by
    have:=H.nts;rw[show F.nt=some a from u]at this;refine aQ λP=>eo this λ_ vs y _=>?_;clear this;refine P ?_;rw[<- z];exact jo y
   rcases bP.mp t with rfl|t
   ·exact cQ _ this
   ·refine aV (eh.mp t) λp K L=>?_;subst L;exact cQ _ (ck this (jN (ok.empty p.1 p.2 K).2))
  ·show((l6 F g n).cells.lookup x).isSome=true;rw[u9];have I:((g.names.lookup x).map λk=>if (k==.free&&F.env.scope.kind==.function&&F.env.kindOf x==some .cell)=true then CD else k)=some .cell\/((g.names.lookup x).map λk=>if (k==.free&&F.env.scope.kind==.function&&F.env.kindOf x==some .cell)=true then CD else k)=some .free:=by
    have e:(eL F g r l n).env.kindOf x=_:=Bp (F:=F) (scope:=g) (n:=n) (x:=x);rw[e]at hk;exact hk
   cases q:g.names.lookup x with
   |none=>rw[q]at I;simp at I
   |some k=>
    have t:=mem_of_lookup q;by_cases V:k=.free
    ·subst V;refine aU (pg.mp (bound x t)) λd hd=>?_;rw[if_pos t];cases (g6 (n+1) g.names []).lookup x<;>simp
    ·have hc:k=.cell:=by
      rw[q]at I;have:(k==pf)=false:=by simpa using V
      simp only[this,Cj,mB,lH,jc,if_false]at I;rcases I with e|e
      ·exact e
      ·exact absurd e V
     subst hc;have:=CF (x:=x) g.names (n+1) [] (.inl q);refine aU (pg.mp this) λd hd=>?_;rw[hd];rfl
  ·have e:(eL F g r l n).env.kindOf x=_:=Bp (F:=F) (scope:=g) (n:=n) (x:=x);rw[e];rcases h.wr i x R hi with q|q
   ·left;rw[q];rfl
   ·right;refine⟨by rw[q];rfl,?_⟩;have:=CF (x:=x) g.names (n+1) [] (.inl q);refine aU (pg.mp this) λd hd=>(aS d ?_ (.tail _ (eh.mpr (aS _ (mem_of_lookup hd) rfl))));show(l6 F g n).cells.lookup x=some d;rw[u9,hd];rfl
 refine cm (hQ _ _ rfl rfl ?_ N (λx c hc=>(split x c hc).symm.imp And.left And.right |>.symm) λa u=>?_)
 rotate_left
 ·rcases bP.mp u with rfl|u
  ·exact cu _
  ·refine aV (eh.mp u) λp K L=>?_;subst L;exact jN (ok.empty p.1 p.2 K).2
 have HN:=H.next N;refine⟨F',N.on,H.md,N.nts,H.gens,HN.base,HN.tab,λa u=>?_,λx c hc=>?_,(aS _ ns (λi x S hi he a0=>?_)),λi S e q=>?_,H.inj⟩
 ·rcases bP.mp u with rfl|u
  ·exact⟨fresh _ (cu _),Nat.lt_of_succ_le C⟩
  ·refine aV (eh.mp u) λp K L=>?_;subst L;have:=ok.empty p.1 p.2 K;exact⟨fresh _ (jN this.2),this.1.lt⟩
 ·rcases split x c hc with ⟨a,_⟩|⟨a,_⟩
  ·exact⟨none,(ok.empty x c a).1⟩
  ·exact aU (H.cel x c a) λv hv=>⟨v,jg hv λo=>keep c o⟩
 ·by_cases hw:i∈l
  ·exact absurd (bw (he.symm.trans (a1 i hw x hi))) a0
  ·refine bn (h.cp i x hi hw) λh1 h2=>aQ λP=>aV H.vars λm t hv=>aV (hv i x S h1 he a0) λv hl a5=>P ?_;have M:=mem_of_lookup h2;have a6:=h.fr _ M rfl;refine(aS v ?_ (a5.ext (.refl _) λq o ho=>keep _ o ho));rcases hl with ⟨a,_⟩|⟨a,c,hc,a7⟩
   ·have X:F.env.scope.names.lookup x=some .local:=a;rcases a6 with e|e<;>(have e':F.env.scope.names.lookup x=_:=e;rw[X]at e';cases e')
   ·right;have a8:(eL F g r l n).env.kindOf x=_:=Bp (F:=F) (scope:=g) (n:=n) (x:=x);refine(fu ?_ c ?_ (jg a7 λo=>keep c o))
    ·rw[a8,h2];simp only[mB,lH];split
     ·exact .inl rfl
     ·exact .inr rfl
    ·show(l6 F g n).cells.lookup x=some c;rw[u9];have:(g6 (n+1) g.names []).lookup x=none:=by
      cases q:(g6 (n+1) g.names []).lookup x with
      |none=>rfl
      |some d=>
       have:=Xu h.nd (YZ g.names (n+1) (by rw[q];rfl)) M;cases this
     rw[this,JC,if_pos M,hc];rfl
 ·refine gj (H.own i S e q) λa b c d f=>?_;have d':J i<n:=by rw[<- z];exact d
  refine⟨a,b,c,ck d' (jN C),λt=>?_⟩;rcases bP.mp t with e|t
  ·rw[e]at d';exact cQ _ d'
  ·refine aV (eh.mp t) λp K e=>?_;rw[<- e]at d';exact cQ _ (ck d' (jN (ok.empty p.1 p.2 K).2))
end
section
variable{w:aZ}{A:bx}{F:Fx}{J:Nat->aJ}{Z Z':Fz}{O U:List S}{Y ν':List T}{s D:aL}{W:List aJ}
structure Ap (F:Fx) (J:Nat->aJ) (O:List S) (b:aJ):Prop where
 fa:b∉F.fa
 cel:∀ x,F.env.cells.lookup x≠some b
 own:∀ (i:Nat) (S:Mine.Internal.S),O[i]?=some S->S.isOwn->J i≠b
 base:F.h₀.objs.size<=b
theorem St.nextW(H:St w F J Z O Y s)(N:cY w F.nt W Z s Z' ν' D)(ap:∀ b∈W,Ap F J O b):St w F J Z' O ν' D:=by
 refine aU H.tab λt j=>⟨H.ok,N.on,H.md.le N.le (N.new _ (cg j.1.2)),N.nts,N.gens H.gens,λb o n e=>?_,?_,λa k=>⟨(N.new a (H.fz a k).2).trans (H.fz a k).1,ck (H.fz a k).2 N.size⟩,λx c hc=>?_,?_,λi S e o=>?_,H.inj⟩
 ·exact N.ext b o n (λq=>absurd (cg e) (lC.mpr (ap b q).base)) (H.base b o n e)
 ·exact aU (N.tab t j) λmore h=>⟨_,h⟩
 ·exact aU (H.cel x c hc) λv g=>⟨v,jg g λo=>N.ext c o (wq H.nts j g) λq=>(ap c q).cel x hc⟩
 ·refine aV H.vars λm p g=>(aS m (pv p λo=>N.ext _ o (AA H.nts j p) λq=>(ap _ q).fa H.ok.loc) (λi x S hi hs u=>aQ λy=>aV (g i x S hi hs u) λv z g=>y (aS v (z.ext λc o hc=>?_) (g.ext N.le λr o=>N.ext _ o (H.ownMu hs r) λq=>(ap _ q).own i S hs r rfl))));exact aU (H.cel x c hc) λB l=>N.ext c o (wq H.nts j l) λq=>(ap c q).cel x hc
 ·exact gj (H.own i S e o) λa b c d f=>⟨(N.new _ d).trans a,b,c,ck d N.size,f⟩
def gB(U O:List S):Prop:=∀ (i:Nat) (S:Mine.Internal.S),U[i]?=some S->S.isOwn->O[i]?=some S
theorem gB.refl(O:List S):gB O O:=λ_ _ e _=>e
theorem gB.trans{a b c:List S}(x:gB a b)(y:gB b c):gB a c:=λi S e o=>y i S (x i S e o) o
theorem gB.set{i:Nat}{t:T}:gB (O.set i (.v t)) O:=λj S e q=>by
 by_cases a:i=j
 ·subst a;by_cases b:i<O.length
  ·replace e:=fT b▸e;cases e;exact q.elim
  ·replace e:=List.set_eq_of_length_le (Cd b)▸e;exact e
 ·rwa [ed a]at e
theorem Ap.sub{b:aJ}(a:Ap F J O b)(h:gB U O):Ap F J U b:=⟨a.fa,a.cel,λi S e o=>a.own i S (h i S e o) o,a.base⟩
mutual
theorem tE{a:List Nat}:∀ {p:PT} {t:T} {O U:List S},bU a p t O=some U->gB U O
 |.nm i,t,O,U=>cb λ_ h=>bw h▸gB.set
 |.tp b,t,O,U=>aX λc _ h=>Fp h
theorem Fp{c:List Nat}:∀ {b:List PT} {a:List T} {O U:List S},kr c b a O=some U->gB U O
 |[],a,O,U=>cb λ_ h=>bw h▸.refl _
 |p::b,a,O,U=>aX λt _=>aX λI h1 h2=>(Fp h2).trans (tE h1)
end
structure Acc (w:aZ) (F:Fx) (J:Nat->aJ) (O:List S) (D0:aJ) (l:List T) (Z:Fz) (h:bh):Prop where
 z:Z D0=none
 at_:∃ vs,h.PlainList D0 vs.toArray/\bm w Z l vs
 nt:F.nt≠some D0
 lo:171<=D0
 ap:Ap F J O D0
theorem Acc.mu{b:aJ}{l:List T}{h:bh}(a:Acc w F J O b l Z h):¬Mu F.nt b:=by
 rintro (h|h)
 ·exact a.nt h
 ·have:=a.lo;replace this:=h▸this;exact absurd this (by decide)
theorem Acc.next{b:aJ}{l:List T}(a:Acc w F J O b l Z s.heap)(N:cY w F.nt W Z s Z' ν' D)(hD:b∉W)(hs:gB U O):Acc w F J U b l Z' D.heap:=by
 exact aV a.at_ λc h1 h2=>⟨(N.new b (jo h1)).trans a.z,(aS c (mY h1 λo=>N.ext b o a.mu hD) (bm.mono N.le _ h2)),a.nt,a.lo,a.ap.sub hs⟩
theorem bm.app{Z:Fz}:∀ {l b:List T} {c a:List aI},bm w Z l c->bm w Z b a->bm w Z (l++b) (c++a):=by
 intro d;induction d with
 |nil=>
  intro b c a h e;replace h:_=_:=h;subst h;exact e
 |cons t r f=>
  intro b c a h e;refine aQ λg=>bG h λv i j h1 h2=>?_;clear h;subst j;refine g ?_;show bm w Z (t::(r++b)) (v::(i++a));exact(cE v _ rfl h1 (f h2 e))
end
section
variable{w:aZ}{A:bx}{F:Fx}{J:Nat->aJ}{Z Z':Fz}{O U σ0:List S}{Y ν':List T}{s D:aL}{W fp:List aJ}
abbrev Kz:=List S->List T->Option (T×List T)
abbrev dc:=List S->List T->Option (Bool×List T)
def kQ(w:aZ)(A:bx)(F:Fx)(J:Nat->aJ)(d:List Expr)(a:dc):Prop:=
 ∀ ⦃O Y b ν' Z s⦄,St w F J Z O Y s->a O Y=some (b,ν')->∀ (Q:Bool->aL->Prop) (E:aI->aL->Prop),(∀ Z' D,Nx w F.nt Z s Z' ν' D->Q b D)->
  bc (model pw w) A (forIn d true λc r=>if r=true then do let ok <- isTrue c F.env (eval c F.env);pure (kH ok)else pure (kH r)) Q E s
theorem fN:kQ w A F J [] (λ_ Y=>some (true,Y)):=λ_ _ _ _ _ _ H h=>by
 cases h
 intro Q E a;exact wpAny_tests_nil (a _ _ H.nx)
theorem n5{c:Expr}{f:dc}(a:∀ {O Y b ν' Z s},St w F J Z O Y s->f O Y=some (b,ν')->Et w A F J Z O s c b ν'):kQ w A F J [c] f:=λ_ _ _ _ _ _ H h Q E d=>
 wpAny_tests_one (a H h Q E d)
noncomputable def one(f:Kz):List S->List T->Option (List T×List T):=λO Y=>(f O Y).map λq=>([q.1],q.2)
def Ei(w:aZ)(A:bx)(F:Fx)(J:Nat->aJ)(Z:Fz)(O:List S)(s:aL)(e:Expr)(f:Bool)(g:Option Nat)(items:List T)(ν':List T):Prop:=
 ∀ (Q:aI->aL->Prop) (E:aI->aL->Prop),(∀ d fp W P c Z' D,Nx w F.nt Z s Z' ν' D->It w A F.nt f d fp W items P c->P 0 Z' D.heap->(∀ b∈W,s.heap.objs.size<=b)->(∀ b∈fp,¬Mu F.nt b)->
   (∀ b∈fp,b∉F.fa/\∀ (j:Nat) (S:Mine.Internal.S),O[j]?=some S->S.isOwn->J j=b->g=some j)->Q (.ref d) D)->
  bc (model pw w) A (eval e F.env) (λx a=>bc (model pw w) A (jP x) Q E a) E s
noncomputable def jW(e:Expr):Bool:=!(e.ctorIdx.beq 7)
theorem zF{e:Expr}{a:cz}(h:jW e=true)(x:aI):rG e a x=pure x:=by
 cases e<;>first|rfl|cases h
theorem Ry{l:List (Str×NameKind)}(h:(l.map (·.1)).Nodup){x:Str}{a:NameKind}(b:(x,a)∈l):l.lookup x=some a:=by
 induction l with
 |nil=>cases b
 |cons p l d=>
  obtain⟨y,k⟩:=p;rw[cB,gu]at h;rw[pb];rcases bP.mp b with e|c
  ·cases e;simp
  ·have:x≠y:=by rintro rfl;exact h.1 (eh.mpr (aS _ c rfl))
   exact(show(x==y)=false by simpa using this)▸(d h.2 c)
theorem St.low(H:St w F J Z O Y s):F.h₀.objs.size<=s.heap.objs.size:=j8 (ff (H.ok.fah _ H.ok.loc) (H.fz _ H.ok.loc).2)
end
inductive Fl where
 |nx|ret (x:X)
section
variable{w:aZ}{A:bx}{F:Fx}{mt mt':List Nat}{J α' α'':Nat->aJ}{Z Z' Z'':Fz}{O U σ'' σ0:List S}{Y ν' ν'':List T}{s D s'':aL}{W V fp:List aJ}
def uN(w:aZ)(F:Fx)(J:Nat->aJ)(O:List S)(Z:Fz)(h:bh):Fl->Flow->Prop
 |.nx,f=>f=.next
 |.ret x,f=>∃ v,f=.ret v/\RX w F J O F.h₀.objs.size Z h x v
structure cZ (w:aZ) (F:Fx) (mt:List Nat) (V:List aJ) (J:Nat->aJ) (O:List S) (Z:Fz) (s:aL) (α':Nat->aJ) (U:List S) (Z':Fz) (D:aL):Prop where
 le:Le Z Z'
 new:∀ b,b<s.heap.objs.size->Z' b=Z b
 ext:∀ b o,¬Mu F.nt b->b∉F.fa->b∉V->(∀ i∈mt,∀ (S:Mine.Internal.S),O[i]?=some S->S.isOwn->J i≠b)->s.heap.get? b=some o->D.heap.get? b=some o
 size:s.heap.objs.size<=D.heap.objs.size
 os:D.os=s.os
 gens:mD s.gens->mD D.gens
 tab:∀ ps,jz s.heap ps->∃ more,jz D.heap (ps++more)
 own:∀ (i:Nat) (S:Mine.Internal.S),U[i]?=some S->S.isOwn->(∃ (S':Mine.Internal.S),O[i]?=some S'/\S'.isOwn/\J i=α' i)\/s.heap.objs.size<=α' i
theorem cZ.trans(a:cZ w F mt V J O Z s α' U Z' D)(b:cZ w F mt V α' U Z' D α'' σ'' Z'' s''):cZ w F mt V J O Z s α'' σ'' Z'' s'' where
 le:=a.le.trans b.le
 new:=λx h=>(b.new x (ck h a.size)).trans (a.new x h)
 ext:=λx o h1 h2 hV h3 e=>b.ext x o h1 h2 hV (λi j S hi c q=>by
  rcases a.own i S hi c with ⟨d,h4,h5,h6⟩|h4
  ·exact h3 i j d h4 h5 (h6.trans q)
  ·replace h4:=q▸h4;exact absurd (ck (cg e) h4) (cQ _)) (a.ext x o h1 h2 hV h3 e)
 size:=bg a.size b.size
 os:=b.os.trans a.os
 gens:=λh=>b.gens (a.gens h)
 tab:=λk h=>by
  exact aQ λl=>aU (a.tab k h) λm h1=>aU (b.tab _ h1) λn h2=>l ⟨m++n,by refine xT▸?_;exact h2⟩
 own:=λi S hi c=>by
  rcases b.own i S hi c with ⟨d,h4,h5,h6⟩|h4
  ·rcases a.own i d h4 h5 with ⟨f,g,p,r⟩|g
   ·exact .inl (cI f g p (r.trans h6))
   ·exact .inr (h6▸g)
  ·exact .inr (bg a.size h4)
theorem cZ.ofW(N:cY w F.nt W Z s Z' ν' D)(hw:∀ b∈W,b∈F.fa\/b∈V\/∃ i∈mt,∃ (S:Mine.Internal.S),O[i]?=some S/\S.isOwn/\J i=b)(hs:∀ (i:Nat) (S:Mine.Internal.S),U[i]?=some S->S.isOwn->∃ (c:Mine.Internal.S),O[i]?=some c/\c.isOwn):cZ w F mt V J O Z s J U Z' D where
 le:=N.le
 new:=N.new
 ext:=λb o h1 h2 hV h3 e=>N.ext b o h1 (λq=>by
  rcases hw b q with q|q|⟨i,d,S,h4,h5,h6⟩
  ·exact h2 q
  ·exact hV q
  ·exact h3 i d S h4 h5 h6) e
 size:=N.size
 os:=N.os
 gens:=N.gens
 tab:=N.tab
 own:=λi S hi f=>.inl (aV (hs i S hi f) λc a b=>cI c a b rfl)
theorem cZ.ofNx(N:Nx w F.nt Z s Z' ν' D):cZ w F mt V J O Z s J O Z' D:=.ofW (N.toW []) (nofun) λi S hi a=>(aS S hi a)
theorem cZ.ofFa(N:cY w F.nt F.fa Z s Z' ν' D)(hs:gB U O):cZ w F mt V J O Z s J U Z' D:=.ofW N (λb c=>.inl c) λi S hi a=>(aS S (hs i S hi a) a)
theorem cZ.more(N:cZ w F mt V J O Z s α' U Z' D)(h:∀ i∈mt,i∈mt'):cZ w F mt' V J O Z s α' U Z' D:={N with ext:=λb o h1 h2 hV h3 e=>N.ext b o h1 h2 hV (λi hi=>h3 i (h i hi)) e}
theorem cZ.wider{V':List aJ}(N:cZ w F mt V J O Z s α' U Z' D)(h:∀ b∈V,b∈V'):cZ w F mt V' J O Z s α' U Z' D:={N with ext:=λb o h1 h2 hV h3 e=>N.ext b o h1 h2 (λq=>hV (h b q)) h3 e}
theorem cZ.strip(N:cZ w F mt V J O Z s α' U Z' D)(h:∀ b∈V,s.heap.objs.size<=b):cZ w F mt [] J O Z s α' U Z' D:={N with ext:=λb o h1 h2 _ h3 e=>N.ext b o h1 h2 (λq=>absurd (cg e) (lC.mpr (h b q))) h3 e}
abbrev aP:=List S->List T->Option (X×List T)
abbrev bC:=List S->List T->Option (Fl×List S×List T)
def bu(w:aZ)(A:bx)(F:Fx)(e:Expr)(f:aP):Prop:=∀ ⦃J O Y x ν' Z s⦄,St w F J Z O Y s->f O Y=some (x,ν')->Ev w A F J Z O s e x ν'
def dp(w:aZ)(A:bx)(F:Fx)(mt:List Nat)(a:List dw)(g:bC):Prop:=∀ ⦃J O Y b U ν' Z s⦄,St w F J Z O Y s->g O Y=some (b,U,ν')->
 ∀ (Q:Flow->aL->Prop) (E:aI->aL->Prop),(∀ f α' Z' D,cZ w F mt [] J O Z s α' U Z' D->St w F α' Z' U ν' D->uN w F α' U Z' D.heap b f->Q f D)->bc (model pw w) A (execs a F.env) Q E s
def eX(w:aZ)(A:bx)(F:Fx)(mt:List Nat)(st:dw)(g:bC):Prop:=∀ ⦃J O Y a U ν' Z s⦄,St w F J Z O Y s->g O Y=some (a,U,ν')->
 ∀ (Q:Flow->aL->Prop) (E:aI->aL->Prop),(∀ f α' Z' D,cZ w F mt [] J O Z s α' U Z' D->St w F α' Z' U ν' D->uN w F α' U Z' D.heap a f->Q f D)->bc (model pw w) A (exec st F.env) Q E s
noncomputable def cs:bC:=λO Y=>some (.nx,O,Y)
noncomputable def aY(g1 g2:bC):bC:=λO Y=>(g1 O Y).bind λr=>match r.1 with
 |.nx=>g2 r.2.1 r.2.2
 |.ret x=>some (.ret x,r.2.1,r.2.2)
theorem cH:dp w A F mt [] cs:=λ_ _ _ _ _ _ _ _ H h=>by
 cases h
 intro Q E a;exact JG (a _ _ _ _ (.ofNx H.nx) H rfl)
theorem bq{st:dw}{a:List dw}{g1 g2:bC}(h1:eX w A F mt st g1)(h2:dp w A F mt a g2):dp w A F mt (st::a) (aY g1 g2):=λJ O Y B U ν' Z s H=>by
 refine pF λb I G k h=>?_;intro Q E g;refine JH (h1 H k _ _ λf1 c l m i j d=>?_);cases b with
 |nx=>
  subst d;exact h2 j h Q E λf2 e n o p q t=>g f2 e n o (i.trans p) q t
 |ret x=>
  simp only[lH,mF]at h;refine aQ λu=>bO h λy f z=>?_;clear h;subst y;subst f;subst z;refine aV d λv f r=>?_;clear d;subst f;exact u (g _ c l m i j (aS v rfl r))
noncomputable def hO(f:aP):bC:=λO Y=>(f O Y).map λr=>(.ret r.1,O,r.2)
theorem iX{e:Expr}{pos:br}{f:aP}(h:bu w A F e f):eX w A F mt (.Return (some e) pos) (hO f):=λ_ _ _ _ _ _ _ _ H=>by
 refine kC λx G a h2=>?_;simp only[mF]at h2;refine aQ λb=>bO h2 λc d g=>?_;clear h2;subst c;subst d;subst g;refine b ?_;intro Q E i;exact wpAny_Return_some (h H a _ _ λv Z' D N r=>i _ _ Z' D (.ofNx N) (H.next N) (aS v rfl (r.le H.low)))
noncomputable def gD(c:dc)(a b:bC):bC:=λO Y=>(c O Y).bind λr=>if r.1 then a O r.2 else b O r.2
def gx(w:aZ)(A:bx)(F:Fx)(e:Expr)(f:dc):Prop:=∀ ⦃J O Y x ν' Z s⦄,St w F J Z O Y s->f O Y=some (x,ν')->Et w A F J Z O s e x ν'
theorem jh{c:Expr}{a b:List dw}{pos:br}{f:dc}{m n:bC}(h:gx w A F c f)(p:dp w A F mt a m)(q:dp w A F mt b n):eX w A F mt (.If c a b pos) (gD f m n):=λ_ _ _ _ _ _ _ _ H=>by
 refine bJ λt G r h2=>?_;intro Q E o;refine wpAny_If (h H r _ _ λu v e=>?_);cases t with
 |true=>exact p (H.next e) (by simpa using h2) Q E λf2 d g i j k l=>o f2 d g i ((cZ.ofNx e).trans j) k l
 |false=>exact q (H.next e) (by simpa using h2) Q E λf2 d g i j k l=>o f2 d g i ((cZ.ofNx e).trans j) k l
noncomputable def qz(value:Expr)(targets:List Expr):Bool:=match targets with
 |[_]=>!([8,9,10].elem value.ctorIdx)
 |_=>false
theorem BA{value t:Expr}{line:Nat}{a:cz}(h:qz value [t]=true):rt [t] value line a=pure false:=by
 show swapsWith value (some t) line a=pure false;cases value<;>first|rfl|cases h
noncomputable def bW(a:List Nat)(p:PT)(f:aP):bC:=λO Y=>(f O Y).bind λr=>(r.1.t?).bind λt=>(bU a p t O).map λU=>(.nx,U,r.2)
theorem uI(d:A.handled=none){t e:Expr}{pos:br}{p:PT}{f:aP}(h:bu w A F e f)(g:gP F.nm p t=true)(a:dQ t=true)(hs:qz e [t]=true)(hw:nT [t] e F.env=pure none):
  eX w A F mt (.Assign [t] e pos) (bW F.wr p f):=λ_ _ _ _ _ _ _ _ H=>by
 refine bJ λx G i=>aX λB j=>ca λI b h4=>?_;simp only[mF]at h4;refine aQ λk=>bO h4 λl m n=>?_;clear h4;subst l;subst m;subst n;refine k ?_;intro Q E o;refine yb ((h H i).frz j _ _ λv q C c r=>?_) (BA hs) hw;have:(jt [t] F.env).map (·.2)=[iN t F.env]:=(Al (env:=F.env) (es:=[t]) (by rw[gX,a];rfl)).2.2;refine this▸?_;show bc _ _ (iN t F.env v) _ _ _;exact wD d p g (H.next c) r b λu y z=>o _ _ q u ((cZ.ofNx c).trans (.ofFa y (tE b))) z rfl
end
section
variable{w:aZ}{A:bx}{F:Fx}{mt mt':List Nat}{J α' α'':Nat->aJ}{Z Z' Z'':Fz}{O U σ'' σ0:List S}{Y ν' ν'':List T}{s D s'':aL}{W fp:List aJ}
noncomputable def j0(J:Nat->aJ)(i:Nat)(a:aJ):Nat->aJ:=λj=>if j=i then a else J j
theorem l8{i:Nat}{a:aJ}:j0 J i a i=a:=if_pos rfl
theorem kg{i j:Nat}{a:aJ}(h:j≠i):j0 J i a j=J j:=if_neg h
structure xv (F:Fx) (J:Nat->aJ) (Z:Fz) (O:List S) (s:aL) (i:Nat) (a:aJ):Prop where
 z:Z a=none
 lo:F.h₀.objs.size<=a
 nt:F.nt≠some a
 lt:a<s.heap.objs.size
 fa:a∉F.fa
 ap:∀ (j:Nat) (S:Mine.Internal.S),j≠i->O[j]?=some S->S.isOwn->J j≠a
theorem vy(H:St w F J Z O Y s){i:Nat}{x:Str}{L:Mine.Internal.S}{a:aJ}{v:aI}{Q:Unit->aL->Prop}{E:aI->aL->Prop}(hi:F.nm[i]?=some (some x))(hw:i∈F.wr)(hl:i<O.length)(r:dY w F.nt Z s.heap a L v)(l:L.isOwn)(G:xv F J Z O s i a)
  (hQ:∀ D,cY w F.nt F.fa Z s Z Y D->St w F (j0 J i a) Z (O.set i L) Y D->Q () D):bc (model pw w) A (storeName F.env x v) Q E s:=by
 refine aQ λnG=>aV H.vars λm P hv=>nG ?_;have I:∀ (f:bh) (M:dz) (c:aJ),c∈F.fa->gZ c s.heap f->cY w F.nt F.fa Z s Z Y {s with heap:=f,toks:=M}:=λf M c hc hs=>
  eI H.nts H.on H.faW (λb o hb e=>(hs.2 b (λq=>hb (q▸hc))).trans e) (gV hs.1.symm)
 have gm:∀ (j:Nat) (S:Mine.Internal.S),(O.set i L)[j]?=some S->(j=i/\S=L)\/(j≠i/\O[j]?=some S):=λj S e=>by
  by_cases n:i=j
  ·subst n;replace e:=fT hl▸e;cases e;exact .inl ⟨rfl,rfl⟩
  ·replace e:=ed n▸e;exact .inr ⟨λq=>n q.symm,e⟩
 have other:∀ (f:bh) (c:aJ),c∈F.fa->gZ c s.heap f->∀ (j:Nat) (S:Mine.Internal.S) (u:aI),O[j]?=some S->dY w F.nt Z s.heap (J j) S u->dY w F.nt Z f (J j) S u:=λf c hc hs j S u e so=>
  so.ext (.refl _) λq o l=>(hs.2 (J j) (λ(q2:J j=c)=>(H.own j S e q).2.2.2.2 (q2.symm▸hc))).trans l
 have fin:∀ (f:bh) (M:dz) (c:aJ),c∈F.fa->gZ c s.heap f->(∀ y d,F.env.cells.lookup y=some d->∃ u,f.IsCell d u)->
   (∃ R,f.Ns F.env.locals R/\Look F.env R f x v/\∀ (j:Nat) y S u,j≠i->F.nm[j]?=some (some y)->O[j]?=some S->Look F.env m s.heap y u->Look F.env R f y u)->
   St w F (j0 J i a) Z (O.set i L) Y {s with heap:=f,toks:=M}:=λf M c hc hs V ⟨R,p,a2,X⟩=>by
  have N:=I f M c hc hs;refine aU H.tab λps ht=>⟨H.ok,N.on,H.md,N.nts,H.gens,λb o hb e=>?_,?_,λa ha=>⟨(H.fz a ha).1,?_⟩,V,(aS R p (λj y S n he a3=>?_)),λj S e q=>?_,λj k S S' e1 q1 e2 q2 g=>?_⟩
  ·have h1:=H.base b o hb e;have:b≠c:=λq=>absurd (cg e) (lC.mpr (q▸H.ok.fah c hc));exact(hs.2 b this).trans h1
  ·refine aU (N.tab ps ht) λmore h=>?_;exact⟨_,h⟩
  ·show a<f.objs.size;refine hs.1▸?_;exact(H.fz a ha).2
  ·rcases gm j S he with ⟨rfl,rfl⟩|⟨h1,h2⟩
   ·replace n:=hi▸n;cases n;exact(aS v a2 (l8▸(r.ext (.refl _) λ_ o l=>(hs.2 a (λ(q:a=c)=>G.fa (q.symm▸hc))).trans l)))
   ·exact aV (hv j y S n h2 a3) λu t a4=>(aS u (X j y S u h1 n h2 t) (kg h1▸(other f c hc hs j S u h2 a4)))
  ·rcases gm j S e with ⟨rfl,rfl⟩|⟨h1,h2⟩
   ·exact l8▸⟨G.z,G.lo,G.nt,by show a<f.objs.size;refine hs.1▸?_;exact G.lt,G.fa⟩
   ·exact kg h1▸(gj (H.own j S h2 q) λb1 b2 b3 b4 b5=>⟨b1,b2,b3,by show _<f.objs.size;refine hs.1▸?_;exact b4,b5⟩)
  ·rcases gm j S e1 with ⟨rfl,rfl⟩|⟨h1,h2⟩<;>rcases gm k S' e2 with ⟨rfl,rfl⟩|⟨h3,h4⟩
   ·rfl
   ·replace g:=kg h3▸l8▸g;exact absurd g.symm (G.ap k S' h3 h4 q2)
   ·replace g:=l8▸kg h1▸g;exact absurd g (G.ap j S h1 h2 q1)
   ·replace g:=kg h3▸kg h1▸g;exact H.inj j k S S' h2 q1 h4 q2 g
 rcases H.ok.wrk i hw x hi with hk|⟨hk,c,B,hc⟩
 ·refine ad4 hk P (λf p hs=>?_) (by refine H.ok.kf▸?_;rfl);refine hQ _ (I f _ _ H.ok.loc hs) (fin f _ _ H.ok.loc hs (λy d hd=>?_) (cI _ p (.inl ⟨hk,if_pos rfl⟩) (λj y S u K n he t=>?_)))
  ·exact aU (H.cel y d hd) λu hu=>⟨u,jg hu λo l=>(hs.2 d (λq=>qf P hu q.symm)).trans l⟩
  ·exact t.other (λ_=>if_neg (λ(q:y=x)=>K (H.ok.nmi j i x (by refine q▸?_;exact n) hi))) λd hd C=>jg C λo l=>(hs.2 d (λq=>qf P C q.symm)).trans l
 ·refine aU (H.cel x c B) λu0 a0=>ad5 H.ok.kf hk B a0 λf p hs=>?_;have a5:F.env.locals≠c:=qf P a0;refine hQ _ (I f _ _ hc hs) (fin f _ _ hc hs (λy d hd=>?_) (cI m (pv P λo l=>(hs.2 _ a5).trans l) (.inr (fu (.inl hk) c B p)) (λj y S u K n he t=>?_)))
  ·by_cases a1:d=c
   ·exact⟨_,a1▸p⟩
   ·exact aU (H.cel y d hd) λu hu=>⟨u,jg hu λo l=>(hs.2 d a1).trans l⟩
  ·refine t.other (λ_=>rfl) λd hd C=>jg C λo l=>(hs.2 d λ(q:d=c)=>?_).trans l;subst q;have:=H.ok.cap x y d B hd;subst this;exact K (H.ok.nmi j i x n hi)
noncomputable def X.own?:X->Option S
 |.fr l=>some (.own l)
 |.frd l=>some (.ownd l)
 |_=>none
noncomputable def jy(a:List Nat)(i:Nat)(f:aP):bC:=λO Y=>(f O Y).bind λr=>r.1.own?.bind λS=>if a.contains i/\i<O.length then some (.nx,O.set i S,r.2)else none
theorem EY(H:St w F J Z O Y s)(N:Nx w F.nt Z s Z' ν' D){x:X}{b:Mine.Internal.S}{v:aI}(r:RX w F J O s.heap.objs.size Z' D.heap x v)(e:x.own?=some b)(i:Nat):
  ∃ a,s.heap.objs.size<=a/\dY w F.nt Z' D.heap a b v/\b.isOwn/\xv F J Z' O D i a:=by
 have mk:∀ a,s.heap.objs.size<=a->Z' a=none->F.nt≠some a->a<D.heap.objs.size->xv F J Z' O D i a:=λa h1 h2 h3 h4=>
  ⟨h2,bg H.low h1,h3,h4,λq=>absurd (ck (H.fz a q).2 h1) (cQ _),λj S _ f g q=>absurd (ck (H.own j S f g).2.2.2.1 (q.symm▸h1)) (cQ _)⟩
 cases x with
 |fr l=>
  cases e
  exact iy r λa c e p1 p2 p3 p4 d=>(j3 a p1 (fu e c p4 d) trivial (mk a p1 p2 p3 (jo p4)))
 |frd l=>
  cases e
  exact iy r λa c e p1 p2 p3 p4 d=>(j3 a p1 (fu e c p4 d) trivial (mk a p1 p2 p3 (tl p4)))
 |_=>exact bD e
theorem Gj{i:Nat}{a:aJ}{c:Mine.Internal.S}{n:Nat}(N:cY w F.nt F.fa Z s Z' ν' D)(d:s.heap.objs.size<=a)(f:i<O.length):cZ w F mt [] J O Z s (j0 J i a) (O.set i c) Z' D:=
 {cZ.ofFa (J:=J) (O:=O) N (.refl _)with
  own:=λj S b e=>by
   by_cases h:i=j
   ·subst h;exact .inr (by refine l8▸?_;exact d)
   ·replace b:=ed h▸b;exact .inl (cI S b e ((kg (λq=>h q.symm)).symm))}
theorem aai{y:Str}{e:Expr}{py pos:br}{i:Nat}{f:aP}(h:bu w A F e f)(hi:F.nm[i]?=some (some y))(hs:qz e [.Name y py]=true)(hw:nT [.Name y py] e F.env=pure none):
  eX w A F mt (.Assign [.Name y py] e pos) (jy F.wr i f):=λJ O Y I U ν' Z s H=>by
 refine bJ λx G j=>aX λk l=>cb λhc h3=>?_;simp only[lH,mF]at h3;refine aQ λb=>bO h3 λm o p=>?_;clear h3;subst m;subst o;subst p;refine b ?_;intro Q E q;refine yb (h H j _ _ λv d K c r=>?_) (BA hs) hw;show bc _ _ (iN (.Name y py) F.env v) _ _ _;refine aQ λb=>nH (EY H c r l i) λa t so u z=>b (x0 (vy (H.next c) hi (by simpa using hc.1) hc.2 so u z λg B C=>q _ _ d g ?_ C rfl));exact {(Gj (n:=0) ((c.toW F.fa).trans B) t hc.2:cZ w F mt [] J O Z s (j0 J i a) (O.set i k) d g)with}
end
section
variable{w:aZ}{A:bx}{F:Fx}{mt mt':List Nat}{J α' α'':Nat->aJ}{Z Z' Z'':Fz}{O U σ'' σ0:List S}{Y ν' ν'':List T}{s D s'':aL}{W V fp:List aJ}
noncomputable def em(bind:T->List S->Option (List S))(g:bC):List T->bC
 |[],O,Y=>some (.nx,O,Y)
 |t::a,O,Y=>(bind t O).bind λI=>(g I Y).bind λr=>match r.1 with
  |.nx=>em bind g a r.2.1 r.2.2
  |.ret x=>some (.ret x,r.2.1,r.2.2)
structure mM (F:Fx) (mt:List Nat) (fp W:List aJ) (J:Nat->aJ) (O:List S):Prop where
 w:∀ b∈W,∀ (j:Nat) (S:Mine.Internal.S),O[j]?=some S->S.isOwn->J j≠b
 f:∀ b∈fp,∀ j∈mt,∀ (S:Mine.Internal.S),O[j]?=some S->S.isOwn->J j≠b
theorem mM.next(h:mM F mt fp W J O)(N:cZ w F mt V J O Z s α' U Z' D)(e:∀ b∈fp,b<s.heap.objs.size)(g:∀ b∈W,b∈fp):mM F mt fp W α' U where
 w:=λb i j S k l=>by
  rcases N.own j S k l with ⟨m,a,c,d⟩|a
  ·refine d▸?_;exact h.w b i j m a c
  ·exact λq=>absurd (ck (e b (g b i)) (q▸a)) (cQ _)
 f:=λb i j n S k l=>by
  rcases N.own j S k l with ⟨m,a,c,d⟩|a
  ·refine d▸?_;exact h.f b i j n m a c
  ·exact λq=>absurd (ck (e b i) (q▸a)) (cQ _)
theorem SY(hh:A.handled=none){tg:Bool}{I0:aJ}{items:List T}{P:Nat->Fz->bh->Prop}{a7:Nat->aI->Fz->bh->Prop}(h:It w A F.nt tg I0 fp W items P a7){target:Expr}{body:List dw}{p:PT}{g:bC}
  (a8:tg=true->i4 target=true) (z:gP F.nm p target=true) (hB:dp w A F mt body g) (B:∀ b∈fp,b∉F.fa) (a9:∀ b∈fp,¬Mu F.nt b) (C:∀ b∈W,∀ x,F.env.cells.lookup x≠some b) (aa:∀ b∈W,F.h₀.objs.size<=b) {R:o0->aL->Prop} :
  ∀ (m:List T) (i:Nat) (J:Nat->aJ) (Z:Fz) (O:List S) (Y:List T) (s:aL) (E:Fl) (U:List S) (ν':List T),items.drop i=m->P i Z s.heap->St w F J Z O Y s->mM F mt fp W J O->
   em (bU F.wr p) g m O Y=some (E,U,ν')->
   (∀ f α' Z' D,cZ w F mt W J O Z s α' U Z' D->St w F α' Z' U ν' D->uN w F α' U Z' D.heap E f->R (.ok f) D)->
   mG (model pw w) A (.forLoop target (.ref I0) body [] F.env) R s:=by
 have n:∀ {J:Nat->aJ} {O:List S},mM F mt fp W J O->∀ b∈W,Ap F J O b:=λl b c=>⟨λq=>B b (h.sub b c) q,C b c,l.w b c,aa b c⟩;intro m;induction m with
 |nil=>
  intro i J Z O Y s E U ν' a hP H l d hR;cases d;refine yc ?_;show bc _ A ((forTurn target (.ref I0) body [] F.env).onRaise (λx=>do CG x F.env;JI x)) _ _ s;refine CH ?_
  delta forTurn
  refine ba (gr (ba (CJ (h.done i Z s Y _ _ (by have:=congrArg j9 a;simp at this;exact lG (Dg this)) hP H.on H.nts λs1 G=>?_))));have K:=H.nextW G (n l);exact cm ⟨rfl,codeAny_block (JG (hR _ J Z s1 (.ofW G (λb c=>.inr (.inl c)) λi S hi L=>(aS S hi L)) K rfl))⟩
 |cons t m ih=>
  intro i J Z O Y s E U ν' a hP H l d hR;have ak:i<items.length:=by
   have:=congrArg j9 a;simp only[yd,cK]at this;exact EN this
  have ab:items[i]?=some t:=by
   have:(items.drop i)[0]?=some t:=by refine a▸?_;rfl
   simpa using this
  have k:items.drop (i+1)=m:=by
   have:(items.drop i).drop 1=m:=by refine a▸?_;rfl
   rwa [List.drop_drop]at this
  revert d;refine aX λI c=>?_;refine pF λad ae af hg d=>yc ?_;show bc _ A ((forTurn target (.ref I0) body [] F.env).onRaise (λx=>do CG x F.env;JI x)) _ _ s;refine CH ?_
  delta forTurn
  refine ba (gr (ba (CJ (h.item i t Z s Y _ _ ab hP H.on H.nts λv M s1 G r1 ag=>?_))));have K:=H.nextW G (n l);refine ba (h.go target i v M s1 Y _ _ a8 ag K.on K.nts λs2 N2 Q=>?_);have H2:=K.nextW N2 (n l);refine ba (wD hh p z H2 (Rd.mono N2.le t r1) c λs3 N3 H3=>?_);have ah:cZ w F mt W J O Z s J O M s2:=.ofW (G.trans N2) (λb c=>.inr (.inl c)) λi S hi L=>(aS S hi L);have S3:cZ w F mt W J O M s2 J I M s3:=.ofFa N3 (tE c);have nz:=h.lt _ _ _ Q;have fr:∀ {Za Zb:Fz} {sa sb:aL} {u αb:Nat->aJ} {y σb:List S},mM F mt fp W u y->∀ j,P j Za sa.heap->cZ w F mt [] u y Za sa αb σb Zb sb->P j Zb sb.heap:=λ{Za Zb sa sb u αb y σb} X j z N=>
   h.frame j Za Zb _ _ z N.le (λb c=>bO (h.ok _ _ _ z b c) λa1 a2 a3=>⟨(N.new b (h.lt _ _ _ z b (h.sub b c))).trans a1,a2,a3⟩) λb c o e=>N.ext b o (a9 b c) (B b c) (λq=>by cases q) (λi hi S hs L=>X.f b c i hi S hs L) e
  have a0:P (i+1) M s3.heap:=fr (αb:=J) (σb:=I) l _ Q (.ofFa N3 (tE c));have a4:mM F mt fp W J I:=l.next S3 nz h.sub;refine ba (hB H3 hg _ _ λf a5 Z4 s4 N4 H4 o4=>?_);have a6:=(ah.trans S3).trans (N4.wider (V':=W) nofun);cases ad with
  |nx=>
   subst o4;have ai:=fr a4 _ a0 N4;have aj:=a4.next N4 (h.lt _ _ _ a0) h.sub;exact cm ⟨rfl,ih (i+1) a5 Z4 ae af s4 E U ν' k ai H4 aj d λf α' Z' D N' H' o'=>hR f α' Z' D (a6.trans N') H' o'⟩
  |ret x=>
   cases d
   refine aV o4 λv y1 r=>?_;subst y1;exact cm (hR _ a5 Z4 s4 a6 H4 (aS v rfl r))
noncomputable def fe(a:List Nat)(p:PT)(b:List S->List T->Option (List T×List T))(g:bC):bC:=λO Y=>(b O Y).bind λr=>em (bU a p) g r.1 O r.2
def gL(w:aZ)(A:bx)(F:Fx)(e:Expr)(a:Bool)(b:Option Nat)(f:List S->List T->Option (List T×List T)):Prop:=∀ ⦃J O Y x ν' Z s⦄,St w F J Z O Y s->f O Y=some (x,ν')->Ei w A F J Z O s e a b x ν'
theorem UX(B:A.handled=none){target iter:Expr}{body:List dw}{pos:br}{p:PT}{g:bC}{t:List S->List T->Option (List T×List T)}{u:Bool}{y:Option Nat}(C:gL w A F iter u y t)(c:jW iter=true)
  (k:u=true->i4 target=true) (I:gP F.nm p target=true) (K:dp w A F mt body g) (l:∀ i∈mt,y≠some i):eX w A F mt (.For target iter body [] pos) (fe F.wr p t g):=λJ O Y L U ν' Z s H=>by
 refine bJ λitems G M h2=>?_;intro Q E N;refine wpAny_For (C H M _ _ λI0 fp W P R X s1 z IT m h n d=>?_) (zF c);have H1:=H.next z;have hf:mM F mt fp W J O:=⟨λb a j S r e q=>absurd (ck (H.own j S r e).2.2.2.1 (q▸h b a)) (cQ _),λb a j hm S r e q=>l j hm ((d b a).2 j S r e q)⟩;refine SY B IT k I K (λb a=>(d b a).1) n (λb a x q=>?_) (λb a=>bg H.low (h b a)) items 0 J X O G s1 L U ν' rfl m H1 hf h2 λf α' Z' D N' H' o'=>?_
 ·exact eA (H.cel x b q) λv o e _=>absurd (ck (cg e) (h b a)) (cQ _)
 ·exact N f α' Z' D (((cZ.ofNx z).trans N').strip h) H' o'
end
structure sX (scope:Scope) (nm:List (Option Str)) (ps:List Str):Prop where
 kf:scope.kind=.function
 nd:(scope.names.map (·.1)).Nodup
 nn:(nm.filterMap id).Nodup
 nf:∀ p∈scope.names,p.2≠.free
 lc:∀ (i:Nat) x,nm[i]?=some (some x)->scope.names.lookup x=some .local\/scope.names.lookup x=some .cell
 pd:ps.Nodup
 pk:∀ x∈ps,scope.names.lookup x=some .local\/scope.names.lookup x=some .cell
 pn:∀ (j:Nat) x,ps[j]?=some x->nm[j]?=some (some x)
 pl:∀ (i:Nat) x,nm[i]?=some (some x)->ps.length<=i->x∉ps
noncomputable def BJ(a:Scope)(nm:List (Option Str))(b:List Str):Bool:=
 decide (a.kind=.function)&&decide ((a.names.map (·.1)).Nodup)&&decide ((nm.filterMap id).Nodup)&&(a.names.all λp=>p.2 != .free)&&
 (nm.all λo=>match o with|none=>true|some x=>a.names.lookup x==some .local||a.names.lookup x==some .cell)&&
 decide (b.Nodup)&&(b.all λx=>a.names.lookup x==some .local||a.names.lookup x==some .cell)&&((nm.take b.length)==b.map some)&&decide (b.length<=nm.length)&&
 ((nm.drop b.length).all λo=>match o with|none=>true|some x=>!(b.contains x))
theorem Am{a:Scope}{nm:List (Option Str)}{d:List Str}(h:BJ a nm d=true):sX a nm d:=
 bn (ee h) λh b=>bn (ee h) λh m=>bn (ee h) λh f=>bn (ee h) λh g=>bn (ee h) λh h6=>bn (ee h) λh h5=>bn (ee h) λh h4=>bn (ee h) λh h3=>bn (ee h) λh1 h2=>
 ⟨of_decide_eq_true h1,of_decide_eq_true h2,of_decide_eq_true h3,λp k=>bne_iff_ne.mp (c8.mp h4 p k),λi x hi=>(ya.mp (c8.mp h5 _ (ke hi))).imp dN dN,
  of_decide_eq_true h6,λx c=>(ya.mp (c8.mp g x c)).imp dN dN,
  λj x e=>(List.getElem?_take_of_lt (je.mp e).1).symm.trans ((congrArg (·[j]?) (dN f)).trans (fR.trans (congrArg (ri some) e))),
  λi x hi l c=>o5 ((Oa (c8.mp b (some x) (ke (List.getElem?_drop.trans ((I6 l).symm▸hi))))).symm.trans (pe.mpr c))⟩
theorem Lv{k:Str->Option NameKind}{x:Str}:∀ (d:List (Str×aI)) (m:Str->Option aI),x∉d.map (·.1)->bindL k d m x=m x:=by
 intro a;induction a with
 |nil=>
  intro m _;exact rfl
 |cons b r c=>
  obtain⟨n,v⟩:=b;intro m h;simp only[cB,bP,not_or]at h;unfold bindL;rw[c _ h.2];split
  ·exact if_neg h.1
  ·rfl
theorem DT{k:Str->Option NameKind}{x:Str}{v:aI}(hk:k x=some .local):∀ (c:List (Str×aI)) (m:Str->Option aI),(c.map (·.1)).Nodup->(x,v)∈c->bindL k c m x=some v
 |[],m,b,a=>(dP a).elim
 |(n,u)::r,m,b,a=>by
  rw[cB,gu]at b;unfold bindL;rcases bP.mp a with e|a
  ·cases e
   rw[Lv r _ b.1,if_pos hk,if_pos rfl]
  ·exact DT hk r _ b.2 a
theorem Wm{k:Str->Option NameKind}{x:Str}:∀ (d:List (Str×aI)) (m:Str->Option aI),x∉d.map (·.1)->bindC k d m x=m x:=by
 intro a;induction a with
 |nil=>
  intro m _;exact rfl
 |cons b r c=>
  obtain⟨n,v⟩:=b;intro m h;simp only[cB,bP,not_or]at h;unfold bindC;rw[c _ h.2];split
  ·rfl
  ·exact if_neg h.1
theorem Dn{k:Str->Option NameKind}{x:Str}{v:aI}(hk:k x≠some .local):∀ (c:List (Str×aI)) (m:Str->Option aI),(c.map (·.1)).Nodup->(x,v)∈c->bindC k c m x=some v
 |[],m,b,a=>(dP a).elim
 |(n,u)::r,m,b,a=>by
  rw[cB,gu]at b;unfold bindC;rcases bP.mp a with e|a
  ·cases e
   rw[Wm r _ b.1,if_neg hk,if_pos rfl]
  ·exact Dn hk r _ b.2 a
noncomputable def X.s?:X->Option S
 |.v t=>some (.v t)
 |.nts=>some .nts
 |_=>none
section
variable{w:aZ}{A:bx}{F:Fx}{J:Nat->aJ}{Z Z':Fz}{O U:List S}{Y ν':List T}{s D:aL}
noncomputable def cG(c:Option aJ)(b:bh)(a:cz)(nm:List (Option Str)):Fx:={nt:=c,h₀:=b,env:=a,nm:=nm,fa:=a.locals::nm.filterMap (λo=>o.bind λx=>a.cells.lookup x),wr:=aO nm.length}
noncomputable def ig(nm:List (Option Str))(a:List S):List S:=a++CK (nm.length-a.length) .no
theorem GW(Hn:fi w Z F.nt Y s.heap)(a6:On Z s.heap)(ab:Md w Z)(Hg:mD s.gens)(a7:∃ ps,jz s.heap ps)(ad:171<=s.heap.objs.size){d:Scope}{nm:List (Option Str)}{ps:List Str}{a1:Str}{f:aJ}{cd:aI}(h:sX d nm ps){m:List X}{k:List aI}{ss:List S}(l:cT w F J O s.heap.objs.size Z s.heap m k)(hs:m.map X.s?=ss.map some)(a2:ps.length=m.length){Q:cz->aL->Prop}{E:aI->aL->Prop}
  (hQ:∀ g D,g.scope=d->g.qual=a1->g.code=cd->g.func=some f->g.frame=some g.locals->St w (cG F.nt s.heap g nm) J Z (ig nm ss) Y D->Nx w F.nt Z s Z Y D->Q g D) :
  bc (model pw w) A (CE d o8 [] (ps.zip k) a1 (some f) cd none nV) Q E s:=by
 have ae:∀ {m:List X} {k:List aI},cT w F J O s.heap.objs.size Z s.heap m k->k.length=m.length:=by
  intro m;induction m with
  |nil=>intro k r;rw[show k=[]from r];rfl
  |cons x m ih=>rintro k ⟨v,vr,rfl,_,r⟩;rw[cK,cK,ih r]
 have af:∀ x∈ps.zip k,d.names.lookup x.1=some .local\/(d.names.lookup x.1=some .cell/\((g6 (s.heap.objs.size+1) d.names []).lookup x.1).isSome=true):=λx l=>by
  have R:=(List.of_mem_zip l).1;rcases h.pk x.1 R with q|q
  ·exact .inl q
  ·exact .inr ⟨q,CF _ _ _ (.inl q)⟩
 refine wpAny_newFunctionEnv_cells h.kf af λg he D I0=>aQ λnG=>?_;obtain⟨⟨hh,tk,a3⟩,V,z,a4⟩:=I0.toInCall;refine nG ?_;have a8:s.heap.objs.size<=D.heap.objs.size:=by
  exact lV V λo es ep ho _=>j8 (ff a4 (cg ho))
 have N:Nx w F.nt Z s Z Y D:=by
  have:=(eI (tk:=tk) (W:=[]) (h':=hh) Hn a6 (nofun) (λb o _ e=>by have:=z b o e;rw[a3]at this;exact this) (by rw[a3]at a8;exact a8)).nx (nofun);rw[a3];exact this
 have B:g.scope=d:=by rw[he];rfl
 have a0:g.cells=g6 (s.heap.objs.size+1) d.names []:=by rw[he];rfl
 have ek:∀ x,g.kindOf x=d.names.lookup x:=λx=>by rw[<- B];rfl
 have fresh:∀ b,s.heap.objs.size<=b->Z b=none:=λb hb=>by
  cases q:Z b with
  |none=>rfl
  |some o=>exact absurd (cg (a6 _ _ q)) (lC.mpr hb)
 have C:∀ {x c},g.cells.lookup x=some c->(x,c)∈g.cells:=λe=>mem_of_lookup e;have aa:∀ x c,(x,c)∈g.cells->g.locals<c:=I0.above;have G:∀ a∈(cG F.nt s.heap g nm).fa,a=g.locals\/∃ x,g.cells.lookup x=some a:=λa P=>by
  rcases bP.mp P with e|P
  ·exact .inl e
  ·refine aV (JD.mp P) λo ho e=>?_;cases o with
   |none=>simp at e
   |some x=>exact .inr ⟨x,e⟩
 have H:∀ a∈(cG F.nt s.heap g nm).fa,s.heap.objs.size<=a:=λa P=>by
  rcases G a P with e|⟨x,l⟩
  ·rw[e];exact a4
  ·exact j8 (ff a4 (I0.above x a (C l)))
 have n:∀ x,d.names.lookup x=some .cell->(g.cells.lookup x).isSome=true:=λx l=>by
  rw[a0];exact CF _ _ _ (.inl l)
 have F':Aj (cG F.nt s.heap g nm):=by
  refine⟨by show g.scope.kind=_;rw[B];exact h.kf,by show g.globals=_;rw[he];rfl,by show g.builtins=_;rw[he];rfl,λx y c l hy=>name_of_addr I0.apart (C l) (C hy),H,.head _,λa P R=>?_,ad,λx hk=>?_,λi j x hi hj=>Dz h.nn hi hj,λi hi x l=>?_⟩
  ·have a5:a<s.heap.objs.size:=by
    have:=Hn;rw[show F.nt=some a from P]at this;exact eo this λ_ k y _=>jo y
   exact absurd (ck a5 (H a R)) (cQ _)
  ·have ag:d.names.lookup x=some .cell\/d.names.lookup x=some .free:=by
    have e:(cG F.nt s.heap g nm).env.kindOf x=d.names.lookup x:=ek x;rw[e]at hk;exact hk
   rcases ag with q|q
   ·exact n x q
   ·exact absurd rfl (h.nf _ (mem_of_lookup q))
  ·have e:(cG F.nt s.heap g nm).env.kindOf x=d.names.lookup x:=ek x;rw[e];rcases h.lc i x l with q|q
   ·exact .inl q
   ·exact aU (pg.mp (n x q)) λc hc=>.inr (fu q c hc (.tail _ (JD.mpr (aS (some x) (ke l) hc))))
 have a9:ss.length=ps.length:=by
  have:=congrArg j9 hs;simp only[dm]at this;exact Xg a2 this
 have I:∀ (i:Nat) (S:Mine.Internal.S),(ig nm ss)[i]?=some S->S.isOwn->False:=λi S e o=>by
  unfold ig at e;rw[CL]at e;split at e
  ·have R:some S∈ss.map some:=eh.mpr (aS S (ke e) rfl);rw[<- hs]at R;refine aQ λnG=>aV (eh.mp R) λx _ l=>nG ?_;cases x<;>first|(obtain rfl:=bw l;exact o)|exact nomatch l
  ·have:=ke e;rw[ye]at this;rw[this.2]at o;exact o
 have K:(ps.zip k).map (·.1)=ps:=by
  rw[List.map_fst_zip];rw[ae l,a2];exact cu _
 refine hQ g D B (by rw[he];rfl) (by rw[he];rfl) (by rw[he];rfl) (by rw[he];rfl) ?_ N;refine⟨F',N.on,ab,N.nts,(N.gens Hg),λb o _ e=>z b o e,(a7.elim λps ht=>(N.tab ps ht).elim λmore h=>⟨_,h⟩),λa P=>⟨fresh a (H a P),?_⟩,λx c hc=>⟨_,I0.cell x c hc⟩,(aS _ V (λi x S hi L ah=>?_)),λi S e o=>(I i S e o).elim,λi j S S' e o=>(I i S e o).elim⟩
 ·rcases G a P with e|⟨x,l⟩
  ·rw[e];refine lV V λo es ep ho _=>?_;clear V;exact cg ho
  ·refine aV (I0.cell x a l) λo ho _=>?_;exact cg ho
 ·unfold ig at L;rw[CL]at L;split at L
  ·rename_i a5;have ai:ps[i]?=some x:=by
    have hp:i<ps.length:=Wf a9 a5;have e1:ps[i]?=some ps[i]:=gv hp;have:=h.pn i _ e1;have aj:nm[i]?=some (some x):=hi;rw[aj]at this;simp only[lH]at this;rw[e1,this]
   obtain⟨v,hv,r⟩:∃ v,k[i]?=some v/\∃ p,m[i]?=some p/\p.s?=some S/\RX w F J O s.heap.objs.size Z s.heap p v:=by
    have u:∃ p,m[i]?=some p/\p.s?=some S:=by
     have:(ss.map some)[i]?=some (some S):=by rw[fR,L];rfl
     rw[<- hs,fR]at this;revert this;refine ca λp h1 h2=>?_;exact(aS p h1 h2)
    refine aQ λnG=>aV u λp h1 h2=>?_;clear u;refine nG ?_;have key:∀ (m:List X) (k:List aI) (i:Nat),cT w F J O s.heap.objs.size Z s.heap m k->m[i]?=some p->∃ v,k[i]?=some v/\RX w F J O s.heap.objs.size Z s.heap p v:=by
     intro m;induction m with
     |nil=>intro k i _ e;simp at e
     |cons y ys ih=>
      rintro k i ⟨v,vr,rfl,r1,r2⟩ e;cases i with
      |zero=>simp only[JE,lH]at e;subst e;exact(aS v rfl r1)
      |succ i=>simp only[ad8]at e ⊢;exact ih vr i r2 e
    exact aV (key m k i l h1) λv h3 h4=>(aS v h3 (cI p h1 h2 h4))
   refine aQ λnG=>ej r λp _ u rx=>?_;clear r;refine nG ?_;have R:(x,v)∈ps.zip k:=by
    rw[ad7];exact⟨i,by rw[CM];exact⟨ai,hv⟩⟩
   refine(aS v ?_ ?_)
   ·have e:(cG F.nt s.heap g nm).env.kindOf x=d.names.lookup x:=ek x;rcases h.lc i x hi with q|q
    ·left;exact⟨e.trans q,DT (e.trans q) _ _ (by rw[K];exact h.pd) R⟩
    ·right;refine aU (pg.mp (n x q)) λc hc=>?_;have M:=I0.cell x c hc;rw[Dn (by rw[show g.kindOf x=_ from e,q];simp) _ _ (by rw[K];exact h.pd) R]at M;exact(fu (.inl (e.trans q)) c hc M)
   ·cases p with
    |v t=>obtain rfl:=bw u;exact Rd.mono N.le t rx
    |nts=>obtain rfl:=bw u;exact rx
    |_=>exact nomatch u
  ·have:=ke L;rw[ye]at this;exact absurd this.2 ah
theorem KU(H:St w F J Z O Y s){b:Scope}{nm:List (Option Str)}{e:List Str}{c:Str}{f:aJ}{i:aI}(h:sX b nm e){g:List X}{j:List aI}{k:List S}(l:cT w F J O s.heap.objs.size Z s.heap g j)(hs:g.map X.s?=k.map some)(d:e.length=g.length){Q:cz->aL->Prop}{E:aI->aL->Prop}
  (m:∀ a D,a.scope=b->a.qual=c->a.code=i->a.func=some f->a.frame=some a.locals->St w (cG F.nt s.heap a nm) J Z (ig nm k) Y D->Nx w F.nt Z s Z Y D->Q a D) :
  bc (model pw w) A (CE b o8 [] (e.zip j) c (some f) i none nV) Q E s:=
 GW H.nts H.on H.md H.gens H.tab H.sz h l hs d m
end
noncomputable def X.res?:X->Option T
 |.v t=>some t
 |.fr l=>some (.lst l)
 |.frd l=>some (.dct l)
 |.bo _ l=>some (.lst l)
 |.bod _ l=>some (.dct l)
 |.nts=>none
noncomputable def zX(nm:List (Option Str))(g:bC)(a:List S)(Y:List T):Option (T×List T):=(g (ig nm a) Y).bind λr=>match r.1 with
 |.ret x=>x.res?.map λt=>(t,r.2.2)
 |.nx=>none
section
variable{w:aZ}{A:bx}{F:Fx}{J α':Nat->aJ}{Z Z':Fz}{O U:List S}{Y ν':List T}{s D:aL}
theorem RX.res{n:Nat}{x:X}{v:aI}{t:T}(H:St w F J Z O Y s)(y:F.h₀.objs.size<=n)(r:RX w F J O n Z s.heap x v)(e:x.res?=some t):
  ∃ c,Le Z c/\(∀ b,b<F.h₀.objs.size->c b=Z b)/\On c s.heap/\fi w c F.nt Y s.heap/\Rd w c t v:=by
 have mk:∀ a,F.h₀.objs.size<=a->Z a=none->F.nt≠some a->Le Z (put Z s.heap a)/\(∀ b,b<F.h₀.objs.size->put Z s.heap a b=Z b)/\On (put Z s.heap a) s.heap/\fi w (put Z s.heap a) F.nt Y s.heap:=λa h1 h2 h3=>by
  exact⟨gc h2,λb z=>jF (dW (ck z h1)),w7 H.on,fi.put H.nts h2 h3⟩
 cases x with
 |v E=>cases e;exact(ny Z (.refl _) (λ_ _=>rfl) H.on H.nts r)
 |fr l=>
  cases e
  refine aQ λf=>iy r λa g e h1 h2 h3 h h5=>?_;clear r;exact ej h.isList λo j hc hk=>fX (mk a (bg y h1) h2 h3) λd k m3 m=>f (ny _ d k m3 m (by exact(fy a o g e (gM.trans j) ⟨hc,hk⟩ (bm.mono d _ h5))))
 |frd l=>
  cases e
  refine aQ λf=>iy r λa g e h1 h2 h3 h4 h5=>?_;clear r;exact aV (pa.mp h4) λo j hc=>fX (mk a (bg y h1) h2 h3) λd k m3 m=>f (ny _ d k m3 m (by exact(fy a o g e (gM.trans j) hc (bY.mono d _ h5))))
 |bo i l=>
  cases e
  refine aQ λf=>ou r λe h1 g h h5=>?_;clear r;exact ej h.isList λo j hc hk=>gj (H.own i _ h1 trivial) λp q u B C=>fX (mk _ q p u) λd k m3 m=>f (ny _ d k m3 m (by exact(fy _ o g e (gM.trans j) ⟨hc,hk⟩ (bm.mono d _ h5))))
 |bod i l=>
  cases e
  refine aQ λf=>ou r λe h1 g h4 h5=>?_;clear r;exact aV (pa.mp h4) λo j hc=>gj (H.own i _ h1 trivial) λp q u B C=>fX (mk _ q p u) λd k m3 m=>f (ny _ d k m3 m (by exact(fy _ o g e (gM.trans j) hc (bY.mono d _ h5))))
 |nts=>exact bD e
theorem di.deeper{n:Nat}{A:bx}(r:di (n+1) A)(a:cz):di n (A.deeper a):=⟨by show A.depth+1+n<900;have:=r.d;exact OD this,by show A.units+3+8*n<9000;have:=r.u;exact Tm this,r.h⟩
theorem Gl{n:Nat}(hR:di (n+1) A)(H:St w F J Z O Y s){fd:uf}{f c:aJ}{o oc:bK}{body:List dw}{nm:List (Option Str)}{I:List Str}{mt:List Nat}{g:bC}{u:Array aI}{tk:dz}
  (ho:(HF w.params).get? f=some o) (hd:o.data=.func fd) (a0:f≠eB) (a3:(HF w.params).get? c=some oc) (a4:oc.data=.fields u) (hq:u[1]?=some (.str fd.qualname tk)) (L:c≠eB) (k:fd.code=.ref c)
  (a5:fd.scope.isCoroutine=false) (M:fd.scope.isGenerator=false) (y:fd.body=.stmts body) (a6:fd.globals=o8) (a7:fd.closure=[]) (a8:fd.builtins=nV)
  (a9:sX fd.scope nm I) (z:∀ j:List aI,j.length=I.length->yf fd ⟨j,[]⟩=pure (I.zip j))
  (hB:∀ (A':bx) (nt:Option aJ) (N:bh) (a:cz),di n A'->a.scope=fd.scope->a.qual=fd.qualname++".<locals>."->a.code=.ref c->a.func=some f->a.frame=some a.locals->dp w A' (cG nt N a nm) mt body g)
  {l:List X} {j:List aI} {W:List S} {t:T} (P:cT w F J O s.heap.objs.size Z s.heap l j) (hs:l.map X.s?=W.map some) (m:I.length=l.length) (R:zX nm g W Y=some (t,ν')) :
  lO w A F J Z O s (.ref f) j (.v t) ν':=λQ E hQ=>by
 unfold zX at R;revert R;refine pF λfl U G e1 h2=>?_;cases fl with
 |nx=>exact bD h2
 |ret x=>
 revert h2;refine ca λt' e2 h3=>?_;simp only[mF]at h3;refine bn h3 λy0 y1=>?_;clear h3;subst y0;subst y1;have aa:∀ {l:List X} {j:List aI},cT w F J O s.heap.objs.size Z s.heap l j->j.length=l.length:=by
  intro l;induction l with
  |nil=>intro j r;refine(show j=[]from r)▸?_;rfl
  |cons x l ih=>rintro j ⟨v,vr,rfl,_,r⟩;rw[cK,cK,ih r]
 refine wpAny_call (JJ (by have:=hR.d;show A.depth<1000;exact Ig this) (i7 H.md H.on ho a0) hd a5 M y (wY c oc u tk ⟨k,i7 H.md H.on a3 L,a4,hq⟩) ?_);refine(z j (by rw[aa P,m]))▸?_;refine cm ?_;refine a6▸a7▸a8▸k▸(KU H a9 P hs m λa s1 h1 h2 h3 h4 h5 H1 p=>⟨tL H1.md H1.on,?_⟩);refine JK (hB (A.deeper a) F.nt s.heap a (hR.deeper a) h1 h2 h3 h4 h5 H1 e1 _ _ λfl ab Z2 s2 B H2 o2=>?_);refine aQ λV=>aV o2 λv y1 r2=>?_;clear o2;subst y1;refine zZ (RX.res (F:=cG F.nt s.heap a nm) H2 (cu _) r2 e2) λZ3 m1 m2 m3 m4 m5=>V ?_;show Q v s2;have C:∀ (i:Nat) (S:Mine.Internal.S),(ig nm W)[i]?=some S->S.isOwn->False:=λi S e o=>by
  unfold ig at e;replace e:=CL▸e;split at e
  ·have hm:some S∈W.map some:=eh.mpr (aS S (ke e) rfl);replace hm:=hs.symm▸hm;refine aQ λV=>aV (eh.mp hm) λx _ P=>V ?_;cases x<;>first|(obtain rfl:=bw P;exact o)|exact nomatch P
  ·have:=ke e;rw[ye]at this;replace o:=this.2▸o;exact o
 refine hQ v Z3 s2 ?_ m5;exact {
  le:=(p.le.trans B.le).trans m1
  new:=λb K=>(m2 b K).trans ((B.new b (ck K p.size)).trans (p.new b K))
  on:=m3
  ext:=λb o K e=>B.ext b o K (λq=>absurd (ck (cg e) (H1.ok.fah b q)) (cQ _)) (λq=>by cases q) (λi _ S hi ho=>(C i S hi ho).elim) (p.ext b o K e)
  size:=bg p.size B.size
  nts:=m4
  gens:=λh=>B.gens (p.gens h)
  os:=B.os.trans p.os
  tab:=λI h=>by
   refine aQ λV=>aU (p.tab I h) λa1 b1=>aU (B.tab _ b1) λa2 b2=>V ?_;exact⟨a1++a2,by refine xT▸?_;exact b2⟩}
end
abbrev Z0:=List S->List T->Option (List X×List T)
noncomputable def dK(t:T):aP:=λO Y=>some (.v t,Y)
noncomputable def dV(i:Nat):aP:=λO Y=>(O[i]?).bind λS=>(S.x i).map λx=>(x,Y)
noncomputable def d2(h:T->T->Option X)(f g:aP):aP:=λO Y=>(f O Y).bind λa=>a.1.t?.bind λc=>(g O a.2).bind λb=>b.1.t?.bind λd=>(h c d).map λx=>(x,b.2)
noncomputable def dB(op:gf)(f g:aP):aP:=d2 (λa b=>(dn op a b).map .v) f g
noncomputable def dC(op:gq)(f g:aP):aP:=d2 (λa b=>(d9 op a b).map λc=>.v (.bool c)) f g
noncomputable def aR(f g:aP):aP:=λO Y=>(f O Y).bind λa=>(g O a.2).bind λb=>b.1.t?.bind λk=>(a.1.item k).map λt=>(.v t,b.2)
noncomputable def oI(c:dc)(f g:aP):aP:=λO Y=>(c O Y).bind λb=>if b.1 then f O b.2 else g O b.2
noncomputable def tC(op:gq)(f g:aP):dc:=λO Y=>(f O Y).bind λa=>a.1.t?.bind λc=>(g O a.2).bind λb=>b.1.t?.bind λd=>(d9 op c d).map λx=>(x,b.2)
noncomputable def tV(f:aP):dc:=λO Y=>(f O Y).bind λa=>a.1.t?.bind λt=>(oh t).map λb=>(b,a.2)
noncomputable def tN(c:dc):dc:=λO Y=>(c O Y).map λb=>(!b.1,b.2)
noncomputable def lg:List aP->List S->List T->Option (List T×List T)
 |[],_,Y=>some ([],Y)
 |f::b,O,Y=>(f O Y).bind λa=>a.1.t?.bind λt=>(lg b O a.2).map λr=>(t::r.1,r.2)
noncomputable def cJ(a:List aP):aP:=λO Y=>(lg a O Y).map λr=>(.v (.tup r.1),r.2)
noncomputable def de(a:List aP):aP:=λO Y=>(lg a O Y).map λr=>(.fr r.1,r.2)
noncomputable def eT:List aP->Z0
 |[],_,Y=>some ([],Y)
 |f::b,O,Y=>(f O Y).bind λa=>(eT b O a.2).map λr=>(a.1::r.1,r.2)
noncomputable def bL(a:List aP)(k:List X->List T->Option (X×List T)):aP:=λO Y=>(eT a O Y).bind λr=>k r.1 r.2
theorem lp{f:aP}{b:List aP}{O:List S}{Y G a:List T}{x:X}{l:List X}(h1:f O Y=some (x,G))(h2:eT b O G=some (l,a)):eT (f::b) O Y=some (x::l,a):=aT h1 (da h2 rfl)
section
variable{w:aZ}{A:bx}{F:Fx}{J:Nat->aJ}{Z Z':Fz}{O:List S}{Y ν':List T}{s D:aL}{mt:List Nat}
theorem WU{i:Int}{k pos}:bu w A F (.Constant (.int i) k pos) (dK (.int i)):=λ_ _ _ _ _ _ _ H=>by refine g8 ?_;exact KR H
theorem LJ{i:Str}{k pos}:bu w A F (.Constant (.str i) k pos) (dK (.str i)):=λ_ _ _ _ _ _ _ H=>by refine g8 ?_;exact aaU H
theorem T6{k pos}:bu w A F (.Constant .none k pos) (dK .none):=λ_ _ _ _ _ _ _ H=>by refine g8 ?_;exact Z9 H
theorem P3{b:Bool}{k pos}:bu w A F (.Constant (.bool b) k pos) (dK (.bool b)):=λ_ _ _ _ _ _ _ H=>by refine g8 ?_;exact Ys H
theorem Kv{b:UInt64}{k pos}:bu w A F (.Constant (.float b) k pos) (dK (.flt b)):=λ_ _ _ _ _ _ _ H=>by refine g8 ?_;exact Wg H
theorem ZP {id:Str} (i:Nat) {pos} (hi:F.nm[i]?=some (some id)) (hd:(id==("__debug__":Str))=false) (hc:(id==("__classdict__":Str))=false):bu w A F (.Name id pos) (dV i):=λ_ _ _ _ _ _ _ H=>by
 exact aX λS a=>ca λx b=>dU (Xs H hi a b hd hc)
theorem nJ{a b:Expr}{op:gf}{pos}{f g:aP}(c:bu w A F a f)(d:bu w A F b g):bu w A F (.BinOp a op b pos) (dB op f g):=λ_ _ _ _ _ _ _ H=>by
 refine bJ λp G e=>aX λq i=>bJ λr j k=>aX λu l=>ca λx m h=>?_;revert m;refine ca λt n o=>?_;cases h;subst o;exact Uy H ((c H e).frz i) (λZ' D N=>(d (H.next N) k).frz l) n
theorem kD{a b:Expr}{op:gq}{pos}{f g:aP}(c:bu w A F a f)(d:bu w A F b g)(e:rA op b=false):bu w A F (.Compare a [op] [b] pos) (dC op f g):=λ_ _ _ _ _ _ _ H=>by
 refine bJ λq G i=>aX λr j=>bJ λu k l=>aX λv m=>ca λx n h=>?_;revert n;refine ca λt o p=>?_;cases h;subst p;exact ZN H ((c H i).frz j) (λZ' D N=>(d (H.next N) l).frz m) o e
theorem tv{a b:Expr}{pos}{f g:aP}(c:bu w A F a f)(d:bu w A F b g)(e:nr b=true):bu w A F (.Subscript a b pos) (aR f g):=λ_ _ _ _ _ _ _ H=>by
 exact bJ λn G h=>bJ λo i j=>aX λk l=>ca λt m=>dU (bM H (c H h) (λZ' D N=>(d (H.next N) j).frz l) m e)
theorem Ff{c a b:Expr}{pos}{t:dc}{f g:aP}(hc:gx w A F c t)(d:bu w A F a f)(e:bu w A F b g):bu w A F (.IfExp c a b pos) (oI t f g):=λ_ _ _ _ _ _ _ H=>by
 refine bJ λi G j h=>UP H (hc H j) λZ' D N=>?_;cases i with
 |true=>exact d (H.next N) (by simpa using h)
 |false=>exact e (H.next N) (by simpa using h)
theorem hZ{a b:Expr}{op:gq}{pos}{f g:aP}(c:bu w A F a f)(d:bu w A F b g)(e:rA op b=false):gx w A F (.Compare a [op] [b] pos) (tC op f g):=λ_ _ _ _ _ _ _ H=>by
 exact bJ λn G h=>aX λo i=>bJ λp j k=>aX λq l=>ca λx m=>dU (KP H ((c H h).frz i) (λZ' D N=>(d (H.next N) k).frz l) m e)
theorem yU{e:Expr}{f:aP}(a:bu w A F e f)(b:IE e=true):gx w A F e (tV f):=λ_ _ _ _ _ _ _ H=>by
 exact bJ λh G c=>aX λi d=>ca λx g=>dU (Y9 ((a H c).frz d) g b)
theorem R4{e:Expr}{pos}{f:dc}(a:gx w A F e f):gx w A F (.UnaryOp .Not e pos) (tN f):=λ_ _ _ _ _ _ _ H=>by
 exact kC λc G b=>dU (Ww (a H b))
inductive aN (w:aZ) (A:bx) (F:Fx):List Expr->List aP->Prop
 |nil:aN w A F [] []
 |cons {e es f fs}:bu w A F e f->dQ e=true->aN w A F es fs->aN w A F (e::es) (f::fs)
theorem aN.ts{a:List Expr}{b:List aP}(h:aN w A F a b):∀ {J O Y l ν' Z s pos},St w F J Z O Y s->lg b O Y=some (l,ν')->pS w A F J Z O s pos a l ν':=by
 induction h with
 |nil=>intro J O Y l ν' Z s pos H h;revert h;refine g8 ?_;exact GH H
 |cons h1 c _ d=>
  intro J O Y l ν' Z s pos H h;revert h;refine bJ λj G e=>?_;exact aX λk f=>kC λl2 g i=>dU (WR H ((h1 H e).frz f) (λZ' D N=>d (H.next N) i) c)
theorem aN.as{a:List Expr}{b:List aP}(h:aN w A F a b):∀ {J O Y l ν' Z s pos},St w F J Z O Y s->eT b O Y=some (l,ν')->gp w A F J Z O s pos a l ν':=by
 induction h with
 |nil=>intro J O Y l ν' Z s pos H h;revert h;refine g8 ?_;exact yX H
 |cons h1 c _ d=>
  intro J O Y l ν' Z s pos H h;revert h;refine bJ λi G e=>?_;exact kC λl2 f g=>dU (z6 H (h1 H e) (λZ' D N=>d (H.next N) g) c)
theorem aN.plain{a:List Expr}{b:List aP}(h:aN w A F a b):a.all dQ=true:=by
 induction h with
 |nil=>rfl
 |cons _ c _ d=>rw[gX,c,d];rfl
theorem aN.len{a:List Expr}{b:List aP}(h:aN w A F a b):a.length=b.length:=by
 induction h with
 |nil=>rfl
 |cons _ d _ c=>simp[c]
theorem C9:∀ {a:List aP} {O:List S} {Y:List T} {l ν'},lg a O Y=some (l,ν')->l.length=a.length:=by
 intro b;induction b with
 |nil=>
  intro _ _ _ _ h;cases h;rfl
 |cons f a c=>
  intro O Y l ν' h;revert h;refine bJ λg G i=>?_;refine aX λj k=>kC λl2 d e h=>?_;cases h;simp[c e]
theorem fL{a:List Expr}{b:List aP}{k pos}(d:jr a.length 1000=true)(h:aN w A F a b):bu w A F (.Tuple a k pos) (cJ b):=λ_ _ _ _ _ _ _ H=>by
 exact kC λl G c=>dU (eD H (h.ts H c) (by refine C9 c▸h.len▸?_;exact bg (xz d) (by decide)))
theorem m8{a:List Expr}{b:List aP}{pos}(d:jr a.length 1000=true)(h:aN w A F a b):bu w A F (.List a pos) (de b):=λ_ _ _ _ _ _ _ H=>by
 exact kC λl G c=>dU (gn H (h.ts H c) (by refine C9 c▸h.len▸?_;exact bg (xz d) (by decide)))
theorem sU{pos}:bu w A F (.Dict [] [] pos) (λO Y=>some (.frd [],Y)):=λ_ _ _ _ _ _ _ H=>by refine g8 ?_;exact Xc H
def dG(w:aZ)(A:bx)(F:Fx)(f:aI)(k:List X->List T->Option (X×List T)):Prop:=
 ∀ ⦃J O Y x ν' Z s n a b⦄,St w F J Z O Y s->F.h₀.objs.size<=n->n<=s.heap.objs.size->cT w F J O n Z s.heap a b->k a Y=some (x,ν')->lO w A F J Z O s f b x ν'
theorem fm{x:String}{id:String}{p pos:br}{e:Expr}{a:List Expr}{b:List aP}{k:List X->List T->Option (X×List T)}(d:pG x=some (.builtin id))(f:F.env.kindOf (aK x)=some .globalImplicit)
  (hd:(aK x==("__debug__":Str))=false) (c:aN w A F (e::a) b) (hc:dG w A F (.builtin id) k):bu w A F (.Call (.Name (aK x) p) (e::a) [] pos) (bL b k):=λ_ _ _ _ _ _ _ H=>by
 exact bJ λl G g h=>Y3 H f d hd (c.as H g) c.plain λm Z' D i j r=>hc i H.low j r h
theorem s7{x:String}{id:String}{p pos:br}{e:Expr}{a:List Expr}{b:List aP}{k:List X->List T->Option (X×List T)}(d:pG x=some (.type id))(f:F.env.kindOf (aK x)=some .globalImplicit)
  (hd:(aK x==("__debug__":Str))=false) (c:aN w A F (e::a) b) (hc:dG w A F (.type id) k):bu w A F (.Call (.Name (aK x) p) (e::a) [] pos) (bL b k):=λ_ _ _ _ _ _ _ H=>by
 exact bJ λl G g h=>LR H f d hd (c.as H g) c.plain λm Z' D i j r=>hc i H.low j r h
theorem fM{x:String}{f:aJ}{o:bK}{fd:uf}{p pos:br}{e:Expr}{c:List Expr}{d:List aP}{k:List X->List T->Option (X×List T)}(i:Ac x=some (.ref f))(j:F.env.kindOf (aK x)=some .globalImplicit)
  (hd:(aK x==("__debug__":Str))=false) (l:(HF w.params).get? f=some o) (a:o.data=.func fd) (b:f≠eB) (g:aN w A F (e::c) d) (hc:dG w A F (.ref f) k) :
  bu w A F (.Call (.Name (aK x) p) (e::c) [] pos) (bL d k):=λ_ _ _ _ _ _ _ H=>by
 exact bJ λt G m h=>Vd H j i hd l a b (g.as H m) g.plain λu Z' D n q r=>hc n H.low q r h
end
noncomputable def fdOf(st:dw)(name:Str)(a:aI)(c:aJ):uf:={name:=name,qualname:=name,params:=fA st,body:=.stmts (fB st),scope:=fS st,globals:=3,closure:=[],defaults:=.none,kwdefaults:=.none,doc:=.none,pyModule:=a,annotations:=none,code:=.ref c,closureTuple:=.none,builtins:=0}
noncomputable def jx(st:dw)(name:Str)(a:aI)(c:aJ):bK:=⟨.type "function",none,.func (fdOf st name a c),#[]⟩
theorem tu{P:List aI->Prop}(h:∀ a,P [a])(b:List aI)(c:b.length=1):P b:=by
 cases b with
 |nil=>exact absurd c (by decide)
 |cons a b=>cases b with
  |nil=>exact h a
  |cons=>exact absurd (yg c) (Nat.succ_ne_zero _)
theorem px{P:List aI->Prop}(h:∀ a b,P [a,b])(c:List aI)(d:c.length=2):P c:=by
 cases c with
 |nil=>exact absurd d (by decide)
 |cons a c=>exact tu (P:=λl=>P (a::l)) (h a) c (yg d)
theorem sW{P:List aI->Prop}(h:∀ a b c,P [a,b,c])(d:List aI)(e:d.length=3):P d:=by
 cases d with
 |nil=>exact absurd e (by decide)
 |cons a d=>exact px (P:=λl=>P (a::l)) (h a) d (yg e)
theorem Re(l:List aI):l.length=2->∃ a b,l=[a,b]:=px (P:=λl=>∃ a b,l=[a,b]) (λa b=>(dA a b rfl)) l
theorem Tl(l:List aI):l.length=3->∃ a b c,l=[a,b,c]:=sW (P:=λl=>∃ a b c,l=[a,b,c]) (λa b c=>(dH a b c rfl)) l
theorem Wz{P:Nat->Prop}(h0:P 0)(j:Nat)(h:j<1):P j:=Nat.lt_one_iff.mp h▸h0
theorem nz{P:Nat->Prop}(h0:P 0)(h1:P 1)(j:Nat)(h:j<2):P j:=by
 cases j with
 |zero=>exact h0
 |succ j=>exact Wz (P:=λj=>P (j+1)) h1 j (ad9 h)
theorem A4{P:Nat->Prop}(h0:P 0)(h1:P 1)(h2:P 2)(j:Nat)(h:j<3):P j:=by
 cases j with
 |zero=>exact h0
 |succ j=>exact nz (P:=λj=>P (j+1)) h1 h2 j (ad9 h)
noncomputable def cf(nm:List (Option Str))(np:Nat)(g:bC)(a:List X)(Y:List T):Option (X×List T):=
 if a.length=np then(a.mapM X.s?).bind λb=>(zX nm g b Y).map λr=>(.v r.1,r.2)else none
theorem wl:∀ {c:List X} {b:List S},c.mapM X.s?=some b->c.map X.s?=b.map some:=by
 intro d;induction d with
 |nil=>
  intro b h;rw[List.mapM_nil]at h;exact bw h▸rfl
 |cons x c e=>
  intro b h;rw[List.mapM_cons]at h;revert h;refine aX λa f=>aX λr g h=>?_;rw[<- bw h,cB,cB,f,e g]
noncomputable def Yk:Data->Option aI
 |.fields a=>a[1]?
 |_=>none
noncomputable def strOf:aI->Option Str
 |.str n _=>some n
 |_=>none
noncomputable def codeAt(h:bh)(c:aJ)(name:Str):Bool:=((h.get? c).bind λo=>(Yk o.data).bind strOf)==some name
theorem GP{h:bh}{c:aJ}{name:Str}(e:codeAt h c name=true):∃ o a d,h.get? c=some o/\o.data=.fields a/\(a[1]?:Option aI)=some (.str name d):=by
 have e:=dN e;revert e;refine aX λo f=>aX λv b hs=>?_;refine⟨o,?_⟩;cases hd:o.data with
 |fields a=>
  rw[hd]at b;cases v with
  |str n d=>exact(cE a d f rfl (bw hs▸b))
  |_=>exact bD hs
 |_=>rw[hd]at b;exact bD b
section
variable{w:aZ}{A:bx}{F:Fx}{J:Nat->aJ}{Z Z':Fz}{O:List S}{Y ν':List T}{s D:aL}{mt:List Nat}
theorem cT.at{n k:Nat}{h:bh}:∀ {a:List X} {g:List aI} {i:List S},a.map X.s?=i.map some->cT w F J O n Z h a g->cT w F J O k Z h a g:=by
 intro b;induction b with
 |nil=>
  intro _ _ _ r;exact r
 |cons x a c=>
  intro _ d;cases d with
  |nil=>
   intro e _;cases e
  |cons S i=>
   intro e f;refine bG f λv l m j o=>?_;rw[cB,cB]at e;injection e with p q
   refine(cE v l m ?_ (c q o));cases x with
   |v t=>exact j
   |nts=>exact j
   |_=>exact bD p
theorem kl(st:dw)(name:Str)(k:aI)(f c:aJ){n:Nat}(hR:di (n+1) A){nm:List (Option Str)}{ps:List Str}{g:bC}
  (z:(HF w.params).get? f=some (jx st name k c)) (l:f≠eB) (e:c≠eB) (b:codeAt (HF w.params) c name=true)
  (o:(fS st).isCoroutine=false) (h:(fS st).isGenerator=false) (p:BJ (fS st) nm ps=true)
  (d:∀ j:List aI,j.length=ps.length->yf (fdOf st name k c) ⟨j,[]⟩=pure (ps.zip j))
  (B:∀ (v:bx) (C:Option aJ) (i:bh) (a:cz),di n v->a.scope=fS st->a.qual=name++".<locals>."->a.code=.ref c->a.func=some f->a.frame=some a.locals->dp w v (cG C i a nm) mt (fB st) g) :
  dG w A F (.ref f) (cf nm ps.length g):=λJ O Y x ν' Z s m N j H E G r=>by
 exact cb λI=>aX λP y=>kC λt K L=>dU (sg (GP b) λQ M R q u hq=>Gl hR H (fd:=fdOf st name k c) z rfl l q u hq e rfl o h rfl rfl rfl rfl (Am p) d B (cT.at (wl y) r) (wl y) I.symm L)
theorem dd{c:Option aJ}{a:bh}{b:cz}{nm:List (Option Str)}(i:Nat)(g:A.handled=none){x:Str}{e:Expr}{pos d:br}{f:aP}(hi:nm[i]?=some (some x))(hs:qz e [.Name x d]=true)(hw:nT [.Name x d] e b=pure none)
  (h:bu w A (cG c a b nm) e f) :
  eX w A (cG c a b nm) mt (.Assign [.Name x d] e pos) (bW (aO nm.length) (.nm i) f):=uI (F:=cG c a b nm) g h (show(nm[i]?==some (some x))=true from beq_iff_eq.mpr hi) rfl hs hw
end
section
variable{w:aZ}{A:bx}{F:Fx}{mt mt':List Nat}{J α' α'':Nat->aJ}{Z Z' Z'':Fz}{O U σ'' σ0:List S}{Y ν' ν'':List T}{s D s'':aL}{W fp:List aJ}
def nA(w:aZ)(F:Fx)(J:Nat->aJ)(Z:Fz)(O:List S)(n:Nat)(s:aL)(x:X)(v:aI):Prop:=match x with
 |.v t=>Rd w Z t v
 |x=>∃ b a,x.own?=some b/\v=.ref a/\n<=a/\dY w F.nt Z s.heap a b v/\b.isOwn/\Z a=none/\F.h₀.objs.size<=a/\F.nt≠some a/\a<s.heap.objs.size/\a∉F.fa/\∀ (j:Nat) (S:Mine.Internal.S),O[j]?=some S->S.isOwn->J j≠a
noncomputable def X.owns:X->Bool
 |.fr _|.frd _=>true
 |_=>false
def qr(p q:X×aI):Prop:=p.1.owns=true->q.1.owns=true->p.2≠q.2
noncomputable def hY(a:List Nat)(i:Nat)(x:X)(O:List S):Option (List S):=if a.contains i/\i<O.length then match x with
  |.v t=>some (O.set i (.v t))
  |x=>x.own?.map λS=>O.set i S
 else none
noncomputable def mq(a:List Nat):List (Nat×X)->List S->Option (List S)
 |[],O=>some O
 |(i,x)::r,O=>(hY a i x O).bind λU=>mq a r U
theorem QQ{a:List Nat}{p:Nat×X}{r:List (Nat×X)}{O:List S}:mq a (p::r) O=(hY a p.1 p.2 O).bind λU=>mq a r U:=rfl
theorem dY.keep{b:Option aJ}{a:aJ}{c:S}{v:aI}{h d:bh}(r:dY w b Z h a c v)(k:∀ o,h.get? a=some o->d.get? a=some o):dY w b Z d a c v:=r.ext (.refl _) λ_ o=>k o
theorem AO{n:Nat}{x:X}{v:aI}(m:171<=n)(h:nA w F J Z O n s x v)(N:cY w F.nt F.fa Z s Z Y D)
  (p:∀ a,v=.ref a->x.owns=true->∀ (j:Nat) (S:Mine.Internal.S),U[j]?=some S->S.isOwn->(∃ d,O[j]?=some d/\d.isOwn/\α' j=J j)\/α' j≠a):nA w F α' Z U n D x v:=by
 have go:x.owns=true->(∃ b a,x.own?=some b/\v=.ref a/\n<=a/\dY w F.nt Z s.heap a b v/\b.isOwn/\Z a=none/\F.h₀.objs.size<=a/\F.nt≠some a/\a<s.heap.objs.size/\a∉F.fa/\∀ (j:Nat) (S:Mine.Internal.S),O[j]?=some S->S.isOwn->J j≠a)->
   (∃ b a,x.own?=some b/\v=.ref a/\n<=a/\dY w F.nt Z D.heap a b v/\b.isOwn/\Z a=none/\F.h₀.objs.size<=a/\F.nt≠some a/\a<D.heap.objs.size/\a∉F.fa/\∀ (j:Nat) (S:Mine.Internal.S),U[j]?=some S->S.isOwn->α' j≠a):=by
  rintro r ⟨b,a,h1,h2,h3,h4,h5,h6,u,k,y,c,f⟩;refine(dA b a ⟨h1,h2,h3,h4.keep λo e=>N.ext a o ?_ c e,h5,h6,u,k,ck y N.size,c,(λj S z B=>?_)⟩)
  ·rintro (q|q)
   ·exact k q
   ·replace h3:=q▸h3;exact absurd (bg m h3) (by decide)
  ·rcases p a h2 r j S z B with ⟨d,g,C,E⟩|g
   ·refine E▸?_;exact f j d g C
   ·exact g
 cases x with
 |v t=>exact h
 |fr l=>exact go rfl h
 |frd l=>exact go rfl h
 |bo i l=>refine eA h λb a h1 _=>?_;clear h;exact bD h1
 |bod i l=>refine eA h λb a h1 _=>?_;clear h;exact bD h1
 |nts=>refine eA h λb a h1 _=>?_;clear h;exact bD h1
inductive n4 (w:aZ) (A:bx) (F:Fx):List (aI->bA Unit)->List Nat->Prop
 |nil:n4 w A F [] []
 |cons {t ts i is x}:F.nm[i]?=some (some x)->(∀ (v:aI) (Q:Unit->aL->Prop) (E:aI->aL->Prop) (s:aL),bc (model pw w) A (storeName F.env x v) Q E s->bc (model pw w) A (t v) Q E s)->n4 w A F ts is->n4 w A F (t::ts) (i::is)
theorem Ey{n:Nat}(hn:171<=n){N:List (aI->bA Unit)}{is:List Nat}(ht:n4 w A F N is):∀ {xs:List X} {vs:List aI} {J:Nat->aJ} {O U:List S} {s:aL} {Q:Unit->aL->Prop} {E:aI->aL->Prop},xs.length=is.length->xs.length=vs.length->
  St w F J Z O Y s->(∀ p∈xs.zip vs,nA w F J Z O n s p.1 p.2)->(xs.zip vs).Pairwise qr->mq F.wr (is.zip xs) O=some U->
  (∀ α' D,cY w F.nt F.fa Z s Z Y D->(∀ (j:Nat) (S:Mine.Internal.S),U[j]?=some S->S.isOwn->(∃ (r:Mine.Internal.S),O[j]?=some r/\r.isOwn/\J j=α' j)\/n<=α' j)->St w F α' Z U Y D->Q () D)->bc (model pw w) A (CC N vs) Q E s:=by
 induction ht with
 |nil=>
  intro xs vs J O U s Q E h1 h2 H P V B R;have g:xs=[]:=CN.mp h1;subst g;have z:vs=[]:=CN.mp h2.symm;subst z;cases B;exact ad6 (R J s (H.nx.toW _) (λj S e o=>.inl (cI S e o rfl)) H)
 |@cons t N i is x hi C _ ih=>
  intro xs vs J O U s Q E h1 h2 H P V B R;cases xs with
  |nil=>cases h1
  |cons X xs=>
  cases vs with
  |nil=>cases h2
  |cons v vs=>
  simp only[cK,Nat.add_right_cancel_iff]at h1 h2;rw[uo]at V;rw[uo]at P;rw[uo]at B;refine bn (ada.mp V) λa0 G=>?_;rw[QQ]at B;revert B;refine aX λI d K=>?_;unfold hY at d;revert d;refine cb λhc d=>?_;have L:i∈F.wr:=by simpa using hc.1
  have p0:=P _ (Cr ..);have ps:=λp f=>P p (acQ _ f);have c:X.owns=true->X.own?.map (λS=>O.set i S)=some I->(∃ u a,X.own?=some u/\v=.ref a/\n<=a/\dY w F.nt Z s.heap a u v/\u.isOwn/\Z a=none/\F.h₀.objs.size<=a/\F.nt≠some a/\a<s.heap.objs.size/\a∉F.fa/\∀ (j:Nat) (S:Mine.Internal.S),O[j]?=some S->S.isOwn->J j≠a)->
    bc (model pw w) A (CC (t::N) (v::vs)) Q E s:=by
   rintro hx hs ⟨u,a,y,q2,q3,q4,q5,q6,q7,q8,q9,a1,a2⟩;rw[y]at hs;cases hs;refine JB (C _ _ _ _ (vy H hi L hc.2 q4 q5 ⟨q6,q7,q8,q9,a1,λj S _ e o=>a2 j S e o⟩ λs1 M H1=>ih h1 h2 H1 (λp f=>AO hn (ps p f) M λb eb ob j S e o=>?_) G K λα' s2 N2 O2 H2=>R α' s2 (M.trans N2) (λj S e o=>?_) H2))
   ·by_cases h:i=j
    ·subst h;refine .inr ?_;rw[l8];intro q;exact a0 p f hx ob (by exact q2▸eb▸q▸rfl)
    ·replace e:=ed h▸e;exact .inl (cI S e o (kg (λq=>h q.symm)))
   ·rcases O2 j S e o with ⟨r,g,z,m⟩|g
    ·by_cases h:i=j
     ·subst h;replace m:=l8▸m;exact .inr (m▸q3)
     ·replace g:=ed h▸g;replace m:=(kg (λq=>h q.symm))▸m;exact .inl (cI r g z m)
    ·exact .inr g
  cases X with
  |v T=>
   cases d
   refine JB (C _ _ _ _ (AL H hi L hc.2 p0 λs1 M H1=>?_));have sub:∀ (j:Nat) (S:Mine.Internal.S),(O.set i (.v T))[j]?=some S->S.isOwn->O[j]?=some S:=λj S e o=>by
    by_cases h:i=j
    ·subst h;replace e:=fT hc.2▸e;cases e;exact o.elim
    ·rwa [ed h]at e
   refine ih h1 h2 H1 (λp f=>AO hn (ps p f) M λb eb ob j S e o=>.inl (cI S (sub j S e o) o rfl)) G K λα' s2 N2 O2 H2=>R α' s2 (M.trans N2) (λj S e o=>?_) H2;rcases O2 j S e o with ⟨r,g,z,m⟩|g
   ·exact .inl (cI r (sub j r g z) z m)
   ·exact .inr g
  |fr l=>exact c rfl d p0
  |frd l=>exact c rfl d p0
  |bo k l=>refine eA p0 λu a y _=>?_;clear p0;exact bD y
  |bod k l=>refine eA p0 λu a y _=>?_;clear p0;exact bD y
  |nts=>refine eA p0 λu a y _=>?_;clear p0;exact bD y
end
noncomputable def X.okX:X->Bool
 |.v _|.fr _|.frd _=>true
 |_=>false
noncomputable def gz(a:List Nat)(is:List Nat)(rev:Bool)(b:List aP):bC:=λO Y=>(eT b O Y).bind λr=>if r.1.all X.okX=true/\r.1.length=is.length then
  (mq a (if rev then is.reverse.zip r.1.reverse else is.zip r.1) O).map λU=>(.nx,U,r.2)else none
section
variable{w:aZ}{A:bx}{F:Fx}{mt mt':List Nat}{J α' α'':Nat->aJ}{Z Z' Z'':Fz}{O U σ'' σ0:List S}{Y ν' ν'':List T}{s D s'':aL}{W fp:List aJ}
theorem RX.okAt{n:Nat}{x:X}{v:aI}{h:bh}(r:RX w F J O n Z h x v)(b:x.owns=true):∃ a,v=.ref a/\n<=a/\a<h.objs.size:=by
 cases x with
 |fr l=>refine iy r λa c e p1 p2 p3 p4 d=>?_;clear r;exact(cI a e p1 (jo p4))
 |frd l=>refine iy r λa c e p1 p2 p3 p4 d=>?_;clear r;exact(cI a e p1 (tl p4))
 |_=>cases b
theorem NA(H:St w F J Z O Y s){x:X}{v:aI}(g:x.okX=true)(r:RX w F J O s.heap.objs.size Z' D.heap x v):nA w F J Z' O s.heap.objs.size D x v:=by
 have low:∀ a,s.heap.objs.size<=a->F.h₀.objs.size<=a/\a∉F.fa/\∀ (j:Nat) (S:Mine.Internal.S),O[j]?=some S->S.isOwn->J j≠a:=λa b=>
  ⟨bg H.low b,λq=>absurd (ck (H.fz a q).2 b) (cQ _),λj S e o q=>absurd (ck (H.own j S e o).2.2.2.1 (q.symm▸b)) (cQ _)⟩
 cases x with
 |v t=>exact r
 |fr l=>
  refine aQ λc=>iy r λa d e p1 p2 p3 p4 f=>?_;clear r;exact bO (low a p1) λl1 l2 l3=>c (dA _ a ⟨rfl,e,p1,(fu e d p4 f),trivial,p2,l1,p3,jo p4,l2,l3⟩)
 |frd l=>
  refine aQ λc=>iy r λa d e p1 p2 p3 p4 f=>?_;clear r;exact bO (low a p1) λl1 l2 l3=>c (dA _ a ⟨rfl,e,p1,(fu e d p4 f),trivial,p2,l1,p3,tl p4,l2,l3⟩)
 |_=>cases g
theorem cT.okAt{n:Nat}{h:bh}:∀ {c:List X} {i:List aI},cT w F J O n Z h c i->∀ p∈c.zip i,p.1.owns=true->∃ a,p.2=.ref a/\n<=a:=by
 intro d;induction d with
 |nil=>
  intro _ r p b _;simp at b
 |cons x c f=>
  intro _ g;refine bG g λv m e k l=>?_;intro p b j;subst e;replace b:=uo▸b;rcases bP.mp b with q|q
  ·subst q;exact ej (k.okAt j) λa e h1 _=>(aS a e h1)
  ·exact f l p q j
theorem cT.len{n:Nat}{h:bh}:∀ {b:List X} {a:List aI},cT w F J O n Z h b a->b.length=a.length:=by
 intro c;induction c with
 |nil=>
  intro a r;have e:a=[]:=r;refine e▸?_;rfl
 |cons x b d=>
  intro _ f;refine bG f λv i e j g=>?_;subst e;simp[d g]
theorem cT.pend(H:St w F J Z O Y s):∀ {b:List X} {h:List aI},b.all X.okX=true->cT w F J O s.heap.objs.size Z' D.heap b h->∀ p∈b.zip h,nA w F J Z' O s.heap.objs.size D p.1 p.2:=by
 intro c;induction c with
 |nil=>
  intro _ _ r p a;simp at a
 |cons x b d=>
  intro _ f g;refine bG g λv k e i j=>?_;intro p a;subst e;rw[gX,fg]at f;replace a:=uo▸a;rcases bP.mp a with q|q
  ·subst q;exact NA H f.1 i
  ·exact d f.2 j p q
theorem aN.os{k:List Expr}{l:List aP}(h:aN w A F k l):∀ {J O Y c ν' Z s pos},St w F J Z O Y s->eT l O Y=some (c,ν')->∀ (Q:List aI->aL->Prop) (E:aI->aL->Prop),
  (∀ d Z' D,Nx w F.nt Z s Z' ν' D->cT w F J O s.heap.objs.size Z' D.heap c d->(c.zip d).Pairwise qr->Q d D)->bc (model pw w) A (ub (ka pos (ju k F.env))) Q E s:=by
 induction h with
 |nil=>intro J O Y c ν' Z s pos H h Q E g;cases h;exact nW (g [] Z s H.nx rfl .nil)
 |cons h1 i _ q=>
  intro J O Y c ν' Z s pos H h Q E g;revert h;refine bJ λK G r=>?_;refine kC λl2 t u h=>?_;cases h;refine lF (h1 H r _ _ λv1 L M f m=>q (H.next f) u _ _ λd v x n o j=>g _ v x (f.trans n) (cE _ _ rfl (RX.next H.sz (H.next f) m n) (o.le f.size)) ?_) (eG i);refine uo▸(ada.mpr ⟨λp i h1 h2 e=>?_,j⟩);refine aQ λy=>ej (m.okAt h1) λa z _ B=>aV (o.okAt p i h2) λb C I=>y ?_;dsimp only at e;replace e:=C▸z▸e;cases e;exact absurd (ck B I) (cQ _)
theorem D5:∀ {a b:Type} (l:List a) (r:List b),l.length=r.length->l.reverse.zip r.reverse=(l.zip r).reverse:=by
 intro a b l r h;exact(List.reverse_zipWith (f:=Prod.mk) h).symm
theorem YH:∀ {a:List aP} {O:List S} {Y:List T} {l ν'},eT a O Y=some (l,ν')->l.length=a.length:=by
 intro b;induction b with
 |nil=>
  intro _ _ _ _ h;cases h;rfl
 |cons f a c=>
  intro O Y l ν' h;revert h;refine bJ λg G i=>?_;refine kC λl2 d e h=>?_;cases h;exact congrArg Nat.succ (c e)
theorem qr.symm{p q:X×aI}(h:qr p q):qr q p:=λa b e=>h b a e.symm
theorem FV(l:A.handled=none)(H:St w F J Z O Y s){d:List Expr}{e:List aP}{k:Nat}{pos:br}{b:List X}(c:aN w A F d e)(f:jr d.length 1000=true)(h:eT e O Y=some (b,ν'))(g:b.all X.okX=true)
  (Q:aI->aL->Prop) (E:aI->aL->Prop)
  (i:∀ a Z' D t,Nx w F.nt Z s Z' ν' D->b.length=a.length->(∀ p∈b.zip a,nA w F J Z' O s.heap.objs.size D p.1 p.2)->(b.zip a).Pairwise qr->D.heap.IsTuple t a.toArray->Q (.ref t) D) :
  bc (model pw w) A (eval (.Tuple d k pos) F.env) Q E s:=by
 refine wpAny_Tuple (c.os H h _ _ λa Z' D N r ap=>⟨by refine r.len▸YH h▸c.len▸?_;exact bg (xz f) (by decide),?_⟩);have j:=N.push {cls:=.type "tuple",data:=.seq a.toArray};refine i a Z' _ _ j r.len (cT.pend H g ?_) ap (cI _ (dx _ rfl) rfl ⟨0,rfl⟩);exact cT.next H.sz (H.next N) ((H.next N).nx.push _) r
theorem Gv(N:Nx w F.nt Z s Z' ν' D)(b:cY w F.nt F.fa Z' D Z' ν' s'')(c:∀ (j:Nat) (S:Mine.Internal.S),U[j]?=some S->S.isOwn->(∃ (a:Mine.Internal.S),O[j]?=some a/\a.isOwn/\J j=α' j)\/s.heap.objs.size<=α' j):
  cZ w F mt [] J O Z s α' U Z' s'':=
 {cZ.ofFa (J:=J) (O:=O) (mt:=mt) ((N.toW F.fa).trans b) (.refl _)with own:=c}
theorem Vi:∀ {is:List Nat} {a:List Expr},oz F.nm (is.map .nm) a=true->n4 w A F (a.map λe=>iN e F.env) is:=by
 intro b;induction b with
 |nil=>
  intro a h;exact nX.mp h▸.nil
 |cons i is c=>
  intro d;cases d with
  |nil=>
   intro h;exact nI h
  |cons e a=>
   intro h;exact bn (ee h) λh1 h3=>eA (HE (ee h1).1) λx pos y f=>y▸.cons f (λv Q E s h=>x0 h) (c h3)
theorem F5{n:Nat}{x:X}{v:aI}(a:171<=n)(h:nA w F J Z O n s x v)(N:Nx w F.nt Z s Z Y D):nA w F J Z O n D x v:=
 AO a h (N.toW F.fa) λ_ _ _ j S e o=>.inl (cI S e o rfl)
theorem sO(r:A.handled=none){d f:List Expr}{k u:Nat}{a c pos:br}{is:List Nat}{v:List aP}(hw:nT [.Tuple d k a] (.Tuple f u c) F.env=pure none)(x:oz F.nm (is.map .nm) d=true)
  (C:jr f.length 1000=true) (g:aN w A F f v):eX w A F mt (.Assign [.Tuple d k a] (.Tuple f u c) pos) (gz F.wr is false v):=λJ O Y fl U ν' Z s H=>by
 refine bJ λxs G I=>cb λhc=>ca λK L M=>?_;cases M;intro Q E N;refine yb (FV r H g C I hc.1 _ _ λP y h t z B i j R=>?_) rfl hw;have h1:=FD x;refine aQ λV=>bO (Al (env:=F.env) h1.1) λX q2 q3=>V ?_;have hn:(jt d F.env).length=P.toArray.size:=by rw[X,eY,<- B,hc.2,<- h1.2,dm]
 show bc _ _ (iN (.Tuple d k a) F.env (.ref t)) _ _ _;refine Fd hn q2 (e9 (JA r R λh' he l=>q3▸?_));have m:=H.next z;have n:Nx w F.nt y h y G {h with heap:=h'}:=by
  refine(eI (tk:=h.toks) (W:=[]) m.nts m.on (nofun) (λb o _ e=>he b o (dW (cg e)) e) l).nx (nofun)
 exact Ey H.sz (Vi x) hc.2 B (m.next n) (λp q=>F5 H.sz (i p q) n) j L λα' s2 N3 O3 H3=>N _ _ _ _ (Gv (z.trans n) N3 O3) H3 rfl
theorem VJ:∀ {is:List Nat} {a:List Str},(a.map some==is.map λi=>(F.nm[i]?).getD none)=true->n4 w A F (a.map λn=>bindName F.env n) is:=by
 intro b;induction b with
 |nil=>
  intro c;cases c with
  |nil=>
   intro _;exact .nil
  |cons _ _=>
   intro h;cases h
 |cons i is d=>
  intro e;cases e with
  |nil=>
   intro h;cases h
  |cons n a=>
   intro h;simp only[cB,List.cons_beq_cons,fg,beq_iff_eq]at h;refine .cons (x:=n) ?_ (λv Q E s h=>wpAny_bindName h) (d (by simpa using h.2));cases q:F.nm[i]? with
   |none=>rw[q]at h;cases h.1
   |some o=>rw[q]at h;exact(show some n=o from h.1)▸rfl
theorem GL(B:A.handled=none){C j:List Expr}{k I:Nat}{a c pos:br}{is:List Nat}{names:List Str}{K:List aP}(hw:nT [.Tuple C k a] (.Tuple j I c) F.env=pure (some names))(d:(names.map some==is.map λi=>(F.nm[i]?).getD none)=true)
  (P:jr j.length 1000=true) (m:aN w A F j K):eX w A F mt (.Assign [.Tuple C k a] (.Tuple j I c) pos) (gz F.wr is true K):=λJ O Y fl U ν' Z s H=>by
 refine bJ λR G V=>cb λhc=>ca λX e2 hg=>?_;cases hg;intro Q E hQ;have f:names.length=is.length:=by
  have:=congrArg j9 (dN d);simpa using this
 refine Assign_Tuple_swapped (FV B H m P V hc.1 _ _ λL M q t N l r u ht=>?_) rfl hw;have hn:names.length=L.toArray.size:=by rw[eY,<- l,hc.2,f]
 refine hn▸(e9 (JA B ht λh' he v=>?_));have x:=H.next N;have y:Nx w F.nt M q M G {q with heap:=h'}:=by
  refine(eI (tk:=q.toks) (W:=[]) x.nts x.on (nofun) (λb o _ e=>he b o (dW (cg e)) e) v).nx (nofun)
 have z:n4 w A F (names.reverse.map λn=>bindName F.env n) is.reverse:=VJ (by
  rw[adb,adb,dN d];simp)
 refine Ey H.sz z (xs:=R.reverse) (vs:=L.reverse) (by simpa using hc.2) (by simpa using l) (x.next y) (λp g=>?_) ?_ e2 λα' s2 N3 O3 H3=>?_
 ·rw[D5 _ _ l,CO]at g;exact F5 H.sz (r p g) y
 ·rw[D5 _ _ l,List.pairwise_reverse];exact u.imp λh=>h.symm
 ·exact hQ _ _ _ _ (Gv (N.trans y) N3 O3) H3 rfl
end
noncomputable def X.ow:X->Option Nat
 |.bo i _=>some i
 |.bod i _=>some i
 |_=>none
noncomputable def X.box:X->Bool
 |.v (.lst _)|.v (.tup _)|.v (.dct _)|.fr _|.frd _|.bo ..|.bod ..=>true
 |_=>false
section
variable{w:aZ}{A:bx}{F:Fx}{mt mt':List Nat}{J α' α'':Nat->aJ}{Z Z' Z'':Fz}{O U σ'' σ0:List S}{Y ν' ν'':List T}{s D s'':aL}{W fp:List aJ}
theorem oD(H:St w F J Z O Y s)(N:Nx w F.nt Z s Z' ν' D){x:X}{l:aJ}(k:x.box=true)(r:RX w F J O s.heap.objs.size Z' D.heap x (.ref l)):
  ¬Mu F.nt l/\l∉F.fa/\∀ (j:Nat) (S:Mine.Internal.S),O[j]?=some S->S.isOwn->J j=l->x.ow=some j:=by
 have f:=H.next N;refine aU f.tab λy p=>?_;have d:∀ o,Z' l=some o->(match o.data with|.fields _=>o.cls≠.none|_=>True)->¬Mu F.nt l/\l∉F.fa/\∀ (j:Nat) (S:Mine.Internal.S),O[j]?=some S->S.isOwn->J j=l->(none:Option Nat)=some j:=λo b hd=>by
  refine⟨?_,λq=>?_,λj S e u q=>?_⟩
  ·rintro (q|rfl)
   ·have:=f.nts;replace this:=(show F.nt=some l from q)▸this;replace b:=this.1▸b;exact bD b
   ·have h2:=p.1.2;replace h2:=f.on _ _ b▸h2;cases h2;exact hd rfl
  ·replace b:=(f.fz l q).1▸b;exact bD b
  ·have:=(f.own j S e u).1;replace this:=b▸q▸this;cases this
 have fresh:s.heap.objs.size<=l->F.nt≠some l->¬Mu F.nt l/\l∉F.fa/\∀ (j:Nat) (S:Mine.Internal.S),O[j]?=some S->S.isOwn->J j=l->(none:Option Nat)=some j:=λh1 h2=>by
  refine⟨?_,λq=>absurd (ck (H.fz l q).2 h1) (cQ _),λj S e o q=>absurd (ck (H.own j S e o).2.2.2.1 (q.symm▸h1)) (cQ _)⟩;rintro (q|rfl)
  ·exact h2 q
  ·exact absurd (bg H.sz h1) (by decide)
 cases x with
 |v t=>
  cases t with
  |lst t=>
   refine aQ λc=>gC r λa o h e b g m=>?_;clear r;refine c ?_;cases e;exact aU g.2 λn hd=>d o b (by refine hd▸?_;trivial)
  |tup t=>
   refine aQ λc=>gC r λa o h e b g m=>?_;clear r;refine c ?_;cases e;exact aU g.2 λn hd=>d o b (by refine hd▸?_;trivial)
  |dct t=>
   refine aQ λc=>gC r λa o h e b g m=>?_;clear r;refine c ?_;cases e;exact bG g λ_ z B hd _=>d o b (by refine hd▸?_;trivial)
  |_=>cases k
 |fr t=>refine nE r λa h e h1 h2 h3 _=>?_;clear r;cases e;exact fresh h1 h3
 |frd t=>refine nE r λa h e h1 h2 h3 _=>?_;clear r;cases e;exact fresh h1 h3
 |bo i t=>
  refine aQ λc=>bO r λe h1 _=>?_;clear r;refine c ?_;cases e;exact⟨H.ownMu h1 trivial,(H.own i _ h1 trivial).2.2.2.2,λj S e o q=>by refine H.inj j i S _ e o h1 trivial q▸?_;rfl⟩
 |bod i t=>
  refine aQ λc=>bO r λe h1 _=>?_;clear r;refine c ?_;cases e;exact⟨H.ownMu h1 trivial,(H.own i _ h1 trivial).2.2.2.2,λj S e o q=>by refine H.inj j i S _ e o h1 trivial q▸?_;rfl⟩
 |nts=>cases k
theorem sT(H:St w F J Z O Y s)(N:Nx w F.nt Z s Z' ν' D){x:X}{l:aJ}{g:Option Nat}{h:Bool}{items:List T}{o:bK}{P:Nat->Fz->bh->Prop}{c:Nat->aI->Fz->bh->Prop}(k:x.box=true)(f:x.ow=g)
  (r:RX w F J O s.heap.objs.size Z' D.heap x (.ref l)) (v:o.isFreed=false)
  (m:It w A F.nt h D.heap.objs.size [D.heap.objs.size,l] [D.heap.objs.size] items P c) (n:fc F.nt Z' [D.heap.objs.size]->P 0 Z' (D.heap.push o)) {Q:aI->aL->Prop}
  (p:∀ i fp W P c Z' D,Nx w F.nt Z s Z' ν' D->It w A F.nt h i fp W items P c->P 0 Z' D.heap->(∀ b∈W,s.heap.objs.size<=b)->(∀ b∈fp,¬Mu F.nt b)->
   (∀ b∈fp,b∉F.fa/\∀ (j:Nat) (S:Mine.Internal.S),O[j]?=some S->S.isOwn->J j=b->g=some j)->Q (.ref i) D):Q (.ref D.heap.objs.size) {D with heap:=D.heap.push o}:=by
 subst f;refine aQ λt=>bO (oD H N k r) λh1 h2 h3=>t ?_;have d:s.heap.objs.size<=D.heap.objs.size:=N.size;have u:¬Mu F.nt D.heap.objs.size:=by
  rintro (q|q)
  ·exact N.freshN q
  ·replace d:=q▸d;exact absurd (bg H.sz d) (by decide)
 refine p D.heap.objs.size _ _ P c Z' _ (N.push o) m (n λb a=>?_) (λb a=>?_) (λb a=>?_) λb a=>?_
 ·simp only[bP,dP,or_false]at a;subst a;exact⟨N.fresh,bg H.sz d,N.freshN⟩
 ·simp only[bP,dP,or_false]at a;subst a;exact d
 ·simp only[bP,dP,or_false]at a;rcases a with rfl|rfl
  ·exact u
  ·exact h1
 ·simp only[bP,dP,or_false]at a;rcases a with rfl|rfl
  ·exact⟨λq=>absurd (ck (H.fz _ q).2 d) (cQ _),λj S e o q=>absurd (ck (H.own j S e o).2.2.2.1 (q.symm▸d)) (cQ _)⟩
  ·exact⟨h2,h3⟩
noncomputable def iL(b:Option Nat)(f:aP):List S->List T->Option (List T×List T):=λO Y=>(f O Y).bind λa=>if a.1.ow=b then a.1.lst?.map λl=>(l,a.2)else none
theorem hM(m:A.handled=none){e:Expr}{f:aP}(i:Option Nat)(h:bu w A F e f):gL w A F e false i (iL i f):=λJ O Y items ν' Z s H=>by
 refine bJ λx G n=>cb λc=>ca λl b p=>?_;cases p;intro Q E q;refine h H n _ _ λv K r j k=>?_;have u:=H.next j;have y:x.box=true:=by
  revert b;cases x with
  |v t=>cases t<;>intro b<;>first|rfl|cases b
  |_=>intro b<;>first|rfl|cases b
 refine aQ λz=>bG (RX.lst u.on k b) λa B C d I=>?_;subst C;refine z (Jz d ?_);have g:a≠r.heap.objs.size:=dW (mS d);exact sT H j y c k rfl (It.list m _ a g items B) (λhw=>⟨(cI _ (dx _ rfl) rfl rfl),oU d λo e=>cA _ e,I,hw⟩) q
noncomputable def iT(f:aP):List S->List T->Option (List T×List T):=λO Y=>(f O Y).bind λa=>a.1.tup?.map λl=>(l,a.2)
theorem Qu(u:A.handled=none){e:Expr}{f:aP}(h:bu w A F e f):gL w A F e false none (iT f):=λJ O Y items ν' Z s H=>by
 refine bJ λx G y=>ca λl b z=>?_;cases z;intro Q E B;refine h H y _ _ λv M d m n=>?_;have C:=H.next m;have p:x.box=true/\x.ow=none:=by
  revert b;cases x with
  |v t=>cases t<;>intro b<;>first|exact⟨rfl,rfl⟩|cases b
  |_=>intro b;cases b
 refine aQ λI=>bG (RX.tup C.on n b) λa q K g L=>?_;subst K;refine I ?_;have c:d.heap.IsTuple a q.toArray:=g;refine wpAny_pyIter_tuple c ?_;have i:a<d.heap.objs.size:=by refine aV g λo j _=>?_;clear g;exact cg j
 have k:a≠d.heap.objs.size:=dW i;exact sT H m p.1 p.2 n rfl (It.tuple u _ a k items q) (λhw=>⟨(cI _ (dx _ rfl) rfl rfl),aV c λo j r=>aS o (cA _ j) r,L,hw⟩) B
theorem si(H:St w F J Z O Y s){a:aJ}{b:List (Int×aI)}(h:s.heap.DictOf (ik w) a b):(a==rp)=false:=beq_eq_false_iff_ne.mpr λe=>by
 subst e;refine gC h λo i j d hc hd f=>bn f λhk _=>?_;obtain rfl:=bw (d.symm.trans (i7 H.md H.on (by kernel_rfl:_=some (GR w.params)) (by decide)));injection hd with c g
 subst c;exact aV (hk _ (Jt.mp (.head _))) λk hk _=>o5 hk
theorem Iv(H:St w F J Z O Y s){o:Expr}{name:Str}{id cls:String}{B:Builtin}{apos pos:br}{x:X}{l:List (Int×T)}{G:List T}(h:Ev w A F J Z O s o x G)(p:x.dct?=some l)
  (c:nY o name F.env (eval o F.env)=eval o F.env) (e:(apos.endLine==pos.line)=true) (slot:Slot "dict" name id) (j:typeOf (.builtin id)=pure (.type "method_descriptor")) (entry:entryFor table id=some B)
  (f:∀ v,argsOk id ⟨[v],[]⟩) (q:∀ d,(d==rp)=false->MeetsIn pw w (B ⟨[.ref d],[]⟩) (λ_ R s=>(∃ a,s.heap.DictOf (ik w) d a)/\
   R (.ok (.ret (.ref s.heap.objs.size))) {s with heap:=s.heap.push {cls:=.type cls,data:=.fields #[.ref d]}}))
  (Q:aI->aL->Prop) (E:aI->aL->Prop)
  (r:∀ d a i b,Nx w F.nt Z s i G b->RX w F J O s.heap.objs.size i b.heap x (.ref d)->b.heap.DictOf (ik w) d a->bY w i l a->(d==rp)=false->Q (.ref b.heap.objs.size) {b with heap:=b.heap.push {cls:=.type cls,data:=.fields #[.ref d]}}) :
  bc (model pw w) A (eval (.Call (.Attribute o name apos) [] [] pos) F.env) Q E s:=by
 refine rH (T:="dict") (id:=id) c rfl e adc slot j (h _ _ λv i b k m=>?_);have n:=H.next k;refine aQ λt=>bG (RX.dct n.on m p) λd a u g y=>?_;subst u;refine t ?_;have hs:=si n g;refine⟨g.typeIs,g.mapOf.noDict,?_⟩;exact method_meetsIn slot entry rfl (PySem.evalArgs_none ⟨rfl,g.typeIs,f _,_,q d hs,⟨a,g⟩,r d a i b k m g y hs⟩)
noncomputable def iI(f:aP):List S->List T->Option (List T×List T):=λO Y=>(f O Y).bind λa=>if a.1.ow=none then a.1.dct?.map λl=>(l.map λp=>T.tup [T.int p.1,p.2],a.2)else none
noncomputable def iV(f:aP):List S->List T->Option (List T×List T):=λO Y=>(f O Y).bind λa=>if a.1.ow=none then a.1.dct?.map λl=>(l.map λp=>p.2,a.2)else none
noncomputable def iK(f:aP):List S->List T->Option (List T×List T):=λO Y=>(f O Y).bind λa=>if a.1.ow=none then a.1.dct?.map λl=>(l.map λp=>T.int p.1,a.2)else none
theorem BR{x:X}{l:List (Int×T)}(e:x.dct?=some l):x.box=true:=by
 cases x with
 |v t=>cases t<;>first|rfl|exact bD e
 |_=>first|rfl|exact bD e
theorem RX.push{n:Nat}{x:X}{v:aI}{o:bK}(H:St w F J Z O Y s)(N:Nx w F.nt Z s Z' ν' D)(a:171<=n)(r:RX w F J O n Z' D.heap x v):RX w F J O n Z' (D.heap.push o) x v:=
 RX.next (D:={D with heap:=D.heap.push o}) a (H.next N) r ((H.next N).nx.push o)
theorem B2 (r:A.handled=none) {o:Expr} {apos pos:br} {f:aP} (a:nY o "items" F.env (eval o F.env)=eval o F.env) (b:(apos.endLine==pos.line)=true) (h:bu w A F o f) :
  gL w A F (.Call (.Attribute o (aK "items") apos) [] [] pos) true none (iI f):=λJ O Y items ν' Z s H=>by
 refine bJ λx G t=>cb λj=>ca λl m=>dU ?_;intro Q E u;refine Iv H (h H t) m a b PySem.F.slot_dict_items PySem.F.type_dict_items PySem.F.entry_dict_items PySem.F.args_dict_items_1 (λd hd=>meets_dict_items (ik w) d hd) _ _ λd c v i n y p z hs=>aQ λB=>eZ p λC I q e=>?_;clear p;refine B ?_;have g:i.heap.DictAt (ik w) d c q:=(dA C I e);have k:d<i.heap.objs.size:=cg e.1;refine wpAny_pyIter_items (d:=d) (cI _ (dx _ rfl) rfl rfl) (g.push _) ?_;have K:=n.push {cls:=.type "dict_items",data:=.fields #[.ref d]};refine sT (Z':=v) (D:={i with heap:=i.heap.push {cls:=.type "dict_items",data:=.fields #[.ref d]}}) H K (BR m) j (RX.push H n H.sz y) rfl
  (It.items r _ d (dW (by rw[eQ];exact rJ k)) l c q) (λhw=>⟨(dA .none .none (dx _ rfl)),(g.push _).push _,z,hw⟩) u
theorem Qi (r:A.handled=none) {o:Expr} {apos pos:br} {f:aP} (a:nY o "values" F.env (eval o F.env)=eval o F.env) (b:(apos.endLine==pos.line)=true) (h:bu w A F o f) :
  gL w A F (.Call (.Attribute o (aK "values") apos) [] [] pos) false none (iV f):=λJ O Y items ν' Z s H=>by
 refine bJ λx G t=>cb λj=>ca λl m=>dU ?_;intro Q E u;refine Iv H (h H t) m a b PySem.F.slot_dict_values PySem.F.type_dict_values PySem.F.entry_dict_values PySem.F.args_dict_values_1 (λd hd=>meets_dict_values (ik w) d hd) _ _ λd c v i n y p z hs=>aQ λB=>eZ p λC I q e=>?_;clear p;refine B ?_;have g:i.heap.DictAt (ik w) d c q:=(dA C I e);have k:d<i.heap.objs.size:=cg e.1;refine wpAny_pyIter_values (d:=d) (cI _ (dx _ rfl) rfl rfl) (g.push _) ?_;have K:=n.push {cls:=.type "dict_values",data:=.fields #[.ref d]};exact sT (Z':=v) (D:={i with heap:=i.heap.push {cls:=.type "dict_values",data:=.fields #[.ref d]}}) H K (BR m) j (RX.push H n H.sz y) rfl
  (It.vals r _ d (dW (by rw[eQ];exact rJ k)) l c q) (λhw=>⟨(cI _ (dx _ rfl) rfl rfl),(g.push _).push _,z,hw⟩) u
theorem Ak(r:A.handled=none){o:Expr}{f:aP}(h:bu w A F o f):gL w A F o false none (iK f):=λJ O Y items ν' Z s H=>by
 refine bJ λx G t=>cb λe=>ca λl j=>dU ?_;intro Q E u;refine h H t _ _ λv K k m n=>?_;have p:=H.next m;refine aQ λy=>bG (RX.dct p.on n j) λd a z g B=>?_;subst z;have hs:=si p g;refine eZ g λC I q b=>?_;clear g;refine y ?_;have c:k.heap.DictAt (ik w) d a q:=(dA C I b);have i:d<k.heap.objs.size:=cg b.1;exact wpAny_pyIter_dict hs c (sT H m (BR j) e n rfl (It.keys r _ d (dW i) l a q) (λhw=>⟨(cI _ (dx _ rfl) rfl rfl),c.push _,B,hw⟩) u)
theorem gp.one{e:Expr}{t:T}{pos:br}(H:St w F J Z O Y s)(h:Ev w A F J Z O s e (.v t) ν')(a:dQ e=true):gp w A F J Z O s pos [e] [.v t] ν':=
 z6 H h (λZ' D N=>yX (H.next N)) a
theorem W1(H:St w F J Z O Y s)(N:Nx w F.nt Z s Z' ν' D){h:Option Nat}{f:Bool}{items:List T}{o:bK}{P:Nat->Fz->bh->Prop}{c:Nat->aI->Fz->bh->Prop}(m:o.isFreed=false)
  (i:It w A F.nt f D.heap.objs.size [D.heap.objs.size] [D.heap.objs.size] items P c) (k:fc F.nt Z' [D.heap.objs.size]->P 0 Z' (D.heap.push o)) {Q:aI->aL->Prop}
  (l:∀ g fp W P c Z' D,Nx w F.nt Z s Z' ν' D->It w A F.nt f g fp W items P c->P 0 Z' D.heap->(∀ b∈W,s.heap.objs.size<=b)->(∀ b∈fp,¬Mu F.nt b)->
   (∀ b∈fp,b∉F.fa/\∀ (j:Nat) (S:Mine.Internal.S),O[j]?=some S->S.isOwn->J j=b->h=some j)->Q (.ref g) D):Q (.ref D.heap.objs.size) {D with heap:=D.heap.push o}:=by
 have d:s.heap.objs.size<=D.heap.objs.size:=N.size;refine l D.heap.objs.size _ _ P c Z' _ (N.push o) i (k λb a=>?_) (λb a=>?_) (λb a=>?_) λb a=>?_
 ·simp only[bP,dP,or_false]at a;subst a;exact⟨N.fresh,bg H.sz d,N.freshN⟩
 ·simp only[bP,dP,or_false]at a;subst a;exact d
 ·simp only[bP,dP,or_false]at a;subst a;rintro (q|q)
  ·exact N.freshN q
  ·rw[q]at d;exact absurd (bg H.sz d) (by decide)
 ·simp only[bP,dP,or_false]at a;subst a;exact⟨λq=>absurd (ck (H.fz _ q).2 d) (cQ _),λj S e o q=>absurd (ck (H.own j S e o).2.2.2.1 (q.symm▸d)) (cQ _)⟩
noncomputable def iR(f:aP):List S->List T->Option (List T×List T):=λO Y=>(f O Y).bind λa=>a.1.t?.bind λt=>t.int?.bind λn=>if n.natAbs<=1000000 then some ((aO n.toNat).map λ(j:Nat)=>T.int (j:Int),a.2)else none
theorem BX{n:Int}(h:n.natAbs<=1000000):-1000000<=n:=by lia
theorem qq{n:Int}(h:n.natAbs<=1000000):n<=1000000:=by lia
theorem Nv{n:Int}(h:n.natAbs<=1000000):n.toNat<=1000000:=by lia
theorem w8{a b:Int}:Builtin.Range.rangeSize a b 1=((b-a).toNat:Int):=by rw[rangeSize_one];split<;>lia
theorem vv{a b:Int}(h1:-1000000<=a)(h2:a<=1000000)(h3:-1000000<=b)(h4:b<=1000000)(h5:b-a<=1000000):ade a b 1=true:=by
 have c:∀ k:Int,-1000001<=k->k<=1000001->adf k=true:=λk h1 h2=>by
  unfold adf;simp only[fg,decide_eq_true_eq];exact aaw h1 h2
 have d:∀ {k:Int},-1000000<=k->-1000001<=k:=fD (by decide);have f:∀ {k:Int},k<=1000000->k<=1000001:=λh=>fD h (by decide);unfold ade;have e:=rangeSize_one a b;simp only[e];rw[c a (d h1) (f h2),c b (d h3) (f h4),c 1 (by decide) (by decide),c _ (by split<;>lia) (by split<;>lia)];simp only[Bool.true_and,Bool.or_eq_true];right;split
 ·exact c _ (by lia) (by lia)
 ·exact c _ (by lia) (by lia)
theorem EW(n:Nat):((aO n).map λ(j:Nat)=>T.int (0+(j:Int)*1))=(aO n).map λ(j:Nat)=>T.int (j:Int):=by
 refine uk λj _=>?_;rw[Int.mul_one,xG]
theorem jT (k:A.handled=none) {p pos:br} {e:Expr} {f:aP} (l:F.env.kindOf (aK "range")=some .globalImplicit) (d:dQ e=true) (h:bu w A F e f) :
  gL w A F (.Call (.Name (aK "range") p) [e] [] pos) false none (iR f):=λJ O Y items ν' Z s H=>bJ λx G m=>aX λt q=>aX λn r=>cb λc=>g8 λQ E u=>by
  refine gN rfl (ia H l (v:=.type "range") rfl ?_ rfl);refine kb (gp.one H ((h H m).frz q) d _ _ λN y a g z=>?_) (eG d) rfl;refine bG z λv B C I K=>?_;subst C;obtain rfl:B=[]:=K;refine aU (gA r I) λb L=>?_;subst L;refine JL ?_;have P:=H.next g;have i:=(g.push {cls:=.type "range",data:=.fields #[.int 0 a.toks,.int n b,.int 1 (a.toks+1)]});have M:Nx w F.nt Z s y G {a with heap:=a.heap.push {cls:=.type "range",data:=.fields #[.int 0 a.toks,.int n b,.int 1 (a.toks+1)]},toks:=a.toks+1+1}:=i.trans ((H.next i).tok _);refine wpAny_pyIter_range (CP ..) ?_ ?_
  ·exact vv (by decide) (by decide) (BX c) (qq c) (by rw[uq];exact qq c)
  ·rw[w8,uq];have j:=It.range (w:=w) (A:=A) (nt:=F.nt) k (a.heap.push {cls:=.type "range",data:=.fields #[.int 0 a.toks,.int n b,.int 1 (a.toks+1)]}).objs.size 0 n.toNat;rw[EW]at j;exact W1 H M rfl j (λhw=>⟨lA _,by
    have:=dx (a.heap.push {cls:=.type "range",data:=.fields #[.int 0 a.toks,.int n b,.int 1 (a.toks+1)]}) (o:={cls:=.type "range_iterator",data:=.fields #[gY 0,gY (n.toNat:Int),gY 1]}) rfl;exact this,hw⟩) u
end
section
variable{w:aZ}{A:bx}{F:Fx}{mt mt':List Nat}{J α' α'':Nat->aJ}{Z Z' Z'':Fz}{O U σ'' σ0:List S}{Y ν' ν'':List T}{s D s'':aL}{W fp:List aJ}{nt:Option aJ}
theorem It.ofT{I0:aJ}{n:Nat}{Pt:Nat->Array aI->Prop}{u:Nat->bh->Prop}{B:Nat->aJ->bh->Prop}(x:WalksT pw w A I0 fp W n Pt u B)(C:Fz->Prop)(hG:∀ Z Z',C Z->Le Z Z'->C Z')(items:List T)(hn:items.length=n)
  (K:∀ i a Z t,C Z->items[i]?=some t->Pt i a->∃ L,t=.tup L/\bm w Z L a.toList) (hex:∀ i h,u i h->∀ b∈fp,b<h.objs.size) :
  It w A nt true I0 fp W items (λi Z h=>(i<=n/\u i h)/\C Z/\fc nt Z W) (λi v Z h=>∃ T,v=.ref T/\i<n/\B i T h/\C Z/\fc nt Z W) where
 sub:=x.sub
 ok:=λi Z h p=>p.2.2
 lt:=λi Z h p=>hex i h p.1.2
 frame:=λi Z Z' h G p l hw k=>⟨⟨p.1.1,x.frame i h G p.1.2 k⟩,hG _ _ p.2.1 l,hw⟩
 item:=λi t Z s Y Q E I p l c z=>by
  have j:i<n:=by refine hn▸?_;exact(je.mp I).1
  refine e9 (x.item i s _ _ j p.1.2 λT a G tk M hT r d keep g=>aQ λH=>aV (K i a Z t p.2.1 I M) λL P hr=>?_);subst P;refine H ?_;have N0:cY w nt W Z s Z Y {s with heap:=G,toks:=tk}:=eI c l p.2.2 keep g;have f:Z T=none:=by
   cases q:Z T with
   |none=>rfl
   |some o=>exact absurd (ck (cg (l _ _ q)) hT) (cQ _)
  have f2:nt≠some T:=λe=>by
   replace c:=e▸c;exact eo c λ_ vs y _=>absurd (ck (jo y) hT) (cQ _)
  have N:=N0.put hT f f2;refine aQ λH=>ls r λo ho hc m hd=>?_;clear r;refine H (z (.ref T) _ _ N ?_ (ny T rfl j d (hG _ _ p.2.1 N.le) (λb hb=>?_)))
  ·exact(fy T o a.toList rfl (gM.trans ho) ⟨hc,m,by rw[hd]⟩ (bm.mono N.le _ hr))
  ·refine bO (p.2.2 b hb) λa1 a2 a3=>?_;have R:b<s.heap.objs.size:=hex i _ p.1.2 b (x.sub b hb);exact⟨(N.new b R).trans a1,a2,a3⟩
 go:=λV i v Z s Y Q E X hm l c z=>by
  refine aQ λH=>zZ hm λT P j d hg hw=>?_;clear hm;subst P;refine H ?_;have hp:=X rfl;cases V<;>first|cases hp|skip
  exact e9 (x.go _ _ _ i T s _ _ d λG a0 keep g=>z _ (eI (tk:=s.toks) c l hw keep g) ⟨⟨j,a0⟩,hg,hw⟩)
 done:=λi Z s Y Q E I p l c z=>by
  have hi:i=n:=Jv p.1.1 (by refine hn▸?_;exact rC.mp I);subst hi;exact e9 (x.done s _ _ p.1.2 λG tk keep g=>z _ (eI c l p.2.2 keep g))
 self:=λi Z s Q E p z=>x.self i s Q E p.1.2 z
theorem we(H:St w F J Z O Y s)(N:Nx w F.nt Z s Z' ν' D){d:aJ}{g:Option Nat}{i:Bool}{items:List T}{P:Nat->Fz->bh->Prop}{a:Nat->aI->Fz->bh->Prop}
  (l:It w A F.nt i d fp W items P a) (k:∀ b∈W,s.heap.objs.size<=b/\Z' b=none/\F.nt≠some b) (m:fc F.nt Z' W->P 0 Z' D.heap)
  (f:∀ b∈fp,s.heap.objs.size<=b/\F.nt≠some b\/(¬Mu F.nt b/\b∉F.fa/\∀ (j:Nat) (S:Mine.Internal.S),O[j]?=some S->S.isOwn->J j=b->g=some j)) {Q:aI->aL->Prop}
  (n:∀ d fp W P a Z' D,Nx w F.nt Z s Z' ν' D->It w A F.nt i d fp W items P a->P 0 Z' D.heap->(∀ b∈W,s.heap.objs.size<=b)->(∀ b∈fp,¬Mu F.nt b)->
   (∀ b∈fp,b∉F.fa/\∀ (j:Nat) (S:Mine.Internal.S),O[j]?=some S->S.isOwn->J j=b->g=some j)->Q (.ref d) D):Q (.ref d) D:=by
 refine n d fp W P a Z' D N l (m λb c=>?_) (λb c=>(k b c).1) (λb c=>?_) λb c=>?_
 ·exact bO (k b c) λh1 h2 h3=>⟨h2,bg H.sz h1,h3⟩
 ·rcases f b c with ⟨h1,h2⟩|h
  ·rintro (q|q)
   ·exact h2 q
   ·rw[q]at h1;exact absurd (bg H.sz h1) (by decide)
  ·exact h.1
 ·rcases f b c with ⟨h1,h2⟩|h
  ·exact⟨λq=>absurd (ck (H.fz _ q).2 h1) (cQ _),λj S e o q=>absurd (ck (H.own j S e o).2.2.2.1 (q.symm▸h1)) (cQ _)⟩
  ·exact h.2
theorem dL(H:St w F J Z O Y s){b:aJ}(a:s.heap.objs.size<=b):Z b=none/\F.nt≠some b:=by
 refine⟨?_,λe=>?_⟩
 ·cases q:Z b with
  |none=>rfl
  |some o=>exact absurd (ck (cg (H.on _ _ q)) a) (cQ _)
 ·have:=H.nts;rw[e]at this;exact eo this λ_ c y _=>absurd (ck (jo y) a) (cQ _)
theorem St.grow(H:St w F J Z O Y s){a:bh}(hk:∀ b o,s.heap.get? b=some o->a.get? b=some o)(hs:s.heap.objs.size<=a.objs.size):Nx w F.nt Z s Z Y {s with heap:=a}:=
 (eI (tk:=s.toks) (W:=[]) H.nts H.on (nofun) (λb o _ e=>hk b o e) hs).nx (nofun)
noncomputable def iO(l:List T):List T:=(aO l.length).zipWith (λ(j:Nat) t=>T.tup [T.int (j:Int),t]) l
theorem D8(l:List T):(iO l).length=l.length:=by simp[iO]
theorem Dh{l:List T}{i:Nat}{t:T}(h:(iO l)[i]?=some t):∃ x,l[i]?=some x/\t=T.tup [T.int (i:Int),x]:=by
 unfold iO at h;rw[adg]at h;have hi:i<l.length:=by
  rcases ur i l.length with q|q
  ·exact q
  ·rw[lG (by simpa using q)]at h;simp at h
 rw[rD hi,gv hi]at h;cases h;exact(aS _ (gv hi) rfl)
noncomputable def iE(b:Option Nat)(f:aP):List S->List T->Option (List T×List T):=λO Y=>(f O Y).bind λa=>if a.1.ow=b then a.1.lst?.map λl=>(iO l,a.2)else none
theorem sx{x:X}{l:List T}(e:x.lst?=some l):x.box=true:=by
 cases x with
 |v t=>cases t<;>first|rfl|exact bD e
 |_=>first|rfl|exact bD e
theorem gp.one'{e:Expr}{x:X}{pos:br}(H:St w F J Z O Y s)(h:Ev w A F J Z O s e x ν')(a:dQ e=true):gp w A F J Z O s pos [e] [x] ν':=
 z6 H h (λZ' D N=>yX (H.next N)) a
theorem Dt (hh:A.handled=none) (X:Option Nat) {p pos:br} {e:Expr} {f:aP} (hx:F.env.kindOf (aK "enumerate")=some .globalImplicit) (hp:dQ e=true) (h:bu w A F e f) :
  gL w A F (.Call (.Name (aK "enumerate") p) [e] [] pos) true X (iE X f):=λJ O Y items ν' Z s H=>by
 refine bJ λx G e1=>cb λI=>ca λl e2=>dU ?_;intro Q E hQ;refine gN rfl (ia H hx (v:=.type "enumerate") rfl ?_ rfl);refine kb (gp.one' H (h H e1) hp _ _ λz Z1 B C r1=>?_) (eG hp) rfl;refine aQ λd=>bG r1 λv vr j r2 r3=>?_;clear r1;subst j;refine d ?_;cases r3;have k:=H.next C;have c:=sx e2;refine aQ λd=>bG (RX.lst k.on r2 e2) λa z j K hr=>?_;subst j;refine d (call_enumerate_list K λh' b1 b2 b3 b4=>?_);have N2:=C.trans (k.grow b4 (by rw[b3];exact dI _ _));refine wpAny_pyIter_enum b1 ?_;have m:a<B.heap.objs.size:=mS K;have L:=C.size;have WT:=WalksT.enumerate (prog:=pw) (w:=w) (A:=A) hh (B.heap.objs.size+1) B.heap.objs.size a (nS (o7 _)) (dW (rJ m)) (dW m) z.toArray;have n:(iO l).length=z.toArray.size:=by rw[D8,eY,bm.length hr]
 refine we H N2 (It.ofT WT (λZ=>bm w Z l z) (λZ Z' g hz=>bm.mono hz _ g) (iO l) n (λi a0 Z t g ht q=>?_) (λi h r b c=>?_)) (λb c=>?_) (λhw=>⟨⟨lA _,⟨.none,b1⟩,b2,oU K λo e=>b4 _ o e⟩,hr,hw⟩) (λb u=>?_) hQ
 ·refine aV (Dh ht) λx' M j=>?_;subst j;refine aQ λd=>eA q λt' y N y3=>?_;clear q;subst y3;refine aV (bm.get g M) λv' P R=>d (aS _ rfl ?_);have:v'=y:=by
   rw[im]at N;rw[P]at N;exact bw N
  subst this;exact(dA _ _ ⟨rfl,⟨_,rfl⟩,(cE _ _ rfl R rfl)⟩)
 ·refine bO r λy0 hit V=>?_;clear r;obtain⟨old,he⟩:=y0;simp only[bP,dP,or_false]at c;rcases c with rfl|rfl|rfl
  ·exact cg he
  ·refine aV hit λ_ y _=>?_;clear hit;exact cg y
  ·exact mS V
 ·simp only[bP,dP,or_false]at c;have:B.heap.objs.size<=b:=by rcases c with rfl|rfl<;>lia
  exact⟨bg L this,dL k this⟩
 ·simp only[bP,dP,or_false]at u;rcases u with rfl|rfl|rfl
  ·exact .inl ⟨bg L (mz _),(dL k (mz _)).2⟩
  ·exact .inl ⟨L,(dL k (cu _)).2⟩
  ·have:=oD H C c r2;rw[I]at this;exact .inr this
theorem L1(n a b:Nat)(c:a<n)(d:b<n):ZipApart (n+4) (n+2) (n+3) n (n+1) a b:=by
 constructor<;>(intro e;have f:(_:Nat)=_:=e;lia)
noncomputable def lY(l r:List T):List T:=l.zipWith (λa b=>T.tup [a,b]) r
theorem Xz{l r:List T}{i:Nat}{t:T}(h:(lY l r)[i]?=some t):∃ x y,l[i]?=some x/\r[i]?=some y/\t=T.tup [x,y]:=by
 unfold lY at h;replace h:=adg▸h;cases h1:l[i]? with
 |none=>replace h:=h1▸h;simp at h
 |some x=>
  cases h2:r[i]? with
  |none=>replace h:=h2▸h1▸h;simp at h
  |some y=>replace h:=h2▸h1▸h;cases h;exact(cE x y rfl rfl rfl)
noncomputable def iZ(f g:aP):List S->List T->Option (List T×List T):=λO Y=>(f O Y).bind λa=>(g O a.2).bind λb=>if a.1.ow=none/\b.1.ow=none then a.1.lst?.bind λl=>b.1.lst?.map λr=>(lY l r,b.2)else none
theorem EZ (hh:A.handled=none) {p pos:br} {e1 e2:Expr} {f g:aP} (hx:F.env.kindOf (aK "zip")=some .globalImplicit) (q:aN w A F [e1,e2] [f,g]) :
  gL w A F (.Call (.Name (aK "zip") p) [e1,e2] [] pos) true none (iZ f g):=λJ O Y items ν' Z s H=>by
 refine bJ λx G q1=>bJ λy a3 q2=>cb λu=>aX λl q3=>ca λr q4 hg=>?_;cases hg;intro Q E hQ;have hp:=q.plain;rw[gX,fg]at hp;have hd:eT [f,g] O Y=some ([x,y],a3):=lp q1 (lp q2 rfl);refine gN rfl (ia H hx (v:=.type "zip") rfl ?_ rfl);refine kb (q.as H hd _ _ λvs Z1 c z r1=>?_) (eG hp.1) (ji hp.2);refine aQ λB=>GE r1 λv1 vr d r2 v2 ad y6 r3 r4=>?_;clear r1;subst d;subst y6;refine B ?_;subst r4;have C:=H.next z;refine aQ λB=>bG (RX.lst C.on r2 q3) λa vs d hl hr=>?_;subst d;refine bG (RX.lst C.on r3 q4) λa2 j d k I=>?_;subst d;refine B (call_zip_2 hl k λh' b1 b2 b3 b4 b5 b6 b7=>?_);have N2:=z.trans (C.grow b7 (by refine b6▸?_;exact dI _ _));refine CQ b1 ?_;have a4:a<c.heap.objs.size:=mS hl;have K:a2<c.heap.objs.size:=mS k;have sz:=z.size;have D0:ZipApart (c.heap.objs.size+4) (c.heap.objs.size+2) (c.heap.objs.size+3) c.heap.objs.size (c.heap.objs.size+1) a a2:=L1 _ _ _ a4 K;have WT:=WalksT.zip2 (prog:=pw) (w:=w) (A:=A) hh _ _ _ _ _ _ _ D0 vs.toArray j.toArray;have L:(lY l r).length=min vs.toArray.size j.toArray.size:=by simp[lY,bm.length hr,bm.length I]
 refine we H N2 (It.ofT WT (λZ=>bm w Z l vs/\bm w Z r j) (λZ Z' g hz=>⟨bm.mono hz _ g.1,bm.mono hz _ g.2⟩) (lY l r) L (λi ab Z t g ht M=>?_) (λi h N b P=>?_)) (λb P=>?_)
  (λhw=>⟨⟨lA _,b1,b2,(dA _ _ b3),b4,b5,oU hl λo e=>b7 _ o e,oU k λo e=>b7 _ o e⟩,⟨hr,I⟩,hw⟩) (λb R=>?_) hQ
 ·refine bG (Xz ht) λx' y' a5 a6 y4=>?_;subst y4;refine aQ λB=>bG M λu1 u2 m n y4=>?_;clear M;subst y4;refine aV (bm.get g.1 a5) λw1 a7 V=>aV (bm.get g.2 a6) λw2 a8 X=>B ?_;replace m:=a7▸im▸m;replace n:=a8▸im▸n;cases m;cases n;exact(aS _ rfl (dA _ _ ⟨rfl,V,(cE _ _ rfl X rfl)⟩))
 ·refine tM N λhz a9 d h1 h2 a0 a1=>?_;clear N;obtain⟨_,_,aa⟩:=d;simp only[bP,dP,or_false]at P;rcases P with rfl|rfl|rfl|rfl|rfl|rfl|rfl
  ·exact cg hz
  ·exact cg a9
  ·exact cg aa
  ·refine aV h1 λ_ y _=>?_;clear h1;exact cg y
  ·refine aV h2 λ_ y _=>?_;clear h2;exact cg y
  ·exact mS a0
  ·exact mS a1
 ·simp only[bP,dP,or_false]at P;have:c.heap.objs.size<=b:=by rcases P with rfl|rfl|rfl|rfl<;>lia
  exact⟨bg sz this,dL C this⟩
 ·have old:∀ b',c.heap.objs.size<=b'->s.heap.objs.size<=b'/\F.nt≠some b':=λb' h=>⟨bg sz h,(dL C h).2⟩;have f1:=oD H z (sx q3) r2;have f2:=oD H z (sx q4) r3;replace f1:=u.1▸f1;replace f2:=u.2▸f2;simp only[bP,dP,or_false]at R;rcases R with rfl|rfl|rfl|rfl|rfl|rfl|rfl
  ·exact .inl (old _ (dI _ _))
  ·exact .inl (old _ (dI _ _))
  ·exact .inl (old _ (dI _ _))
  ·exact .inl (old _ (cu _))
  ·exact .inl (old _ (dI _ _))
  ·exact .inr f1
  ·exact .inr f2
abbrev KX:=List X->List T->Option (X×List T)
noncomputable def cD(f:X->Option X):KX:=λa Y=>match a with
 |[x]=>(f x).map λy=>(y,Y)
 |_=>none
noncomputable def gS(f:X->X->Option X):KX:=λa Y=>match a with
 |[x,y]=>(f x y).map λz=>(z,Y)
 |_=>none
theorem kK{f:aI}{k:X->Option X}(h:∀ {J O Y Z s n x y v},St w F J Z O Y s->F.h₀.objs.size<=n->n<=s.heap.objs.size->RX w F J O n Z s.heap x v->k x=some y->lO w A F J Z O s f [v] y Y):dG w A F f (cD k):=λJ O Y x ν' Z s n a j H h1 h2 r hk=>by
 cases a with
 |nil=>exact bD hk
 |cons l b=>cases b with
  |cons=>exact bD hk
  |nil=>
   revert hk;refine ca λy e=>dU ?_;exact bG r λv c d g i=>d▸(show c=[]from i)▸(h H h1 h2 g e)
theorem yG{f:aI}{k:X->X->Option X}(h:∀ {J O Y Z s n x d y v a},St w F J Z O Y s->F.h₀.objs.size<=n->n<=s.heap.objs.size->RX w F J O n Z s.heap x v->RX w F J O n Z s.heap d a->k x d=some y->lO w A F J Z O s f [v,a] y Y):dG w A F f (gS k):=λJ O Y x ν' Z s n g p H h1 h2 r hk=>by
 cases g with
 |nil=>exact bD hk
 |cons q b=>cases b with
  |nil=>exact bD hk
  |cons t b=>cases b with
   |cons=>exact bD hk
   |nil=>
    revert hk;refine ca λy e=>dU ?_;exact GE r λv u i j a c l m o=>i▸l▸(show c=[]from o)▸(h H h1 h2 j m e)
theorem cT.one{n:Nat}{h:bh}{x:X}{a:List aI}(r:cT w F J O n Z h [x] a):∃ v,a=[v]/\RX w F J O n Z h x v:=
 bG r λv e b c d=>(aS v (b.trans (congrArg (v::·) d)) c)
theorem cT.two{n:Nat}{h:bh}{x y:X}{a:List aI}(r:cT w F J O n Z h [x,y] a):∃ u v,a=[u,v]/\RX w F J O n Z h x u/\RX w F J O n Z h y v:=
 bG r λv g b c d=>aV (cT.one d) λu e f=>(cE v u (b.trans (congrArg (v::·) e)) c f)
noncomputable def S.ownl?:S->Option (List T)
 |.own l=>some l
 |.no|.v _|.ownd _|.nts=>none
noncomputable def S.ownd?:S->Option (List (Int×T))
 |.ownd l=>some l
 |.no|.v _|.own _|.nts=>none
theorem S.ownl_eq{a:S}{l:List T}(h:a.ownl?=some l):a=.own l:=by
 cases a with
 |own l=>exact congrArg S.own (bw h)
 |_=>exact bD h
theorem S.ownd_eq{a:S}{l:List (Int×T)}(h:a.ownd?=some l):a=.ownd l:=by
 cases a with
 |ownd l=>exact congrArg S.ownd (bw h)
 |_=>exact bD h
noncomputable def S.nts?:S->Option Unit
 |.nts=>some ()
 |.no|.v _|.own _|.ownd _=>none
theorem S.nts_eq{a:S}{u:Unit}(h:a.nts?=some u):a=.nts:=by
 cases a with
 |nts=>rfl
 |_=>exact bD h
noncomputable def Fl.nx?:Fl->Option Unit
 |.nx=>some ()
 |.ret _=>none
noncomputable def Fl.ret?:Fl->Option X
 |.ret x=>some x
 |.nx=>none
theorem Fl.nx_eq{a:Fl}{u:Unit}(h:a.nx?=some u):a=.nx:=by
 cases a with
 |nx=>rfl
 |_=>exact bD h
theorem Fl.ret_eq{a:Fl}{x:X}(h:a.ret?=some x):a=.ret x:=by
 cases a with
 |ret y=>exact congrArg Fl.ret (bw h)
 |_=>exact bD h
noncomputable def T.inst?:T->Option T
 |.inst t=>some t
 |.none|.bool _|.int _|.flt _|.str _|.tup _|.lst _|.dct _=>nU
theorem T.inst_eq{t u:T}(h:t.inst?=some u):t=.inst u:=by
 cases t with
 |inst j=>exact congrArg T.inst (bw h)
 |_=>exact bD h
noncomputable def X.inst?(x:X):Option T:=x.vt?.bind T.inst?
theorem X.inst_eq{x:X}{t:T}:x.inst?=some t->x=.v (.inst t):=aX λu e h=>(X.vt_eq e).trans (congrArg X.v (T.inst_eq h))
theorem St.growT(H:St w F J Z O Y s){a:bh}{tk:dz}(hk:∀ b o,s.heap.get? b=some o->a.get? b=some o)(hs:s.heap.objs.size<=a.objs.size):Nx w F.nt Z s Z Y {s with heap:=a,toks:=tk}:=
 (eI (tk:=tk) (W:=[]) H.nts H.on (nofun) (λb o _ e=>hk b o e) hs).nx (nofun)
noncomputable def iB(x:X):Option X:=(x.str?.bind λx=>if x.length<=1000000 then some (X.v (.int x.length))else none).or (x.lst?.bind λl=>if l.length<=1000000 then some (.v (.int l.length))else none)
theorem wM:dG w A F (.builtin "len") (cD iB):=kK λ{J O Y Z s n x y v} H h1 h2 r=>by
 refine xp (aX λl b=>cb λc e Q E d=>?_) (aX λl b=>cb λc e Q E d=>?_)
 ·obtain rfl:=bw e;refine aU (ku b r) λt g=>?_;subst g;exact PySem.P.len_str (MN c) (d _ _ _ (H.tok _) kz)
 ·obtain rfl:=bw e;refine bG (RX.lst H.on r b) λa h i j k=>?_;subst i;have f:h.toArray.size=l.length:=bm.length k;exact call_len_list j (by refine f▸?_;exact Qz c) (d _ _ _ (H.tok _) (f▸kz))
noncomputable def tj(x:X):Option X:=(x.int?.map λi=>X.v (.int (if i<0 then -i else i))).or (x.flt?.map λb=>.v (.flt (fU b)))
theorem zt:dG w A F (.builtin "abs") (cD tj):=kK λ{J O Y Z s n x y v} H h1 h2 r=>by
 refine xp (ca λi a e Q E b=>?_) (ca λi a e Q E b=>?_)
 ·subst e;refine aU (j4 a r) λt c=>?_;subst c;exact call_abs_int λu d=>b _ _ _ (H.tok _) kz
 ·subst e;refine aU (Xb a r) λt c=>?_;subst c;exact PySem.Flt.call_abs_float (b _ _ _ (H.tok _) QI)
noncomputable def nF(x:X):Option X:=x.int?.bind λi=>if 0<=i/\i<=0x10FFFF then some (.v (.str ⟨#[i.toNat]⟩))else none
theorem Bi:dG w A F (.builtin "chr") (cD nF):=kK λ{J O Y Z s n x y v} H h1 h2 r=>aX λi a=>cb λhi e Q E b=>by
 obtain rfl:=bw e;refine aU (j4 a r) λt c=>?_;subst c;exact adh (by simp;exact hi) (b _ _ _ (H.tok _) oV)
noncomputable def pM(x:X):Option X:=x.str?.bind λs=>(Ep s.cps.toList).map λ(c:Nat)=>.v (.int (c:Int))
theorem AQ:dG w A F (.builtin "ord") (cD pM):=kK λ{J O Y Z s n x y v} H h1 h2 r=>aX λi a=>ca λc b e Q E d=>by
 subst e;refine aU (ku a r) λt f=>?_;subst f;obtain rfl:i=⟨#[c]⟩:=congrArg (λl:List Nat=>Str.mk l.toArray) (abM b);exact PySem.P.ord_of_char (d _ _ _ (H.tok _) kz)
noncomputable def T.isTup:T->Option Bool
 |.tup _=>some true
 |.int _=>some false
 |.none|.bool _|.flt _|.str _|.lst _|.dct _|.inst _=>nU
noncomputable def T.isBool:T->Option Bool
 |.bool _=>some true
 |.int _=>some false
 |.none|.tup _|.flt _|.str _|.lst _|.dct _|.inst _=>nU
noncomputable def GX(c:Bool)(t:T):Option Bool:=if c=true then t.isTup else t.isBool
noncomputable def tH(c:Bool):String:=if c=true then "tuple" else "bool"
noncomputable def na(c:Bool)(f:aP):aP:=λO Y=>(f O Y).bind λa=>a.1.t?.bind λt=>(GX c t).map λb=>(.v (.bool b),a.2)
theorem aa1{Z:Fz}{s:aL}{t:T}{v:aI}{b:Bool}{Q:aI->aL->Prop}{E:aI->aL->Prop}(d:On Z s.heap)(r:Rd w Z t v)(e:t.isTup=some b)(fin:∀ c,Q (.bool b) {s with toks:=c}):
  bc (model pw w) A (call (.builtin "isinstance") [v,.type "tuple"]) Q E s:=by
 cases t with
 |tup l=>
  obtain rfl:=bw e;exact gC r λa o h y f g j=>y▸call_isinstance_yes (Tx:="tuple") (aS o (d _ _ f) g.1) (by kernel_rfl) (by rw[isSubtype_type];kernel_rfl) (fin _)
 |int i=>
  obtain rfl:=bw e;exact aU r λc y=>y▸PySem.IsiPair.int_tuple (fin _)
 |_=>exact bD e
theorem Sq{Z:Fz}{s:aL}{t:T}{v:aI}{b:Bool}{Q:aI->aL->Prop}{E:aI->aL->Prop}(r:Rd w Z t v)(e:t.isBool=some b)(fin:∀ a,Q (.bool b) {s with toks:=a}):
  bc (model pw w) A (call (.builtin "isinstance") [v,.type "bool"]) Q E s:=by
 cases t with
 |bool l=>
  obtain rfl:=bw e;exact(show v=.bool l from r)▸(call_isinstance_yes (Tx:="bool") rfl (by kernel_rfl) (by rw[isSubtype_type];kernel_rfl) (fin _))
 |int i=>
  obtain rfl:=bw e;exact aU r λa y=>y▸PySem.IsiPair.int_bool (fin _)
 |_=>exact bD e
theorem sk {c:Bool} {p p2 pos:br} {e:Expr} {f:aP} (n:F.env.kindOf (aK "isinstance")=some .globalImplicit) (a:F.env.kindOf (aK (tH c))=some .globalImplicit)
  (i:dQ e=true) (h:bu w A F e f):bu w A F (.Call (.Name (aK "isinstance") p) [e,.Name (aK (tH c)) p2] [] pos) (na c f):=λJ O Y x ν' Z s H=>bJ λx G o=>aX λt q=>ca λb j=>dU λQ E r=>by
 have k:pG (tH c)=some (.type (tH c))/\(aK (tH c)==("__debug__":Str))=false:=by cases c<;>exact⟨rfl,by decide⟩
 refine gN rfl (ia H n (v:=.builtin "isinstance") rfl ?_ rfl);refine Ju (lF ((h H o).frz q _ _ λv y u d l=>lF (ia (H.next d) a k.1 (nW ?_) k.2) (eG rfl)) (eG i)) (eG i) (ji (by rfl));have m:=H.next d;have fin:∀ g,Q (.bool b) {u with toks:=g}:=λg=>r _ _ _ (d.trans (m.tok g)) rfl;cases c with
 |true=>exact aa1 m.on l j fin
 |false=>exact Sq l j fin
theorem vc(H:St w F J Z O Y s){i:Nat}{r S1:S}{t:bh}{tk:dz}(hi:O[i]?=some r)(B:r.isOwn)(f:S1.isOwn)(h0:∃ v,dY w F.nt Z s.heap (J i) r v)(hs:gZ (J i) s.heap t)(hS:dY w F.nt Z t (J i) S1 (.ref (J i))):
  cY w F.nt [J i] Z s Z Y {s with heap:=t,toks:=tk}/\St w F J Z (O.set i S1) Y {s with heap:=t,toks:=tk}:=by
 refine aQ λI=>gj (H.own i r hi B) λb1 K b3 b4 L=>I ?_;have M:i<O.length:=(je.mp hi).1;have N:cY w F.nt [J i] Z s Z Y {s with heap:=t,toks:=tk}:=eI H.nts H.on (λb C=>by
  simp only[bP,dP,or_false]at C;subst C;exact⟨b1,bg H.ok.big K,b3⟩) (λb o C e=>(hs.2 b (λq=>C (by simp[q]))).trans e) (gV hs.1.symm)
 refine⟨N,?_⟩;have box:∀ o,s.heap.get? (J i)=some o->(∃ v,o.data=.cell v)\/(∃ P n,o.data=.dict P n/\∃ m,s.heap.Ns (J i) m/\F.env.locals=J i)->False:=by
  refine aU h0 λv p=>?_;clear h0;rintro o e (⟨c,hc⟩|⟨P,n,hd,m,hn,M⟩)
  ·cases r with
   |own l=>refine eo p λ_ vs Q _=>?_;clear p;refine ls Q.isList λo' f _ n g=>?_;replace f:=e▸f;cases f;replace g:=hc▸g;cases g
   |ownd l=>refine eo p λ_ vs y2 _=>?_;clear p;obtain⟨o',P,ep,f,_,g,_⟩:=y2;replace f:=e▸f;cases f;replace g:=hc▸g;cases g
   |_=>exact B
  ·exact L (M▸H.ok.loc)
 have d:∀ {c:aJ} {v:Option aI},s.heap.IsCell c v->c≠J i:=by
  rintro c v ⟨o,e,hd⟩ rfl;exact box o e (.inl ⟨_,hd⟩)
 have keep:∀ {c:aJ} {o:bK},c≠J i->s.heap.get? c=some o->t.get? c=some o:=λhc e=>(hs.2 _ hc).trans e;have gm:∀ (j:Nat) (S:Mine.Internal.S),(O.set i S1)[j]?=some S->(j=i/\S=S1)\/(j≠i/\O[j]?=some S):=λj S e=>by
  by_cases E:i=j
  ·subst E;replace e:=fT M▸e;cases e;exact .inl ⟨rfl,rfl⟩
  ·replace e:=ed E▸e;exact .inr ⟨λq=>E q.symm,e⟩
 refine aU H.tab λps ht=>⟨H.ok,N.on,H.md,N.nts,H.gens,λb o C e=>?_,?_,λa ha=>⟨(H.fz a ha).1,?_⟩,λx c hc=>?_,?_,λj S e q=>?_,λj k S G e1 q1 e2 R V=>?_⟩
 ·exact keep (dW (ck (cg e) K)) (H.base b o C e)
 ·refine aU (N.tab ps ht) λmore h=>?_;exact⟨_,h⟩
 ·show a<t.objs.size;refine hs.1▸?_;exact(H.fz a ha).2
 ·exact aU (H.cel x c hc) λv p=>⟨v,jg p λo=>keep (d p)⟩
 ·refine aV H.vars λm hm p=>(aS m (pv hm λo=>keep (λq=>L (q▸H.ok.loc))) (λj x S E he X=>?_));rcases gm j S he with ⟨rfl,rfl⟩|⟨h1,h2⟩
  ·refine aV (p j x r E hi (by rintro rfl;exact B)) λv y u=>?_;have p:v=.ref (J j):=by
    cases r with
    |own l=>exact u.1
    |ownd l=>exact u.1
    |_=>exact B.elim
   subst p;refine(aS _ (y.ext λc o hc e=>?_) hS);exact aU (H.cel x c hc) λv' z=>keep (d z) e
  ·refine aV (p j x S E h2 X) λv y u=>(aS v (y.ext λc o hc e=>?_) (u.ext (.refl _) λq o e=>?_))
   ·exact aU (H.cel x c hc) λv' z=>keep (d z) e
   ·exact keep (λR=>h1 (H.inj j i S r h2 q hi B R)) e
 ·rcases gm j S e with ⟨rfl,rfl⟩|⟨h1,h2⟩
  ·exact⟨b1,K,b3,by show _<t.objs.size;refine hs.1▸?_;exact b4,L⟩
  ·exact gj (H.own j S h2 q) λc1 c2 c3 c4 c5=>⟨c1,c2,c3,by show _<t.objs.size;refine hs.1▸?_;exact c4,c5⟩
 ·have old:∀ (j:Nat) (S:Mine.Internal.S),(O.set i S1)[j]?=some S->S.isOwn->∃ G,O[j]?=some G/\G.isOwn:=λj S e q=>by
   rcases gm j S e with ⟨rfl,rfl⟩|⟨h1,h2⟩
   ·exact(aS r hi B)
   ·exact(aS S h2 q)
  exact aQ λI=>aV (old j S e1 q1) λT1 e3 q3=>aV (old k G e2 R) λT2 e4 q4=>I (H.inj j k T1 T2 e3 q3 e4 q4 V)
theorem xg{i:Nat}{a g:S}(hi:O[i]?=some a)(c:a.isOwn)(h:i∈mt)(N:cY w F.nt [J i] Z s Z' ν' D):cZ w F mt [] J O Z s J (O.set i g) Z' D:=
 .ofW N (λb d=>.inr (.inr (aS i h (cI a hi c (by simp at d;exact d.symm))))) λj S e q=>by
  by_cases f:i=j
  ·subst f;exact(aS a hi c)
  ·replace e:=ed f▸e;exact(aS S e q)
noncomputable def l9(l:List (Int×T))(k:Int)(t:T):List (Int×T):=if l.any (λp=>p.1=k)then l.map (λp=>if p.1=k then(p.1,t)else p)else l++[(k,t)]
noncomputable def S.setI:S->Int->T->Option S
 |.ownd l,k,t=>if l.length<=1000000 then some (.ownd (l9 l k t))else none
 |.own l,k,t=>if 0<=k/\k<l.length/\l.length<=1000000 then some (.own (l.set k.toNat t))else none
 |.no,_,_|.v _,_,_|.nts,_,_=>none
noncomputable def mf(a:S)(k:T)(t:T):Option S:=k.int?.bind λk=>a.setI k t
noncomputable def jK(i:Nat)(c d:aP):bC:=λO Y=>(d O Y).bind λa=>a.1.t?.bind λt=>(c O a.2).bind λb=>b.1.t?.bind λk=>(O[i]?).bind λe=>(mf e k t).map λf=>(.nx,O.set i f,b.2)
theorem bY.len{l:List (Int×T)}{a:List (Int×aI)}:bY w Z l a->a.length=l.length:=bY.length
theorem bY.any{k:Int}:∀ {l:List (Int×T)} {a:List (Int×aI)},bY w Z l a->a.any (λp=>decide (p.1=k))=l.any (λp=>decide (p.1=k)):=by
 intro b;induction b with
 |nil=>
  intro _ h;exact congrArg (List.any · _) h
 |cons c l d=>
  obtain⟨e,g⟩:=c;intro _ h;exact bG h λv i f _ h2=>f▸congrArg (decide (e=k)||·) (d h2)
theorem bY.setv{k:Int}{t:T}{v:aI}(r:Rd w Z t v):∀ {l:List (Int×T)} {a:List (Int×aI)},bY w Z l a->bY w Z (l.map λp=>if p.1=k then(p.1,t)else p) (a.map λp=>if p.1=k then(p.1,v)else p):=by
 intro c;induction c with
 |nil=>
  intro _ h;exact congrArg (List.map _) h
 |cons d l b=>
  obtain⟨e,i⟩:=d;intro _ h;exact bG h λf j g h1 h2=>by
    refine g▸cB▸cB▸?_;by_cases q:e=k
    ·refine if_pos q▸if_pos q▸?_;exact(cE v _ rfl r (b h2))
    ·refine if_neg q▸if_neg q▸?_;exact(cE f _ rfl h1 (b h2))
theorem bY.app{k:Int}{t:T}{v:aI}(r:Rd w Z t v):∀ {l:List (Int×T)} {a:List (Int×aI)},bY w Z l a->bY w Z (l++[(k,t)]) (a++[(k,v)]):=by
 intro b;induction b with
 |nil=>
  intro _ h;exact(cE v [] (congrArg (·++[(k,v)]) h) r rfl)
 |cons c l d=>
  obtain⟨g,i⟩:=c;intro _ h;exact bG h λe j f h1 h2=>f▸(cE e _ rfl h1 (d h2))
theorem bY.stored{k:Int}{t:T}{v:aI}(r:Rd w Z t v){l:List (Int×T)}{a:List (Int×aI)}(h:bY w Z l a):bY w Z (l9 l k t) (PySem.stored a k v):=by
 unfold l9 PySem.stored;rw[bY.any h];by_cases q:l.any (λp=>decide (p.1=k))=true
 ·rw[if_pos q,if_pos q];exact bY.setv r h
 ·rw[if_neg q,if_neg q];exact bY.app r h
theorem bm.set{t:T}{v:aI}(r:Rd w Z t v):∀ {l:List T} {e:List aI} {n:Nat},bm w Z l e->bm w Z (l.set n t) (e.set n v):=by
 intro a;induction a with
 |nil=>
  intro _ n h;exact congrArg (List.set · n v) h
 |cons i l b=>
  intro _ c;cases c with
  |zero=>
   intro h;exact bG h λf g d h1 h2=>(cE v g (congrArg (List.set · 0 v) d) r h2)
  |succ n=>
   intro h;exact bG h λf g d h1 h2=>(cE f _ (congrArg (List.set · (n+1) v) d) h1 (b h2))
theorem RT{a:aJ}{items:Array aI}{k:Int}{t:dz}{v:aI}{Q:Unit->aL->Prop}{E:aI->aL->Prop}(c:s.heap.PlainList a items)(h0:0<=k)(hk:k<items.size)(b:k<2^63)
  (f:∀ d,d.PlainList a (items.setIfInBounds k.toNat v)->gZ a s.heap d->Q () {s with heap:=d}):bc (model pw w) A (setItem (.ref a) (.int k t) v) Q E s:=by
 have hT:=c.isList.typeIs;refine aU c λn e=>?_;clear c;have new (j:Nat):(s.heap.update a (ph (·.setIfInBounds j v))).get? a=some {cls:=.type "list",data:=.seq (items.setIfInBounds j v) n}:=by
  rw[o6 _ e (by simp[ph];rfl)];simp[ph]
 unfold setItem;refine fG (ba (wpAny_sequenceKey hT rfl (ba (us (name:=aK "__setitem__") hT slot_list_setitem (rE slot_list_setitem hT entry_list_setitem ?_ (args_list_setitem _ _ _))))));show bc _ _ (Builtin.List.listSubscript? (.int k t) >>= _) _ _ s;refine ba (wpAny_listSubscript_int (fitsIndex_of h0 b) ?_);clear b;refine aU (yh h0) λj g=>?_;subst g;have h:j<items.size:=C5 hk;show bc _ _ ((seqItemAt a j >>= λr=>pure (r.map (j,·))) >>= _) _ _ s;refine ba (ba (wpAny_seqItemAt e rfl (cm (acL h▸?_))));show bc _ _ (setSeqItemAt a j v >>= _) _ _ s;exact ba (wpAny_setSeqItemAt e rfl (ba (cm (cm ⟨.none,rfl,cm (f _ ⟨n,new j⟩ (ug ..))⟩))))
theorem set_own(H:St w F J Z O Y s){i:Nat}{f g:S}{k t:T}{vk v:aI}(hi:O[i]?=some f)(h0:dY w F.nt Z s.heap (J i) f (.ref (J i)))(e:mf f k t=some g)(n:Rd w Z k vk)(r:Rd w Z t v)(j:i∈mt){Q:Unit->aL->Prop}{E:aI->aL->Prop}
  (m:∀ D,cZ w F mt [] J O Z s J (O.set i g) Z D->St w F J Z (O.set i g) Y D->Q () D):bc (model pw w) A (setItem (.ref (J i)) vk v) Q E s:=by
 revert e;refine aX λk o=>?_;refine aU (gA o n) λy p=>?_;subst p;cases f with
 |ownd l=>
  refine cb λc e=>?_;obtain rfl:=bw e;refine eo (id h0) λ_ q hd d=>wpAny_setItem_pairs (knd:=ik w) (k:=k) ng hd (λu a b=>?_) (by refine bY.len d▸?_;exact bg c (by decide));exact bn (vc (tk:=s.toks+1) H hi trivial (S1:=.ownd (l9 l k t)) trivial ⟨_,h0⟩ b (fu rfl _ a (bY.stored r d))) λN h=>m _ (xg hi trivial j N) h
 |own l=>
  refine cb λc e=>?_;obtain rfl:=bw e;exact eo (id h0) λ_ x hd d=>RT hd c.1 (by refine eY▸bm.length d▸?_;exact c.2.1) (DK c) λu a b=>bn (vc (tk:=s.toks) H hi trivial (S1:=.own (l.set k.toNat t)) trivial ⟨_,h0⟩ b (fu rfl (x.set k.toNat v) (by simpa using a) (bm.set r d))) λN h=>m _ (xg hi trivial j N) h
 |_=>exact bD
theorem dY.own_ref{a:aJ}{b:S}{h:bh}{v:aI}(c:b.isOwn)(x:dY w nt Z h a b v):v=.ref a:=by
 cases b with
 |own l=>exact x.1
 |ownd l=>exact x.1
 |_=>exact c.elim
theorem St.ownAt(H:St w F J Z O Y s){i:Nat}{x:Str}{b:S}(d:F.nm[i]?=some (some x))(hi:O[i]?=some b)(c:b.isOwn):dY w F.nt Z s.heap (J i) b (.ref (J i)):=
 aV H.vars λm g f=>aV (f i x b d hi λe=>(show S.isOwn .no from e▸c)) λv _ a=>a.own_ref c▸a
theorem Ez{a b:S}{k t:T}:mf a k t=some b->a.isOwn/\b.isOwn:=aX λk _=>by
 cases a with
 |ownd l=>exact cb λ_ e=>bw e▸⟨trivial,trivial⟩
 |own l=>exact cb λ_ e=>bw e▸⟨trivial,trivial⟩
 |_=>exact bD
theorem uM (H:St w F J Z O Y s) {i:Nat} {x:Str} {a:S} {pos:br} (d:F.nm[i]?=some (some x)) (hi:O[i]?=some a) (c:a.isOwn) (hd:(x==("__debug__":Str))=false) (hc:(x==("__classdict__":Str))=false)
  {Q:aI->aL->Prop} {E:aI->aL->Prop} (f:Q (.ref (J i)) s):bc (model pw w) A (eval (.Name x pos) F.env) Q E s:=by
 exact rz (aV H.vars λm g h=>aV (h i x a d hi λe=>(show S.isOwn .no from e▸c)) λv j b=>vf H.ok.kf g (b.own_ref c▸j) f hc) hd
theorem oA {y:Str} {py a pos:br} {value b:Expr} {i:Nat} {f g:aP} (h:F.nm[i]?=some (some y)) (hd:(y==("__debug__":Str))=false) (hc:(y==("__classdict__":Str))=false) (hs:qz value [.Subscript (.Name y py) b a]=true)
  (hw:nT [.Subscript (.Name y py) b a] value F.env=pure none) (o:i∈mt) (p:bu w A F value g) (hk:bu w A F b f) :
  eX w A F mt (.Assign [.Subscript (.Name y py) b a] value pos) (jK i f g):=λJ O Y P U ν' Z s H=>by
 refine bJ λx G q=>aX λt r=>bJ λR u z=>aX λk B=>aX λV c=>ca λX j C=>?_;cases C;intro Q E I;refine bn (Ez j) λl o2=>yb ((p H q).frz r _ _ λv Z1 s1 m K=>?_) (BA hs) hw;show bc _ _ (iN (.Subscript (.Name y py) b a) F.env v) _ _ _;have d:=H.next m;rw[assign_Subscript];refine ba (fG (uM d h c l hd hc (ba (fG ((hk d z).frz B _ _ λvk Z2 s2 e L=>?_)))));have n:=d.next e;exact ba (gr (ba (fG (set_own n c (n.ownAt h c l) j L (Rd.mono e.le _ K) o λs3 M N=>wpAny_release (I _ _ _ _ ((cZ.ofNx (m.trans e)).trans M) N rfl)))))
noncomputable def sC(a b:T):Option T:=a.int?.bind λa=>b.int?.map λb=>.int (a+b)
theorem Gq{c d t:T}{v1 f:aI}{Q:aI->aL->Prop}{E:aI->aL->Prop}(g:Rd w Z c v1)(h:Rd w Z d f)(i:∀ v k,(∀ Z,Rd w Z t v)->Q v {s with toks:=k}):sC c d=some t->bc (model pw w) A (inplaceOp .Add v1 f) Q E s:=
 aX λa j=>ca λb l e=>aU (gA j g) λo m=>aU (gA l h) λp n=>by
  subst m n e;exact PySem.AutoIntOps.iadd_0 (i _ _ jZ)
noncomputable def wa(c:List Nat)(i:Nat)(f:aP):bC:=λO Y=>(O[i]?).bind λd=>match d with
 |.v a=>(f O Y).bind λr=>r.1.t?.bind λb=>(sC a b).bind λt=>if c.contains i/\i<O.length then some (.nx,O.set i (.v t),r.2)else none
 |_=>none
theorem Xa {y:Str} {py pos:br} {value:Expr} {i:Nat} {f:aP} (o:F.nm[i]?=some (some y)) (hc:(y==("__classdict__":Str))=false) (z:bu w A F value f) :
  eX w A F mt (.AugAssign (.Name y py) .Add value pos) (wa F.wr i f):=λJ O Y fl U ν' Z s H=>by
 refine aX λB C d=>?_;intro Q E I;cases B with
 |v a=>
  revert d;refine bJ λx G K=>?_;refine aX λb L=>aX λt M=>cb λc d=>?_;cases d;rw[arm_exec_AugAssign];refine aQ λN=>aV H.vars λm P g=>aV (g i y (.v a) o C (by intro q;cases q)) λv0 R h=>N (ba (gr (ba (vf H.ok.kf P R ?_ hc))));refine ba (fG ((z H K).frz L _ _ λv1 V s1 l X=>?_));have p:=H.next l;refine ba (gr (ba (wpAny_operateT (Gq (Rd.mono l.le _ h) X (λv r n=>?_) M))));refine ba (gr (ba (wpAny_bindName (AL (p.k r) o (by simpa using c.1) c.2 (n V) λs2 N2 H2=>cm (I _ _ _ _ ?_ H2 rfl)))));exact .ofFa (((l.trans (p.tok r)).toW F.fa).trans N2) λj S e q=>by
   by_cases u:i=j
   ·subst u;replace e:=fT c.2▸e;cases e;exact q.elim
   ·rwa [ed u]at e
 |_=>exact bD d
noncomputable def S.getI:S->Int->Option T
 |.ownd l,k=>i6 l k
 |.own l,k=>if 0<=k/\k<l.length/\l.length<=1000000 then l[k.toNat]? else none
 |.no,_|.v _,_|.nts,_=>none
noncomputable def vT(a:S)(k:T):Option T:=k.int?.bind a.getI
theorem get_own{a:aJ}{c:S}{k t:T}{vk:aI}{Q:aI->aL->Prop}{E:aI->aL->Prop}(h0:dY w nt Z s.heap a c (.ref a))(e:vT c k=some t)(j:Rd w Z k vk)(g:∀ v h,Rd w Z t v->Q v {s with toks:=h}):
  bc (model pw w) A (uc (.ref a) vk) Q E s:=by
 revert e;refine aX λk m=>?_;refine aU (gA m j) λh n=>?_;subst n;cases c with
 |ownd l=>exact λe=>eo (id h0) λ_ o hd d=>aV (A6 d e) λy f b=>wpAny_getItem_of (knd:=ik w) ng hd.mapOf f (g y _ b)
 |own l=>exact cb λi e=>eo (id h0) λ_ p hd d=>aV (bm.get d e) λy f b=>wpAny_getItem_list hd.isList i.1 (DK i) (im.trans f) (g y s.toks b)
 |_=>exact bD
noncomputable def mK(i:Nat)(d e:aP):bC:=λO Y=>(O[i]?).bind λc=>(d O Y).bind λa=>a.1.t?.bind λk=>(vT c k).bind λold=>(e O a.2).bind λb=>b.1.t?.bind λt=>(sC old t).bind λn=>(mf c k n).map λf=>(.nx,O.set i f,b.2)
theorem Uz{c:Expr}(h:nr c=true)(a b new:aI):augStore c a b new=(do holding [new,a,b] (setItem a b new);release [new,a,b] [];pure .next):=by
 cases c<;>first|rfl|cases h
theorem y9 {y:Str} {py a pos:br} {value f:Expr} {i:Nat} {m o:aP} (g:F.nm[i]?=some (some y)) (hd:(y==("__debug__":Str))=false) (hc:(y==("__classdict__":Str))=false) (h:nr f=true) (z:i∈mt) (B:bu w A F value o) (hk:bu w A F f m) :
  eX w A F mt (.AugAssign (.Subscript (.Name y py) f a) .Add value pos) (mK i m o):=λJ O Y fl U ν' Z s H=>by
 refine aX λS0 d=>bJ λxk G C=>aX λk I=>aX λold K=>bJ λxb L M=>aX λb N=>aX λn P=>ca λS1 p R=>?_;cases R;intro Q E V;refine bn (Ez p) λj o2=>?_;rw[arm_exec_AugAssign_3];refine ba (gr (ba (uM H g d j hd hc (ba (fG ((hk H C).frz I _ _ λvk Z1 s1 q r=>?_))))));have l:=H.next q;refine ba (fG (ba (gr (ba (get_own (l.ownAt g d j) K r λvo t X=>?_)))));have u:=l.k t;refine ba (fG ((B u M).frz N _ _ λvb Z3 s3 e r3=>?_));have v:=u.next e;refine ba (gr (wpAny_operateT (Gq (Rd.mono e.le _ X) r3 (λvn c rn=>?_) P)));have x:=v.k c;refine ba (gr ?_);rw[Uz h];exact ba (fG (set_own (mt:=mt) x d (x.ownAt g d j) p (Rd.mono e.le _ r) (rn Z3) z λs5 N5 H5=>ba (wpAny_release (cm (V _ _ _ _ ((cZ.ofNx (((q.trans (l.tok t)).trans e).trans (v.tok c))).trans N5) H5 rfl)))))
noncomputable def ky:List T->Option (List Int)
 |[]=>some []
 |t::l=>t.int?.bind λk=>(ky l).map (k::·)
noncomputable def Ix(x:X)(k:Int):Option Bool:=x.dct?.map λl=>l.any λp=>p.1=k
noncomputable def wV(x:X)(k:Int):Option Bool:=x.lst?.bind λl=>(ky l).map λa=>a.any (·==k)
noncomputable def BU(f g:aP):dc:=λO Y=>(f O Y).bind λa=>a.1.t?.bind λt=>t.int?.bind λk=>(g O a.2).bind λb=>(Ix b.1 k).map λr=>(r,b.2)
noncomputable def w4(neg:Bool)(f g:aP):dc:=λO Y=>(f O Y).bind λa=>a.1.t?.bind λt=>t.int?.bind λk=>(g O a.2).bind λb=>(wV b.1 k).map λr=>(r != neg,b.2)
theorem Nn:∀ {l:List T} {a:List aI} {b:List Int},bm w Z l a->ky l=some b->IntsAre a b:=by
 intro c;induction c with
 |nil=>
  intro _ _ h e;rw[show _=[]from h,<- bw e];exact .nil
 |cons t l d=>
  intro a b h e;exact bG h λv o f h1 h2=>by
    revert e;refine aX λk g=>ca λi j m=>?_;refine aU (gA g h1) λp n=>?_;subst f m n;exact .cons _ _ (d h2 j)
theorem Qx:∀ {l:List (Int×T)} {a:List (Int×aI)} {k:Int},bY w Z l a->(xX a k).isSome=l.any λp=>decide (p.1=k):=by
 intro b;induction b with
 |nil=>
  intro _ _ h;exact congrArg (λl=>(xX l _).isSome) h
 |cons c l d=>
  obtain⟨e,g⟩:=c;intro _ k h;exact bG h λv i f _ h2=>by
    rw[f,G4,JM];by_cases q:e=k
    ·rw[if_pos q,decide_eq_true q];rfl
    ·rw[if_neg q,decide_eq_false q];exact d h2
theorem WK{a b:Expr}{pos}{f g:aP}(j:bu w A F a f)(m:bu w A F b g)(n:rA .In b=false):gx w A F (.Compare a [.In] [b] pos) (BU f g):=λJ O Y x ν' Z s H=>
 bJ λP G o=>aX λt p=>aX λk q=>bJ λR u v=>ca λr y=>dU λQ E z=>by
  refine CA ((j H o).frz p _ _ λv1 V X c B=>m (H.next c) v _ _ λv2 Z2 s2 i C=>?_) n;revert y;refine ca λl I e=>?_;have h:=(H.next c).next i;refine aU (gA q B) λtk K=>bG (RX.dct h.on C I) λd L M hd N=>?_;subst K M e;refine wpAny_in_of (knd:=ik w) (k:=k) ng (si h hd) hd.mapOf (ue ?_);rw[Qx N];exact z _ _ ((c.trans i).trans (h.tok _))
theorem FE{a b:Expr}{pos}{f g:aP}(neg:Bool)(j:bu w A F a f)(m:bu w A F b g)(n:rA (if neg then .NotIn else .In) b=false):gx w A F (.Compare a [if neg then .NotIn else .In] [b] pos) (w4 neg f g):=λJ O Y x ν' Z s H=>
 bJ λP G o=>aX λt p=>aX λk u=>bJ λR v y=>ca λr c=>dU λQ E z=>by
  refine CA ((j H o).frz p _ _ λv1 V X h B=>m (H.next h) y _ _ λv2 Z2 s2 i C=>?_) n;revert c;refine aX λl c=>ca λns I e=>?_;have K:=(H.next h).next i;refine aU (gA u B) λtk L=>bG (RX.lst K.on C c) λd vs M hd N=>?_;subst L M e;have hi:=Nn N I;have q:=z _ _ (h.trans i);cases neg with
  |false=>exact PyProof.Rows.in_list_ints hd hi (ue (by rw[Bool.bne_false]at q;exact q))
  |true=>exact PyProof.Rows.notin_list_ints hd hi (ue (by rw[JN]at q;exact q))
noncomputable def k8(a:List Nat)(O:List S):Bool:=a.all λi=>match O[i]? with
 |some .no=>true
 |_=>false
theorem HL{a:List Nat}(h:k8 a O=true):∀ i∈a,O[i]?=some .no:=λi hi=>by
 have:=c8.mp h i hi;revert this;cases O[i]? with
 |none=>intro h;cases h
 |some S=>cases S<;>intro h<;>first|rfl|cases h
noncomputable def iP(l:List T)(lo hi:Option Int):List T:=
 (sliceRange (kJ lo hi none l.length).1 (kJ lo hi none l.length).2.1 (kJ lo hi none l.length).2.2).filterMap (l[·]?)
theorem PL{l:List T}{b:List aI}(h:bm w Z l b):∀ (is:List Nat),bm w Z (is.filterMap (l[·]?)) (is.filterMap (b[·]?)):=by
 intro c;induction c with
 |nil=>
  simp only[List.filterMap_nil];show _=_;rfl
 |cons i is a=>
  rw[adi,adi];cases q:l[i]? with
  |none=>
   rw[show b[i]?=none from lG (by rw[bm.length h];exact rC.mp q)];exact a
  |some t=>exact aV (bm.get h q) λv d e=>d▸(cE v _ rfl e (a))
theorem QY{l:List T}{a:List aI}(h:bm w Z l a)(lo hi:Option Int):bm w Z (iP l lo hi) (CR a.toArray lo hi none).toList:=by
 unfold iP CR;have b:=bm.length h;rw[eY,b];simp only[im];exact PL h _
inductive g7 (w:aZ) (A:bx) (F:Fx):Option Expr->Option aP->Prop
 |none:g7 w A F none none
 |some {e f}:bu w A F e f->g7 w A F (some e) (some f)
noncomputable def oT:Option aP->List S->List T->Option (Option Int×List T)
 |none,_,Y=>some (none,Y)
 |some f,O,Y=>(f O Y).bind λa=>a.1.t?.bind λt=>t.int?.map λk=>(some k,a.2)
theorem IV{e:Option Expr}{f:Option aP}(h:g7 w A F e f)(H:St w F J Z O Y s){o:Option Int}(a:oT f O Y=some (o,ν'))(Q:aI->aL->Prop)(E:aI->aL->Prop)
  (b:∀ v Z' D,Nx w F.nt Z s Z' ν' D->IsPart v o->Q v D):bc (model pw w) A (evalPart e F.env) Q E s:=by
 cases h with
 |none=>cases a;rw[evalPart_none];exact cm (b _ _ _ H.nx .none)
 |some h=>
  revert a;refine bJ λx G c=>aX λt d=>ca λk g e=>?_;obtain⟨rfl,rfl⟩:=x9 e;rw[evalPart_some];exact(h H c).frz d _ _ λv Z' D N r=>aU (gA g r) λt i=>b _ _ _ N (i▸.int k t)
noncomputable def hH(f:aP)(lo hi:Option aP):aP:=λO Y=>(f O Y).bind λa=>(oT lo O a.2).bind λp=>(oT hi O p.2).bind λq=>a.1.lst?.bind λl=>if l.length<=1000000 then some (.fr (iP l p.1 q.1),q.2)else none
theorem pU{value:Expr}{lo hi:Option Expr}{p pos:br}{f:aP}{q t:Option aP}(C:∀ o r,letTemporaryGo value o r=pure ())(h:bu w A F value f)(I:g7 w A F lo q)(K:g7 w A F hi t):
  bu w A F (.Subscript value (.Slice lo hi none p) pos) (hH f q t):=λJ O Y x ν' Z s H=>by
 refine bJ λx G L=>bJ λb M N=>bJ λc P R=>aX λl V=>cb λd=>g8 ?_;intro Q E X;refine wpAny_Subscript_list_slice (h H L _ _ λv Z1 s1 e r1=>IV I (H.next e) N _ _ λu Z2 s2 g p2=>IV K ((H.next e).next g) R _ _ λy Z3 j i p3=>?_) C;have z:=H.next e;have k:=(z.next g).next i;have r3:=RX.next H.sz z r1 (g.trans i);refine aQ λnG=>bG (RX.lst k.on r3 V) λa m y2 hL B=>?_;subst y2;refine nG (wY a m.toArray b c ⟨rfl,hL,(by rw[eY,bm.length B];exact bg d (by decide)),p2,p3,?_⟩);have N4:=((e.trans g).trans i).push {cls:=.type "slice",data:=.fields #[u,y,.none]};have N5:=N4.push {cls:=.type "list",data:=.seq (CR m.toArray b c none)};have n:(j.heap.push {cls:=.type "slice",data:=.fields #[u,y,.none]}).objs.size=j.heap.objs.size+1:=eQ ..;refine X _ _ _ N5 (jG (j.heap.objs.size+1) ((CR m.toArray b c none).toList) rfl ?_ ?_ ?_ ?_ (QY B _ _))
 ·have:=((e.trans g).trans i).size;lia
 ·exact(dL k (mz _)).1
 ·exact(dL k (mz _)).2
 ·rw[<- n];exact⟨0,by rw[dx _ (by rfl)]⟩
theorem UN{l b:aJ}{a c:List aI}{Q:aI->aL->Prop}{E:aI->aL->Prop}(q:s.heap.IsList l a.toArray)(r:s.heap.IsList b c.toArray)
  (h:Q (.ref s.heap.objs.size) {s with heap:=s.heap.push {cls:=.type "list",data:=.seq (a++c).toArray}}) (i:a.length+c.length<=kF):bc (model pw w) A (Cv .Add (.ref l) (.ref b)) Q E s:=by
 refine aQ λt=>ls (id q) λj o hc n hd=>?_;obtain⟨cls,u,data,v⟩:=j;refine ls (id r) λj d f x g=>?_;obtain⟨p,k,data2,m⟩:=j;refine t ?_;simp only at hc hd f g;subst hc hd f g;have e:a.toArray++c.toArray=(a++c).toArray:=by simp
 refine concat_meets (aS _ o rfl) (aS _ d rfl) noFill_list_add seq_list_add PySem.F.slot_list_add PySem.F.entry_list_add (PySem.F.args_list_add_2 _ _) (list_addW l b a.toArray c.toArray n x u k v m (by simpa using i)) ⟨o,d,?_⟩;rw[e];exact h
noncomputable def sV(f g:aP):aP:=λO Y=>(f O Y).bind λa=>(g O a.2).bind λb=>a.1.lst?.bind λl=>b.1.lst?.bind λr=>if l.length+r.length<=1000000 then some (.fr (l++r),b.2)else none
theorem yy{a b:Expr}{pos}{f g:aP}(o:bu w A F a f)(p:bu w A F b g):bu w A F (.BinOp a .Add b pos) (sV f g):=λJ O Y x ν' Z s H=>by
 refine bJ λL G q=>bJ λM t u=>aX λl v=>aX λr y=>cb λz=>g8 ?_;intro Q E B;refine xW (o H q _ _ λv1 P R c C=>p (H.next c) u _ _ λV X s2 d I=>?_);have i:=H.next c;have e:=i.next d;refine aQ λK=>bG (RX.lst e.on (RX.next H.sz i C d) v) λa1 j h h1 k=>?_;subst h;refine bG (RX.lst e.on I y) λa2 m h h2 n=>?_;subst h;refine K (UN h1 h2 ?_ (by rw[bm.length k,bm.length n];exact bg z (by decide)));have N:=(c.trans d).push {cls:=.type "list",data:=.seq (j++m).toArray};exact B _ _ _ N (jG _ (j++m) rfl ((c.trans d).size) ((dL e (cu _)).1) ((dL e (cu _)).2) ⟨0,dx _ rfl⟩ (bm.app k n))
theorem UG{l b:aJ}{a c:List aI}{Q:aI->aL->Prop}{E:aI->aL->Prop}(q:IsTup s.heap l a.toArray)(r:IsTup s.heap b c.toArray)(h1:a≠[])(h2:c≠[])
  (h:Q (.ref s.heap.objs.size) {s with heap:=s.heap.push {cls:=.type "tuple",data:=.seq (a++c).toArray}}) (i:a.length+c.length<=kF):bc (model pw w) A (Cv .Add (.ref l) (.ref b)) Q E s:=by
 refine aQ λt=>ls (id q) λj o hc n hd=>?_;obtain⟨cls,u,data,v⟩:=j;refine ls (id r) λj d f x g=>?_;obtain⟨p,k,data2,m⟩:=j;refine t ?_;simp only at hc hd f g;subst hc hd f g;have e:a.toArray++c.toArray=(a++c).toArray:=by simp
 refine concat_meets (aS _ o rfl) (aS _ d rfl) noFill_tuple_add seq_tuple_add PySem.F.slot_tuple_add PySem.F.entry_tuple_add (PySem.F.args_tuple_add_2 _ _) (tuple_addW2 l b a.toArray c.toArray n x u k v m (by simpa using h1) (by simpa using h2) (by simpa using i)) ⟨o,d,?_⟩;rw[e];exact h
noncomputable def iY(f g:aP):aP:=λO Y=>(f O Y).bind λa=>(g O a.2).bind λb=>a.1.tup?.bind λl=>b.1.tup?.bind λr=>if l≠[]/\r≠[]/\l.length+r.length<=1000000 then some (.v (.tup (l++r)),b.2)else none
theorem qj{a b:Expr}{pos}{f g:aP}(q:bu w A F a f)(t:bu w A F b g):bu w A F (.BinOp a .Add b pos) (iY f g):=λJ O Y x ν' Z s H=>by
 refine bJ λX G u=>bJ λx2 v y=>aX λl z=>aX λr B=>cb λh=>g8 ?_;intro Q E C;refine xW (q H u _ _ λv1 Z1 s1 c I=>t (H.next c) y _ _ λv2 K L d M=>?_);have o:=H.next c;have e:=o.next d;refine aQ λP=>bG (RX.tup e.on (RX.next H.sz o I d) z) λa1 i j h1 k=>?_;subst j;refine bG (RX.tup e.on M B) λa2 m j h2 n=>?_;subst j;refine P ?_;have R:i≠[]:=by rintro rfl;have:=bm.length k;exact h.1 (CN.mp this.symm)
 have V:m≠[]:=by rintro rfl;have:=bm.length n;exact h.2.1 (CN.mp this.symm)
 refine UG h1 h2 R V ?_ (by rw[bm.length k,bm.length n];exact bg h.2.2 (by decide));have N:=(c.trans d).push {cls:=.type "tuple",data:=.seq (i++m).toArray};have p:K L.heap.objs.size=none:=(dL e (cu _)).1;exact C _ _ _ (N.put (c.trans d).size p (dL e (cu _)).2) (fy _ _ (i++m) rfl (gM.trans (dx _ rfl)) ⟨rfl,0,rfl⟩ (bm.mono (gc p) _ (bm.app k n)))
noncomputable def gT(f:aP):aP:=λO Y=>(f O Y).bind λa=>a.1.t?.bind λt=>t.int?.map λk=>(.v (.int (-k)),a.2)
theorem Xd{a:Expr}{pos}{f:aP}(c:bu w A F a f):bu w A F (.UnaryOp .USub a pos) (gT f):=λJ O Y x ν' Z s H=>bJ λl G d=>aX λt e=>ca λk g=>dU λQ E h=>by
  show bc _ _ (do let v <- eval a F.env;gJ pos;js [v] (unaryOp .USub v)) _ _ _;refine ba ((c H d).frz e _ _ λv1 m n b i=>ba (gr (fG (aU (gA g i) λt j=>?_))));subst j;exact PyProof.Rows.neg_int (h _ _ _ (b.trans ((H.next b).tok _)) kz)
section
variable{w:aZ}{A:bx}{mt:List Nat}{nt:Option aJ}{h₀:bh}{env:cz}{nm:List (Option Str)}
theorem BV(i:Nat){y:Str}{e:Expr}{py pos:br}{f:aP}(hi:nm[i]?=some (some y))(hs:qz e [.Name y py]=true)(hw:nT [.Name y py] e env=pure none)(h:bu w A (cG nt h₀ env nm) e f):
  eX w A (cG nt h₀ env nm) mt (.Assign [.Name y py] e pos) (jy (aO nm.length) i f):=aai (F:=cG nt h₀ env nm) h hi hs hw
theorem abG (i:Nat) {y:Str} {py pos:br} {value:Expr} {f:aP} (a:nm[i]?=some (some y)) (hc:(y==("__classdict__":Str))=false) (b:bu w A (cG nt h₀ env nm) value f) :
  eX w A (cG nt h₀ env nm) mt (.AugAssign (.Name y py) .Add value pos) (wa (aO nm.length) i f):=Xa (F:=cG nt h₀ env nm) a hc b
theorem i8(p:PT)(d:Bool)(e:Option Nat)(h:A.handled=none){target iter:Expr}{body:List dw}{pos:br}{g:bC}{f:List S->List T->Option (List T×List T)}(a:jW iter=true)(b:d=true->i4 target=true)(j:gP nm p target=true)
  (c:∀ i∈mt,e≠some i) (k:gL w A (cG nt h₀ env nm) iter d e f) (l:dp w A (cG nt h₀ env nm) mt body g):eX w A (cG nt h₀ env nm) mt (.For target iter body [] pos) (fe (aO nm.length) p f g):=
 UX (F:=cG nt h₀ env nm) h k a b j l c
end
noncomputable def X.ty:X->String
 |.v (.str _)=>"str"
 |.v (.dct _)|.frd _|.bod ..=>"dict"
 |.fr _|.bo ..=>"list"
 |_=>"?"
noncomputable def iD(b:String)(f:aP)(c:List aP)(k:List X->List T->Option (X×List T)):aP:=λO Y=>(f O Y).bind λa=>if a.1.ty=b then(eT c O a.2).bind λr=>k (a.1::r.1) r.2 else none
theorem RX.typ {n:Nat} {x:X} {v:aI} {T:String} (f:On Z s.heap) (r:RX w F J O n Z s.heap x v) (e:x.ty=T) (hT:(T=="?")=false):s.TypeIs v T/\∀ a,v=.ref a->∃ c,s.heap.get? a=some c/\c.dict=none:=by
 have dct:∀ l,x.dct?=some l->s.TypeIs v "dict"/\∀ a,v=.ref a->∃ c,s.heap.get? a=some c/\c.dict=none:=λl h=>by
  refine aQ λg=>bG (RX.dct f r h) λa j d h1 h2=>?_;subst d;exact g ⟨h1.mapOf.typeIs,h1.mapOf.noDict⟩
 cases x with
 |v t=>
  cases t with
  |str x=>subst e;refine aU r λt k=>?_;clear r;subst k;exact⟨typeIs_str _ _ _,λ_ h=>nomatch h⟩
  |dct l=>subst e;exact dct l rfl
  |_=>subst e;cases hT
 |fr l=>subst e;refine iy r λa m d _ _ _ h4 _=>?_;clear r;subst d;refine⟨h4.isList.typeIs,λb h=>?_⟩;cases h;refine aU h4 λn h4=>?_;exact(aS _ h4 rfl)
 |bo i l=>subst e;refine ou r λo _ m h4 _=>?_;clear r;subst o;refine⟨h4.isList.typeIs,λb h=>?_⟩;cases h;refine aU h4 λn h4=>?_;exact(aS _ h4 rfl)
 |frd l=>subst e;exact dct l rfl
 |bod i l=>subst e;exact dct l rfl
 |nts=>subst e;cases hT
theorem oQ{a:cz}{pos:br}{es:List Expr}(h:es.all dQ=true)(b:jr es.length 20=true):((ka pos (ju es a)).all (λx=>!x.1)&&(backToKw pos (JO [] a)).all (λx=>x.1.isSome)
   &&decide (es.length+([]:List uu).length+(if ([]:List uu).isEmpty then 0 else 1)<30))=true:=by
 have h1:=ji (env:=a) (pos:=pos) h;have h2:=xz b;simp only[fg,decide_eq_true_eq,List.isEmpty_nil,if_true,iJ,tZ];refine⟨⟨?_,rfl⟩,VW h2⟩;refine c8.mpr ?_;intro x c;have:=List.any_eq_false.mp h1 x c;simpa using this
theorem pC{f:aI}{pos:br}{a:List Expr}{Q:Args->aL->Prop}{E:aI->aL->Prop}(c:a.all dQ=true)(h:bc (model pw w) A (ub (ka pos (ju a F.env))) (λd b=>Q ⟨d,[]⟩ b) E s):
  bc (model pw w) A (evalArgs f true (ka pos (ju a F.env)) []) Q E s:=by
 cases a with
 |nil=>
  unfold evalArgs;show bc _ _ (ub [] >>= _) _ _ _;refine ba (iM h (λd D g=>?_) λ_ _ x=>x);exact ba (cm (fG (ba (cm (ba (cm (cm g)))))))
 |cons e a=>
  rw[gX,fg]at c;rw[eG c.1]at h ⊢;exact evalArgs_plain h
theorem oJ {T id:String} {o:Expr} {name:Str} {apos pos:br} {h:List Expr} {f:aP} {j:List aP} {k:List X->List Mine.Internal.T->Option (X×List Mine.Internal.T)} (hT:(T=="?")=false) (n:PlainAttrs T) (slot:Slot T name id) (i:typeOf (.builtin id)=pure (.type "method_descriptor"))
  (hc:dG w A F (.builtin id) k) (b:nY o name F.env (eval o F.env)=eval o F.env) (c:(apos.endLine==pos.line)=true) (p:jr h.length 20=true) (q:bu w A F o f) (a:aN w A F h j) :
  bu w A F (.Call (.Attribute o name apos) h [] pos) (iD T f j k):=λJ O Y x ν' Z s H=>by
 refine bJ λx G r=>cb λt=>bJ λu y z B=>?_;intro Q E C;refine rH (T:=T) (id:=id) b (oQ a.plain p) c n slot i (q H r _ _ λv Z1 s1 d l=>?_);have g:=H.next d;refine bn (RX.typ g.on l t hT) λI K=>⟨I,K,uv (ji a.plain) (pC a.plain (a.as g z _ _ λm L M e N=>?_))⟩;have P:=g.next e;exact hc P H.low (bg d.size e.size) (show cT w F J O s.heap.objs.size L M.heap (x::u) (v::m)from(cE v m rfl (RX.next H.sz g l e) (N.le d.size))) B _ _ λv R V N3 r3=>C v R V ((d.trans e).trans N3) (r3.le (bg d.size e.size))
noncomputable def strs?:List T->Option (List Str)
 |[]=>some []
 |t::l=>t.str?.bind λx=>(strs? l).map (x::·)
noncomputable def kN(x y:X):Option X:=x.str?.bind λx=>y.str?.map λy=>.v (.int (CS x y))
noncomputable def A1(x y:X):Option X:=x.str?.bind λx=>y.str?.bind λy=>(acT x y 0 x.length 1).head?.map λ(i:Nat)=>.v (.int (i:Int))
noncomputable def Dr(x:X):Option X:=x.str?.bind λx=>if x.length<=1000000 then some (.v (.str (JP x)))else none
noncomputable def nh(x y:X):Option X:=x.str?.bind λx=>y.lst?.bind λl=>(strs? l).bind λa=>if (a.map (·.length)).sum+a.length*x.length<=1000000 then some (.v (.str (Txt.join x a)))else none
theorem ZR:∀ {l:List T} {a:List aI} {b:List Str},bm w Z l a->strs? l=some b->StrsAre a b:=by
 intro c;induction c with
 |nil=>
  intro _ _ h e;refine(show _=[]from h)▸bw e▸?_;exact .nil
 |cons t l d=>
  intro a b h e;exact bG h λv o f h1 h2=>by
    revert e;refine aX λk g=>ca λi j m=>?_;refine aU (IK g h1) λp n=>?_;subst f m n;exact .cons _ _ (d h2 j)
theorem X9{J:Type}{l:List J}{a:J}(h:l.head?=some a):l=a::l.tail:=by
 cases l with
 |nil=>exact bD h
 |cons b l=>exact bw h▸rfl
theorem zN:dG w A F (.builtin "str.count") (gS kN):=yG λ{J O Y Z s n x h y v k} H h1 h2 r a=>aX λi b=>ca λj c e Q E d=>by
 refine aU (ku b r) λt f=>aU (ku c a) λl g=>?_;subst f g e;exact SC.count (d _ _ _ (H.tok _) kz)
theorem acb:dG w A F (.builtin "str.index") (gS A1):=yG λ{J O Y Z s n x l y v m} H h1 h2 r a=>aX λi b=>aX λj c=>ca λk d e Q E f=>by
 refine aU (ku b r) λt g=>aU (ku c a) λo h=>?_;subst g h e;exact SC.index (X9 d) (f _ _ _ (H.tok _) kz)
theorem Zy:dG w A F (.builtin "str.lower") (cD Dr):=kK λ{J O Y Z s n x y v} H h1 h2 r=>aX λi a=>cb λb e Q E c=>by
 obtain rfl:=bw e;refine aU (ku a r) λt d=>?_;subst d;exact PySem.SC.lower (fit_lower (QN b)) (c _ _ _ (H.tok _) oV)
theorem DB:dG w A F (.builtin "str.join") (gS nh):=yG λ{J O Y Z s n x q y v u} H h1 h2 r b=>aX λi c=>aX λl d=>aX λz f=>cb λg e Q E h=>by
 obtain rfl:=bw e;refine aU (ku c r) λt j=>bG (RX.lst H.on b d) λa B m o p=>?_;subst j m;exact join_list o (ZR p f) (OI g) λC k=>h _ _ _ (H.tok _) oV
noncomputable def Be(f g:aP):aP:=λO Y=>(f O Y).bind λa=>(g O a.2).bind λb=>a.1.str?.bind λx=>b.1.int?.bind λk=>if -1000<=k/\k<=1000 then(JQ x k).map λc=>(.v (.str ⟨#[c]⟩),b.2)else none
theorem Xk{a b:Expr}{pos}{f g:aP}(h:bu w A F a f)(i:bu w A F b g)(j:nr b=true):bu w A F (.Subscript a b pos) (Be f g):=λJ O Y x ν' Z s H=>
 bJ λB G l=>bJ λC m n=>aX λx o=>aX λk p=>cb λhk=>ca λc q=>dU λQ E r=>by
  refine Subscript_ (h H l _ _ λv1 I K d t=>i (H.next d) n _ _ λL M N e u=>aU (ku o t) λR v=>aU (j4 p u) λV y=>?_);subst v y;have z:=(H.next d).next e;refine Cy (typeIs_str _ _ _) PySem.F.slot_str_getitem.lookup ?_ (wc j _ _);exact PySem.P.getItem_str (by simp;exact KF hk) q (r _ _ _ ((d.trans e).trans (z.tok _)) oV)
theorem St.fun_kind(H:St w F J Z O Y s):interactive F.env=false:=by
 unfold interactive;rw[H.ok.kf];rfl
theorem EJ{f:Expr}{b:List Expr}{c:List uu}{p:br}{l:Nat}{a:cz}:swapsWith (.Call f b c p) none l a=pure false:=rfl
noncomputable def S.appd(i:Nat)(O:List S)(Y:List T)(t:T):S->Option (Fl×List S×List T)
 |.own l=>if l.length<=1000000 then some (.nx,O.set i (.own (l++[t])),Y)else none
 |.nts=>if Y.length<=1000000 then some (.nx,O,Y++[t])else none
 |.no|.v _|.ownd _=>none
noncomputable def dM(i:Nat)(f:aP):bC:=λO Y=>(f O Y).bind λa=>a.1.t?.bind λt=>(O[i]?).bind λb=>b.appd i O a.2 t
theorem OV(H:St w F J Z O Y s){a:aJ}{t:T}{v:aI}{Q:aI->aL->Prop}{E:aI->aL->Prop}(d:F.nt=some a)(r:Rd w Z t v)(f:Y.length<=kF)
  (u:∀ D,Nx w F.nt Z s Z (Y++[t]) D->Q .none D):bc (model pw w) A (call (.builtin "list.append") [.ref a,v]) Q E s:=by
 refine eo (show fi w Z (some a) Y s.heap from d▸H.nts) λg i c p=>JR c (λx j hs=>u _ ?_) (by rw[eY,bm.length p];exact f);have keep:∀ b o,b≠a->s.heap.get? b=some o->x.get? b=some o:=λb o k e=>hs.extBut b o k e;refine aV H.tab λz B _=>?_;have l:kY≠a:=λq=>bD (((congrArg Z q).trans g).symm.trans (H.md.1 kY (((HF w.params).get? kY).getD default) (by kernel_rfl) (by decide)));have m:eB≠a:=λq=>aU c λn c=>nomatch (q▸c).symm.trans B.2;refine⟨.refl Z,λ_ _=>rfl,λb o e=>keep b o (λq=>bD (g.symm.trans (q▸e))) (H.on b o e),λb o k e=>keep b o (λq=>k (.inl (q▸d))) e,gV hs.1.symm,?_,id,rfl,λz h=>⟨#[],acZ▸?_⟩⟩
 ·rw[d];exact(fu g (i++[v]) (by simpa using j) (bm.app p (cE v [] rfl r rfl)))
 ·exact bn h λC h4=>bn C λy h3=>eA y λo i h1 h2=>⟨⟨(iz o i (keep _ _ l h1) h2),keep _ _ m h3⟩,h4⟩
theorem g9 {y:Str} {py apos c pos:br} {e:Expr} {i:Nat} {f:aP} (C:F.nm[i]?=some (some y)) (hd:(y==("__debug__":Str))=false) (hc:(y==("__classdict__":Str))=false) (hm:i∈mt)
  (d:nY (.Name y py) "append" F.env (eval (.Name y py) F.env)=eval (.Name y py) F.env) (g:(apos.endLine==c.line)=true) (V:dQ e=true) (h:bu w A F e f) :
  eX w A F mt (.Expr (.Call (.Attribute (.Name y py) (aK "append") apos) [e] [] c) pos) (dM i f):=λJ O Y fl U ν' Z s H=>bJ λx G e1=>aX λt e2=>aX λS0 hi o Q E X=>by
 refine wpAny_Expr_any ?_ H.fun_kind EJ;have jv:[e].all dQ=true:=by rw[gX,V];rfl
 have args:∀ {Q:List aI->aL->Prop} {E:aI->aL->Prop},(∀ v r p,Nx w F.nt Z s r G p->Rd w r t v->Q [v] p)->bc (model pw w) A (ub (ka c (ju [e] F.env))) Q E s:=λhq=>
  gp.one H ((h H e1).frz e2) V _ _ λws r p j r1=>aV (cT.one r1) λv y2 u=>y2▸hq v r p j u
 cases S0 with
 |own l=>
  revert o;refine cb λK o=>?_;cases o;refine rH (T:="list") (id:="list.append") d (oQ jv rfl) g JS slot_list_append adj (uM H C hi trivial hd hc (eo (H.ownAt C hi trivial) λ_ vs a hr=>⟨a.isList.typeIs,λb q=>CT q▸aU a λn a=>(aS _ a rfl),uv (ji jv) (pC jv (args λv r p j u=>?_))⟩));have H1:=H.next j;have k:=H1.ownAt C hi trivial;refine eo (id k) λ_ L z B=>JR z (λh' M hs=>?_) (by rw[eY,bm.length B];exact bg K (by decide));exact bn (vc (tk:=p.toks) H1 hi trivial (S1:=.own (l++[t])) trivial ⟨_,k⟩ hs (fu rfl (L++[v]) (by simpa using M) (bm.app B (cE v [] rfl u rfl)))) λI H2=>
   X _ _ _ _ ((cZ.ofNx j).trans (xg hi trivial hm I)) H2 rfl
 |nts=>
  revert o;refine cb λK o=>?_;cases o;refine aV H.vars λm N P=>GM (P i y .nts C hi nofun) λv0 R b hb y4=>?_;subst y4;refine rH (T:="list") (id:="list.append") d (oQ jv rfl) g JS slot_list_append adj (rz (vf H.ok.kf N R ?_ hc) hd);refine eo (show fi w Z (some b) Y s.heap from hb▸H.nts) λ_ vs a _=>⟨a.isList.typeIs,λb q=>CT q▸aU a λn a=>(aS _ a rfl),uv (ji jv) (pC jv (args λv r p j u=>?_))⟩;exact OV (H.next j) hb u (bg K (by decide)) λs2 I=>X _ _ _ _ (cZ.ofNx (j.trans I)) (H.next (j.trans I)) rfl
 |_=>exact bD o
noncomputable def oS(k:Int):T->Bool
 |.int n=>n==k
 |_=>false
noncomputable def rV(i:Nat)(f:aP):bC:=λO Y=>(f O Y).bind λa=>a.1.t?.bind λt=>t.int?.bind λk=>(O[i]?).bind λb=>b.ownl?.bind λl=>
 (ky l).bind λ_=>(l.findIdx? (oS k)).bind λj=>if l.length<=1000000 then some (.nx,O.set i (.own (l.eraseIdx j)),a.2)else none
noncomputable def uP(k:Int):aI->Bool
 |.int n _=>n==k
 |_=>false
theorem bm.at{Z:Fz}:∀ {l:List T} {f:List aI},bm w Z l f->∀ {i:Nat} {v:aI},f[i]?=some v->∃ t,l[i]?=some t/\Rd w Z t v:=by
 intro a;induction a with
 |nil=>
  intro _ h i v e;exact bD (show([]:List aI)[i]?=_ from h▸e)
 |cons t r b=>
  intro _ h c;cases c with
  |zero=>
   intro j e;exact bG h λv g d h1 h2=>(aS t rfl (bw (show some v=_ from d▸e)▸h1))
  |succ i=>
   intro j e;exact bG h λv g d h1 h2=>b (i:=i) h2 (show(v::g)[i+1]?=_ from d▸e)
theorem Pd:∀ {l:List T} {e:List aI} {j:Nat},bm w Z l e->bm w Z (l.eraseIdx j) (e.eraseIdx j):=by
 intro a;induction a with
 |nil=>
  intro _ j h;exact congrArg (List.eraseIdx · j) h
 |cons t l b=>
  intro _ c;cases c with
  |zero=>
   intro h;exact bG h λv f d h1 h2=>d▸h2
  |succ j=>
   intro h;exact bG h λv f d h1 h2=>d▸(cE v _ rfl h1 (b h2))
theorem K2:∀ {l:List T} {a:List Int},ky l=some a->∀ {i:Nat} {t:T},l[i]?=some t->∃ n,t=.int n:=by
 intro b;induction b with
 |nil=>
  intro a h i t e;exact bD e
 |cons t l c=>
  intro a h d;cases d with
  |zero=>
   intro g e;revert h;exact aX λn f _=>⟨n,bw e▸T.int_eq f⟩
  |succ i=>
   intro g e;revert h;exact aX λn f=>ca λj k _=>c (i:=i) k e
theorem MW{t:T}{v:aI}{k:Int}(r:Rd w Z t v):uP k v=oS k t:=by
 cases t with
 |int n=>exact aU r λt a=>a▸rfl
 |none|bool _=>exact congrArg (uP k) r
 |flt _|str _=>exact aU r λt a=>a▸rfl
 |tup _|lst _|dct _=>exact lV r λ_ _ _ b _=>b▸rfl
 |inst _=>exact DU r λ_ _ _ _ _ c _=>c▸rfl
theorem XC {y:Str} {py apos u pos:br} {e:Expr} {i:Nat} {f:aP} (V:F.nm[i]?=some (some y)) (hd:(y==("__debug__":Str))=false) (hc:(y==("__classdict__":Str))=false) (N:i∈mt)
  (B:nY (.Name y py) "remove" F.env (eval (.Name y py) F.env)=eval (.Name y py) F.env) (C:(apos.endLine==u.line)=true) (hp:dQ e=true) (h:bu w A F e f) :
  eX w A F mt (.Expr (.Call (.Attribute (.Name y py) (aK "remove") apos) [e] [] u) pos) (rV i f):=λJ O Y fl U ν' Z s H=>bJ λx G e1=>aX λt0 e2=>aX λk ek=>aX λS0 hi=>aX λl X=>aX λns e3=>aX λj e4=>cb λhl hg Q E hQ=>by
  cases hg
  obtain rfl:=S.ownl_eq X;refine wpAny_Expr_any ?_ H.fun_kind EJ;have jv:[e].all dQ=true:=by rw[gX,hp];rfl
  refine rH (T:="list") (id:="list.remove") B (oQ jv rfl) C JS adk PySem.F.type_list_remove (uM H V hi trivial hd hc (eo (H.ownAt V hi trivial) λ_ vs o hr=>⟨o.isList.typeIs,λb q=>CT q▸aU o λn o=>(aS _ o rfl),uv (ji jv) (pC jv (gp.one H ((h H e1).frz e2) hp _ _ λws Z1 P N1 r1=>?_))⟩));refine aV (cT.one r1) λv y2 r2=>?_;subst y2;refine aU (gA ek r2) λtk y1=>?_;subst y1;have H1:=H.next N1;have z:=H1.ownAt V hi trivial;refine eo (id z) λ_ a y2 p=>aU y2 λR d=>?_;have c:=bm.length p;refine aV (List.findIdx?_eq_some_iff_getElem.mp e4) λK a0 a1=>?_;have r:j<a.length:=Qs c K;have g:∀ m (h1:m<l.length) (h2:m<a.length),uP k a[m]=oS k l[m]:=λm h1 h2=>
   aV (bm.at p (gv h2)) λt q1 L=>(MW L).trans (congrArg (oS k) (bw (q1.symm.trans (gv h1))))
  refine call_meets adk (aS _ d rfl) PySem.F.entry_list_remove (PySem.F.args_list_remove_2 _ _)
   (MeetsSeq.list_remove (J i) a.toArray R (.int k tk) (uP k) (λy hy=>?_) j (by simpa using r) (by simpa [g j K r] using a0) (λm N I=>?_) (by refine eY▸c▸?_;exact bg hl (by decide))) ⟨d,?_⟩
  ·obtain⟨m,N,rfl⟩:=List.getElem_of_mem (Jt.mpr hy);refine aV (bm.at p (gv N)) λt q1 L=>aU (K2 e3 q1) λn y1=>?_;subst y1;exact aU L λa2 (L:a[m]=_)=>(show a.toArray.toList[m]=_ from L)▸(MeetsSeq.EqGives.int _ _ _ _)
  ·have:=a1 m I;have h2:m<a.length:=Sx c K I;simpa [g m (Ur K I) h2] using this
  ·have hs:gZ (J i) P.heap (P.heap.update (J i) (ph λM=>M.eraseIdxIfInBounds j)):=ug ..;have e5:a.toArray.eraseIdxIfInBounds j=(a.eraseIdx j).toArray:=by simp[Array.eraseIdxIfInBounds,r]
   have e6:ph (λM=>M.eraseIdxIfInBounds j) {cls:=.type "list",data:=.seq a.toArray R}={cls:=.type "list",data:=.seq (a.eraseIdx j).toArray (R+1)}:=by
    unfold ph;simp only[e5];rw[if_neg];have:0<a.length:=X6 c K;simp[List.length_eraseIdx,r];exact(dW (Nat.sub_lt this Nat.one_pos))
   have hS:(P.heap.update (J i) (ph λM=>M.eraseIdxIfInBounds j)).PlainList (J i) (a.eraseIdx j).toArray:=⟨R+1,by rw[o6 _ d (by refine e6▸?_;rfl),e6]⟩;exact bn (vc (tk:=P.toks) H1 hi trivial (S1:=.own (l.eraseIdx j)) trivial ⟨_,z⟩ hs (fu rfl (a.eraseIdx j) hS (Pd p))) λN2 H2=>hQ _ _ _ _ ((cZ.ofNx N1).trans (xg hi trivial N N2)) H2 rfl
noncomputable def tA(f g:dc):dc:=λO Y=>(f O Y).bind λb=>if b.1 then g O b.2 else some (false,b.2)
theorem Wv{a b:Expr}{pos:br}{f g:dc}(i:gx w A F a f)(j:gx w A F b g):gx w A F (.BoolOp .And [a,b] pos) (tA f g):=λJ O Y x ν' Z s H=>by
 refine bJ λk G l h=>?_;intro Q E d;refine isTrue_and (i H l _ _ λm n c=>?_);cases k with
 |false=>cases h;exact d _ _ c
 |true=>
  refine isTrue_and (j (H.next c) (by simpa using h) _ _ λo p e=>?_);cases x with
  |false=>exact d _ _ (c.trans e)
  |true=>exact isTrue_and_nil (d _ _ (c.trans e))
noncomputable def Iq:T->Option WData
 |.int i=>some (.int i)
 |.flt b=>some (.float b)
 |.none|.bool _|.str _|.tup _|.lst _|.dct _|.inst _=>none
noncomputable def mP:List T->Option (List WData)
 |[]=>some []
 |t::l=>(Iq t).bind λd=>(mP l).map (d::·)
noncomputable def C7:WData->Option X
 |.int i=>some (.v (.int i))
 |.float b=>some (.v (.flt b))
 |_=>none
noncomputable def jk(x:X):Option X:=x.lst?.bind λl=>(mP l).bind λa=>(lI 0 a).bind C7
theorem Of:∀ {l:List T} {a:List WData},mP l=some a->a.length=l.length:=by
 intro b;induction b with
 |nil=>
  intro a h;exact bw h▸rfl
 |cons t l c=>
  intro a h;revert h;exact aX λd f=>ca λr e h=>h▸congrArg (·+1) (c e)
theorem Qw{t:T}{d:WData}{v:aI}(h:Iq t=some d)(r:Rd w Z t v):JT v d:=by
 cases t with
 |int i=>exact bw h▸aU r λt a=>a▸.int _ _
 |flt i=>exact bw h▸aU r λt a=>a▸.float _ _
 |_=>exact bD h
theorem T8:∀ {l:List T} {a:List WData} {b:List aI},mP l=some a->bm w Z l b->∀ {i:Nat} {v:aI},b[i]?=some v->∃ d,a[i]?=some d/\JT v d:=by
 intro c;induction c with
 |nil=>
  intro a b h r i v e;exact bD (show([]:List aI)[i]?=_ from r▸e)
 |cons t l f=>
  intro a b h r i m e;revert h;refine aX λd g=>ca λn j h=>bG r λv o k h1 h2=>?_;subst h k;cases i with
  |zero=>exact(aS d rfl (bw e▸Qw g h1))
  |succ i=>exact f (i:=i) j h2 e
theorem Kx{r:WData}{y:X}{v:aI}{n:Nat}{h:bh}(e:C7 r=some y)(i:JT v r):RX w F J O n Z h y v:=by
 cases i<;>(cases e;exact⟨_,rfl⟩)
theorem RO(H:St w F J Z O Y s){o:bK}{D:aL}(c:Moved [s.heap.objs.size] (λa b=>b=a) {s with heap:=s.heap.push o} D)(hs:s.heap.objs.size<=D.heap.objs.size):Nx w F.nt Z s Z Y D:=by
 rw[c.eq_with];exact H.growT (λb d e=>c.heap b d (λq=>by simp only[bP,dP,or_false]at q;subst q;exact absurd (cg e) (cQ _)) (cA _ e)) hs
theorem wv(m:A.handled=none):dG w A F (.builtin "sum") (cD jk):=kK λ{J O Y Z s n x y v} H h1 h2 r=>aX λl o=>aX λp g=>aX λd q e Q E t=>by
 refine bG (RX.lst H.on r o) λa h u z j=>?_;subst u;refine e9 (PySem.Flt.call_sum_walkF q (JU z λk B st b c=>?_));subst B;have W:=(JV (prog:=pw) (w:=w) (A:=A.in1) m s.heap.objs.size a c h.toArray).toS;rw[show h.toArray.size=p.length from(bm.length j).trans (Of g).symm]at W;exact(wA _ _ _ _ _ _ ⟨rfl,W,st,b,(λi v C=>T8 g j (im.symm.trans C)),(λD v G I f=>t _ _ _ (RO H I f) (Kx e G))⟩)
noncomputable def zM:List T->Option (List UInt64)
 |[]=>some []
 |t::l=>t.flt?.bind λx=>(zM l).map (x::·)
noncomputable def Ii:List Int->Int
 |[]=>0
 |x::r=>r.foldl (λm y=>if y<m then y else m) x
noncomputable def yK(f:X->Option X)(g:X->X->Option X)(a:List X)(Y:List T):Option (X×List T):=match a with
 |[]=>none
 |x::r=>match r with
  |[]=>(f x).map λy=>(y,Y)
  |y::q=>match q with
   |[]=>(g x y).map λy=>(y,Y)
   |_::_=>none
noncomputable def lZ:List X->List T->Option (X×List T):=yK (λx=>x.lst?.bind λl=>(ky l).bind λc=>if c=[]then none else some (.v (.int (Ii c)))) λx y=>x.int?.bind λa=>y.int?.map λb=>.v (.int (if b<a then b else a))
noncomputable def mN:List X->List T->Option (X×List T):=yK (λx=>x.lst?.bind λl=>(zM l).bind λc=>if c=[]then none else some (.v (.flt (nZ c)))) λx y=>x.int?.bind λa=>y.int?.map λb=>.v (.int (if b>a then b else a))
theorem Rj(a:List Int):∀ k,k<a.length->a.getD (argBest (λi j=>decide (a.getD i 0<a.getD j 0)) k) 0=(a.tail.take k).foldl (λm y=>if y<m then y else m) (a.getD 0 0):=by
 intro b;induction b with
 |zero=>
  intro _;exact rfl
 |succ k c=>
  intro h;have d:=c (Nat.lt_of_succ_lt h);have e:a.tail.take (k+1)=a.tail.take k++[a.getD (k+1) 0]:=by
   have hk:k<a.tail.length:=by rw[JW];exact(Nat.lt_sub_of_add_lt h)
   rw[adl hk];simp[yi,h]
  rw[e,List.foldl_append,<- d];show a.getD (if decide (a.getD (k+1) 0<a.getD (argBest (λi j=>decide (a.getD i 0<a.getD j 0)) k) 0)=true then k+1 else argBest (λi j=>decide (a.getD i 0<a.getD j 0)) k) 0=_;simp only[adm,List.foldl_nil,decide_eq_true_eq];by_cases q:a.getD (k+1) 0<a.getD (argBest (λi j=>decide (a.getD i 0<a.getD j 0)) k) 0
  ·rw[if_pos q,if_pos q]
  ·rw[if_neg q,if_neg q]
theorem Zu:∀ {l:List T} {b:List Int} {a:List aI},ky l=some b->bm w Z l a->b.length=a.length/\∀ {i:Nat} {v:aI},a[i]?=some v->∃ t,v=.int (b.getD i 0) t:=by
 intro c;induction c with
 |nil=>
  intro b a h r;exact⟨by refine(show a=[]from r)▸bw h▸?_;rfl,λ{i v} e=>bD (show([]:List aI)[i]?=some v from r▸e)⟩
 |cons t l d=>
  intro b a h r;revert h;refine aX λn f=>ca λg j h=>bG r λv p k h1 h2=>bn (d j h2) λm o=>?_;subst h k;refine⟨congrArg (·+1) m,λ{i q} e=>?_⟩;cases i with
  |zero=>exact bw e▸gA f h1
  |succ i=>exact o (i:=i) e
theorem Xm:∀ {l:List T} {b:List UInt64} {a:List aI},zM l=some b->bm w Z l a->b.length=a.length/\∀ {i:Nat} {v:aI},a[i]?=some v->∃ t,v=.float (b.getD i 0) t:=by
 intro c;induction c with
 |nil=>
  intro b a h r;exact⟨by refine(show a=[]from r)▸bw h▸?_;rfl,λ{i v} e=>bD (show([]:List aI)[i]?=some v from r▸e)⟩
 |cons t l d=>
  intro b a h r;revert h;refine aX λn f=>ca λg j h=>bG r λv p k h1 h2=>bn (d j h2) λm o=>?_;subst h k;refine⟨congrArg (·+1) m,λ{i q} e=>?_⟩;cases i with
  |zero=>exact bw e▸Ip f h1
  |succ i=>exact o (i:=i) e
theorem HV(H:St w F J Z O Y s){o:bK}{c:bh}{d:dz}(hk:∀ b a,b∉[s.heap.objs.size]->(s.heap.push o).get? b=some a->c.get? b=some a)(hs:s.heap.objs.size<=c.objs.size):Nx w F.nt Z s Z Y {s with heap:=c,toks:=d}:=
 H.growT (λb a e=>hk b a (λq=>by simp only[bP,dP,or_false]at q;subst q;exact absurd (cg e) (cQ _)) (cA _ e)) hs
theorem HP{f:aI}{g:X->Option X}{h:X->X->Option X}(h1:∀ {J O Y Z s n x y v},St w F J Z O Y s->RX w F J O n Z s.heap x v->g x=some y->lO w A F J Z O s f [v] y Y)
  (h2:∀ {J O Y Z s n x i y v a},St w F J Z O Y s->RX w F J O n Z s.heap x v->RX w F J O n Z s.heap i a->h x i=some y->lO w A F J Z O s f [v,a] y Y):dG w A F f (yK g h):=λJ O Y x ν' Z s n j l H _ _ r hk=>by
 cases j with
 |nil=>exact bD hk
 |cons m b=>cases b with
  |nil=>revert hk;exact ca λy e=>dU (aV (cT.one r) λv c d=>c▸h1 H d e)
  |cons o b=>cases b with
   |nil=>revert hk;exact ca λy e=>dU (bG (cT.two r) λv a c d k=>c▸h2 H d k e)
   |cons=>exact bD hk
theorem len_pos{J:Type}{l:List J}(h:¬l=[]):0<l.length:=List.length_pos_iff.mpr h
theorem yY(C:A.handled=none):dG w A F (.builtin "min") lZ:=HP (λ{J O Y Z s n x y v} H r=>aX λl k=>aX λf m=>Bv λg e Q E o=>by
  obtain rfl:=bw e;refine bG (RX.lst H.on r k) λa G p L M=>?_;subst p;refine e9 (call_min_walk (JU L λI N st q z=>?_));subst N;refine bn (Zu m M) λP K=>?_;have d:0<f.length:=len_pos g;have h:G.toArray.size=f.length:=P.symm;refine(Hw _ _ _ _ _ _ _ ⟨rfl,(JV (A:=A.in1) C _ a z G.toArray),st,q,(by refine h▸?_;exact d),CmpOf.ints_lt (λi=>f.getD i 0) (λi v R=>K (im.symm.trans R)),(λv V X hP hk c=>?_)⟩);refine aU (K ((im).symm.trans hP)) λt B=>?_;subst B;refine o _ _ _ (HV H hk c) ⟨t,?_⟩;rw[h,Rj f _ (HG d),uw (by rw[JW];exact E2)];cases f with
  |nil=>exact absurd rfl g
  |cons y r=>rfl)
 λ{J O Y Z s n x x2 y v v2} H r1 r2=>aX λa k=>ca λb m e Q E o=>by
  refine aU (j4 k r1) λt B=>aU (j4 m r2) λu p=>?_;subst B p e;refine e9 (min_two_ints C λV X hk c=>o _ _ _ (H.growT hk c) ?_);by_cases j:b<a
  ·refine if_pos j▸if_pos j▸?_;exact kz
  ·refine if_neg j▸if_neg j▸?_;exact kz
theorem vA(K:A.handled=none):dG w A F (.builtin "max") mN:=HP (λ{J O Y Z s n x y v} H r=>aX λl p=>aX λf q=>Bv λz e Q E B=>by
  obtain rfl:=bw e;refine bG (RX.lst H.on r p) λa L g P R=>?_;subst g;refine e9 (call_max_walk (JU P λM V st C G=>?_));subst V;refine bn (Xm q R) λX I=>?_;have d:0<f.length:=len_pos z;have k:L.toArray.size=f.length:=X.symm;refine(Hw _ _ _ _ _ _ (λi j=>adn (f.getD i 0) (f.getD j 0)) ⟨rfl,(JV (A:=A.in1) K _ a G L.toArray),st,C,(by refine k▸?_;exact d),(λi j vi vj s Q E hi hj h=>?_),(λv h' tk hP hk c=>?_)⟩)
  ·refine aU (I ((im).symm.trans hi)) λt m=>aU (I ((im).symm.trans hj)) λu g=>?_;subst m g;exact acU (by rw[PySem.Flt.cmp_gt];exact h)
  ·refine aU (I ((im).symm.trans hP)) λt m=>?_;subst m;refine B _ _ _ (HV H hk c) ⟨t,?_⟩;refine k▸?_;have N:=PySem.Flt.argBest_bits adn f (f.length-1) (HG d);rw[uw (by rw[JW];exact E2)]at N;refine N▸?_;rfl)
 λ{J O Y Z s n x x2 y v v2} H r1 r2=>aX λa p=>ca λb q e Q E B=>by
  refine aU (j4 p r1) λt m=>aU (j4 q r2) λu g=>?_;subst m g e;refine e9 (max_two_ints K λh' tk hk c=>B _ _ _ (H.growT hk c) ?_);by_cases o:b>a
  ·refine if_pos o▸if_pos o▸?_;exact kz
  ·refine if_neg o▸if_neg o▸?_;exact kz
noncomputable def m7(x:X):Option X:=x.int?.bind λi=>if i.natAbs<2^64 then some (.v (.str (aK (toString i))))else none
noncomputable def GZ(x:X):Option X:=x.tup?.bind λl=>if l.length<=1000000 then some (.fr l)else none
noncomputable def sL(x:X):Option X:=x.lst?.bind λl=>if l.length<=1000000 then some (.v (.tup l))else none
noncomputable def BE(x:X):Option X:=x.dct?.bind λl=>if l.length<=1000000 then some (.frd l)else none
theorem Ek:dG w A F (.type "str") (cD m7):=kK λ{J O Y Z s n x y v} H h1 h2 r=>aX λi a=>cb λhi e Q E b=>by
 obtain rfl:=bw e;refine aU (j4 a r) λt c=>?_;subst c;refine PySem.P.str_of_int ?_ (b _ _ _ (H.tok _) oV);by_cases h0:i.natAbs=0
 ·rw[h0];decide
 ·exact tY ((Nat.log2_lt h0).mpr hi) (by decide)
theorem SD:dG w A F (.type "list") (cD GZ):=kK λ{J O Y Z s n x y v} H h1 h2 r=>aX λl d=>cb λf e Q E g=>by
 obtain rfl:=bw e;refine bG (RX.tup H.on r d) λa h i j c=>ls j λo m hc k hd=>?_;subst i;refine e9 (call_list_seq a (.inr rfl) m hc hd (λq p hk hD b=>?_) (by rw[eY,bm.length c];exact bg f (by decide)));exact g _ _ _ (H.growT hk b) (jG _ h rfl (cu _) ((dL H (cu _)).1) ((dL H (cu _)).2) ⟨p,hD⟩ c)
theorem W7 {Q:List aI->aL->Prop} {E:aI->aL->Prop} (c:aJ) {T:String} {o:bK} {items:Array aI} {n:Nat} (hT:T="list"\/T="tuple") (e:s.heap.get? c=some o) (hc:o.cls=.type T) (hd:o.data=.seq items n)
  (f:∀ a,(∀ b d,s.heap.get? b=some d->a.get? b=some d)->s.heap.objs.size<=a.objs.size->Q items.toList {s with heap:=a}) (hsz:items.size<=kF):bc (model pw w) A (collect (.ref c)) Q E s:=
 e9 (wpAny_collect_seq c hT e hc hd (λa hk hs=>f a hk hs) hsz)
open AutoSeq1 (wpAny_loadPart') in
theorem ac4{l:aJ}{items:Array aI}{Q:aI->aL->Prop}{E:aI->aL->Prop}(m:s.heap.IsList l items)(c:items.size<=kF)
  (h:∀ a:bh,(∀ b f,s.heap.get? b=some f->a.get? b=some f)->s.heap.objs.size<=a.objs.size->Q (.ref a.objs.size) {s with heap:=a.push {cls:=.type "tuple",data:=.seq items}}) :
  bc (model pw w) A (call (.type "tuple") [.ref l]) Q E s:=by
 refine aQ λi=>ls m λo j hc n hd=>?_;clear m;refine i ?_;refine JX (s:=s) PySem.F.called_tuple rfl (PySem.F.typeCall_tuple_1 _) (PySem.F.newCall_tuple_1 _) (λobj=>PySem.F.args_object_init_2 obj _) PySem.F.entry_tuple_new (S:=λr R D=>D.heap=s.heap/\(∀ a:bh,(∀ b f,s.heap.get? b=some f->a.get? b=some f)->s.heap.objs.size<=a.objs.size->R (.ok (.ret (.ref a.objs.size))) {D with heap:=a.push {cls:=.type "tuple",data:=.seq items}}))
  (.of_wp λr R D h=>?_) ⟨rfl,λa hk hs=>⟨(aS _ (dx _ rfl) rfl),h a hk hs⟩⟩
 refine aQ λi=>?_;obtain⟨t,g,d,p,os⟩:=D;refine bn h λhs h=>i ?_;replace hs:t=s.heap:=hs;subst hs;have q:=sub_tuple_self;have k:=init_tuple_lookup;have u:=madeHere_tuple;have hT:Shared.TypeIs ⟨s.heap,g,d,p,os⟩ (.ref l) "list":=(aS o j hc)
 wp_walk using wpAny_loadPart' j,wpAny_typeOf hT,W7 (s:=⟨s.heap,g,d,p,os⟩) (hsz:=c) l (.inl rfl) j hc hd
 intro a hk hs;show bc _ _ (JY items.toList.toArray >>= λv=>ret v) _ _ _;unfold JY;refine ba (ux ?_ (by show items.toList.toArray.size<=kF;simpa using c));refine cm (aS _ rfl ?_);have e:items.toList.toArray=items:=by simp
 rw[e];exact h a hk hs
theorem Z7:dG w A F (.type "tuple") (cD sL):=kK λ{J O Y Z s n x y v} H h1 h2 r=>aX λl h=>cb λi e Q E j=>by
 obtain rfl:=bw e;refine bG (RX.lst H.on r h) λa c k m d=>?_;subst k;refine ac4 m (by rw[eY,bm.length d];exact bg i (by decide)) λf hk b=>?_;have N:Nx w F.nt Z s Z Y {s with heap:=f}:=H.growT hk b;have o:=N.push {cls:=.type "tuple",data:=.seq c.toArray};have g:Z f.objs.size=none:=(dL H b).1;exact j _ _ _ (o.put b g (dL H b).2) (fy _ _ c rfl (gM.trans (dx _ rfl)) ⟨rfl,0,rfl⟩ (bm.mono (gc g) _ d))
theorem P9:dG w A F (.type "dict") (cD BE):=kK λ{J O Y Z s n x y v} H h1 h2 r=>aX λl h=>cb λi e Q E j=>by
 obtain rfl:=bw e;refine bG (RX.dct H.on r h) λa c k hd g=>?_;subst k;refine e9 (kt_call_dict (si H hd) hd (by rw[bY.len g];exact bg i (by decide)) λm d hs f=>j _ _ _ (H.growT (tk:=s.toks) (λb o e=>hs.extBut b o (dW (cg e)) (cA _ e)) f) (jG _ c rfl (cu _) ((dL H (cu _)).1) ((dL H (cu _)).2) d g))
noncomputable def rangeT(n:Nat):List T:=(aO n).map λ(j:Nat)=>T.int (j:Int)
noncomputable def BF(f:aP):aP:=λO Y=>(f O Y).bind λa=>a.1.t?.bind λt=>t.int?.bind λn=>if n.natAbs<=1000000 then some (.fr (rangeT n.toNat),a.2)else none
theorem Ea:∀ (n:Nat) (f:Nat->Int) (a:List aI),a.length=n->(∀ i v,a[i]?=some v->∃ t,v=Jp (f i) t)->bm w Z ((aO n).map λj=>T.int (f j)) a:=by
 intro c;induction c with
 |zero=>
  intro f d;cases d with
  |nil=>
   intro b h;exact rfl
  |cons v a=>
   intro b h;exact nomatch b
 |succ n e=>
  intro f g;cases g with
  |nil=>
   intro b h;exact nomatch b
  |cons v a=>
   intro b h;rw[ado,cB,il];exact(cE v a rfl (h 0 v rfl) (e (λj=>f (j+1)) a (yg b) λi v k=>h (i+1) v k))
theorem abZ (B:A.handled=none) {p q pos d:br} {e:Expr} {f:aP} (C:F.env.kindOf (aK "list")=some .globalImplicit) (l:F.env.kindOf (aK "range")=some .globalImplicit) (u:dQ e=true) (h:bu w A F e f) :
  bu w A F (.Call (.Name (aK "list") q) [.Call (.Name (aK "range") p) [e] [] pos] [] d) (BF f):=λJ O Y x ν' Z s H=>bJ λx G I=>aX λt0 K=>aX λn L=>cb λk=>g8 λQ E M=>by
  refine gN rfl (ia H C (v:=.type "list") rfl ?_ rfl);refine kb (lF ?_ (eG rfl)) (eG rfl) rfl;refine gN rfl (ia H l (v:=.type "range") rfl ?_ rfl);refine kb (gp.one H ((h H I).frz K) u _ _ λvs N c P R=>?_) (eG u) rfl;refine aV (cT.one R) λv V X=>aU (gA L X) λy y1=>?_;subst V y1;refine JL (nW ?_);have z:=(P.push {cls:=.type "range",data:=.fields #[.int 0 c.toks,.int n y,.int 1 (c.toks+1)]});have m:Nx w F.nt Z s N G {c with heap:=c.heap.push {cls:=.type "range",data:=.fields #[.int 0 c.toks,.int n y,.int 1 (c.toks+1)]},toks:=c.toks+1+1}:=z.trans ((H.next z).tok _);have o:=H.next m;refine e9 (call_list_range B (CP ..) (vv (by decide) (by decide) (BX k) (qq k) (by rw[uq];exact qq k)) (w8.trans (by rw[uq])) (bg (Nv k) (by decide)) λh' r a c' hk hD b g=>?_);have N4:=m.trans (o.growT (tk:=r) hk g);refine M _ _ _ N4 (jG _ a.toList rfl m.size ((dL o (cu _)).1) ((dL o (cu _)).2) ⟨c',by simpa using hD⟩ (Ea n.toNat (λj=>(j:Int)) a.toList (by simpa using b.1) λi v hv=>aU (b.2 i v (by simpa using hv)) λt e=>⟨t,by rw[e];congr 1;exact UM⟩))
noncomputable def kj(f g:aP):aP:=λO Y=>(f O Y).bind λa=>(g O a.2).bind λb=>a.1.tup?.bind λl=>b.1.t?.bind λt=>t.int?.bind λk=>if 1<=k/\k<l.length/\l.length<=1000000 then some (.v (.tup (l.take k.toNat)),b.2)else none
noncomputable def nw(f g:aP):aP:=λO Y=>(f O Y).bind λa=>(g O a.2).bind λb=>a.1.t?.bind λt=>t.int?.bind λk=>b.1.t?.map λt=>(.frd [(k,t)],b.2)
theorem Uh{d:aJ}{b n:Nat}{u:dz}{Q:Int×Int×Nat->aL->Prop}{E:aI->aL->Prop}(hs:s.heap.IsSliceOf d .none (.int b u) .none)(e:b<=n)(h:Q (0,1,b) s):
  bc (model pw w) A (adp (.ref d) (pure (n:Int))) Q E s:=by
 refine aQ λf=>ej hs λos a _ c=>?_;clear hs;refine f ?_;have g:JZ none (some (b:Int)) 1 (n:Int)=(0,(b:Int)):=by
  unfold JZ;have h1:¬((1:Int)<0):=by lia
  have h2:¬((b:Int)<0):=vV;simp only[h1,h2,if_false];congr 1;exact Yz e
 have i:CU 0 (b:Int) 1=b:=by
  unfold CU;simp only[show(1:Int)>0 by lia,if_true,Int.ediv_one];split<;>lia
 unfold adp Builtin.Slice.sliceFields;refine ba (ba (jw a c (x:=.none) rfl (ba (jw a c (x:=.int b u) rfl (ba (jw a c (x:=.none) rfl (cm (ba (slicePart_none ?_)))))))));show bc _ _ (if ((1:Int)==0)=true then _ else _) _ _ s;rw[if_neg (by decide)];refine ba (slicePart_none (ba (slicePart_int (ba (cm ?_)))));show bc _ _ (match JZ none (some (b:Int)) 1 (n:Int)with|(lo,hi)=>pure (lo,(1:Int),CU lo hi 1)) _ _ s;rw[g];show bc _ _ (pure ((0:Int),(1:Int),CU 0 (b:Int) 1)) _ _ s;rw[i];exact cm h
theorem aar(a:List aI)(b:Nat):((aO b).filterMap λ(k:Nat)=>a.toArray[((0:Int)+(k:Int)*1).toNat]?)=a.take b:=by
 have e:(λ(k:Nat)=>a.toArray[((0:Int)+(k:Int)*1).toNat]?)=λk=>a.toArray[0+k]?:=by
  funext k;have:((0:Int)+(k:Int)*1).toNat=0+k:=Pr;rw[this]
 rw[e];have:=pick_run a.toArray 0 b;rw[List.filterMap_map]at this;have c:((λx=>a.toArray[x]?)∘λx=>0+x)=λk=>a.toArray[0+k]?:=rfl;rw[c]at this;rw[this];simp
theorem abF{t e:aJ}{a:List aI}{b:Nat}{u:dz}{Q:aI->aL->Prop}{E:aI->aL->Prop}(d:IsTup s.heap t a.toArray)(hs:s.heap.IsSliceOf e .none (.int b u) .none)(j:b<a.length)(k:a.length<=kF)
  (h:Q (.ref s.heap.objs.size) {s with heap:=s.heap.push {cls:=.type "tuple",data:=.seq (a.take b).toArray}}):bc (model pw w) A (uc (.ref t) (.ref e)) Q E s:=by
 have c:sizeOk (.seq (a.take b).toArray):=by
  show(a.take b).toArray.size<=kF;rw[eY,List.length_take];exact(bg (adq _ _) k)
 have f:s.TypeIs (.ref e) "slice":=ej hs λos g i _=>aS os g i;unfold uc;refine fG (ba (wpAny_sequenceKey d.typeIs rfl (ba (us (name:=aK "__getitem__") d.typeIs Cz (rE Cz d.typeIs entry_tuple_getitem ?_ (args_tuple_getitem _ _))))));show bc _ _ (Builtin.Tuple.tupleItemsOf (.ref t) >>= _) _ _ s;refine ba (tupleItemsOf_ d (ba (wpAny_typeOf f ?_)));rw[if_pos (by decide)];rw[eY];refine ba (Uh hs (j8 j) ?_);show bc _ _ (if ((0:Int)==0&&(1:Int)==1&&b==a.length)=true then _ else _) _ _ s;rw[if_neg (by simp;exact(dW j)),aar];exact ba (m:=JY _) (ux (cm (aS _ rfl (cm h))) c)
theorem Ph:∀ {l:List T} {e:List aI} {n:Nat},bm w Z l e->bm w Z (l.take n) (e.take n):=by
 intro a;induction a with
 |nil=>
  intro _ b;cases b with
  |zero=>
   intro h;exact rfl
  |succ n=>
   intro h;exact congrArg (Ch (n+1)) h
 |cons t l c=>
  intro _ d;cases d with
  |zero=>
   intro h;exact rfl
  |succ n=>
   intro h;exact bG h λv g f h1 h2=>f▸(cE v _ rfl h1 (c h2))
theorem Ri{e:cz}{value:Expr}{lower upper:Option Expr}{p pos:br}{T id:String}{Q:aI->aL->Prop}{E:aI->aL->Prop}
  (j:typeLookup (.type T) "__getitem__"=pure (some (.builtin id)))
  (h:bc (model pw w) A (eval value e) (λo c=>bc (model pw w) A (eval (.Slice lower upper none p) e) (λi a=>a.TypeIs o T/\bc (model pw w) A (uc o i) Q E a) E c) E s) :
  bc (model pw w) A (eval (.Subscript value (.Slice lower upper none p) pos) e) Q E s:=by
 rw[eval_Subscript];refine ba (iM h (λo c f=>ba (fG (iM f (λi a b=>ba (gr ?_)) λ_ _ x=>x)))
  λ_ _ x=>x)
 have fin:bc (model pw w) A (operate [i,o] (uc o i)) (λr d=>bc (model pw w) A (letTemporaryGo value o r >>= λ_=>pure r) Q E d) E a:=
  wpAny_operating (iM b.2 (λr d g=>ba (wpAny_letTemporaryGo (cm g))) λ_ _ x=>x)
 first
  |refine ba ?_
   rw[getitemInPython_of_ne b.1.not_modules];refine ba (Jy b.1 j ?_);first
    |exact cm (ba fin)
    |exact ba (cm (ba fin))
    |exact ba fin
  |refine ba (Jy b.1 j ?_)
   first
    |exact ba (cm (ba fin))
    |exact ba fin
theorem AN{value hi:Expr}{p pos:br}{f g:aP}(h:bu w A F value f)(z:bu w A F hi g):
  bu w A F (.Subscript value (.Slice none (some hi) none p) pos) (kj f g):=λJ O Y x ν' Z s H=>bJ λx1 G B=>bJ λx2 C I=>aX λl K=>aX λt L=>aX λk M=>cb λhk=>g8 λQ E N=>by
  refine Ri (T:="tuple") Cz.lookup (h H B _ _ λv1 Z1 s1 c P=>wpAny_Slice ?_);rw[evalPart_none];refine cm ?_;rw[evalPart_some];refine(z (H.next c) I).frz L _ _ λv2 Z2 s2 d R=>cm (aU (gA M R) λu e=>?_);subst e;have n:=H.next c;have o:=n.next d;have i:=(c.trans d).push {cls:=.type "slice",data:=.fields #[.none,.int k u,.none]};have m:=H.next i;refine bG (RX.tup m.on (RX.next H.sz o (RX.next H.sz n P d) (o.nx.push {cls:=.type "slice",data:=.fields #[.none,.int k u,.none]})) K) λa q V hT r=>?_;subst V;have v:=bm.length r;refine⟨hT.typeIs,?_⟩;refine aU (yh (show 0<=k by exact aax hk)) λj e=>?_;subst e;refine abF (b:=j) hT (Heap.IsSliceOf.new ..) (Sa v hk) (by rw[v];exact bg hk.2.2 (by decide)) ?_;have X:=i.push {cls:=.type "tuple",data:=.seq (q.take j).toArray};have y:=(dL m (cu _)).1;exact N _ _ _ (X.put i.size y (dL m (cu _)).2) (fy _ _ (q.take j) rfl (gM.trans (dx _ rfl)) ⟨rfl,0,rfl⟩ (bm.mono (gc y) _ (Ph r)))
theorem B5{k v:Expr}{pos:br}{f g:aP}(I:bu w A F k f)(K:bu w A F v g):bu w A F (.Dict [some k] [v] pos) (nw f g):=λJ O Y x ν' Z s H=>bJ λx1 G L=>bJ λx2 c M=>aX λt0 P=>aX λn R=>ca λt V=>dU λQ E X=>by
  have u:=H.nx.push {cls:=.type "dict",data:=.dict #[]};have y:=H.next u;refine wpAny_Dict_pairs (knd:=ik w) (pairs:=[(eval k F.env,do let x <- eval v F.env;gJ pos;pure x)]) rfl (by simp) (by simp) ?_;unfold Cp;refine ba ((I y L).frz P _ _ λv1 Z1 s1 i r1=>?_);have z:=y.next i;refine ba (fG (ba ((K z M).frz V _ _ λm j a l r2=>ba (gr (cm ?_)))));have B:=z.next l;unfold Cp;refine ba (fG (cm (cm (aU (gA R r1) λtk y1=>?_))));subst y1;have hD:=dL H (b:=s.heap.objs.size) (cu _);have p:¬Mu F.nt s.heap.objs.size:=by
   rintro (q|q)
   ·exact hD.2 q
   ·have:=H.sz;rw[q]at this;exact absurd this (by decide)
  have r:s.heap.objs.size<(s.heap.push {cls:=.type "dict",data:=.dict #[]}).objs.size:=by rw[eQ];exact o7 _
  have keep:∀ o,(s.heap.push {cls:=.type "dict",data:=.dict #[]}).get? s.heap.objs.size=some o->a.heap.get? s.heap.objs.size=some o:=λo e=>(i.trans l).ext _ o p e;refine(cI [(n,m)] ?_ (xh (Heap.DictOf.new s.heap) keep) (λC hd hs=>?_))
  ·exact⟨ng,rfl,trivial⟩
  ·have d:j s.heap.objs.size=none:=((i.trans l).new _ r).trans hD.1;have N3:cY w F.nt [s.heap.objs.size] j a j c {a with heap:=C,toks:=a.toks+1}:=by
    refine eI B.nts B.on (λb h=>?_) (λb o h e=>hs.extBut b o (λq=>h (by simp[q])) e) (gV hs.1.symm);exact in1 h▸⟨d,H.sz,hD.2⟩
   have N:Nx w F.nt Z s j c {a with heap:=C,toks:=a.toks+1}:=(((u.trans (i.trans l)).toW _).trans N3).nx λb h=>gV (in1 h).symm;exact X _ _ _ N (dA _ [(n,m)] ⟨rfl,cu _,d,hD.2,hd,(cE m [] rfl r2 rfl)⟩)
noncomputable def iv(bind:T->List S->Option (List S))(c:dc)(step:List S->List T->S->Option (S×List T)):List T->List S->List T->S->Option (S×List T)
 |[],_,Y,a=>some (a,Y)
 |t::d,O,Y,a=>(bind t O).bind λU=>(c U Y).bind λb=>if b.1 then(step U b.2 a).bind λr=>iv bind c step d U r.2 r.1
   else iv bind c step d U b.2 a
mutual
noncomputable def PT.idx:PT->List Nat
 |.nm i=>[i]
 |.tp l=>PT.idxs l
noncomputable def PT.idxs:List PT->List Nat
 |[]=>[]
 |p::a=>p.idx++PT.idxs a
end
mutual
theorem yz{a:List Nat}:∀ {p:PT} {t:T} {O U:List S},bU a p t O=some U->∀ k,k∉p.idx->U[k]?=O[k]?
 |.nm i,t,O,U=>cb λ_ h k hk=>bw h▸ed λq=>hk (jd.mpr q.symm)
 |.tp b,t,O,U=>aX λc _ h k hk=>FF h k hk
theorem FF{c:List Nat}:∀ {a:List PT} {b:List T} {O U:List S},kr c a b O=some U->∀ k,k∉PT.idxs a->U[k]?=O[k]?
 |[],b,O,U=>cb λ_ h k _=>bw h▸rfl
 |p::a,b,O,U=>aX λt _=>aX λI h1 h2 k hk=>(FF h2 k λq=>hk (J1 _ q)).trans (yz h1 k λq=>hk (J2 _ q))
end
structure jV (w:aZ) (F:Fx) (J:Nat->aJ) (O:List S) (D0:aJ) (a:S) (Z:Fz) (h:bh):Prop where
 z:Z D0=none
 at_:dY w F.nt Z h D0 a (.ref D0)
 ho:a.isOwn
 nt:F.nt≠some D0
 lo:171<=D0
 ap:Ap F J O D0
theorem jV.mu{b:aJ}{a:S}{h:bh}(x:jV w F J O b a Z h):¬Mu F.nt b:=by
 rintro (h|h)
 ·exact x.nt h
 ·have:=x.lo;rw[h]at this;exact absurd this (by decide)
theorem dY.lt{c:aJ}{a:S}{h:bh}{v:aI}(x:dY w nt Z h c a v)(d:a.isOwn):c<h.objs.size:=by
 cases a with
 |own l=>refine eo x λ_ e b _=>?_;clear x;exact jo b
 |ownd l=>refine eo x λ_ e b _=>?_;clear x;exact tl b
 |_=>exact d.elim
theorem jV.next{b:aJ}{a:S}(x:jV w F J O b a Z s.heap)(N:cY w F.nt W Z s Z' ν' D)(hD:b∉W)(hs:gB U O):jV w F J U b a Z' D.heap:=
 ⟨(N.new b (x.at_.lt x.ho)).trans x.z,x.at_.ext N.le λ_ o=>N.ext b o x.mu hD,x.ho,x.nt,x.lo,x.ap.sub hs⟩
def qC(w:aZ)(A:bx)(F:Fx)(J:Nat->aJ)(b:aI->cz->bA Unit)(step:List S->List T->S->Option (S×List T)):Prop:=
 ∀ ⦃O Y a d ν' Z s c⦄,St w F J Z O Y s->jV w F J O c a Z s.heap->step O Y a=some (d,ν')->∀ (Q:Unit->aL->Prop) (E:aI->aL->Prop),
  (∀ Z' D,cY w F.nt (c::F.fa) Z s Z' ν' D->St w F J Z' O ν' D->jV w F J O c d Z' D.heap->Q () D)->bc (model pw w) A (b (.ref c) F.env) Q E s
structure ov (w:aZ) (A:bx) (e:Expr) (depth:Nat) (target iter:Expr) (ifs:List Expr) (emit:aI->cz->bA Unit):Prop where
 turn:∀ it acc env,compTurn e depth it acc env=(do
   gJ iter.pos
   match <- mE it with
   |none=>pure (.done .next)
   |some v=>
    xY target it v
    iN target env v
    let mut ok:=true
    for c in ifs do
     if ok then ok <- isTrue c env (eval c env)
    if ok then emit acc env
    again (.compLoop e depth it acc env))
 den:∀ it acc env,(model pw w).den (.compLoop e depth it acc env)=(compTurn e depth it acc env).onRaise (λx=>do CG x env;JI x)
 und:∀ it acc env,A.under (.compLoop e depth it acc env)=A
 qt:∀ it acc env,(Code.compLoop e depth it acc env).quiet=true
theorem FO(hh:A.handled=none){tg:Bool}{I0 l:aJ}{items:List T}{P:Nat->Fz->bh->Prop}{ad:Nat->aI->Fz->bh->Prop}(z:It w A F.nt tg I0 fp W items P ad){e target iter:Expr}{a0:List Expr}{n:Nat}{p:PT}{B:dc}
  {step:List S->List T->S->Option (S×List T)} {C:aI->cz->bA Unit} (E:ov w A e n target iter a0 C)
  (ae:tg=true->i4 target=true) (M:gP F.nm p target=true) (hT:kQ w A F J a0 B) (hE:qC w A F J C step) (af:∀ b∈F.fa,b∉fp) (ag:∀ b∈fp,¬Mu F.nt b) (hD:l∉fp) (hW:∀ b∈W,Ap F J σ0 b) {R:o0->aL->Prop} :
  ∀ (Q:List T) (i:Nat) (Z:Fz) (O:List S) (Y:List T) (s:aL) (a a':S) (ν':List T),items.drop i=Q->P i Z s.heap->St w F J Z O Y s->gB O σ0->jV w F J O l a Z s.heap->
   iv (bU F.wr p) B step Q O Y a=some (a',ν')->
   (∀ Z' U D,cY w F.nt (l::(W++F.fa)) Z s Z' ν' D->St w F J Z' U ν' D->(gB U O/\∀ k,k∉p.idx->U[k]?=O[k]?)->jV w F J U l a' Z' D.heap->R (.ok .next) D)->
   mG (model pw w) A (.compLoop e n (.ref I0) (.ref l) F.env) R s:=by
 have X:∀ b∈W,b∈l::(W++F.fa):=λb c=>.tail _ (J2 _ c);have a6:∀ b∈F.fa,b∈l::(W++F.fa):=λb c=>.tail _ (J1 _ c);have ah:∀ b∈l::F.fa,b∈l::(W++F.fa):=λb c=>by
  rcases bP.mp c with rfl|c
  ·exact .head _
  ·exact a6 b c
 have DW:l∉W:=λq=>hD (z.sub l q);intro Q;induction Q with
 |nil=>
  intro i Z O Y s a a' ν' d hP H h y f hR;obtain⟨rfl,rfl⟩:=x9 (bw f);refine yc ?_;rw[E.den,E.und];refine CH ?_;rw[E.turn];refine ba (gr (ba (z.done i Z s Y _ _ (by have:=congrArg j9 d;simp at this;exact lG (Dg this)) hP H.on H.nts λs1 N1=>?_)));exact cm (hR Z O s1 (N1.mono X) (H.nextW N1 λb c=>(hW b c).sub h) ⟨.refl _,λ_ _=>rfl⟩ (y.next N1 DW (.refl _)))
 |cons t Q ih=>
  intro i Z O Y s a a' ν' d hP H h y f hR;have ar:i<items.length:=by
   have:=congrArg j9 d;simp only[yd,cK]at this;exact EN this
  have ai:items[i]?=some t:=by
   have:(items.drop i)[0]?=some t:=by rw[d];rfl
   simpa using this
  have m:items.drop (i+1)=Q:=by
   have:(items.drop i).drop 1=Q:=by rw[d];rfl
   rwa [List.drop_drop]at this
  revert f;refine aX λI c=>?_;refine bJ λb G a7 f=>yc ?_;rw[E.den,E.und];refine CH ?_;rw[E.turn];refine ba (gr (ba (z.item i t Z s Y _ _ ai hP H.on H.nts λv Z1 s1 N1 r1 aj=>?_)));have H1:=H.nextW N1 λb c=>(hW b c).sub h;refine ba (z.go target i v Z1 s1 Y _ _ ae aj H1.on H1.nts λs2 N2 ak=>?_);have H2:=H1.nextW N2 λb c=>(hW b c).sub h;refine ba (wD hh p M H2 (Rd.mono N2.le t r1) c λs3 N3 H3=>?_);have g:gB I O:=tE c;have wk:∀ {K L:Fz} {sa sb:aL} {r:List T} {V:List aJ},(∀ j,P j K sa.heap->cY w F.nt V K sa L r sb->fc F.nt L W):=λ{K L sa sb r V} j M N b c=>by
   exact bO (z.ok _ _ _ M b c) λa1 a2 a3=>⟨(N.new b (z.lt _ _ _ M b (z.sub b c))).trans a1,a2,a3⟩
  have fr:∀ {K L:Fz} {sa sb:aL} {r:List T} {V:List aJ},(∀ b∈fp,b∉V)->∀ j,P j K sa.heap->cY w F.nt V K sa L r sb->P j L sb.heap:=λ{K L sa sb r V} hV j M N=>
   z.frame j K L _ _ M N.le (wk j M N) λb c o e=>N.ext b o (ag b c) (hV b c) e
  have a8:∀ b∈fp,b∉F.fa:=λb c q=>af b q c;have al:∀ b∈fp,b∉l::F.fa:=λb c q=>by
   rcases bP.mp q with rfl|q
   ·exact hD c
   ·exact a8 b c q
  have DF:l∉F.fa:=y.ap.fa;have an:=fr a8 _ ak N3;have a1:=y.next N1 DW (.refl _);have a2:=a1.next N2 DW (.refl _);have a3:=a2.next N3 DF g;refine ba (hT H3 a7 _ _ λZ4 s4 N4=>?_);have H4:=H3.next N4;have a9:=fr (V:=[]) (λ_ _ q=>by cases q) _ an (N4.toW []);have a4:=a3.next (N4.toW []) (λq=>by cases q) (.refl _);have aa:cY w F.nt (l::(W++F.fa)) Z s Z4 G s4:=(((N1.mono X).trans (N2.mono X)).trans (N3.mono a6)).trans (N4.toW _);have u:gB I σ0:=g.trans h;cases b with
  |false=>
   rw[if_neg nofun]at f;refine cm ⟨E.qt _ _ _,ih (i+1) Z4 I G s4 a a' ν' m a9 H4 u a4 f λZ' U D N' H' o' x=>hR Z' U D (aa.trans N') H' ⟨o'.1.trans g,λk hk=>(o'.2 k hk).trans (yz c k hk)⟩ x⟩
  |true=>
   rw[if_pos rfl]at f;revert f;refine bJ λa5 ao hx f=>?_;refine ba (hE H4 a4 hx _ _ λZ5 s5 N5 H5 ab=>?_);have aq:=fr al _ a9 N5;refine cm ⟨E.qt _ _ _,ih (i+1) Z5 I ao s5 a5 a' ν' m aq H5 u ab f λZ' U D N' H' o' x=>?_⟩;exact hR Z' U D ((aa.trans (N5.mono ah)).trans N') H' ⟨o'.1.trans g,λk hk=>(o'.2 k hk).trans (yz c k hk)⟩ x
noncomputable def cF(f:aP):List S->List T->S->Option (S×List T):=λO Y a=>a.ownl?.bind λl=>(f O Y).bind λx=>x.1.t?.bind λt=>if l.length<=1000000 then some (.own (l++[t]),x.2)else none
noncomputable def h9(b c:aP):List S->List T->S->Option (S×List T):=λO Y a=>a.ownd?.bind λl=>(b O Y).bind λx=>x.1.t?.bind λt=>t.int?.bind λk=>(c O x.2).bind λy=>y.1.t?.bind λt=>if l.length<=1000000 then some (.ownd (l9 l k t),y.2)else none
theorem Dy{c:aJ}{a a':S}(H:St w F J Z O Y s)(x:jV w F J O c a Z s.heap){d:bh}{tk:dz}(hs:gZ c s.heap d)(f:a'.isOwn)(g:dY w F.nt Z d c a' (.ref c)):
  cY w F.nt (c::F.fa) Z s Z Y {s with heap:=d,toks:=tk}/\St w F J Z O Y {s with heap:=d,toks:=tk}/\jV w F J O c a' Z d:=by
 have hw:fc F.nt Z [c]:=λb e=>in1 e▸⟨x.z,x.lo,x.nt⟩;have N:cY w F.nt [c] Z s Z Y {s with heap:=d,toks:=tk}:=eI H.nts H.on hw (z0 hs.extBut) (gV hs.1.symm);exact⟨N.mono λb e=>in1 e▸.head _,H.nextW N λb e=>in1 e▸x.ap,⟨x.z,g,f,x.nt,x.lo,x.ap⟩⟩
theorem Ae{b:Expr}{f:aP}(h:bu w A F b f):qC w A F J (λc d=>do let _ <- call (.builtin "list.append") [c,<- eval b d]) (cF f):=λO Y a N ν' Z s P H x=>aX λl m=>bJ λy G n=>aX λt o=>cb λp q Q E r=>by
  cases q
  obtain rfl:=S.ownl_eq m;refine ba ((h H n).frz o _ _ λv u z e B=>?_);have C:=H.next e;have j:=x.next (e.toW []) nofun (.refl _);refine eo (id j.at_) λ_ I g k=>ba (JR g (λR i hs=>?_) (by refine eY▸bm.length k▸?_;exact bg p (by decide)));exact bO (Dy (tk:=z.toks) (a':=.own (l++[t])) C j hs trivial (fu rfl (I++[v]) (by simpa using i) (bm.app k (cE v [] rfl B rfl)))) λK L M=>cm (r u _ ((e.toW _).trans K) L M)
theorem GT{k v:Expr}{i j:aP}(hk:bu w A F k i)(q:bu w A F v j):qC w A F J (λe b=>do
    let f <- eval k b;let m <- js [f] (eval v b);match e with
    |.ref d=>do
     gJ {k.pos with endLine:=v.pos.endLine,endCol:=v.pos.endCol}
     js [f,m] (t8 d f m)
    |_=>unsupported "internal:dictcomp") (h9 i j):=λO Y a a' ν' Z s D0 H x=>aX λl r=>bJ λy G u=>aX λt0 z=>aX λn B=>bJ λy2 C I=>aX λt K=>cb λL M Q E N=>by
   cases M
   obtain rfl:=S.ownd_eq r;refine ba ((hk H u).frz z _ _ λv1 Z1 s1 c P=>ba (fG ((q (H.next c) I).frz K _ _ λv2 R V g X=>?_)));have H2:=(H.next c).next g;have o:=x.next ((c.trans g).toW []) nofun (.refl _);refine aU (gA B P) λtk y1=>?_;subst y1;refine eo (id o.at_) λ_ a0 hd p=>ba (gr (fG (wpAny_dictSet_pairs (knd:=ik w) (k:=n) ng hd (λh' h hs=>?_) (by refine bY.len p▸?_;exact bg L (by decide)))));exact bO (Dy (tk:=V.toks+1) (a':=.ownd (l9 l n t)) H2 o hs trivial (fu rfl _ h (bY.stored X p))) λN3 H3 x3=>N R _ (((c.trans g).toW _).trans N3) H3 x3
structure wK (w:aZ) (F:Fx) (n:Nat) (D0:aJ) (a:S) (Z:Fz) (h:bh):Prop where
 z:Z D0=none
 at_:dY w F.nt Z h D0 a (.ref D0)
 ho:a.isOwn
 nt:F.nt≠some D0
 lo:n<=D0
structure wN (w:aZ) (A:bx) (e:Expr) (o:bK) (a0:S) (newAcc:bA aI):Prop where
 new:∀ (s:aL) (Q:aI->aL->Prop) (E:aI->aL->Prop),Q (.ref s.heap.objs.size) {s with heap:=s.heap.push o}->bc (model pw w) A newAcc Q E s
 ok:∀ (nt:Option aJ) (Z:Fz) (h:bh) (D0:aJ),h.get? D0=some o->dY w nt Z h D0 a0 (.ref D0)
 ho:a0.isOwn
 fr:o.isFreed=false
 start:∀ (it acc:aI) (env:cz) (R:o0->aL->Prop) (s:aL),mG (model pw w) A (.compLoop e 0 it acc env) R s->bc (model pw w) A (jP it) (λit' D=>mG (model pw w) A (.compLoop e 0 it' acc env) R D) (notedBy (model pw w) A env λx D=>R (.error x) D) s->
  mG (model pw w) A (.compStart e 0 it acc env) R s
theorem TA(hh:A.handled=none)(H:St w F J Z O Y s){e target iter:Expr}{N:List Expr}{gs:List CV}{a:Scope}{pos:br}{p:PT}{K:dc}{step:List S->List T->S->Option (S×List T)}{L:aI->cz->bA Unit}{tg:Bool}{ow:Option Nat}{items:List T}
  {G u:List T} {d:List (Option Str)} {f:List Nat} {o:bK} {a0 a':S} {j:bA aI} (y:clausesOf e=⟨target,iter,N,0⟩::gs) (CI:wN w A e o a0 j) (TI:ov w A e 0 target iter N L)
  (hs:mw F.env.scope a F.nm d f) (aa:∀ i∈f,∀ x,d[i]?=some (some x)->O[i]?=some .no) (hI:Ei w A F J Z O s iter tg ow items G) (a6:jW iter=true)
  (ab:tg=true->i4 target=true) (hp:gP d p target=true) (hT:∀ n,kQ w A (eL F a d f n) J N K) (hE:∀ n,qC w A (eL F a d f n) J L step)
  (ad:iv (bU f p) K step items O G a0=some (a',u))
  (R:Option (aI->bA Unit)) (Q:aI->aL->Prop) (E:aI->aL->Prop)
  (fin:∀ c Z4 V C,Nx w F.nt Z s Z4 u V->wK w F s.heap.objs.size c a' Z4 V.heap->Z4 C=none->s.heap.objs.size<=C->C≠c->F.nt≠some C->(∃ m,V.heap.Ns C m)->yj (model pw w) A E R Q (.ref c) C (.ok .next) V) :
  bc (model pw w) A (yk e a F.env pos j false (eval iter F.env) R) Q E s:=by
 refine wpAny_comprehension_free y (zF a6) (abr λx hx hf=>H.ok.celk x.1 ((hs.fr x hx hf).imp id id)) hs.kf (λx hx hl=>by obtain⟨n,k⟩:=x;subst hl;exact Ry hs.nd hx) (hI _ _ λI0 fp W P aj X s1 N1 IT a1 hW a7 _=>?_);have H1:=H.next N1;refine CI.new _ _ _ ?_;have N2:=N1.push o;have H2:=H.next N2;generalize l:s1.heap.objs.size=c;have a8:({s1 with heap:=s1.heap.push o}:aL).heap.objs.size=c+1:=by
  show(s1.heap.push _).objs.size=_;rw[eQ,l]
 refine Nq H2 hs aa λai h3 he hl H3 N3 y B=>?_;rw[he,hl];rw[a8]at H3 y B ⊢;have r:s.heap.objs.size<=c:=by refine l▸?_;exact N1.size
 have t:∀ b,s.heap.objs.size<=b->b<=c->Ap (eL F a d f (c+1)) J O b:=λb h1 h2=>by
  refine⟨λq=>?_,λx q=>?_,λi S e o q=>?_,bg H.low h1⟩
  ·exact absurd (bg (B b q) h2) (adr _)
  ·rcases y x b q with h|h
   ·exact absurd (bg (jN h) h2) (adr _)
   ·exact eA (H.cel x b h) λv o ho _=>absurd (ck (cg ho) h1) (cQ _)
  ·have:=(H.own i S e o).2.2.2.1;replace this:=q▸this;exact absurd (ck this h1) (cQ _)
 have a2:∀ b∈fp,b<c:=λb g=>by refine l▸?_;exact IT.lt _ _ _ a1 b g
 have a3:∀ b o,¬Mu F.nt b->s1.heap.get? b=some o->h3.get? b=some o:=λb o g e=>N3.ext b o g (cA _ e);have a9:P 0 X h3:=IT.frame 0 X X _ _ a1 (.refl _) (IT.ok _ _ _ a1) λb g o e=>a3 b o (a7 b g) e;have DZ:X c=none:=by refine l▸?_;exact N1.fresh
 have a5:F.nt≠some c:=by refine l▸?_;exact N1.freshN
 have I:171<=c:=bg H.sz r;have ae:¬Mu F.nt c:=by
  rintro (h|h)
  ·exact a5 h
  ·replace I:=h▸I;exact absurd I (by decide)
 have af:jV w (eL F a d f (c+1)) J O c a0 X h3:=
  ⟨DZ,CI.ok _ _ _ _ (N3.ext c _ ae (by refine l▸?_;exact dx _ CI.fr)),CI.ho,a5,I,t c r (cu _)⟩
 have M:mG (model pw w) A (.compLoop e 0 (.ref I0) (.ref c) (eL F a d f (c+1)).env) (yj (model pw w) A E R Q (.ref c) (c+1)) {s1 with heap:=h3}:=by
  refine FO (F:=eL F a d f (c+1)) hh IT (σ0:=O) TI ab hp (hT _) (hE _) (λb g q=>absurd (ff (B b g) (a2 b q)) (Nat.not_succ_lt_self)) a7 (λq=>cQ _ (a2 c q))
   (λb g=>t b (hW b g) (j8 (a2 b (IT.sub b g)))) items 0 X O G _ a0 a' u rfl a9 H3 (.refl _) af ad λZ4 ak V N4 H4 _ a4=>?_
  refine aQ λnG=>aV H4.vars λm4 ag _=>nG ?_;have ah:Nx w F.nt Z s Z4 u V:=by
   refine((N2.trans N3).toW (c::(W++(eL F a d f (c+1)).fa)) |>.trans N4).nx λb g=>?_;rcases bP.mp g with rfl|g
   ·exact r
   ·rcases fQ.mp g with g|g
    ·exact hW b g
    ·exact bg r (jN (B b g))
  exact fin c Z4 V (c+1) ah ⟨a4.z,a4.at_,a4.ho,a5,r⟩ (H4.fz _ (.head _)).1 (uh r) (nS (o7 _)) (λe=>H4.ok.ntf _ e (.head _)) ⟨m4,ag⟩
 exact CI.start _ _ _ _ _ M (IT.self 0 X _ _ _ a9 M)
theorem BW(H:St w F J Z O Y s){r:S}{a:List T}{x:X}{Q:aI->aL->Prop}{E:aI->aL->Prop}(B:x.own?=some r)(G:∀ v Z' D,Nx w F.nt Z s Z' a D->RX w F J O s.heap.objs.size Z' D.heap x v->Q v D):
  ∀ g c d C,Nx w F.nt Z s c a d->wK w F s.heap.objs.size g r c d.heap->c C=none->s.heap.objs.size<=C->C≠g->F.nt≠some C->(∃ m,d.heap.Ns C m)->yj (model pw w) A E none Q (.ref g) C (.ok .next) d:=by
 intro g c d C t h c1 u I K ⟨m,L⟩;refine(aS m L (λh5 i=>?_));have y:=H.next t;have M:cY w F.nt [C] c d c a {d with heap:=h5,toks:=d.toks}:=by
  refine eI y.nts y.on (λb j=>?_) (λb o j e=>i.extBut b o (λq=>j (by simp[q])) e) (gV i.1.symm);simp only[bP,dP,or_false]at j;subst j;exact⟨c1,bg H.sz u,K⟩
 have k:Nx w F.nt Z s c a {d with heap:=h5}:=((t.toW _).trans M).nx λb j=>by
  simp only[bP,dP,or_false]at j;subst j;exact u
 have f:=h.at_.ext (Le.refl c) λ_ o e=>i.extBut g o (Ne.symm I) e;refine G _ c _ k ?_;cases x<;>cases B
 ·refine eo f λ_ N l n=>?_;clear f;exact(jG g N rfl h.lo h.z h.nt l n)
 ·refine eo f λ_ p l n=>?_;clear f;exact(jG g p rfl h.lo h.z h.nt l n)
noncomputable def S.x?:S->Option X
 |.own l=>some (.fr l)
 |.ownd l=>some (.frd l)
 |_=>none
theorem S.x?_own{a:S}{x:X}(h:a.x?=some x):x.own?=some a:=by
 cases a<;>cases h<;>rfl
abbrev jn:=List S->List T->Option (List T×List T)
noncomputable def cn(c:List Nat)(p:PT)(d:jn)(b:dc)(step:List S->List T->S->Option (S×List T))(e:S):List S->List T->Option (S×List T):=
 λO Y=>if k8 c O=true then(d O Y).bind λa=>iv (bU c p) b step a.1 O a.2 e else none
noncomputable def cM(f:List S->List T->Option (S×List T)):aP:=λO Y=>(f O Y).bind λr=>r.1.x?.map λx=>(x,r.2)
noncomputable def jU(a:List Nat)(i:Nat)(f:List S->List T->Option (S×List T)):bC:=λO Y=>(f O Y).bind λr=>if a.contains i/\i<O.length then some (.nx,O.set i r.1,r.2)else none
theorem Gk{b target iter:Expr}{c:List Expr}{a:Scope}{pos:br}:ov w A (.ListComp b [⟨target,iter,c,0⟩] a pos) 0 target iter c (λd e=>do let _ <- call (.builtin "list.append") [d,<- eval b e]) where
 turn:=λ_ _ _=>rfl
 den:=λ_ _ _=>rfl
 und:=λ_ _ _=>rfl
 qt:=λ_ _ _=>rfl
theorem Fn{k v target iter:Expr}{b:List Expr}{a:Scope}{pos:br}:ov w A (.DictComp k v [⟨target,iter,b,0⟩] a pos) 0 target iter b (λe c=>do
    let f <- eval k c;let g <- js [f] (eval v c);match e with
    |.ref d=>do
     gJ {k.pos with endLine:=v.pos.endLine,endCol:=v.pos.endCol}
     js [f,g] (t8 d f g)
    |_=>unsupported "internal:dictcomp") where
 turn:=λ_ _ _=>rfl
 den:=λ_ _ _=>rfl
 und:=λ_ _ _=>rfl
 qt:=λ_ _ _=>rfl
theorem Bx{b target iter:Expr}{c:List Expr}{d:List CV}{a:Scope}{pos:br}:wN w A (.ListComp b (⟨target,iter,c,0⟩::d) a pos) {cls:=.type "list",data:=.seq ([]:List aI).toArray} (.own []) (newList []) where
 new:=λs Q E h=>ux h
 ok:=λnt Z h i e=>(fu rfl [] ⟨0,e⟩ (by show _=_;rfl))
 ho:=trivial
 fr:=rfl
 start:=λj f g R s h0 h=>codeAny_compStart_list h0 h
theorem Hh{k v target iter:Expr}{b:List Expr}{c:List CV}{a:Scope}{pos:br}:wN w A (.DictComp k v (⟨target,iter,b,0⟩::c) a pos) {cls:=.type "dict",data:=.dict #[]} (.ownd []) newDict where
 new:=λs Q E h=>ux h
 ok:=λnt Z h i e=>(fu rfl [] (pa.mpr (m0 _ e (#[]) 0 ⟨rfl,rfl,rfl⟩ ⟨rfl,(λ_ d=>by simp at d),.nil,.nil⟩)) (by show _=_;rfl))
 ho:=trivial
 fr:=rfl
 start:=λj f g R s h0 h=>codeAny_compStart_dict h0 h
theorem sh(L:A.handled=none){e target iter:Expr}{h:List Expr}{M:List CV}{a:Scope}{pos:br}{p:PT}{z:jn}{f:dc}{step:List S->List T->S->Option (S×List T)}{g:aI->cz->bA Unit}{B:Bool}{N:Option Nat}
  {c:List (Option Str)} {d:List Nat} {o:bK} {I K:S} {b:bA aI} (r:clausesOf e=⟨target,iter,h,0⟩::M) (P:wN w A e o I b) (R:ov w A e 0 target iter h g)
  (hs:mw F.env.scope a F.nm c d) (k:jW iter=true) (t:B=true->i4 target=true) (V:gP c p target=true) (X:gL w A F iter B N z)
  (hT:∀ n J,kQ w A (eL F a c d n) J h f) (hE:∀ n J,qC w A (eL F a c d n) J g step)
  (H:St w F J Z O Y s) (l:cn d p z f step I O Y=some (K,ν')) (j:Option (aI->bA Unit)) (Q:aI->aL->Prop) (E:aI->aL->Prop)
  (fin:∀ u v q C,Nx w F.nt Z s v ν' q->wK w F s.heap.objs.size u K v q.heap->v C=none->s.heap.objs.size<=C->C≠u->F.nt≠some C->(∃ m,q.heap.Ns C m)->yj (model pw w) A E j Q (.ref u) C (.ok .next) q) :
  bc (model pw w) A (yk e a F.env pos b false (eval iter F.env) j) Q E s:=by
 unfold cn at l;revert l;refine cb λy=>?_;exact bJ λitems G e1 l=>TA L H r P R hs (λi hi x _=>HL y i hi) (X H e1) k t V (λn=>hT n J) (λn=>hE n J) l j Q E fin
theorem gH(i:A.handled=none){target iter c:Expr}{d:List Expr}{a:Scope}{pos:br}{p:PT}{h:jn}{b:dc}{f:aP}{tg:Bool}{ow:Option Nat}{nm':List (Option Str)}{wr':List Nat}
  (hs:mw F.env.scope a F.nm nm' wr') (e:jW iter=true) (g:tg=true->i4 target=true) (j:gP nm' p target=true) (k:gL w A F iter tg ow h)
  (hT:∀ n J,kQ w A (eL F a nm' wr' n) J d b) (l:∀ n,bu w A (eL F a nm' wr' n) c f) :
  bu w A F (.ListComp c [⟨target,iter,d,0⟩] a pos) (cM (cn wr' p h b (cF f) (.own []))):=λJ O Y x ν' Z s H=>by
 refine bJ λr G m=>ca λy o=>dU ?_;intro Q E q;rw[eval_ListComp];exact sh i rfl Bx Gk hs e g j k hT (λn J=>Ae (l n)) H m none Q E (BW H (S.x?_own o) q)
theorem BH(i:A.handled=none){target iter k v:Expr}{b:List Expr}{a:Scope}{pos:br}{p:PT}{f:jn}{c:dc}{g h:aP}{tg:Bool}{ow:Option Nat}{nm':List (Option Str)}{wr':List Nat}
  (hs:mw F.env.scope a F.nm nm' wr') (d:jW iter=true) (e:tg=true->i4 target=true) (j:gP nm' p target=true) (l:gL w A F iter tg ow f)
  (hT:∀ n J,kQ w A (eL F a nm' wr' n) J b c) (hk:∀ n,bu w A (eL F a nm' wr' n) k g) (m:∀ n,bu w A (eL F a nm' wr' n) v h) :
  bu w A F (.DictComp k v [⟨target,iter,b,0⟩] a pos) (cM (cn wr' p f c (h9 g h) (.ownd []))):=λJ O Y x ν' Z s H=>by
 refine bJ λt G o=>ca λy q=>dU ?_;intro Q E r;show bc (model pw w) A (yk _ a F.env (J3 [⟨target,iter,b,0⟩] pos) newDict (firstAsync [⟨target,iter,b,0⟩]) (firstIter [⟨target,iter,b,0⟩] F.env) none) Q E s;exact sh i rfl Hh Fn hs d e j l hT (λn J=>GT (hk n) (m n)) H o none Q E (BW H (S.x?_own q) r)
theorem Fj(H:St w F J Z O Y s){n:S}{d:List T}{y:Str}{py:br}{i:Nat}(hi:F.nm[i]?=some (some y))(hw:i∈F.wr)(R:i<O.length){Q:Flow->aL->Prop}{E:aI->aL->Prop}
  (X:∀ f α' Z' D,cZ w F mt [] J O Z s α' (O.set i n) Z' D->St w F α' Z' (O.set i n) d D->uN w F α' (O.set i n) Z' D.heap .nx f->Q f D) :
  ∀ g k p C,Nx w F.nt Z s k d p->wK w F s.heap.objs.size g n k p.heap->k C=none->s.heap.objs.size<=C->C≠g->F.nt≠some C->(∃ m,p.heap.Ns C m)->
   yj (model pw w) A E (some λv=>assignAll v ((jt [.Name y py] F.env).map (·.2))) (λ_ D=>Q .next D) (.ref g) C (.ok .next) p:=by
 intro g k p C K c c1 r c3 c4 ⟨m,L⟩;have G:=H.next K;have o1:xv F J k O p i g:=⟨c.z,bg H.low c.lo,c.nt,c.at_.lt c.ho,λq=>absurd (ck (H.fz g q).2 c.lo) (cQ _),λj S _ l t q=>absurd (ck (H.own j S l t).2.2.2.1 (q.symm▸c.lo)) (cQ _)⟩;have M:C∉F.fa:=λq=>absurd (ck (H.fz C q).2 r) (cQ _);show bc _ _ (iN (.Name y py) F.env (.ref g)) _ _ _;refine x0 (vy G hi hw R c.at_ c.ho o1 λu N I=>(aS m (pv L λo=>N.ext C o (AA G.nts G.tab.choose_spec L) M) (λh6 B=>?_)));have P:cY w F.nt [C] k u k d {u with heap:=h6,toks:=u.toks}:=by
  refine eI I.nts I.on (λb a=>?_) (λb o a e=>B.extBut b o (λq=>a (by simp[q])) e) (gV B.1.symm);simp only[bP,dP,or_false]at a;subst a;exact⟨c1,bg H.sz r,c4⟩
 have H6:St w F (j0 J i g) k (O.set i n) d {u with heap:=h6}:=I.nextW P λb a=>by
  simp only[bP,dP,or_false]at a;subst a;refine⟨M,λx q=>?_,λj S e o q=>?_,bg H.low r⟩
  ·exact eA (H.cel x b q) λv o t _=>absurd (ck (cg t) r) (cQ _)
  ·by_cases l:i=j
   ·subst l;rw[l8]at q;exact c3 q.symm
   ·rw[ed l]at e;rw[kg (λq=>l q.symm)]at q;exact absurd (ck (H.own j S e o).2.2.2.1 (q.symm▸r)) (cQ _)
 have NS:cZ w F mt [C] J O Z s (j0 J i g) (O.set i n) k {u with heap:=h6}:=by
  refine {cZ.ofW (J:=J) (O:=O) (U:=O) (mt:=mt) (V:=[C]) (W:=F.fa++[C]) (((K.toW _).trans (N.mono λb a=>J2 _ a)).trans (P.mono λb a=>J1 _ a)) (λb a=>?_) (λj S e o=>(aS S e o))with own:=λj S l t=>?_}
  ·rcases fQ.mp a with h|h
   ·exact .inl h
   ·exact .inr (.inl h)
  ·by_cases h:i=j
   ·subst h;exact .inr (by rw[l8];exact c.lo)
   ·rw[ed h]at l;exact .inl (cI S l t ((kg (λq=>h q.symm)).symm))
 exact X _ _ _ _ (NS.strip λb a=>by simp only[bP,dP,or_false]at a;subst a;exact r) H6 rfl
theorem IB{targets:List Expr}{value:Expr}{pos:br}{Q:Flow->aL->Prop}{E:aI->aL->Prop}(hs:rt targets value pos.line F.env=pure true)
  (h:bc (model pw w) A (evalThenUse value F.env λv=>assignAll v ((jt targets F.env).map (·.2))) (λ_ D=>Q .next D) E s):bc (model pw w) A (exec (.Assign targets value pos) F.env) Q E s:=by
 rw[exec_Assign_arm];refine ba (gr ?_);rw[hs];refine ba (cm ?_);rw[if_pos (by rfl)];exact ba (iM h (λ_ _ x=>cm x) λ_ _ x=>x)
theorem vF(j:A.handled=none){y:Str}{py apos:br}{i:Nat}{target iter d:Expr}{b:List Expr}{a:Scope}{pos:br}{p:PT}{h:jn}{c:dc}{f:aP}{tg:Bool}{ow:Option Nat}{nm':List (Option Str)}{wr':List Nat}
  (hi:F.nm[i]?=some (some y)) (hw:rt [.Name y py] (.ListComp d [⟨target,iter,b,0⟩] a pos) apos.line F.env=pure true)
  (hs:mw F.env.scope a F.nm nm' wr') (e:jW iter=true) (g:tg=true->i4 target=true) (k:gP nm' p target=true) (l:gL w A F iter tg ow h)
  (hT:∀ n J,kQ w A (eL F a nm' wr' n) J b c) (m:∀ n,bu w A (eL F a nm' wr' n) d f) :
  eX w A F mt (.Assign [.Name y py] (.ListComp d [⟨target,iter,b,0⟩] a pos) apos) (jU F.wr i (cn wr' p h c (cF f) (.own []))):=λJ O Y t U ν' Z s H=>by
 refine bJ λu G o=>cb λhc q=>?_;cases q;intro Q E r;refine IB hw ?_;show bc (model pw w) A (yk _ a F.env (J3 [⟨target,iter,b,0⟩] pos) (newList []) (firstAsync [⟨target,iter,b,0⟩]) (firstIter [⟨target,iter,b,0⟩] F.env) (some _) >>= λ_=>pure ()) _ E s;exact ba (iM (sh j rfl Bx Gk hs e g k l hT (λn J=>Ae (m n)) H o _ (λ_ D=>Q .next D) E (Fj H hi (by simpa using hc.1) hc.2 r)) (λ_ _ x=>cm x) λ_ _ x=>x)
theorem SM(j:A.handled=none){y:Str}{py apos:br}{i:Nat}{target iter k v:Expr}{b:List Expr}{a:Scope}{pos:br}{p:PT}{f:jn}{c:dc}{g h:aP}{tg:Bool}{ow:Option Nat}{nm':List (Option Str)}{wr':List Nat}
  (hi:F.nm[i]?=some (some y)) (hw:rt [.Name y py] (.DictComp k v [⟨target,iter,b,0⟩] a pos) apos.line F.env=pure true)
  (hs:mw F.env.scope a F.nm nm' wr') (d:jW iter=true) (e:tg=true->i4 target=true) (l:gP nm' p target=true) (m:gL w A F iter tg ow f)
  (hT:∀ n J,kQ w A (eL F a nm' wr' n) J b c) (hk:∀ n,bu w A (eL F a nm' wr' n) k g) (o:∀ n,bu w A (eL F a nm' wr' n) v h) :
  eX w A F mt (.Assign [.Name y py] (.DictComp k v [⟨target,iter,b,0⟩] a pos) apos) (jU F.wr i (cn wr' p f c (h9 g h) (.ownd []))):=λJ O Y u U ν' Z s H=>by
 refine bJ λz G q=>cb λhc r=>?_;cases r;intro Q E t;refine IB hw ?_;show bc (model pw w) A (yk _ a F.env (J3 [⟨target,iter,b,0⟩] pos) newDict (firstAsync [⟨target,iter,b,0⟩]) (firstIter [⟨target,iter,b,0⟩] F.env) (some _) >>= λ_=>pure ()) _ E s;exact ba (iM (sh j rfl Hh Fn hs d e l m hT (λn J=>GT (hk n) (o n)) H q _ (λ_ D=>Q .next D) E (Fj H hi (by simpa using hc.1) hc.2 t)) (λ_ _ x=>cm x) λ_ _ x=>x)
theorem AJ{y:Str}{e:Expr}{py pos:br}{i:Nat}{f:aP}(h:bu w A F e f)(hi:F.nm[i]?=some (some y))(hs:rt [.Name y py] e pos.line F.env=pure false)(hw:nT [.Name y py] e F.env=pure none):
  eX w A F mt (.Assign [.Name y py] e pos) (jy F.wr i f):=λJ O Y I U ν' Z s H=>by
 refine bJ λx G j=>aX λk l=>cb λhc h3=>?_;simp only[lH,mF]at h3;refine aQ λb=>bO h3 λm o p=>?_;clear h3;subst m;subst o;subst p;refine b ?_;intro Q E q;refine yb (h H j _ _ λv d K c r=>?_) hs hw;show bc _ _ (iN (.Name y py) F.env v) _ _ _;refine aQ λb=>nH (EY H c r l i) λa t so u z=>b (x0 (vy (H.next c) hi (by simpa using hc.1) hc.2 so u z λg B C=>q _ _ d g ?_ C rfl));exact {(Gj (n:=0) ((c.toW F.fa).trans B) t hc.2:cZ w F mt [] J O Z s (j0 J i a) (O.set i k) d g)with}
noncomputable def oC(c:List Nat)(p:PT)(d:jn)(b:dc)(step:List S->List T->S->Option (S×List T)):List S->List T->S->Option (S×List T):=λO Y a=>
 if k8 p.idx O=true then(d O Y).bind λr=>iv (bU c p) b step r.1 O r.2 a else none
theorem St.forget(H:St w F J Z U Y s)(h:∀ (k:Nat) (S:Mine.Internal.S),O[k]?=some S->S≠.no->U[k]?=some S):St w F J Z O Y s:=by
 have own:∀ {S:Mine.Internal.S},S.isOwn->S≠.no:=λ{S} o q=>by subst q;exact o
 exact⟨H.ok,H.on,H.md,H.nts,H.gens,H.base,H.tab,H.fz,H.cel,aV H.vars λm d f=>(aS m d (λi x S hi hs a=>f i x S hi (h i S hs a) a)),λi S e o=>H.own i S (h i S e (own o)) o,λi j S b e o g c q=>H.inj i j S b (h i S e (own o)) o (h j b g (own c)) c q⟩
theorem LN{j target iter d a:Expr}{i h:List Expr}{g:Scope}{pos:br}(l k:aI)(f:cz):compTurn (.ListComp j [⟨target,iter,i,0⟩,⟨d,a,h,0⟩] g pos) 0 l k f=(do
   gJ iter.pos
   match <- mE l with
   |none=>pure (.done .next)
   |some v=>
    xY target l v
    iN target f v
    let mut ok:=true
    for c in i do
     if ok then ok <- isTrue c f (eval c f)
    if ok then
     (do
      let x <- eval a f
      gJ a.pos
      let x <- rG a f x;let _ <- rK (.compStart (.ListComp j [⟨target,iter,i,0⟩,⟨d,a,h,0⟩] g pos) 1 (<- js [x] (jP x)) k f) f)
    again (.compLoop (.ListComp j [⟨target,iter,i,0⟩,⟨d,a,h,0⟩] g pos) 0 l k f)):=by
 have e:∀ b:Bool,(if b=true then do
     let x <- eval a f
     gJ a.pos
     let x <- rG a f x;let m <- js [x] (jP x);let _ <- rK (.compStart (.ListComp j [⟨target,iter,i,0⟩,⟨d,a,h,0⟩] g pos) 1 m k f) f
     again (.compLoop (.ListComp j [⟨target,iter,i,0⟩,⟨d,a,h,0⟩] g pos) 0 l k f)
    else again (.compLoop (.ListComp j [⟨target,iter,i,0⟩,⟨d,a,h,0⟩] g pos) 0 l k f)) =
    (if b=true then((do
     let x <- eval a f
     gJ a.pos
     let x <- rG a f x;let m <- js [x] (jP x);let _ <- rK (.compStart (.ListComp j [⟨target,iter,i,0⟩,⟨d,a,h,0⟩] g pos) 1 m k f) f) >>= λ_=>again (.compLoop (.ListComp j [⟨target,iter,i,0⟩,⟨d,a,h,0⟩] g pos) 0 l k f))
    else again (.compLoop (.ListComp j [⟨target,iter,i,0⟩,⟨d,a,h,0⟩] g pos) 0 l k f)):=by
  intro b;simp only[xN,xO]
 refine Eq.trans (b:=(do
   gJ iter.pos
   match <- mE l with
   |none=>pure (.done .next)
   |some v=>
    xY target l v
    iN target f v
    let r <- (forIn i true λc r=>if r=true then do let ok <- isTrue c f (eval c f);pure (kH ok)else pure (kH r))
    (if r=true then do
     let x <- eval a f
     gJ a.pos
     let x <- rG a f x;let m <- js [x] (jP x);let _ <- rK (.compStart (.ListComp j [⟨target,iter,i,0⟩,⟨d,a,h,0⟩] g pos) 1 m k f) f
     again (.compLoop (.ListComp j [⟨target,iter,i,0⟩,⟨d,a,h,0⟩] g pos) 0 l k f)
    else again (.compLoop (.ListComp j [⟨target,iter,i,0⟩,⟨d,a,h,0⟩] g pos) 0 l k f)))) rfl ?_
 simp only[e]
theorem UE{g target iter b a:Expr}{f e:List Expr}{c:Scope}{pos:br}:ov w A (.ListComp g [⟨target,iter,f,0⟩,⟨b,a,e,0⟩] c pos) 0 target iter f (λh d=>do
    let x <- eval a d
    gJ a.pos
    let x <- rG a d x;let _ <- rK (.compStart (.ListComp g [⟨target,iter,f,0⟩,⟨b,a,e,0⟩] c pos) 1 (<- js [x] (jP x)) h d) d) where
 turn:=LN
 den:=λ_ _ _=>rfl
 und:=λ_ _ _=>rfl
 qt:=λ_ _ _=>rfl
theorem abw{e target iter a b:Expr}{f c:List Expr}{d:Scope}{pos:br}:ov w A (.ListComp e [⟨target,iter,f,0⟩,⟨a,b,c,0⟩] d pos) 1 a b c (λg h=>do let _ <- call (.builtin "list.append") [g,<- eval e h]) where
 turn:=λ_ _ _=>rfl
 den:=λ_ _ _=>rfl
 und:=λ_ _ _=>rfl
 qt:=λ_ _ _=>rfl
theorem NU{f target iter a b:Expr}{g d:List Expr}{c:Scope}{pos:br}{k i:aI}{e:cz}{R:o0->aL->Prop}
  (h0:mG (model pw w) A (.compLoop (.ListComp f [⟨target,iter,g,0⟩,⟨a,b,d,0⟩] c pos) 1 k i e) R s)
  (h:bc (model pw w) A (jP k) (λj D=>mG (model pw w) A (.compLoop (.ListComp f [⟨target,iter,g,0⟩,⟨a,b,d,0⟩] c pos) 1 j i e) R D) (notedBy (model pw w) A e λx D=>R (.error x) D) s) :
  mG (model pw w) A (.compStart (.ListComp f [⟨target,iter,g,0⟩,⟨a,b,d,0⟩] c pos) 1 k i e) R s:=by
 refine yc ?_;show bc _ A ((compStart (.ListComp f [⟨target,iter,g,0⟩,⟨a,b,d,0⟩] c pos) 1 k i e).onRaise (λx=>do CG x e;gJ theWindowsPlace)) _ _ s;refine wpAny_notedAt ?_;unfold compStart;show bc _ A (ask >>= _) _ _ s;refine ba (wpAny_askSetting (wpAny_ite ?_));split
 ·first
   |exact ba (cm (cm (And.intro rfl h0)))
   |exact cm (And.intro rfl h0)
 ·first
   |exact ba (CW (ba (gr (ba (iM h (λj D l=>cm (And.intro rfl l)) λ_ _ x=>x)))))
def zV(w:aZ)(A:bx)(F:Fx)(e:Expr)(g:Bool)(f:jn):Prop:=∀ ⦃J O Y items ν' Z s⦄,St w F J Z O Y s->f O Y=some (items,ν')->
 ∀ (Q:aI->aL->Prop) (E:aI->aL->Prop),(∀ d fp W P c Z' D,Nx w F.nt Z s Z' ν' D->It w A F.nt g d fp W items P c->P 0 Z' D.heap->(∀ b∈fp,s.heap.objs.size<=b)->Q (.ref d) D)->
  bc (model pw w) A (eval e F.env) (λx a=>bc (model pw w) A (jP x) Q E a) E s
theorem LK (q:A.handled=none) {p pos:br} {e:Expr} {f:aP} (r:F.env.kindOf (aK "range")=some .globalImplicit) (j:dQ e=true) (h:bu w A F e f) :
  zV w A F (.Call (.Name (aK "range") p) [e] [] pos) false (iR f):=λJ O Y items ν' Z s H=>bJ λx G t=>aX λN u=>aX λn y=>cb λg z Q E B=>by
  cases z
  refine gN rfl (ia H r (v:=.type "range") rfl ?_ rfl);refine kb (gp.one H ((h H t).frz u) j _ _ λP k a C I=>?_) (eG j) rfl;refine aV (cT.one I) λv K L=>aU (gA y L) λd M=>?_;subst K M;refine JL ?_;have l:=(C.push {cls:=.type "range",data:=.fields #[.int 0 a.toks,.int n d,.int 1 (a.toks+1)]});have c:Nx w F.nt Z s k G {a with heap:=a.heap.push {cls:=.type "range",data:=.fields #[.int 0 a.toks,.int n d,.int 1 (a.toks+1)]},toks:=a.toks+1+1}:=l.trans ((H.next l).tok _);refine wpAny_pyIter_range (CP ..) (vv (by decide) (by decide) (BX g) (qq g) (by rw[uq];exact qq g)) ?_;rw[w8,uq];have m:=It.range (w:=w) (A:=A) (nt:=F.nt) q (a.heap.push {cls:=.type "range",data:=.fields #[.int 0 a.toks,.int n d,.int 1 (a.toks+1)]}).objs.size 0 n.toNat;rw[EW]at m;exact B _ _ _ _ _ k _ (c.push _) m ⟨lA _,dx (a.heap.push {cls:=.type "range",data:=.fields #[.int 0 a.toks,.int n d,.int 1 (a.toks+1)]}) (o:={cls:=.type "range_iterator",data:=.fields #[gY 0,gY (n.toNat:Int),gY 1]}) rfl,λb i=>in1 i▸⟨c.fresh,bg H.sz c.size,c.freshN⟩⟩ λb i=>in1 i▸c.size
theorem Vg(hh:A.handled=none){m target iter c d:Expr}{B j:List Expr}{g:Scope}{pos:br}{p:PT}{it:jn}{t:dc}{f:aP}{tg:Bool}(V:tg=true->i4 c=true)
  (I:jW d=true) (hp:gP F.nm p c=true) (hI:zV w A F d tg it) (hT:kQ w A F J j t) (hE:bu w A F m f) :
  qC w A F J (λX n=>do
    let x <- eval d n
    gJ d.pos
    let x <- rG d n x;let _ <- rK (.compStart (.ListComp m [⟨target,iter,B,0⟩,⟨c,d,j,0⟩] g pos) 1 (<- js [x] (jP x)) X n) n) (oC F.wr p it t (cF f)):=λO Y a a' ν' Z s N H x=>by
 refine cb λa0=>bJ λitems G e1 hg=>?_;intro Q E hQ;have key:=hI H e1 (λK D=>bc (model pw w) A (rK (.compStart (.ListComp m [⟨target,iter,B,0⟩,⟨c,d,j,0⟩] g pos) 1 K (.ref N) F.env) F.env) (λ_ s''=>Q () s'') E D) E λI0 fp W P a5 Z1 s1 N1 R hP l=>by
  have H1:=H.next N1;have x1:=x.next (N1.toW []) (λq=>by cases q) (.refl _);have a1:=x.at_.lt x.ho;have a2:∀ b∈fp,¬Mu F.nt b:=λb C=>by
   rintro (q|q)
   ·exact(dL H (l b C)).2 q
   ·have:=bg H.sz (l b C);replace this:=q▸this;exact absurd this (by decide)
  have ap:∀ b,s.heap.objs.size<=b->Ap F J O b:=λb h1=>by
   refine⟨λq=>absurd (ck (H.fz b q).2 h1) (cQ _),λy q=>?_,λi S e o q=>?_,bg H.low h1⟩
   ·exact eA (H.cel y b q) λv o ho _=>absurd (ck (cg ho) h1) (cQ _)
   ·exact absurd (ck (H.own i S e o).2.2.2.1 (q.symm▸h1)) (cQ _)
  have u:mG (model pw w) A (.compLoop (.ListComp m [⟨target,iter,B,0⟩,⟨c,d,j,0⟩] g pos) 1 (.ref I0) (.ref N) F.env) (λr D=>match r with|.ok f=>Q () D|.error e=>cameBackBy (model pw w) A F.env E e D) s1:=by
   refine FO hh R (σ0:=O) abw V hp hT (Ae hE) (λb C q=>(ap b (l b q)).fa C) a2 (λq=>absurd (ck a1 (l N q)) (cQ _)) (λb C=>ap b (l b (R.sub b C))) items 0 Z1 O G s1 a a' ν' rfl hP H1 (.refl _) x1 hg λZ4 a3 s4 N4 H4 o4 a4=>?_;have L:∀ (k:Nat) (S:Mine.Internal.S),O[k]?=some S->S≠.no->a3[k]?=some S:=λk S e hn=>by
    refine(o4.2 k λq=>?_).trans e;have:=HL a0 k q;replace this:=e▸this;cases this;exact hn rfl
   have M:=(N1.toW (N::(W++F.fa))).trans N4;refine hQ Z4 s4 {M with ext:=λb o h1 h2 e=>M.ext b o h1 (λq=>?_) e} (H4.forget L) ⟨a4.z,a4.at_,a4.ho,a4.nt,a4.lo,x.ap⟩;rcases bP.mp q with rfl|q
   ·exact h2 (.head _)
   ·rcases fQ.mp q with q|q
    ·exact absurd (ck (cg e) (l b (R.sub b q))) (cQ _)
    ·exact h2 (.tail _ q)
  exact iM (wpAny_runOwn (NU u (R.self 0 Z1 _ _ _ hP u))) (λ_ _ h=>h) λ_ _ h=>h
 refine ba (iM key (λv s1 h1=>?_) λ_ _ e=>e);refine ba (gr (ba (J4 (zF I v) (ba (fG (iM h1 (λK D h'=>?_) λ_ _ e=>e))))));exact ba (iM h' (λ_ _ h=>cm h) λ_ _ e=>e)
theorem SS(m:A.handled=none){target iter a c e:Expr}{b:Scope}{pos:br}{p p2:PT}{o g:jn}{f:aP}{tg tg2:Bool}{ow:Option Nat}{nm':List (Option Str)}{wr':List Nat}
  (hs:mw F.env.scope b F.nm nm' wr') (h:jW iter=true) (j:tg=true->i4 target=true) (q:gP nm' p target=true) (r:gL w A F iter tg ow o)
  (d:jW c=true) (i:tg2=true->i4 a=true) (k:gP nm' p2 a=true) (l:∀ n,zV w A (eL F b nm' wr' n) c tg2 g) (t:∀ n,bu w A (eL F b nm' wr' n) e f) :
  bu w A F (.ListComp e [⟨target,iter,[],0⟩,⟨a,c,[],0⟩] b pos) (cM (cn wr' p o (λ_ Y=>some (true,Y)) (oC wr' p2 g (λ_ Y=>some (true,Y)) (cF f)) (.own []))):=λJ O Y x ν' Z s H=>by
 refine bJ λB G u=>ca λy v=>dU ?_;intro Q E z;rw[eval_ListComp];exact sh m rfl Bx UE hs h j q r (λn J=>fN) (λn J=>Vg m i d k (l n) fN (t n)) H u none Q E (BW H (S.x?_own v) z)
theorem ft{a:Prop}(h:false=true):a:=Bool.noConfusion h
noncomputable def WE(a:Bool):T->Bool
 |.bool b=>a==b
 |_=>false
noncomputable def R2(a:Int):T->Bool
 |.int b=>a==b
 |_=>false
noncomputable def PY(a:Str):T->Bool
 |.str b=>a==b
 |_=>false
noncomputable def sS(f:T->T->Bool)(l r:List T):Bool:=l.length==r.length&&(l.zip r).all λp=>f p.1 p.2
noncomputable def LW(f:T->T->Bool)(l:List T):T->Bool
 |.lst r=>sS f l r
 |_=>false
noncomputable def eqU(f:T->T->Bool)(l:List T):T->Bool
 |.tup r=>sS f l r
 |_=>false
noncomputable def xo(f:T->Bool):Option T->Bool
 |some t=>f t
 |none=>false
noncomputable def A0(f:T->T->Bool)(l:List (Int×T)):T->Bool
 |.dct r=>l.length==r.length&&l.all λp=>xo (f p.2) (i6 r p.1)
 |_=>false
noncomputable def uL(f:Option (T->T->Bool)):T->T->Bool
 |.bool a=>WE a
 |.int a=>R2 a
 |.str a=>PY a
 |.lst l=>(f.map λg=>LW g l).getD λ_=>false
 |.tup l=>(f.map λg=>eqU g l).getD λ_=>false
 |.dct l=>(f.map λg=>A0 g l).getD λ_=>false
 |_=>λ_=>false
noncomputable def eqT:Nat->T->T->Bool
 |0=>uL none
 |n+1=>uL (some (eqT n))
theorem FY{f:Option (T->T->Bool)}{P:T->T->Prop}(c:∀ a,P (.bool a) (.bool a))(hi:∀ a,P (.int a) (.int a))(hs:∀ a,P (.str a) (.str a))
  (d:∀ g l r,f=some g->sS g l r=true->P (.lst l) (.lst r)) (e:∀ g l r,f=some g->sS g l r=true->P (.tup l) (.tup r))
  (hd:∀ g l r,f=some g->A0 g l (.dct r)=true->P (.dct l) (.dct r)):∀ t u,uL f t u=true->P t u:=λt u h=>by
 cases t with
 |bool a=>cases u with
  |bool b=>exact dN (show(a==b)=true from h)▸c a
  |_=>exact ft h
 |int a=>cases u with
  |int b=>exact dN (show(a==b)=true from h)▸hi a
  |_=>exact ft h
 |str a=>cases u with
  |str b=>exact dN (show(a==b)=true from h)▸hs a
  |_=>exact ft h
 |lst l=>cases f with
  |none=>exact ft h
  |some g=>cases u with
   |lst r=>exact d g l r rfl h
   |_=>exact ft h
 |tup l=>cases f with
  |none=>exact ft h
  |some g=>cases u with
   |tup r=>exact e g l r rfl h
   |_=>exact ft h
 |dct l=>cases f with
  |none=>exact ft h
  |some g=>cases u with
   |dct r=>exact hd g l r rfl h
   |_=>exact ft h
 |_=>exact ft h
open SeqAt
theorem wo{l r:List T}{f:T->T->Bool}(a:sS f l r=true):l.length=r.length/\∀ (j:Nat) (t u:T),l[j]?=some t->r[j]?=some u->f t u=true:=by
 refine bn (ru.mp a) λh1 h2=>⟨dN h1,λj t u b c=>c8.mp h2 (t,u) ?_⟩;exact ke (i:=j) (by simp[CM,b,c])
theorem sq(n:Nat):(aO n).all (λ_=>true)=true:=by simp
theorem Gh{g:T->T->Bool}{m:List (Int×aI)}{b:List (Int×T)}(n:bY w Z b m)(o:∀ (t u:T) (v y:aI),g t u=true->Rd w Z t v->Rd w Z u y->EqAt A s v y true):
  ∀ {c:List (Int×T)} {d:List (Int×aI)},bY w Z c d->(c.all λp=>xo (g p.2) (i6 b p.1))=true->KeqHits A s m d true:=by
 intro f;induction f with
 |nil=>
  intro d a _;replace a:_=_:=a;subst a;exact .nil
 |cons i c j=>
  obtain⟨k,t⟩:=i;intro d a h;refine bG a λv z q h1 h2=>?_;clear a;subst q;refine bn (ru.mp (show(xo (g t) (i6 b k)&&c.all _)=true from h)) λh3 h4=>?_;cases l:i6 b k with
  |none=>rw[l]at h3;exact ft h3
  |some u=>
   rw[l]at h3;exact aV (A6 n l) λy r x=>KeqHits.hit (e:=true) r (o t u v y h3 h1 x) (j h2 h4)
theorem NQ{c:rj}{f:aZ}{e:List cW}{d:List (Int×aI)}(x:PySem.Pairs (ik w) e d):PySem.Pairs (xS c f) e d:=by
 induction x with
 |nil=>exact .nil
 |cons a b _ g=>exact .cons a b g
theorem D7{h:bh}{a:aJ}{b:List (Int×aI)}(c:rj)(d:aZ)(x:h.DictOf (ik w) a b):h.DictOf (xS c d) a b:=
 zU x λo e f h1 h2 h3 h4 h5 h6=>
 (dH o e f ⟨h1,h2,h3,h4,NQ h5,h6⟩)
theorem GK{n:Nat}(a:A.units+(n+1)<rL):A.in1.units+n<rL:=by
 show A.units+1+n<rL;exact aby a
theorem xx{l r:List T}{a b:List aI}(c:bm w Z l a)(d:bm w Z r b){f:T->T->Bool}(h:∀ (j:Nat) (t u:T),l[j]?=some t->r[j]?=some u->f t u=true)
  (e:∀ (t u:T) (v y:aI),f t u=true->Rd w Z t v->Rd w Z u y->EqAt A s v y true):∀ j (h1:j<a.toArray.size) (h2:j<b.toArray.size),EqAt A s a.toArray[j] b.toArray[j] ((λ_=>true) j):=λj h1 h2=>by
 simp only[eY]at h1 h2;refine aQ λg=>aV (bm.at c (gv h1)) λt i k=>aV (bm.at d (gv h2)) λu m n=>g ?_;simpa using e t u _ _ (h j t u i m) k n
theorem wy(c:On Z s.heap){v:aI}{l:List (Int×T)}(r:Rd w Z (.dct l) v):∃ a b,v=.ref a/\s.heap.DictOf (ik w) a b/\bY w Z l b:=by
 exact gC r λa o b e d hd f=>(cE a b e (pa.mpr (aS o (c _ _ d) hd)) f)
theorem wE(c:On Z s.heap){v:aI}{l:List T}(r:Rd w Z (.tup l) v):∃ a b,v=.ref a/\s.heap.IsTuple a b.toArray/\bm w Z l b:=by
 exact gC r λa o b e d hd f=>(cE a b e (aS o (c _ _ d) hd) f)
theorem uH(c:On Z s.heap){v:aI}{l:List T}(r:Rd w Z (.lst l) v):∃ a b,v=.ref a/\s.heap.IsList a b.toArray/\bm w Z l b:=by
 exact gC r λa o b e d hd f=>(cE a b e (aS o (c _ _ d) hd) f)
theorem u8{l r:List T}{a b:List aI}(h:l.length=r.length)(c:bm w Z l a)(d:bm w Z r b):a.toArray.size=b.toArray.size:=(bm.length c).trans (h.trans (bm.length d).symm)
theorem HZ{g:T->T->Bool}{l r:List (Int×T)}{a b:List (Int×aI)}(h:A0 g l (.dct r)=true)(c:bY w Z l a)(d:bY w Z r b):(a.length==b.length&&true)=true:=by
 rw[bY.len c,bY.len d,(ru.mp h).1];rfl
theorem IF{f:Option (T->T->Bool)}{A:bx}(o:On Z s.heap)(hs:∀ a p,s.heap.DictOf (ik w) a p->(a==rp)=false)(z:A.units<rL)
  (B:∀ g,f=some g->∀ (t u:T) (v y:aI),g t u=true->Rd w Z t v->Rd w Z u y->EqAt A.in1 s v y true):∀ (t u:T),uL f t u=true->∀ v y,Rd w Z t v->Rd w Z u y->EqAt A s v y true:=by
 refine FY (λa v y i j=>?_) (λa v y i j=>?_) (λa v y i j=>?_) (λg l r e h v y i j=>?_) (λg l r e h v y i j=>?_) (λg l r e h v y i j=>?_)
 ·obtain rfl:v=_:=i;obtain rfl:y=_:=j;exact beq_self_eq_true a▸EqAt.bool_bool _ _
 ·refine aU i λ_ n=>?_;clear i;subst n;refine aU j λ_ n=>?_;clear j;subst n;exact beq_self_eq_true a▸EqAt.int_int _ _ _ _
 ·refine aU i λ_ n=>?_;clear i;subst n;refine aU j λ_ n=>?_;clear j;subst n;exact beq_self_eq_true a▸EqAt.str_str _ _ _ _
 ·refine bn (wo h) λh1 h2=>bG (uH o i) λa M q C k=>bG (uH o j) λb N x G c=>?_;subst q x;by_cases d:a=b
  ·subst d;exact EqAt.same _
  ·exact EqAt.of_refs d (sq _▸RcAt.lists C G (u8 h1 k c) z (xx k c h2 (B g e)))
 ·refine bn (wo h) λh1 h2=>bG (wE o i) λa M q C k=>bG (wE o j) λb N x G c=>?_;subst q x;by_cases d:a=b
  ·subst d;exact EqAt.same _
  ·have:=RcAt.tuples C G z (xx k c h2 (B g e));rw[sq,u8 h1 k c]at this;simp only[beq_self_eq_true,Bool.and_self]at this;exact EqAt.of_refs d this
 ·refine bG (wy o i) λa p q H k=>bG (wy o j) λb I x K c=>?_;subst q x;by_cases d:a=b
  ·subst d;exact EqAt.same _
  ·exact EqAt.of_refs d λm L E Q hq=>keq_eq (hs _ _ H) (hs _ _ K) (D7 m L H) (D7 m L K) z (λ_=>Gh c (B g e) k (ru.mp h).2) ((HZ h k c).symm▸hq)
theorem UB(k:On Z s.heap)(hs:∀ a c,s.heap.DictOf (ik w) a c->(a==rp)=false):∀ (n:Nat) (A:bx) (t u:T) (v y:aI),eqT n t u=true->A.units+n<rL->Rd w Z t v->Rd w Z u y->EqAt A s v y true:=by
 intro d;induction d with
 |zero=>
  intro A t u v y h b f i;exact IF k hs b (λg e=>bD e) t u h v y f i
 |succ n j=>
  intro A t u v y h b f i;exact IF k hs (ff (dI _ _) b) (λg e t u v y h=>by
     have e:=bw e;subst e;exact j A.in1 t u v y h (GK b)) t u h v y f i
theorem ne_T{n:Nat}{t u:T}{v y:aI}{Q:aI->aL->Prop}{E:aI->aL->Prop}(h:eqT (n+1) t u=true)(j:On Z s.heap)(hs:∀ a p,s.heap.DictOf (ik w) a p->(a==rp)=false)(G:A.units+(n+1)<rL)(d:Rd w Z t v)(f:Rd w Z u y)
  (o:Q (.bool false) s):bc (model pw w) A (Cw .NotEq v y) Q E s:=by
 have k:A.units<rL:=ff (dI _ _) G;have z:∀ (t u:T) (v y:aI),eqT n t u=true->Rd w Z t v->Rd w Z u y->EqAt A.in1 s v y true:=λt u v y e=>UB j hs n A.in1 t u v y e (GK G);revert v y;refine FY (P:=λt u=>∀ {v y:aI},Rd w Z t v->Rd w Z u y->bc (model pw w) A (Cw .NotEq v y) Q E s) (λa v y d f=>?_) (λa v y d f=>?_) (λa v y d f=>?_) (λg l r e h v y d f=>?_) (λg l r e h v y d f=>?_) (λg l r e h v y d f=>?_) t u h
 ·obtain rfl:v=_:=d;obtain rfl:y=_:=f;exact RcNeAt.bool_bool _ _ pw w E Q (by rw[beq_self_eq_true];exact o)
 ·refine aU d λ_ m=>?_;clear d;subst m;refine aU f λ_ m=>?_;clear f;subst m;exact RcNeAt.int_int _ _ _ _ pw w E Q (by rw[beq_self_eq_true];exact o)
 ·refine aU d λ_ m=>?_;clear d;subst m;refine aU f λ_ m=>?_;clear f;subst m;exact RcNeAt.str_str _ _ _ _ pw w E Q (by rw[beq_self_eq_true];exact o)
 ·have e:=bw e;subst e;refine bn (wo h) λh1 h2=>bG (uH j d) λa L q B i=>bG (uH j f) λb M x C c=>?_;subst q x;have:=RcNeAt.lists B C (u8 h1 i c) k (xx i c h2 z);rw[sq]at this;exact this pw w E Q o
 ·have e:=bw e;subst e;refine bn (wo h) λh1 h2=>bG (wE j d) λa L q B i=>bG (wE j f) λb M x C c=>?_;subst q x;have:=RcNeAt.tuples B C k (xx i c h2 z);rw[sq,u8 h1 i c]at this;simp only[beq_self_eq_true,Bool.and_self]at this;exact this pw w E Q o
 ·have e:=bw e;subst e;refine bG (wy j d) λa p q H i=>bG (wy j f) λb I x K c=>?_;subst q x;exact keq_ne (hs _ _ H) (hs _ _ K) H K k (λ_=>Gh c z i (ru.mp h).2) ((HZ h i c).symm▸o)
noncomputable def B8(f g:aP):dc:=λO Y=>(f O Y).bind λa=>a.1.t?.bind λt=>(g O a.2).bind λb=>b.1.t?.bind λu=>if eqT 6 t u=true then some (false,b.2)else none
theorem L0{n:Nat}(hR:di (n+1) A){a b:Expr}{pos}{f g:aP}(h:bu w A F a f)(i:bu w A F b g)(j:rA .NotEq b=false):gx w A F (.Compare a [.NotEq] [b] pos) (B8 f g):=λJ O Y x ν' Z s H=>by
 refine bJ λz G k=>aX λB l=>bJ λC m o=>aX λI p=>cb λq=>g8 ?_;intro Q E r;refine CA ((h H k).frz l _ _ λv1 K L c t=>(i (H.next c) o).frz p _ _ λM N P d v=>?_) j;have e:=(H.next c).next d;refine ne_T q e.on (λa y hd=>si e hd) (by have:=hR.u;show A.units+(5+1)<9900;exact LI this) (Rd.mono d.le _ t) v (ue (r _ _ (c.trans d)))
noncomputable def Ai(f:aP):aP:=λO Y=>(f O Y).bind λa=>a.1.lst?.bind λl=>if l.isEmpty=true then some (.v (.bool true),a.2)else none
theorem aaF{n:Nat}(hR:di (n+1) A){a:Expr}{pos c}{f:aP}(p:bu w A F a f):bu w A F (.Compare a [.Eq] [.List [] c] pos) (Ai f):=λJ O Y x ν' Z s H=>bJ λM G q=>aX λl r=>cb λt=>g8 λQ E v=>by
  refine Js (p H q _ _ λv1 N P d y=>gn (H.next d) (GH (H.next d)) (by decide) _ _ λR V X g z=>?_) rfl;have m:=H.next d;have o:=m.next g;refine bG (RX.lst o.on (RX.next H.sz m y g) r) λa B C h I=>bG (RX.lst o.on z rfl) λb K L i k=>?_;obtain rfl:=nX.mp t;obtain rfl:B=[]:=I;obtain rfl:K=[]:=k;subst C L;have:=RcAt.lists (e:=λ_=>true) h i rfl (by have:=hR.u;show A.units<9900;exact Vt this) (λj h1 _=>by simp at h1);rw[sq]at this;exact this pw w E Q (v _ _ _ (d.trans g) rfl)
noncomputable def wj:List Int:=[65024,65025,65026,65027,65028,65029,6150,65030,65031,65032,65033,6155,6156,6157,8203,8204,8205,65034,65035,65036,65037,65038,65039,173,65279,8288,847]
noncomputable def sE(o:bK):List (Int×aI):=match o.data with
 |.set a _ _=>a.toList
 |_=>[]
theorem QV(P:bX):∃ a t,(mV P).data=.set (sE (mV P)).toArray a t/\t.fits 27=true:=(iz _ _ rfl (by kernel_rfl))
theorem TE(P:bX):((sE (mV P)).length==27&&(sE (mV P)).all λe=>match e.2 with
  |.int k _=>e.1==k&&iH k==k&&wj.contains k
  |_=>false)=true:=by kernel_rfl
theorem PQ(P:bX):(wj.all λk=>(sE (mV P)).any λe=>lJ k e.2)=true:=by kernel_rfl
theorem YY(P:bX):(HF P).get? 85=some (mV P):=by kernel_rfl
noncomputable def d8(k:Int):Bool:=wj.contains k
noncomputable def ER(f:aP):aP:=λO Y=>(f O Y).bind λa=>a.1.int?.map λk=>(.v (.bool (d8 k)),a.2)
noncomputable def oa(k:Int):Option Str:=(pP.find? λp=>p.1=k).map (·.2)
noncomputable def yW(k:Int):T:=match oa k with
 |some x=>.str x
 |none=>.none
noncomputable def wS(f:aP):aP:=λO Y=>(f O Y).bind λa=>a.1.int?.map λk=>(.v (yW k),a.2)
theorem EC(P:bX):(HF P).get? 96=some (H8 650):=by kernel_rfl
theorem Wo:(pP.all λp=>iH p.1==p.1)=true:=by kernel_rfl
theorem GO:pP.length=650:=by kernel_rfl
theorem GA:∀ (l:List (Int×Str)) (j:Nat),(pL j l).length=l.length:=by
 intro a;induction a with
 |nil=>
  intro _;exact rfl
 |cons b r c=>
  obtain⟨k,v⟩:=b;intro j;exact congrArg (·+1) (c (j+1))
theorem PE:∀ (l:List (Int×Str)) (j:Nat),(l.all λp=>iH p.1==p.1)=true->∀ e∈pL j l,∃ k,lJ k e.key=true/\e.hash=iH k:=by
 intro b;induction b with
 |nil=>
  intro _ _ e a;cases a
 |cons c r d=>
  obtain⟨k,v⟩:=c;intro j h e a;rcases bP.mp a with rfl|a
  ·have h1:iH k=k:=dN (ee h).1;refine(aS k ?_ ?_)
   ·by_cases q:j<646
    ·rw[if_pos q];exact decide_eq_true rfl
    ·rw[if_neg q];exact decide_eq_true rfl
   ·rw[h1];by_cases q:j<646
    ·rw[if_pos q]
    ·rw[if_neg q]
  ·exact d _ (ee h).2 e a
theorem GI(k:Int):∀ (l:List (Int×Str)) (j:Nat),∃ b,((pL j l).find? λe=>lJ k e.key).map (·.val)=((l.find? λp=>p.1=k).map (·.2)).map λx=>Value.str x b
 |[],_=>⟨0,rfl⟩
 |(a,v)::r,j=>by
  refine aU (GI k r (j+1)) λb d=>?_;show ∃ b,((List.find? _ ((if j<646 then(⟨a,.int a (364+3*j),.str v (365+3*j)⟩:cW)else⟨a,.int a (2302+2*(j-646)),.str v (2303+2*(j-646))⟩)::pL (j+1) r)).map _)=_;refine CX▸CX▸?_;by_cases q:a=k
  ·subst q;simp only[decide_true,mB];by_cases c:j<646
   ·simp only[c,if_true,lJ,beq_self_eq_true,mB];exact⟨_,rfl⟩
   ·simp only[c,if_false,lJ,beq_self_eq_true,mB];exact⟨_,rfl⟩
  ·have f:lJ k (if j<646 then(⟨a,.int a (364+3*j),.str v (365+3*j)⟩:cW)else⟨a,.int a (2302+2*(j-646)),.str v (2303+2*(j-646))⟩).key=false:=by
    split<;>simp[lJ,q]
   refine f▸?_;simp only[q,decide_false];exact⟨b,d⟩
theorem abe(H:St w F J Z O Y s):s.heap.SetOf (ik w) 85 d8 27:=by
 refine aQ λc=>eA (QV w.params) λi t hd f=>c ?_;have a:=TE w.params;rw[fg,c8]at a;have one:∀ e∈sE (mV w.params),∃ k d,e.2=.int k d/\e.1=k/\iH k=k/\wj.contains k=true:=λe b=>by
  have:=a.2 e b;revert this;cases q:e.2<;>intro h<;>first|(simp only[fg,beq_iff_eq]at h;exact(qX _ _ rfl h.1.1 h.1.2 h.2))|cases h
 refine(wY _ _ _ _ ⟨i7 H.md H.on (YY _) (by decide),⟨rfl,rfl,rfl⟩,hd,(λe b=>?_),(λk=>?_),?_,?_,?_⟩)
 ·refine mj (one e b) λk d h1 h2 h3 h4=>⟨(aS k (by rw[h1];simp[xS,lJ]) ?_),by rw[h1];rfl⟩;show e.1=iH k;rw[h2,h3]
 ·constructor
  ·intro hk;have:=c8.mp (PQ w.params) k (pe.mp hk);exact aV (J5.mp this) λe b hi=>(aS e b hi)
  ·rintro ⟨e,b,hi⟩;refine aQ λc=>mj (one e b) λg d h1 h2 h3 h4=>c ?_;rw[h1]at hi;have:g=k:=by simpa [xS,lJ] using hi
   subst this;exact h4
 ·rw[eY,dN a.1];decide
 ·rw[eY,dN a.1];exact f
 ·rw[eY,dN a.1]
theorem M1 {a:Expr} {p pos:br} {f:aP} (d:F.env.kindOf (aK "b1_set")=some .globalImplicit) (e:bu w A F a f):bu w A F (.Compare a [.In] [.Name (aK "b1_set") p] pos) (ER f):=λJ O Y x ν' Z s H=>bJ λl G g=>ca λk q=>dU λQ E h=>by
  refine Js (e H g _ _ λv1 m n b i=>uT (H.next b) d (v:=.ref 85) rfl ?_ rfl) rfl;refine aU (j4 q i) λt j=>?_;subst j;have c:=H.next b;exact wpAny_inSet_of (knd:=ik w) (k:=k) ng rfl (abe c) (h _ _ _ (b.trans (c.tok _)) rfl)
theorem Bn(H:St w F J Z O Y s):s.heap.MapOf (ik w) 96 (findBy lJ (kP.take 650).toArray):=by
 have e:kP.take 650=kP:=uw (by unfold kP;rw[GA,GO];exact cu _);refine(dH _ _ _ ⟨i7 H.md H.on (EC _) (by decide),⟨rfl,rfl,rfl⟩,rfl,(λb a=>?_),(λk=>rfl)⟩);replace a:=e▸a;exact PE pP 0 Wo b (List.mem_toArray.mp a)
theorem XS {a:Expr} {p apos pos:br} {f:aP} (l:F.env.kindOf (aK "b3_exceptions")=some .globalImplicit) (c:nY (.Name (aK "b3_exceptions") p) "get" F.env (eval (.Name (aK "b3_exceptions") p) F.env)=eval (.Name (aK "b3_exceptions") p) F.env)
  (d:(apos.endLine==pos.line)=true) (i:dQ a=true) (m:bu w A F a f):bu w A F (.Call (.Attribute (.Name (aK "b3_exceptions") p) (aK "get") apos) [a] [] pos) (wS f):=λJ O Y x ν' Z s H=>bJ λz G n=>ca λk q=>dU λQ E o=>by
  have jv:[a].all dQ=true:=by rw[gX,i];rfl
  refine rH (T:="dict") (id:="dict.get") c (oQ jv rfl) d adc ads PySem.F.type_dict_get (uT H l (v:=.ref 96) rfl ?_ rfl);refine⟨(Bn H).typeIs,λb q=>CT q▸(aS _ (i7 H.md H.on (EC _) (by decide)) rfl),uv (ji jv) (pC jv (gp.one' H (m H n) i _ _ λB C I j r=>?_))⟩;refine aV (cT.one r) λv t u=>aU (j4 q u) λK y=>?_;subst t y;have g:=H.next j;refine call_meetsIn ads (Bn g).typeIs PySem.F.entry_dict_get (PySem.F.args_dict_get_2 _ _) (meets_dict_get (ik w) (k:=k) 96 ng rfl) (aS _ (Bn g) (o _ _ _ (j.trans (g.tok _)) ?_));have e:kP.take 650=kP:=uw (by unfold kP;rw[GA,GO];exact cu _);refine aU (GI k pP 0) λh h2=>(show findBy lJ (kP.take 650).toArray k=(oa k).map λx=>Value.str x h by rw[e];unfold findBy oa;rw[List.find?_toArray];exact h2)▸?_;unfold yW;cases oa k with
  |none=>exact rfl
  |some x=>exact oV
noncomputable def l5(x:Str):List T:=x.cps.toList.map λc=>T.str ⟨#[c]⟩
noncomputable def BM(f:aP):jn:=λO Y=>(f O Y).bind λa=>a.1.str?.map λx=>(iO (l5 x),a.2)
theorem OU (M:A.handled=none) {p pos:br} {e:Expr} {f:aP} (hx:F.env.kindOf (aK "enumerate")=some .globalImplicit) (N:dQ e=true) (h:bu w A F e f) :
  gL w A F (.Call (.Name (aK "enumerate") p) [e] [] pos) true none (BM f):=λJ O Y items ν' Z s H=>bJ λx G e1=>ca λy q=>dU λQ E hQ=>by
  refine gN rfl (ia H hx (v:=.type "enumerate") rfl ?_ rfl);refine kb (gp.one' H (h H e1) N _ _ λvs Z1 d C r1=>?_) (eG N) rfl;refine aV (cT.one r1) λv j r2=>aU (ku q r2) λP y1=>?_;subst j y1;have z:=H.next C;refine call_enumerate_str λh' R B b3 b4=>?_;have N2:=C.trans (z.grow b4 (by rw[b3];exact dI _ _));refine wpAny_pyIter_enum R ?_;have I:=C.size;have hD:∃ St:Nat->bh->Prop,Draws pw w A.in1 d.heap.objs.size [d.heap.objs.size] y.cps.size (λi v=>∃ c u,y.cps[i]?=some c/\v=.str ⟨#[c]⟩ u) St/\St 0 h':=by
   unfold strIterType at B;split at B
   ·exact(aS _ (Draws.strAscii (A:=A.in1) M d.heap.objs.size y P) B)
   ·exact(aS _ (Draws.strWide (A:=A.in1) M d.heap.objs.size y P) B)
  refine aQ λK=>aV hD λa0 V L=>?_;clear hD;refine K ?_;have WT:=WalksT.enumerateD V (d.heap.objs.size+1) (nS (o7 _)) (by simp) (by simp);have k:(iO (l5 y)).length=y.cps.size:=by rw[D8];unfold l5;simp
  refine we H N2 (It.ofT WT (λZ=>True) (λ_ _ _ _=>trivial) (iO (l5 y)) k (λi X Z t g ht l=>?_) (λi h m b n=>?_)) (λb n=>?_) (λhw=>⟨⟨lA _,⟨.none,R⟩,L⟩,trivial,hw⟩) (λb o=>?_) hQ
  ·refine aV (Dh ht) λx' a j=>?_;subst j;refine aQ λK=>eA l λt' v j y3=>?_;clear l;obtain⟨c,u,hc,rfl⟩:=j;subst y3;refine K (aS _ rfl ?_);have:x'=T.str ⟨#[c]⟩:=by
    unfold l5 at a;rw[fR,Array.getElem?_toList,hc]at a;exact(bw a).symm
   subst this;exact(dA _ _ ⟨rfl,⟨_,rfl⟩,(cE _ _ rfl ⟨_,rfl⟩ rfl)⟩)
  ·refine bn m λy0 r=>?_;clear m;obtain⟨old,he⟩:=y0;simp only[bP,dP,or_false]at n;rcases n with rfl|rfl
   ·exact cg he
   ·refine aU (V.live _ _ r) λ_ y=>?_;exact cg y
  ·simp only[bP,dP,or_false]at n;have:d.heap.objs.size<=b:=by rcases n with rfl|rfl<;>lia
   exact⟨bg I this,dL z this⟩
  ·simp only[bP,dP,or_false]at o;rcases o with rfl|rfl
   ·exact .inl ⟨bg I (mz _),(dL z (mz _)).2⟩
   ·exact .inl ⟨I,(dL z (cu _)).2⟩
theorem FQ{M:kI}{a:Ctx}{p:br}{t:bA Fin}{b:List rk}{s D:aL}{e:End}(h:Runs M a p t b s e D):s.toks<=D.toks:=by
 induction h<;>(try simp only[acY]at*)<;>lia
theorem YG{M:kI}{a:Ctx}{p:br}{s D:aL}{r:o0}(h:Returns M a p s r D):s.toks<=D.toks:=FQ h
theorem Wb{M:kI}{b:Ctx}{p:br}{g:Nat}{r:Resume}{s D:aL}{res:GenResult}:Wakes M b p g r s res D->s.toks<=D.toks:=
 IR (λ{_ _ _ _ _ a} c y=>y▸(FQ c:(s.setGen g .running).toks<=a.toks)) (λy=>y▸cu _) (λy=>y▸cu _)
open Sem in
theorem TN{J:Type}(M:kI)(j:Ctx)(n:Nat)(t:bA J):∀ (Q:J->br->aL->Prop) (E:aI->br->aL->Prop) (p:br) (s:aL),n<=s.toks->wp M j t Q E p s->
  wp M j t (λa i D=>n<=D.toks/\Q a i D) (λe i D=>n<=D.toks/\E e i D) p s:=by
 induction t with
 |pure a=>intro Q E p s b h;exact⟨b,h⟩
 |raise e=>intro Q E p s b h;exact⟨b,h⟩
 |unsupported _=>intro Q E p s _ h;exact h
 |finish _=>intro Q E p s _ h;exact h
 |rule _ k d=>intro Q E p s b h;exact d () Q E p s b h
 |«at» i k d=>intro Q E p s b h;exact d () Q E i s b h
 |load a _ k d=>intro Q E p s b h;refine aV h λo u h=>?_;exact(aS o u (d o Q E p s b h))
 |update a _ f k d=>intro Q E p s b h;exact⟨h.1,d () Q E p _ b h.2⟩
 |loadIfAlive a k d=>intro Q E p s b h;exact d _ Q E p s b h
 |point _ k d=>intro Q E p s b h;exact d () Q E p s b h
 |register _ _=>intro Q E p s _ h;exact h
 |alloc o k d=>intro Q E p s b h;exact d _ Q E p _ b h
 |fresh k d=>intro Q E p s b h;exact d _ Q E p _ (uh b) h
 |ask k d=>intro Q E p s b h;exact d _ Q E p s b h
 |choose v m k d=>intro Q E p s b h;exact⟨h.1,d _ Q E p _ b h.2⟩
 |os q _ k d=>intro Q E p s b h;exact d _ Q E p _ b h
 |call c hd _ _ k d=>intro Q E p s b h;refine eA h λr D l h=>?_;exact(iz r D l (d r Q E p D (bg b (YG l)) h))
 |handled own k d=>intro Q E p s b h;exact d _ Q E p s b h
 |genState g k d=>intro Q E p s b h;refine aV h λst hs h=>?_;exact(aS st hs (d _ Q E p s b h))
 |newGen c k d=>intro Q E p s b h;exact d _ Q E p _ b h
 |resume g r _ k d=>intro Q E p s b h;refine eA h λres D hw h=>?_;exact(iz res D hw (d res Q E p D (bg b (Wb hw)) h))
 |yield _ _ _ _=>intro Q E p s _ h;exact h
 |stack k d=>intro Q E p s b h;exact d _ Q E p s b h
 |fork _ _=>intro Q E p s _ h;exact h
 |thread k d=>intro Q E p s b h;exact d _ Q E p s b h
 |await _ _ _ _ _=>intro Q E p s _ h;exact h
theorem ET{J:Type}{M:kI}{A:bx}{s:aL}{t:bA J}{Q:J->aL->Prop}{E:aI->aL->Prop}(h:bc M A t (λa D=>s.toks<=D.toks->Q a D) E s):bc M A t Q E s:=by
 have h2:bc M A t (λa D=>s.toks<=D.toks/\(s.toks<=D.toks->Q a D)) (λe D=>s.toks<=D.toks/\E e D) s:=λc p b=>TN M c _ t _ _ p s (cu _) (h c p b);exact iM h2 (λ_ _ x=>x.2 x.1) λ_ _ x=>x.2
noncomputable def DC(y:Str)(c:Int)(f:aP):aP:=λO Y=>(f O Y).bind λa=>a.1.str?.bind λx=>if x.length<=1000/\0<=c/\c<=0x10FFFF/\(y==⟨#[c.toNat]⟩)=false then some (.v (.str (Txt.replace x y ⟨#[c.toNat]⟩)),a.2)else none
theorem Y2 {a o p:Expr} {y:Str} {c m:Int} {k1 k2 k3:Nat} {p1 p2 p3 p4 p5 p6 apos pos r t:br} {f g h:aP} (hx:F.env.kindOf (aK "chr")=some .globalImplicit)
  (i:nY o "replace" F.env (eval o F.env)=eval o F.env) (j:(apos.endLine==pos.line)=true) (hf:bu w A F a f) (hg:bu w A F o g) (hh:bu w A F p h) :
  bu w A F (.IfExp (.BinOp a .Mod (.Constant (.int m) k1 p1) t) (.Call (.Attribute o (aK "replace") apos) [.Constant (.str y) k2 p2,.Call (.Name (aK "chr") p3) [.Constant (.int c) k3 p4] [] p5] [] pos) p r) (oI (tV (dB .Mod f (dK (.int m)))) (DC y c g) h):=λJ O Y x ν' Z s H=>by
 refine bJ λb a0 I hq=>?_;revert I;refine bJ λxt a1 l=>?_;refine aX λtt e3=>ca λbb e4 I=>?_;intro Q E R;cases I;revert l;refine bJ λxa G e5=>?_;refine aX λta e6=>bJ λxb a2 e7 l=>?_;cases e7;revert l;refine aX λtb e8 l=>?_;cases e8;revert l;refine ca λxr K l=>?_;cases l;revert K;refine ca λtr L K=>?_;subst K;cases e3;refine wpAny_IfExp (wpAny_isTrue_value (xW ((hf H e5).frz e6 _ _ λv1 V z X r1=>Jr ?_)) rfl);have H1:=H.next X;refine ET (DQ (s:={z with toks:=z.toks+1}) L r1 ⟨_,rfl⟩ λv k hv hk=>?_);replace hk:z.toks+1<=k:=hk;have B:Nx w F.nt Z s V G {z with toks:=k}:=X.trans (H1.tok k);have C:=H.next B;refine truthy_T e4 (hv V) ?_;cases b with
 |false=>
  rw[if_neg nofun]at hq ⊢;exact hh C hq _ _ λv Z3 d u M=>R v Z3 d (B.trans u) (M.le B.size)
 |true=>
   rw[if_pos rfl]at hq ⊢;revert hq;refine bJ λy1 a3 N=>aX λxs q=>cb λhc hq=>?_;cases hq;refine rH (T:="str") (id:="str.replace") i (oQ (es:=[_,_]) rfl rfl) j pj PySem.F.slot_str_replace PySem.F.type_str_replace (ET (hg C N _ _ λv3 Z3 d u M n=>?_));replace n:k<=d.toks:=n;refine aU (ku q M) λt3 y1=>?_;subst y1;refine⟨typeIs_str _ _ _,(λ_ e=>nomatch e),uv rfl (pC rfl (lF (wpAny_Constant_str (lF ?_ rfl)) rfl))⟩;have H3:=(C.next u).k (d.toks+1);refine gN rfl (ia H3 hx (v:=.builtin "chr") rfl ?_ rfl);refine Ju (lF (Jr (nW ?_)) rfl) rfl rfl;refine adh (by simp;exact RP hc) (nW ?_);have h1:(⟨#[c.toNat]⟩:Str).length=1:=rfl;exact SC.replace (by show d.toks≠0;exact Qy hk n) (by show d.toks+1+1≠0;exact(Ne.symm (Nat.zero_ne_add_one (_+1)))) (by show d.toks≠d.toks+1+1;exact WX) hc.2.2.2 (by refine h1▸?_;exact KY hc) λt' k'=>R _ _ _ (B.trans (u.trans ((C.next u).tok _))) oV
structure dh where
 lst:Bool
 l:aJ
 vs:List aI
def dh.At(z:dh)(h:bh):Prop:=if z.lst then h.IsList z.l z.vs.toArray else h.IsTuple z.l z.vs.toArray
def dh.It(z:dh)(h:bh)(i:aJ)(k:Nat):Prop:=if z.lst then h.IsListIter i z.l k else h.IsTupleIter i z.l k
section
variable{w:aZ}{A:bx}{s:aL}{Q:aI->aL->Prop}{E:aI->aL->Prop}
theorem dh.At.keep{z:dh}{h a:bh}(x:z.At h)(k:∀ o,h.get? z.l=some o->a.get? z.l=some o):z.At a:=by
 unfold dh.At at x ⊢;split at x
 ·rename_i e;refine if_pos e▸?_;exact oU x k
 ·rename_i e;refine if_neg e▸?_;exact aV x λo b r=>aS o (k o b) r
theorem dh.It.keep{z:dh}{h b:bh}{i:aJ}{n:Nat}(x:z.It h i n)(k:∀ o,h.get? i=some o->b.get? i=some o):z.It b i n:=by
 unfold dh.It at x ⊢;split at x
 ·rename_i e;refine if_pos e▸?_;exact aV x λo a r=>aS o (k o a) r
 ·rename_i e;refine if_neg e▸?_;exact aV x λo a r=>aS o (k o a) r
theorem dh.It.lt{z:dh}{h:bh}{i:aJ}{n:Nat}(x:z.It h i n):i<h.objs.size:=by
 unfold dh.It at x;split at x<;>exact aV x λo a _=>cg a
theorem dh.At.lt{z:dh}{h:bh}(x:z.At h):z.l<h.objs.size:=by
 unfold dh.At at x;split at x<;>exact aV x λo a _=>cg a
theorem O5{a t:aJ}{i:Nat}{f:Array aI}{x:aI}(hit:s.heap.IsTupleIter a t i)(g:s.heap.IsTuple t f)(h:f[i]?=some x)
  (j:∀ c,c.IsTupleIter a t (i+1)->gZ a s.heap c->Q x {s with heap:=c}):bc (model pw w) A (pp (.ref a)) Q E s:=by
 refine aQ λk=>ej (id hit) λo b hc hd=>ls g λl d _ n e=>?_;clear g;refine k ?_;have hT:=hit.typeIs;unfold pp;refine ba (us (name:=aK "__next__") hT CY (rE CY hT adt ?_ (adu _)));show bc _ _ (field (.ref a) 0 >>= _) _ _ s;refine ba (jw b hd (x:=.ref t) rfl ?_);show bc _ _ (if (rM t==yl)=true then _ else _) _ _ s;refine(if_neg (show ¬((rM t==yl)=true)from o5))▸?_;show bc _ _ (field (.ref a) 1 >>= _) _ _ s;refine ba (jw b hd (x:=.int i 0) rfl ?_);show bc _ _ (seqItems? (.ref t) >>= _) _ _ s;refine ba (uy d e ?_);simp only[mH,h];refine ba (wpAny_setField b hd (by simp) (cm (aS x rfl (cm (j _ ?_ (ug ..))))));exact(cI _ (o6 _ b (Obj.isFreed_of_fields (adv hd _))) ((Obj.cls_mapFields ..).trans hc) (by rw[adv hd];simp[gY]))
theorem next_tuple_end{b t:aJ}{i:Nat}{h:Array aI}(k:A.handled=none)(hit:s.heap.IsTupleIter b t i)(j:s.heap.IsTuple t h)(l:h[i]?=none)
  (p:∀ c e,ui b s.heap c->(∃ o,c.get? e=some o/\o.cls=.type "StopIteration")->E (.ref e) {s with heap:=c}):bc (model pw w) A (pp (.ref b)) Q E s:=by
 refine aQ λq=>ej (id hit) λo d hc hd=>ls j λr f _ n g=>?_;clear j;refine q ?_;have hT:=hit.typeIs;unfold pp;refine ba (us (name:=aK "__next__") hT CY (rE CY hT adt ?_ (adu _)));show bc _ _ (field (.ref b) 0 >>= _) _ _ s;refine ba (jw d hd (x:=.ref t) rfl ?_);show bc _ _ (if (rM t==yl)=true then _ else _) _ _ s;refine(if_neg (show ¬((rM t==yl)=true)from o5))▸?_;show bc _ _ (field (.ref b) 1 >>= _) _ _ s;refine ba (jw d hd (x:=.int i 0) rfl ?_);show bc _ _ (seqItems? (.ref t) >>= _) _ _ s;refine ba (uy f g ?_);simp only[mH,l];refine ba (CW (ba (wpAny_setField d hd (by simp) ?_)));show bc _ _ (newExc (.type "StopIteration") [] >>= _) _ _ _;refine ba ?_;simp only[newExc,newTuple];refine ba (ux ?_ (by size_fits));refine ba (m:=firstArgMember _ _) (J4 (a:=yl) (by first|rfl|(simp only[firstArgMember];rfl)) (ux ?_ (by size_fits)))
 delta raiseNew
 exact ba (wpAny_handled ((show A.in1.handled=none from k)▸(ba (cm (wpAny_throw (p _ _ (((ug ..).extBut.push _).push _) (aS _ (dx _ rfl) rfl)))))))
theorem Qg{z:dh}{b:aJ}{k:Nat}{x:aI}(hit:z.It s.heap b k)(a:z.At s.heap)(d:z.vs[k]?=some x)(f:∀ c,z.It c b (k+1)->gZ b s.heap c->Q x {s with heap:=c}):
  bc (model pw w) A (pp (.ref b)) Q E s:=by
 unfold dh.It dh.At at*;cases e:z.lst with
 |true=>simp only[e,if_true]at*;exact wpAny_nextOf_list_item hit a (by simpa using d) f
 |false=>simp only[e,jc,if_false]at*;exact O5 hit a (by simpa using d) f
theorem KO (d:A.handled=none) {z:dh} {b:aJ} {k:Nat} (hit:z.It s.heap b k) (a:z.At s.heap) (f:z.vs[k]?=none) (g:∀ c e,ui b s.heap c->(∃ o,c.get? e=some o/\o.cls=.type "StopIteration")->E (.ref e) {s with heap:=c}) :
  bc (model pw w) A (pp (.ref b)) Q E s:=by
 unfold dh.It dh.At at*;cases e:z.lst with
 |true=>simp only[e,if_true]at*;exact wpAny_nextOf_list_end d hit a (by simpa using f) g
 |false=>simp only[e,jc,if_false]at*;exact next_tuple_end d hit a (by simpa using f) g
end
structure rf (n:Nat) (src:Nat->dh) (it:Nat->aJ) (z TI TO:aJ):Prop where
 TIz:TI≠z
 TOz:TO≠z
 TITO:TI≠TO
 itz:∀ j,j<n->it j≠z
 itTI:∀ j,j<n->it j≠TI
 itTO:∀ j,j<n->it j≠TO
 inj:∀ j k,j<n->k<n->it j=it k->j=k
 lz:∀ j,j<n->(src j).l≠z
 lTO:∀ j,j<n->(src j).l≠TO
 lit:∀ j k,j<n->k<n->(src j).l≠it k
noncomputable def refsOf(a:Nat->aJ)(n:Nat):List aI:=(aO n).map λj=>rM (a j)
def j6(h:bh)(T:aJ)(a:List aI):Prop:=h.get? T=some {cls:=.type "tuple",data:=.seq a.toArray}
structure kS (n:Nat) (src:Nat->dh) (it:Nat->aJ) (z TI TO:aJ) (h:bh) (k:Nat->Nat) (f0:aI) (kept:List aI):Prop where
 zip:rN h z TI TO f0
 ti:j6 h TI (refsOf it n)
 to:j6 h TO kept
 len:kept.length=n
 its:∀ j,j<n->(src j).It h (it j) (k j)
 ats:∀ j,j<n->(src j).At h
section
variable{w:aZ}{A:bx}{s:aL}{E:aI->aL->Prop}{n:Nat}{src:Nat->dh}{it:Nat->aJ}{z TI TO:aJ}
theorem KQ{J:Type}{c:Prop}{d:Decidable c}{a b:bA J}{Q:J->aL->Prop}(h:¬c)(k:bc (model pw w) A b Q E s):bc (model pw w) A (@ite _ c d a b) Q E s:=(if_neg h).symm▸k
theorem GF{J:Type}{c:Prop}{d:Decidable c}{a b:bA J}{Q:J->aL->Prop}(h:c)(k:bc (model pw w) A a Q E s):bc (model pw w) A (@ite _ c d a b) Q E s:=(if_pos h).symm▸k
theorem zK{j:Nat}(h:j<n):((refsOf it n).zipIdx).drop j=(.ref (it j),j)::((refsOf it n).zipIdx).drop (j+1):=by
 have a:j<((refsOf it n).zipIdx).length:=by unfold refsOf;simp[h]
 rw[Jx a];congr 1;rw[List.getElem_zipIdx];simp[refsOf]
theorem Tb{T:aJ}{a:List aI}{k:Nat}{x:aI}{Q:Unit->aL->Prop}(c:a.length<=1000)(hT:j6 s.heap T a)(h:∀ b,j6 b T (a.set k x)->gZ T s.heap b->Q () {s with heap:=b}):
  bc (model pw w) A (updateSeq T (·.setIfInBounds k x)) Q E s:=by
 refine wpAny_updateSeq hT rfl (h _ ?_ (ug ..)) (by rw[eY];exact bg c (by decide)) (by rw[Array.size_setIfInBounds,eY];exact bg c (by decide));unfold j6;rw[o6 _ hT rfl];simp[ph]
structure qJ (n:Nat) (src:Nat->dh) (it:Nat->aJ) (z TI TO:aJ) (k:Nat) (vals:List aI) (h0 h:bh) (j:Nat):Prop where
 zip:rN h z TI TO .ellipsis
 ti:j6 h TI (refsOf it n)
 kp:∃ kp:List aI,kp.length=n/\j6 h TO kp/\∀ i,i<j->kp[i]?=vals[i]?
 its:∀ i,i<n->(src i).It h (it i) (if i<j then k+1 else k)
 ats:∀ i,i<n->(src i).At h
 sz:h.objs.size=h0.objs.size
 keep:∀ c o,c≠z->c≠TO->(∀ j,j<n->c≠it j)->h0.get? c=some o->h.get? c=some o
theorem qJ.turn{k j:Nat}{a kp:List aI}{h0 h g d:bh}(p:rf n src it z TI TO)(u:qJ n src it z TI TO k a h0 h j)(f:j<n)(y:j<a.length)(v:kp.length=n)(B:∀ i,i<j->kp[i]?=a[i]?)
  (t:(src j).It g (it j) (k+1)) (l:gZ (it j) h g) (r:j6 d TO (kp.set j a[j])) (b:gZ TO g d):qJ n src it z TI TO k a h0 d (j+1):=by
 have step:∀ c o,c≠it j->c≠TO->h.get? c=some o->d.get? c=some o:=λc o c1 x e=>b.extBut _ _ x (l.extBut _ _ c1 e);refine⟨step _ _ (p.itz j f).symm p.TOz.symm u.zip,step _ _ (p.itTI j f).symm p.TITO u.ti,(cI (kp.set j a[j]) ((fH).trans v) r (λi hi=>?_)),λi hi=>?_,λi hi=>(u.ats i hi).keep λo e=>step _ _ (p.lit i j hi f) (p.lTO i hi) e,b.1.trans (l.1.trans u.sz),λc o c1 x C e=>step c o (C j f) x (u.keep c o c1 x C e)⟩
 ·by_cases m:i=j
  ·subst m;rw[fT (by rw[v];exact f),gv y]
  ·rw[ed (λq=>m q.symm)];exact B i (by lia)
 ·by_cases m:i=j
  ·subst m;rw[if_pos (o7 _)];exact t.keep λo e=>b.extBut _ _ (p.itTO _ hi) e
  ·have e:(if i<j+1 then k+1 else k)=if i<j then k+1 else k:=by
    by_cases h:i<j
    ·rw[if_pos h,if_pos (rJ h)]
    ·rw[if_neg h,if_neg (by lia)]
   rw[e];exact(u.its i hi).keep λo e=>step _ _ (λq=>m (p.inj i j hi f q)) (p.itTO i hi) e
theorem qJ.fin{k:Nat}{b:List aI}{h0 h g a:bh}(q:rf n src it z TI TO)(p:qJ n src it z TI TO k b h0 h n)(r:j6 h TO b)(t:b.length=n)
  (d:gZ z (h.push {cls:=.type "tuple",data:=.seq b.toArray}) g) (f:gZ z g a) (m:rN a z TI TO (gY h.objs.size)) :
  kS n src it z TI TO a (λ_=>k+1) (gY h0.objs.size) b/\j6 a h0.objs.size b/\a.objs.size=h0.objs.size+1/\(∀ c o,c≠z->c≠TO->(∀ j,j<n->c≠it j)->h0.get? c=some o->a.get? c=some o):=by
 have l:h.objs.size≠z:=nS (cg p.zip);have up:∀ c o,c≠z->h.get? c=some o->a.get? c=some o:=λc o c1 e=>f.extBut _ _ c1 (d.extBut _ _ c1 (cA _ e));rw[<- p.sz];refine⟨⟨m,up _ _ q.TIz p.ti,up _ _ q.TOz r,t,λi hi=>?_,λi hi=>(p.ats i hi).keep λo e=>up _ _ (q.lz i hi) e⟩,f.extBut _ _ l (d.extBut _ _ l (dx h rfl)),?_,λc o c1 u v e=>up _ _ c1 (p.keep c o c1 u v e)⟩
 ·have:=p.its i hi;rw[if_pos hi]at this;exact this.keep λo e=>up _ _ (q.itz i hi) e
 ·rw[f.1,d.1,eQ]
theorem Vk(P:n<=1000)(G:rf n src it z TI TO){k:Nat}{f C:List aI}{Q:aI->aL->Prop}(hn:0<n)(hv:∀ j,j<n->(src j).vs[k]?=f[j]?)(R:f.length=n)(S:kS n src it z TI TO s.heap (λ_=>k) .none C)
  (hQ:∀ p,kS n src it z TI TO p (λ_=>k+1) (gY s.heap.objs.size) f->j6 p s.heap.objs.size f->p.objs.size=s.heap.objs.size+1->
   (∀ c o,c≠z->c≠TO->(∀ j,j<n->c≠it j)->s.heap.get? c=some o->p.get? c=some o)->Q (.ref s.heap.objs.size) {s with heap:=p}) :
  bc (model pw w) A (Builtin.«zip.__next__» ⟨[.ref z],[]⟩) (λfin D=>∃ v,fin=.done (.ret v)/\Q v D) E s:=by
 refine ba (m:=field (.ref z) 2) (jw S.zip rfl (x:=.bool false) rfl (ba (m:=field (.ref z) 3) (jw S.zip rfl (x:=.ref TI) rfl (ba (uy S.ti rfl ?_)))));have Z:¬((refsOf it n).toArray.isEmpty=true):=by
  unfold refsOf;simp;lia
 refine KQ Z (ba (m:=CZ (.ref z)) ?_);unfold CZ;refine ba (jw S.zip rfl (x:=.none) rfl (cm (GF rfl (ba (CW (ba (jw S.zip rfl (x:=.ref TO) rfl (ba (ym S.zip (by simp) λF l d=>?_)))))))));replace l:rN F z TI TO .ellipsis:=l;refine ba (wpAny_forIn_list _ (λrest b D=>∃ j p,j<=n/\rest=((refsOf it n).zipIdx).drop j/\b=(none,())/\D={s with heap:=p}/\qJ n src it z TI TO k f s.heap p j) _ ?_ ?_ _ _ ?_)
 ·intro x rest b D hI;refine nE hI λj p hj a T U u=>?_;subst T U;have g:j<n:=by
   rcases ur j n with h|h
   ·exact h
   ·rw[List.drop_of_length_le (by unfold refsOf;simpa using h)]at a;exact nomatch a
  rw[zK g]at a;refine bn (List.cons.inj a) λT U=>?_;subst T U;have V:j<f.length:=by rw[R];exact g
  have hit:=u.its j g;rw[if_neg (cQ j)]at hit;refine ej u.kp λkp r y H=>ba (CJ (ba (m:=pp (.ref (it j))) (Qg (s:={s with heap:=p}) hit (u.ats j g) ((hv j g).trans (gv V)) λW I t=>cm ?_)));have q:j6 W TO kp:=t.extBut _ _ (G.itTO j g).symm y;exact ba (uy q rfl (ba (Tb (by rw[r];exact P) q λX B J=>ba (wpAny_letGo (cm (qd (j+1) X g rfl rfl rfl (u.turn G g V r H I t B J)))))))
 ·intro b D hI;refine nE hI λj p hj a T U u=>?_;subst T U;obtain rfl:j=n:=by
   rcases ur j n with h|h
   ·rw[zK h]at a;exact nomatch a
   ·exact Jv hj h
  refine ej u.kp λkp r y H=>?_;obtain rfl:kp=f:=adw λi=>by
   rcases ur i j with h|h
   ·exact H i h
   ·rw[lG (by rw[r];exact h),lG (by rw[R];exact h)]
  refine ba (uy y rfl (ba (wpAny_newTuple ?_ (by simp;exact bg (show kp.length<=1000 by rw[r];exact P) (by decide)))));refine ba (m:=adx (.ref z) (.ref p.objs.size)) ?_;unfold adx;have K:rN (p.push {cls:=.type "tuple",data:=.seq kp.toArray}) z TI TO .ellipsis:=cA _ u.zip;refine ba (ym K (by simp) λa0 L M=>ym L (by simp) λY N O=>cm (aS _ rfl (fX (u.fin G y r M O N) λa1 a2 a3 a4=>?_)));show Q (.ref p.objs.size) _;rw[u.sz];exact hQ Y a1 a2 a3 a4
 ·exact⟨0,F,lA _,rfl,rfl,rfl,l,d.extBut _ _ G.TIz S.ti,(cI C S.len (d.extBut _ _ G.TOz S.to) (λi hi=>absurd hi (Nat.not_lt_zero _))),λi hi=>by
   rw[if_neg (Nat.not_lt_zero _)];exact(S.its i hi).keep λo e=>d.extBut _ _ (G.itz i hi) e,λi hi=>(S.ats i hi).keep λo e=>d.extBut _ _ (G.lz i hi) e,d.1,λc o c1 _ _ e=>d.extBut _ _ c1 e⟩
theorem aah(C:A.handled=none)(t:rf n src it z TI TO){k:Nat}{m:List aI}{Q:Fin->aL->Prop}(h:0<n)(D:(src 0).vs[k]?=none)(S:kS n src it z TI TO s.heap (λ_=>k) .none m)
  (F:∀ u e,(∀ c o,c≠z->c≠TO->(∀ j,j<n->c≠it j)->s.heap.get? c=some o->u.get? c=some o)->(∃ o,u.get? e=some o/\o.cls=.type "StopIteration")->E (.ref e) {s with heap:=u}) :
  bc (model pw w) A (Builtin.«zip.__next__» ⟨[.ref z],[]⟩) Q E s:=by
 show bc _ _ (field (.ref z) 2 >>= _) _ _ _;refine ba (jw S.zip rfl (x:=.bool false) rfl ?_);show bc _ _ (field (.ref z) 3 >>= _) _ _ _;refine ba (jw S.zip rfl (x:=.ref TI) rfl (ba (uy S.ti rfl ?_)));have v:¬((refsOf it n).toArray.isEmpty=true):=by
  unfold refsOf;simp;exact(Nat.ne_zero_of_lt h)
 show bc _ _ (if (refsOf it n).toArray.isEmpty=true then _ else _) _ _ _;rw[if_neg v];show bc _ _ (CZ (.ref z) >>= _) _ _ _;refine ba ?_;unfold CZ;refine ba (jw S.zip rfl (x:=.none) rfl (cm ?_));refine GF rfl ?_;refine ba (CW ?_);refine ba (jw S.zip rfl (x:=.ref TO) rfl (ba (ym S.zip (by simp) λi a b=>?_)));replace a:rN i z TI TO .ellipsis:=a;refine ba ?_;have hd:(refsOf it n).zipIdx=(.ref (it 0),0)::((refsOf it n).zipIdx).drop 1:=by simpa using zK (it:=it) h
 rw[hd,rm];refine ba (ba (CJ ?_));show bc _ _ (pp (.ref (it 0)) >>= _) _ _ _;refine ba (KO (s:={s with heap:=i}) C ((S.its 0 h).keep λo e=>b.extBut _ _ (t.itz 0 h) e) ((S.ats 0 h).keep λo e=>b.extBut _ _ (t.lz 0 h) e) D λp e d B=>?_);refine aQ λG=>aV B λH l q=>?_;clear B;refine G ?_;have f:rN p z TI TO .ellipsis:=d _ _ (t.itz 0 h).symm a;have y:e≠z:=λx=>by subst x;rw[f]at l;cases l;simp at q
 exact ym f (by simp) λr _ g=>F r e (λc o c1 J I x=>g.extBut _ _ c1 (d _ _ (I 0 h) (b.extBut _ _ c1 x))) (aS H (g.extBut _ _ y l) q)
theorem WalksT.zipn(L:A.handled=none)(y:0<n)(B:n<=1000)(r:rf n src it z TI TO)(m:Nat)(H:∀ j,j<n->(src j).vs.length=m):
  WalksT pw w A z (z::TI::TO::((aO n).map it++(aO n).map λj=>(src j).l)) (z::TO::(aO n).map it) m
   (λi f=>∃ l:List aI,f=l.toArray/\l.length=n/\∀ j,j<n->(src j).vs[i]?=l[j]?)
   (λi h=>∃ a,kS n src it z TI TO h (λ_=>i) .none a)
   (λi T h=>(∃ a,kS n src it z TI TO h (λ_=>i+1) (gY T) a)/\T≠z/\T≠TO/\∀ j,j<n->T≠it j) where
 sub:=λc hc=>by
  simp only[bP,fQ]at hc ⊢;rcases hc with rfl|rfl|hc
  ·exact .inl rfl
  ·exact .inr (.inr (.inl rfl))
  ·exact .inr (.inr (.inr (.inl hc)))
 frame:=λi h t ⟨a,S⟩ hk=>by
  have C:∀ j,j<n->it j∈(z::TI::TO::((aO n).map it++(aO n).map λj=>(src j).l)):=λj d=>by
   simp only[bP,fQ,eh,eu];exact .inr (.inr (.inr (.inl (aS j d rfl))))
  have M:∀ j,j<n->(src j).l∈(z::TI::TO::((aO n).map it++(aO n).map λj=>(src j).l)):=λj d=>by
   simp only[bP,fQ,eh,eu];exact .inr (.inr (.inr (.inr (aS j d rfl))))
  exact⟨a,hk z (by simp) _ S.zip,hk TI (by simp) _ S.ti,hk TO (by simp) _ S.to,S.len,λj d=>(S.its j d).keep λo e=>hk _ (C j d) o e,λj d=>(S.ats j d).keep λo e=>hk _ (M j d) o e⟩
 item:=λi s Q E hi ⟨a,S⟩ q=>by
  have hT:s.TypeIs (.ref z) "zip":=(aS _ S.zip rfl);obtain⟨f,u,I⟩:∃ f:List aI,f.length=n/\∀ j,j<n->(src j).vs[i]?=f[j]?:=by
   refine(aS ((aO n).map λj=>((src j).vs[i]?).getD .none) (by simp) (λj d=>?_));rw[fR,rD d];have:i<(src j).vs.length:=by rw[H j d];exact hi
   rw[mB,gv this];rfl
  unfold mE;refine ba (wpAny_attempt (us (name:=aK "__next__") hT C0 (rE C0 hT ady
   (Vk B r y I u S λt N D O hk=>cm ?_) (adz _))))
  have lt:∀ {c o},s.heap.get? c=some o->s.heap.objs.size≠c:=λe=>nS (cg e);exact q s.heap.objs.size f.toArray t s.toks (cI f rfl u I) (cu _) (cI _ D rfl ⟨_,rfl⟩) ⟨⟨_,N⟩,lt S.zip,lt S.to,λj d=>nS (S.its j d).lt⟩
   λc o hc e=>hk c o (λx=>hc (by simp[x])) (λx=>hc (by simp[x])) (λj d x=>hc (by rw[x];exact .tail _ (.tail _ (eh.mpr (aS j (by simpa using d) rfl))))) e
 go:=λJ k pos i T s Q E g q=>by
  refine aQ λv=>bn g λP _=>?_;clear g;obtain⟨a,S⟩:=P;refine v ?_;refine wpAny_letOwnedTupleGo_zip S.zip λt G p=>q t ⟨a,G,p.extBut _ _ r.TIz S.ti,p.extBut _ _ r.TOz S.to,S.len,λj d=>(S.its j d).keep λo e=>p.extBut _ _ (r.itz j d) e,λj d=>(S.ats j d).keep λo e=>p.extBut _ _ (r.lz j d) e⟩
   λc o hc e=>p.extBut _ _ (λx=>hc (by simp[x])) e
 apart:=λi T h g hT=>by
  refine aQ λv=>fX g λ_ R U V=>?_;clear g;refine v ?_;simp only[bP,eh,eu]at hT;rcases hT with rfl|rfl|⟨j,d,rfl⟩
  ·exact R rfl
  ·exact U rfl
  ·exact V j d rfl
 done:=λs Q E ⟨a,S⟩ q=>by
  have hT:s.TypeIs (.ref z) "zip":=(aS _ S.zip rfl);unfold mE;refine ba (wpAny_attempt (us (name:=aK "__next__") hT C0 (rE C0 hT ady
   (aah (A:=A.in1) L r y (lG (by rw[H 0 y];exact cu _)) S λt e hk K=>?_) (adz _))))
  refine aQ λv=>aV K λo W hc=>?_;clear K;exact v (ba (wpAny_isInstance (T:="StopIteration") (b:=true) (aS o W hc) isSubtype_stop (cm (q t s.toks λc o hc e=>hk c o (λx=>hc (by simp[x])) (λx=>hc (by simp[x])) (λj d x=>hc (by rw[x];exact .tail _ (.tail _ (eh.mpr (aS j (by simpa using d) rfl))))) e))))
 self:=λi s Q E ⟨a,S⟩ q=>CQ S.zip q
end
noncomputable abbrev hX(z:dh):bK:={cls:=.type (if z.lst then "list_iterator" else "tuple_iterator"),data:=.fields #[.ref z.l,.int 0 0]}
section
variable{w:aZ}{A:bx}{s:aL}{E:aI->aL->Prop}
theorem sJ{z:dh}{Q:aI->aL->Prop}(a:z.At s.heap)(b:Q (.ref s.heap.objs.size) {s with heap:=s.heap.push (hX z)}):bc (model pw w) A (jP (.ref z.l)) Q E s:=by
 unfold dh.At at a;unfold hX at b;cases e:z.lst with
 |true=>simp only[e,if_true]at a b;exact Jz a b
 |false=>simp only[e,jc,if_false]at a b;exact wpAny_pyIter_tuple a b
theorem rX{z:dh}{h:bh}{i:aJ}(e:h.get? i=some (hX z)):z.It h i 0:=by
 unfold dh.It;split
 ·rename_i q;exact(cI _ e (by simp[q]) rfl)
 ·rename_i q;exact(cI _ e (by simp[q]) rfl)
theorem Zj(a b c:aI):checkTypeCall "zip" ⟨[a,b,c],[]⟩=pure ():=by kernel_rfl
theorem Xj(a b c:aI):checkBuiltinCall "zip.__new__" ⟨[.type "zip",a,b,c],[]⟩=pure ():=by kernel_rfl
theorem NH(a b c d:aI):argsOk "object.__init__" ⟨[a,b,c,d],[]⟩:=by
 unfold argsOk;rw[signature?_of (id:="object.__init__") (n:=['_','_','t','i','n','i','_','_']) (o:=['t','c','e','j','b','o']) (by kernel_rfl) PySem.F.owner_object];kernel_rfl
noncomputable def s8(a b:dh):Nat->dh
 |0=>a
 |_=>b
noncomputable def Ab(a b c:dh):Nat->dh
 |0=>a
 |1=>b
 |_=>c
noncomputable def lw(n:Nat)(j:Nat):Nat:=n+j
theorem Dp{n:Nat}{c:Nat->dh}{b:Nat}(h:∀ j,j<n->(c j).l<b):rf n c (lw b) (b+n+2) (b+n) (b+n+1):=by
 refine⟨?_,?_,?_,?_,?_,?_,?_,?_,?_,?_⟩
 ·exact dW (by lia)
 ·exact dW (by lia)
 ·exact dW (by lia)
 ·intro j a;exact dW (by unfold lw;lia)
 ·intro j a;exact dW (by unfold lw;exact(Nat.add_lt_add_left a _))
 ·intro j a;exact dW (by unfold lw;lia)
 ·intro j k _ _ q;exact Nat.add_left_cancel q
 ·intro j a;exact dW (ck (h j a) (by lia))
 ·intro j a;exact dW (ck (h j a) (by lia))
 ·intro j k a _;exact dW (ck (h j a) (dI _ _))
set_option maxHeartbeats 2000000 in
theorem SP{a b c:dh}{Q:aI->aL->Prop}(u:a.At s.heap)(v:b.At s.heap)(hc:c.At s.heap)
  (h:∀ f,kS 3 (Ab a b c) (lw s.heap.objs.size) (s.heap.objs.size+3+2) (s.heap.objs.size+3) (s.heap.objs.size+3+1) f (λ_=>0) .none [.none,.none,.none]->f.objs.size=s.heap.objs.size+6->
   (∀ c o,s.heap.get? c=some o->f.get? c=some o)->Q (.ref (s.heap.objs.size+3+2)) {s with heap:=f}) :
  bc (model pw w) A (call (.type "zip") [.ref a.l,.ref b.l,.ref c.l]) Q E s:=by
 let h1:=s.heap.push (hX a);let h2:=h1.push (hX b);let h3:=h2.push (hX c);let h4:=h3.push {cls:=.type "tuple",data:=.seq #[.ref s.heap.objs.size,.ref h1.objs.size,.ref h2.objs.size]};let h5:=h4.push {cls:=.type "tuple",data:=.seq #[.none,.none,.none]};let h6:=h5.push {cls:=.type "zip",data:=.fields #[.none,.bool false,.bool false,.ref h3.objs.size,.ref h4.objs.size]};refine JX (s:=s) adA rfl (Zj _ _ _) (Xj _ _ _) (λobj=>NH obj _ _ _) adB
  (S:=λC R D=>D.heap=s.heap/\R (.ok (.ret (.ref h5.objs.size))) {D with heap:=h6}) (.of_wp λC R D y=>?_) ⟨rfl,?_⟩
 ·obtain⟨G,g,d,k,os⟩:=D;refine bn y λhs hR=>?_;clear y;replace hs:G=s.heap:=hs;subst hs;have z:=sub_zip;have p1:b.At (yn ⟨s.heap.push (hX a),g,d,k,os⟩):=v.keep λo e=>cA _ e;have p2:c.At (yn ⟨(s.heap.push (hX a)).push (hX b),g,d,k,os⟩):=hc.keep λo e=>cA _ (cA _ e);have p0:a.At (yn ⟨s.heap,g,d,k,os⟩):=u
  wp_walk using sJ p0,sJ p1,sJ p2
  exact(aS _ rfl hR)
 ·have m:h1.objs.size=s.heap.objs.size+1:=eQ ..;have n:h2.objs.size=s.heap.objs.size+2:=by rw[eQ,m]
  have p:h3.objs.size=s.heap.objs.size+3:=by rw[eQ,n]
  have q:h4.objs.size=s.heap.objs.size+4:=by rw[eQ,p]
  have i:h5.objs.size=s.heap.objs.size+5:=by rw[eQ,q]
  have H:h6.objs.size=s.heap.objs.size+6:=by rw[eQ,i]
  have r:h6.get? h5.objs.size=some _:=dx _ rfl;have B:h6.get? h4.objs.size=some _:=cA _ (dx _ rfl);have g4:h6.get? h3.objs.size=some _:=cA _ (cA _ (dx _ rfl));have g3:h6.get? h2.objs.size=some (hX c):=cA _ (cA _ (cA _ (dx _ rfl)));have g2:h6.get? h1.objs.size=some (hX b):=cA _ (cA _ (cA _ (cA _ (dx _ rfl))));have g1:h6.get? s.heap.objs.size=some (hX a):=cA _ (cA _ (cA _ (cA _ (cA _ (dx _ rfl)))));have up:∀ c o,s.heap.get? c=some o->h6.get? c=some o:=λc o x=>cA _ (cA _ (cA _ (cA _ (cA _ (cA _ x)))));rw[p,q,i]at r;rw[m,n,p]at g4;rw[q]at B;rw[n]at g3;rw[m]at g2;refine⟨(aS _ (by rw[i];exact r) rfl),?_⟩;rw[i];refine h h6 ⟨r,g4,B,rfl,λj t=>?_,λj t=>?_⟩ H up
  ·match j,t with
   |0,_=>exact rX g1
   |1,_=>exact rX g2
   |2,_=>exact rX g3
  ·match j,t with
   |0,_=>exact u.keep λo e=>up _ o e
   |1,_=>exact v.keep λo e=>up _ o e
   |2,_=>exact hc.keep λo e=>up _ o e
end
noncomputable def ra(l m r:List T):List T:=(l.zip (m.zip r)).map λp=>T.tup [p.1,p.2.1,p.2.2]
noncomputable def zg(f g h:aP):jn:=λO Y=>(f O Y).bind λa=>(g O a.2).bind λb=>(h O b.2).bind λc=>if b.1.ow=none/\c.1.ow=none then a.1.tup?.bind λl=>b.1.lst?.bind λm=>c.1.lst?.bind λr=>
 if m.length=l.length/\r.length=l.length then some (ra l m r,c.2)else none else none
theorem OE{l m r:List T}{i:Nat}{t:T}(h:(ra l m r)[i]?=some t):∃ a b c,l[i]?=some a/\m[i]?=some b/\r[i]?=some c/\t=T.tup [a,b,c]:=
 aV (xZ.mp (fR.symm.trans h)) λp d e=>bn (CM.mp d) λh1 h2=>bn (CM.mp h2) λh3 h4=>(fy _ _ _ h1 h3 h4 e.symm)
theorem UL{l m r:List T}(h1:m.length=l.length)(h2:r.length=l.length):(ra l m r).length=l.length:=by
 unfold ra;rw[dm,adC,adC,h1,h2,Nat.min_self,Nat.min_self]
theorem AW{n:Nat}{a:Nat->dh}{e:Nat->aJ}{z f g:aJ}{h:bh}{k:Nat->Nat}{l:aI}{c:List aI}(S:kS n a e z f g h k l c):
  ∀ b∈(z::f::g::((aO n).map e++(aO n).map λj=>(a j).l)),b<h.objs.size:=λb i=>by
 simp only[bP,fQ,eh,eu]at i;rcases i with rfl|rfl|rfl|⟨j,d,rfl⟩|⟨j,d,rfl⟩
 ·exact cg S.zip
 ·exact cg S.ti
 ·exact cg S.to
 ·exact(S.its j d).lt
 ·exact(S.ats j d).lt
theorem aa3 (hh:A.handled=none) {p pos:br} {e1 e2 e3:Expr} {f g h:aP} (hx:F.env.kindOf (aK "zip")=some .globalImplicit) (n:aN w A F [e1,e2,e3] [f,g,h]) :
  gL w A F (.Call (.Name (aK "zip") p) [e1,e2,e3] [] pos) true none (zg f g h):=λJ O Y items ν' Z s H=>bJ λx G q1=>bJ λy ah q2=>bJ λx3 V q3=>cb λo=>aX λl X=>aX λm q5=>aX λr q6=>cb λa=>g8 λQ E hQ=>by
 have hp:=ee n.plain;have hd:eT [f,g,h] O Y=some ([x,y,x3],V):=lp q1 (lp q2 (lp q3 rfl));refine gN rfl (ia H hx (v:=.type "zip") rfl ?_ rfl);refine kb (n.as H hd _ _ λvs Z1 d e r1=>?_) (eG hp.1) (ji hp.2);refine aQ λq=>?_;have k:=H.next e;refine bG r1 λv1 vr y2 r2 rr=>bG (cT.two rr) λv2 v3 y6 r3 r4=>bG (RX.tup k.on r2 X) λa1 u z1 a0 z=>bG (RX.lst k.on r3 q5) λa2 B z2 a4 C=>bG (RX.lst k.on r4 q6) λa3 I z3 a5 K=>q ?_;clear q rr;subst y2 y6 z1 z2 z3;let c1:dh:=⟨false,a1,u⟩;let c2:dh:=⟨true,a2,B⟩;let c3:dh:=⟨true,a3,I⟩;have t1:c1.At d.heap:=a0;have t2:c2.At d.heap:=a4;have t3:c3.At d.heap:=a5;refine SP t1 t2 t3 λh' b1 b2 b3=>?_;have N2:=e.trans (k.grow b3 (by rw[b2];exact dI _ _));refine CQ b1.zip ?_;have sz:=e.size;have hl:∀ j,j<3->(Ab c1 c2 c3 j).l<d.heap.objs.size:=A4 t1.lt t2.lt t3.lt;have hm:∀ j,j<3->(Ab c1 c2 c3 j).vs.length=l.length:=A4 (bm.length z) ((bm.length C).trans a.1) ((bm.length K).trans a.2);have WT:=WalksT.zipn (w:=w) (A:=A) hh (by decide) (by decide) (Dp hl) l.length hm;refine we H N2 (It.ofT WT (λZ=>bm w Z l u/\bm w Z m B/\bm w Z r I) (λZ Z' g hz=>⟨bm.mono hz _ g.1,bm.mono hz _ g.2.1,bm.mono hz _ g.2.2⟩) (ra l m r) (UL a.1 a.2) (λi af Z t g ht a6=>?_) (λi h ⟨ag,S⟩=>AW S)) (λb hb=>?_)
  (λhw=>⟨⟨lA _,_,b1⟩,⟨z,C,K⟩,hw⟩) (λb L=>?_) hQ
 ·refine aQ λq=>gC (OE ht) λx' y' z' a7 a8 a9 y6=>ej a6 λl' y1 aa c=>eZ (Tl l' aa) λu1 u2 u3 y2=>aV (bm.get g.1 a7) λw1 ab M=>aV (bm.get g.2.1 a8) λw2 ad N=>aV (bm.get g.2.2 a9) λw3 ae P=>q ?_;clear q;subst y6 y2 y1;obtain rfl:w1=u1:=bw (ab.symm.trans (c 0 (by decide)));obtain rfl:w2=u2:=bw (ad.symm.trans (c 1 (by decide)));obtain rfl:w3=u3:=bw (ae.symm.trans (c 2 (by decide)));exact⟨_,rfl,_,_,rfl,M,_,_,rfl,N,_,_,rfl,P,rfl⟩
 ·simp only[bP,eh,eu]at hb;have:d.heap.objs.size<=b:=by
   rcases hb with rfl|rfl|⟨j,_,rfl⟩
   ·exact bg (dI _ 3) (dI _ 2)
   ·exact bg (dI _ 3) (dI _ 1)
   ·exact dI _ _
  exact⟨bg sz this,dL k this⟩
 ·have old:∀ R,d.heap.objs.size<=R->s.heap.objs.size<=R/\F.nt≠some R:=λR h=>⟨bg sz h,(dL k h).2⟩;have bt:x.box=true/\x.ow=none:=by
   cases x with
   |v t=>cases t with
    |tup l=>exact⟨rfl,rfl⟩
    |_=>exact bD X
   |_=>exact bD X
  have f1:=oD H e bt.1 r2;have f2:=oD H e (sx q5) r3;have f3:=oD H e (sx q6) r4;rw[bt.2]at f1;rw[o.1]at f2;rw[o.2]at f3;simp only[bP,fQ,eh,eu]at L;rcases L with rfl|rfl|rfl|⟨j,_,rfl⟩|⟨j,hj,rfl⟩
  ·exact .inl (old _ (bg (dI _ 3) (dI _ 2)))
  ·exact .inl (old _ (dI _ _))
  ·exact .inl (old _ (bg (dI _ 3) (dI _ 1)))
  ·exact .inl (old _ (dI _ _))
  ·revert j;exact A4 (.inr f1) (.inr f2) (.inr f3)
theorem Nr(P:bX):(HF P).get? 4=some (rW P):=by kernel_rfl
theorem Io(P:bX):(HF P).get? 55=some (Hb P):=by kernel_rfl
theorem Ky(P:bX):(rB (gE P) "__builtins__"==some (.ref 4))=true:=by kernel_rfl
theorem SN(P:bX):(rW P).cls=.type "module":=by kernel_rfl
theorem KV(P:bX):(rW P).dict=some nV:=by kernel_rfl
theorem Xr(P:bX):(rW P).data=.plain:=by kernel_rfl
theorem UZ(H:St w F J Z O Y s){Q:aJ->aL->Prop}{E:aI->aL->Prop}(h:Q nV s):bc (model pw w) A (builtinsFor F.env.globals F.env.builtins) Q E s:=by
 refine wpAny_builtinsFor (by rw[H.ok.eg];exact zu H.md H.on) (dN (Ky w.params)) (by decide) (i7 H.md H.on (Nr _) (by decide)) (SN _) (KV _) (Xr _) h
theorem Mv(H:St w F J Z O Y s)(c:F.env.code=.ref kY){pos:br}{G:Str}{d:Scope}{Q:aI->aL->Prop}{E:aI->aL->Prop}
  (B:∀ code f p,Nx w F.nt Z s Z Y {s with heap:=f,toks:=p}->(∀ b o,b≠eB->s.heap.get? b=some o->f.get? b=some o)->Q code {s with heap:=f,toks:=p}) :
  bc (model pw w) A (genexprCode F.env pos G d) Q E s:=by
 refine aQ λI=>aV H.tab λg l h=>I ?_;have K:s.heap.get? kY=some (Hb w.params):=i7 H.md H.on (Io _) (by decide);have i:s.heap.IsCode kY eB g:=(MT _ _ _ _ _ _ _ _ _ _ ⟨K,rfl,rfl,rfl,rfl,rfl,rfl,l.2,rfl,h,(by decide)⟩);cases j:codeAmong pos g.toList with
 |some L=>exact wpAny_genexprCode_hit c i j (B L s.heap s.toks (H.tok _) λb o _ e=>e)
 |none=>
  refine e9 (wpAny_genexprCodeX c i l j λr f p m _ _ C _ t _ u=>?_);have k:TriplesOk (g++#[gY pos.line,gY pos.col,.ref r]).toList:=by
   have M:(g++#[gY pos.line,gY pos.col,rM r]).toList=g.toList++[gY pos.line,gY pos.col,.ref r]:=by simp
   rw[M];exact TriplesOk_snoc _ _ _ _ h
  refine B _ _ _ ⟨.refl _,λ_ _=>rfl,λb o e=>m b o (λq=>by rw[q,H.md.2]at e;cases e) (H.on _ _ e),λb o v e=>m b o (λq=>v (.inr q)) e,u,?_,id,rfl,λz f=>?_⟩ (λb o v e=>m b o v e)
  ·exact H.nts.imp (.refl _) (λ_ _ x=>x) λa P _ y=>mY y λo e=>m a o (λN=>aU y λn y=>nomatch (N▸y).symm.trans l.2) e
  ·have:z=g:=by
    have h1:=f.1.2;rw[l.2]at h1;cases h1;rfl
   subst this;exact(aS _ t k)
theorem YD{a b:dh}{Q:aI->aL->Prop}{E:aI->aL->Prop}(r:a.At s.heap)(t:b.At s.heap)
  (h:∀ f,kS 2 (s8 a b) (lw s.heap.objs.size) (s.heap.objs.size+2+2) (s.heap.objs.size+2) (s.heap.objs.size+2+1) f (λ_=>0) .none [.none,.none]->f.objs.size=s.heap.objs.size+5->
   (∀ c o,s.heap.get? c=some o->f.get? c=some o)->Q (.ref (s.heap.objs.size+2+2)) {s with heap:=f}) :
  bc (model pw w) A (call (.type "zip") [.ref a.l,.ref b.l]) Q E s:=by
 let h1:=s.heap.push (hX a);let h2:=h1.push (hX b);let h4:=h2.push {cls:=.type "tuple",data:=.seq #[.ref s.heap.objs.size,.ref h1.objs.size]};let h5:=h4.push {cls:=.type "tuple",data:=.seq #[.none,.none]};let h6:=h5.push {cls:=.type "zip",data:=.fields #[.none,.bool false,.bool false,.ref h2.objs.size,.ref h4.objs.size]};refine JX (s:=s) adA rfl (PySem.F.typeCall_zip_2 _ _) (PySem.F.newCall_zip_2 _ _) (λobj=>PySem.F.args_object_init_3 obj _ _) adB
  (S:=λB R D=>D.heap=s.heap/\R (.ok (.ret (.ref h5.objs.size))) {D with heap:=h6}) (.of_wp λB R D u=>?_) ⟨rfl,?_⟩
 ·obtain⟨C,g,d,v,os⟩:=D;refine bn u λhs hR=>?_;clear u;replace hs:C=s.heap:=hs;subst hs;have y:=sub_zip;have p1:b.At (yn ⟨s.heap.push (hX a),g,d,v,os⟩):=t.keep λo e=>cA _ e;have p0:a.At (yn ⟨s.heap,g,d,v,os⟩):=r
  wp_walk using sJ p0,sJ p1
  exact(aS _ rfl hR)
 ·have k:h1.objs.size=s.heap.objs.size+1:=eQ ..;have m:h2.objs.size=s.heap.objs.size+2:=by rw[eQ,k]
  have n:h4.objs.size=s.heap.objs.size+3:=by rw[eQ,m]
  have i:h5.objs.size=s.heap.objs.size+4:=by rw[eQ,n]
  have G:h6.objs.size=s.heap.objs.size+5:=by rw[eQ,i]
  have p:h6.get? h5.objs.size=some _:=dx _ rfl;have z:h6.get? h4.objs.size=some _:=cA _ (dx _ rfl);have g4:h6.get? h2.objs.size=some _:=cA _ (cA _ (dx _ rfl));have g2:h6.get? h1.objs.size=some (hX b):=cA _ (cA _ (cA _ (dx _ rfl)));have g1:h6.get? s.heap.objs.size=some (hX a):=cA _ (cA _ (cA _ (cA _ (dx _ rfl))));have up:∀ c o,s.heap.get? c=some o->h6.get? c=some o:=λc o x=>cA _ (cA _ (cA _ (cA _ (cA _ x))));rw[m,n,i]at p;rw[k,m]at g4;rw[n]at z;rw[k]at g2;refine⟨(aS _ (by rw[i];exact p) rfl),?_⟩;rw[i];refine h h6 ⟨p,g4,z,rfl,λj q=>?_,λj q=>?_⟩ G up
  ·match j,q with
   |0,_=>exact rX g1
   |1,_=>exact rX g2
  ·match j,q with
   |0,_=>exact r.keep λo e=>up _ o e
   |1,_=>exact t.keep λo e=>up _ o e
noncomputable def tR:List T->List T->Option (List T)
 |[],m=>if m.isEmpty=true then some []else none
 |a::l,m=>a.int?.bind λa=>m.head?.bind λb=>b.int?.bind λb=>(tR l m.tail).map (.int (a+b)::·)
noncomputable def Bf(f g:aP):aP:=λO Y=>(f O Y).bind λa=>(g O a.2).bind λb=>a.1.tup?.bind λl=>b.1.tup?.bind λm=>if l.length<=1000 then(tR l m).map λr=>(.v (.tup r),b.2)else none
theorem Ic:∀ {l m r:List T},tR l m=some r->l.length=r.length/\m.length=r.length
 |[],m,r=>cb λh1 h=>bw h▸⟨rfl,congrArg j9 (nX.mp h1)⟩
 |a::l,[],r=>aX λ_ _=>bD
 |a::l,b::m,r=>aX λc _=>aX λ_ _=>aX λd _=>ca λf e h=>h▸bn (Ic (m:=m) e) λh1 h2=>⟨congrArg (·+1) h1,congrArg (·+1) h2⟩
theorem BY:∀ {l m r:List T},tR l m=some r->∀ {i:Nat} {t:T},r[i]?=some t->∃ a b,l[i]?=some (.int a)/\m[i]?=some (.int b)/\t=.int (a+b)
 |[],m,r=>cb λ_ h i t e=>bD (show([]:List T)[i]?=_ from bw h▸e)
 |a::l,[],r=>aX λ_ _=>bD
 |a::l,b::m,r=>aX λd f=>aX λc g=>aX λj k=>ca λo e h i t=>by
  obtain rfl:=bw g;subst h;refine T.int_eq f▸T.int_eq k▸?_;cases i with
  |zero=>exact λe=>(cE d j rfl rfl ((bw e).symm))
  |succ i=>exact λn=>BY (m:=m) e (i:=i) n
noncomputable def acj:Scope:={kind:=PySem.ScopeKind.function,names:=[(aK ".0",PySem.NameKind.local),(aK "i",PySem.NameKind.local),(aK "j",PySem.NameKind.local)],isGenerator:=true,isCoroutine:=false,more:=[]}
theorem F2(n:Nat):passing (λ_=>true) n 0=aO n:=by unfold passing;simp
theorem ab9:∀ {l:List T} {a:List aI},a.length=l.length->(∀ (i:Nat) (t:T) (v:aI),l[i]?=some t->a[i]?=some v->Rd w Z t v)->bm w Z l a:=by
 intro b;induction b with
 |nil=>
  intro c;cases c with
  |nil=>
   intro _ _;exact rfl
  |cons v a=>
   intro h _;exact nomatch h
 |cons t l d=>
  intro e;cases e with
  |nil=>
   intro h _;exact nomatch h
  |cons v a=>
   intro h k;exact(cE v a rfl (k 0 t v rfl rfl) (d (yg h) λi=>k (i+1)))
theorem Wd (hh:A.handled=none) (M:A.depth<recursionLimit) (N:F.env.code=.ref kY) {q p1 p2 p3 p4 p5 p6 p7 pos a0 pc:br} {kt:Nat} {R I:Expr} {f g:aP} (hx:F.env.kindOf (aK "tuple")=some .globalImplicit)
  (ai:F.env.kindOf (aK "zip")=some .globalImplicit) (h1:bu w A F R f) (h2:bu w A F I g) (aj:dQ R=true) (ak:dQ I=true) :
  bu w A F (.Call (.Name (aK "tuple") q) [.GeneratorExp (.BinOp (.Name (aK "i") p1) .Add (.Name (aK "j") p2) p3)
   [⟨.Tuple [.Name (aK "i") p4,.Name (aK "j") p5] kt p6,.Call (.Name (aK "zip") p7) [R,I] [] pc,[],0⟩] acj pos] [] a0) (Bf f g):=λJ O Y x ν' Z s H=>bJ λx G q1=>bJ λy P q2=>aX λl q4=>aX λm q5=>cb λa3=>ca λr q6=>dU λQ E hQ=>by
 have a4:aN w A F [R,I] [f,g]:=aN.cons h1 aj (aN.cons h2 ak aN.nil);refine bn (Ic q6) λa5 al=>?_;have hp:=ee a4.plain;have hd:eT [f,g] O Y=some ([x,y],P):=lp q1 (lp q2 rfl);refine gN rfl (ia H hx (v:=.type "tuple") rfl ?_ rfl);refine kb (lF ?_ (eG rfl)) (eG rfl) rfl;refine wpAny_GeneratorExp_walksQT (cl:=[]) hh rfl rfl (by decide) rfl rfl rfl (by decide) rfl M ?_ (λ_=>rfl);refine DL λQ1 an=>gN rfl (ia H ai (v:=.type "zip") rfl ?_ rfl);refine kb (a4.as H hd _ _ λvs Z1 d V r1=>?_) (eG hp.1) (ji hp.2);have X:=H.next V;refine aQ λK=>bG (cT.two r1) λv1 v2 y2 r2 r3=>bG (RX.tup X.on r2 q4) λa1 a6 z1 t1 a7=>bG (RX.tup X.on r3 q5) λa2 a8 z2 t2 a9=>K ?_;clear K;subst y2 z1 z2;let c1:dh:=⟨false,a1,a6⟩;let c2:dh:=⟨false,a2,a8⟩;replace t1:c1.At d.heap:=t1;replace t2:c2.At d.heap:=t2;refine YD t1 t2 λh' b1 b2 b3=>?_;have N2:=V.trans (X.grow b3 (by refine b2▸?_;exact dI _ _));have H2:=H.next N2;refine an _ _ (CQ b1.zip ⟨tL H2.md H2.on,DL λQ2 ao=>?_⟩);refine Mv H2 N λcode h3 aG N3 k3=>?_;have H3:=H2.next N3;have aq:=N2.trans N3;refine ao _ _ (UZ H3 ?_);have hl:∀ j,j<2->(s8 c1 c2 j).l<d.heap.objs.size:=nz t1.lt t2.lt;have hm:∀ j,j<2->(s8 c1 c2 j).vs.length=r.length:=nz ((bm.length a7).trans a5) ((bm.length a9).trans al);have S3:kS 2 (s8 c1 c2) (lw d.heap.objs.size) (d.heap.objs.size+2+2) (d.heap.objs.size+2) (d.heap.objs.size+2+1) h3 (λ_=>0) .none [.none,.none]:=by
  have L:∀ {b o},h'.get? b=some o->b≠eB->h3.get? b=some o:=λe n=>k3 _ _ n e;have p:171<=d.heap.objs.size:=bg H.ok.big (bg H.low V.size);have ne:∀ k,d.heap.objs.size+k≠eB:=λk=>nS (ck (show(51:Nat)<171 by decide) (bg p (dI _ _)));have nt:∀ {a:aJ} {vs:Array aI},d.heap.IsTuple a vs->a≠eB:=λx e=>aV X.tab λps ht _=>ej x λo ho hc _=>by
   replace ho:=ht.2▸e▸ho;replace hc:=(bw ho).symm▸hc;exact nomatch hc
  have nl:∀ j,j<2->(s8 c1 c2 j).l≠eB:=nz (nt t1) (nt t2);exact⟨L b1.zip (ne 4),L b1.ti (ne 2),L b1.to (ne 3),rfl,λj hj=>(b1.its j hj).keep λo e=>L e (ne j),λj hj=>(b1.ats j hj).keep λo e=>L e (nl j hj)⟩
 have aa:∀ b∈((d.heap.objs.size+2+2)::(d.heap.objs.size+2+1)::(aO 2).map (lw d.heap.objs.size)),d.heap.objs.size<=b:=λb c=>by
  simp only[bP,eh,eu]at c;rcases c with rfl|rfl|⟨j,_,rfl⟩
  ·exact bg (dI _ 2) (dI _ 2)
  ·exact bg (dI _ 2) (dI _ 1)
  ·exact dI _ _
 refine(aam _ _ _ r.length _ _ _ (λ_=>true) (λi y=>∃ a b t,l[i]?=some (.int a)/\m[i]?=some (.int b)/\y=.int (a+b) t) ⟨rfl,(λA' hA=>(WalksT.zipn (w:=w) (A:=A') hA (by decide) (by decide) (Dp hl) r.length hm).toU.bound),?_,⟨_,S3⟩,?_,tL H3.md H3.on,?_,?_,?_⟩)
 ·exact λi aE hP=>ej hP.2 λl' e ab _=>gQ (Re l' ab) λu1 u2 I=>(dA u1 u2 (I▸e))
 ·exact AW S3
 ·intro hc;have:=aa _ hc;have p:171<=d.heap.objs.size:=bg H.ok.big (bg H.low V.size);exact absurd (bg p this) (by decide)
 ·refine λaF hk=>⟨λA' E' i va vb s2 m2 hA hP hn ha c ar=>?_,λA' E' i va vb s2 m2 hA hP _ hn ha c ar=>?_⟩
  ·rw[Ck];exact cm ⟨rfl,(iz s2.heap s2.toks rfl (λ_ _ e=>e))⟩
  ·refine u4 hP λau l' e' ab ad=>?_;clear hP;have I:l'=[va,vb]:=(congrArg Array.toList e').symm;subst I;have k0:a6[i]?=some va:=ad 0 (by decide);have k1:a8[i]?=some vb:=ad 1 (by decide);refine aQ λK=>bG (BY q6 (gv au)) λa b ea eb _=>aV (bm.get a7 ea) λw1 av d1=>aV (bm.get a9 eb) λw2 aw d2=>aU d1 λta y1=>aU d2 λtb y2=>K ?_;clear K;obtain rfl:va=_:=(bw (k0.symm.trans av)).trans y1;obtain rfl:vb=_:=(bw (k1.symm.trans aw)).trans y2;refine xW (rz (xV rfl rfl hn ha ?_) rfl);refine rz (xV rfl rfl hn c ?_) rfl;refine add_int ⟨⟨a,b,_,ea,eb,rfl⟩,(iz s2.heap _ rfl (λ_ _ e=>e))⟩
 ·intro a h5 ae gs ax z B ay WS hG;have af:=H3.growT (tk:=ae) ay (by refine B▸?_;exact j8 (rJ z));have az:Nx w F.nt Z1 _ Z1 P {d with gens:=d.gens.push gs,toks:=ae,heap:=h5}:={af with gens:=λh=>AllBare.push (af.gens h) ax,os:=rfl};have N5:=aq.trans az;have H5:=H.next N5;have aA:d.heap.objs.size<=h3.objs.size:=bg (by refine b2▸?_;exact dI _ _) N3.size;have u:∀ b∈(h3.objs.size::(d.heap.objs.size+2+2)::(d.heap.objs.size+2+1)::(aO 2).map (lw d.heap.objs.size)),d.heap.objs.size<=b:=λb c=>by
   rcases bP.mp c with rfl|c
   ·exact aA
   ·exact aa b c
  have ag:∀ b∈(h3.objs.size::(d.heap.objs.size+2+2)::(d.heap.objs.size+2+1)::(aO 2).map (lw d.heap.objs.size)),b<a:=λb c=>by
   rcases bP.mp c with rfl|c
   ·exact z
   ·refine ck ?_ (j8 z);refine AW S3 b ?_;simp only[bP,fQ]at c ⊢;rcases c with c|c|c
    ·exact .inl c
    ·exact .inr (.inr (.inl c))
    ·exact .inr (.inr (.inr (.inl c)))
  refine nW (call_tuple_gen WS.in4_3 (λi D st=>st.1.typeIs) hG ?_ Cr (λs6 ah hm C=>?_) ?_)
  ·intro b c;show b<h5.objs.size;refine B▸?_;rcases bP.mp c with rfl|c
   ·exact o7 _
   ·rcases bP.mp c with rfl|c
    ·exact rJ z
    ·exact rJ (tY (eu.mp c) z)
  ·have aB:h5.objs.size<=s6.heap.objs.size:=by
    refine aQ λK=>lV hG.1 λo _ _ ho _=>K ?_;have:=cg (hm.heap a o (λq=>cQ _ (ag a q)) ho);refine B▸?_;exact this
   have p:171<=d.heap.objs.size:=bg H.ok.big (bg H.low V.size);have aC:=eI (tk:=s6.toks) (h':=s6.heap) H5.nts H5.on (λb c=>⟨(dL X (u b c)).1,bg p (u b c),(dL X (u b c)).2⟩) (λb o c e=>hm.heap b o c e) aB;have aD:cY w F.nt _ Z1 _ Z1 P s6:={aC with gens:=λh=>AllBare.movedS h hm,os:=hm.os};have N6:=((N5.toW _).trans aD).nx λb c=>bg V.size (u b c);have N7:=N6.push {cls:=.type "tuple",data:=.seq ah};have L:=N6.fresh;rw[F2,kc]at C;refine hQ _ _ _ (N7.put N6.size L N6.freshN) (fy _ _ ah.toList rfl (gM.trans (dx _ rfl)) ⟨rfl,0,by simp⟩ (bm.mono (gc L) _ (ab9 (by simpa using C.1) λi t v h1 h2=>?_)));refine aQ λK=>QR (C.2 i v (by simpa using h2)) λk R a' b' aH I e3 y7=>bG (BY q6 h1) λa2 b2 e4 e5 y4=>K ?_;obtain rfl:i=k:=bw ((rD (je.mp h1).1).symm.trans R);obtain rfl:=T.int.inj (bw (e4.symm.trans I));obtain rfl:=T.int.inj (bw (e5.symm.trans e3));exact y4▸y7▸(jZ _)
  ·rw[F2,kc,<- a5];exact bg a3 (by decide)
noncomputable def KC(P:bX):Frag:=[28,35,37,38,39,40].map λa=>(a,((HF P).get? a).getD default)
theorem pt{w:aZ}{Z:Fz}{h:bh}(M:Md w Z)(g:On Z h):(KC w.params).In h:=by
 have key:∀ l:List aJ,(∀ a∈l,a≠eB/\(HF w.params).get? a=some (((HF w.params).get? a).getD default))->Frag.In (l.map λa=>(a,((HF w.params).get? a).getD default)) h:=by
  intro l;induction l with
  |nil=>intro _ a o e;exact bD e
  |cons b l i=>
   intro d a o e;revert e;refine Bt (λq e=>?_) λe=>i (λc hc=>d c (.tail _ hc)) a o e;obtain rfl:=dN q;exact bn (d a (.head _)) λh1 h2=>e▸i7 M g h2 h1
 exact key _ λa f=>by
  simp only[bP,dP,or_false]at f;rcases f with rfl|rfl|rfl|rfl|rfl|rfl<;>exact⟨by decide,by kernel_rfl⟩
section
variable(P:bX)
theorem abQ:makesIn (KC P) eS=true:=by kernel_rfl
theorem abk:keepIn (KC P) (.ref eS)=true:=by kernel_rfl
theorem ab4:findIn (KC P) (.ref eS) "__init__"=some (some (.ref 28)):=by kernel_rfl
theorem Ll:typeIn (KC P) (.ref 28)=some (.type "function"):=by kernel_rfl
theorem K5:findIn (KC P) (.ref eS) "__setattr__"=some (some (.builtin "object.__setattr__")):=by kernel_rfl
theorem Tf:plainOver (KC P) eS=true:=by kernel_rfl
theorem S2:takerIn (KC P) eS (aK "comp_select_list")=some none:=by kernel_rfl
theorem FM:hasDictIn (KC P) eS=true:=by kernel_rfl
theorem Pq:plainGet (KC P) eS (aK "comp_select_list")=true:=by kernel_rfl
theorem VL:findIn (KC P) (.ref eS) (aK "comp_select_list")=some none:=by kernel_rfl
theorem Nk:noGet (KC P) none=true:=by kernel_rfl
theorem ID:plainGet (KC P) eS (aK "compare")=true:=by kernel_rfl
theorem Lh:findIn (KC P) (.ref eS) (aK "compare")=some (some (.ref 35)):=by kernel_rfl
theorem Ql:isFn (KC P) (.ref 35)=true:=by kernel_rfl
end
noncomputable def AY(f:aP):aP:=λO Y=>(f O Y).bind λa=>a.1.t?.map λt=>(.v (.inst t),a.2)
theorem UJ(P:bX):(HF P).get? 28=some (Nu P):=by kernel_rfl
theorem NV(P:bX):(HF P).get? 27=some (Uv P):=by kernel_rfl
theorem RZ{n:Nat}(hR:di (n+1) A)(H:St w F J Z O Y s){v:aI}{Q:aI->aL->Prop}{E:aI->aL->Prop}
  (I:∀ c y f L m,(∀ b o,s.heap.get? b=some o->c.get? b=some o)->s.heap.objs.size<=c.objs.size->s.heap.objs.size<=f->c.get? f=some (dictOf [⟨L,.str (aK "comp_select_list") m,v⟩] 1)->
   c.get? (f+1)=some (lE eS f)->Q (.ref (f+1)) {s with heap:=c,toks:=y}):bc (model pw w) A (call (.ref eS) [v]) Q E s:=by
 have X:=pt H.md H.on;refine e9 (wpAny_call (aQ λM=>?_));obtain⟨a,g,d,y,os⟩:=s;refine M (make_core (makes_of X (abQ _)) (looks_findIn X (ab4 _)) (λself=>bind_fn X self (Ll _)) (.inl rfl) ?_);have up:∀ b o,a.get? b=some o->((a.push uz).push (lE eS a.objs.size)).get? b=some o:=λb o e=>cA _ (cA _ e);refine JJ (by have:=hR.d;show A.depth+1<1000;exact ZK this) (up _ _ (i7 H.md H.on (UJ _) (by decide))) rfl (by kernel_rfl) (by kernel_rfl) rfl
  (wY _ _ _ _ ⟨rfl,up _ _ (i7 H.md H.on (NV _) (by decide)),rfl,rfl⟩) ?_
 rw[show yf _ _=pure [(aK "self",rM (a.objs.size+1)),(aK "comp_select_list",v)]from by kernel_rfl];refine cm (wpAny_newFunctionEnv (by decide) (λx z=>by simp only[bP,dP,or_false]at z;rcases z with rfl|rfl<;>rfl) (λh3 l hs=>⟨?_,JK (JH ?_)⟩))
 ·have:=(tL H.md H.on).keeps up;exact this.keeps λb o e=>hs.extBut b o (dW (cg e)) (cA _ e)
 ·have keep:∀ b o,a.get? b=some o->h3.get? b=some o:=λb o e=>hs.extBut b o (dW (cg (up b o e))) (cA _ (up b o e));refine plainObj_wpAny_Assign_Attribute ?_ rfl;refine rz (xV (v:=v) rfl rfl l (by kernel_rfl) ?_) rfl;refine rz (xV (v:=.ref (a.objs.size+1)) rfl rfl l (by kernel_rfl) ?_) rfl;have r:((a.push uz).push (lE eS a.objs.size)).objs.size=a.objs.size+2:=by rw[eQ,eQ]
  have i:∀ b o,((a.push uz).push (lE eS a.objs.size)).get? b=some o->h3.get? b=some o:=λb o e=>hs.extBut b o (dW (cg e)) (cA _ e);have g1:h3.get? a.objs.size=some (dictOf [] 0):=i _ _ (cA _ (dx _ rfl));have g2:h3.get? (a.objs.size+1)=some (lE eS a.objs.size):=i _ _ (by have:=dx (a.push uz) (o:=lE eS a.objs.size) rfl;rwa [eQ]at this);have B:∀ k,a.get? (a.objs.size+k)=none:=λk=>by
   cases q:a.get? (a.objs.size+k)with
   |none=>rfl
   |some o=>exact absurd (cg q) (lC.mpr (dI _ _))
  have t:Fr a _ h3 _:=⟨l,keep,by show a.objs.size<=((a.push uz).push (lE eS a.objs.size)).objs.size;rw[r];exact dI _ _⟩;have N:News a ((a.push uz).push (lE eS a.objs.size)).objs.size h3 [(a.objs.size+1,lE eS a.objs.size),(a.objs.size,dictOf [] 0)]:=λp j=>by
   simp only[bP,dP,or_false]at j;rcases j with rfl|rfl
   ·exact⟨g2,by rw[r];exact dW (o7 _),B 1⟩
   ·exact⟨g1,by rw[r];exact dW (I7 (by decide)),B 0⟩
  refine set_dict (C:=eS) (K:=KC w.params) t X N ⟨g2,rfl,rfl,g1⟩ rfl (K5 _) (Tf _) (S2 _) (FM _) rfl rfl (.tail (adD _) (.head (λ_ h=>nomatch h))) (show 1<=1000 by decide) λh4 P G=>JG ⟨rfl,λu=>?_⟩;exact I _ _ a.objs.size _ _ P.keep u (cu _) (G _ (.tail _ (.head _))).1 (G _ (.head _)).1
noncomputable def uR(f:aP):aP:=λO Y=>(f O Y).bind λa=>a.1.inst?.map λt=>(.v t,a.2)
noncomputable def s9(f:aP)(c:List aP)(k:List X->List T->Option (X×List T)):aP:=λO Y=>(f O Y).bind λa=>a.1.inst?.bind λt=>(eT c O a.2).bind λb=>k (.v (.inst t)::b.1) b.2
theorem K8 {n:Nat} (hR:di (n+1) A) {p pos:br} {e:Expr} {f:aP} (q:F.env.kindOf (aK "TupleComp")=some .globalImplicit) (j:dQ e=true) (h:bu w A F e f) :
  bu w A F (.Call (.Name (aK "TupleComp") p) [e] [] pos) (AY f):=λJ O Y x ν' Z s H=>bJ λx G r=>ca λt u=>dU λQ E y=>by
 refine gN rfl (uT H q (v:=.ref eS) rfl ?_ rfl);refine callWith_K (pt H.md H.on) (abk _) ?_ (eG j) rfl;refine gp.one H ((h H r).frz u) j _ _ λV g X c z=>aV (cT.one z) λv B C=>?_;subst B;have b:=H.next c;refine⟨pt b.md b.on,RZ hR b λI K d L m k M a g1 g2=>?_⟩;have l:=c.trans (b.growT (tk:=K) k M);have H2:=H.next l;have o:g d=none:=(dL b a).1;have N:g (d+1)=none:=(dL b (uh a)).1;have P:=l.put (bg c.size a) o (dL b a).2;have i:put g I d (d+1)=none:=(jF (adD _)).trans N;have R:=P.put (bg c.size (uh a)) i (dL b (uh a)).2;exact y _ _ _ R (qE _ _ _ _ _ ⟨rfl,gM.trans g2,rfl,gc i _ _ (gM.trans g1),(dH L m 1 rfl),Rd.mono ((gc o).trans (gc i)) _ C⟩)
theorem EB(H:St w F J Z O Y s){t:T}{v:aI}(r:Rd w Z (.inst t) v):∃ a hs y k n d,v=.ref a/\InstAt s.heap a (lE eS d) eS (some (dictOf [⟨hs,.str (aK "comp_select_list") k,y⟩] n))/\Rd w Z t y:=
 GN r λa o d g y b h1 c h2 e f=>eZ e λhs k n y=>(wA a hs _ k n d ⟨b,⟨(H.on _ _ h1).trans (congrArg some c),rfl,rfl,(H.on _ _ h2).trans (congrArg some y)⟩,f⟩)
theorem Og{t:T}{i:String}(r:Rd w Z t (.builtin i)):False:=by
 cases t with
 |none|bool _=>exact nomatch (r:Jk i=_)
 |int _|flt _|str _=>exact aU r λ_ e=>nomatch e
 |tup _|lst _|dct _=>exact lV r λ_ _ _ e _=>nomatch e
 |inst _=>exact DU r λ_ _ _ _ _ e _=>nomatch e
theorem Oc{x:Str}{c pos:br}{f:aP}(h:bu w A F (.Name x c) f):bu w A F (.Attribute (.Name x c) (aK "comp_select_list") pos) (uR f):=λJ O Y x ν' Z s H=>bJ λx G j=>ca λt q=>dU λQ E l=>by
  obtain rfl:=X.inst_eq q;refine Attribute_any_ (h H j _ _ λv u z e m=>?_);have b:=H.next e;refine FW (EB b m) λa hs y k n d o p g=>?_;subst o;have r:handedIn y=true:=by
   cases y with
   |builtin i=>exact(Og g).elim
   |_=>rfl
  exact get_value (pt b.md b.on) p (J6 (Pq _)).1 (findObj_own (FM _) (VL _) (Nk _) (by rfl)) r (l _ _ _ (e.trans (b.tok _)) g)
theorem XZ{a:cz}{o:Expr}{name:Str}{apos pos:br}{args:List Expr}{Q:aI->aL->Prop}{E:aI->aL->Prop}
  (d:nY o name a (eval o a)=eval o a)
  (i:((ka pos (ju args a)).all (λx=>!x.1)&&(backToKw pos (JO [] a)).all (λx=>x.1.isSome)
   &&decide (args.length+([]:List uu).length+(if ([]:List uu).isEmpty then 0 else 1)<30))=true)
  (f:(apos.endLine==pos.line)=true)
  (h:bc (model pw w) A (eval o a) (λn b=>∀ p,bc (model pw w) A (getMethod n name p) (λm c=>bc (model pw w) A (callWith pos m.1 m.2 (ka pos (ju args a)) []) Q E c) E b) E s) :
  bc (model pw w) A (eval (.Call (.Attribute o name apos) args [] pos) a) Q E s:=by
 rw[arm_eval_Call,d];refine ba (iM h (λn b j=>?_) λ_ _ e=>e);refine ba (gr ?_);have g:methodCallForm (args.length+([]:List uu).length) (ka pos (ju args a)) (backToKw pos (JO [] a))=true:=i;have k:methodCallPos true o a apos pos=pure pos:=by unfold methodCallPos;simp[f]
 unfold methodCall;refine g▸(ba (fG (iM (j _) (λm c l=>?_) λ_ _ e=>e)));exact ba (J4 k l)
theorem Em{x:Str}{m apos pos:br}{j:List Expr}{e:Expr}{f:aP}{o:List aP}{k:List X->List T->Option (X×List T)}(hc:dG w A F (.ref 35) k)(c:(apos.endLine==pos.line)=true)(u:jr (e::j).length 20=true)(z:bu w A F (.Name x m) f)(b:aN w A F (e::j) o):
  bu w A F (.Call (.Attribute (.Name x m) (aK "compare") apos) (e::j) [] pos) (s9 f o k):=λJ O Y x ν' Z s H=>bJ λx G B=>aX λt q=>bJ λC I L M Q E N=>by
  obtain rfl:=X.inst_eq q;refine XZ rfl (oQ b.plain u) c (z H B _ _ λv Z1 s1 h p pl=>?_);have g:=H.next h;refine FW (EB g p) λa hs y kk n d P R hr=>?_;subst P;have X:=pt g.md g.on;refine method_fn X R (J6 (ID _)).1 (J6 (ID _)).2 (Lh _) (beq_iff_eq.mp (Ql _)) (by rfl) (callWith_K (K:=KC w.params) X (by kernel_rfl) (b.as g L _ _ λr V s2 i r2=>?_) (eG (ee b.plain).1) (ji (ee b.plain).2));have l:=g.next i;exact⟨pt l.md l.on,hc l H.low (bg h.size i.size) (show cT w F J O s.heap.objs.size V s2.heap (.v (.inst t)::C) (.ref a::r)from(cE _ r rfl (RX.next H.sz g p i) (r2.le h.size))) M _ _ λv Z3 s3 N3 r3=>N v Z3 s3 ((h.trans i).trans N3) (r3.le (bg h.size i.size))⟩
noncomputable def yV(st:dw)(name a:Str)(b:aI)(c:aJ):uf:={fdOf st name b c with qualname:=a}
noncomputable def H0(st:dw)(name a:Str)(b:aI)(c:aJ):bK:=⟨.type "function",none,.func (yV st name a b c),#[]⟩
section
variable{w:aZ}{A:bx}{F:Fx}{J:Nat->aJ}{Z Z':Fz}{O:List S}{Y ν':List T}{s D:aL}{mt:List Nat}
theorem TW(st:dw)(name a:Str)(l:aI)(f c:aJ){n:Nat}(hR:di (n+1) A){nm:List (Option Str)}{ps:List Str}{g:bC}
  (B:(HF w.params).get? f=some (H0 st name a l c)) (o:f≠eB) (h:c≠eB) (d:codeAt (HF w.params) c a=true)
  (p:(fS st).isCoroutine=false) (i:(fS st).isGenerator=false) (q:BJ (fS st) nm ps=true)
  (e:∀ k:List aI,k.length=ps.length->yf (yV st name a l c) ⟨k,[]⟩=pure (ps.zip k))
  (C:∀ (y:bx) (E:Option aJ) (j:bh) (b:cz),di n y->b.scope=fS st->b.qual=a++".<locals>."->b.code=.ref c->b.func=some f->b.frame=some b.locals->dp w y (cG E j b nm) mt (fB st) g) :
  dG w A F (.ref f) (cf nm ps.length g):=λJ O Y x ν' Z s m P k H G I r=>by
 exact cb λK=>aX λQ z=>kC λt L M=>dU (sg (GP d) λR N U u v hq=>Gl hR H (fd:=yV st name a l c) B rfl o u v hq h rfl p i rfl rfl rfl rfl (Am q) e C (cT.at (wl z) r) (wl z) K.symm M)
end
noncomputable def Fx.at(F:Fx)(a:aJ):Fx:={F with nt:=some a}
noncomputable def S.un:S->S
 |.nts|.no=>.no
 |.v t=>.v t
 |.own l=>.own l
 |.ownd l=>.ownd l
noncomputable def S.notN:S->Bool
 |.nts=>false
 |.no|.v _|.own _|.ownd _=>true
noncomputable def Hf(i:Nat)(g a:bC):bC:=λO Y=>(g O Y).bind λr=>if r.2.1.all S.notN=true then r.1.nx?.bind λ_=>(r.2.1[i]?).bind λb=>b.ownl?.bind λl=>if l.isEmpty=true then
 (a (r.2.1.set i .nts) []).bind λq=>q.1.ret?.bind λx=>x.vt?.map λt=>(.ret (.v t),q.2.1.map Mine.Internal.S.un,[])else none else none
noncomputable def yJ(i:Nat)(f:aP):bC:=λO Y=>(O[i]?).bind λa=>a.nts?.bind λ_=>(f ((O.map Mine.Internal.S.un).set i (.own Y)) []).bind λr=>r.1.vt?.bind λt=>if r.2.isEmpty=true then some (.ret (.v t),O,Y)else none
theorem Au{st:dw}{g:bC}(a:∀ i∈mt,i∈mt')(h:eX w A F mt st g):eX w A F mt' st g:=λJ O Y e U ν' Z s H b Q E c=>
 h H b Q E λf α' Z' D N d o=>c f α' Z' D (N.more a) d o
theorem Mr{S:Mine.Internal.S}(h:S.un.isOwn):S.isOwn/\S.un=S:=by cases S<;>first|exact⟨h,rfl⟩|exact h.elim
theorem Qf{S:Mine.Internal.S}(h:S.un≠.no):S.un=S/\S≠.no/\S≠.nts:=by
 cases S with
 |no=>exact absurd rfl h
 |nts=>exact absurd rfl h
 |_=>exact⟨rfl,nofun,nofun⟩
theorem zv{h:bh}{a:aJ}{S:Mine.Internal.S}{v:aI}{b c:Option aJ}(hs:S≠.nts)(x:dY w b Z h a S v):dY w c Z h a S v:=by cases S<;>first|exact x|exact absurd rfl hs
theorem St.opened(H:St w F J Z O Y s)(hF:F.nt=none){i:Nat}{y:Str}(g:F.nm[i]?=some (some y))(hi:O[i]?=some (.own []))(t:∀ S∈O,S≠.nts):St w (F.at (J i)) J Z (O.set i .nts) [] s:=by
 refine gj (H.own i _ hi trivial) λu L M N z=>?_;have f:i<O.length:=(je.mp hi).1;have c:∀ {j:Nat} {S:Mine.Internal.S},(O.set i .nts)[j]?=some S->S.isOwn->j≠i/\O[j]?=some S:=λ{j S} e o=>by
  by_cases q:i=j
  ·subst q;replace e:=fT f▸e;exact(show Mine.Internal.S.isOwn .nts from bw e▸o).elim
  ·replace e:=ed q▸e;exact⟨λx=>q x.symm,e⟩
 refine⟨{H.ok with ntf:=λa e=>bw e▸z},H.on,H.md,eo (H.ownAt g hi trivial) λ_ B h1 h2=>(fu u B h1 h2),H.gens,λb o C e=>H.base b o (λq=>C (q.elim (λq=>bD (hF.symm.trans q)) .inr)) e,H.tab,H.fz,H.cel,?_,
  λj S e o=>bn (c e o) λE n=>gj (H.own j S n o) λa1 a2 a3 a4 a5=>⟨a1,a2,λq=>E (H.inj j i S _ n o hi trivial (bw q).symm),a4,a5⟩,λj k S G e o I p q=>H.inj j k S G (c e o).2 o (c I p).2 p q⟩
 refine aV H.vars λm K d=>(aS m K (λj x S r hs h=>?_));by_cases q:i=j
 ·subst q;replace hs:=fT f▸hs;obtain rfl:=bw hs;exact aV (d i x _ r hi nofun) λv l d=>⟨v,l,_,rfl,d.1⟩
 ·replace hs:=ed q▸hs;exact aV (d j x S r hs h) λv l d=>(aS v l (zv (t S (ke hs)) d))
theorem tD{j:Nat}{S:Mine.Internal.S}(e:(O.map Mine.Internal.S.un)[j]?=some S)(o:S.isOwn):O[j]?=some S:=by
 replace e:=fR▸e;exact aV (xZ.mp e) λc a b=>by
  subst b;rw[(Mr o).2];exact a
theorem Gw{j:Nat}{S:Mine.Internal.S}(e:(O.map Mine.Internal.S.un)[j]?=some S)(a:S≠.no):O[j]?=some S/\S≠.nts:=by
 replace e:=fR▸e;exact aV (xZ.mp e) λg b c=>by
  subst c;exact bO (Qf a) λd h f=>by rw[d];exact⟨b,f⟩
theorem St.shut{a:aJ}(H:St w (F.at a) J Z O Y s)(hF:F.nt=none)(g:F.h₀.objs.size<=a):St w F J Z (O.map Mine.Internal.S.un) [] s:=by
 refine⟨{H.ok with ntf:=λa e=>bD (hF.symm.trans e)},H.on,H.md,by refine hF▸?_;rfl,H.gens,λb o h e=>H.base b o (λq=>q.elim (λq=>absurd (cg (bw q▸e)) (lC.mpr g)) λq=>h (.inr q)) e,H.tab,H.fz,H.cel,?_,
  λj S e o=>gj (H.own j S (tD e o) o) λa1 a2 a3 a4 a5=>⟨a1,a2,hF▸nofun,a4,a5⟩,λj k S i e o l f q=>H.inj j k S i (tD e o) o (tD l f) f q⟩
 exact aV H.vars λm n d=>(aS m n (λj x S p hs c=>bn (Gw hs c) λr t=>aV (d j x S p r c) λv u d=>(aS v u (zv t d))))
theorem St.again{a:aJ}(H:St w (F.at a) J Z O Y s)(hF:F.nt=none)(C:F.h₀.objs.size<=a){i:Nat}{y:Str}(M:F.nm[i]?=some (some y))(hi:O[i]?=some .nts):
  ∃ α',α'=j0 J i a/\St w F α' Z ((O.map Mine.Internal.S.un).set i (.own Y)) [] s:=by
 refine(aS _ rfl ?_);have c:=H.shut hF C;have r:i<(O.map Mine.Internal.S.un).length:=by rw[dm];exact(je.mp hi).1
 refine eo H.nts λN P E Q=>?_;have t:a<s.heap.objs.size:=jo E;have u:a∉F.fa:=H.ok.ntf a rfl;have d:∀ {j:Nat} {S:Mine.Internal.S},((O.map Mine.Internal.S.un).set i (.own Y))[j]?=some S->(j=i/\S=.own Y)\/(j≠i/\(O.map Mine.Internal.S.un)[j]?=some S):=λ{j S} e=>by
  by_cases q:i=j
  ·subst q;replace e:=fT r▸e;exact .inl ⟨rfl,(bw e).symm⟩
  ·replace e:=ed q▸e;exact .inr ⟨λx=>q x.symm,e⟩
 have ne:∀ {j:Nat} {S:Mine.Internal.S},(O.map Mine.Internal.S.un)[j]?=some S->S.isOwn->J j≠a:=λ{j S} e o q=>(H.own j S (tD e o) o).2.2.1 (congrArg some q.symm);have g:j0 J i a i=a:=if_pos rfl;have f:∀ {j},j≠i->j0 J i a j=J j:=λh=>if_neg h;refine⟨c.ok,c.on,c.md,c.nts,c.gens,c.base,c.tab,c.fz,c.cel,?_,λj S e o=>?_,λj k S R e o V G q=>?_⟩
 ·refine aV H.vars λm X n=>(aS m X (λj x S I hs l=>?_));rcases d hs with ⟨rfl,rfl⟩|⟨q,hs⟩
  ·exact GM (n j x _ I hi nofun) λv z b B p=>⟨v,z,by rw[g,bw B];exact p,P,by rw[g];exact E,Q⟩
  ·exact bn (Gw hs l) λB q3=>aV (n j x S I B l) λv z n=>(aS v z (by refine f q▸?_;exact zv q3 n))
 ·rcases d e with ⟨rfl,rfl⟩|⟨q,e⟩
  ·rw[g];exact⟨N,C,hF▸nofun,t,u⟩
  ·refine f q▸?_;exact c.own j S e o
 ·rcases d e with ⟨rfl,rfl⟩|⟨x,p⟩<;>rcases d V with ⟨rfl,rfl⟩|⟨K,L⟩
  ·rfl
  ·replace q:=f K▸g▸q;exact absurd q.symm (ne L G)
  ·replace q:=f x▸g▸q;exact absurd q (ne p o)
  ·replace q:=f K▸f x▸q;exact c.inj j k S R p o L G q
theorem La{a:aJ}(hF:F.nt=none)(k:F.h₀.objs.size<=a){i:Nat}{y:Str}(c:F.nm[i]?=some (some y)){e:Expr}{pos:br}{f:aP}(h:bu w A F e f):
  eX w A (F.at a) mt (.Return (some e) pos) (yJ i f):=λJ O Y P U ν' Z s H=>aX λR d=>aX λ_ n=>bJ λx G p=>aX λt u=>cb λg z Q E B=>by
   cases z
   have hi:=d;replace hi:=S.nts_eq n▸hi;obtain rfl:=X.vt_eq u;obtain rfl:=nX.mp g;refine aV (H.again hF k c hi) λ_ _ C=>wpAny_Return_some (h C p _ _ λv Z' D N r=>?_);have l:Nx w (F.at a).nt Z s Z' Y D:=by
    refine⟨N.le,N.new,N.on,λb o I e=>N.ext b o (λq=>q.elim (λq=>bD (hF.symm.trans q)) λq=>I (.inr q)) e,N.size,eo H.nts λK L m M=>?_,N.gens,N.os,N.tab⟩;have j:¬Mu F.nt a:=λq=>q.elim (λq=>bD (hF.symm.trans q)) λq=>absurd (q▸bg H.ok.big k:171<=eB) (by decide);exact(fu ((N.new _ (jo m)).trans K) L (mY m λo=>N.ext a o j) (bm.mono N.le _ M))
   exact B _ _ Z' D (.ofNx l) (H.next l) (aS v rfl r)
theorem abH{st:dw}{f:List dw}{g P:bC}(hF:F.nt=none){i:Nat}{y:Str}(hm:i∈mt)(v:F.nm[i]?=some (some y))(h:eX w A F mt st g)
  (h':∀ a,F.h₀.objs.size<=a->dp w A (F.at a) mt f P):dp w A F mt (st::f) (Hf i g P):=λJ O Y fl U ν' Z s H=>pF λz I G R=>cb λk=>aX λ_ en=>aX λS0 B=>aX λl el=>cb λhl=>pF λC K a0 V=>aX λx er=>ca λt ex hg Q E hQ=>by
   cases hg
   have L:∀ S∈I,S≠.nts:=λS hs q=>nI (show Mine.Internal.S.notN .nts=true from q▸c8.mp k S hs);have u:I[i]?=some (.own []):=by rw[<- nX.mp hl,<- S.ownl_eq el];exact B
   rw[show z=.nx from Fl.nx_eq en]at R;rw[show C=.ret x from Fl.ret_eq er,X.vt_eq ex]at V;refine JH (h H R _ _ λf1 m Z1 s1 N1 H1 o1=>?_);subst o1;have ha:=(H1.own i _ u trivial).2.1;have n:i<I.length:=(je.mp u).1;refine h' (m i) ha (H1.opened hF v u L) V Q E λf2 p Z2 s2 c H2 o2=>?_;have M:cZ w F mt [] m I Z1 s1 p (K.map Mine.Internal.S.un) Z2 s2:=by
    refine⟨c.le,c.new,λb o h1 h2 h3 h4 e=>c.ext b o (λq=>?_) h2 h3 (λj hj S hs r=>?_) e,c.size,c.os,c.gens,c.tab,λj S hs r=>?_⟩
    ·exact q.elim (λq=>h4 i hm _ u trivial (bw q)) λq=>h1 (.inr q)
    ·by_cases q:i=j
     ·subst q;replace hs:=fT n▸hs;exact(show Mine.Internal.S.isOwn .nts from bw hs▸r).elim
     ·replace hs:=ed q▸hs;exact h4 j hj S hs r
    ·refine(c.own j S (tD hs r) r).elim (λ⟨N,d,o3,e4⟩=>?_) .inr;by_cases q:i=j
     ·subst q;replace d:=fT n▸d;exact(show Mine.Internal.S.isOwn .nts from bw d▸o3).elim
     ·replace d:=ed q▸d;exact .inl (cI N d o3 e4)
   exact hQ f2 p Z2 s2 (N1.trans M) (H2.shut hF ha) o2
noncomputable def jR(f:aP):aP:=λO Y=>(f O Y).bind λa=>a.1.t?.map λt=>(.v t,a.2)
noncomputable def S.t?:S->Option T
 |.own l=>some (.lst l)
 |.ownd l=>some (.dct l)
 |.no|.v _|.nts=>none
noncomputable def S.isOwnB:S->Bool
 |.own _|.ownd _=>true
 |.no|.v _|.nts=>false
noncomputable def jD(i:Nat)(g:bC):bC:=λO Y=>(g O Y).bind λr=>(O[i]?).bind λa=>r.1.nx?.bind λ_=>(r.2.1[i]?).bind λb=>if a.isOwnB=true then none else b.t?.map λt=>(.nx,r.2.1.set i (.v t),r.2.2)
noncomputable def QH(a:Int)(n:Nat):List T:=(aO n).map λ(j:Nat)=>T.int (a+(j:Int))
noncomputable def FX(f g:aP):aP:=λO Y=>(f O Y).bind λx=>(g O x.2).bind λy=>x.1.int?.bind λa=>y.1.int?.bind λb=>if 0<=a/\a<=b/\b<=1000000 then some (.fr (QH a (b-a).toNat),y.2)else none
theorem v9{e:Expr}{f:aP}(h:bu w A F e f):bu w A F e (jR f):=λJ O Y x ν' Z s H=>bJ λx G a=>ca λt b=>dU ((h H a).frz b)
theorem XI{a:Mine.Internal.S}(h:a.isOwn):a.isOwnB=true:=by
 cases a with
 |own|ownd=>rfl
 |_=>exact h.elim
theorem St.frzAt(j:St w F J Z O Y s){i:Nat}{y:Str}(c:F.nm[i]?=some (some y)){a:Mine.Internal.S}(k:O[i]?=some a){t:T}(d:a.t?=some t):a.isOwn/\Rd w (put Z s.heap (J i)) t (.ref (J i)):=by
 have go:∀ o:a.isOwn,Z (J i)=none/\dY w F.nt Z s.heap (J i) a (.ref (J i)):=λo=>⟨(j.own i a k o).1,j.ownAt c k o⟩;cases a with
 |own l=>
  obtain rfl:=bw d;exact bn (go trivial) λe b=>eo b λ_ m n f=>ej n.isList λo g hc hk=>⟨trivial,(fy _ o m rfl (gM.trans g) ⟨hc,hk⟩ (bm.mono (gc e) _ f))⟩
 |ownd l=>
  obtain rfl:=bw d;exact bn (go trivial) λe b=>eo b λ_ h hd f=>aV (pa.mp hd) λo g hc=>⟨trivial,(fy _ o h rfl (gM.trans g) hc (bY.mono (gc e) _ f))⟩
 |_=>exact bD d
theorem qx(i:Nat){st:dw}{g:bC}{y:Str}(M:F.nm[i]?=some (some y))(h:eX w A F mt st g):eX w A F mt st (jD i g):=λJ O Y fl U ν' Z s H=>pF λN I G e1=>aX λS0 q0=>aX λ_ P=>aX λK p=>Bv λR=>ca λt e2 hg Q E hQ=>by
   cases hg
   rw[show N=.nx from Fl.nx_eq P]at e1;refine h H e1 Q E λf l Z1 u z c o1=>bn (c.frzAt M p e2) λd rd=>gj (c.own i K p d) λL z2 z3 z4 z5=>?_;have B:s.heap.objs.size<=l i:=(z.own i K p d).elim (λ⟨S',e3,o3,_⟩=>absurd (bw (q0.symm.trans e3)▸XI o3:S0.isOwnB=true) R) id;have C:i<I.length:=(je.mp p).1;have n:∀ {j:Nat} {S:Mine.Internal.S},(I.set i (.v t))[j]?=some S->S.isOwn->j≠i/\I[j]?=some S:=λ{j S} e o=>by
    by_cases q:i=j
    ·subst q;rw[fT C]at e;exact(show Mine.Internal.S.isOwn (.v t)from bw e▸o).elim
    ·rw[ed q]at e;exact⟨λx=>q x.symm,e⟩
   have H2:St w F l (put Z1 u.heap (l i)) (I.set i (.v t)) G u:=by
    refine⟨c.ok,w7 c.on,c.md.le (gc L) (jF λq=>absurd (q▸bg c.ok.big z2:171<=eB) (by decide)),c.nts.put L z3,c.gens,c.base,c.tab,λa V=>⟨(jF λ(q:a=l i)=>z5 (q▸V)).trans (c.fz a V).1,(c.fz a V).2⟩,c.cel,
     aV c.vars λm hm r=>(aS m hm (λj x S hj hs X=>?_)),
     λj S e o=>bn (n e o) λP q3=>gj (c.own j S q3 o) λa1 a2 a3 a4 a5=>⟨(jF λq=>P (c.inj j i S K q3 o p d q)).trans a1,a2,a3,a4,a5⟩,λj k S S' e o e' o' q=>c.inj j k S S' (n e o).2 o (n e' o').2 o' q⟩
    by_cases q:i=j
    ·subst q;rw[fT C]at hs;obtain rfl:=bw hs;exact aV (r i x K hj p λe=>(show Mine.Internal.S.isOwn .no from e▸d)) λv hl r=>(aS _ (r.own_ref d▸hl) rd)
    ·rw[ed q]at hs;exact aV (r j x S hj hs X) λv hl r=>(aS v hl (r.ext (gc L) λ_ o e=>e))
   have N2:cZ w F mt [] J O Z s l (I.set i (.v t)) (put Z1 u.heap (l i)) u:=
    {z with
     le:=z.le.trans (gc L)
     new:=λb hb=>(jF (dW (ck hb B))).trans (z.new b hb)
     own:=λj S e o=>z.own j S (n e o).2 o}
   exact hQ f l _ u N2 H2 (by cases o1;rfl)
theorem Up (R:A.handled=none) {p q pos k:br} {o r:Expr} {f g:aP} (V:F.env.kindOf (aK "list")=some .globalImplicit) (z:F.env.kindOf (aK "range")=some .globalImplicit) (B:dQ o=true) (C:dQ r=true) (h1:bu w A F o f) (h2:bu w A F r g) :
  bu w A F (.Call (.Name (aK "list") q) [.Call (.Name (aK "range") p) [o,r] [] pos] [] k) (FX f g):=λJ O Y x ν' Z s H=>bJ λx G X=>bJ λy l q2=>aX λa ea=>aX λb eb=>cb λM hg Q E hQ=>by
  cases hg
  have h:aN w A F [o,r] [f,g]:=aN.cons h1 B (aN.cons h2 C aN.nil);have hd:eT [f,g] O Y=some ([x,y],l):=lp X (lp q2 rfl);refine gN rfl (ia H V (v:=.type "list") rfl ?_ rfl);refine kb (lF ?_ (eG rfl)) (eG rfl) rfl;refine gN rfl (ia H z (v:=.type "range") rfl ?_ rfl);refine kb (h.as H hd _ _ λvs Z1 m N1 r1=>?_) (eG (ee h.plain).1) (ji (ee h.plain).2);refine aQ λN=>bG (cT.two r1) λv1 v2 y2 r2 r3=>aU (j4 ea r2) λt z1=>aU (j4 eb r3) λu z2=>N ?_;clear N;subst y2 z1 z2;refine call_range_2 (nW ?_);have P:=(N1.push {cls:=.type "range",data:=.fields #[.int a t,.int b u,.int 1 m.toks]});have I:Nx w F.nt Z s Z1 l {m with heap:=m.heap.push {cls:=.type "range",data:=.fields #[.int a t,.int b u,.int 1 m.toks]},toks:=m.toks+1}:=P.trans ((H.next P).tok _);have K:=H.next I;refine e9 (call_list_range R (CP ..) (vv (a:=a) (b:=b) (by lia) (by lia) (by lia) M.2.2 (by lia)) w8 (aat M) λh' L c c' hk hD d n=>?_);have N4:=I.trans (K.growT (tk:=L) hk n);exact hQ _ _ _ N4 (jG _ c.toList rfl I.size ((dL K (cu _)).1) ((dL K (cu _)).2) ⟨c',by simpa using hD⟩ (Ea (b-a).toNat (λj=>a+(j:Int)) c.toList (by simpa using d.1) λi v hv=>aU (d.2 i v (by simpa using hv)) λt e=>⟨t,by rw[e];congr 1;exact Lj⟩))
end
noncomputable def nk:Nat->List Nat->List (Option Str)->List (Option Str)
 |_,_,[]=>[]
 |i,k,o::r=>(if k.contains i then o else none)::nk (i+1) k r
noncomputable def nq(N:List (Option Str))(b:Nat)(k:List Nat)(x:List (Option String)):List (Option Str):=nk 0 k (N.take b)++x.map (·.map aK)
section
variable{w:aZ}{A:bx}{F:Fx}
noncomputable def cL(c:∀ e,Option {f // bu w A F e f}):∀ a,Option {b // aN w A F a b}
 |[]=>some ⟨[],aN.nil⟩
 |e::a=>if h:dQ e=true then(c e).bind λf=>(cL c a).map λr=>⟨f.1::r.1,aN.cons f.2 h r.2⟩else none
noncomputable def Mp(c:∀ e,Option {f // bu w A F e f}):∀ e,Option {f // bu w A F e f}
 |.Constant (.int _) _ _=>some ⟨_,WU⟩
 |.Constant (.str _) _ _=>some ⟨_,LJ⟩
 |.Constant (.bool _) _ _=>some ⟨_,P3⟩
 |.Constant (.float _) _ _=>some ⟨_,Kv⟩
 |.Constant .none _ _=>some ⟨_,T6⟩
 |.Name id _=>if h:F.nm[F.nm.findIdx (·==some id)]?=some (some id)/\(id==("__debug__":Str))=false/\(id==("__classdict__":Str))=false then some ⟨_,ZP _ h.1 h.2.1 h.2.2⟩else none
 |.BinOp a _ b _=>(c a).bind λf=>(c b).map λg=>⟨_,nJ f.2 g.2⟩
 |.UnaryOp .USub a _=>(c a).map λf=>⟨_,Xd f.2⟩
 |.Subscript a b _=>if h:nr b=true then(c a).bind λf=>(c b).map λg=>⟨_,tv f.2 g.2 h⟩else none
 |.Tuple d _ _=>if h:jr d.length 1000=true then(cL c d).map λf=>⟨_,fL h f.2⟩else none
 |.List d _=>if h:jr d.length 1000=true then(cL c d).map λf=>⟨_,m8 h f.2⟩else none
 |_=>none
noncomputable def cX(n:Nat):∀ e,Option {f // bu w A F e f}:=n.rec (λ_=>none) λ_ c=>Mp c
theorem cP{a:Type}{P:a->Prop}{o:Option {x // P x}}{b:a}(h:o.map (·.1)=some b):P b:=match o,h with|some p,h=>bw h▸p.2
@[reducible] def kX (w:aZ) (A:bx) (F:Fx) (e:Expr) (f:aP):Prop:=some f=(@cX w A F 9 e).map (·.1)
@[reducible] def kL (w:aZ) (A:bx) (F:Fx) (e:List Expr) (f:List aP):Prop:=some f=(@cL w A F (cX 9) e).map (·.1)
theorem cx{e:Expr}{f:aP}(h:kX w A F e f:=by kernel_rfl):bu w A F e f:=cP h.symm
theorem gi{e:List Expr}{f:List aP}(h:kL w A F e f:=by kernel_rfl):aN w A F e f:=cP h.symm
end
theorem jH{P:cz->Prop}{s:Scope}(h:∀ a b c d f g i j,P ⟨s,a,b,c,d,f,g,i,j⟩)(e:cz)(k:e.scope=s):P e:=match e,k with|⟨_,_,_,_,_,_,_,_,_⟩,rfl=>h ..
theorem di.le{n m:Nat}{A:bx}(r:di n A)(h:m<=n):di m A:=⟨by have:=r.d;exact(ff (nN h _) this),by have:=r.u;exact VX h this,r.h⟩
noncomputable def ml:List (Option Str):=[some (aK "r"),some (aK "g"),some (aK "b"),some (aK "y"),some (aK "i"),some (aK "q")]
noncomputable def mL:bC:=aY (bW (aO 6) (.nm 3) (dB .Add (dB .Add (dB .Mult (dK (.flt 0x3fd3333333333333)) (dV 0)) (dB .Mult (dK (.flt 0x3fe2e147ae147ae1)) (dV 1))) (dB .Mult (dK (.flt 0x3fbc28f5c28f5c29)) (dV 2)))) (aY (bW (aO 6) (.nm 4) (dB .Sub (dB .Mult (dK (.flt 0x3fe7ae147ae147ae)) (dB .Sub (dV 0) (dV 3))) (dB .Mult (dK (.flt 0x3fd147ae147ae148)) (dB .Sub (dV 2) (dV 3))))) (aY (bW (aO 6) (.nm 5) (dB .Add (dB .Mult (dK (.flt 0x3fdeb851eb851eb8)) (dB .Sub (dV 0) (dV 3))) (dB .Mult (dK (.flt 0x3fda3d70a3d70a3d)) (dB .Sub (dV 2) (dV 3))))) (aY (hO (cJ [dV 3,dV 4,dV 5])) cs)))
theorem Ng{w:aZ}{A:bx}(c:Option aJ)(a:bh)(b:cz)(hR:di 0 A)(hs:b.scope=fS (bB 6)):dp w A (cG c a b ml) [] (fB (bB 6)) mL:=
 jH (P:=λv=>dp w A (cG c a v ml) _ _ _) (λd e f g i j k l=>bq (dd 3 hR.h rfl rfl rfl cx) (bq (dd 4 hR.h rfl rfl rfl cx) (bq (dd 5 hR.h rfl rfl rfl cx) (bq (iX cx) cH)))) b hs
theorem wC(P:bX):(HF P).get? 70=some (jx (bB 6) (aK "rgb_to_yiq") (.str (aK "cpy313.colorsys") 269) 69):=by kernel_rfl
theorem AZ{w:aZ}{A:bx}{F:Fx}(hR:di 1 A):dG w A F (.ref 70) (cf ml 3 mL):=
 kl (bB 6) (aK "rgb_to_yiq") (.str (aK "cpy313.colorsys") 269) 70 69 (ps:=[aK "r",aK "g",aK "b"]) hR (wC _) (by decide) (by decide) (by kernel_rfl) (by kernel_rfl) (by kernel_rfl) (by kernel_rfl)
  (sW λ_ _ _=>by kernel_rfl) (λe d a b hR hs _ c _ _=>Ng d a b hR hs)
noncomputable def oB:List (Option Str):=[some (aK "y"),some (aK "i"),some (aK "q"),some (aK "r"),some (aK "g"),some (aK "b")]
noncomputable def VR:bC:=aY (bW (aO 6) (.nm 3) (dK (.flt 0x0000000000000000))) cs
noncomputable def OW:bC:=aY (bW (aO 6) (.nm 4) (dK (.flt 0x0000000000000000))) cs
noncomputable def QB:bC:=aY (bW (aO 6) (.nm 5) (dK (.flt 0x0000000000000000))) cs
noncomputable def Vy:bC:=aY (bW (aO 6) (.nm 3) (dK (.flt 0x3ff0000000000000))) cs
noncomputable def MO:bC:=aY (bW (aO 6) (.nm 4) (dK (.flt 0x3ff0000000000000))) cs
noncomputable def Rb:bC:=aY (bW (aO 6) (.nm 5) (dK (.flt 0x3ff0000000000000))) cs
noncomputable def mT:bC:=aY (bW (aO 6) (.nm 3) (dB .Add (dB .Add (dV 0) (dB .Mult (dK (.flt 0x3fee4cdbef721b32)) (dV 1))) (dB .Mult (dK (.flt 0x3fe3f42ceedac0be)) (dV 2)))) (aY (bW (aO 6) (.nm 4) (dB .Sub (dB .Sub (dV 0) (dB .Mult (dK (.flt 0x3fd1961eec8cbb3a)) (dV 1))) (dB .Mult (dK (.flt 0x3fe45794d16efff3)) (dV 2)))) (aY (bW (aO 6) (.nm 5) (dB .Add (dB .Sub (dV 0) (dB .Mult (dK (.flt 0x3ff1bc99b7dee436)) (dV 1))) (dB .Mult (dK (.flt 0x3ffb5817a6224a7f)) (dV 2)))) (aY (gD (tC .Lt (dV 3) (dK (.flt 0x0000000000000000))) VR cs) (aY (gD (tC .Lt (dV 4) (dK (.flt 0x0000000000000000))) OW cs) (aY (gD (tC .Lt (dV 5) (dK (.flt 0x0000000000000000))) QB cs) (aY (gD (tC .Gt (dV 3) (dK (.flt 0x3ff0000000000000))) Vy cs) (aY (gD (tC .Gt (dV 4) (dK (.flt 0x3ff0000000000000))) MO cs) (aY (gD (tC .Gt (dV 5) (dK (.flt 0x3ff0000000000000))) Rb cs) (aY (hO (cJ [dV 3,dV 4,dV 5])) cs)))))))))
theorem SR{w:aZ}{A:bx}(c:Option aJ)(a:bh)(b:cz)(hR:di 0 A)(hs:b.scope=fS (bB 7)):dp w A (cG c a b oB) [] (fB (bB 7)) mT:=
 jH (P:=λv=>dp w A (cG c a v oB) _ _ _) (λd e f g i j k l=>bq (dd 3 hR.h rfl rfl rfl cx) (bq (dd 4 hR.h rfl rfl rfl cx) (bq (dd 5 hR.h rfl rfl rfl cx) (bq (jh (hZ cx cx rfl) (bq (dd 3 hR.h rfl rfl rfl cx) cH) cH) (bq (jh (hZ cx cx rfl) (bq (dd 4 hR.h rfl rfl rfl cx) cH) cH) (bq (jh (hZ cx cx rfl) (bq (dd 5 hR.h rfl rfl rfl cx) cH) cH) (bq (jh (hZ cx cx rfl) (bq (dd 3 hR.h rfl rfl rfl cx) cH) cH) (bq (jh (hZ cx cx rfl) (bq (dd 4 hR.h rfl rfl rfl cx) cH) cH) (bq (jh (hZ cx cx rfl) (bq (dd 5 hR.h rfl rfl rfl cx) cH) cH) (bq (iX cx) cH)))))))))) b hs
theorem zf(P:bX):(HF P).get? 77=some (jx (bB 7) (aK "yiq_to_rgb") (.str (aK "cpy313.colorsys") 269) 76):=by kernel_rfl
theorem Gr{w:aZ}{A:bx}{F:Fx}(hR:di 1 A):dG w A F (.ref 77) (cf oB 3 mT):=
 kl (bB 7) (aK "yiq_to_rgb") (.str (aK "cpy313.colorsys") 269) 77 76 (ps:=[aK "y",aK "i",aK "q"]) hR (zf _) (by decide) (by decide) (by kernel_rfl) (by kernel_rfl) (by kernel_rfl) (by kernel_rfl)
  (sW λ_ _ _=>by kernel_rfl) (λe d a b hR hs _ c _ _=>SR d a b hR hs)
noncomputable def oO:List (Option Str):=[some (aK "callers"),some (aK "nc"),some (aK "calls")]
noncomputable def FS:bC:=aY (wa (aO 3) 1 (dV 2)) cs
noncomputable def oM:bC:=aY (bW (aO 3) (.nm 1) (dK (.int 0))) (aY (fe (aO 3) (.nm 2) (iV (dV 0)) FS) (aY (hO (dV 1)) cs))
theorem aaI{w:aZ}{A:bx}(c:Option aJ)(a:bh)(b:cz)(hR:di 0 A)(hs:b.scope=fS (bB 4)):dp w A (cG c a b oO) [] (fB (bB 4)) oM:=
 jH (P:=λv=>dp w A (cG c a v oO) _ _ _) (λd e f g i j k l=>bq (dd 1 hR.h rfl rfl rfl cx) (bq (i8 (.nm 2) false none hR.h rfl (λh=>nomatch h) rfl (by decide) (Qi hR.h rfl rfl cx) (bq (abG 1 rfl rfl cx) cH)) (bq (iX cx) cH))) b hs
theorem Im(P:bX):(HF P).get? 63=some (jx (bB 4) (aK "count_calls") (.str (aK "cpy313.pstats") 187) 62):=by kernel_rfl
theorem acp{w:aZ}{A:bx}{F:Fx}(hR:di 1 A):dG w A F (.ref 63) (cf oO 1 oM):=
 kl (bB 4) (aK "count_calls") (.str (aK "cpy313.pstats") 187) 63 62 (ps:=[aK "callers"]) hR (Im _) (by decide) (by decide) (by kernel_rfl) (by kernel_rfl) (by kernel_rfl) (by kernel_rfl)
  (tu λ_=>by kernel_rfl) (λe d a b hR hs _ c _ _=>aaI d a b hR hs)
noncomputable def sF:List (Option Str):=[some (aK "code")]
noncomputable def uZ:bC:=aY (hO (ER (bL [dV 0] (cD pM)))) cs
theorem Ze{w:aZ}{A:bx}(c:Option aJ)(a:bh)(b:cz)(hR:di 0 A)(hs:b.scope=fS (bB 10)):dp w A (cG c a b sF) [] (fB (bB 10)) uZ:=
 jH (P:=λv=>dp w A (cG c a v sF) _ _ _) (λd e f g h i j k=>bq (iX (M1 rfl (fm (x:="ord") rfl rfl rfl gi AQ))) cH) b hs
theorem F4(P:bX):(HF P).get? 95=some (jx (bB 10) (aK "in_table_b1") (.str (aK "cpy313.stringprep") 295) 94):=by kernel_rfl
theorem KH{w:aZ}{A:bx}{F:Fx}(hR:di 1 A):dG w A F (.ref 95) (cf sF 1 uZ):=
 kl (bB 10) (aK "in_table_b1") (.str (aK "cpy313.stringprep") 295) 95 94 (ps:=[aK "code"]) hR (F4 _) (by decide) (by decide) (by kernel_rfl) (by kernel_rfl) (by kernel_rfl) (by kernel_rfl)
  (tu λ_=>by kernel_rfl) (λe d a b hR hs _ c _ _=>Ze d a b hR hs)
noncomputable def tX:List (Option Str):=[some (aK "code"),some (aK "r")]
noncomputable def QW:bC:=aY (hO (dV 1)) cs
noncomputable def vQ:bC:=aY (bW (aO 2) (.nm 1) (wS (bL [dV 0] (cD pM)))) (aY (gD (tC .IsNot (dV 1) (dK .none)) QW cs) (aY (hO (iD "str" (dV 0) [] (cD Dr))) cs))
theorem aaR{w:aZ}{A:bx}(c:Option aJ)(a:bh)(b:cz)(hR:di 0 A)(hs:b.scope=fS (bB 12)):dp w A (cG c a b tX) [] (fB (bB 12)) vQ:=
 jH (P:=λv=>dp w A (cG c a v tX) _ _ _) (λd e f g i j k l=>bq (dd 1 hR.h rfl rfl rfl (XS rfl rfl rfl rfl (fm (x:="ord") rfl rfl rfl gi AQ))) (bq (jh (hZ cx cx rfl) (bq (iX cx) cH) cH) (bq (iX (oJ (T:="str") (id:="str.lower") rfl pj PySem.F.slot_str_lower PySem.F.type_str_lower Zy rfl rfl rfl cx aN.nil)) cH))) b hs
theorem Ha(P:bX):(HF P).get? 141=some (jx (bB 12) (aK "map_table_b3") (.str (aK "cpy313.stringprep") 295) 140):=by kernel_rfl
theorem Lm{w:aZ}{A:bx}{F:Fx}(hR:di 1 A):dG w A F (.ref 141) (cf tX 1 vQ):=
 kl (bB 12) (aK "map_table_b3") (.str (aK "cpy313.stringprep") 295) 141 140 (ps:=[aK "code"]) hR (Ha _) (by decide) (by decide) (by kernel_rfl) (by kernel_rfl) (by kernel_rfl) (by kernel_rfl)
  (tu λ_=>by kernel_rfl) (λe d a b hR hs _ c _ _=>aaR d a b hR hs)
noncomputable def qN:List (Option Str):=[some (aK "light"),some (aK "r"),some (aK "g"),some (aK "b")]
noncomputable def tG:bC:=aY (gz (aO 4) [1,2,3] true [aR (dV 0) (dK (.int 0)),aR (dV 0) (dK (.int 1)),aR (dV 0) (dK (.int 2))]) (aY (hO (de [dB .Add (dB .Add (dV 1) (dV 2)) (dV 3),dV 1,dV 2,dV 3,dB .Add (dB .Add (dB .Mult (dK (.int 30)) (dV 1)) (dB .Mult (dK (.int 59)) (dV 2))) (dB .Mult (dK (.int 11)) (dV 3)),dB .Sub (dB .Sub (dB .Mult (dK (.int 5990)) (dV 1)) (dB .Mult (dK (.int 2773)) (dV 2))) (dB .Mult (dK (.int 3217)) (dV 3)),dB .Add (dB .Sub (dB .Mult (dK (.int 2130)) (dV 1)) (dB .Mult (dK (.int 5251)) (dV 2))) (dB .Mult (dK (.int 3121)) (dV 3))])) cs)
theorem Pz{w:aZ}{A:bx}(c:Option aJ)(a:bh)(b:cz)(hR:di 0 A)(hs:b.scope=fS (bB 15)):dp w A (cG c a b qN) [] (fB (bB 15)) tG:=
 jH (P:=λv=>dp w A (cG c a v qN) _ _ _) (λd e f g i j k l=>bq (GL hR.h (is:=[1,2,3]) (names:=[aK "r",aK "g",aK "b"]) rfl rfl rfl (aN.cons cx rfl (aN.cons cx rfl (aN.cons cx rfl aN.nil)))) (bq (iX cx) cH)) b hs
theorem zz(P:bX):(HF P).get? 155=some (jx (bB 15) (aK "_law_whole") (.str (aK "law_xh0036_01") 2323) 154):=by kernel_rfl
theorem Fg{w:aZ}{A:bx}{F:Fx}(hR:di 1 A):dG w A F (.ref 155) (cf qN 1 tG):=
 kl (bB 15) (aK "_law_whole") (.str (aK "law_xh0036_01") 2323) 155 154 (ps:=[aK "light"]) hR (zz _) (by decide) (by decide) (by kernel_rfl) (by kernel_rfl) (by kernel_rfl) (by kernel_rfl)
  (tu λ_=>by kernel_rfl) (λe d a b hR hs _ c _ _=>Pz d a b hR hs)
noncomputable def mO:List (Option Str):=[some (aK "self"),some (aK "left"),some (aK "right"),some (aK "index"),some (aK "direction"),some (aK "l"),some (aK "r")]
noncomputable def OB:bC:=aY (hO (gT (dV 4))) cs
noncomputable def NE:bC:=aY (hO (dV 4)) cs
noncomputable def jA:bC:=aY (bW (aO 7) (.nm 5) (aR (dV 1) (dV 3))) (aY (bW (aO 7) (.nm 6) (aR (dV 2) (dV 3))) (aY (gD (tC .Lt (dV 5) (dV 6)) OB cs) (aY (gD (tC .Gt (dV 5) (dV 6)) NE cs) cs)))
noncomputable def me:bC:=aY (fe (aO 7) (.tp [(.nm 3),(.nm 4)]) (iL none (uR (dV 0))) jA) (aY (hO (dK (.int 0))) cs)
theorem US{w:aZ}{A:bx}(c:Option aJ)(a:bh)(b:cz)(hR:di 0 A)(hs:b.scope=fS (oq 1 1)):dp w A (cG c a b mO) [] (fB (oq 1 1)) me:=
 jH (P:=λv=>dp w A (cG c a v mO) _ _ _) (λd e f g i j k l=>bq (i8 (.tp [(.nm 3),(.nm 4)]) false none hR.h rfl (λh=>nomatch h) rfl (by decide) (hM hR.h none (Oc cx)) (bq (dd 5 hR.h rfl rfl rfl cx) (bq (dd 6 hR.h rfl rfl rfl cx) (bq (jh (hZ cx cx rfl) (bq (iX cx) cH) cH) (bq (jh (hZ cx cx rfl) (bq (iX cx) cH) cH) cH))))) (bq (iX cx) cH)) b hs
theorem LG(P:bX):(HF P).get? 35=some (H0 (oq 1 1) (aK "compare") (aK "TupleComp.compare") (.str (aK "cpy313.pstats") 187) 34):=by kernel_rfl
theorem H7{w:aZ}{A:bx}{F:Fx}(hR:di 1 A):dG w A F (.ref 35) (cf mO 3 me):=
 TW (oq 1 1) (aK "compare") (aK "TupleComp.compare") (.str (aK "cpy313.pstats") 187) 35 34 (ps:=[aK "self",aK "left",aK "right"]) hR (LG _) (by decide) (by decide) (by kernel_rfl) (by kernel_rfl) (by kernel_rfl) (by kernel_rfl)
  (sW λ_ _ _=>by kernel_rfl) (λe d a b hR hs _ c _ _=>US d a b hR hs)
noncomputable def jY:List (Option Str):=[some (aK "target"),some (aK "source"),some (aK "new_callers"),some (aK "func"),some (aK "caller")]
noncomputable def HU:bC:=aY (jK 2 (dV 3) (dV 4)) cs
noncomputable def HS:bC:=aY (jK 2 (dV 3) (Bf (dV 4) (aR (dV 2) (dV 3)))) cs
noncomputable def Hk:bC:=aY (mK 2 (dV 3) (dV 4)) cs
noncomputable def vz:bC:=aY (gD (tV (na true (dV 4))) HS Hk) cs
noncomputable def Q3:bC:=aY (jK 2 (dV 3) (dV 4)) cs
noncomputable def Gs:bC:=aY (gD (BU (dV 3) (dV 2)) vz Q3) cs
noncomputable def jX:bC:=aY (jy (aO 5) 2 ((λO Y=>some (.frd [],Y)))) (aY (fe (aO 5) (.tp [(.nm 3),(.nm 4)]) (iI (dV 0)) HU) (aY (fe (aO 5) (.tp [(.nm 3),(.nm 4)]) (iI (dV 1)) Gs) (aY (hO (dV 2)) cs)))
theorem YI{w:aZ}{A:bx}(f:Option aJ)(e:bh)(b:cz)(hR:di 0 A)(hs:b.scope=fS (bB 3))(a:b.code=.ref kY):dp w A (cG f e b jY) [2] (fB (bB 3)) jX:=
 jH (P:=λv=>v.code=.ref kY->dp w A (cG f e v jY) _ _ _) (λg j k l m n o p a=>bq (BV 2 rfl rfl rfl sU) (bq (i8 (.tp [(.nm 3),(.nm 4)]) true none hR.h rfl (λ_=>rfl) rfl (by decide) (B2 hR.h rfl rfl cx) (bq (oA (i:=2) rfl rfl rfl rfl rfl (by decide) cx cx) cH)) (bq (i8 (.tp [(.nm 3),(.nm 4)]) true none hR.h rfl (λ_=>rfl) rfl (by decide) (B2 hR.h rfl rfl cx) (bq (jh (WK cx cx rfl) (bq (jh (yU (sk (c:=true) rfl rfl rfl cx) rfl) (bq (oA (i:=2) rfl rfl rfl rfl rfl (by decide) (Wd hR.h (by have:=hR.d;show A.depth<1000;omega) a rfl rfl cx cx rfl rfl) cx) cH) (bq (y9 (i:=2) rfl rfl rfl rfl (by decide) cx cx) cH)) cH) (bq (oA (i:=2) rfl rfl rfl rfl rfl (by decide) cx cx) cH)) cH)) (bq (iX cx) cH)))) b hs a
theorem rT(P:bX):(HF P).get? 56=some (jx (bB 3) (aK "add_callers") (.str (aK "cpy313.pstats") 187) 55):=by kernel_rfl
theorem wH{w:aZ}{A:bx}{F:Fx}(hR:di 1 A):dG w A F (.ref 56) (cf jY 2 jX):=
 kl (bB 3) (aK "add_callers") (.str (aK "cpy313.pstats") 187) 56 55 (ps:=[aK "target",aK "source"]) hR (rT _) (by decide) (by decide) (by kernel_rfl) (by kernel_rfl) (by kernel_rfl) (by kernel_rfl)
  (px λ_ _=>by kernel_rfl) (λe d b c hR hs _ a _ _=>YI d b c hR hs a)
noncomputable def jq:List (Option Str):=[some (aK "target"),some (aK "source"),some (aK "cc"),some (aK "nc"),some (aK "tt"),some (aK "ct"),some (aK "callers"),some (aK "t_cc"),some (aK "t_nc"),some (aK "t_tt"),some (aK "t_ct"),some (aK "t_callers")]
noncomputable def jM:bC:=aY (bW (aO 12) (.tp [(.nm 2),(.nm 3),(.nm 4),(.nm 5),(.nm 6)]) (dV 1)) (aY (bW (aO 12) (.tp [(.nm 7),(.nm 8),(.nm 9),(.nm 10),(.nm 11)]) (dV 0)) (aY (hO (cJ [dB .Add (dV 2) (dV 7),dB .Add (dV 3) (dV 8),dB .Add (dV 4) (dV 9),dB .Add (dV 5) (dV 10),bL [dV 11,dV 6] (cf jY 2 jX)])) cs))
theorem Kw{w:aZ}{A:bx}(c:Option aJ)(a:bh)(b:cz)(hR:di 1 A)(hs:b.scope=fS (bB 2)):dp w A (cG c a b jq) [] (fB (bB 2)) jM:=
 jH (P:=λv=>dp w A (cG c a v jq) _ _ _) (λd e f g i j k l=>bq (uI hR.h (p:=(.tp [(.nm 2),(.nm 3),(.nm 4),(.nm 5),(.nm 6)])) cx rfl rfl rfl rfl) (bq (uI hR.h (p:=(.tp [(.nm 7),(.nm 8),(.nm 9),(.nm 10),(.nm 11)])) cx rfl rfl rfl rfl) (bq (iX (fL rfl (aN.cons cx rfl (aN.cons cx rfl (aN.cons cx rfl (aN.cons cx rfl (aN.cons (fM (x:="add_callers") rfl rfl rfl (rT _) rfl (by decide) (aN.cons cx rfl (aN.cons cx rfl aN.nil)) (wH (hR.le (by decide)))) rfl aN.nil))))))) cH))) b hs
theorem tO(P:bX):(HF P).get? 49=some (jx (bB 2) (aK "add_func_stats") (.str (aK "cpy313.pstats") 187) 48):=by kernel_rfl
theorem vx{w:aZ}{A:bx}{F:Fx}(hR:di 2 A):dG w A F (.ref 49) (cf jq 2 jM):=
 kl (bB 2) (aK "add_func_stats") (.str (aK "cpy313.pstats") 187) 49 48 (ps:=[aK "target",aK "source"]) hR (tO _) (by decide) (by decide) (by kernel_rfl) (by kernel_rfl) (by kernel_rfl) (by kernel_rfl)
  (px λ_ _=>by kernel_rfl) (λe d a b hR hs _ c _ _=>Kw d a b hR hs)
noncomputable def pH:List (Option Str):=[some (aK "word"),some (aK "style"),some (aK "unseen"),some (aK "bases"),some (aK "other"),some (aK "typed"),some (aK "place"),some (aK "sign"),some (aK "kind")]
noncomputable def E5:bC:=aY (bW (aO 9) (.nm 7) (bL [aR (aR (dV 4) (iD "str" (dK (.str (aK "rgb"))) [dV 7] (gS A1))) (dB .Sub (dV 8) (dK (.int 12)))] (cD nF))) cs
noncomputable def zj:bC:=aY (bW (aO 9) (.nm 7) (bL [dB .Sub (dB .Add (aR (dV 3) (dV 8)) (bL [dV 7] (cD pM))) (dK (.int 97))] (cD nF))) cs
noncomputable def ve:bC:=aY (gD (tC .In (dV 7) (dK (.str (aK "rgb")))) E5 cs) cs
noncomputable def vm:bC:=aY (dM 5 (bL [aR (dV 2) (dB .Mod (dB .Add (dB .FloorDiv (dV 1) (dK (.int 2))) (dB .Mult (dK (.int 10)) (dV 6))) (dK (.int 27)))] (cD nF))) (aY (bW (aO 9) (.nm 8) (dB .Mod (dB .Add (dB .FloorDiv (dV 1) (dK (.int 54))) (dB .Mult (dK (.int 4)) (dV 6))) (dK (.int 15)))) (aY (gD (tA (tC .In (dV 7) (dK (.str (aK "rgb")))) (tC .Lt (dV 8) (dK (.int 12)))) zj ve) (aY (dM 5 (dV 7)) cs)))
noncomputable def pz:bC:=aY (bW (aO 9) (.nm 2) (sV (de [dK (.int 173),dK (.int 847),dK (.int 6150),dK (.int 6155),dK (.int 6156),dK (.int 6157),dK (.int 8203),dK (.int 8204),dK (.int 8205),dK (.int 8288),dK (.int 65279)]) (FX (dK (.int 65024)) (dK (.int 65040))))) (aY (bW (aO 9) (.nm 3) (de [dK (.int 97),dK (.int 65),dK (.int 119808),dK (.int 119860),dK (.int 119912),dK (.int 120016),dK (.int 120172),dK (.int 120224),dK (.int 120276),dK (.int 120328),dK (.int 120380),dK (.int 120432)])) (aY (bW (aO 9) (.nm 4) (de [de [dK (.int 8475),dK (.int 8476),dK (.int 8477)],de [dK (.int 119970),dK (.int 120074),dK (.int 120126)],de [dK (.int 8492),dK (.int 120069),dK (.int 120121)]])) (aY (jy (aO 9) 5 (de [])) (aY (fe (aO 9) (.tp [(.nm 6),(.nm 7)]) (BM (oI (tV (dB .Mod (dV 1) (dK (.int 2)))) (DC (aK "gb") 13191 (dV 0)) (dV 0))) vm) (aY (hO (dV 5)) cs)))))
theorem VF{w:aZ}{A:bx}(c:Option aJ)(a:bh)(b:cz)(hR:di 0 A)(hs:b.scope=fS (bB 14)):dp w A (cG c a b pH) [5] (fB (bB 14)) pz:=
 jH (P:=λv=>dp w A (cG c a v pH) _ _ _) (λd e f g j k l m=>bq (dd 2 hR.h rfl rfl rfl (yy cx (Up hR.h rfl rfl rfl rfl cx cx))) (bq (dd 3 hR.h rfl rfl rfl cx) (bq (dd 4 hR.h rfl rfl rfl cx) (bq (BV 5 rfl rfl rfl cx) (bq (i8 (.tp [(.nm 6),(.nm 7)]) true none hR.h rfl (λ_=>rfl) rfl (by decide) (OU hR.h rfl rfl (Y2 (p6:=⟨0,0,0,0⟩) rfl rfl rfl cx cx cx)) (bq (g9 (i:=5) rfl rfl rfl (by decide) rfl rfl rfl (fm (x:="chr") rfl rfl rfl gi Bi)) (bq (dd 8 hR.h rfl rfl rfl cx) (bq (jh (Wv (hZ cx cx rfl) (hZ cx cx rfl)) (bq (dd 7 hR.h rfl rfl rfl (fm (x:="chr") rfl rfl rfl (aN.cons (nJ (nJ cx (fm (x:="ord") rfl rfl rfl gi AQ)) cx) rfl aN.nil) Bi)) cH) (bq (jh (hZ cx cx rfl) (bq (dd 7 hR.h rfl rfl rfl (fm (x:="chr") rfl rfl rfl (aN.cons (tv (tv cx (oJ (T:="str") (id:="str.index") rfl pj PySem.F.slot_str_index PySem.F.type_str_index acb rfl rfl rfl cx gi) rfl) cx rfl) rfl aN.nil) Bi)) cH) cH) cH)) (bq (g9 (i:=5) rfl rfl rfl (by decide) rfl rfl rfl cx) cH))))) (bq (iX cx) cH)))))) b hs
theorem FR(P:bX):(HF P).get? 148=some (jx (bB 14) (aK "_law_typed") (.str (aK "law_xh0036_01") 2323) 147):=by kernel_rfl
theorem YX{w:aZ}{A:bx}{F:Fx}(hR:di 1 A):dG w A F (.ref 148) (cf pH 2 pz):=
 kl (bB 14) (aK "_law_typed") (.str (aK "law_xh0036_01") 2323) 148 147 (ps:=[aK "word",aK "style"]) hR (FR _) (by decide) (by decide) (by kernel_rfl) (by kernel_rfl) (by kernel_rfl) (by kernel_rfl)
  (px λ_ _=>by kernel_rfl) (λe d a b hR hs _ c _ _=>VF d a b hR hs)
noncomputable def oo:List (Option Str):=[some (aK "row"),some (aK "order"),none,none,none]
noncomputable def Eb:aP:=dB .Mult (dB .Mult (dV 3) (aR (dV 0) (dV 2))) (dV 4)
noncomputable def sB:bC:=aY (hO (bL [cM (cn [2,3,4] (.tp [(.tp [(.nm 2),(.nm 3)]),(.nm 4)]) (iZ (dV 1) (de [dB .Pow (dK (.int 10)) (dK (.int 12)),dB .Pow (dK (.int 10)) (dK (.int 6)),dK (.int 1)])) (λ_ Y=>some (true,Y)) (cF Eb) (.own []))] (cD jk))) cs
theorem ZL{w:aZ}{A:bx}(c:Option aJ)(a:bh)(b:cz)(hR:di 0 A)(hs:b.scope=fS (bB 16)):dp w A (cG c a b oo) [] (fB (bB 16)) sB:=
 jH (P:=λv=>dp w A (cG c a v oo) _ _ _) (λd e f g i j k l=>bq (iX (fm (x:="sum") rfl rfl rfl (aN.cons (gH hR.h (tg:=true) (ow:=none) (p:=(.tp [(.tp [(.nm 2),(.nm 3)]),(.nm 4)])) (nm':=(nq oo 2 [0] [some "k",some "way",some "weight"])) (wr':=[2,3,4]) (eH rfl) rfl (λ_=>rfl) rfl (EZ hR.h rfl (aN.cons cx rfl (aN.cons cx rfl aN.nil))) (λn J=>fN) (λn=>cx)) rfl aN.nil) (wv hR.h))) cH) b hs
theorem z8(P:bX):(HF P).get? 160=some (jx (bB 16) (aK "_law_rank") (.str (aK "law_xh0036_01") 2323) 159):=by kernel_rfl
theorem El{w:aZ}{A:bx}{F:Fx}(hR:di 1 A):dG w A F (.ref 160) (cf oo 2 sB):=
 kl (bB 16) (aK "_law_rank") (.str (aK "law_xh0036_01") 2323) 160 159 (ps:=[aK "row",aK "order"]) hR (z8 _) (by decide) (by decide) (by kernel_rfl) (by kernel_rfl) (by kernel_rfl) (by kernel_rfl)
  (px λ_ _=>by kernel_rfl) (λe d a b hR hs _ c _ _=>ZL d a b hR hs)
noncomputable def rc:List (Option Str):=[some (aK "light"),some (aK "order"),some (aK "notes"),some (aK "told"),some (aK "whole"),some (aK "far"),none,none,none]
noncomputable def GD:aP:=bL [dB .Sub (dB .Mult (dV 6) (dV 7)) (dV 8)] (cD tj)
noncomputable def pO:bC:=aY (gz (aO 9) [3,4] true [bL [dB .Div (aR (dV 0) (dK (.int 0))) (dK (.int 64)),dB .Div (aR (dV 0) (dK (.int 1))) (dK (.int 64)),dB .Div (aR (dV 0) (dK (.int 2))) (dK (.int 64))] (cf ml 3 mL),bL [dV 0] (cf qN 1 tG)]) (aY (bW (aO 9) (.nm 5) (bL [cM (cn [6,7,8] (.tp [(.nm 6),(.nm 7),(.nm 8)]) (zg (dV 3) (de [dK (.int 6400),dK (.int 640000),dK (.int 640000)]) (hH (dV 4) (some (dK (.int 4))) none)) (λ_ Y=>some (true,Y)) (cF GD) (.own []))] mN)) (aY (dM 2 (cJ [de [aR (dV 0) (dK (.int 3)),na true (dV 3),dC .Lt (dB .Mult (dV 5) (dB .Pow (dK (.int 10)) (dK (.int 6)))) (dK (.int 1))],de [aR (dV 4) (dK (.int 0)),dK (.bool true),dK (.bool true)]])) (aY (hO (cJ [bL [dV 4,dV 1] (cf oo 2 sB),sV (de [aR (dV 0) (dK (.int 3)),aR (dV 0) (dK (.int 0)),aR (dV 0) (dK (.int 1)),aR (dV 0) (dK (.int 2))]) (bL [dV 3] (cD GZ))])) cs)))
theorem Vq{w:aZ}{A:bx}(d:Option aJ)(a:bh)(b:cz)(hR:di 1 A)(hs:b.scope=fS (bB 17)):dp w A (cG d a b rc) [2] (fB (bB 17)) pO:=
 jH (P:=λv=>dp w A (cG d a v rc) _ _ _) (λe f g j k l m o=>bq (GL hR.h (is:=[3,4]) (names:=[aK "told",aK "whole"]) rfl rfl rfl (aN.cons (fM (x:="rgb_to_yiq") rfl rfl rfl (wC _) rfl (by decide) (aN.cons cx rfl (aN.cons cx rfl (aN.cons cx rfl aN.nil))) (AZ (hR.le (by decide)))) rfl (aN.cons (fM (x:="_law_whole") rfl rfl rfl (zz _) rfl (by decide) (aN.cons cx rfl aN.nil) (Fg (hR.le (by decide)))) rfl aN.nil))) (bq (dd 5 hR.h rfl rfl rfl (fm (x:="max") rfl rfl rfl (aN.cons (gH hR.h (tg:=true) (ow:=none) (p:=(.tp [(.nm 6),(.nm 7),(.nm 8)])) (nm':=(nq rc 6 [] [some "part",some "unit",some "due"])) (wr':=[6,7,8]) (eH rfl) rfl (λ_=>rfl) rfl (aa3 hR.h rfl (aN.cons cx rfl (aN.cons cx rfl (aN.cons (pU (λ_ _=>rfl) cx (g7.some cx) g7.none) rfl aN.nil)))) (λn J=>fN) (λn=>fm (x:="abs") rfl rfl rfl gi zt)) rfl aN.nil) (vA hR.h))) (bq (g9 (i:=2) rfl rfl rfl (by decide) rfl rfl rfl (fL rfl (aN.cons (m8 rfl (aN.cons cx rfl (aN.cons (sk (c:=true) rfl rfl rfl cx) rfl (aN.cons (kD cx cx rfl) rfl aN.nil)))) rfl (aN.cons cx rfl aN.nil)))) (bq (iX (fL rfl (aN.cons (fM (x:="_law_rank") rfl rfl rfl (z8 _) rfl (by decide) (aN.cons cx rfl (aN.cons cx rfl aN.nil)) (El (hR.le (by decide)))) rfl (aN.cons (yy cx (s7 (x:="list") rfl rfl rfl gi SD)) rfl aN.nil)))) cH)))) b hs
theorem Df(P:bX):(HF P).get? 165=some (jx (bB 17) (aK "_law_row") (.str (aK "law_xh0036_01") 2323) 164):=by kernel_rfl
theorem X5{w:aZ}{A:bx}{F:Fx}(hR:di 2 A):dG w A F (.ref 165) (cf rc 3 pO):=
 kl (bB 17) (aK "_law_row") (.str (aK "law_xh0036_01") 2323) 165 164 (ps:=[aK "light",aK "order",aK "notes"]) hR (Df _) (by decide) (by decide) (by kernel_rfl) (by kernel_rfl) (by kernel_rfl) (by kernel_rfl)
  (sW λ_ _ _=>by kernel_rfl) (λe d a b hR hs _ c _ _=>Vq d a b hR hs)
noncomputable def dJ:List (Option Str):=[some (aK "script"),some (aK "cells"),some (aK "place"),some (aK "number"),some (aK "notes"),some (aK "bonds"),some (aK "books"),some (aK "one"),some (aK "two"),some (aK "cell"),some (aK "word"),some (aK "typed"),some (aK "gone"),some (aK "text"),some (aK "bond"),some (aK "draw"),some (aK "cuts"),some (aK "order"),some (aK "ranks"),some (aK "mask"),some (aK "side"),some (aK "chooser"),some (aK "alive"),some (aK "sides"),some (aK "lasts"),some (aK "turn"),some (aK "line"),some (aK "ties"),some (aK "heard"),some (aK "step"),some (aK "more"),some (aK "rows"),some (aK "best"),some (aK "row"),some (aK "told"),some (aK "ahead"),some (aK "last"),some (aK "parts"),some (aK "name"),some (aK "twice"),some (aK "joined"),some (aK "kept"),some (aK "image"),some (aK "tones"),some (aK "tone"),some (aK "lamps"),some (aK "far"),some (aK "rank"),some (aK "light"),none,none,none]
noncomputable def AE:bC:=aY (mK 1 (dB .Mod (dV 2) (dK (.int 16))) (dB .Mod (dV 3) (dK (.int 1000000)))) cs
noncomputable def HJ:aP:=cJ [dK (.int 0),dK (.int 0),dK (.int 0),dK (.int 0),(λO Y=>some (.frd [],Y))]
noncomputable def w9:bC:=jy (aO 52) 6 (cM (cn [49] (.nm 49) (iR (dK (.int 6))) (λ_ Y=>some (true,Y)) (cF HJ) (.own [])))
noncomputable def sY:aP:=cJ [dV 50,dV 49]
noncomputable def tP:aP:=Be (dK (.str (aK "rgb"))) (dB .Mod (dB .FloorDiv (dB .FloorDiv (dV 9) (dK (.int 4))) (dB .Pow (dK (.int 3)) (dV 49))) (dK (.int 3)))
noncomputable def AC:aP:=bL [dV 49] (cf sF 1 uZ)
noncomputable def vu:aP:=bL [dV 49] (cf tX 1 vQ)
noncomputable def r9:dc:=tN (tV (dV 50))
noncomputable def BI:aP:=cJ [dC .Is (dV 49) (dK (.bool true)),dC .Is (dV 49) (dK (.bool false))]
noncomputable def zP:aP:=cJ [dC .Eq (dB .Mod (dV 49) (dK (.int 2))) (dK (.int 0)),dC .Eq (dB .Mod (dV 49) (dK (.int 2))) (dK (.int 1))]
noncomputable def xu:bC:=aY (bW (aO 52) (.nm 9) (aR (dV 1) (dV 2))) (aY (bW (aO 52) (.nm 10) (iD "str" (dK (.str (aK ""))) [cM (cn [49] (.nm 49) (iR (dB .Mod (dV 9) (dK (.int 4)))) (λ_ Y=>some (true,Y)) (cF tP) (.own []))] (gS nh))) (aY (bW (aO 52) (.nm 11) (bL [dV 10,dB .FloorDiv (dV 9) (dK (.int 108))] (cf pH 2 pz))) (aY (jD 12 (jU (aO 52) 12 (cn [49] (.nm 49) (iL none (dV 11)) (λ_ Y=>some (true,Y)) (cF AC) (.own [])))) (aY (bW (aO 52) (.nm 13) (iD "str" (dK (.str (aK ""))) [cM (cn [49,50] (.tp [(.nm 49),(.nm 50)]) (iZ (dV 11) (dV 12)) r9 (cF vu) (.own []))] (gS nh))) (aY (dM 4 (cJ [cM (cn [49] (.nm 49) (iL none (dV 12)) (λ_ Y=>some (true,Y)) (cF BI) (.own [])),cM (cn [49] (.nm 49) (iR (bL [dV 12] (cD iB))) (λ_ Y=>some (true,Y)) (cF zP) (.own []))])) (aY (dM 4 (cJ [dV 13,dV 10])) (aY (bW (aO 52) (.nm 14) (cJ [iD "str" (dV 13) [dK (.str (aK "r"))] (gS kN),iD "str" (dV 13) [dK (.str (aK "g"))] (gS kN),iD "str" (dV 13) [dK (.str (aK "b"))] (gS kN),bL [dV 13] (cD iB)])) (aY (dM 5 (cJ [dV 7,dV 8,dV 14])) (aY (jK 6 (dV 7) (bL [aR (dV 6) (dV 7),iY (dV 14) (cJ [nw (dV 8) (dV 14)])] (cf jq 2 jM))) (aY (jK 6 (dV 8) (bL [aR (dV 6) (dV 8),iY (dV 14) (cJ [nw (dV 7) (dV 14)])] (cf jq 2 jM))) cs))))))))))
noncomputable def vp:bC:=fe (aO 52) (.tp [(.nm 2),(.tp [(.nm 7),(.nm 8)])]) (iE none (cM (cn [49,50] (.nm 49) (iR (dK (.int 6))) (λ_ Y=>some (true,Y)) (oC [49,50] (.nm 50) (iR (dV 49)) (λ_ Y=>some (true,Y)) (cF sY)) (.own [])))) xu
noncomputable def wT:bC:=gz (aO 52) [15,16] false [aR (dV 1) (dK (.int 15)),de []]
noncomputable def xn:bC:=bW (aO 52) (.nm 17) (de [cJ [dK (.int 0),dK (.int 1)],cJ [dB .Add (dK (.int 1)) (dB .Mod (dV 15) (dK (.int 3))),dB .Sub (dK (.int 1)) (dB .Mult (dK (.int 2)) (dB .Mod (dB .FloorDiv (dV 15) (dK (.int 9))) (dK (.int 2))))],cJ [dB .Add (dK (.int 4)) (dB .Mod (dB .FloorDiv (dV 15) (dK (.int 3))) (dK (.int 3))),dB .Sub (dK (.int 1)) (dB .Mult (dK (.int 2)) (dB .Mod (dB .FloorDiv (dV 15) (dK (.int 18))) (dK (.int 2))))]])
noncomputable def Gf:aP:=cJ [dV 49,dV 50,bL [bL [dV 51] (cf qN 1 tG),dV 17] (cf oo 2 sB)]
noncomputable def xq:bC:=jD 18 (jU (aO 52) 18 (cn [49,50,51] (.tp [(.nm 49),(.nm 50),(.nm 51)]) (iL (some 5) (dV 5)) (λ_ Y=>some (true,Y)) (cF Gf) (.own [])))
noncomputable def za:aP:=dB .BitAnd (dB .RShift (dV 19) (dV 49)) (dK (.int 1))
noncomputable def AV:aP:=dV 51
noncomputable def sr:dc:=tC .NotEq (aR (dV 20) (dV 49)) (aR (dV 20) (dV 50))
noncomputable def BQ:bC:=aY (jy (aO 52) 20 (cM (cn [49] (.nm 49) (iR (dK (.int 6))) (λ_ Y=>some (true,Y)) (cF za) (.own [])))) (aY (dM 16 (bL [cM (cn [49,50,51] (.tp [(.nm 49),(.nm 50),(.nm 51)]) (iL none (dV 18)) sr (cF AV) (.own []))] (cD jk))) cs)
noncomputable def wO:bC:=fe (aO 52) (.nm 19) (iR (dK (.int 32))) BQ
noncomputable def Dd:aP:=dB .Pow (dK (.int 2)) (dV 49)
noncomputable def uX:bC:=gz (aO 52) [21,22,23,24] false [AY (dV 17),BF (dK (.int 6)),cM (cn [49] (.nm 49) (iR (dK (.int 6))) (λ_ Y=>some (true,Y)) (cF Dd) (.own [])),de []]
noncomputable def Eu:aP:=dV 49
noncomputable def FP:aP:=aR (aR (dV 30) (dV 49)) (dK (.int 3))
noncomputable def zO:aP:=iY (bL [aR (dV 27) (dV 49),dV 17,dV 4] (cf rc 3 pO)) (cJ [dV 49])
noncomputable def sQ:dc:=w4 true (dV 49) (dV 26)
noncomputable def sN:bC:=aY (bW (aO 52) (.nm 34) (s9 (dV 21) [aR (dV 33) (dK (.int 1)),aR (dV 32) (dK (.int 1))] (cf mO 3 me))) (aY (dM 4 (cJ [de [dV 34,na false (dV 34)],de [dB .Sub (dC .Gt (aR (dV 33) (dK (.int 0))) (aR (dV 32) (dK (.int 0)))) (dC .Lt (aR (dV 33) (dK (.int 0))) (aR (dV 32) (dK (.int 0)))),dK (.bool false)]])) (aY (bW (aO 52) (.nm 32) (oI (tC .Gt (aR (dV 33) (dK (.int 0))) (aR (dV 32) (dK (.int 0)))) (dV 33) (dV 32))) cs))
noncomputable def tW:bC:=aY (bW (aO 52) (.nm 30) (aR (aR (dV 6) (aR (dV 26) (gT (dK (.int 1))))) (dK (.int 4)))) (aY (gz (aO 52) [27,28] false [bL [dV 27,dV 30] (cf jY 2 jX),bL [dV 28,jR (cM (cn [49] (.nm 49) (iK (dV 30)) (λ_ Y=>some (true,Y)) (h9 Eu FP) (.ownd [])))] (cf jY 2 jX)]) (aY (jD 31 (jU (aO 52) 31 (cn [49] (.nm 49) (iL (some 22) (dV 22)) sQ (cF zO) (.own [])))) (aY (bW (aO 52) (.nm 32) (aR (dV 31) (dK (.int 0)))) (aY (fe (aO 52) (.nm 33) (iL none (dV 31)) sN) (aY (dM 26 (aR (dV 32) (dK (.int 2)))) cs)))))
noncomputable def AH:aP:=dV 49
noncomputable def yO:aP:=aR (aR (dV 27) (dV 49)) (dK (.int 3))
noncomputable def vD:aP:=aR (aR (dV 6) (dV 49)) (dK (.int 3))
noncomputable def D4:aP:=dB .Add (dV 49) (aR (dV 23) (dV 38))
noncomputable def sZ:bC:=aY (bW (aO 52) (.nm 37) (sV (dV 37) (cM (cn [49] (.nm 49) (iL none (dV 37)) (λ_ Y=>some (true,Y)) (cF D4) (.own []))))) cs
noncomputable def wG:aP:=aR (dV 16) (bL [dV 49,dB .Sub (dK (.int 63)) (dV 49)] lZ)
noncomputable def tS:aP:=dB .Mult (gT (dK (.int 2))) (dV 49)
noncomputable def tU:aP:=dV 49
noncomputable def se:aP:=aR (aR (dV 40) (dK (.int 4))) (dV 49)
noncomputable def qg:dc:=w4 true (dV 49) (hH (dV 26) (some (gT (dK (.int 2)))) none)
noncomputable def zD:aP:=dV 49
noncomputable def Bu:aP:=dV 50
noncomputable def vP:dc:=tC .NotEq (dV 49) (dV 36)
noncomputable def yx:bC:=aY (jD 41 (jU (aO 52) 41 (cn [49,50] (.tp [(.nm 49),(.nm 50)]) (iI (aR (aR (dV 6) (dV 38)) (dK (.int 4)))) vP (h9 zD Bu) (.ownd [])))) (aY (bW (aO 52) (.nm 42) (bL [dV 41] (cD BE))) (aY (jK 6 (dV 38) (iY (kj (aR (dV 6) (dV 38)) (dK (.int 4))) (cJ [bL [dV 41,jR (nw (dV 35) (aR (aR (aR (dV 6) (dV 38)) (dK (.int 4))) (dV 36)))] (cf jY 2 jX)]))) (aY (dM 4 (cJ [dV 41,dV 42])) cs)))
noncomputable def vS:bC:=aY (gD (tC .NotEq (dV 38) (dV 35)) yx cs) cs
noncomputable def uG:bC:=aY (gz (aO 52) [26,27,28] false [de [aR (dV 22) (dB .Mod (dB .FloorDiv (dB .FloorDiv (dV 15) (dK (.int 36))) (dB .Pow (dK (.int 6)) (dV 25))) (bL [dV 22] (cD iB)))],jR ((λO Y=>some (.frd [],Y))),jR ((λO Y=>some (.frd [],Y)))]) (aY (fe (aO 52) (.nm 29) (iR (dB .Sub (bL [dV 22] (cD iB)) (dK (.int 1)))) tW) (aY (bW (aO 52) (.tp [(.nm 35),(.nm 36)]) (hH (dV 26) (some (gT (dK (.int 2)))) none)) (aY (dM 24 (cJ [aR (dV 32) (dK (.int 0)),aR (dV 32) (dK (.int 1)),aR (dV 27) (dV 36),aR (dV 23) (dV 36)])) (aY (dM 4 (cJ [de [aR (dV 27) (dV 36),dV 28],de [kj (aR (dV 6) (dV 36)) (dK (.int 4)),cM (cn [49] (.nm 49) (iK (dV 27)) (λ_ Y=>some (true,Y)) (h9 AH yO) (.ownd []))]])) (aY (dM 4 (cJ [bL [bL [dV 28] (cf oO 1 oM)] (cD m7),bL [bL [cM (cn [49] (.nm 49) (iL none (hH (dV 26) none (some (gT (dK (.int 1)))))) (λ_ Y=>some (true,Y)) (cF vD) (.own []))] (cD jk)] (cD m7)])) (aY (bW (aO 52) (.nm 37) (de [aR (dV 23) (dV 36)])) (aY (fe (aO 52) (.nm 38) (iL none (hH (dV 26) none (some (gT (dK (.int 2)))))) sZ) (aY (dM 4 (cJ [bL [cM (cn [49] (.nm 49) (iL none (dV 37)) (λ_ Y=>some (true,Y)) (cF wG) (.own []))] lZ,aR (dV 32) (dK (.int 0))])) (aY (bW (aO 52) (.nm 39) (iY (bL [cM (cn [49] (.nm 49) (iT (aR (aR (aR (dV 6) (dV 35)) (dK (.int 4))) (dV 36))) (λ_ Y=>some (true,Y)) (cF tS) (.own []))] (cD sL)) (cJ [(λO Y=>some (.frd [],Y))]))) (aY (bW (aO 52) (.nm 40) (bL [bL [aR (dV 6) (dV 35),aR (dV 6) (dV 36)] (cf jq 2 jM),dV 39] (cf jq 2 jM))) (aY (jK 6 (dV 35) (iY (kj (dV 40) (dK (.int 4))) (cJ [cM (cn [49] (.nm 49) (iK (aR (dV 40) (dK (.int 4)))) qg (h9 tU se) (.ownd []))]))) (aY (mK 23 (dV 35) (aR (dV 23) (dV 36))) (aY (rV 22 (dV 36)) (aY (fe (aO 52) (.nm 38) (iL (some 22) (dV 22)) vS) cs))))))))))))))
noncomputable def A2:bC:=fe (aO 52) (.nm 25) (iR (dK (.int 5))) uG
noncomputable def vE:bC:=bW (aO 52) (.nm 32) (aR (dV 24) (dK (.int 0)))
noncomputable def wm:bC:=aY (dM 4 (cJ [s9 (dV 21) [aR (dV 33) (dK (.int 1)),aR (dV 32) (dK (.int 1))] (cf mO 3 me),dB .Sub (dC .Gt (aR (dV 33) (dK (.int 0))) (aR (dV 32) (dK (.int 0)))) (dC .Lt (aR (dV 33) (dK (.int 0))) (aR (dV 32) (dK (.int 0))))])) (aY (bW (aO 52) (.nm 32) (oI (tC .Lt (aR (dV 33) (dK (.int 0))) (aR (dV 32) (dK (.int 0)))) (dV 33) (dV 32))) cs)
noncomputable def wR:bC:=fe (aO 52) (.nm 33) (iL (some 24) (dV 24)) wm
noncomputable def Ik:aP:=bL [dB .Div (aR (dV 51) (dK (.int 0))) (dK (.int 64)),dB .Div (aR (dV 51) (dK (.int 1))) (dK (.int 64)),dB .Div (aR (dV 51) (dK (.int 2))) (dK (.int 64))] (cf ml 3 mL)
noncomputable def xi:dc:=tV (dB .BitAnd (dB .BitXor (dB .RShift (aR (dV 32) (dK (.int 3))) (dV 49)) (dB .RShift (aR (dV 32) (dK (.int 3))) (dV 50))) (dK (.int 1)))
noncomputable def vK:bC:=jD 43 (jy (aO 52) 43 (cM (cn [49,50,51] (.tp [(.nm 49),(.nm 50),(.nm 51)]) (iL (some 5) (dV 5)) xi (cF Ik) (.own []))))
noncomputable def Il:aP:=aR (dV 50) (dV 49)
noncomputable def Bh:aP:=bL [cM (cn [50] (.nm 50) (iL none (dV 43)) (λ_ Y=>some (true,Y)) (cF Il) (.own []))] (cD jk)
noncomputable def v8:bC:=jD 44 (jU (aO 52) 44 (cn [49] (.nm 49) (iR (dK (.int 3))) (λ_ Y=>some (true,Y)) (cF Bh) (.own [])))
noncomputable def vB:bC:=bW (aO 52) (.nm 45) (bL [aR (dV 44) (dK (.int 0)),aR (dV 44) (dK (.int 1)),aR (dV 44) (dK (.int 2))] (cf oB 3 mT))
noncomputable def yu:aP:=bL [dB .Sub (dB .Mult (dK (.int 64)) (aR (dV 45) (dV 49))) (aR (aR (dV 32) (dK (.int 2))) (dV 49))] (cD tj)
noncomputable def wd:bC:=bW (aO 52) (.nm 46) (bL [cM (cn [49] (.nm 49) (iR (dK (.int 3))) (λ_ Y=>some (true,Y)) (cF yu) (.own []))] mN)
noncomputable def xy:bC:=dM 4 (cJ [de [na true (dV 45),dC .Lt (dB .Mult (dV 46) (dB .Pow (dK (.int 10)) (dK (.int 9)))) (dK (.int 1))],de [dK (.bool true),dK (.bool true)]])
noncomputable def vh:aP:=bL [dB .Sub (dB .Mult (dK (.int 8)) (aR (dV 30) (dV 49))) (bL [dK (.int 0),bL [dK (.int 8),dB .Sub (aR (dV 48) (dV 49)) (aR (aR (dV 32) (dK (.int 2))) (dV 49))] lZ] mN)] (cD tj)
noncomputable def wn:bC:=aY (bW (aO 52) (.nm 34) (bL [dB .Div (aR (dV 48) (dK (.int 0))) (dK (.int 64)),dB .Div (aR (dV 48) (dK (.int 1))) (dK (.int 64)),dB .Div (aR (dV 48) (dK (.int 2))) (dK (.int 64))] (cf ml 3 mL))) (aY (bW (aO 52) (.nm 30) (bL [dB .Mult (dK (.int 8)) (dB .Sub (aR (dV 34) (dK (.int 0))) (aR (dV 44) (dK (.int 0)))),dB .Mult (dK (.int 8)) (dB .Sub (aR (dV 34) (dK (.int 1))) (aR (dV 44) (dK (.int 1)))),dB .Mult (dK (.int 8)) (dB .Sub (aR (dV 34) (dK (.int 2))) (aR (dV 44) (dK (.int 2))))] (cf oB 3 mT))) (aY (bW (aO 52) (.nm 46) (bL [cM (cn [49] (.nm 49) (iR (dK (.int 3))) (λ_ Y=>some (true,Y)) (cF vh) (.own []))] mN)) (aY (dM 4 (cJ [de [na true (dV 30),dC .Lt (dB .Mult (dV 46) (dB .Pow (dK (.int 10)) (dK (.int 9)))) (dK (.int 1))],de [dK (.bool true),dK (.bool true)]])) cs)))
noncomputable def vY:bC:=fe (aO 52) (.tp [(.nm 47),(.nm 33),(.nm 48),(.nm 20)]) (iL (some 24) (dV 24)) wn
noncomputable def uS:aP:=dV 49
noncomputable def p8:dc:=B8 (aR (dV 49) (dK (.int 0))) (aR (dV 49) (dK (.int 1)))
noncomputable def Ay:bC:=yJ 4 (Ai (cM (cn [49] (.nm 49) (iL (some 4) (dV 4)) p8 (cF uS) (.own []))))
noncomputable def Ba:bC:=aY w9 (aY vp (aY wT (aY xn (aY xq (aY wO (aY uX (aY A2 (aY vE (aY wR (aY vK (aY v8 (aY vB (aY wd (aY xy (aY vY (aY Ay (cs)))))))))))))))))
noncomputable def sD:bC:=aY (jy (aO 52) 1 (de [dK (.int 1850),dK (.int 7569),dK (.int 13314),dK (.int 19008),dK (.int 24733),dK (.int 30479),dK (.int 36185),dK (.int 41904),dK (.int 47630),dK (.int 53455),dK (.int 59163),dK (.int 64809),dK (.int 70524),dK (.int 76253),dK (.int 81982),dK (.int 42970)])) (aY (fe (aO 52) (.tp [(.nm 2),(.nm 3)]) (iE none (hH (dV 0) none (some (dK (.int 60))))) AE) (Hf 4 (gz (aO 52) [4,5] false [de [],de []]) Ba))
theorem YB{w:aZ}{A:bx}(b:bh)(d:cz)(hR:di 3 A)(hs:d.scope=fS (bB 18)):dp w A (cG none b d dJ) [1,4,5,6,16,22,23,24,26] (fB (bB 18)) sD:=
 jH (P:=λv=>dp w A (cG none b v dJ) _ _ _) (λe f g j k l m o=>bq (BV 1 rfl rfl rfl cx) (bq (i8 (.tp [(.nm 2),(.nm 3)]) true none hR.h rfl (λ_=>rfl) rfl (by decide) (Dt hR.h none rfl rfl (pU (λ_ _=>rfl) cx g7.none (g7.some cx))) (bq (y9 (i:=1) rfl rfl rfl rfl (by decide) cx cx) cH)) (abH (F:=(cG none b {scope:=fS (bB 18),locals:=e,globals:=f,cells:=g,qual:=j,func:=k,code:=l,frame:=m,builtins:=o} dJ)) (i:=4) rfl (by decide) rfl (sO hR.h (is:=[4,5]) rfl rfl rfl (aN.cons cx rfl (aN.cons cx rfl aN.nil))) (λa q=>(show dp w A (cG (some a) b {scope:=fS (bB 18),locals:=e,globals:=f,cells:=g,qual:=j,func:=k,code:=l,frame:=m,builtins:=o} dJ) [1,4,5,6,16,22,23,24,26] _ _ from bq (AJ (i:=6) (gH hR.h (tg:=false) (ow:=none) (p:=(.nm 49)) (nm':=(nq dJ 49 [] [some "name",none,none])) (wr':=[49]) (eH rfl) rfl (λh=>nomatch h) rfl (jT hR.h rfl rfl cx) (λn J=>fN) (λn=>fL rfl (aN.cons cx rfl (aN.cons cx rfl (aN.cons cx rfl (aN.cons cx rfl (aN.cons sU rfl aN.nil))))))) rfl rfl rfl) (bq (i8 (.tp [(.nm 2),(.tp [(.nm 7),(.nm 8)])]) true none hR.h rfl (λ_=>rfl) rfl (by decide) (Dt hR.h none rfl rfl (SS hR.h (tg:=false) (ow:=none) (p:=(.nm 49)) (nm':=(nq dJ 49 [] [some "two",some "one",none])) (wr':=[49,50]) (p2:=(.nm 50)) (tg2:=false) (eH rfl) rfl (λh=>nomatch h) rfl (jT hR.h rfl rfl cx) rfl (λh=>nomatch h) rfl (λn=>LK hR.h rfl rfl cx) (λn=>cx))) (bq (dd 9 hR.h rfl rfl rfl cx) (bq (dd 10 hR.h rfl rfl rfl (oJ (T:="str") (id:="str.join") rfl pj adE adF DB rfl rfl rfl cx (aN.cons (gH hR.h (tg:=false) (ow:=none) (p:=(.nm 49)) (nm':=(nq dJ 49 [9] [some "k",none,none])) (wr':=[49]) (eH rfl) rfl (λh=>nomatch h) rfl (jT hR.h rfl rfl cx) (λn J=>fN) (λn=>Xk cx cx rfl)) rfl aN.nil))) (bq (dd 11 hR.h rfl rfl rfl (fM (x:="_law_typed") rfl rfl rfl (FR _) rfl (by decide) (aN.cons cx rfl (aN.cons cx rfl aN.nil)) (YX (hR.le (by decide))))) (bq (qx 12 (y:=aK "gone") rfl (vF hR.h (i:=12) (tg:=false) (ow:=none) (p:=(.nm 49)) (nm':=(nq dJ 49 [] [some "sign",none,none])) (wr':=[49]) rfl rfl (eH rfl) rfl (λh=>nomatch h) rfl (hM hR.h none cx) (λn J=>fN) (λn=>fM (x:="in_table_b1") rfl rfl rfl (F4 _) rfl (by decide) (aN.cons cx rfl aN.nil) (KH (hR.le (by decide)))))) (bq (dd 13 hR.h rfl rfl rfl (oJ (T:="str") (id:="str.join") rfl pj adE adF DB rfl rfl rfl cx (aN.cons (gH hR.h (tg:=true) (ow:=none) (p:=(.tp [(.nm 49),(.nm 50)])) (nm':=(nq dJ 49 [] [some "sign",some "out",none])) (wr':=[49,50]) (eH rfl) rfl (λ_=>rfl) rfl (EZ hR.h rfl (aN.cons cx rfl (aN.cons cx rfl aN.nil))) (λn J=>n5 (λH h=>(show gx w A _ _ r9 from R4 (yU cx rfl)) H h)) (λn=>fM (x:="map_table_b3") rfl rfl rfl (Ha _) rfl (by decide) (aN.cons cx rfl aN.nil) (Lm (hR.le (by decide))))) rfl aN.nil))) (bq (g9 (i:=4) rfl rfl rfl (by decide) rfl rfl rfl (fL rfl (aN.cons (gH hR.h (tg:=false) (ow:=none) (p:=(.nm 49)) (nm':=(nq dJ 49 [] [some "out",none,none])) (wr':=[49]) (eH rfl) rfl (λh=>nomatch h) rfl (hM hR.h none cx) (λn J=>fN) (λn=>fL rfl (aN.cons (kD cx cx rfl) rfl (aN.cons (kD cx cx rfl) rfl aN.nil)))) rfl (aN.cons (gH hR.h (tg:=false) (ow:=none) (p:=(.nm 49)) (nm':=(nq dJ 49 [] [some "k",none,none])) (wr':=[49]) (eH rfl) rfl (λh=>nomatch h) rfl (jT hR.h rfl rfl (fm (x:="len") rfl rfl rfl gi wM)) (λn J=>fN) (λn=>fL rfl (aN.cons (kD cx cx rfl) rfl (aN.cons (kD cx cx rfl) rfl aN.nil)))) rfl aN.nil)))) (bq (g9 (i:=4) rfl rfl rfl (by decide) rfl rfl rfl cx) (bq (dd 14 hR.h rfl rfl rfl (fL rfl (aN.cons (oJ (T:="str") (id:="str.count") rfl pj J7 J8 zN rfl rfl rfl cx gi) rfl (aN.cons (oJ (T:="str") (id:="str.count") rfl pj J7 J8 zN rfl rfl rfl cx gi) rfl (aN.cons (oJ (T:="str") (id:="str.count") rfl pj J7 J8 zN rfl rfl rfl cx gi) rfl (aN.cons (fm (x:="len") rfl rfl rfl gi wM) rfl aN.nil)))))) (bq (g9 (i:=5) rfl rfl rfl (by decide) rfl rfl rfl cx) (bq (oA (i:=6) rfl rfl rfl rfl rfl (by decide) (fM (x:="add_func_stats") rfl rfl rfl (tO _) rfl (by decide) (aN.cons cx rfl (aN.cons (qj cx (fL rfl (aN.cons (B5 cx cx) rfl aN.nil))) rfl aN.nil)) (vx (hR.le (by decide)))) cx) (bq (oA (i:=6) rfl rfl rfl rfl rfl (by decide) (fM (x:="add_func_stats") rfl rfl rfl (tO _) rfl (by decide) (aN.cons cx rfl (aN.cons (qj cx (fL rfl (aN.cons (B5 cx cx) rfl aN.nil))) rfl aN.nil)) (vx (hR.le (by decide)))) cx) cH)))))))))))) (bq (sO hR.h (is:=[15,16]) rfl rfl rfl (aN.cons cx rfl (aN.cons cx rfl aN.nil))) (bq (dd 17 hR.h rfl rfl rfl cx) (bq (qx 18 (y:=aK "ranks") rfl (vF hR.h (i:=18) (tg:=false) (ow:=(some 5)) (p:=(.tp [(.nm 49),(.nm 50),(.nm 51)])) (nm':=(nq dJ 49 [17] [some "one",some "two",some "bond"])) (wr':=[49,50,51]) rfl rfl (eH rfl) rfl (λh=>nomatch h) rfl (hM hR.h (some 5) cx) (λn J=>fN) (λn=>fL rfl (aN.cons cx rfl (aN.cons cx rfl (aN.cons (fM (x:="_law_rank") rfl rfl rfl (z8 _) rfl (by decide) (aN.cons (fM (x:="_law_whole") rfl rfl rfl (zz _) rfl (by decide) (aN.cons cx rfl aN.nil) (Fg (hR.le (by decide)))) rfl (aN.cons cx rfl aN.nil)) (El (hR.le (by decide)))) rfl aN.nil)))))) (bq (i8 (.nm 19) false none hR.h rfl (λh=>nomatch h) rfl (by decide) (jT hR.h rfl rfl cx) (bq (AJ (i:=20) (gH hR.h (tg:=false) (ow:=none) (p:=(.nm 49)) (nm':=(nq dJ 49 [19] [some "name",none,none])) (wr':=[49]) (eH rfl) rfl (λh=>nomatch h) rfl (jT hR.h rfl rfl cx) (λn J=>fN) (λn=>cx)) rfl rfl rfl) (bq (g9 (i:=16) rfl rfl rfl (by decide) rfl rfl rfl (fm (x:="sum") rfl rfl rfl (aN.cons (gH hR.h (tg:=false) (ow:=none) (p:=(.tp [(.nm 49),(.nm 50),(.nm 51)])) (nm':=(nq dJ 49 [20] [some "one",some "two",some "rank"])) (wr':=[49,50,51]) (eH rfl) rfl (λh=>nomatch h) rfl (hM hR.h none cx) (λn J=>n5 (λH h=>(show gx w A _ _ sr from hZ cx cx rfl) H h)) (λn=>cx)) rfl aN.nil) (wv hR.h))) cH))) (bq (sO hR.h (is:=[21,22,23,24]) rfl rfl rfl (aN.cons (K8 (n:=0) (hR.le (by decide)) rfl rfl cx) rfl (aN.cons (abZ hR.h rfl rfl rfl cx) rfl (aN.cons (gH hR.h (tg:=false) (ow:=none) (p:=(.nm 49)) (nm':=(nq dJ 49 [] [some "name",none,none])) (wr':=[49]) (eH rfl) rfl (λh=>nomatch h) rfl (jT hR.h rfl rfl cx) (λn J=>fN) (λn=>cx)) rfl (aN.cons cx rfl aN.nil))))) (bq (i8 (.nm 25) false none hR.h rfl (λh=>nomatch h) rfl (by decide) (jT hR.h rfl rfl cx) (bq (sO hR.h (is:=[26,27,28]) rfl rfl rfl (aN.cons (m8 rfl (aN.cons (tv cx (nJ cx (fm (x:="len") rfl rfl rfl gi wM)) rfl) rfl aN.nil)) rfl (aN.cons (v9 (sU)) rfl (aN.cons (v9 (sU)) rfl aN.nil)))) (bq (i8 (.nm 29) false none hR.h rfl (λh=>nomatch h) rfl (by decide) (jT hR.h rfl rfl (nJ (fm (x:="len") rfl rfl rfl gi wM) cx)) (bq (dd 30 hR.h rfl rfl rfl cx) (bq (sO hR.h (is:=[27,28]) rfl rfl rfl (aN.cons (fM (x:="add_callers") rfl rfl rfl (rT _) rfl (by decide) (aN.cons cx rfl (aN.cons cx rfl aN.nil)) (wH (hR.le (by decide)))) rfl (aN.cons (fM (x:="add_callers") rfl rfl rfl (rT _) rfl (by decide) (aN.cons cx rfl (aN.cons (v9 (BH hR.h (tg:=false) (ow:=none) (p:=(.nm 49)) (nm':=(nq dJ 49 [30] [some "name",none,none])) (wr':=[49]) (eH rfl) rfl (λh=>nomatch h) rfl (Ak hR.h cx) (λn J=>fN) (λn=>cx) (λn=>cx))) rfl aN.nil)) (wH (hR.le (by decide)))) rfl aN.nil))) (bq (qx 31 (y:=aK "rows") rfl (vF hR.h (i:=31) (tg:=false) (ow:=(some 22)) (p:=(.nm 49)) (nm':=(nq dJ 49 [4,17,26,27] [some "name",none,none])) (wr':=[49]) rfl rfl (eH rfl) rfl (λh=>nomatch h) rfl (hM hR.h (some 22) cx) (λn J=>n5 (λH h=>(show gx w A _ _ sQ from FE true cx cx rfl) H h)) (λn=>qj (fM (x:="_law_row") rfl rfl rfl (Df _) rfl (by decide) (aN.cons cx rfl (aN.cons cx rfl (aN.cons cx rfl aN.nil))) (X5 (hR.le (by decide)))) cx))) (bq (dd 32 hR.h rfl rfl rfl cx) (bq (i8 (.nm 33) false none hR.h rfl (λh=>nomatch h) rfl (by decide) (hM hR.h none cx) (bq (dd 34 hR.h rfl rfl rfl (Em (H7 (hR.le (by decide))) rfl rfl cx gi)) (bq (g9 (i:=4) rfl rfl rfl (by decide) rfl rfl rfl (fL rfl (aN.cons (m8 rfl (aN.cons cx rfl (aN.cons (sk (c:=false) rfl rfl rfl cx) rfl aN.nil))) rfl (aN.cons (m8 rfl (aN.cons (nJ (kD cx cx rfl) (kD cx cx rfl)) rfl (aN.cons cx rfl aN.nil))) rfl aN.nil)))) (bq (dd 32 hR.h rfl rfl rfl (Ff (hZ cx cx rfl) cx cx)) cH)))) (bq (g9 (i:=26) rfl rfl rfl (by decide) rfl rfl rfl cx) cH))))))) (bq (uI hR.h (p:=(.tp [(.nm 35),(.nm 36)])) (pU (λ_ _=>rfl) cx (g7.some cx) g7.none) rfl rfl rfl rfl) (bq (g9 (i:=24) rfl rfl rfl (by decide) rfl rfl rfl cx) (bq (g9 (i:=4) rfl rfl rfl (by decide) rfl rfl rfl (fL rfl (aN.cons cx rfl (aN.cons (m8 rfl (aN.cons (AN cx cx) rfl (aN.cons (BH hR.h (tg:=false) (ow:=none) (p:=(.nm 49)) (nm':=(nq dJ 49 [27] [some "name",none,none])) (wr':=[49]) (eH rfl) rfl (λh=>nomatch h) rfl (Ak hR.h cx) (λn J=>fN) (λn=>cx) (λn=>cx)) rfl aN.nil))) rfl aN.nil)))) (bq (g9 (i:=4) rfl rfl rfl (by decide) rfl rfl rfl (fL rfl (aN.cons (s7 (x:="str") rfl rfl rfl (aN.cons (fM (x:="count_calls") rfl rfl rfl (Im _) rfl (by decide) (aN.cons cx rfl aN.nil) (acp (hR.le (by decide)))) rfl aN.nil) Ek) rfl (aN.cons (s7 (x:="str") rfl rfl rfl (aN.cons (fm (x:="sum") rfl rfl rfl (aN.cons (gH hR.h (tg:=false) (ow:=none) (p:=(.nm 49)) (nm':=(nq dJ 49 [6] [some "name",none,none])) (wr':=[49]) (eH rfl) rfl (λh=>nomatch h) rfl (hM hR.h none (pU (λ_ _=>rfl) cx g7.none (g7.some cx))) (λn J=>fN) (λn=>cx)) rfl aN.nil) (wv hR.h)) rfl aN.nil) Ek) rfl aN.nil)))) (bq (dd 37 hR.h rfl rfl rfl cx) (bq (i8 (.nm 38) false none hR.h rfl (λh=>nomatch h) rfl (by decide) (hM hR.h none (pU (λ_ _=>rfl) cx g7.none (g7.some cx))) (bq (dd 37 hR.h rfl rfl rfl (yy cx (gH hR.h (tg:=false) (ow:=none) (p:=(.nm 49)) (nm':=(nq dJ 49 [23,38] [some "part",none,none])) (wr':=[49]) (eH rfl) rfl (λh=>nomatch h) rfl (hM hR.h none cx) (λn J=>fN) (λn=>cx)))) cH)) (bq (g9 (i:=4) rfl rfl rfl (by decide) rfl rfl rfl (fL rfl (aN.cons (fm (x:="min") rfl rfl rfl (aN.cons (gH hR.h (tg:=false) (ow:=none) (p:=(.nm 49)) (nm':=(nq dJ 49 [16] [some "part",none,none])) (wr':=[49]) (eH rfl) rfl (λh=>nomatch h) rfl (hM hR.h none cx) (λn J=>fN) (λn=>tv cx (fm (x:="min") rfl rfl rfl gi (yY hR.h)) rfl)) rfl aN.nil) (yY hR.h)) rfl (aN.cons cx rfl aN.nil)))) (bq (dd 39 hR.h rfl rfl rfl (qj (s7 (x:="tuple") rfl rfl rfl (aN.cons (gH hR.h (tg:=false) (ow:=none) (p:=(.nm 49)) (nm':=(nq dJ 49 [] [some "part",none,none])) (wr':=[49]) (eH rfl) rfl (λh=>nomatch h) rfl (Qu hR.h cx) (λn J=>fN) (λn=>cx)) rfl aN.nil) Z7) (fL rfl (aN.cons sU rfl aN.nil)))) (bq (dd 40 hR.h rfl rfl rfl (fM (x:="add_func_stats") rfl rfl rfl (tO _) rfl (by decide) (aN.cons (fM (x:="add_func_stats") rfl rfl rfl (tO _) rfl (by decide) (aN.cons cx rfl (aN.cons cx rfl aN.nil)) (vx (hR.le (by decide)))) rfl (aN.cons cx rfl aN.nil)) (vx (hR.le (by decide))))) (bq (oA (i:=6) rfl rfl rfl rfl rfl (by decide) (qj (AN cx cx) (fL rfl (aN.cons (BH hR.h (tg:=false) (ow:=none) (p:=(.nm 49)) (nm':=(nq dJ 49 [26,40] [some "name",none,none])) (wr':=[49]) (eH rfl) rfl (λh=>nomatch h) rfl (Ak hR.h cx) (λn J=>n5 (λH h=>(show gx w A _ _ qg from FE true cx (pU (λ_ _=>rfl) cx (g7.some cx) g7.none) rfl) H h)) (λn=>cx) (λn=>cx)) rfl aN.nil))) cx) (bq (y9 (i:=23) rfl rfl rfl rfl (by decide) cx cx) (bq (XC (i:=22) rfl rfl rfl (by decide) rfl rfl rfl cx) (bq (Au (mt:=[1,4,5,6,16,23,24,26]) (by decide) (i8 (.nm 38) false (some 22) hR.h rfl (λh=>nomatch h) rfl (by decide) (hM hR.h (some 22) cx) (bq (jh (hZ cx cx rfl) (bq (qx 41 (y:=aK "kept") rfl (SM hR.h (i:=41) (tg:=true) (ow:=none) (p:=(.tp [(.nm 49),(.nm 50)])) (nm':=(nq dJ 49 [36] [some "one",some "bond",none])) (wr':=[49,50]) rfl rfl (eH rfl) rfl (λ_=>rfl) rfl (B2 hR.h rfl rfl cx) (λn J=>n5 (λH h=>(show gx w A _ _ vP from hZ cx cx rfl) H h)) (λn=>cx) (λn=>cx))) (bq (dd 42 hR.h rfl rfl rfl (s7 (x:="dict") rfl rfl rfl gi P9)) (bq (oA (i:=6) rfl rfl rfl rfl rfl (by decide) (qj (AN cx cx) (fL rfl (aN.cons (fM (x:="add_callers") rfl rfl rfl (rT _) rfl (by decide) (aN.cons cx rfl (aN.cons (v9 (B5 cx cx)) rfl aN.nil)) (wH (hR.le (by decide)))) rfl aN.nil))) cx) (bq (g9 (i:=4) rfl rfl rfl (by decide) rfl rfl rfl cx) cH)))) cH) cH))) cH)))))))))))))))) (bq (dd 32 hR.h rfl rfl rfl cx) (bq (Au (mt:=[1,4,5,6,16,22,23,26]) (by decide) (i8 (.nm 33) false (some 24) hR.h rfl (λh=>nomatch h) rfl (by decide) (hM hR.h (some 24) cx) (bq (g9 (i:=4) rfl rfl rfl (by decide) rfl rfl rfl (fL rfl (aN.cons (Em (H7 (hR.le (by decide))) rfl rfl cx gi) rfl (aN.cons (nJ (kD cx cx rfl) (kD cx cx rfl)) rfl aN.nil)))) (bq (dd 32 hR.h rfl rfl rfl (Ff (hZ cx cx rfl) cx cx)) cH)))) (bq (qx 43 (y:=aK "tones") rfl (AJ (i:=43) (gH hR.h (tg:=false) (ow:=(some 5)) (p:=(.tp [(.nm 49),(.nm 50),(.nm 51)])) (nm':=(nq dJ 49 [32] [some "one",some "two",some "bond"])) (wr':=[49,50,51]) (eH rfl) rfl (λh=>nomatch h) rfl (hM hR.h (some 5) cx) (λn J=>n5 (λH h=>(show gx w A _ _ xi from yU cx rfl) H h)) (λn=>fM (x:="rgb_to_yiq") rfl rfl rfl (wC _) rfl (by decide) (aN.cons cx rfl (aN.cons cx rfl (aN.cons cx rfl aN.nil))) (AZ (hR.le (by decide))))) rfl rfl rfl)) (bq (qx 44 (y:=aK "tone") rfl (vF hR.h (i:=44) (tg:=false) (ow:=none) (p:=(.nm 49)) (nm':=(nq dJ 49 [43] [some "k",none,none])) (wr':=[49]) rfl rfl (eH rfl) rfl (λh=>nomatch h) rfl (jT hR.h rfl rfl cx) (λn J=>fN) (λn=>fm (x:="sum") rfl rfl rfl (aN.cons (gH hR.h (tg:=false) (ow:=none) (p:=(.nm 50)) (nm':=(nq dJ 49 [] [some "k",some "part",none])) (wr':=[50]) (eH rfl) rfl (λh=>nomatch h) rfl (hM hR.h none cx) (λn J=>fN) (λn=>cx)) rfl aN.nil) (wv hR.h)))) (bq (dd 45 hR.h rfl rfl rfl (fM (x:="yiq_to_rgb") rfl rfl rfl (zf _) rfl (by decide) (aN.cons cx rfl (aN.cons cx rfl (aN.cons cx rfl aN.nil))) (Gr (hR.le (by decide))))) (bq (dd 46 hR.h rfl rfl rfl (fm (x:="max") rfl rfl rfl (aN.cons (gH hR.h (tg:=false) (ow:=none) (p:=(.nm 49)) (nm':=(nq dJ 49 [32,45] [some "k",none,none])) (wr':=[49]) (eH rfl) rfl (λh=>nomatch h) rfl (jT hR.h rfl rfl cx) (λn J=>fN) (λn=>fm (x:="abs") rfl rfl rfl gi zt)) rfl aN.nil) (vA hR.h))) (bq (g9 (i:=4) rfl rfl rfl (by decide) rfl rfl rfl (fL rfl (aN.cons (m8 rfl (aN.cons (sk (c:=true) rfl rfl rfl cx) rfl (aN.cons (kD cx cx rfl) rfl aN.nil))) rfl (aN.cons cx rfl aN.nil)))) (bq (Au (mt:=[1,4,5,6,16,22,23,26]) (by decide) (i8 (.tp [(.nm 47),(.nm 33),(.nm 48),(.nm 20)]) false (some 24) hR.h rfl (λh=>nomatch h) rfl (by decide) (hM hR.h (some 24) cx) (bq (dd 34 hR.h rfl rfl rfl (fM (x:="rgb_to_yiq") rfl rfl rfl (wC _) rfl (by decide) (aN.cons cx rfl (aN.cons cx rfl (aN.cons cx rfl aN.nil))) (AZ (hR.le (by decide))))) (bq (dd 30 hR.h rfl rfl rfl (fM (x:="yiq_to_rgb") rfl rfl rfl (zf _) rfl (by decide) (aN.cons cx rfl (aN.cons cx rfl (aN.cons cx rfl aN.nil))) (Gr (hR.le (by decide))))) (bq (dd 46 hR.h rfl rfl rfl (fm (x:="max") rfl rfl rfl (aN.cons (gH hR.h (tg:=false) (ow:=none) (p:=(.nm 49)) (nm':=(nq dJ 49 [30,32,48] [some "k",none,none])) (wr':=[49]) (eH rfl) rfl (λh=>nomatch h) rfl (jT hR.h rfl rfl cx) (λn J=>fN) (λn=>fm (x:="abs") rfl rfl rfl (aN.cons (nJ cx (fm (x:="max") rfl rfl rfl (aN.cons cx rfl (aN.cons (fm (x:="min") rfl rfl rfl gi (yY hR.h)) rfl aN.nil)) (vA hR.h))) rfl aN.nil) zt)) rfl aN.nil) (vA hR.h))) (bq (g9 (i:=4) rfl rfl rfl (by decide) rfl rfl rfl (fL rfl (aN.cons (m8 rfl (aN.cons (sk (c:=true) rfl rfl rfl cx) rfl (aN.cons (kD cx cx rfl) rfl aN.nil))) rfl (aN.cons cx rfl aN.nil)))) cH)))))) (bq (La (F:=(cG none b {scope:=fS (bB 18),locals:=e,globals:=f,cells:=g,qual:=j,func:=k,code:=l,frame:=m,builtins:=o} dJ)) (i:=4) rfl q rfl (aaF (n:=0) (hR.le (by decide)) (gH hR.h (tg:=false) (ow:=(some 4)) (p:=(.nm 49)) (nm':=(nq dJ 49 [] [some "pair",none,none])) (wr':=[49]) (eH rfl) rfl (λh=>nomatch h) rfl (hM hR.h (some 4) cx) (λn J=>n5 (λH h=>(show gx w A _ _ p8 from L0 (n:=0) (hR.le (by decide)) cx cx rfl) H h)) (λn=>cx)))) (cH)))))))))))))))))))))) d hs
noncomputable def rb(h:bh):Fz:=λb=>if b=eB then none else h.get? b
theorem DV(P:bX):(HF P).get? 51=some (Yg P):=by kernel_rfl
theorem Gz(P:bX):(HF P).get? 170=some (jx (bB 18) (aK "law") (.str (aK "law_xh0036_01") 2323) 169):=by kernel_rfl
theorem OG(P:bX):(HF P).get? 169=some (NR P):=by kernel_rfl
theorem ac8(P:bX):(rB (gE P) (aK "law")==some (.ref 170))=true:=by kernel_rfl
theorem TS(P:bX):(HF P).objs.size=171:=by kernel_rfl
theorem Hp(P:bX){a:aJ}{o:bK}(e:(HF P).get? a=some o):(qv P).lookup a=some o:=by
 have c:a<171:=by rw[<- TS P];exact cg e
 have key:∀ l:List aJ,a∈l->(l.map λa=>(a,((HF P).get? a).getD default)).lookup a=some o:=by
  intro l;induction l with
  |nil=>intro h;cases h
  |cons b l d=>
   intro h;rw[cB,pb];by_cases q:a=b
   ·subst q;simp[e]
   ·rw[show(a==b)=false from by simpa using q];exact d (by simpa [q] using h)
 refine key _ ?_;unfold uO;exact eu.mpr c
theorem ints_of:∀ {a:List WData},WShape.hasItems [] a .int=true->∃ l:List Int,a=l.map jQ:=by
 intro b;induction b with
 |nil=>
  intro _;exact⟨[],rfl⟩
 |cons x a c=>
  intro h;replace h:=ee h;refine aQ λe=>aU (c h.2) λl d=>?_;subst d;refine aU (hasW_int h.1) λi d=>?_;subst d;exact e ⟨i::l,rfl⟩
theorem Tn{w:aZ}{Z:Fz}{R:WRecords}{d:Str->Option aJ}{h:bh}:∀ {l:List Int} {c:List aI} {as:List aJ},C1 R d h c (l.map jQ) as->bm w Z (l.map T.int) c:=by
 intro a;induction a with
 |nil=>
  intro _ _ r;cases r;simp only[rO];show _=_;rfl
 |cons i l b=>
  intro _ _ r;rw[cB]at r;cases r with
  |cons e f=>
   cases e
   rw[cB];exact⟨_,_,rfl,by exact⟨_,rfl⟩,b f⟩
theorem UT{R:WRecords}{d:Str->Option aJ}{h:bh}{l:List Int}{b:List aI}{as:List aJ}(r:C1 R d h b [.list (l.map jQ)] as):
  ∃ a o e n c,b=[.ref a]/\h.get? a=some o/\o.cls=.type "list"/\o.data=.seq e n/\C1 R d h e.toList (l.map jQ) c:=by
 cases r with
 |cons f g=>
  cases g
  cases f with
  |list i j k m=>exact⟨_,_,_,_,_,rfl,i,j,k,m⟩
theorem VV{args:List WData}(h:(Ct.row.toRowW).claim.pre args=true):∃ l:List Int,args=[.list (l.map jQ)]/\l.length<=63:=by
 refine aQ λb=>bn (pre_splitW h) λh1 h2=>bG (hasAllW_cons (R:=[]) (e:=.list .int) (es:=[]) h1) λd r c h3 h4=>?_;subst c;have f:r=[]:=by
  cases r with
  |nil=>rfl
  |cons x y=>exact nomatch h4
 subst f;refine aV (hasW_list h3) λg a h5=>?_;subst a;refine aU (ints_of h5) λl a=>?_;subst a;refine b ⟨l,rfl,?_⟩;replace h2:J9 [] (.and (.not (.lt (.lit (.int 63)) (.len (.arg 0)))) (.lit (.bool true))) {args:=[Ka (l.map jQ)]}=true:=h2;by_cases q:l.length<=63
 ·exact q
 ·exfalso;simp[J9,WTm.value,less?,Num.less?,show(63:Int)<l.length by exact VO q]at h2
noncomputable def VS:cz:={scope:=fS (bB 18),locals:=0,globals:=3,cells:=[],qual:=aK "",func:=none,code:=.none,frame:=none,builtins:=0}
noncomputable def EL(h:bh):Fx:=cG none h VS []
theorem call_top{w:aZ}{a:aL}{E:aI->aL->Prop}{A:bx}{n:Nat}(hR:di (n+1) A){Z:Fz}(M:On Z a.heap)(N:Md w Z)(j:a.gens=#[])(b:jz a.heap #[])(u:171<=a.heap.objs.size){fd:uf}{f c:aJ}{o P:bK}{body:List dw}{nm:List (Option Str)}{Q:List Str}{mt:List Nat}{g:bC}{l:Array aI}{tk:dz}
  (R:a.heap.get? f=some o) (hd:o.data=.func fd) (V:a.heap.get? c=some P) (W:P.data=.fields l) (hq:l[1]?=some (.str fd.qualname tk)) (k:fd.code=.ref c)
  (X:fd.scope.isCoroutine=false) (y:fd.scope.isGenerator=false) (m:fd.body=.stmts body) (a0:fd.globals=o8) (a1:fd.closure=[]) (a2:fd.builtins=nV)
  (a3:sX fd.scope nm Q) {v:aI} {p:Str} (hp:Q=[p]) (r:yf fd ⟨[v],[]⟩=pure (Q.zip [v]))
  (hB:∀ (A':bx) (z:bh) (h:cz),di n A'->h.scope=fd.scope->dp w A' (cG none z h nm) mt body g)
  {t:T} (B:Rd w Z t v) {U:List S} (C:g (ig nm [.v t]) []=some (.ret (.v (.bool true)),U,[])) :
  bc (model pw w) A (Jn (.ref f) [v]) (λv D=>v=.bool true/\OldK a.heap D.heap/\D.os=a.os/\mD D.gens) E a:=by
 subst hp;have a4:cT w (EL a.heap) (λ_=>0) [] a.heap.objs.size Z a.heap [.v t] [v]:=⟨_,_,rfl,B,rfl⟩;refine wpAny_call (JJ (by have:=hR.d;show A.depth<1000;exact Ig this) R hd X y m ⟨c,P,l,tk,k,V,W,hq⟩ ?_);rw[r];refine cm ?_;rw[a0,a1,a2,k];refine GW (F:=EL a.heap) (nm:=nm) (Y:=[]) (ps:=[p]) (J:=λ_=>0) (O:=[]) (show fi w _ none [] _ from rfl) M N (by rw[j];exact λx B=>by simp at B) ⟨_,b⟩ u a3 a4 (ss:=[.v t]) rfl rfl
  λh D h1 h2 h3 h4 h5 I K=>⟨tL I.md I.on,?_⟩
 refine JK (hB (A.deeper h) a.heap h (hR.deeper h) h1 I C _ _ λfl a5 Z2 s2 L H2 o2=>?_);refine aQ λnG=>aV o2 λv y1 r2=>?_;clear o2;subst y1;refine nG ?_;replace r2:_=_:=r2;subst r2;have s:∀ (i:Nat) (S:Mine.Internal.S),(ig nm [.v t])[i]?=some S->S.isOwn->False:=λi S e o=>by
  unfold ig at e;rw[CL]at e;split at e
  ·have:=ke e;rw[jd]at this;rw[this]at o;exact o
  ·have:=ke e;rw[ye]at this;rw[this.2]at o;exact o
 have G:∀ c o,c≠eB->a.heap.get? c=some o->s2.heap.get? c=some o:=λc o hc e=>by
  have H:¬Mu (none:Option aJ) c:=by rintro (q|q);cases q;exact hc q
  exact L.ext c o H (λq=>absurd (ck (cg e) (I.ok.fah c q)) (cQ _)) (λq=>by cases q) (λi _ S hi R=>(s i S hi R).elim) (K.ext c o H e)
 refine aQ λnG=>aU (K.tab _ b) λm1 t1=>aU (L.tab _ t1) λm2 t2=>nG ⟨rfl,?_,L.os.trans K.os,L.gens (K.gens (by rw[j];exact λx B=>by simp at B))⟩;exact(OldK.refl a.heap).step_table b.1 b.1 (more:=m1++m2) (by rw[<- xT];exact t2.1) (λc o hc e=>G c o hc e) (by decide)
theorem Zd {w:aZ} {c:aL} {E:aI->aL->Prop} (K:(qv w.params).In c.heap) (f:c.gens=#[]) {l:List Int} {b:aJ} {ol:bK} {m:Array aI} {n:Nat} {R:WRecords} {B:Str->Option aJ} {r:List aJ} (s:c.heap.get? b=some ol) (z:ol.cls=.type "list") (C:ol.data=.seq m n)
  (F:C1 R B c.heap m.toList (l.map jQ) r) {U:List S} (h:sD (ig dJ [.v (.lst (l.map T.int))]) []=some (.ret (.v (.bool true)),U,[])) :
  bc (model pw w) callerA (Jn (.ref 170) [.ref b]) (λv D=>v=.bool true/\OldK c.heap D.heap/\D.os=c.os/\mD D.gens) E c:=by
 have d:∀ {a:aJ} {o:bK},(HF w.params).get? a=some o->c.heap.get? a=some o:=λe=>K _ _ (Hp _ e);have i:171<=c.heap.objs.size:=cg (d (Gz w.params));have A:∀ {a:aJ} {o:bK},c.heap.get? a=some o->a≠eB->rb c.heap a=some o:=λe n=>by unfold rb;rw[if_neg n];exact e
 have u:On (rb c.heap) c.heap:=λb o e=>by unfold rb at e;split at e;cases e;exact e
 have x:Md w (rb c.heap):=⟨λa o e n=>A (d e) n,by unfold rb;rw[if_pos rfl]⟩;have j:jz c.heap #[]:=⟨⟨⟨_,_,d (Io w.params),rfl,rfl,rfl⟩,d (DV w.params)⟩,trivial⟩;have G:b≠eB:=λq=>by
  have:=d (DV w.params);rw[q]at s;rw[show c.heap.get? 51=some ol from s]at this;cases this;cases z
 exact call_top (n:=3) (fd:=fdOf (bB 18) (aK "law") (.str (aK "law_xh0036_01") 2323) 169) (g:=sD) (nm:=dJ) (p:=aK "script") ⟨by decide,by decide,rfl⟩ u x f j i (d (Gz w.params)) rfl (d (OG w.params)) rfl rfl rfl (by kernel_rfl) (by kernel_rfl) rfl rfl rfl rfl (Am (by kernel_rfl)) rfl
  (by kernel_rfl) (λH k y hR hs=>YB k y hR hs) (t:=.lst (l.map T.int)) ⟨b,ol,m.toList,rfl,A s G,⟨z,n,by rw[C]⟩,Tn F⟩ h
theorem law_holds(plain:∀ l:List Int,l.length<=63->∃ U,sD (ig dJ [.v (.lst (l.map T.int))]) []=some (.ret (.v (.bool true)),U,[])):Ct.Holds:=
 head λd B hd w x c Z mb C E a o pm cd F dV kV ho G q H i f args y as j z r s A=>by
 refine aQ λk=>aV (VV j) λl I J=>?_;subst I;refine aaH (UT r) λb ol vs n L M N O P Q=>?_;subst M;refine k ?_;have K:(qv w.params).In c.heap:=E;have t:∀ {a:aJ} {o:bK},(HF w.params).get? a=some o->c.heap.get? a=some o:=λe=>K _ _ (Hp _ e);have R:a=170:=by
  refine aQ λk=>gC C.T.g λS u V g1 g2 _ g3=>k ?_;have g4:=t (Gn w.params);have m:c.heap.get? 3=some S:=g1;rw[g4]at m;cases m;have W:u=gE w.params:=by
   have:=g2.symm.trans (show(wX w.params).data=.dict (gE w.params) _ from rfl);injection this
  have X:d.name=aK "law":=defOf_name hd;rw[X,<- g3,W,dN (ac8 w.params)]at i;cases i;rfl
 subst R;refine aU (plain l J) λU p=>iM (Zd K f N O P Q p) (λv D h=>?_) λ_ _ e=>e;refine aQ λk=>fX h λY h1 h2 h3=>?_;clear h;subst Y;refine k ⟨.inl ⟨.bool true,.bool true,[],rfl,λ_=>rfl,.bool true,?_,λ_=>⟨.nil,λ_ h=>nomatch h⟩⟩,h1,h2,h3⟩;show(WShape.has [] (.bool true) .bool&&J9 [] (.eq .res (.lit (.bool true))) {args:=[Ka (l.map jQ)],res:=some (.bool true),after:=[Ka (l.map jQ)]})=true;kernel_rfl
namespace Fl
open PySem PySem.Float64
def Fin(x:UInt64):Prop:=∃ a m e,decode x=.fin a m e
theorem YK:∀ (k j:Nat),j<=2^53->∃ t,V t=j*2^k:=by
 intro a;induction a with
 |zero=>
  intro j h;exact⟨0*2^52+j,V_at h (.inr rfl)⟩
 |succ k b=>
  intro j h;by_cases h2:2^52<=j
  ·exact⟨(k+1)*2^52+j,V_at h (.inl h2)⟩
  ·exact aU (b (2*j) (abl h2)) λt c=>⟨t,by rw[c,yo,uA 2 j,yp,uA 2]⟩
theorem MH{r:UInt64}{neg:Bool}{W a K:Nat}(h:Right r neg W a)(hD:0<a)(h1:54<=K)(h2:K<=2000)(d:W<=a*2^K):
  ∃ t,r=pack neg t/\t<infMag/\dist W (a*V t)<=a*2^(K-54):=by
 refine aQ λl=>nH h λt e h3 h4 h5=>?_;clear h;have b:t<infMag:=by
  rcases ur t infMag with h|h
  ·exact h
  ·have:=h4.mp (by lia);have m:2^(K+1)<(2^54-1)*2^2045:=by
    have:2^(K+1)<=2^2001:=xU (by decide) (Cb h2);exact ff this (by decide+kernel)
   have:a*2^(K+1)<a*((2^54-1)*2^2045):=Nat.mul_lt_mul_of_pos_left m hD;rw[yo,<- yp]at this;lia
 refine l (cI t e b ?_);have n:2^K=2^53*2^(K-53):=by rw[<- Kb];congr 1;lia
 have hs:2^(K-53)=2*2^(K-54):=by rw[show K-53=(K-54)+1 by exact abj h1,yo];lia
 have hA:0<a*2^(K-54):=Nat.mul_pos hD (Kc _);generalize o:a*2^(K-54)=B at*;have hG:a*2^(K-53)=2*B:=by rw[hs,<- o];ac_rfl
 have p:W<=2^53*(2*B):=by
  rw[n]at d;have:a*(2^53*2^(K-53))=2^53*(a*2^(K-53)):=by ac_rfl
  rw[this,hG]at d;exact d
 have f:=Nat.div_add_mod (W+B) (2*B);have g:=nP (W+B) (show 0<2*B by exact(Nat.succ_mul_pos 1 hA));generalize s:(W+B)/(2*B)=j at*;have c:j<=2^53:=by
  rcases ur (2^53) j with h|h
  ·have:2*B*(2^53+1)<=2*B*j:=Cc _ h;rw[Nat.mul_add,uA (2*B) (2^53)]at this;lia
  ·exact h
 refine aU (YK (K-53) j c) λk i=>?_;have h6:=(h5 b k).1;have q:a*V k=2*B*j:=by rw[i,<- hG];ac_rfl
 rw[q]at h6;refine bg h6 ?_;unfold dist;exact Mz g f
theorem DM{neg:Bool}{t:Nat}(h:t<infMag):Fin (pack neg t):=eA (decode_pack neg h) λm e h1 _=>dH neg m e h1
theorem u7{r:UInt64}{neg:Bool}{W a K:Nat}(h:Right r neg W a)(hD:0<a)(h1:54<=K)(h2:K<=2000)(d:W<=a*2^K):
  Fin r/\(a:Int)*val r-sgn neg W<=a*2^(K-54)/\-((a:Int)*2^(K-54))<=(a:Int)*val r-sgn neg W:=by
 refine aQ λf=>ej (MH h hD h1 h2 d) λt g b hd=>?_;subst g;refine f ⟨DM b,?_⟩;rw[val_pack neg b];have e:((a*2^(K-54):Nat):Int)=(a:Int)*2^(K-54):=by simp
 rw[<- e];unfold dist at hd;have c:((a*V t:Nat):Int)=(a:Int)*(V t:Int):=by simp
 unfold sgn;cases neg
 ·simp only[jc,if_false];rw[<- c];exact WN hd
 ·simp only[if_true];have:(a:Int)*-(V t:Int)=-((a*V t:Nat):Int):=by rw[c,Int.mul_neg]
  rw[this];lia
theorem PM(b:Bool):Fin (zero b)/\val (zero b)=0:=by
 have h:(0:Nat)<infMag:=by decide
 exact⟨DM h,by unfold zero;rw[val_pack b h];cases b<;>rfl⟩
theorem xe(n:Nat):((2^n:Nat):Int)=(2:Int)^n:=by simp
theorem En{s:Int}:sgn (decide (s<0)) s.natAbs=s:=by
 unfold sgn;split
 ·rename_i h;simp at h;exact MB h
 ·rename_i h;simp at h;exact(acv h)
theorem SX{x y:UInt64}{K:Nat}(c:Fin x)(d:Fin y)(h1:54<=K)(h2:K<=2000)(g:val x+val y<=2^K)(h:-(2^K)<=val x+val y):
  Fin (add x y)/\val (add x y)-(val x+val y)<=2^(K-54)/\-(2^(K-54))<=val (add x y)-(val x+val y):=by
 refine eZ c λa m e c=>eZ d λb k f d=>?_;obtain⟨j,l⟩:=add_right c d;by_cases h0:val x+val y=0
 ·rw[j h0];refine bn (PM (a&&b)) λn i=>?_;have:(0:Int)<=2^(K-54):=by rw[<- xe];exact nO _
  exact⟨n,by rw[i,h0];lia,by rw[i,h0];exact(Int.neg_ofNat_le_ofNat (2^(_-54)) (0+0))⟩
 ·have o:=xe K;refine bO (u7 (K:=K) (l h0) (by decide) h1 h2 (by rw[<- o]at g h;exact ZB g h)) λp1 p2 p3=>?_;rw[En]at p2 p3;have p:((1:Nat):Int)=1:=rfl;rw[p,Je,Je]at p2 p3;exact⟨p1,p2,p3⟩
theorem ab0{y:UInt64}(a:Fin y):Fin (neg y)/\val (neg y)=-val y:=eZ a λb k f h=>⟨(dH _ _ _ (neg_decode h)),neg_val h⟩
theorem Ia{x:UInt64}{a:Bool}{m:Nat}{e:Int}(h:decode x=.fin a m e):val x=sgn a (val x).natAbs:=by
 rw[val_natAbs h];exact val_eq h
theorem TU{x y:UInt64}{K:Nat}(d:Fin x)(g:Fin y)(h1:54<=K)(h2:K<=2000)(h:val x*val y<=2^1074*2^K)(i:-(2^1074*2^K)<=val x*val y):
  Fin (mul x y)/\2^1074*val (mul x y)-val x*val y<=2^1074*2^(K-54)/\-(2^1074*2^(K-54))<=2^1074*val (mul x y)-val x*val y:=by
 refine aQ λj=>eZ d λa m e d=>eZ g λb k f g=>?_;have q:=mul_right d g;have l:((val x).natAbs*(val y).natAbs:Nat)=(val x*val y).natAbs:=(Int.natAbs_mul _ _).symm;have hs:sgn (a != b) ((val x).natAbs*(val y).natAbs)=val x*val y:=by
  have n:=Ia d;have o:=Ia g;generalize (val x).natAbs=p at*;generalize (val y).natAbs=q at*;rw[n,o];unfold sgn;cases a<;>cases b<;>simp[Int.neg_mul,Int.mul_neg]
 have r:=xe K;have c:=xe 1074;have hc:((2^1074*2^K:Nat):Int)=2^1074*2^K:=by rw[Int.natCast_mul,r,c]
 refine bO (u7 (K:=K) q (Kc _) h1 h2 (by rw[l];rw[<- hc]at h i;exact(mo h i))) λp1 p2 p3=>?_;rw[hs,c]at p2 p3;exact j ⟨p1,p2,p3⟩
theorem Mo{n d K:Nat}(a:Bool)(hd:0<d)(h1:54<=K)(h2:K<=2000)(b:n*2^1074<=d*2^K):
  Fin (ofFrac a n d)/\(d:Int)*val (ofFrac a n d)-sgn a (n*2^1074)<=d*2^(K-54)/\-((d:Int)*2^(K-54))<=(d:Int)*val (ofFrac a n d)-sgn a (n*2^1074):=
 u7 (ofFrac_right hd rfl hd) hd h1 h2 b
end Fl
namespace Fl
open PySem PySem.Float64
noncomputable def rv(x:UInt64):Rat:=(val x:Rat)/2^1074
theorem oG:(0:Rat)<2^1074:=pq rfl
theorem lX(a b:Nat):(2:Rat)^(a+b)=2^a*2^b:=by
 induction b with
 |zero=>simp[Rat.mul_one]
 |succ b c=>rw[<- oX,Rat.pow_succ,c,Rat.pow_succ,Rat.mul_assoc]
theorem le_int{s:Int}{k:Nat}:(s:Rat)/2^1074<=2^k↔s<=2^(1074+k):=by
 have hU:=oG;rw[<- gg,mI,show((2:Int):Rat)=2 from rfl,lX];generalize (2:Rat)^1074=a at*;constructor
 ·intro h;have:=rP h (oW hU);rw[gh (qo hU)]at this;exact Wp this
 ·intro h;refine rQ (c:=a) ?_ hU;rw[gh (qo hU)];exact IP h
theorem DR{d:Int}{k:Nat}(h:d<=2^(1074+k-54)):(d:Rat)/2^1074<=2^k/2^54:=by
 have hU:=oG;rw[<- gg,mI,show((2:Int):Rat)=2 from rfl,show 1074+k-54=1020+k by exact Ad,lX]at h;have h3:(0:Rat)<2^54:=pq rfl;rw[show(1074:Nat)=1020+54 from rfl,lX]at*;generalize (2:Rat)^1020=A at*;generalize (2:Rat)^54=B at*;refine rQ (c:=A*B) ?_ hU;rw[gh (DG hU)];have:(2:Rat)^k/B*(A*B)=(2^k/B*B)*A:=Oe;rw[this,gh (qo h3)];exact IP h
theorem II{a b c:Int}:((a-(b+c):Int):Rat)/2^1074=(a:Rat)/2^1074-((b:Rat)/2^1074+(c:Rat)/2^1074):=by
 rw[lK,lL];generalize (2:Rat)^1074=d;exact ZE
theorem nj{x y:UInt64}(k:Nat)(hk:k<=60)(j:Fin x)(l:Fin y)(e:rv x+rv y<=2^k)(g:-(2^k)<=rv x+rv y):
  Fin (add x y)/\rv (add x y)-(rv x+rv y)<=2^k/2^54/\-(2^k/2^54)<=rv (add x y)-(rv x+rv y):=by
 unfold rv at e g ⊢;have h:(val x:Rat)/2^1074+(val y:Rat)/2^1074=((val x+val y:Int):Rat)/2^1074:=by rw[lL];generalize (2:Rat)^1074=m;exact W2
 have i:∀ s:Int,-(((s:Int):Rat)/2^1074)=((-s:Int):Rat)/2^1074:=λs=>by rw[rR];generalize (2:Rat)^1074=m;exact Uf
 have f:((-(val x+val y):Int):Rat)/2^1074<=2^k:=by rw[<- i,<- h];exact P8 g
 rw[h]at e;have h3:=le_int.mp e;have h4:=le_int.mp f;refine bO (SX (K:=1074+k) j l (wL) (wb hk) h3 (xB h4)) λa b c=>⟨a,?_,?_⟩
 ·have:=DR b;rw[II]at this;exact this
 ·have:=DR (d:=-(val (add x y)-(val x+val y))) (k:=k) (aaV c);rw[<- i,II]at this;exact Yr this
theorem Yb{y:UInt64}(c:Fin y):Fin (neg y)/\rv (neg y)=-rv y:=by
 refine bn (ab0 c) λa b=>⟨a,?_⟩;unfold rv;rw[b,rR];generalize (2:Rat)^1074=d;exact Fv
theorem yR{x y:UInt64}(k:Nat)(hk:k<=60)(c:Fin x)(d:Fin y)(e:rv x-rv y<=2^k)(f:-(2^k)<=rv x-rv y):
  Fin (sub x y)/\rv (sub x y)-(rv x-rv y)<=2^k/2^54/\-(2^k/2^54)<=rv (sub x y)-(rv x-rv y):=by
 refine bn (Yb d) λa b=>?_;have:=nj k hk c a (by rw[b];exact MR e) (by rw[b];exact aaQ f);rw[b]at this;unfold dk;refine bO this λp q r=>?_;clear this;exact⟨p,aaY q,RJ r⟩
theorem E3{x y:UInt64}(k:Nat)(hk:k<=60)(w:Fin x)(C:Fin y)(o:rv x*rv y<=2^k)(r:-(2^k)<=rv x*rv y):
  Fin (mul x y)/\rv (mul x y)-rv x*rv y<=2^k/2^54/\-(2^k/2^54)<=rv (mul x y)-rv x*rv y:=by
 unfold rv at o r ⊢;have hU:=oG;have t:((2^1074:Int):Rat)=2^1074:=by rw[mI];rfl
 have D:(0:Int)<2^1074:=Int.pow_pos (by decide);have c1:∀ s:Int,(s:Rat)<=2^k*2^1074*2^1074->s<=2^1074*2^(1074+k):=λs h=>by
  rw[<- gg,gK,mI,mI,show((2:Int):Rat)=2 from rfl,lX];grind
 have e:∀ a b:Rat,a/2^1074*(b/2^1074)*2^1074*2^1074=a*b:=λa b=>by
  have f:=gh (a:=a) (b:=2^1074) (by grind);have g:=gh (a:=b) (b:=2^1074) (by grind);generalize a/2^1074=p at*;generalize b/2^1074=q at*;generalize (2:Rat)^1074=i at*;subst f g;exact abq
 have j:=c1 (val x*val y) (by
  have:=rP (rP o (oW hU)) (oW hU);rw[e]at this;rw[gK];exact this)
 have l:=c1 (-(val x*val y)) (by
  have:=rP (rP r (oW hU)) (oW hU);rw[e]at this;rw[rR,gK];generalize (2:Rat)^1074=i at*;exact abC this)
 obtain⟨a,b,c⟩:=TU (K:=1074+k) w C (wL) (wb hk) j (by
  generalize (2:Int)^1074*2^(1074+k)=E at*;exact(xB l))
 have fin:∀ d:Rat,2^1074*2^1074*d<=2^1074*(2^1020*2^k)->d<=2^k/2^54:=λd h=>by
  have h3:(0:Rat)<2^54:=pq rfl;have h4:(0:Rat)<2^1020:=pq rfl;rw[show(1074:Nat)=1020+54 from rfl,lX]at h;generalize (2:Rat)^1020=A at*;generalize (2:Rat)^54=B at*;have n:0<A*B:=Kd h4 h3;have h5:A*B*A*(B*d)<=A*B*A*2^k:=Vh h;have h6:=adG h5 (Kd n h4);refine rQ (c:=B) ?_ h3;rw[gh (qo h3)];exact S5 h6
 have u:∀ m p q:Int,((2^1074*m-p*q:Int):Rat)=2^1074*2^1074*((m:Rat)/2^1074-(p:Rat)/2^1074*((q:Rat)/2^1074)):=λm p q=>by
  rw[lK,gK,gK,t];have f:=gh (a:=(m:Rat)) (b:=2^1074) (by grind);have g:=e p q;generalize (m:Rat)/2^1074=F at*;generalize (p:Rat)/2^1074*((q:Rat)/2^1074)=z at*;generalize (2:Rat)^1074=i at*;rw[<- f,<- g];grind
 have v:(((2:Int)^1074*2^(1074+k-54):Int):Rat)=2^1074*(2^1020*2^k):=by
  rw[gK,t,mI,show((2:Int):Rat)=2 from rfl,show 1074+k-54=1020+k by exact Ad,lX]
 refine⟨a,fin _ ?_,?_⟩
 ·have h5:=gg.mpr b;rw[u,v]at h5;exact h5
 ·have h5:=gg.mpr c;rw[rR,u,v]at h5;have:=fin (-((val (mul x y):Rat)/2^1074-(val x:Rat)/2^1074*((val y:Rat)/2^1074))) (by
   generalize (2:Rat)^1074=i at*;generalize (2:Rat)^1020=A at*;exact Lo h5)
  exact XG this
theorem Ex{d k:Nat}{W:Int}{x:UInt64}(hd:0<d)(h:Fin x/\(d:Int)*val x-W*2^1074<=d*2^(1074+k-54)/\-((d:Int)*2^(1074+k-54))<=(d:Int)*val x-W*2^1074):
  Fin x/\(d:Rat)*rv x-W<=d*(2^k/2^54)/\-((d:Rat)*(2^k/2^54))<=(d:Rat)*rv x-W:=by
 refine bO h λa b c=>?_;clear h;have hU:=oG;have g:((2^1074:Int):Rat)=2^1074:=by rw[mI];rfl
 have fin:∀ z:Rat,2^1074*z<=d*(2^1020*2^k)->z<=d*(2^k/2^54):=λz h=>by
  have h3:(0:Rat)<2^54:=pq rfl;have h4:(0:Rat)<2^1020:=pq rfl;rw[show(1074:Nat)=1020+54 from rfl,lX]at h;generalize (2:Rat)^1020=A at*;generalize (2:Rat)^54=B at*;have h5:A*(B*z)<=A*(d*2^k):=by exact ac6 h
  have h6:=adG h5 h4;refine rQ (c:=B) ?_ h3;have:=gh (a:=(2:Rat)^k) (b:=B) (qo h3);generalize (2:Rat)^k/B=y at*;generalize (2:Rat)^k=w at*;subst this;exact Y1 h6
 have e:(((d:Int)*val x-W*2^1074:Int):Rat)=2^1074*((d:Rat)*rv x-W):=by
  unfold rv;rw[lK,gK,gK,g];have i:=gh (a:=(val x:Rat)) (b:=2^1074) (by grind);generalize (val x:Rat)/2^1074=l at*;generalize (2:Rat)^1074=j at*;rw[<- i,show(((d:Int)):Rat)=(d:Rat)from rfl];grind
 have f:(((d:Int)*2^(1074+k-54):Int):Rat)=d*(2^1020*2^k):=by
  rw[gK,mI,show((2:Int):Rat)=2 from rfl,show 1074+k-54=1020+k by exact Ad,lX];rfl
 refine⟨a,fin _ ?_,?_⟩
 ·have h5:=gg.mpr b;rw[e,f]at h5;exact h5
 ·have h5:=gg.mpr c;rw[rR,e,f]at h5;have:=fin (-((d:Rat)*rv x-W)) (by
   generalize (2:Rat)^1074=j at*;generalize (2:Rat)^1020=A at*;exact W4 h5)
  exact SE this
theorem rv_frac{n d:Nat}(k:Nat)(hk:k<=60)(hd:0<d)(a:n<=d*2^k):
  Fin (ofFrac false n d)/\(d:Rat)*rv (ofFrac false n d)-(n:Int)<=d*(2^k/2^54)/\-((d:Rat)*(2^k/2^54))<=(d:Rat)*rv (ofFrac false n d)-(n:Int):=by
 refine Ex (W:=n) hd ?_;have:=Mo (K:=1074+k) false hd (wL) (wb hk) (show n*2^1074<=d*2^(1074+k)by
  rw[Kb,uA (2^1074),<- yp];exact acI _ a)
 have e:sgn false (n*2^1074)=(n:Int)*2^1074:=by unfold sgn;simp
 rw[e]at this;exact this
theorem RC{i:Int}(k:Nat)(hk:k<=60)(h:i.natAbs<=2^k):Fin (ofInt i)/\rv (ofInt i)-i<=2^k/2^54/\-(2^k/2^54)<=rv (ofInt i)-(i:Rat):=by
 have:=u7 (K:=1074+k) (ofInt_right i) (by decide) (wL) (wb hk) (by rw[I3,Kb,uA];exact Cc _ h);have e:sgn (decide (i<0)) (i.natAbs*2^1074)=i*2^1074:=by
  have h1:=@sgn_mul (decide (i<0)) i.natAbs (2^1074);rw[h1,En];simp
 rw[e]at this;have:=Ex (d:=1) (W:=i) (k:=k) (by decide) this;have a:((1:Nat):Rat)=1:=rfl;rw[a,Rat.one_mul,Rat.one_mul]at this;exact this
theorem Rg{y:UInt64}{b:Bool}{k:Nat}{f:Int}(h:decode y=.fin b k f):decode (abs y)=.fin false k f:=by
 have a:uB y=false:=by unfold uB;rw[h]
 have c:(abs y).toNat=y.toNat%2^63:=by
  unfold abs;rw[if_neg (by simp[a])];have:=pack_toNat false (t:=y.toNat%2^63) (nP _ (by decide));simpa using this
 have h2:(abs y).toNat/2^52%2048=y.toNat/2^52%2048:=by omega
 have h3:(abs y).toNat%2^52=y.toNat%2^52:=U6 c;have h4:((abs y).toNat/2^63==1)=false:=by
  have:(abs y).toNat/2^63=0:=Nd c;rw[this];rfl
 unfold decode at h ⊢;simp only[h2,h3,h4]at h ⊢;split at h
 ·split at h<;>cases h
 ·rename_i h1;rw[if_neg h1];split at h
  ·rename_i h4;rw[if_pos h4];cases h;rfl
  ·rename_i h4;rw[if_neg h4];cases h;rfl
theorem OJ{x:UInt64}(b:Fin x):Fin (abs x)/\(0<=rv x->rv (abs x)=rv x)/\(rv x<=0->rv (abs x)=-rv x):=by
 refine eZ b λa m e h=>?_;clear b;have hd:=Rg h;have c:val (abs x)=(val x).natAbs:=by
  rw[val_eq hd,val_natAbs h];rfl
 have hU:=oG;unfold rv;rw[c];refine⟨(dH _ _ _ hd),λh0=>?_,λh0=>?_⟩
 ·have:0<=val x:=by
   have:=rP h0 (oW hU);rw[gh (by grind),Rat.zero_mul]at this;exact uC.mp this
  rw[show((val x).natAbs:Int)=val x by lia]
 ·have:val x<=0:=by
   have:=rP h0 (oW hU);rw[gh (by grind),Rat.zero_mul]at this;exact Rat.intCast_nonpos.mp this
  rw[show((val x).natAbs:Int)=-val x by exact(acu this),rR];generalize (2:Rat)^1074=d;exact Fv
theorem Hq(p q:Int):compare p q=if (p:Rat)/2^1074<(q:Rat)/2^1074 then .lt else if (p:Rat)/2^1074=(q:Rat)/2^1074 then .eq else .gt:=by
 have hU:=oG;have l:(p:Rat)/2^1074<(q:Rat)/2^1074↔p<q:=by
  rw[Rat.div_lt_iff hU,gh (by grind)];exact Rat.intCast_lt_intCast
 have r:(p:Rat)/2^1074=(q:Rat)/2^1074↔p=q:=by
  constructor
  ·intro h;have:(p:Rat)/2^1074*2^1074=(q:Rat)/2^1074*2^1074:=by rw[h]
   rw[gh (by grind),gh (by grind)]at this;exact Rat.intCast_inj.mp this
  ·rintro rfl;rfl
 rcases C2 p q with h|h|h
 ·rw[Int.compare_eq_lt.mpr h,if_pos (l.mpr h)]
 ·subst h;rw[if_neg (by rw[l];exact(Int.lt_irrefl _)),if_pos rfl];simp
 ·rw[Int.compare_eq_gt.mpr h,if_neg (by rw[l];exact AR h),if_neg (by rw[r];exact(Int.ne_of_gt h))]
theorem HY{x y:UInt64}(c:Fin x)(d:Fin y):cmp x y=some (if rv x<rv y then .lt else if rv x=rv y then .eq else .gt):=by
 refine eZ c λa m e c=>eZ d λb k f d=>?_;rw[cmp_right c d,Hq];rfl
theorem TQ{x:UInt64}(b:Fin x)(i:Int):cmpInt x i=some (if rv x<i then .lt else if rv x=i then .eq else .gt):=by
 refine eZ b λa m e b=>?_;have hU:=oG;have:((i*2^1074:Int):Rat)/2^1074=i:=by
  rw[gK,mI,show((2:Int):Rat)=2 from rfl,Rat.mul_div_cancel (by grind)]
 rw[cmpInt_right b i,Hq,this];rfl
end Fl
namespace Fl
open PySem PySem.Float64
def Ap(x:UInt64)(q e:Rat):Prop:=Fin x/\rv x-q<=e/\-e<=rv x-q
theorem Ap.mono{x:UInt64}{q e e':Rat}(h:Ap x q e)(l:e<=e'):Ap x q e':=⟨h.1,dj h.2.1 l,by have:=h.2.2;exact Oh l this⟩
theorem Ap.to{x:UInt64}{q a e:Rat}(h:Ap x q e)(l:q=a):Ap x a e:=l▸h
theorem qA{x y:UInt64}{p q d e B E:Rat}(k:Nat)(hk:k<=60)(a:(2:Rat)^k=B)(h:(2:Rat)^k/2^54=E)(b:Ap x p d)(c:Ap y q e)(i:p+q+d+e<=B)(j:-B<=p+q-d-e):Ap (add x y) (p+q) (d+e+E):=by
 refine aQ λl=>bO b λf1 a1 a2=>?_;clear b;refine bO c λf2 f g=>?_;clear c;refine bO (nj k hk f1 f2 (by rw[a];exact Tr i a1 f) (by rw[a];exact MP j a2 g)) λh1 h2 h3=>?_;rw[h]at h2 h3;exact l ⟨h1,ab2 a1 f h2,QA a2 g h3⟩
theorem ap_sub{x y:UInt64}{p q d e B E:Rat}(k:Nat)(hk:k<=60)(a:(2:Rat)^k=B)(h:(2:Rat)^k/2^54=E)(b:Ap x p d)(c:Ap y q e)(i:p-q+d+e<=B)(j:-B<=p-q-d-e):Ap (sub x y) (p-q) (d+e+E):=by
 refine aQ λl=>bO b λf1 a1 a2=>?_;clear b;refine bO c λf2 f g=>?_;clear c;refine bO (yR k hk f1 f2 (by rw[a];exact Pw i a1 g) (by rw[a];exact Qm j a2 f)) λh1 h2 h3=>?_;rw[h]at h2 h3;exact l ⟨h1,TG a1 g h2,acs a2 f h3⟩
theorem wi{a b A B:Rat}(f:a<=A)(c:-A<=a)(d:b<=B)(e:-B<=b):a*b<=A*B/\-(A*B)<=a*b:=by
 have h1:=xA (show 0<=A-a by grind) (show 0<=B-b by grind);have h2:=xA (show 0<=A+a by grind) (show 0<=B+b by grind);have h3:=xA (show 0<=A-a by grind) (show 0<=B+b by grind);have h4:=xA (show 0<=A+a by grind) (show 0<=B-b by exact ZC d);constructor<;>grind
theorem ap_mul{x y:UInt64}{p q d e P Q B E:Rat}(k:Nat)(hk:k<=60)(i:(2:Rat)^k=B)(o:(2:Rat)^k/2^54=E)(j:Ap x p d)(l:Ap y q e)(m:p<=P)(c:-P<=p)(hq:q<=Q)(f:-Q<=q)(n:(P+d)*(Q+e)<=B):
  Ap (mul x y) (p*q) (d*(Q+e)+P*e+E):=by
 refine aQ λr=>bO j λf1 a1 a2=>?_;clear j;refine bO l λf2 g h=>?_;clear l;refine bn (wi (a:=rv x) (b:=rv y) (A:=P+d) (B:=Q+e) (Af m a1) (zk c a2) (Af hq g) (zk f h)) λs t=>bO (E3 k hk f1 f2 (by rw[i];exact dj s n) (by rw[i];exact Rv n t)) λh1 h2 h3=>?_;rw[o]at h2 h3;exact bn (wi (a:=rv x-p) (b:=rv y) (A:=d) (B:=Q+e) a1 a2 (Af hq g) (zk f h)) λu v=>bn (wi (a:=p) (b:=rv y-q) (A:=P) (B:=e) m c g h) λw z=>r ⟨h1,Ku h2 u w,aa4 h3 v z⟩
theorem N9{x:UInt64}{m j:Nat}(h:decode x=.fin false m (-(j:Int)))(d:j<=1074):Fin x/\rv x=(m:Rat)/2^j:=by
 refine⟨(dH _ _ _ h),?_⟩;unfold rv;rw[val_eq h];have e:(-(j:Int)+1074).toNat=1074-j:=by exact U1
 have s:sgn false (m*2^(-(j:Int)+1074).toNat)=((m:Int))*2^(1074-j):=by rw[e];unfold sgn;simp
 rw[s,gK,mI,show((2:Int):Rat)=2 from rfl];have c:(2:Rat)^1074=2^(1074-j)*2^j:=by rw[<- lX,show 1074-j+j=1074 by exact(Jf d)]
 have h1:(0:Rat)<2^(1074-j):=pq rfl;have h2:(0:Rat)<2^j:=pq rfl;rw[c,Rat.intCast_natCast];have h3:=Kd h1 h2;generalize (2:Rat)^(1074-j)=A at*;generalize (2:Rat)^j=B at*;generalize (m:Rat)=M;clear e s h c;have f:=gh (a:=M) (b:=B) (qo h2);have g:=gh (a:=M*A) (b:=A*B) (DG h3);generalize M/B=u at*;generalize M*A/(A*B)=v at*;have:(v-u)*(A*B)=0:=Un f g;rcases Rat.mul_eq_zero.mp this with h|h
 ·exact YS h
 ·grind
theorem ja{x:UInt64}{m j:Nat}{q e:Rat}(h:decode x=.fin false m (-(j:Int)))(a:j<=1074)(h1:(m:Rat)/2^j-q<=e)(h2:-e<=(m:Rat)/2^j-q):Ap x q e:=by
 exact bn (N9 h a) λf r=>⟨f,by rw[r];exact h1,by rw[r];exact h2⟩
theorem ZQ:Ap 0x3fd3333333333333 (3/10) (1/2^52):=ja (m:=5404319552844595) (j:=54) (by kernel_rfl) (by decide) (by decide+kernel) (by decide+kernel)
theorem Tp:Ap 0x3fe2e147ae147ae1 (59/100) (1/2^52):=ja (m:=5314247560297185) (j:=53) (by kernel_rfl) (by decide) (by decide+kernel) (by decide+kernel)
theorem c11:Ap 0x3fbc28f5c28f5c29 (11/100) (1/2^52):=ja (m:=7926335344172073) (j:=56) (by kernel_rfl) (by decide) (by decide+kernel) (by decide+kernel)
theorem KJ:Ap 0x3fe7ae147ae147ae (37/50) (1/2^52):=ja (m:=6665327448508334) (j:=53) (by kernel_rfl) (by decide) (by decide+kernel) (by decide+kernel)
theorem PI:Ap 0x3fd147ae147ae148 (27/100) (1/2^52):=ja (m:=4863887597560136) (j:=54) (by kernel_rfl) (by decide) (by decide+kernel) (by decide+kernel)
theorem Zo:Ap 0x3fdeb851eb851eb8 (12/25) (1/2^52):=ja (m:=8646911284551352) (j:=54) (by kernel_rfl) (by decide) (by decide+kernel) (by decide+kernel)
theorem Ta:Ap 0x3fda3d70a3d70a3d (41/100) (1/2^52):=ja (m:=7385903388887613) (j:=54) (by kernel_rfl) (by decide) (by decide+kernel) (by decide+kernel)
theorem MV:Ap 0x3fee4cdbef721b32 (410/433) (1/2^52):=ja (m:=8528756800101170) (j:=53) (by kernel_rfl) (by decide) (by decide+kernel) (by decide+kernel)
theorem Lk:Ap 0x3fe3f42ceedac0be (270/433) (1/2^52):=ja (m:=5616498380554430) (j:=53) (by kernel_rfl) (by decide) (by decide+kernel) (by decide+kernel)
theorem PC:Ap 0x3fd1961eec8cbb3a (7020/25547) (1/2^52):=ja (m:=4950134165912378) (j:=54) (by kernel_rfl) (by decide) (by decide+kernel) (by decide+kernel)
theorem Mk:Ap 0x3fe45794d16efff3 (16240/25547) (1/2^52):=ja (m:=5725796214702067) (j:=53) (by kernel_rfl) (by decide) (by decide+kernel) (by decide+kernel)
theorem Yj:Ap 0x3ff1bc99b7dee436 (480/433) (1/2^52):=ja (m:=4992443004937270) (j:=52) (by kernel_rfl) (by decide) (by decide+kernel) (by decide+kernel)
theorem TM:Ap 0x3ffb5817a6224a7f (740/433) (1/2^52):=ja (m:=7696682965944959) (j:=52) (by kernel_rfl) (by decide) (by decide+kernel) (by decide+kernel)
theorem c0:Ap 0x0000000000000000 0 0:=ja (m:=0) (j:=1074) (by kernel_rfl) (by decide) (by decide+kernel) (by decide+kernel)
theorem c1:Ap 0x3ff0000000000000 1 0:=ja (m:=2^52) (j:=52) (by kernel_rfl) (by decide) (by decide+kernel) (by decide+kernel)
noncomputable def yF(r g b:UInt64):UInt64:=add (add (mul 0x3fd3333333333333 r) (mul 0x3fe2e147ae147ae1 g)) (mul 0x3fbc28f5c28f5c29 b)
noncomputable def iF(r g b:UInt64):UInt64:=sub (mul 0x3fe7ae147ae147ae (sub r (yF r g b))) (mul 0x3fd147ae147ae148 (sub b (yF r g b)))
noncomputable def qF(r g b:UInt64):UInt64:=add (mul 0x3fdeb851eb851eb8 (sub r (yF r g b))) (mul 0x3fda3d70a3d70a3d (sub b (yF r g b)))
noncomputable def yI(r g b:Rat):Rat:=3/10*r+59/100*g+11/100*b
noncomputable def iI(r g b:Rat):Rat:=74/100*(r-yI r g b)-27/100*(b-yI r g b)
noncomputable def qI(r g b:Rat):Rat:=48/100*(r-yI r g b)+41/100*(b-yI r g b)
theorem B1:(2:Rat)^1=2:=by decide+kernel
theorem E1:(2:Rat)^1/2^54=1/2^53:=by decide+kernel
section
variable{r g b:UInt64}{p q s:Rat}(hr:Ap r p (1/2^54))(hg:Ap g q (1/2^54))(hb:Ap b s (1/2^54))(p0:0<=p)(p1:p<=1)(q0:0<=q)(q1:q<=1)(s0:0<=s)(s1:s<=1)
include hr hg hb p0 p1 q0 q1 s0 s1
theorem y_ap:Ap (yF r g b) (yI p q s) (1/2^48)/\0<=yI p q s/\yI p q s<=1:=by
 have a:=ap_mul (P:=1) (Q:=1) 1 (by decide) B1 E1 ZQ hr (by decide+kernel) (by decide+kernel) p1 (wJ p0) (by decide+kernel);have c:=ap_mul (P:=1) (Q:=1) 1 (by decide) B1 E1 Tp hg (by decide+kernel) (by decide+kernel) q1 (wJ q0) (by decide+kernel);have m3:=ap_mul (P:=1) (Q:=1) 1 (by decide) B1 E1 c11 hb (by decide+kernel) (by decide+kernel) s1 (wJ s0) (by decide+kernel);replace a:=a.mono (e':=1/2^51) (by decide+kernel);replace c:=c.mono (e':=1/2^51) (by decide+kernel);replace m3:=m3.mono (e':=1/2^51) (by decide+kernel);have a1:=qA 1 (by decide) B1 E1 a c (Vo p1 q1) (Pc p0 q0);replace a1:=a1.mono (e':=1/2^49) (by decide+kernel);have a2:=qA 1 (by decide) B1 E1 a1 m3 (R8 p1 q1 s1) (Pj p0 q0 s0);refine⟨a2.mono (by decide+kernel),?_,?_⟩<;>unfold yI<;>grind
theorem FI:Ap (sub r (yF r g b)) (p-yI p q s) (1/2^47)/\p-yI p q s<=1/\-1<=p-yI p q s:=by
 refine bO (y_ap hr hg hb p0 p1 q0 q1 s0 s1) λh1 h2 h3=>?_;have a1:=ap_sub 1 (by decide) B1 E1 hr h1 (Hr p1 h2) (Fk p0 h3);exact⟨a1.mono (by decide+kernel),HX p1 h2,HK p0 h3⟩
theorem Ew:Ap (sub b (yF r g b)) (s-yI p q s) (1/2^47)/\s-yI p q s<=1/\-1<=s-yI p q s:=by
 refine bO (y_ap hr hg hb p0 p1 q0 q1 s0 s1) λh1 h2 h3=>?_;have a1:=ap_sub 1 (by decide) B1 E1 hb h1 (Hr s1 h2) (Fk s0 h3);exact⟨a1.mono (by decide+kernel),HX s1 h2,HK s0 h3⟩
theorem i_ap:Ap (iF r g b) (iI p q s) (1/2^45)/\iI p q s<=1/\-1<=iI p q s:=by
 refine aQ λf=>bO (FI hr hg hb p0 p1 q0 q1 s0 s1) λh d e=>bO (Ew hr hg hb p0 p1 q0 q1 s0 s1) λv1 i j=>?_;have a:=ap_mul (P:=1) (Q:=1) 1 (by decide) B1 E1 KJ h (by decide+kernel) (by decide+kernel) d e (by decide+kernel);have c:=ap_mul (P:=1) (Q:=1) 1 (by decide) B1 E1 PI v1 (by decide+kernel) (by decide+kernel) i j (by decide+kernel);replace a:=a.mono (e':=1/2^46-1/2^54) (by decide+kernel);replace c:=c.mono (e':=1/2^46-1/2^54) (by decide+kernel);have a1:=ap_sub 1 (by decide) B1 E1 a c (Q7 p1 s0 d) (Y0 p0 s1 e);unfold yI at*;refine f ⟨(a1.mono (by decide+kernel)).to (by unfold iI yI;exact Mi),?_,?_⟩<;>unfold iI yI<;>grind
theorem q_ap:Ap (qF r g b) (qI p q s) (1/2^45)/\qI p q s<=1/\-1<=qI p q s:=by
 refine aQ λf=>bO (FI hr hg hb p0 p1 q0 q1 s0 s1) λh d e=>bO (Ew hr hg hb p0 p1 q0 q1 s0 s1) λv1 i j=>?_;have a:=ap_mul (P:=1) (Q:=1) 1 (by decide) B1 E1 Zo h (by decide+kernel) (by decide+kernel) d e (by decide+kernel);have c:=ap_mul (P:=1) (Q:=1) 1 (by decide) B1 E1 Ta v1 (by decide+kernel) (by decide+kernel) i j (by decide+kernel);replace a:=a.mono (e':=1/2^46-1/2^54) (by decide+kernel);replace c:=c.mono (e':=1/2^46-1/2^54) (by decide+kernel);have a1:=qA 1 (by decide) B1 E1 a c (XN p0 s1 d) (Tv p1 s0 e);unfold yI at*;refine f ⟨(a1.mono (by decide+kernel)).to (by unfold qI yI;exact OS),?_,?_⟩<;>unfold qI yI<;>grind
end
noncomputable def rF(y i q:UInt64):UInt64:=add (add y (mul 0x3fee4cdbef721b32 i)) (mul 0x3fe3f42ceedac0be q)
noncomputable def gF(y i q:UInt64):UInt64:=sub (sub y (mul 0x3fd1961eec8cbb3a i)) (mul 0x3fe45794d16efff3 q)
noncomputable def bF(y i q:UInt64):UInt64:=add (sub y (mul 0x3ff1bc99b7dee436 i)) (mul 0x3ffb5817a6224a7f q)
noncomputable def clipF(x:UInt64):UInt64:=
 let a:=if (cmp x 0x0000000000000000==some jO)=true then 0x0000000000000000 else x
 if (cmp a 0x3ff0000000000000==some o9)=true then 0x3ff0000000000000 else a
noncomputable def rI(y i q:Rat):Rat:=y+410/433*i+270/433*q
noncomputable def gI(y i q:Rat):Rat:=y-7020/25547*i-16240/25547*q
noncomputable def bI(y i q:Rat):Rat:=y-480/433*i+740/433*q
theorem B6:(2:Rat)^6=64:=by decide+kernel
theorem E6:(2:Rat)^6/2^54=1/2^48:=by decide+kernel
noncomputable def clip(x:Rat):Rat:=if x<0 then 0 else if 1<x then 1 else x
theorem cmp_lt{x y:UInt64}(a:Fin x)(b:Fin y):(cmp x y==some jO)=decide (rv x<rv y):=by
 rw[HY a b];by_cases h:rv x<rv y
 ·rw[if_pos h,decide_eq_true h];rfl
 ·rw[if_neg h,decide_eq_false h];split<;>rfl
theorem cmp_gt{x y:UInt64}(a:Fin x)(b:Fin y):(cmp x y==some o9)=decide (rv y<rv x):=by
 rw[HY a b];by_cases h:rv y<rv x
 ·rw[if_neg (show ¬rv x<rv y by grind),if_neg (show ¬rv x=rv y by grind),decide_eq_true h];rfl
 ·rw[decide_eq_false h];by_cases h2:rv x<rv y
  ·rw[if_pos h2];rfl
  ·rw[if_neg h2,if_pos (show rv x=rv y by exact QU h h2)];rfl
theorem clip_ap{x:UInt64}{p e:Rat}(h:Ap x p e)(j:0<=e):Ap (clipF x) (clip p) e:=by
 refine bO h λf a b=>?_;clear h;have z:=c0;have o:=c1;have d:rv 0x0000000000000000=0:=by have:=z.2;exact Ht this
 have g:rv 0x3ff0000000000000=1:=by have:=o.2;exact UR this
 unfold clipF;by_cases h1:rv x<0
 ·have i:(cmp x 0x0000000000000000==some jO)=true:=by rw[cmp_lt f z.1,d];exact decide_eq_true h1
  simp only[i,if_true];have c:(cmp 0x0000000000000000 0x3ff0000000000000==some o9)=false:=by rw[cmp_gt z.1 o.1,d,g];decide
  simp only[c,jc,if_false];refine⟨z.1,?_,?_⟩<;>rw[d]<;>unfold clip<;>grind
 ·have i:(cmp x 0x0000000000000000==some jO)=false:=by rw[cmp_lt f z.1,d];exact decide_eq_false h1
  simp only[i,jc,if_false];by_cases h2:1<rv x
  ·have c:(cmp x 0x3ff0000000000000==some o9)=true:=by rw[cmp_gt f o.1,g];exact decide_eq_true h2
   simp only[c,if_true];refine⟨o.1,?_,?_⟩<;>rw[g]<;>unfold clip<;>grind
  ·have c:(cmp x 0x3ff0000000000000==some o9)=false:=by rw[cmp_gt f o.1,g];exact decide_eq_false h2
   simp only[c,jc,if_false];exact⟨f,by unfold clip;grind,by unfold clip;grind⟩
section
variable{y i q:UInt64}{a c d e:Rat}(hy:Ap y a e)(hi:Ap i c e)(hq:Ap q d e)(e0:0<=e)(e1:e<=1/2^20)(a0:-8<=a)(a1:a<=8)(b0:-8<=c)(b1:c<=8)(d0:-8<=d)(d1:d<=8)
include hy hi hq e0 e1 a0 a1 b0 b1 d0 d1
theorem r_ap:Ap (rF y i q) (rI a c d) (4*e+1/2^44):=by
 have b:=ap_mul (P:=1) (Q:=8) 6 (by decide) B6 E6 MV hi (by decide+kernel) (by decide+kernel) b1 b0 (vd e1);have f:=ap_mul (P:=1) (Q:=8) 6 (by decide) B6 E6 Lk hq (by decide+kernel) (by decide+kernel) d1 d0 (vd e1);replace b:=b.mono (e':=e+1/2^47) (uU e1);replace f:=f.mono (e':=e+1/2^47) (uU e1);have g:=qA 6 (by decide) B6 E6 hy b (Sj e1 a1 b1) (aa8 e1 a0 b0);have h:=qA 6 (by decide) B6 E6 g f (Ss e1 a1 b1 d1) (SL e1 a0 b0 d0);exact h.mono (HW e0)
theorem g_ap:Ap (gF y i q) (gI a c d) (4*e+1/2^44):=by
 have b:=ap_mul (P:=1) (Q:=8) 6 (by decide) B6 E6 PC hi (by decide+kernel) (by decide+kernel) b1 b0 (vd e1);have f:=ap_mul (P:=1) (Q:=8) 6 (by decide) B6 E6 Mk hq (by decide+kernel) (by decide+kernel) d1 d0 (vd e1);replace b:=b.mono (e':=e+1/2^47) (uU e1);replace f:=f.mono (e':=e+1/2^47) (uU e1);have g:=ap_sub 6 (by decide) B6 E6 hy b (OQ e1 a1 b0) (XV e1 a0 b1);have h:=ap_sub 6 (by decide) B6 E6 g f (Xx e1 a1 b0 d0) (Rt e1 a0 b1 d1);exact h.mono (HW e0)
theorem b_ap:Ap (bF y i q) (bI a c d) (4*e+1/2^44):=by
 have b:=ap_mul (P:=6/5) (Q:=8) 6 (by decide) B6 E6 Yj hi (by decide+kernel) (by decide+kernel) b1 b0 (Kt e1);have f:=ap_mul (P:=9/5) (Q:=8) 6 (by decide) B6 E6 TM hq (by decide+kernel) (by decide+kernel) d1 d0 (R6 e1);replace b:=b.mono (e':=6/5*e+1/2^47) (abJ e1);replace f:=f.mono (e':=9/5*e+1/2^47) (Zk e1);have g:=ap_sub 6 (by decide) B6 E6 hy b (abL e1 a1 b0) (abg e1 a0 b1);have h:=qA 6 (by decide) B6 E6 g f (Wu e1 a1 b0 d1) (Vr e1 a0 b1 d0);exact h.mono (ZJ)
end
end Fl
namespace Fl
open PySem PySem.Float64
theorem UK(a:UInt64->UInt64->Bool):∀ (r:List UInt64) (x:UInt64),Ke a x r∈x::r:=by
 intro b;induction b with
 |nil=>
  intro x;exact Cr
 |cons y r c=>
  intro x;have h:∀ z,Ke a z r∈z::r:=c;show Ke a (if a y x=true then y else x) r∈_;have:=h (if a y x=true then y else x);rcases bP.mp this with e|e
  ·rw[e];split<;>simp
  ·simp[e]
theorem Tg{a:List UInt64}(h:a≠[]):nZ a∈a:=by
 cases a with
 |nil=>exact absurd rfl h
 |cons x r=>exact UK _ r x
def Sm(x:UInt64)(e:Rat):Prop:=Fin x/\0<=rv x/\rv x<=e
theorem sm_abs{x:UInt64}{p d e:Rat}(c:Ap x p d)(h1:p+d<=e)(h2:-e<=p-d):Sm (abs x) e:=by
 refine aQ λi=>bO c λf a1 a2=>?_;clear c;refine bO (OJ f) λg j k=>i ⟨g,?_⟩;rcases Rat.le_total (a:=0) (b:=rv x)with h|h
 ·refine j h▸?_;exact⟨h,VN h1 a1⟩
 ·refine k h▸?_;exact⟨Vl h,O4 h2 a2⟩
theorem sm_max{a:List UInt64}{e:Rat}(h:a≠[])(b:∀ x∈a,Sm x e):Sm (nZ a) e:=b _ (Tg h)
theorem ap_int{i:Int}(k:Nat)(hk:k<=60){E:Rat}(d:(2:Rat)^k/2^54=E)(h:i.natAbs<=2^k):Ap (ofInt i) i E:=by
 refine bO (RC k hk h) λa b c=>?_;rw[d]at b c;exact⟨a,b,c⟩
theorem B33:(2:Rat)^33=8589934592:=by decide+kernel
theorem Tz:(2:Rat)^33/2^54=1/2^21:=by decide+kernel
theorem B0:(2:Rat)^0=1:=by decide+kernel
theorem E0:(2:Rat)^0/2^54=1/2^54:=by decide+kernel
theorem far_ok{x:UInt64}{e:Rat}(N:Int)(hN:N.natAbs<=2^33)(h:Sm x e)(j:e<=1)(k:(N:Rat)*e<=1/2)(l:0<=N)(c:(N:Rat)<=2^33):(cmpInt (mul x (ofInt N)) 1==some jO)=true:=by
 refine bO h λf a b=>?_;clear h;have r:Ap x (rv x) 0:=⟨f,N8,LL⟩;have n:=ap_int (i:=N) 33 (by decide) Tz hN;replace c:=B33▸c;have d:(0:Rat)<=N:=uC.mpr l;refine bO n λf1 c1 p=>?_;clear n;refine bn (wi (a:=rv x) (b:=rv (ofInt N)) (A:=rv x) (B:=N+1/2^21) (IZ) (Nc a) (V9 c1) (Ym d p)) λo q=>?_;have m3:rv x*(N:Rat)<=N*e:=by
  have:=I2 b d;exact W6 this
 refine bO (E3 0 (by decide) f f1 (by refine B0▸?_;exact MA j k b o m3) (by refine B0▸?_;exact YQ j k b q m3)) λg m d2=>?_;replace m:=E0▸m;rw[TQ g];rw[if_pos (show rv (mul x (ofInt N))<((1:Int):Rat)by
  have:((1:Int):Rat)=1:=rfl;refine this▸?_;exact aaG j k b o m3 m)]
 rfl
theorem TF{t x:UInt64}(b:Bool)(g:Fin t)(h:Fin x)(k:rv t<=58)(l:-58<=rv t)(m:rv x<=2)(n:-2<=rv x):
  Fin (add t x)/\rv (add t x)-(rv t+rv x)<=1/2^48/\-(1/2^48)<=rv (add t x)-(rv t+rv x)/\
   Fin (if b=true then add (sub x (add t x)) t else add (sub t (add t x)) x)/\rv (if b=true then add (sub x (add t x)) t else add (sub t (add t x)) x)<=3/2^48/\-(3/2^48)<=rv (if b=true then add (sub x (add t x)) t else add (sub t (add t x)) x):=by
 refine bO (nj 6 (by decide) g h (by refine B6▸?_;exact NL k m) (by refine B6▸?_;exact abf l n)) λi a c=>?_;rw[E6]at a c;refine⟨i,a,c,?_⟩;cases b with
 |true=>
  simp only[if_true];refine bO (yR 6 (by decide) h i (by refine B6▸?_;exact Qh l c) (by refine B6▸?_;exact TC k a)) λj d e=>?_;rw[E6]at d e;refine bO (nj 6 (by decide) j g (by refine B6▸?_;exact Lb c d) (by refine B6▸?_;exact L4 a e)) λv0 v1 f=>?_;rw[E6]at v1 f;exact⟨v0,Qc c d v1,TZ a e f⟩
 |false=>
  simp only[jc,if_false];refine bO (yR 6 (by decide) g i (by refine B6▸?_;exact ZW n c) (by refine B6▸?_;exact ON m a)) λj d e=>?_;rw[E6]at d e;refine bO (nj 6 (by decide) j h (by refine B6▸?_;exact Pa c d) (by refine B6▸?_;exact ac9 a e)) λv0 v1 f=>?_;rw[E6]at v1 f;exact⟨v0,Os c d v1,UF a e f⟩
noncomputable def m9:List UInt64->Rat
 |[]=>0
 |x::r=>rv x+m9 r
theorem Hu:m9 []=0:=rfl
theorem wZ{x:UInt64}{r:List UInt64}:m9 (x::r)=rv x+m9 r:=rfl
theorem Rn{t c:UInt64}{C:Rat}(b:Fin t)(hc:Fin c)(f:rv t<=60)(g:-60<=rv t)(c1:rv c<=C)(a:-C<=rv c)(hC:C<=1):
  Fin (C3 t c)/\rv (C3 t c)-rv t<=C+1/2^48/\-(C+1/2^48)<=rv (C3 t c)-rv t:=by
 unfold C3;split
 ·refine bO (nj 6 (by decide) b hc (by refine B6▸?_;exact aas f c1 hC) (by refine B6▸?_;exact abn g a hC)) λh d e=>?_;rw[E6]at d e;exact⟨h,Px c1 d,Nb a e⟩
 ·exact⟨b,aae c1 a,RD c1 a⟩
theorem NI:∀ (a:List UInt64) (t c:UInt64) (T C:Rat),Fin t->Fin c->rv t<=T->-T<=rv t->T+2*(a.length:Rat)<=58->rv c<=C->-C<=rv c->C+4/2^48*(a.length:Rat)<=1->(∀ x∈a,Fin x/\rv x<=1+1/2/\-(1+1/2)<=rv x)->
  ∃ z,adH t c (a.map lM)=some (.float z)/\Fin z/\rv z-(rv t+m9 a)<=C+5/2^48*(a.length:Rat)+1/2^48/\-(C+5/2^48*(a.length:Rat)+1/2^48)<=rv z-(rv t+m9 a):=by
 intro i;induction i with
 |nil=>
  intro t c T C j hc f g hT c1 h hC _;have e:(([]:List UInt64).length:Rat)=0:=rfl;rw[e]at hT hC;refine bO (Rn (C:=C) j hc (XF f hT) (Mq g hT) c1 h (Ps hC)) λk l m=>(j3 _ rfl k ?_ ?_)<;>rw[e]<;>rw[Hu]<;>grind
 |cons x a n=>
  intro t c T C j hc f g hT c1 h hC o;refine aQ λs=>?_;have e:((x::a).length:Rat)=(a.length:Rat)+1:=by rw[cK,Kf];rfl
  rw[e]at hT hC;have H:(0:Rat)<=(a.length:Rat):=I1;refine bO (o x (.head _)) λu p q=>?_;generalize v:(cmp (abs t) (abs x)==some jO||uB t||uB x)=b;refine ot (TF b j u (Qa f hT) (Xo g hT) (Rw p) (Ni q)) λk l m l0 l1 l2=>?_;generalize w:(if b=true then add (sub x (add t x)) t else add (sub t (add t x)) x)=d at*;refine bO (nj 0 (by decide) hc l0 (by refine B0▸?_;exact P0 c1 hC l1) (by refine B0▸?_;exact Lu h hC l2)) λA r d2=>?_;rw[E0]at r d2;refine nH (n (add t x) (add c d) (T+2) (C+4/2^48) k A (Xy f p l) (Zv g q m) (QT hT) (KS c1 l1 r) (Pm h l2 d2) (acq hC) (λy B=>o y (.tail _ B))) λz D E F G=>s (j3 z ?_ E ?_ ?_)
  ·refine cB▸?_;show adH (add t x) (add c (if (cmp (abs t) (abs x)==some jO||uB t||uB x)=true then add (sub x (add t x)) t else add (sub t (add t x)) x)) _=_;refine v▸w▸?_;exact D
  ·refine e▸?_;refine wZ▸?_;exact U9 l F
  ·refine e▸?_;refine wZ▸?_;exact Mn m G
noncomputable def sumQ:List Rat->Rat
 |[]=>0
 |q::r=>q+sumQ r
theorem abE:sumQ []=0:=rfl
theorem NN{x:Rat}{r:List Rat}:sumQ (x::r)=x+sumQ r:=rfl
inductive Aps (e:Rat):List UInt64->List Rat->Prop
 |nil:Aps e [] []
 |cons {x q xs qs}:Ap x q e->q<=1->-1<=q->Aps e xs qs->Aps e (x::xs) (q::qs)
theorem Aps.sum{e:Rat}{c:List UInt64}{d:List Rat}(h:Aps e c d):m9 c-sumQ d<=(c.length:Rat)*e/\-((c.length:Rat)*e)<=m9 c-sumQ d:=by
 induction h with
 |nil=>
  have g:(([]:List UInt64).length:Rat)=0:=rfl;refine g▸?_;rw[Hu,abE];constructor<;>grind
 |@cons x q c d h1 h2 h3 _ j=>
  have i:((x::c).length:Rat)=(c.length:Rat)+1:=by rw[cK,Kf];rfl
  refine bO h1 λf a b=>?_;clear h1;refine i▸?_;refine wZ▸NN▸?_;constructor<;>grind
theorem Aps.ok{e:Rat}(d:e<=1/2){g:List UInt64}{i:List Rat}(h:Aps e g i):∀ x∈g,Fin x/\rv x<=1+1/2/\-(1+1/2)<=rv x:=by
 induction h with
 |nil=>intro x j;cases j
 |cons h1 h2 h3 _ k=>
  intro y c;rcases bP.mp c with rfl|c
  ·refine bO h1 λf a b=>?_;clear h1;exact⟨f,Yq d h2 a,Yp d h3 b⟩
  ·exact k y c
theorem sum_ap{a:List UInt64}{m:List Rat}(h0:a≠[])(f:a.length<=15)(h:Aps (1/2^45) a m):∃ z,lI 0 (a.map lM)=some (.float z)/\Ap z (sumQ m) (1/2^40):=by
 cases a with
 |nil=>exact absurd rfl h0
 |cons x r=>
  refine bn h.sum λg j=>?_;have b:=h.ok (by decide+kernel);refine bO (b x (.head _)) λq n o=>bO (ap_int (i:=0) 0 (by decide) E0 (by decide)) λs c d=>?_;have t:((0:Int):Rat)=0:=rfl;rw[t]at c d;refine bO (nj 6 (by decide) s q (by refine B6▸?_;exact Lz n c) (by refine B6▸?_;exact K4 o d)) λu k l=>?_;rw[E6]at k l;have p:rv 0=0:=by have:=c0.2;exact Ht this
  have e:(r.length:Rat)<=14:=by
   have:((r.length:Nat):Rat)<=((14:Nat):Rat):=Rat.natCast_le_natCast.mpr (by simpa using f);exact this
  have E:(0:Rat)<=(r.length:Rat):=I1;refine nH (NI r (add (ofInt 0) x) 0 2 0 u c0.1 (L3 n c k) (OP o d l) (Y6 e) (le_of_eq_of_le p rfl) (OR p) (WB e) (λy v=>b y (.tail _ v))) λz w A B C=>?_;have D:((x::r).length:Rat)=(r.length:Rat)+1:=by rw[cK,Kf];rfl
  rw[D]at g j;rw[wZ]at g j;refine(j3 z w A ?_ ?_)
  ·exact Wj c k e B g
  ·exact Nj d l e C j
end Fl
namespace Ma
noncomputable def sm:List Nat->(Nat->Int)->Int
 |[],_=>0
 |x::L,f=>f x+sm L f
theorem fW{f:Nat->Int}:sm [] f=0:=rfl
theorem ga{f:Nat->Int}{x:Nat}{L:List Nat}:sm (x::L) f=f x+sm L f:=rfl
theorem DX(L a:List Nat)(f:Nat->Int):sm (L++a) f=sm L f+sm a f:=by
 induction L with
 |nil=>simp[fW,ga]
 |cons x L b=>simp only[rq,fW,ga,b];exact HC
theorem jC{L:List Nat}{f g:Nat->Int}(h:∀ x∈L,f x=g x):sm L f=sm L g:=by
 induction L with
 |nil=>rfl
 |cons x L a=>simp only[fW,ga];rw[h x (.head _),a λy b=>h y (.tail _ b)]
theorem ac7{L:List Nat}{f g:Nat->Int}(h:∀ x∈L,f x<=g x):sm L f<=sm L g:=by
 induction L with
 |nil=>exact my _
 |cons x L a=>simp only[fW,ga];have:=h x (.head _);have:=a λy b=>h y (.tail _ b);exact Sr ‹_› this
theorem tm(L:List Nat):sm L (λ_=>0)=0:=by
 induction L with
 |nil=>rfl
 |cons x L a=>simp only[fW,ga,a];rfl
theorem qk{L:List Nat}{f:Nat->Int}(h:∀ x,0<=f x):0<=sm L f:=by
 rw[<- tm L];exact ac7 λx _=>h x
theorem vU(L:List Nat)(f g:Nat->Int):sm L (λx=>f x+g x)=sm L f+sm L g:=by
 induction L with
 |nil=>rfl
 |cons x L a=>simp only[fW,ga,a];exact IC
theorem ly{L c:List Nat}(h:L.Perm c)(f:Nat->Int):sm L f=sm c f:=by
 induction h with
 |nil=>rfl
 |cons x _ d=>simp only[fW,ga,d]
 |swap x y l=>simp only[fW,ga];exact(Int.add_left_comm _ _ _)
 |trans _ _ a b=>rw[a,b]
noncomputable def tot(W:Nat->Nat->Int):List Nat->Int
 |[]=>0
 |x::L=>sm L (λu=>W u x)+tot W L
theorem j2{W:Nat->Nat->Int}:tot W []=0:=rfl
theorem ir{W:Nat->Nat->Int}{x:Nat}{L:List Nat}:tot W (x::L)=sm L (λu=>W u x)+tot W L:=rfl
theorem oN{W:Nat->Nat->Int}(hs:∀ i j,W i j=W j i){L c:List Nat}(h:L.Perm c):tot W L=tot W c:=by
 induction h with
 |nil=>rfl
 |cons x p d=>simp only[j2,ir,d,ly p]
 |swap x y l=>simp only[j2,ir,fW,ga];rw[hs x y];exact IC
 |trans _ _ a b=>rw[a,b]
theorem qP{W a:Nat->Nat->Int}:∀ {L:List Nat},(∀ i∈L,∀ j∈L,W i j=a i j)->tot W L=tot a L:=by
 intro b;induction b with
 |nil=>
  intro _;exact rfl
 |cons x L c=>
  intro h;simp only[j2,ir];rw[jC (g:=λu=>a u x) λu d=>h u (.tail _ d) x (.head _),c λi hi j e=>h i (.tail _ hi) j (.tail _ e)]
theorem PB{W:Nat->Nat->Int}(h:∀ i j,0<=W i j):∀ L:List Nat,0<=tot W L:=by
 intro a;induction a with
 |nil=>
  exact my _
 |cons x L b=>
  simp only[j2,ir];have:=b;have:=qk (L:=L) (f:=λu=>W u x) λu=>h u x;exact Rz ‹_› this
noncomputable def du(W:Nat->Nat->Int)(s:Nat->Bool):Nat->Nat->Int:=λi j=>if s i=s j then 0 else W i j
theorem wB{W:Nat->Nat->Int}(hs:∀ i j,W i j=W j i)(s:Nat->Bool)(i j:Nat):du W s i j=du W s j i:=by
 unfold du;by_cases h:s i=s j
 ·rw[if_pos h,if_pos h.symm]
 ·rw[if_neg h,if_neg λq=>h q.symm,hs]
theorem Iw{W:Nat->Nat->Int}(h:∀ i j,0<=W i j)(s:Nat->Bool)(i j:Nat):0<=du W s i j:=by
 unfold du;split
 ·exact my _
 ·exact h i j
def Ma(W:Nat->Nat->Int)(A R:List Nat):Prop:=
 ∀ (s:Nat->Bool) (y:Nat),y∈A->y∉R->(∀ x,R.head?=some x->s y≠s x)->sm R (λu=>W u y)<=tot (du W s) (y::R)
theorem U4{W:Nat->Nat->Int}{A:List Nat}{x:Nat}:Ma W A [x]:=λs y a b hd=>by
 have:=hd x rfl;simp only[j2,ir,fW,ga,du];rw[if_neg λq=>this q.symm];exact O8
theorem Ye{W:Nat->Nat->Int}(k:∀ i j,0<=W i j){A R:List Nat}{x v:Nat}(h:Ma W A (x::R))(m:v∈A)(g:v∉x::R)(b:∀ y∈A,y∉x::R->sm (x::R) (λu=>W u y)<=sm (x::R) (λu=>W u v)):Ma W A (v::x::R):=λs y l n hd=>by
 have c:=hd v rfl;have d:y∉x::R:=λq=>n (.tail _ q);rw[ir,ir];have e:∀ f:Nat->Int,sm (v::x::R) f=f v+sm (x::R) f:=λ_=>rfl;rw[e,e];have c1:du W s v y=W v y:=by unfold du;rw[if_neg λq=>c q.symm]
 rw[c1];have o:=qk (L:=x::R) (f:=λu=>du W s u v) λu=>Iw k s u v;have p:=qk (L:=x::R) (f:=λu=>du W s u y) λu=>Iw k s u y;by_cases q:s v=s x
 ·have:=h s y l d λr a=>by cases a;rw[<- q];exact c
  rw[ir]at this;exact YW o this
 ·have:=h s v m g λr a=>by cases a;exact q
  rw[ir]at this;have:=b y l d;exact Np p ‹_› this
theorem VK{W:Nat->Nat->Int}(hs:∀ i j,W i j=W j i){A R:List Nat}{x t:Nat}(h:Ma W A (x::R))(c:A.Perm (t::x::R))(d:t∉x::R)(s:Nat->Bool)(a:s t≠s x):sm (x::R) (λu=>W u t)<=tot (du W s) A:=by
 rw[oN (wB hs s) c];exact h s t (c.mem_iff.mpr (.head _)) d λe b=>by cases b;exact a
noncomputable def fY(W:Nat->Nat->Int)(x t:Nat):Nat->Nat->Int:=λi j=>if i=j then W i j else if i=x then W x j+W t j else if j=x then W i x+W i t else W i j
theorem BG{W:Nat->Nat->Int}(hs:∀ i j,W i j=W j i)(x t i j:Nat):fY W x t i j=fY W x t j i:=by
 unfold fY;by_cases h0:i=j
 ·subst h0;rfl
 rw[if_neg h0,if_neg (Ne.symm h0)];by_cases h1:i=x<;>by_cases h2:j=x
 ·subst h1 h2;rfl
 ·rw[if_pos h1,if_neg h2,if_pos h1,hs x j,hs t j]
 ·rw[if_neg h1,if_pos h2,if_pos h2,hs i x,hs i t]
 ·rw[if_neg h1,if_neg h2,if_neg h2,if_neg h1,hs]
theorem Pe{W:Nat->Nat->Int}(h:∀ i j,0<=W i j)(x t i j:Nat):0<=fY W x t i j:=by
 unfold fY;have:=h x j;have:=h t j;have:=h i x;have:=h i t;have:=h i j;split
 ·exact aag this
 ·split
  ·exact ZA ‹_› ‹_›
  ·split<;>lia
theorem KZ{W:Nat->Nat->Int}(hs:∀ i j,W i j=W j i){x t:Nat}{B:List Nat}(a:x∉B):tot (fY W x t) (x::B)=tot W (t::x::B)-W x t:=by
 simp only[j2,ir,fW,ga];have b:sm B (λu=>fY W x t u x)=sm B (λu=>W u x)+sm B (λu=>W u t):=by
  rw[<- vU];refine jC λu c=>?_;have:u≠x:=λq=>a (q▸c);unfold fY;rw[if_neg this,if_neg this,if_pos rfl]
 have d:tot (fY W x t) B=tot W B:=qP λi hi j e=>by
  have h1:i≠x:=λq=>a (q▸hi);have h2:j≠x:=λq=>a (q▸e);unfold fY;simp only[if_neg h1,if_neg h2,ite_self]
 rw[b,d];exact aaM
theorem RF{W:Nat->Nat->Int}(hs:∀ i j,W i j=W j i){x t:Nat}{B:List Nat}(b:x∉B)(s:Nat->Bool)(a:s t=s x):tot (du (fY W x t) s) (x::B)=tot (du W s) (t::x::B):=by
 simp only[j2,ir,fW,ga];have c0:du W s x t=0:=by unfold du;rw[if_pos a.symm]
 have c:sm B (λu=>du (fY W x t) s u x)=sm B (λu=>du W s u x)+sm B (λu=>du W s u t):=by
  rw[<- vU];refine jC λu d=>?_;have:u≠x:=λq=>b (q▸d);unfold du fY;rw[if_neg this,if_neg this,if_pos rfl,a];split<;>lia
 have e:tot (du (fY W x t) s) B=tot (du W s) B:=qP λi hi j f=>by
  have h1:i≠x:=λq=>b (q▸hi);have h2:j≠x:=λq=>b (q▸f);unfold du fY;simp only[if_neg h1,if_neg h2,ite_self]
 rw[c0,c,e];exact abc
theorem Zr{W:Nat->Nat->Int}(s:Nat->Bool){t:Nat}{B:List Nat}(h:∀ u∈B,s u≠s t):tot (du W s) (t::B)=sm B (λu=>W u t):=by
 simp only[j2,ir];have a:sm B (λu=>du W s u t)=sm B (λu=>W u t):=jC λu b=>by unfold du;rw[if_neg (h u b)]
 have c:tot (du W s) B=0:=by
  have:tot (du W s) B=tot (λ_ _=>0) B:=qP λi hi j d=>by
   have h1:=h i hi;have h2:=h j d;unfold du;rw[if_pos];revert h1 h2;cases s i<;>cases s j<;>cases s t<;>simp
  rw[this];have z:∀ B:List Nat,tot (λ_ _=>0) B=0:=by
   intro B;induction B with
   |nil=>rfl
   |cons x B e=>simp only[j2,ir,e,tm];rfl
  exact z B
 rw[a,c];exact(oY _)
theorem IL{W:Nat->Nat->Int}(a:∀ i j,0<=W i j)(hs:∀ i j,W i j=W j i){A R C:List Nat}{y:Nat}(b:A.Perm (y::(R++C))):sm R (λu=>W u y)<=tot W A:=by
 rw[oN hs b];simp only[j2,ir,DX];have:=qk (L:=C) (f:=λu=>W u y) λu=>a u y;have:=PB a (R++C);exact WH ‹_› this
noncomputable def fo(M:Nat->Nat)(s:Nat->Bool):List Nat->Nat
 |[]=>0
 |x::L=>(if s x then M x else 0)+fo M s L
theorem ll{M:Nat->Nat}{s:Nat->Bool}:fo M s []=0:=rfl
theorem kR{M:Nat->Nat}{s:Nat->Bool}{x:Nat}{L:List Nat}:fo M s (x::L)=(if s x then M x else 0)+fo M s L:=rfl
theorem nv{M:Nat->Nat}{s:Nat->Bool}{L c:List Nat}(h:L.Perm c):fo M s L=fo M s c:=by
 induction h with
 |nil=>rfl
 |cons x _ d=>simp only[ll,kR,d]
 |swap x y l=>simp only[ll,kR];exact(Nat.add_left_comm _ _ _)
 |trans _ _ a b=>rw[a,b]
theorem A9{M M':Nat->Nat}{s D:Nat->Bool}:∀ {L:List Nat},(∀ x∈L,M x=M' x/\s x=D x)->fo M s L=fo M' D L:=by
 intro c;induction c with
 |nil=>
  intro _;exact rfl
 |cons x L d=>
  intro h;refine bn (h x (.head _)) λa b=>?_;simp only[ll,kR,a,b,d λy e=>h y (.tail _ e)]
theorem aaa{M:Nat->Nat}{s:Nat->Bool}:∀ (L:List Nat),fo M s L<=fo M (λ_=>true) L:=by
 intro a;induction a with
 |nil=>
  exact cu _
 |cons x L b=>
  simp only[ll,kR];have:=b;split<;>simp<;>lia
structure Inv (W0:Nat->Nat->Int) (W:Nat->Nat->Int) (M:Nat->Nat) (A:List Nat):Prop where
 cut:∀ s,tot (du W s) A=tot (du W0 (λi=>(fo M s A).testBit i)) [0,1,2,3,4,5]
theorem Inv.merge{f W:Nat->Nat->Int}{M:Nat->Nat}{A B:List Nat}{x t:Nat}(hs:∀ i j,W i j=W j i)(h:Inv f W M A)(g:A.Perm (t::x::B))(k:x∉B)(b:t∉B)(a:t≠x):
  Inv f (fY W x t) (λi=>if i=x then M x+M t else M i) (x::B) where
 cut s:=by
  have e:=h.cut (λi=>if i=t then s x else s i);have m:tot (du W (λi=>if i=t then s x else s i)) A=tot (du (fY W x t) s) (x::B):=by
   rw[oN (wB hs _) g,<- RF hs k _ (by simp[Ne.symm a])];refine qP λi hi j n=>?_;have c:i≠t:=λq=>by subst q;rcases bP.mp hi with h|h;exact a h;exact b h
   have d:j≠t:=λq=>by subst q;rcases bP.mp n with h|h;exact a h;exact b h
   unfold du;simp only[c,d,if_false]
  have o:fo M (λi=>if i=t then s x else s i) A=fo (λi=>if i=x then M x+M t else M i) s (x::B):=by
   rw[nv g];simp only[ll,kR,if_true,if_neg (Ne.symm a)];rw[A9 (M':=λi=>if i=x then M x+M t else M i) (D:=s) λy l=>?_]
   ·split<;>lia
   ·have c:y≠t:=λq=>b (q▸l);have d:y≠x:=λq=>k (q▸l);simp[c,d]
  rw[<- m,<- o];exact e
theorem Inv.base(b:Nat->Nat->Int):Inv b b (λi=>2^i) [0,1,2,3,4,5] where
 cut s:=by
  refine qP λi hi j c=>?_;have key:∀ i∈[0,1,2,3,4,5],(fo (λi=>2^i) s [0,1,2,3,4,5]).testBit i=s i:=by
   intro i hi;have k:∀ a a1 a2 a3 a4 a5:Bool,((if a then 2^0 else 0)+((if a1 then 2^1 else 0)+((if a2 then 2^2 else 0)+((if a3 then 2^3 else 0)+((if a4 then 2^4 else 0)+((if a5 then 2^5 else 0)+0))))):Nat).testBit 0=a
     /\((if a then 2^0 else 0)+((if a1 then 2^1 else 0)+((if a2 then 2^2 else 0)+((if a3 then 2^3 else 0)+((if a4 then 2^4 else 0)+((if a5 then 2^5 else 0)+0))))):Nat).testBit 1=a1
     /\((if a then 2^0 else 0)+((if a1 then 2^1 else 0)+((if a2 then 2^2 else 0)+((if a3 then 2^3 else 0)+((if a4 then 2^4 else 0)+((if a5 then 2^5 else 0)+0))))):Nat).testBit 2=a2
     /\((if a then 2^0 else 0)+((if a1 then 2^1 else 0)+((if a2 then 2^2 else 0)+((if a3 then 2^3 else 0)+((if a4 then 2^4 else 0)+((if a5 then 2^5 else 0)+0))))):Nat).testBit 3=a3
     /\((if a then 2^0 else 0)+((if a1 then 2^1 else 0)+((if a2 then 2^2 else 0)+((if a3 then 2^3 else 0)+((if a4 then 2^4 else 0)+((if a5 then 2^5 else 0)+0))))):Nat).testBit 4=a4
     /\((if a then 2^0 else 0)+((if a1 then 2^1 else 0)+((if a2 then 2^2 else 0)+((if a3 then 2^3 else 0)+((if a4 then 2^4 else 0)+((if a5 then 2^5 else 0)+0))))):Nat).testBit 5=a5:=by decide+kernel
   refine ot (k (s 0) (s 1) (s 2) (s 3) (s 4) (s 5)) λd e f g h l=>?_;simp only[bP,dP,or_false]at hi;rcases hi with rfl|rfl|rfl|rfl|rfl|rfl<;>assumption
  unfold du;simp only[key i hi,key j c]
end Ma
namespace Pl
section
theorem l0{n i:Nat}(h:n=52)(q:yq i 52=true):i<n:=h▸Cq.mp q
theorem l1{O:List S}{i a:Nat}{x:S}(h:O.length=52)(q:yq i 52=true):i<(O.set a x).length:=l0 (fH.trans h) q
theorem l2{O:List S}{i a b:Nat}{x y:S}(h:O.length=52)(q:yq i 52=true):i<((O.set a x).set b y).length:=l1 (fH.trans h) q
theorem l3{O:List S}{i a b c:Nat}{x y z:S}(h:O.length=52)(q:yq i 52=true):i<(((O.set a x).set b y).set c z).length:=l2 (fH.trans h) q
section
variable{O I σ2 U:List S}{Y G ν2 ν3 ν':List T}{f g h:aP}{x y z:X}{t t1 t2:T}{wr:List Nat}{i j:Nat}
theorem bS{l:List S}{a:S}(h:i<l.length):(l.set i a)[i]?=some a:=fT h
theorem aW{l:List S}{a b:S}(h:mC i j=false)(e:l[j]?=some b):(l.set i a)[j]?=some b:=by rw[ed (Nat.ne_of_beq_eq_false h)];exact e
theorem be:dK t O Y=some (.v t,Y):=rfl
theorem aM{a:S}(h:O[i]?=some a)(b:a.x i=some x):dV i O Y=some (x,Y):=aT h (da b rfl)
theorem bV{op:gf}(a:f O Y=some (x,G))(h1:x.t?=some t1)(b:g O G=some (y,ν2))(h2:y.t?=some t2)(h:dn op t1 t2=some t):dB op f g O Y=some (.v t,ν2):=aT a (aT h1 (aT b (aT h2 (da (da h rfl) rfl))))
theorem kO{op:gq}{b:Bool}(a:f O Y=some (x,G))(h1:x.t?=some t1)(c:g O G=some (y,ν2))(h2:y.t?=some t2)(h:d9 op t1 t2=some b):dC op f g O Y=some (.v (.bool b),ν2):=aT a (aT h1 (aT c (aT h2 (da (da h rfl) rfl))))
theorem jm{op:gq}{b:Bool}(a:f O Y=some (x,G))(h1:x.t?=some t1)(c:g O G=some (y,ν2))(h2:y.t?=some t2)(h:d9 op t1 t2=some b):tC op f g O Y=some (b,ν2):=aT a (aT h1 (aT c (aT h2 (da h rfl))))
theorem qn{b:Bool}(a:f O Y=some (x,G))(h1:x.t?=some t1)(h:oh t1=some b):tV f O Y=some (b,G):=aT a (aT h1 (da h rfl))
theorem Tc{c:dc}{b:Bool}(h:c O Y=some (b,G)):tN c O Y=some (!b,G):=da h rfl
theorem bM(a:f O Y=some (x,G))(b:g O G=some (y,ν2))(h2:y.t?=some t2)(h:x.item t2=some t):aR f g O Y=some (.v t,ν2):=aT a (aT b (aT h2 (da h rfl)))
theorem yD{c:dc}(hc:c O Y=some (true,G))(a:f O G=some (x,ν2)):oI c f g O Y=some (x,ν2):=aT hc a
theorem Ag{c:dc}(hc:c O Y=some (false,G))(a:g O G=some (x,ν2)):oI c f g O Y=some (x,ν2):=aT hc a
theorem qS{a:Int}(b:f O Y=some (x,G))(h1:x.t?=some (.int a)):gT f O Y=some (.v (.int (-a)),G):=aT b (aT h1 (da rfl rfl))
theorem df:lg [] O Y=some ([],Y):=rfl
theorem bQ{a:List aP}{l:List T}(b:f O Y=some (x,G))(h1:x.t?=some t1)(h:lg a O G=some (l,ν2)):lg (f::a) O Y=some (t1::l,ν2):=aT b (aT h1 (da h rfl))
theorem eD{a:List aP}{l:List T}(h:lg a O Y=some (l,G)):cJ a O Y=some (.v (.tup l),G):=da h rfl
theorem gn{a:List aP}{l:List T}(h:lg a O Y=some (l,G)):de a O Y=some (.fr l,G):=da h rfl
theorem cv:eT [] O Y=some ([],Y):=rfl
theorem bN{a:List aP}{l:List X}(b:f O Y=some (x,G))(h:eT a O G=some (l,ν2)):eT (f::a) O Y=some (x::l,ν2):=lp b h
theorem db{a:List aP}{k:List X->List T->Option (X×List T)}{l:List X}(h:eT a O Y=some (l,G))(hk:k l G=some (x,ν2)):bL a k O Y=some (x,ν2):=aT h hk
theorem n7{a:List aP}{b:String}{k:List X->List T->Option (X×List T)}{l:List X}(c:f O Y=some (x,G))(d:x.ty=b)(h:eT a O G=some (l,ν2))(hk:k (x::l) ν2=some (y,ν3)):iD b f a k O Y=some (y,ν3):=aT c ((if_pos d).trans (aT h hk))
theorem xw(a:f O Y=some (x,G))(h1:x.t?=some t):jR f O Y=some (.v t,G):=aT a (da h1 rfl)
theorem rU{c b:Bool}(a:f O Y=some (x,G))(h1:x.t?=some t)(h:GX c t=some b):na c f O Y=some (.v (.bool b),G):=aT a (aT h1 (da h rfl))
theorem gl{k:X->Option X}(h:k x=some y):cD k [x] Y=some (y,Y):=da h rfl
theorem pX{k:X->X->Option X}(h:k x y=some z):gS k [x,y] Y=some (z,Y):=da h rfl
theorem IJ{l r:List T}(a:f O Y=some (x,G))(b:g O G=some (y,ν2))(h1:x.lst?=some l)(h2:y.lst?=some r)(c:l.length+r.length<=1000000):sV f g O Y=some (.fr (l++r),ν2):=aT a (aT b (aT h1 (aT h2 (if_pos c))))
theorem te{l r:List T}(a:f O Y=some (x,G))(b:g O G=some (y,ν2))(h1:x.tup?=some l)(h2:y.tup?=some r)(c:l≠[]/\r≠[]/\l.length+r.length<=1000000):iY f g O Y=some (.v (.tup (l++r)),ν2):=aT a (aT b (aT h1 (aT h2 (if_pos c))))
theorem TL{nm:List (Option Str)}{np:Nat}{b:bC}{a:List X}{c:List S}(d:a.length=np)(hs:a.mapM X.s?=some c)(e:b (ig nm c) Y=some (.ret x,U,ν'))(k:x.res?=some t):cf nm np b a Y=some (.v t,ν'):=(if_pos d).trans (aT hs (da (aT e (da k rfl)) rfl))
variable{G0 G1 G2:bC}{fl:Fl}
theorem dT:cs O Y=some (.nx,O,Y):=rfl
theorem bz(h1:G1 O Y=some (.nx,I,G))(h2:G2 I G=some (fl,σ2,ν2)):aY G1 G2 O Y=some (fl,σ2,ν2):=aT h1 h2
theorem ij(h1:G1 O Y=some (.ret x,I,G)):aY G1 G2 O Y=some (.ret x,I,G):=aT h1 rfl
theorem kh(h:f O Y=some (x,G)):hO f O Y=some (.ret x,O,G):=da h rfl
theorem mh{c:dc}(h:c O Y=some (true,G))(h1:G1 O G=some (fl,σ2,ν2)):gD c G1 G2 O Y=some (fl,σ2,ν2):=aT h h1
theorem kw{c:dc}(h:c O Y=some (false,G))(h1:G2 O G=some (fl,σ2,ν2)):gD c G1 G2 O Y=some (fl,σ2,ν2):=aT h h1
theorem cC(hc:wr.contains i=true)(a:i<O.length):bU wr (.nm i) t O=some (O.set i (.v t)):=if_pos ⟨hc,a⟩
theorem pZ{a:List PT}{b:List T}(h:kr wr a b O=some I):bU wr (.tp a) (.tup b) O=some I:=h
theorem OX{a:List PT}{b:List T}(h:kr wr a b O=some I):bU wr (.tp a) (.lst b) O=some I:=h
theorem n6:kr wr [] [] O=some O:=rfl
theorem h7{p:PT}{a:List PT}{b:List T}(h1:bU wr p t O=some I)(h2:kr wr a b I=some σ2):kr wr (p::a) (t::b) O=some σ2:=(congrArg (Cg · _) h1).trans h2
theorem ef{p:PT}(h:f O Y=some (x,G))(h1:x.t?=some t)(h2:bU wr p t O=some I):bW wr p f O Y=some (.nx,I,G):=aT h (aT h1 (da h2 rfl))
theorem tc{S0:S}(h:f O Y=some (x,G))(h1:x.own?=some S0)(hc:wr.contains i=true)(a:i<O.length):jy wr i f O Y=some (.nx,O.set i S0,G):=aT h (aT h1 (if_pos ⟨hc,a⟩))
theorem qL(hc:wr.contains i=true)(a:i<O.length):hY wr i (.v t) O=some (O.set i (.v t)):=if_pos ⟨hc,a⟩
theorem oL{l:List T}(hc:wr.contains i=true)(a:i<O.length):hY wr i (.fr l) O=some (O.set i (.own l)):=if_pos ⟨hc,a⟩
theorem uY:mq wr [] O=some O:=rfl
theorem kA{r:List (Nat×X)}(h1:hY wr i x O=some I)(h2:mq wr r I=some σ2):mq wr ((i,x)::r) O=some σ2:=aT h1 h2
theorem xf{is:List Nat}{rev:Bool}{b:List aP}{a:List X}{c:List (Nat×X)}(h:eT b O Y=some (a,G))(d:a.all X.okX=true)(e:a.length=is.length)(k:(if rev then is.reverse.zip a.reverse else is.zip a)=c)(h2:mq wr c O=some I):gz wr is rev b O Y=some (.nx,I,G):=by
 unfold gz;simp only[h,ip];rw[if_pos ⟨d,e⟩,k,h2];rfl
theorem pR{l:List T}(h:f O Y=some (x,G))(h1:x.t?=some t)(hi:O[i]?=some (.own l))(a:l.length<=1000000):dM i f O Y=some (.nx,O.set i (.own (l++[t])),G):=aT h (aT h1 (aT hi (if_pos a)))
theorem kU(h:f O Y=some (x,G))(h1:x.t?=some t)(hi:O[i]?=some .nts)(a:G.length<=1000000):dM i f O Y=some (.nx,O,G++[t]):=aT h (aT h1 (aT hi (if_pos a)))
theorem kq{nm:List (Option Str)}{np:Nat}{b:bC}{a:List X}{c σ0:List S}(d:a.length=np)(hs:a.mapM X.s?=some c)(h0:ig nm c=σ0)(e:b σ0 Y=some (.ret x,U,ν'))(k:x.res?=some t):cf nm np b a Y=some (.v t,ν'):=by
 subst h0;exact TL d hs e k
theorem qB{a b:Int}(h:a.natAbs<2^64\/b.natAbs<2^64):dn .Mult (.int a) (.int b)=some (.int (a*b)):=if_pos h
theorem nu{a b:Int}(h1:b≠0)(h2:b.natAbs<2^64):dn .FloorDiv (.int a) (.int b)=some (.int (a.fdiv b)):=if_neg (Y7 h1 h2)
theorem ms{a b:Int}(h1:b≠0):dn .Mod (.int a) (.int b)=some (.int (a.fmod b)):=if_neg h1
theorem tQ{a b:Int}(h1:0<=b)(h2:b<=1000000)(h3:a.natAbs<2^64):dn .Pow (.int a) (.int b)=some (.int (a^b.toNat)):=if_pos ⟨h1,h2,h3⟩
theorem WM{e k:Nat}{l:List aP}{c d:X}{a b:List S}(h:eT l O Y=some ([c,d],G))(m:[c,d].all X.okX=true)(p0:hY wr k d O=some a)(p1:hY wr e c a=some b):gz wr [e,k] true l O Y=some (.nx,b,G):=
 xf h m rfl rfl (kA p0 (kA p1 (uY)))
theorem Aa{e k:Nat}{l:List aP}{c d:X}{a b:List S}(h:eT l O Y=some ([c,d],G))(m:[c,d].all X.okX=true)(p0:hY wr e c O=some a)(p1:hY wr k d a=some b):gz wr [e,k] false l O Y=some (.nx,b,G):=
 xf h m rfl rfl (kA p0 (kA p1 (uY)))
theorem ND{l m n:Nat}{o:List aP}{d e k:X}{a b c:List S}(h:eT o O Y=some ([d,e,k],G))(p:[d,e,k].all X.okX=true)(p0:hY wr l d O=some a)(p1:hY wr m e a=some b)(p2:hY wr n k b=some c):gz wr [l,m,n] false o O Y=some (.nx,c,G):=
 xf h p rfl rfl (kA p0 (kA p1 (kA p2 (uY))))
theorem XM{n o p q:Nat}{r:List aP}{e k l m:X}{a b c d:List S}(h:eT r O Y=some ([e,k,l,m],G))(s:[e,k,l,m].all X.okX=true)(p0:hY wr n e O=some a)(p1:hY wr o k a=some b)(p2:hY wr p l b=some c)(p3:hY wr q m c=some d):gz wr [n,o,p,q] false r O Y=some (.nx,d,G):=
 xf h s rfl rfl (kA p0 (kA p1 (kA p2 (kA p3 (uY)))))
theorem L5:k8 [] O=true:=rfl
theorem lu{is:List Nat}(h:O[i]?=some .no)(h2:k8 is O=true):k8 (i::is) O=true:=by unfold k8 at h2 ⊢;rw[gX,h,h2];rfl
theorem fJ{F:List S->List T->Option (S×List T)}{S0:S}(h:F O Y=some (S0,G))(a:S0.x?=some x):cM F O Y=some (x,G):=aT h (da a rfl)
theorem eJ{p:PT}{c:jn}{a:dc}{step:List S->List T->S->Option (S×List T)}{d e:S}{items:List T}(b:k8 wr O=true)(hi:c O Y=some (items,G))(k:iv (bU wr p) a step items O G d=some (e,ν2)):cn wr p c a step d O Y=some (e,ν2):=(if_pos b).trans (aT hi k)
section
variable{bind:T->List S->Option (List S)}{test:dc}{step:List S->List T->S->Option (S×List T)}{a a1 a2:S}{ts:List T}
theorem EA:iv bind test step [] O Y a=some (a,Y):=rfl
theorem kM(b:bind t O=some I)(c:test I Y=some (true,G))(hs:step I G a=some (a1,ν2))(d:iv bind test step ts I ν2 a1=some (a2,ν3)):iv bind test step (t::ts) O Y a=some (a2,ν3):=aT b (aT c ((if_pos rfl).trans (aT hs d)))
theorem Bj(b:bind t O=some I)(c:test I Y=some (false,G))(d:iv bind test step ts I G a=some (a2,ν3)):iv bind test step (t::ts) O Y a=some (a2,ν3):=aT b (aT c ((if_neg o5).trans d))
end
theorem wx{l:List T}(h:f O Y=some (x,G))(h1:x.t?=some t)(a:l.length<=1000000):cF f O Y (.own l)=some (.own (l++[t]),G):=aT rfl (aT h (aT h1 (if_pos a)))
theorem YJ{l:List (Int×T)}{k:Int}(h:f O Y=some (x,G))(h1:x.t?=some (.int k))(h2:g O G=some (y,ν2))(h3:y.t?=some t)(a:l.length<=1000000):h9 f g O Y (.ownd l)=some (.ownd (l9 l k t),ν2):=aT rfl (aT h (aT h1 (aT rfl (aT h2 (aT h3 (if_pos a))))))
theorem ie{a:Option Nat}{l:List T}(h:f O Y=some (x,G))(b:x.ow=a)(c:x.lst?=some l):iL a f O Y=some (l,G):=aT h ((if_pos b).trans (da c rfl))
theorem i_T{l:List T}(h:f O Y=some (x,G))(a:x.tup?=some l):iT f O Y=some (l,G):=aT h (da a rfl)
theorem GJ{l r m:List T}(h:f O Y=some (x,G))(h2:g O G=some (y,ν2))(a:x.ow=none/\y.ow=none)(b:x.lst?=some l)(c:y.lst?=some r)(d:lY l r=m):iZ f g O Y=some (m,ν2):=d▸aT h (aT h2 ((if_pos a).trans (aT b (da c rfl))))
theorem NY{h3:aP}{l r q m:List T}(a:f O Y=some (x,G))(b:g O G=some (y,ν2))(c:h3 O ν2=some (z,ν3))(d:y.ow=none/\z.ow=none)(e:x.tup?=some l)(k:y.lst?=some r)(hq:z.lst?=some q)(n:r.length=l.length/\q.length=l.length)(o:ra l r q=m):zg f g h3 O Y=some (m,ν3):=o▸aT a (aT b (aT c ((if_pos d).trans (aT e (aT k (aT hq (if_pos n)))))))
theorem G7{a:Option Nat}{l:List T}(h:f O Y=some (x,G))(b:x.ow=a)(c:x.lst?=some l):iE a f O Y=some (iO l,G):=aT h ((if_pos b).trans (da c rfl))
theorem DP{l:List (Int×T)}(h:f O Y=some (x,G))(a:x.ow=none)(b:x.dct?=some l):iK f O Y=some (l.map λp=>T.int p.1,G):=aT h ((if_pos a).trans (da b rfl))
theorem Qq{l:List (Int×T)}(h:f O Y=some (x,G))(a:x.ow=none)(b:x.dct?=some l):iV f O Y=some (l.map λp=>p.2,G):=aT h ((if_pos a).trans (da b rfl))
theorem Bc{l:List (Int×T)}(h:f O Y=some (x,G))(a:x.ow=none)(b:x.dct?=some l):iI f O Y=some (l.map λp=>T.tup [T.int p.1,p.2],G):=aT h ((if_pos a).trans (da b rfl))
theorem iw{p:PT}{a:jn}{items:List T}(hi:a O Y=some (items,G))(b:em (bU wr p) G0 items O G=some (fl,σ2,ν2)):fe wr p a G0 O Y=some (fl,σ2,ν2):=aT hi b
theorem Du{bind:T->List S->Option (List S)}:em bind G0 [] O Y=some (.nx,O,Y):=rfl
theorem gk{bind:T->List S->Option (List S)}{a:List T}(b:bind t O=some I)(c:G0 I Y=some (.nx,σ2,G))(d:em bind G0 a σ2 G=some (fl,U,ν2)):em bind G0 (t::a) O Y=some (fl,U,ν2):=aT b (aT c d)
theorem PA{bind:T->List S->Option (List S)}{a:List T}(b:bind t O=some I)(c:G0 I Y=some (.nx,σ2,G)):em bind G0 (t::a) O Y=em bind G0 a σ2 G:=by
 show((bind t O).bind λI=>(G0 I Y).bind _)=_;rw[b,ip,c];rfl
theorem qa{bind:T->List S->Option (List S)}{a:List T}(b:bind t O=some I)(c:G0 I Y=some (.ret x,σ2,G)):em bind G0 (t::a) O Y=some (.ret x,σ2,G):=aT b (aT c rfl)
end
section
variable{O I σ2 U:List S}{Y G ν2 ν3 ν':List T}{f g h:aP}{x y z:X}{t t1 t2:T}{wr:List Nat}{i j:Nat}
theorem tJ:oT none O Y=some (none,Y):=rfl
theorem tx{k:Int}(a:f O Y=some (x,G))(h1:x.t?=some (.int k)):oT (some f) O Y=some (some k,G):=aT a (aT h1 (da rfl rfl))
theorem sp{lo hi:Option aP}{a b:Option Int}{l d:List T}(e:f O Y=some (x,G))(k:oT lo O G=some (a,ν2))(hq:oT hi O ν2=some (b,ν3))(m:x.lst?=some l)(n:l.length<=1000000)(c:iP l a b=d):hH f lo hi O Y=some (.fr d,ν3):=c▸aT e (aT k (aT hq (aT m (if_pos n))))
theorem FN{k:Int}{l:List T}(a:f O Y=some (x,G))(b:g O G=some (y,ν2))(c:x.tup?=some l)(hk:y.t?=some (.int k))(d:1<=k/\k<l.length/\l.length<=1000000):kj f g O Y=some (.v (.tup (l.take k.toNat)),ν2):=aT a (aT b (aT c (aT hk (aT rfl (if_pos d)))))
theorem FB{k:Int}(a:f O Y=some (x,G))(b:g O G=some (y,ν2))(hk:x.t?=some (.int k))(c:y.t?=some t):nw f g O Y=some (.frd [(k,t)],ν2):=aT a (aT b (aT hk (aT rfl (da c rfl))))
theorem W3(a:f O Y=some (.v (.inst t),G)):uR f O Y=some (.v t,G):=aT a (da rfl rfl)
theorem FZ{a:List aP}{k:List X->List T->Option (X×List T)}{l:List X}(b:f O Y=some (.v (.inst t),G))(h:eT a O G=some (l,ν2))(hk:k (.v (.inst t)::l) ν2=some (y,ν3)):s9 f a k O Y=some (y,ν3):=aT b (aT rfl (aT h hk))
theorem Tq(a:f O Y=some (x,G))(h1:x.t?=some t):AY f O Y=some (.v (.inst t),G):=aT a (da h1 rfl)
theorem Pi{k:Int}(a:f O Y=some (.v (.int k),G)):wS f O Y=some (.v (yW k),G):=aT a (da rfl rfl)
theorem aaB{n:Int}(a:f O Y=some (x,G))(h1:x.t?=some (.int n))(b:n.natAbs<=1000000):BF f O Y=some (.fr (rangeT n.toNat),G):=aT a (aT h1 (aT rfl (if_pos b)))
theorem Qe{l m r:List T}(a:f O Y=some (x,G))(b:g O G=some (y,ν2))(h1:x.tup?=some l)(h2:y.tup?=some m)(c:l.length<=1000)(h3:tR l m=some r):Bf f g O Y=some (.v (.tup r),ν2):=aT a (aT b (aT h1 (aT h2 ((if_pos c).trans (da h3 rfl)))))
theorem jJ{n:Int}(a:f O Y=some (x,G))(h1:x.t?=some (.int n))(b:n.natAbs<=1000000):iR f O Y=some ((aO n.toNat).map λ(j:Nat)=>T.int (j:Int),G):=aT a (aT h1 (aT rfl (if_pos b)))
theorem DJ{s:Str}(a:f O Y=some (.v (.str s),G)):BM f O Y=some (iO (l5 s),G):=aT a (da rfl rfl)
theorem D1{k:Int}{b:Bool}(a:f O Y=some (x,G))(h1:x.t?=some (.int k))(c:g O G=some (y,ν2))(d:Ix y k=some b):BU f g O Y=some (b,ν2):=aT a (aT h1 (aT rfl (aT c (da d rfl))))
theorem F9{k:Int}{b neg:Bool}(a:f O Y=some (x,G))(h1:x.t?=some (.int k))(c:g O G=some (y,ν2))(d:wV y k=some b):w4 neg f g O Y=some (b != neg,ν2):=aT a (aT h1 (aT rfl (aT c (da d rfl))))
theorem Eo{c d:dc}{b:Bool}(h1:c O Y=some (true,G))(h2:d O G=some (b,ν2)):tA c d O Y=some (b,ν2):=aT h1 h2
theorem QE{c d:dc}(h1:c O Y=some (false,G)):tA c d O Y=some (false,G):=aT h1 rfl
variable{G0 G1 G2:bC}{fl:Fl}
theorem pV{a S1:S}{k:T}(b:g O Y=some (x,G))(h1:x.t?=some t)(c:f O G=some (y,ν2))(h2:y.t?=some k)(hi:O[i]?=some a)(hs:mf a k t=some S1):jK i f g O Y=some (.nx,O.set i S1,ν2):=aT b (aT h1 (aT c (aT h2 (aT hi (da hs rfl)))))
theorem zx{S0 a:S}{k old n:T}(hi:O[i]?=some S0)(b:f O Y=some (x,G))(h1:x.t?=some k)(c:vT S0 k=some old)(d:g O G=some (y,ν2))(h2:y.t?=some t)(e:sC old t=some n)(hs:mf S0 k n=some a):mK i f g O Y=some (.nx,O.set i a,ν2):=aT hi (aT b (aT h1 (aT c (aT d (aT h2 (aT e (da hs rfl)))))))
theorem KD{a n:T}(hi:O[i]?=some (.v a))(b:f O Y=some (x,G))(h1:x.t?=some t)(c:sC a t=some n)(hc:wr.contains i=true)(d:i<O.length):wa wr i f O Y=some (.nx,O.set i (.v n),G):=aT hi (aT b (aT h1 (aT c (if_pos ⟨hc,d⟩))))
theorem MX{F:List S->List T->Option (S×List T)}{a:S}(h:F O Y=some (a,G))(hc:wr.contains i=true)(b:i<O.length):jU wr i F O Y=some (.nx,O.set i a,G):=aT h (if_pos ⟨hc,b⟩)
theorem DA{a b:S}(h0:O[i]?=some a)(c:a.isOwnB=false)(h:G0 O Y=some (.nx,I,G))(h1:I[i]?=some b)(d:b.t?=some t):jD i G0 O Y=some (.nx,I.set i (.v t),G):=aT h (aT h0 (aT rfl (aT h1 ((if_neg (by rw[c];exact o5)).trans (da d rfl)))))
theorem set_set{a b:S}:(O.set i a).set i b=O.set i b:=List.set_set ..
theorem tT{F:List S->List T->Option (S×List T)}{a b:S}(h0:O[i]?=some a)(d:a.isOwnB=false)(h:F O Y=some (b,G))(e:b.t?=some t)(hc:wr.contains i=true)(c:i<O.length):jD i (jU wr i F) O Y=some (.nx,O.set i (.v t),G):=by
 have:=DA (t:=t) h0 d (MX h hc c) (bS c) e
 rwa [set_set]at this
theorem Sp{a b:S}(h0:O[i]?=some a)(d:a.isOwnB=false)(h:f O Y=some (x,G))(h1:x.own?=some b)(e:b.t?=some t)(hc:wr.contains i=true)(c:i<O.length):jD i (jy wr i f) O Y=some (.nx,O.set i (.v t),G):=by
 have:=DA (t:=t) h0 d (tc h h1 hc c) (bS c) e
 rwa [set_set]at this
theorem Ao{a:UInt64}{b:Int}(h:b.natAbs<2^64):dn .Sub (.flt a) (.int b)=some (.flt (dk a (bZ b))):=if_pos h
theorem BS{a:UInt64}{b:Int}(h:b.natAbs<2^64):dn .Mult (.flt a) (.int b)=some (.flt (c9 a (bZ b))):=if_pos h
theorem G3{a:Int}{b:UInt64}(h:a.natAbs<2^64):dn .Mult (.int a) (.flt b)=some (.flt (c9 (bZ a) b)):=if_pos h
theorem A8{a b:Int}(h:0<=b):dn .RShift (.int a) (.int b)=some (.int (a.fdiv (2^b.toNat))):=if_pos h
end
noncomputable def fb:List Int->Int
 |[]=>0
 |x::r=>x+fb r
theorem zH:fb []=0:=rfl
theorem NB{x:Int}{r:List Int}:fb (x::r)=x+fb r:=rfl
theorem MD:∀ l:List Int,mP (l.map T.int)=some (l.map jQ):=by
 intro a;induction a with
 |nil=>
  exact rfl
 |cons x r b=>
  exact aT rfl (da (b) rfl)
theorem Qp:∀ (l:List Int) (a:Int),Num.foldFrom Num.add (.int a) (l.map jQ)=some (.int (a+fb l)):=by
 intro b;induction b with
 |nil=>
  intro a;show some (jQ a)=_;rw[zH];rw[oY]
 |cons x r c=>
  intro a;rw[cB];show(Num.add (.int a) (.int x)).bind _=_;rw[show Num.add (.int a) (.int x)=some (.int (a+x))from rfl,ip,c];rw[show fb (x::r)=x+fb r from rfl,xH]
theorem P7:∀ (l:List Int) (a:Int),lI a (l.map jQ)=some (.int (a+fb l)):=by
 intro b;induction b with
 |nil=>
  intro a;show some (jQ a)=_;rw[zH];rw[oY]
 |cons x r c=>
  intro a;rw[cB];show(if _ then _ else _)=_;split
  ·rw[c];rw[show fb (x::r)=x+fb r from rfl,xH]
  ·rw[Qp r];rw[show fb (x::r)=x+fb r from rfl,xH]
theorem yL(l:List Int):jk (.fr (l.map T.int))=some (.v (.int (fb l))):=by
 unfold jk;show(mP (l.map T.int)).bind _=_;rw[MD,ip,P7,xG];rfl
theorem Ua{a b c:Int}:jk (.fr [.int a,.int b,.int c])=some (.v (.int (a+(b+(c+0))))):=yL [a,b,c]
theorem NF(l:List T)(a:Nat):∀ n:Nat,a+n<=l.length->((aO n).map λ(k:Nat)=>((a:Int)+1*(k:Int)).toNat).filterMap (l[·]?)=(l.drop a).take n:=by
 intro n;induction n with
 |zero=>intro _;simp
 |succ n c=>
  intro h;rw[Kg,mJ,List.filterMap_append,c (jN h)];have e:((a:Int)+1*(n:Int)).toNat=a+n:=V4;have b:n<(l.drop a).length:=by rw[yd];exact Uo h
  rw[adl b];simp only[cB,rO,e];rw[List.getElem_drop];have:l[a+n]?=some (l[a+n]'(D9 h)):=gv (D9 h);simp[this]
theorem v7{l:List T}{lo hi:Option Int}{a b:Nat}(c:b<=l.length)(e:kJ lo hi none l.length=((a:Int),(b:Int),1)):iP l lo hi=(l.drop a).take (b-a):=by
 unfold iP;rw[e];unfold sliceRange;simp only[show(1:Int)>0 by decide,if_true,Int.ediv_one];by_cases h:(a:Int)<b
 ·rw[if_pos h,show((b:Int)-a+1-1).toNat=b-a by exact U5];exact NF l a (b-a) (by exact U2 c h)
 ·rw[if_neg h,show b-a=0 by exact LU h];simp
theorem UU(l:List T)(k:Nat):iP l none (some (k:Int))=l.take k:=by
 have e:kJ none (some (k:Int)) none l.length=(((0:Nat):Int),((min k l.length:Nat):Int),1):=by
  unfold kJ;simp only[C4,show(1:Int)>0 by decide,if_true,show ¬((k:Int)<0)by exact vV,if_false,mF];refine⟨rfl,?_,trivial⟩;exact D3
 rw[v7 (adq _ _) e,List.drop_zero,Nat.sub_zero];rw[List.take_eq_take_iff];exact acn
theorem Rr(l:List T)(k:Nat)(h:k<=l.length):iP l (some (k:Int)) none=l.drop k:=by
 have e:kJ (some (k:Int)) none none l.length=((k:Int),(l.length:Int),1):=by
  unfold kJ;simp only[C4,show(1:Int)>0 by decide,if_true,show ¬((k:Int)<0)by exact vV,if_false,mF];refine⟨?_,trivial⟩;exact abd h
 rw[v7 (cu _) e];exact uw (by rw[yd];exact(cu (_-_)))
theorem Ug(l:List T)(k:Nat)(h:k<=l.length)(h0:0<k):iP l (some (-(k:Int))) none=l.drop (l.length-k):=by
 have e:kJ (some (-(k:Int))) none none l.length=(((l.length-k:Nat):Int),(l.length:Int),1):=by
  unfold kJ;simp only[C4,show(1:Int)>0 by decide,if_true,show(-(k:Int))<0 by exact HR h0,mF];refine⟨?_,trivial⟩;exact Hz
 rw[v7 (cu _) e];exact uw (by rw[yd];exact(cu (_-(_-_))))
theorem GU(l:List T)(k:Nat)(h:k<=l.length)(h0:0<k):iP l none (some (-(k:Int)))=l.take (l.length-k):=by
 have e:kJ none (some (-(k:Int))) none l.length=(((0:Nat):Int),((l.length-k:Nat):Int),1):=by
  unfold kJ;simp only[C4,show(1:Int)>0 by decide,if_true,show(-(k:Int))<0 by exact HR h0,mF];refine⟨rfl,?_,trivial⟩;exact Hz
 rw[v7 (Nat.sub_le _ _) e,List.drop_zero,Nat.sub_zero]
theorem LY(a b c d e f g:T):iP [a,b,c,d,e,f,g] (some 4) none=[e,f,g]:=Rr _ 4 (by simp)
theorem Bb(a b c:UInt64)(Y:List T):mN [.fr [.flt a,.flt b,.flt c]] Y=some (.v (.flt (nZ [a,b,c])),Y):=rfl
theorem IG(r g b:UInt64)(Y:List T):cf ml 3 mL [.v (.flt r),.v (.flt g),.v (.flt b)] Y=some (.v (.tup [.flt (Fl.yF r g b),.flt (Fl.iF r g b),.flt (Fl.qF r g b)]),Y):=by
 exact rfl
structure V3 where
 r:Int
 g:Int
 b:Int
noncomputable def V3.n(v:V3):Int:=v.r+v.g+v.b
noncomputable def tB(v:V3):T:=.tup [.int v.r,.int v.g,.int v.b,.int (v.r+v.g+v.b)]
noncomputable def V3.w(v:V3)(k:Int):Int:=
 if k=0 then v.r+v.g+v.b else if k=1 then v.r else if k=2 then v.g else if k=3 then v.b else if k=4 then 30*v.r+59*v.g+11*v.b
 else if k=5 then 5990*v.r-2773*v.g-3217*v.b else 2130*v.r-5251*v.g+3121*v.b
noncomputable def nC(v:V3):T:=.lst [.int (v.r+v.g+v.b),.int v.r,.int v.g,.int v.b,.int (30*v.r+59*v.g+11*v.b),.int (5990*v.r-2773*v.g-3217*v.b),.int (2130*v.r-5251*v.g+3121*v.b)]
theorem ED(v:V3)(Y:List T):cf qN 1 tG [.v (tB v)] Y=some (.v (nC v),Y):=by
 unfold tB nC;exact rfl
structure Od where
 k1:Int
 s1:Int
 k2:Int
 s2:Int
structure Od.Ok (o:Od):Prop where
 k1:o.k1=1\/o.k1=2\/o.k1=3
 s1:o.s1=1\/o.s1=-1
 k2:o.k2=4\/o.k2=5\/o.k2=6
 s2:o.s2=1\/o.s2=-1
noncomputable def cO(o:Od):T:=.lst [.tup [.int 0,.int 1],.tup [.int o.k1,.int o.s1],.tup [.int o.k2,.int o.s2]]
noncomputable def bH(o:Od)(v:V3):Int:=10^12*(v.r+v.g+v.b)+10^6*(o.s1*v.w o.k1)+o.s2*v.w o.k2
theorem yP(v:V3){k:Int}(h:k=0\/k=1\/k=2\/k=3\/k=4\/k=5\/k=6):(X.v (nC v)).item (.int k)=some (.int (v.w k)):=by
 rcases h with rfl|rfl|rfl|rfl|rfl|rfl|rfl<;>rfl
theorem Gu{o:Od}(h:o.Ok)(v:V3)(Y:List T):cf oo 2 sB [.v (nC v),.v (cO o)] Y=some (.v (.int (bH o v)),Y):=by
 refine aQ λl=>?_;obtain⟨e,f,i,j⟩:=o;obtain⟨h1,h2,h3,h4⟩:=h;refine l ?_;simp only at h1 h2 h3 h4;unfold cO bH;dsimp only;have m:=yP v (k:=0) (.inl rfl);have n:=yP v (k:=e) (So h1);have p:=yP v (k:=i) (QJ h3);have q:f.natAbs<2^64:=by rcases h2 with rfl|rfl<;>decide
 have t:j.natAbs<2^64:=by rcases h4 with rfl|rfl<;>decide
 have run:∀ (k s z:Int) (d:List T) (a b c:S),(X.v (nC v)).item (T.int k)=some (T.int (v.w k))->s.natAbs<2^64->z.natAbs<2^64->d.length<=1000000->cF Eb [.v (nC v),a,.v (.int k),.v (.int s),.v (.int z)] Y (.own d)=some (.own (d++[.int (s*v.w k*z)]),Y):=
  λk s z d a b c hw hs u x=>wx (bV (bV (aM rfl rfl) rfl (bM (aM rfl rfl) (aM rfl rfl) rfl hw) rfl (qB (.inl hs))) rfl (aM rfl rfl) rfl (qB (.inr u))) rfl x
 refine' kq (σ0:=[_,_,.no,.no,.no]) rfl rfl rfl (ij (kh (db (bN (fJ (eJ rfl (GJ (aM rfl rfl) rfl ⟨rfl,rfl⟩ rfl rfl rfl) (kM rfl rfl (run 0 1 (10^12) _ _ .no .no m (by decide) (by decide) (by decide)) (kM rfl rfl (run e f (10^6) _ _ .no .no n q (by decide) (by simp)) (kM rfl rfl (run i j 1 _ _ .no .no p t (by decide) (by simp)) EA)))) rfl) cv) (gl (Ua (a:=1*v.w 0*10^12) (b:=f*v.w e*10^6) (c:=j*v.w i*1)))))) ?h2
 case h2=>
  show some (T.int _)=some (T.int _);congr 2;have y:v.w 0=v.r+v.g+v.b:=rfl;rw[y];generalize f*v.w e=a;generalize j*v.w i=b;exact Uw
open PySem.Float64 in
theorem qb{i:Nat}{O:List S}{Y:List T}{x k:UInt64}{op:gq}{od:Ordering}(e:∀ a b:UInt64,d9 op (.flt a) (.flt b)=some (cmp a b==some od))(h:O[i]?=some (.v (.flt x)))(hc:(aO 6).contains i=true)(f:i<O.length):
  gD (tC op (dV i) (dK (.flt k))) (aY (bW (aO 6) (.nm i) (dK (.flt k))) cs) cs O Y=some (.nx,O.set i (.v (.flt (if (cmp x k==some od)=true then k else x))),Y):=by
 have d:tC op (dV i) (dK (.flt k)) O Y=some (cmp x k==some od,Y):=jm (aM h rfl) rfl be rfl (e _ _);by_cases c:(cmp x k==some od)=true
 ·rw[c]at d;rw[if_pos c];exact mh d (bz (ef be rfl (cC hc f)) dT)
 ·rw[Kh]at c;rw[c]at d;rw[c,if_neg o5];have:O.set i (.v (.flt x))=O:=by
   refine adw λj=>?_;by_cases q:i=j
   ·subst q;rw[fT f,h]
   ·rw[ed q]
  rw[this];exact kw d dT
theorem IQ(y i q:UInt64)(Y:List T):cf oB 3 mT [.v (.flt y),.v (.flt i),.v (.flt q)] Y
  = some (.v (.tup [.flt (Fl.clipF (Fl.rF y i q)),.flt (Fl.clipF (Fl.gF y i q)),.flt (Fl.clipF (Fl.bF y i q))]),Y):=by
 have e:∃ U,mT [.v (.flt y),.v (.flt i),.v (.flt q),.no,.no,.no] Y=some (.ret (.v (.tup [.flt (Fl.clipF (Fl.rF y i q)),.flt (Fl.clipF (Fl.gF y i q)),.flt (Fl.clipF (Fl.bF y i q))])),U,Y):=by
  unfold mT;exact⟨_,bz (I:=[.v (.flt y),.v (.flt i),.v (.flt q),.v (.flt (Fl.rF y i q)),.no,.no]) (G:=Y) rfl (bz (I:=[.v (.flt y),.v (.flt i),.v (.flt q),.v (.flt (Fl.rF y i q)),.v (.flt (Fl.gF y i q)),.no]) (G:=Y) rfl (bz (I:=[.v (.flt y),.v (.flt i),.v (.flt q),.v (.flt (Fl.rF y i q)),.v (.flt (Fl.gF y i q)),.v (.flt (Fl.bF y i q))]) (G:=Y) rfl (
   bz (qb (i:=3) (od:=.lt) (λ_ _=>rfl) rfl rfl (by simp)) (bz (qb (i:=4) (od:=.lt) (λ_ _=>rfl) rfl rfl (by simp)) (bz (qb (i:=5) (od:=.lt) (λ_ _=>rfl) rfl rfl (by simp)) (bz (qb (i:=3) (od:=.gt) (λ_ _=>rfl) rfl rfl (by simp)) (bz (qb (i:=4) (od:=.gt) (λ_ _=>rfl) rfl rfl (by simp)) (bz (qb (i:=5) (od:=.gt) (λ_ _=>rfl) rfl rfl (by simp)) (ij rfl)))))))))⟩
 exact aU e λU e=>kq rfl rfl rfl e rfl
open PySem.Float64 in
noncomputable def LF(i:Int):UInt64:=ofFrac (decide (i<0) != decide ((64:Int)<0)) i.natAbs (64:Int).natAbs
theorem lq{i:Int}(h0:0<=i)(h1:i<=64):Fl.Ap (LF i) ((i:Rat)/64) (1/2^54):=by
 refine aU (yh h0) λn g=>?_;subst g;have e:LF (n:Int)=Jo false n 64:=by
  unfold LF;have:decide (((n:Int))<0)=false:=by simp
  rw[this];simp
 rw[e];refine aQ λh=>bO (Fl.rv_frac (n:=n) (d:=64) 0 (by decide) (by decide) (RI h1)) λa b c=>h ?_;rw[Fl.E0]at b c;have f:((64:Nat):Rat)=64:=rfl;rw[f]at b c;have q:=gh (a:=((n:Int):Rat)) (b:=64) (by decide);generalize ((n:Int):Rat)=N at*;generalize N/64=u at*;exact⟨a,VY b q,XW c q⟩
open PySem.Float64 in
theorem M8{x:UInt64}(h:Fl.Fin x):isInf x=false:=by refine eZ h λa m e h=>?_;unfold isInf;rw[h]
open PySem.Float64 in
theorem pu{i:Int}(h0:0<=i)(h1:i<=64):dn .Div (.int i) (.int 64)=some (.flt (LF i)):=by
 show(if _ then _ else _)=_;rw[if_neg]
 ·rfl
 ·rintro (h|h)
  ·cases h
  ·have:=M8 (lq h0 h1).1;unfold LF at this;rw[this]at h;cases h
noncomputable def yT(v:V3):UInt64:=Fl.yF (LF v.r) (LF v.g) (LF v.b)
noncomputable def gy(v:V3):UInt64:=Fl.iF (LF v.r) (LF v.g) (LF v.b)
noncomputable def qT(v:V3):UInt64:=Fl.qF (LF v.r) (LF v.g) (LF v.b)
noncomputable def dr(v:V3):T:=.lst [.int (v.r+v.g+v.b),.int v.r,.int v.g,.int v.b,.flt (yT v),.flt (gy v),.flt (qT v)]
structure V3.Ok (v:V3):Prop where
 r0:0<=v.r
 r1:v.r<=45
 g0:0<=v.g
 g1:v.g<=45
 b0:0<=v.b
 b1:v.b<=45
section
variable{v:V3}(h:v.Ok)
include h
theorem mv{i:Int}(h0:0<=i)(h1:i<=45):(0:Rat)<=(i:Rat)/64/\(i:Rat)/64<=1:=by
 have a:(0:Rat)<=i:=uC.mpr h0;have b:(i:Rat)<=(45:Int):=gg.mpr h1;have e:((45:Int):Rat)=45:=rfl;rw[e]at b;have q:=gh (a:=(i:Rat)) (b:=64) (by decide);generalize (i:Rat)/64=u at*;constructor<;>grind
theorem vZ:Fl.Ap (yT v) (((30*v.r+59*v.g+11*v.b:Int):Rat)/6400) (1/2^48):=by
 refine aQ λa=>bn (mv h h.r0 h.r1) λp0 p1=>bn (mv h h.g0 h.g1) λc d=>bn (mv h h.b0 h.b1) λe f=>a ?_;have:=(Fl.y_ap (lq h.r0 (by have:=h.r1;exact j5 this)) (lq h.g0 (by have:=h.g1;exact j5 this)) (lq h.b0 (by have:=h.b1;exact j5 this)) p0 p1 c d e f).1;refine this.to ?_;unfold Fl.yI;simp only[lL,gK];exact Pf
theorem vJ:Fl.Ap (gy v) (((5990*v.r-2773*v.g-3217*v.b:Int):Rat)/640000) (1/2^45):=by
 refine aQ λa=>bn (mv h h.r0 h.r1) λp0 p1=>bn (mv h h.g0 h.g1) λc d=>bn (mv h h.b0 h.b1) λe f=>a ?_;have:=(Fl.i_ap (lq h.r0 (by have:=h.r1;exact j5 this)) (lq h.g0 (by have:=h.g1;exact j5 this)) (lq h.b0 (by have:=h.b1;exact j5 this)) p0 p1 c d e f).1;refine this.to ?_;unfold Fl.iI Fl.yI;simp only[lK,gK];exact Rm
theorem vO:Fl.Ap (qT v) (((2130*v.r-5251*v.g+3121*v.b:Int):Rat)/640000) (1/2^45):=by
 refine aQ λa=>bn (mv h h.r0 h.r1) λp0 p1=>bn (mv h h.g0 h.g1) λc d=>bn (mv h h.b0 h.b1) λe f=>a ?_;have:=(Fl.q_ap (lq h.r0 (by have:=h.r1;exact j5 this)) (lq h.g0 (by have:=h.g1;exact j5 this)) (lq h.b0 (by have:=h.b1;exact j5 this)) p0 p1 c d e f).1;refine this.to ?_;unfold Fl.qI Fl.yI;simp only[lL,lK,gK];exact Ro
end
theorem L7:(2:Rat)^20=1048576:=by decide+kernel
theorem zA:(2:Rat)^20/2^54=1/2^34:=by decide+kernel
open PySem.Float64 in
theorem Ah{x:UInt64}{W u:Int}(e:0<u)(f:u<=640000)(g:W.natAbs<=u.natAbs)(h:Fl.Ap x ((W:Rat)/u) (1/2^45)):Fl.Sm (abs (sub (mul x (ofInt u)) (ofInt W))) (1/2^24):=by
 have n:=Fl.ap_int (i:=u) 20 (by decide) zA (FH e f);have o:=Fl.ap_int (i:=W) 20 (by decide) zA (bg g (FH e f));have d:(0:Rat)<u:=Rat.intCast_pos.mpr e;have j:(u:Rat)<=640000:=by
  have:(u:Rat)<=((640000:Int):Rat):=gg.mpr f;exact this
 have k:(W:Rat)<=u:=gg.mpr (Ie e g);have l:-(u:Rat)<=W:=by rw[<- rR];exact gg.mpr (NC e g)
 have q:=gh (a:=(W:Rat)) (b:=(u:Rat)) (zL d);have p1:(W:Rat)/u<=1:=rQ (c:=(u:Rat)) (by rw[q];exact M6 k) d;have p2:-1<=(W:Rat)/u:=rQ (c:=(u:Rat)) (by rw[q];exact aac l) d;have m:=Fl.ap_mul (P:=1) (Q:=640000) 20 (by decide) L7 zA h n p1 p2 j (ZI d) (by decide+kernel);rw[q]at m;replace m:=m.mono (e':=1/2^25) (by decide+kernel);have s:=Fl.ap_sub 0 (by decide) Fl.B0 Fl.E0 m o (abV) (Ms);exact Fl.sm_abs s (UC) (X1)
noncomputable def zS(v:V3):UInt64:=nZ [fU (dk (c9 (yT v) (bZ 6400)) (bZ (30*v.r+59*v.g+11*v.b))),
 fU (dk (c9 (gy v) (bZ 640000)) (bZ (5990*v.r-2773*v.g-3217*v.b))),fU (dk (c9 (qT v) (bZ 640000)) (bZ (2130*v.r-5251*v.g+3121*v.b)))]
theorem LM{v:V3}(h:v.Ok):Fl.Sm (zS v) (1/2^24):=by
 have:=h.r0;have:=h.r1;have:=h.g0;have:=h.g1;have:=h.b0;have:=h.b1;refine Fl.sm_max (by simp) λx a=>?_;simp only[bP,dP,or_false]at a;rcases a with rfl|rfl|rfl
 ·exact Ah (by decide) (by decide) (by lia) ((vZ h).mono (by decide+kernel))
 ·exact Ah (by decide) (by decide) (by lia) (vJ h)
 ·exact Ah (by decide) (by decide) (by lia) (vO h)
theorem Yv{v:V3}(h:v.Ok):d9 .Lt (.flt (c9 (zS v) (bZ ((10:Int)^(6:Int).toNat)))) (.int 1)=some true:=by
 show some (Jq _ 1==some jO)=some true;have e:(10:Int)^(6:Int).toNat=1000000:=by decide
 rw[e,Fl.far_ok 1000000 (by decide) (LM h) (by decide+kernel) (by decide+kernel) (by decide) (by decide+kernel)]
def kE(t:T):Prop:=∃ a b,t=.tup [a,b]/\eqT 6 a b=true
theorem yN{z:Int}{n:Nat}(h:z.natAbs<=n)(a:yq n 18446744073709551616=true):z.natAbs<2^64:=ff h (Cq.mp a)
theorem VH{o:Od}(q:o.Ok){v:V3}(h:v.Ok)(Y:List T)(i:Y.length<=1000000):cf rc 3 pO [.v (tB v),.v (cO o),.nts] Y
  = some (.v (.tup [.int (bH o v),dr v]),Y++[.tup [.lst [.int (v.r+v.g+v.b),.bool true,.bool true],.lst [.int (v.r+v.g+v.b),.bool true,.bool true]]]):=by
 refine aQ λs=>?_;obtain⟨j,k,g0,g1,l,m⟩:=h;refine s ?_;have h:v.Ok:=⟨j,k,g0,g1,l,m⟩;have t:=pu j (fD k (by decide));have d2:=pu g0 (fD g1 (by decide));have w:=pu l (fD m (by decide));have n:(30*v.r+59*v.g+11*v.b).natAbs<=300000/\(5990*v.r-2773*v.g-3217*v.b).natAbs<=300000/\(2130*v.r-5251*v.g+3121*v.b).natAbs<=300000:=NZ j k g0 g1 l m;have x:=Yv h;have y:=Gu q v (Y++[.tup [.lst [.int (v.r+v.g+v.b),.bool true,.bool true],.lst [.int (v.r+v.g+v.b),.bool true,.bool true]]]);have run:∀ (p:UInt64) (u d:Int) (f:List T) (a b c:S),u.natAbs<2^64->d.natAbs<2^64->f.length<=1000000->cF GD [.v (tB v),.v (cO o),.nts,a,b,c,.v (.flt p),.v (.int u),.v (.int d)] Y (.own f)=some (.own (f++[.flt (fU (dk (c9 p (bZ u)) (bZ d)))]),Y):=
  λp u d f a b c z hd A=>wx (db (bN (bV (bV (aM rfl rfl) rfl (aM rfl rfl) rfl (BS z)) rfl (aM rfl rfl) rfl (Ao hd)) cv) (gl rfl)) rfl A
 have e:∃ U,pO [.v (tB v),.v (cO o),.nts,.no,.no,.no,.no,.no,.no] Y=some (.ret (.v (.tup [.int (bH o v),dr v])),U,Y++[.tup [.lst [.int (v.r+v.g+v.b),.bool true,.bool true],.lst [.int (v.r+v.g+v.b),.bool true,.bool true]]]):=by
  unfold pO;refine⟨_,bz (I:=[.v (tB v),.v (cO o),.nts,.v (.tup [.flt (yT v),.flt (gy v),.flt (qT v)]),.v (nC v),.no,.no,.no,.no]) (G:=Y)
   (WM (bN (db (bN (bV (bM (aM rfl rfl) be rfl rfl) rfl be rfl t) (bN (bV (bM (aM rfl rfl) be rfl rfl) rfl be rfl d2) (bN (bV (bM (aM rfl rfl) be rfl rfl) rfl be rfl w) cv))) (IG _ _ _ Y)) (bN (db (bN (aM rfl rfl) cv) (ED v Y)) cv)) rfl rfl rfl)
   (bz (I:=[.v (tB v),.v (cO o),.nts,.v (.tup [.flt (yT v),.flt (gy v),.flt (qT v)]),.v (nC v),.v (.flt (zS v)),.no,.no,.no]) (G:=Y)
    (ef (db (bN (fJ (eJ rfl (NY (aM rfl rfl) (gn (bQ be rfl (bQ be rfl (bQ be rfl df)))) (sp (aM rfl rfl) (tx be rfl) tJ rfl (by simp) (LY _ _ _ _ _ _ _)) ⟨rfl,rfl⟩ rfl rfl rfl ⟨rfl,rfl⟩ rfl)
     (kM rfl rfl (run (yT v) 6400 _ _ _ _ _ (by decide) (yN n.1 rfl) (by decide)) (kM rfl rfl (run (gy v) 640000 _ _ _ _ _ (by decide) (yN n.2.1 rfl) (by simp)) (kM rfl rfl (run (qT v) 640000 _ _ _ _ _ (by decide) (yN n.2.2 rfl) (by simp)) EA)))) rfl) cv) (Bb _ _ _ Y)) rfl (cC rfl (by simp)))
    (bz (kU (eD (bQ (gn (bQ (bM (aM rfl rfl) be rfl rfl) rfl (bQ (rU (aM rfl rfl) rfl rfl) rfl (bQ (kO (bV (aM rfl rfl) rfl (bV be rfl be rfl (tQ (by decide) (by decide) (by decide))) rfl (BS (by decide))) rfl be rfl x) rfl df)))) rfl (bQ (gn (bQ (bM (aM rfl rfl) be rfl rfl) rfl (bQ be rfl (bQ be rfl df)))) rfl df))) rfl rfl i)
     (ij (kh (eD (bQ (db (bN (aM rfl rfl) (bN (aM rfl rfl) cv)) y) rfl (bQ (IJ (gn (bQ (bM (aM rfl rfl) be rfl rfl) rfl (bQ (bM (aM rfl rfl) be rfl rfl) rfl (bQ (bM (aM rfl rfl) be rfl rfl) rfl (bQ (bM (aM rfl rfl) be rfl rfl) rfl df))))) (db (bN (aM rfl rfl) cv) (gl rfl)) rfl rfl (by simp)) rfl df)))))))⟩
 exact aU e λU e=>kq rfl rfl rfl e rfl
section
variable{O:List S}{Y:List T}{A B ta tb:T}{k s:Int}(h1:O[1]?=some (S.v A))(h2:O[2]?=some (S.v B))(h3:O[3]?=some (S.v (T.int k)))(h4:O[4]?=some (S.v (T.int s)))(hl:O.length=7)
 (hA:(X.v A).item (T.int k)=some ta) (hB:(X.v B).item (T.int k)=some tb)
include h1 h2 h3 h4 hl hA hB
theorem BK{a:bC}{r:Option (Fl×List S×List T)}(h:a ((O.set 5 (S.v ta)).set 6 (S.v tb)) Y=r):aY (bW (aO 7) (.nm 5) (aR (dV 1) (dV 3))) (aY (bW (aO 7) (.nm 6) (aR (dV 2) (dV 3))) a) O Y=r:=by
 have a1:bW (aO 7) (.nm 5) (aR (dV 1) (dV 3)) O Y=some (.nx,O.set 5 (S.v ta),Y):=ef (bM (aM h1 rfl) (aM h3 rfl) rfl hA) rfl (cC rfl (by rw[hl];decide));have a2:bW (aO 7) (.nm 6) (aR (dV 2) (dV 3)) (O.set 5 (S.v ta)) Y=some (.nx,(O.set 5 (S.v ta)).set 6 (S.v tb),Y):=ef (bM (aM (aW rfl h2) rfl) (aM (aW rfl h3) rfl) rfl hB) rfl (cC rfl (by rw[fH,hl];decide));unfold aY;rw[a1,ip];show(bW _ _ _ _ _).bind _=_;rw[a2];exact h
theorem tf{op:gq}{b:Bool}(h:d9 op ta tb=some b):tC op (dV 5) (dV 6) ((O.set 5 (S.v ta)).set 6 (S.v tb)) Y=some (b,Y):=
 jm (aM (aW rfl (bS (by rw[hl];decide))) rfl) rfl (aM (bS (by rw[fH,hl];decide)) rfl) rfl h
theorem FG:dV 4 ((O.set 5 (S.v ta)).set 6 (S.v tb)) Y=some (.v (.int s),Y):=aM (aW rfl (aW rfl h4)) rfl
theorem cmp_lt(h:d9 .Lt ta tb=some true):jA O Y=some (Fl.ret (X.v (T.int (-s))),(O.set 5 (S.v ta)).set 6 (S.v tb),Y):=
 BK h1 h2 h3 h4 hl hA hB (ij (mh (tf h1 h2 h3 h4 hl hA hB h) (ij (kh (qS (FG h1 h2 h3 h4 hl hA hB) rfl)))))
theorem cmp_gt(h:d9 .Lt ta tb=some false)(a:d9 .Gt ta tb=some true):jA O Y=some (Fl.ret (X.v (T.int s)),(O.set 5 (S.v ta)).set 6 (S.v tb),Y):=
 BK h1 h2 h3 h4 hl hA hB (bz (kw (tf h1 h2 h3 h4 hl hA hB h) dT) (ij (mh (tf h1 h2 h3 h4 hl hA hB a) (ij (kh (FG h1 h2 h3 h4 hl hA hB))))))
theorem tF(h:d9 .Lt ta tb=some false)(a:d9 .Gt ta tb=some false):jA O Y=some (Fl.nx,(O.set 5 (S.v ta)).set 6 (S.v tb),Y):=
 BK h1 h2 h3 h4 hl hA hB (bz (kw (tf h1 h2 h3 h4 hl hA hB h) dT) (bz (kw (tf h1 h2 h3 h4 hl hA hB a) dT) dT))
end
noncomputable def iU(v:V3)(k:Int):UInt64:=if k=4 then yT v else if k=5 then gy v else qT v
noncomputable def lW(k:Int):Int:=if k=4 then 6400 else 640000
theorem Az{v:V3}(h:v.Ok){k:Int}(hk:k=4\/k=5\/k=6):Fl.Ap (iU v k) ((v.w k:Rat)/(lW k:Rat)) (1/2^45):=by
 rcases hk with rfl|rfl|rfl
 ·exact(vZ h).mono (by decide+kernel)
 ·exact vJ h
 ·exact vO h
theorem Ds{a b:V3}(f:a.Ok)(g:b.Ok){k:Int}(hk:k=4\/k=5\/k=6)(h:a.w k<b.w k):Fl.rv (iU a k)<Fl.rv (iU b k):=by
 refine aQ λi=>bO (Az f hk) λ_ a1 a2=>bO (Az g hk) λ_ n o=>i ?_;have e:(0:Rat)<(lW k:Rat)/\(lW k:Rat)<=640000:=by rcases hk with rfl|rfl|rfl<;>exact⟨by decide+kernel,by decide+kernel⟩
 refine bn e λd j=>?_;clear e;have l:=gh (a:=(a.w k:Rat)) (b:=(lW k:Rat)) (zL d);have m:=gh (a:=(b.w k:Rat)) (b:=(lW k:Rat)) (zL d);have hw:(a.w k:Rat)+1<=(b.w k:Rat):=by
  have:((a.w k+1:Int):Rat)<=(b.w k:Rat):=gg.mpr h;rw[lL]at this;exact this
 generalize (a.w k:Rat)/(lW k:Rat)=p at*;generalize (b.w k:Rat)/(lW k:Rat)=q at*;have:p+1/2^20<=q:=by
  refine rQ (c:=(lW k:Rat)) ?_ d;generalize (lW k:Rat)=u at*;exact Tk hw j l m
 grind
theorem kT{v:V3}(h:v.Ok){k:Int}(hk:k=4\/k=5\/k=6):Fl.Fin (iU v k):=(Az h hk).1
theorem TT{a b:V3}(c:a.Ok)(d:b.Ok){k:Int}(hk:k=4\/k=5\/k=6)(h:a.w k<b.w k):d9 .Lt (T.flt (iU a k)) (T.flt (iU b k))=some true:=by
 show some (ry _ _==some jO)=_;rw[Fl.cmp_lt (kT c hk) (kT d hk),decide_eq_true (Ds c d hk h)]
theorem YR{a b:V3}(c:a.Ok)(d:b.Ok){k:Int}(hk:k=4\/k=5\/k=6)(h:b.w k<a.w k):d9 .Lt (T.flt (iU a k)) (T.flt (iU b k))=some false/\d9 .Gt (T.flt (iU a k)) (T.flt (iU b k))=some true:=by
 have:=Ds d c hk h;constructor
 ·show some (ry _ _==some jO)=_;rw[Fl.cmp_lt (kT c hk) (kT d hk),decide_eq_false (Std.not_gt_of_lt this)]
 ·show some (ry _ _==some o9)=_;rw[Fl.cmp_gt (kT c hk) (kT d hk),decide_eq_true this]
theorem WO{a b:V3}(c:a.Ok)(d:b.Ok){k:Int}(hk:k=4\/k=5\/k=6)(h:a=b):d9 .Lt (T.flt (iU a k)) (T.flt (iU b k))=some false/\d9 .Gt (T.flt (iU a k)) (T.flt (iU b k))=some false:=by
 subst h;constructor
 ·show some (ry _ _==some jO)=_;rw[Fl.cmp_lt (kT c hk) (kT c hk),decide_eq_false (Fi)]
 ·show some (ry _ _==some o9)=_;rw[Fl.cmp_gt (kT c hk) (kT c hk),decide_eq_false (Fi)]
theorem VP{a b:V3}{c d:Int}(h1:c=1\/c=2\/c=3)(h2:d=4\/d=5\/d=6)(f:a.w 0=b.w 0)(g:a.w c=b.w c)(h:a.w d=b.w d):a=b:=by
 refine aQ λe=>?_;obtain⟨i,j,k⟩:=a;obtain⟨l,m,n⟩:=b;refine e ?_;have:i=l/\j=m/\k=n:=by
  rcases h1 with rfl|rfl|rfl<;>rcases h2 with rfl|rfl|rfl<;>simp[V3.w]at f g h<;>lia
 refine aQ λe=>bO this λo p q=>?_;clear this;subst o;subst p;subst q;refine e ?_;rfl
theorem vI{v:V3}(h:v.Ok){k:Int}(hk:k=4\/k=5\/k=6):-300000<=v.w k/\v.w k<=300000/\(k=4->0<=v.w k/\v.w k<=4500)/\(k=5->-269550<=v.w k):=by
 have:=h.r0;have:=h.r1;have:=h.g0;have:=h.g1;have:=h.b0;have:=h.b1;rcases hk with rfl|rfl|rfl<;>simp[V3.w]<;>lia
theorem lx(v:V3){k:Int}(h:k=1\/k=2\/k=3):(X.v (dr v)).item (T.int k)=some (T.int (v.w k)):=by rcases h with rfl|rfl|rfl<;>rfl
theorem pW(v:V3):(X.v (dr v)).item (T.int 0)=some (T.int (v.w 0)):=rfl
theorem qO(v:V3){k:Int}(h:k=4\/k=5\/k=6):(X.v (dr v)).item (T.int k)=some (T.flt (iU v k)):=by rcases h with rfl|rfl|rfl<;>rfl
noncomputable def eR(a b:Int):Int:=b2i (decide (b<a))-b2i (decide (a<b))
theorem sI{a b:Int}(h:a<b):eR a b=-1:=by unfold eR b2i;rw[decide_eq_false (AR h),decide_eq_true h];rfl
theorem tz{a b:Int}(h:b<a):eR a b=1:=by unfold eR b2i;rw[decide_eq_true h,decide_eq_false (AR h)];rfl
theorem XQ{a b:Int}(h:a=b):eR a b=0:=by unfold eR b2i;rw[decide_eq_false (Oz h),decide_eq_false (Wh h)];rfl
theorem RB{o:Od}{a b:V3}{s:Int}{Y:List T}
  (h:(∃ U:List S,em (bU (aO 7) (.tp [.nm 3,.nm 4])) jA [T.tup [T.int 0,T.int 1],T.tup [T.int o.k1,T.int o.s1],T.tup [T.int o.k2,T.int o.s2]] [S.v (T.inst (cO o)),S.v (dr a),S.v (dr b),S.no,S.no,S.no,S.no] Y=some (Fl.ret (X.v (T.int s)),U,Y))\/
   (s=0/\∃ U:List S,em (bU (aO 7) (.tp [.nm 3,.nm 4])) jA [T.tup [T.int 0,T.int 1],T.tup [T.int o.k1,T.int o.s1],T.tup [T.int o.k2,T.int o.s2]] [S.v (T.inst (cO o)),S.v (dr a),S.v (dr b),S.no,S.no,S.no,S.no] Y=some (Fl.nx,U,Y))) :
  cf mO 3 me [X.v (T.inst (cO o)),X.v (dr a),X.v (dr b)] Y=some (X.v (T.int s),Y):=by
 have hi:iL none (uR (dV 0)) [S.v (T.inst (cO o)),S.v (dr a),S.v (dr b),S.no,S.no,S.no,S.no] Y=some ([T.tup [T.int 0,T.int 1],T.tup [T.int o.k1,T.int o.s1],T.tup [T.int o.k2,T.int o.s2]],Y):=by
  exact ie (W3 (aM rfl rfl)) rfl rfl
 rcases h with ⟨U,h⟩|⟨rfl,U,h⟩
 ·refine kq (σ0:=[_,_,_,.no,.no,.no,.no]) rfl rfl rfl ?_ rfl (x:=X.v (T.int s)) (U:=U);unfold me;exact ij (iw hi h)
 ·refine kq (σ0:=[_,_,_,.no,.no,.no,.no]) rfl rfl rfl ?_ rfl (x:=X.v (T.int 0)) (U:=U);unfold me;exact bz (iw hi h) (ij (kh be))
theorem C6{o:Od}(j:o.Ok){a b:V3}(c:a.Ok)(d:b.Ok)(h:a.w 0<b.w 0):bH o a<bH o b:=by
 refine aQ λf=>?_;obtain⟨e,m,i,n⟩:=o;obtain⟨h1,h2,h3,h4⟩:=j;refine f ?_;simp only at h1 h2 h3 h4;refine aQ λf=>bO (vI c h3) λp1 p2 _=>bO (vI d h3) λp q _=>f ?_;have:=c.r0;have:=c.r1;have:=c.g0;have:=c.g1;have:=c.b0;have:=c.b1;have:=d.r0;have:=d.r1;have:=d.g0;have:=d.g1;have:=d.b0;have:=d.b1;have a1:0<=a.w e/\a.w e<=45:=by rcases h1 with rfl|rfl|rfl<;>simp[V3.w]<;>exact HH ‹_› ‹_›
 have s:0<=b.w e/\b.w e<=45:=by rcases h1 with rfl|rfl|rfl<;>simp[V3.w]<;>lia
 have k:a.w 0=a.r+a.g+a.b:=rfl;have l:b.w 0=b.r+b.g+b.b:=rfl;unfold bH;dsimp only;rw[<- k,<- l];generalize a.w 0=x at*;generalize b.w 0=y at*;generalize a.w e=t at*;generalize b.w e=u at*;generalize a.w i=v at*;generalize b.w i=z at*;rcases h2 with rfl|rfl<;>rcases h4 with rfl|rfl<;>lia
theorem uK{o:Od}(i:o.Ok){a b:V3}(j:a.Ok)(k:b.Ok)(h0:a.w 0=b.w 0)(h:o.s1*a.w o.k1<o.s1*b.w o.k1):bH o a<bH o b:=by
 refine aQ λc=>?_;obtain⟨d,e,f,n⟩:=o;obtain⟨h1,h2,h3,h4⟩:=i;refine c ?_;simp only at h1 h2 h3 h4 h;refine aQ λc=>fX (vI j h3) λp1 p2 p3 p4=>fX (vI k h3) λp q s t=>c ?_;have l:a.w 0=a.r+a.g+a.b:=rfl;have m:b.w 0=b.r+b.g+b.b:=rfl;unfold bH;dsimp only;rw[<- l,<- m,h0];generalize e*a.w d=u at*;generalize e*b.w d=v at*;generalize a.w f=x at*;generalize b.w f=y at*;rcases h4 with rfl|rfl<;>lia
theorem uQ{o:Od}{a b:V3}(h0:a.w 0=b.w 0)(h1:a.w o.k1=b.w o.k1)(h:o.s2*a.w o.k2<o.s2*b.w o.k2):bH o a<bH o b:=by
 have c:a.w 0=a.r+a.g+a.b:=rfl;have d:b.w 0=b.r+b.g+b.b:=rfl;unfold bH;rw[<- c,<- d,h0,h1];exact VQ h
theorem E9{o:Od}(i:o.Ok){a b:V3}(f:a.Ok)(g:b.Ok)(Y:List T):cf mO 3 me [X.v (T.inst (cO o)),X.v (dr a),X.v (dr b)] Y=some (X.v (T.int (eR (bH o a) (bH o b))),Y):=by
 refine RB ?_;have p:∀ {x y:Int},x<y->d9 .Lt (T.int x) (T.int y)=some true:=λh=>by show some (decide _)=_;rw[decide_eq_true h]
 have j:∀ {x y:Int},y<=x->d9 .Lt (T.int x) (T.int y)=some false:=λh=>by show some (decide _)=_;rw[decide_eq_false (AD h)]
 have q:∀ {x y:Int},y<x->d9 .Gt (T.int x) (T.int y)=some true:=λh=>by show some (decide _)=_;rw[decide_eq_true h]
 have m:∀ {x y:Int},x<=y->d9 .Gt (T.int x) (T.int y)=some false:=λh=>by show some (decide _)=_;rw[decide_eq_false (AD h)]
 rcases C2 (a.w 0) (b.w 0)with h|h|h
 ·rw[sI (C6 i f g h)];exact .inl ⟨_,qa rfl (cmp_lt rfl rfl rfl rfl rfl (pW a) (pW b) (p h))⟩
 ·have t:jA _ Y=_:=tF (O:=(([S.v (T.inst (cO o)),S.v (dr a),S.v (dr b),S.no,S.no,S.no,S.no]:List S).set 3 (S.v (T.int 0))).set 4 (S.v (T.int 1))) (Y:=Y) rfl rfl rfl rfl rfl (pW a) (pW b) (j (xj h)) (m (vL h));have go:∀ {r:Option (Fl×List S×List T)},em (bU (aO 7) (.tp [.nm 3,.nm 4])) jA [T.tup [T.int o.k1,T.int o.s1],T.tup [T.int o.k2,T.int o.s2]] [S.v (T.inst (cO o)),S.v (dr a),S.v (dr b),S.v (T.int 0),S.v (T.int 1),S.v (T.int (a.w 0)),S.v (T.int (b.w 0))] Y=r->
    em (bU (aO 7) (.tp [.nm 3,.nm 4])) jA [T.tup [T.int 0,T.int 1],T.tup [T.int o.k1,T.int o.s1],T.tup [T.int o.k2,T.int o.s2]] [S.v (T.inst (cO o)),S.v (dr a),S.v (dr b),S.no,S.no,S.no,S.no] Y=r:=by
   rintro _ rfl;exact PA rfl t
  have n:∀ {s:Int},((∃ U:List S,em (bU (aO 7) (.tp [.nm 3,.nm 4])) jA [T.tup [T.int o.k1,T.int o.s1],T.tup [T.int o.k2,T.int o.s2]] [S.v (T.inst (cO o)),S.v (dr a),S.v (dr b),S.v (T.int 0),S.v (T.int 1),S.v (T.int (a.w 0)),S.v (T.int (b.w 0))] Y=some (Fl.ret (X.v (T.int s)),U,Y))\/
    (s=0/\∃ U:List S,em (bU (aO 7) (.tp [.nm 3,.nm 4])) jA [T.tup [T.int o.k1,T.int o.s1],T.tup [T.int o.k2,T.int o.s2]] [S.v (T.inst (cO o)),S.v (dr a),S.v (dr b),S.v (T.int 0),S.v (T.int 1),S.v (T.int (a.w 0)),S.v (T.int (b.w 0))] Y=some (Fl.nx,U,Y)))->
    ((∃ U:List S,em (bU (aO 7) (.tp [.nm 3,.nm 4])) jA [T.tup [T.int 0,T.int 1],T.tup [T.int o.k1,T.int o.s1],T.tup [T.int o.k2,T.int o.s2]] [S.v (T.inst (cO o)),S.v (dr a),S.v (dr b),S.no,S.no,S.no,S.no] Y=some (Fl.ret (X.v (T.int s)),U,Y))\/
    (s=0/\∃ U:List S,em (bU (aO 7) (.tp [.nm 3,.nm 4])) jA [T.tup [T.int 0,T.int 1],T.tup [T.int o.k1,T.int o.s1],T.tup [T.int o.k2,T.int o.s2]] [S.v (T.inst (cO o)),S.v (dr a),S.v (dr b),S.no,S.no,S.no,S.no] Y=some (Fl.nx,U,Y))):=λh=>by
   rcases h with ⟨U,h⟩|⟨h1,U,h⟩
   ·exact .inl ⟨U,go h⟩
   ·exact .inr ⟨h1,U,go h⟩
  refine n (aQ λu=>?_);obtain⟨c,k,d,l⟩:=id i;refine u ?_;rcases C2 (a.w o.k1) (b.w o.k1)with h1|h1|h1
  ·have e:eR (bH o a) (bH o b)=-o.s1:=by
    rcases k with e|e
    ·rw[sI (uK i f g h (by rw[e];exact wW h1)),e]
    ·rw[tz (uK i g f h.symm (by rw[e];lia)),e];rfl
   rw[e];exact .inl ⟨_,qa rfl (cmp_lt rfl rfl rfl rfl rfl (lx a c) (lx b c) (p h1))⟩
  ·rcases C2 (a.w o.k2) (b.w o.k2)with h2|h2|h2
   ·have e:eR (bH o a) (bH o b)=-o.s2:=by
     rcases l with e|e
     ·rw[sI (uQ h h1 (by rw[e];exact wW h2)),e]
     ·rw[tz (uQ h.symm h1.symm (by rw[e];lia)),e];rfl
    rw[e];exact .inl ⟨_,gk rfl (tF (s:=o.s1) rfl rfl rfl rfl rfl (lx a c) (lx b c) (j (xj h1)) (m (vL h1))) (qa rfl (cmp_lt rfl rfl rfl rfl rfl (qO a d) (qO b d) (TT f g d h2)))⟩
   ·have e:=VP c d h h1 h2;exact bn (WO f g d e) λf1 f2=>.inr ⟨by subst e;exact XQ rfl,_,gk rfl (tF (s:=o.s1) rfl rfl rfl rfl rfl (lx a c) (lx b c) (j (xj h1)) (m (vL h1))) (gk rfl (tF (s:=o.s2) rfl rfl rfl rfl rfl (qO a d) (qO b d) f1 f2) Du)⟩
   ·have e:eR (bH o a) (bH o b)=o.s2:=by
     rcases l with e|e
     ·rw[tz (uQ h.symm h1.symm (by rw[e];exact wW h2)),e]
     ·rw[sI (uQ h h1 (by rw[e];lia)),e]
    refine bn (YR f g d h2) λf1 f2=>?_;rw[e];exact .inl ⟨_,gk rfl (tF (s:=o.s1) rfl rfl rfl rfl rfl (lx a c) (lx b c) (j (xj h1)) (m (vL h1))) (qa rfl (cmp_gt rfl rfl rfl rfl rfl (qO a d) (qO b d) f1 f2))⟩
  ·have e:eR (bH o a) (bH o b)=o.s1:=by
    rcases k with e|e
    ·rw[tz (uK i g f h.symm (by rw[e];exact wW h1)),e]
    ·rw[sI (uK i f g h (by rw[e];lia)),e]
   rw[e];exact .inl ⟨_,qa rfl (cmp_gt rfl rfl rfl rfl rfl (lx a c) (lx b c) (j (Fq h1)) (q h1))⟩
 ·rw[tz (C6 i g f h)];exact .inl ⟨_,qa rfl (cmp_gt rfl rfl rfl rfl rfl (pW a) (pW b) (j (Fq h)) (q h))⟩
noncomputable def qu:List Nat:=[114,103,98]
noncomputable def kx:List (List Nat):=[[]]++qu.map (λa=>[a])++qu.flatMap (λa=>qu.map λb=>[a,b])++qu.flatMap (λa=>qu.flatMap λb=>qu.map λc=>[a,b,c])
noncomputable def cj(w:List Nat):Str:=⟨w.toArray⟩
theorem WW:(kx.all λw=>CS (cj w) (aK "r")==((w.count 114:Nat):Int)&&CS (cj w) (aK "g")==((w.count 103:Nat):Int)&&CS (cj w) (aK "b")==((w.count 98:Nat):Int))=true:=by decide+kernel
noncomputable def n8(c:Nat):List Nat:=if c=13191 then [103,98]else [c]
noncomputable def tK(w:List Nat):List Nat:=(Txt.replace (cj w) (aK "gb") ⟨#[13191]⟩).cps.toList
theorem abX:(kx.all λw=>(tK w).flatMap n8==w&&decide ((tK w).length<=3)&&(tK w).all (λc=>[114,103,98,13191].contains c))=true:=by decide+kernel
theorem IA:(kx.all λw=>w.flatMap n8==w&&decide (w.length<=3)&&w.all (λc=>[114,103,98,13191].contains c))=true:=by decide+kernel
theorem aaP:∀ (b:List Str) (a:Array Nat),b.foldl (λc p=>c++(#[]:Array Nat)++p.cps) a=a++(b.flatMap λy=>y.cps.toList).toArray:=by
 intro d;induction d with
 |nil=>
  intro a;simp
 |cons y b e=>
  intro a;rw[adm,e];rw[yr];apply adI.mp;simp
theorem join_nil(a:List Str):Txt.join (aK "") a=cj (a.flatMap λy=>y.cps.toList):=by
 have e:aK ""=⟨#[]⟩:=by decide+kernel
 rw[e];show adJ _ _=_;unfold adJ cj;cases a with
 |nil=>rfl
 |cons y a=>
  show(⟨a.foldl (λb p=>b++(#[]:Array Nat)++p.cps) y.cps⟩:Str)=_;rw[aaP,yr];congr 1;apply adI.mp;simp
theorem strs_map(a:List Str):strs? (a.map T.str)=some a:=by
 induction a with
 |nil=>rfl
 |cons y a b=>exact aT rfl (da b rfl)
noncomputable def m3(c:Nat):Str:=match oa c with
 |some x=>x
 |none=>JP ⟨#[c]⟩
theorem UV(c:Nat)(Y:List T):cf sF 1 uZ [X.v (T.str ⟨#[c]⟩)] Y=some (X.v (T.bool (d8 c)),Y):=rfl
theorem Li(c:Nat)(Y:List T):wS (bL [dV 0] (cD pM)) [S.v (T.str ⟨#[c]⟩),S.no] Y=some (X.v (match oa (c:Int)with|some x=>T.str x|none=>T.none),Y):=
 Pi (k:=(c:Int)) rfl
theorem MC(c:Nat)(Y:List T):cf tX 1 vQ [X.v (T.str ⟨#[c]⟩)] Y=some (X.v (T.str (m3 c)),Y):=by
 have a:=Li c Y;cases h:oa (c:Int)with
 |some x=>
  rw[show m3 c=x by unfold m3;rw[h]];rw[h]at a;exact kq (σ0:=[_,.no]) rfl rfl rfl (bz (I:=[.v (.str ⟨#[c]⟩),.v (.str x)]) (ef a rfl rfl) (ij (mh rfl (ij (kh (aM rfl rfl)))))) rfl
 |none=>
  rw[show m3 c=JP ⟨#[c]⟩by unfold m3;rw[h]];rw[h]at a;exact kq (σ0:=[_,.no]) rfl rfl rfl (bz (I:=[.v (.str ⟨#[c]⟩),.v .none]) (ef a rfl rfl) (bz (kw rfl dT) (ij (kh (n7 (aM rfl rfl) rfl cv (gl rfl)))))) rfl
noncomputable def fI:List Int:=[173,847,6150,6155,6156,6157,8203,8204,8205,8288,65279,65024,65025,65026,65027,65028,65029,65030,65031,65032,65033,65034,65035,65036,65037,65038,65039]
noncomputable def eW:List Int:=[97,65,119808,119860,119912,120016,120172,120224,120276,120328,120380,120432]
noncomputable def eF:List (List Int):=[[8475,8476,8477],[119970,120074,120126],[8492,120069,120121]]
noncomputable def eM(kind c:Nat):Nat:=if c=13191 then c else if kind<12 then((eW.getD kind 0)+c-97).toNat else(((eF.getD (if c=114 then 0 else if c=103 then 1 else 2) []).getD (kind-12) 0)).toNat
theorem V2:((aO 15).all λk=>[114,103,98,13191].all λc=>!(d8 (eM k c))&&(m3 (eM k c)==cj (n8 c))&&decide (eM k c<=0x10FFFF))=true:=by decide+kernel
theorem FT:(fI.all λc=>d8 c&&decide (0<=c)&&decide (c<=0x10FFFF))=true:=by decide+kernel
theorem qV(n d:Nat):n0 (n:Int) (d:Int)=((n/d:Nat):Int):=by
 rw[Int.fdiv_eq_ediv_of_nonneg _ (kB)];rfl
theorem oF(n d:Nat):yt (n:Int) (d:Int)=((n%d:Nat):Int):=by
 rw[Int.fmod_eq_emod_of_nonneg _ (kB)];rfl
theorem yB{l:List T}{j:Nat}{t:T}(h:l[j]?=some t)(b:l.length<=1000000):lR l (j:Int)=some t:=by
 have a:j<l.length:=(je.mp h).1;unfold lR;have hs:tI (j:Int)=true:=by
  unfold tI;simp only[fg,decide_eq_true_eq];constructor
  ·have:(0:Int)<=2^63:=by decide
   lia
  ·have:(1000000:Int)<2^63:=by decide
   lia
 rw[if_pos hs];have hi:ud (j:Int) l.length=some j:=by
  unfold ud;simp only[show ¬((j:Int)<0)by exact vV,if_false];have h0:(0:Int)<=(j:Int):=kB;have h1:(j:Int)<(l.length:Int):=Br a;simp[h0,h1]
 rw[hi,ip,h]
noncomputable def gG(st p:Nat):Nat:=(fI.getD ((st/2+10*p)%27) 0).toNat
noncomputable def kd(st p:Nat):Nat:=(st/54+4*p)%15
noncomputable def ki(st:Nat):Nat->List Nat->List Nat
 |_,[]=>[]
 |p,c::a=>gG st p::eM (kd st p) c::ki st (p+1) a
theorem OM{st p:Nat}:ki st p []=[]:=rfl
theorem wI{st p c:Nat}{a:List Nat}:ki st p (c::a)=gG st p::eM (kd st p) c::ki st (p+1) a:=rfl
noncomputable def cy(c:Nat):T:=T.str ⟨#[c]⟩
theorem DI{J:Type}{a b:Option J}{t:J}(h:a=some t):a.or b=some t:=congrArg (Option.or · b) h
theorem wg{x:X}{l:List T}{k:Int}{t:T}(h1:x.lst?=some l)(h2:lR l k=some t):x.item (.int k)=some t:=aT rfl (DI (aT h1 h2))
theorem wz{l:List T}{j:Nat}{t:T}(h:l[j]?=some t)(a:l.length<=1000000):(X.v (T.lst l)).item (T.int (j:Int))=some t:=wg rfl (yB h a)
theorem LP(st p:Nat):(X.v (T.lst (fI.map T.int))).item (T.int (yt (n0 (st:Int) 2+10*(p:Int)) 27))=some (T.int ((gG st p:Nat):Int)):=by
 have e:yt (n0 (st:Int) 2+10*(p:Int)) 27=(((st/2+10*p)%27:Nat):Int):=by
  have h1:=qV st 2;have h2:=oF (st/2+10*p) 27;rw[show((2:Nat):Int)=2 from rfl]at h1;rw[show((27:Nat):Int)=27 from rfl]at h2;rw[h1,<- h2];congr 1
 rw[e];have a:(st/2+10*p)%27<fI.length:=nP _ (by decide);refine wz ?_ (by decide);rw[fR,gv a];have b:=c8.mp FT _ (Ki a);simp only[fg,decide_eq_true_eq]at b;unfold gG;rw[yi,gv a];simp only[mB,JF];rw[Cf b.1.2]
theorem yC(st p:Nat):d8 ((gG st p:Nat):Int)=true/\gG st p<=0x10FFFF:=by
 have a:(st/2+10*p)%27<fI.length:=nP _ (by decide);have b:=c8.mp FT _ (Ki a);simp only[fg,decide_eq_true_eq]at b;unfold gG;rw[yi,gv a];simp only[JF];rw[Cf b.1.2];exact⟨b.1.1,ZD b⟩
theorem Py(st p:Nat):yt (n0 (st:Int) 54+4*(p:Int)) 15=((kd st p:Nat):Int):=by
 have h1:=qV st 54;have h2:=oF (st/54+4*p) 15;rw[show((54:Nat):Int)=54 from rfl]at h1;rw[show((15:Nat):Int)=15 from rfl]at h2;unfold kd;rw[h1,<- h2];congr 1
theorem AF{n:Nat}(h:n<=0x10FFFF):nF (X.v (T.int (n:Int)))=some (X.v (cy n)):=by
 show(if _ then _ else _)=_;rw[if_pos (VU h)];rfl
theorem AU{c:Nat}(h:c=114\/c=103\/c=98):d9 .In (cy c) (T.str (aK "rgb"))=some true:=by
 rcases h with rfl|rfl|rfl<;>kernel_rfl
theorem Ef:d9 .In (cy 13191) (T.str (aK "rgb"))=some false:=by kernel_rfl
theorem TR{c:Nat}(h:c=114\/c=103\/c=98):A1 (X.v (T.str (aK "rgb"))) (X.v (cy c))=some (X.v (T.int ((if c=114 then 0 else if c=103 then 1 else 2:Nat):Int))):=by
 rcases h with rfl|rfl|rfl<;>kernel_rfl
theorem Bs{k c:Nat}(hk:k<15)(hc:c=114\/c=103\/c=98\/c=13191):d8 ((eM k c:Nat):Int)=false/\m3 (eM k c)=cj (n8 c)/\eM k c<=0x10FFFF:=by
 have h1:=c8.mp V2 k (eu.mpr hk);have h2:=c8.mp h1 c (by simp;exact sR hc);simp only[fg,Bool.not_eq_true',beq_iff_eq,decide_eq_true_eq]at h2;exact⟨h2.1.1,h2.1.2,h2.2⟩
theorem Ar(st p:Nat):kd st p<15:=nP _ (by decide)
end
section
open Ma
noncomputable def cq(a b:V3):V3:=⟨a.r+b.r,a.g+b.g,a.b+b.b⟩
noncomputable def v0:V3:=⟨0,0,0⟩
structure i9 (c:V3->Int):Prop where
 z:c v0=0
 a:∀ x y,c (cq x y)=c x+c y
theorem BL:i9 V3.r:=⟨rfl,λ_ _=>rfl⟩
theorem zQ:i9 V3.g:=⟨rfl,λ_ _=>rfl⟩
theorem zT:i9 V3.b:=⟨rfl,λ_ _=>rfl⟩
theorem AG:i9 V3.n:=⟨rfl,λx y=>by unfold V3.n cq;simp only;exact Ir⟩
theorem rZ{a b:V3}(h1:a.r=b.r)(h2:a.g=b.g)(h3:a.b=b.b):a=b:=by cases a;cases b;simp only at h1 h2 h3;subst h1 h2 h3;rfl
abbrev Dc:=List (Nat×V3)
noncomputable def keys(l:Dc):List Nat:=l.map (·.1)
noncomputable def val(l:Dc)(k:Nat):V3:=match l.find? (λp=>p.1=k)with
 |some p=>p.2
 |none=>v0
noncomputable def has(l:Dc)(k:Nat):Bool:=l.any λp=>p.1=k
noncomputable def put(l:Dc)(k:Nat)(v:V3):Dc:=if has l k=true then l.map (λp=>if p.1=k then(p.1,v)else p)else l++[(k,v)]
noncomputable def mX(l:Dc)(p:Nat×V3):Dc:=put l p.1 (cq p.2 (val l p.1))
noncomputable def ac(l m:Dc):Dc:=m.foldl mX l
noncomputable def bp(e:V3->T)(l:Dc):List (Int×T):=l.map λp=>((p.1:Int),e p.2)
theorem lh{l:Dc}{k:Nat}:has l k=true↔k∈keys l:=by
 unfold has keys;rw[J5,eh];simp only[decide_eq_true_eq]
theorem zn(e:V3->T)(l:Dc)(k:Nat):(bp e l).any (λp=>p.1=(k:Int))=has l k:=by
 unfold bp has;rw[List.any_map];congr 1;funext p;simp only[Kj,decide_eq_decide];exact Int.ofNat_inj
theorem DY(e:V3->T)(l:Dc)(k:Nat)(v:V3):l9 (bp e l) (k:Int) (e v)=bp e (put l k v):=by
 unfold l9 put;rw[zn];by_cases h:has l k=true
 ·rw[if_pos h,if_pos h];unfold bp;rw[il,il];apply uk;intro p _;simp only[Kj];by_cases q:p.1=k
  ·rw[if_pos q,if_pos (by rw[q])]
  ·rw[if_neg q,if_neg (sK q)]
 ·rw[if_neg h,if_neg h];unfold bp;rw[mJ];rfl
theorem gR(k:Nat)(v:V3)(l:Dc)(j:Nat):val ((k,v)::l) j=if k=j then v else val l j:=by
 unfold val;rw[CX];by_cases h:k=j
 ·simp[h]
 ·simp[h]
theorem Ej{l:Dc}{k:Nat}(h:k∉keys l):val l k=v0:=by
 induction l with
 |nil=>rfl
 |cons p l a=>
  unfold keys at h a;rw[cB,bP]at h;rw[gR,if_neg λq=>h (.inl q.symm),a λq=>h (.inr q)]
theorem Bw(e:V3->T)(l:Dc)(k:Nat):i6 (bp e l) (k:Int)=if has l k=true then some (e (val l k))else none:=by
 induction l with
 |nil=>rfl
 |cons p l a=>
  obtain⟨j,v⟩:=p;unfold i6 bp has at a ⊢;rw[cB,CX,JM,gR];by_cases h:j=k
  ·subst h;simp
  ·have h1:((j:Int)=(k:Int))=False:=by rw[eq_iff_iff,iff_false];exact sK h
   simp only[h1,decide_false,h,Bool.false_or,if_false];exact a
theorem Dw(l:Dc)(k:Nat)(v:V3):keys (put l k v)=if has l k=true then keys l else keys l++[k]:=by
 unfold put;split
 ·unfold keys;rw[il];apply uk;intro p _;simp only[Kj];split<;>rfl
 ·unfold keys;rw[mJ];rfl
theorem M2(l:Dc)(k:Nat)(v:V3)(j:Nat)(h:k∉keys l):val (l++[(k,v)]) j=if k=j then v else val l j:=by
 induction l with
 |nil=>exact gR k v [] j
 |cons p l a=>
  obtain⟨i,u⟩:=p;unfold keys at h;rw[cB,bP]at h;rw[rq,gR,a λq=>h (.inr q),gR];by_cases q:i=j
  ·rw[if_pos q,if_pos q,if_neg λw=>h (.inl (w.trans q.symm))]
  ·rw[if_neg q,if_neg q]
theorem PF(l:Dc)(k:Nat)(v:V3)(j:Nat)(h:k∈keys l):val (l.map λp=>if p.1=k then(p.1,v)else p) j=if k=j then v else val l j:=by
 induction l with
 |nil=>cases h
 |cons p l a=>
  obtain⟨i,u⟩:=p;rw[cB];by_cases q:i=k
  ·subst q;simp only[if_true];rw[gR];by_cases r:i=j
   ·rw[if_pos r,if_pos r]
   ·rw[if_neg r,if_neg r,gR,if_neg r];by_cases hk:i∈keys l
    ·rw[a hk,if_neg r]
    ·have:l.map (λp=>if p.1=i then(p.1,v)else p)=l:=by
      conv=>rhs;rw[<- Jm l]
      apply uk;intro p b;have:p.1≠i:=λw=>hk (w▸Kk b);simp[this]
     rw[this]
  ·simp only[if_neg q];have hk:k∈keys l:=by
    rcases bP.mp h with h|h
    ·exact absurd h.symm q
    ·exact h
   rw[gR,gR,a hk];by_cases r:i=j
   ·rw[if_pos r,if_neg λw=>q (r.trans w.symm),if_pos r]
   ·rw[if_neg r,if_neg r]
theorem R3(l:Dc)(k:Nat)(v:V3)(j:Nat):val (put l k v) j=if k=j then v else val l j:=by
 unfold put;by_cases h:has l k=true
 ·rw[if_pos h,PF _ _ _ _ (lh.mp h)]
 ·rw[if_neg h,M2 _ _ _ _ λq=>h (lh.mpr q)]
theorem ZH{l:Dc}(h:(keys l).Nodup)(k:Nat)(v:V3):(keys (put l k v)).Nodup:=by
 rw[Dw];split
 ·exact h
 ·rename_i q;rw[pr];refine⟨h,by simp,?_⟩;intro a d b c;rw[jd]at c;subst c;rintro rfl;exact q (lh.mpr d)
theorem Yo{l:Dc}{k j:Nat}{v:V3}:j∈keys (put l k v)↔j∈keys l\/j=k:=by
 rw[Dw];split
 ·rename_i h;constructor
  ·exact .inl
  ·rintro (q|rfl)
   ·exact q
   ·exact lh.mp h
 ·rw[fQ,jd]
theorem qc(m:Dc):∀ {l:Dc},(keys l).Nodup->(keys (ac l m)).Nodup:=by
 induction m with
 |nil=>exact id
 |cons p m a=>exact λh=>a (ZH h _ _)
theorem qM(m:Dc):∀ {l:Dc} {k:Nat},k∈keys (ac l m)↔k∈keys l\/k∈keys m:=by
 induction m with
 |nil=>intro l k;simp[ac,keys]
 |cons p m a=>
  intro l k;show k∈keys (ac (mX l p) m)↔_;rw[a];unfold mX;rw[Yo];unfold keys;rw[cB,bP,or_assoc]
theorem pY(a:V3):cq a v0=a:=by apply rZ<;>simp[cq,v0]
theorem O1(a:V3):cq v0 a=a:=by apply rZ<;>simp[cq,v0]
theorem Mf(a b:V3):cq a b=cq b a:=by apply rZ<;>simp only[cq]<;>exact E8
theorem vw(m:Dc):∀ {l:Dc} (k:Nat),(keys m).Nodup->val (ac l m) k=cq (val l k) (val m k):=by
 induction m with
 |nil=>intro l k _;show val l k=_;rw[show val [] k=v0 from rfl,pY]
 |cons p m b=>
  intro l k h;obtain⟨j,v⟩:=p;have a:j∉keys m/\(keys m).Nodup:=gu.mp h;show val (ac (mX l (j,v)) m) k=_;rw[b k a.2];unfold mX;rw[R3,gR];by_cases q:j=k
  ·subst q;rw[if_pos rfl,if_pos rfl,Ej a.1,pY,Mf]
  ·rw[if_neg q,if_neg q]
theorem Ge(l:Dc)(k:Nat)(v:V3):(put l k v).length<=l.length+1:=by
 unfold put;split
 ·rw[dm];exact(dI _ 1)
 ·rw[cU];simp
noncomputable def iq(c:V3->Int):Dc->Int
 |[]=>0
 |p::l=>c p.2+iq c l
theorem Zl{c:V3->Int}(hc:c v0=0):∀ {l:Dc} {A:List Nat},(keys l).Nodup->A.Nodup->(∀ k∈keys l,k∈A)->iq c l=sm A (λk=>c (val l k)):=by
 intro b;induction b with
 |nil=>
  intro A _ _ _;have:(λk=>c (val [] k))=λ_=>0:=by funext k;exact hc
  rw[this,tm];rfl
 |cons d l e=>
  obtain⟨k,v⟩:=d;intro A h hA hk;have g:k∉keys l/\(keys l).Nodup:=gu.mp h;have f:k∈A:=hk k (.head _);rw[ly (lN f)];have i:=e (A:=A.erase k) g.2 (hA.erase k) λj a=>(uD (λq=>by subst q;exact g.1 a)).mpr (hk j (.tail _ a));show c v+iq c l=c (val ((k,v)::l) k)+sm (A.erase k) _;rw[i,gR,if_pos rfl];congr 1;refine jC λj a=>?_;have:k≠j:=λq=>by subst q;exact(hA.not_mem_erase a)
  rw[gR,if_neg this]
theorem My(A B:List Nat)(f:Nat->Nat->Int):sm A (λi=>sm B (λj=>f i j))=sm B (λj=>sm A (λi=>f i j)):=by
 induction A with
 |nil=>simp only[fW,ga,tm]
 |cons x A a=>simp only[fW,ga,a,vU]
structure Enc (e:V3->T):Prop where
 run:∀ (a b:S) (acc:Dc) (k:Nat) (v:V3) (Y:List T),acc.length<=1000000->has acc k=true->
  vz [a,b,.ownd (bp e acc),.v (.int k),.v (e v)] Y=some (.nx,[a,b,.ownd (bp e (put acc k (cq v (val acc k)))),.v (.int k),.v (e v)],Y)
theorem set_own{e:V3->T}{a:Dc}(b:a.length<=1000000)(k:Nat)(v:V3):mf (.ownd (bp e a)) (.int (k:Int)) (e v)=some (.ownd (bp e (put a k v))):=by
 show(if _ then _ else _)=_;rw[if_pos (by unfold bp;rw[dm];exact b),DY]
theorem FL{e:V3->T}{l:Dc}{k i:Nat}(h:has l k=true):(X.bod i (bp e l)).item (.int (k:Int))=some (e (val l k)):=by
 show i6 _ _=_;rw[Bw,if_pos h]
theorem As:Enc tB where
 run a b c k v Y d h:=by
  have e:tB (cq v (val c k))=.tup [.int (v.r+(val c k).r),.int (v.g+(val c k).g),.int (v.b+(val c k).b),.int (v.r+v.g+v.b+((val c k).r+(val c k).g+(val c k).b))]:=by
   unfold tB cq;simp only[T.tup.injEq,adK,T.int.injEq,and_true,true_and];exact Ir
  unfold vz HS;refine' bz (mh (G:=Y) ?_ (bz (pV (x:=.v (tB (cq v (val c k)))) ?_ rfl (aM rfl rfl) rfl rfl (set_own d k _)) dT)) dT
  ·exact qn (rU (aM rfl rfl) rfl rfl) rfl rfl
  ·rw[e];exact Qe (aM rfl rfl) (bM (aM rfl rfl) (aM rfl rfl) rfl (FL h)) rfl rfl (by simp) rfl
noncomputable def nB(v:V3):T:=.int (v.r+v.g+v.b)
theorem TP:Enc nB where
 run a b c k v Y d h:=by
  have e:nB (cq v (val c k))=.int ((val c k).r+(val c k).g+(val c k).b+(v.r+v.g+v.b)):=by
   unfold nB cq;simp only[T.int.injEq];exact QO
  unfold vz Hk;refine' bz (kw (G:=Y) ?_ (bz (zx (S0:=.ownd (bp nB c)) (old:=nB (val c k)) (n:=nB (cq v (val c k))) rfl (aM rfl rfl) rfl ?_ (aM rfl rfl) rfl ?_ (set_own d k _)) dT)) dT
  ·exact qn (rU (aM rfl rfl) rfl rfl) rfl rfl
  ·exact FL (i:=0) h
  ·rw[e];rfl
section
variable{e:V3->T}(he:Enc e){a b x3 x4:S}{Y:List T}
theorem Yc:∀ (l c:Dc) (x3 x4:S),(keys (c++l)).Nodup->c.length+l.length<=1000000->∃ g h,em (bU (aO 5) (.tp [.nm 3,.nm 4])) HU ((bp e l).map λp=>T.tup [T.int p.1,p.2]) [a,b,.ownd (bp e c),x3,x4] Y=some (.nx,[a,b,.ownd (bp e (c++l)),g,h],Y):=by
 intro i;induction i with
 |nil=>
  intro c x3 x4 _ _;exact(dA x3 x4 (by rw[gW];rfl))
 |cons j l m=>
  obtain⟨k,v⟩:=j;intro c x3 x4 d f;have n:c++(k,v)::l=(c++[(k,v)])++l:=by rw[eO];rfl
  have hk:put c k v=c++[(k,v)]:=by
   unfold put;rw[if_neg];intro q;have q:=lh.mp q;unfold keys at d q;rw[mJ,pr]at d;exact d.2.2 k q k (.head _) rfl
  rw[n]at d ⊢;refine aQ λo=>gQ (m (c++[(k,v)]) (.v (.int k)) (.v (e v)) d (by rw[cU];simp only[cK,iJ]at f ⊢;exact X7 f)) λr s u=>o (dA r s (gk (I:=[a,b,.ownd (bp e c),.v (.int k),.v (e v)]) rfl (bz (pV (t:=e v) (S1:=.ownd (bp e (c++[(k,v)]))) (aM rfl rfl) rfl (aM rfl rfl) rfl rfl ?_) dT) u));rw[<- hk];exact set_own (by simp only[cK]at f;exact km f) k v
include he in
theorem VM:∀ (l c:Dc) (x3 x4:S),c.length+l.length<=1000000->∃ f g,em (bU (aO 5) (.tp [.nm 3,.nm 4])) Gs ((bp e l).map λp=>T.tup [T.int p.1,p.2]) [a,b,.ownd (bp e c),x3,x4] Y=some (.nx,[a,b,.ownd (bp e (ac c l)),f,g],Y):=by
 intro i;induction i with
 |nil=>
  intro c x3 x4 _;exact(dA x3 x4 rfl)
 |cons j l m=>
  obtain⟨k,v⟩:=j;intro c x3 x4 d;have n:=Ge c k (cq v (val c k));simp only[cK]at d;refine aQ λo=>gQ (m (put c k (cq v (val c k))) (.v (.int k)) (.v (e v)) (R5 d n)) λr s u=>o (dA r s (gk (I:=[a,b,.ownd (bp e c),.v (.int k),.v (e v)]) (σ2:=[a,b,.ownd (bp e (put c k (cq v (val c k)))),.v (.int k),.v (e v)]) rfl ?_ u));by_cases h:has c k=true
  ·refine' bz (mh (G:=Y) (D1 (b:=true) (aM rfl rfl) rfl (aM rfl rfl) ?_) (he.run a b c k v Y (km d) h)) dT;exact congrArg some ((zn ..).trans h)
  ·have w:val c k=v0:=Ej λq=>h (lh.mpr q);rw[w,pY];refine' bz (kw (G:=Y) (D1 (b:=false) (aM rfl rfl) rfl (aM rfl rfl) ?_) (bz (pV (t:=e v) (aM rfl rfl) rfl (aM rfl rfl) rfl rfl (set_own (km d) k v)) dT)) dT;exact congrArg some ((zn ..).trans (Bool.eq_false_iff.mpr h))
include he in
theorem uJ{l m:Dc}(d:(keys l).Nodup)(c:l.length+m.length<=1000000)(x y:X)(f:x=.v (.dct (bp e l)))(g:y=.v (.dct (bp e m))):cf jY 2 jX [x,y] Y=some (.v (.dct (bp e (ac l m))),Y):=by
 subst f g;refine aQ λh=>gQ (Yc (e:=e) (a:=.v (.dct (bp e l))) (b:=.v (.dct (bp e m))) (Y:=Y) l [] .no .no d (by simp;exact(xF c))) λp3 p4 h1=>gQ (VM he (a:=.v (.dct (bp e l))) (b:=.v (.dct (bp e m))) (Y:=Y) m l p3 p4 c) λi j h2=>h ?_;refine' kq (σ0:=[_,_,.no,.no,.no]) rfl rfl rfl ?h1 ?h2
 case h1=>
  unfold jX;refine' bz ?a1 (bz (iw (Bc (aM rfl rfl) rfl rfl) h1) (bz (iw (Bc (aM rfl rfl) rfl rfl) h2) (ij (kh (aM rfl rfl)))))
  case a1=>exact tc (S0:=.ownd (bp e [])) rfl rfl rfl (by simp)
 case h2=>rfl
end
theorem Se{u v:V3}{l m:Dc}{Y:List T}(a:(keys l).Nodup)(c:l.length+m.length<=1000000):cf jq 2 jM [.v (.tup [.int u.r,.int u.g,.int u.b,.int (u.r+u.g+u.b),.dct (bp tB l)]),.v (.tup [.int v.r,.int v.g,.int v.b,.int (v.r+v.g+v.b),.dct (bp tB m)])] Y
  = some (.v (.tup [.int (v.r+u.r),.int (v.g+u.g),.int (v.b+u.b),.int (v.r+v.g+v.b+(u.r+u.g+u.b)),.dct (bp tB (ac l m))]),Y):=by
 have hc:∀ Y,cf jY 2 jX [.v (.dct (bp tB l)),.v (.dct (bp tB m))] Y=some (.v (.dct (bp tB (ac l m))),Y):=λY=>uJ As a c _ _ rfl rfl;exact kq rfl rfl rfl (bz (I:=[_,_,.v (.int v.r),.v (.int v.g),.v (.int v.b),.v (.int (v.r+v.g+v.b)),.v (.dct (bp tB m)),.no,.no,.no,.no,.no]) rfl
  (bz (I:=[_,_,.v (.int v.r),.v (.int v.g),.v (.int v.b),.v (.int (v.r+v.g+v.b)),.v (.dct (bp tB m)),.v (.int u.r),.v (.int u.g),.v (.int u.b),.v (.int (u.r+u.g+u.b)),.v (.dct (bp tB l))]) rfl
   (ij (kh (eD (bQ rfl rfl (bQ rfl rfl (bQ rfl rfl (bQ rfl rfl (bQ (db (bN (aM rfl rfl) (bN (aM rfl rfl) cv)) (hc Y)) rfl df)))))))))) rfl
def bf(is:List Nat)(O U:List S):Prop:=U.length=O.length/\∀ j,j∉is->U[j]?=O[j]?
theorem bf.refl{is:List Nat}(O:List S):bf is O O:=⟨rfl,λ_ _=>rfl⟩
theorem bf.set{is:List Nat}{O U:List S}(h:bf is O U){i:Nat}(hi:is.contains i=true)(x:S):bf is O (U.set i x):=
 ⟨by rw[fH];exact h.1,λj a=>by rw[ed (λq=>by subst q;exact a (pe.mp hi))];exact h.2 j a⟩
theorem bf.trans{is:List Nat}{O U a:List S}(h:bf is O U)(b:bf is U a):bf is O a:=⟨b.1.trans h.1,λj c=>(b.2 j c).trans (h.2 j c)⟩
theorem bf.mono{is a:List Nat}{O U:List S}(h:bf is O U)(hs:∀ i∈is,i∈a):bf a O U:=⟨h.1,λj b=>h.2 j λq=>b (hs j q)⟩
theorem bf.get{is:List Nat}{O U:List S}(h:bf is O U){j:Nat}{x:S}(e:O[j]?=some x)(a:is.contains j=false):U[j]?=some x:=by
 rw[h.2 j λq=>by rw[pe.mpr q]at a;cases a];exact e
theorem bf.len{is:List Nat}{O U:List S}(h:bf is O U){n:Nat}(e:O.length=n):U.length=n:=h.1.trans e
noncomputable def bv(L:List Nat):List T:=L.map λ(k:Nat)=>T.int (k:Int)
theorem Bz(L:List Nat):ky (bv L)=some (L.map λ(k:Nat)=>(k:Int)):=by
 induction L with
 |nil=>rfl
 |cons x L a=>show(ky (bv L)).map _=_;rw[a];rfl
theorem Hc(L:List Nat)(k:Nat):(L.map λ(k:Nat)=>(k:Int)).any (·==(k:Int))=L.contains k:=by
 induction L with
 |nil=>rfl
 |cons x L a=>
  rw[cB,JM,a,List.contains_cons];congr 1;by_cases h:x=k
  ·subst h;simp
  ·rw[show(k==x)=false by simpa using λq=>h q.symm];have:¬(x:Int)=(k:Int):=sK h;simp[this]
theorem TD(i:Nat)(L:List Nat)(k:Nat):wV (.bo i (bv L)) (k:Int)=some (L.contains k):=by
 show(some (bv L)).bind _=_;rw[ip,Bz,mB,Hc]
theorem OF(L:List Nat)(k:Nat):wV (.fr (bv L)) (k:Int)=some (L.contains k):=by
 show(some (bv L)).bind _=_;rw[ip,Bz,mB,Hc]
theorem MF(l:List T)(t:T):lR (l++[t]) (-1)=some t:=by
 unfold lR;rw[if_pos (show tI (-1)=true by decide)];have hi:ud (-1) (l++[t]).length=some l.length:=by
  unfold ud;have e:((l++[t]).length:Int)=(l.length:Int)+1:=by simp
  rw[e];simp;exact VE
 rw[hi,ip,List.getElem?_append_right (cu _)];simp
theorem gU{i:Nat}{l:List T}{j:Nat}{t:T}(h:l[j]?=some t)(a:l.length<=1000000):(X.bo i l).item (.int (j:Int))=some t:=wg rfl (yB h a)
theorem item_last{i:Nat}{l:List T}{t:T}:(X.bo i (l++[t])).item (.int (-1))=some t:=wg rfl (MF l t)
section
variable{J:Type}{bind:T->List S->Option (List S)}{test:dc}{fx fk fv:aP}{Y:List T}
theorem fV(item:J->T)(p:J->Bool)(g:J->T)(d:List S->Prop)(Q:J->List S->Prop):
  ∀ (as:List J) (b:List T) (O:List S),d O->b.length+as.length<=1000000->
  (∀ a∈as,∀ O,d O->∃ I,bind (item a) O=some I/\d I/\Q a I)->
  (∀ a∈as,∀ I,d I->Q a I->test I Y=some (p a,Y))->
  (∀ a∈as,∀ I,d I->Q a I->p a=true->∃ x,fx I Y=some (x,Y)/\x.t?=some (g a))->
  iv bind test (cF fx) (as.map item) O Y (.own b)=some (.own (b++(as.filter p).map g),Y):=by
 intro k;induction k with
 |nil=>
  intro b O _ _ _ _ _;simp only[Kl,rO,gW];rfl
 |cons a as e=>
  intro b O s f l m n;refine aQ λt=>ej (l a (.head _) O s) λI o i q=>t ?_;have j:=m a (.head _) I i q;simp only[cK]at f;by_cases c:p a=true
  ·refine aV (n a (.head _) I i q c) λx u v=>?_;rw[c]at j;rw[rS c,cB,cB];have r:=e (b++[g a]) I i (by rw[cU];simp;exact mZ f) (λa h=>l a (.tail _ h)) (λa h=>m a (.tail _ h)) λa h=>n a (.tail _ h);rw[eO]at r;exact kM o j (wx u v (km f)) r
  ·rw[Kh]at c;rw[c]at j;rw[uE (by simp[c]),cB];exact Bj o j (e b I i (sG f) (λa h=>l a (.tail _ h)) (λa h=>m a (.tail _ h)) λa h=>n a (.tail _ h))
theorem zd(e:V3->T)(item:J->T)(p:J->Bool)(key:J->Nat)(g:J->V3)(i:List S->Prop)(Q:J->List S->Prop):
  ∀ (as:List J) (c:Dc) (O:List S),i O->c.length+as.length<=1000000->(keys c++as.map key).Nodup->
  (∀ a∈as,∀ O,i O->∃ I,bind (item a) O=some I/\i I/\Q a I)->
  (∀ a∈as,∀ I,i I->Q a I->test I Y=some (p a,Y))->
  (∀ a∈as,∀ I,i I->Q a I->p a=true->∃ x y,fk I Y=some (x,Y)/\x.t?=some (.int (key a))/\fv I Y=some (y,Y)/\y.t?=some (e (g a)))->
  iv bind test (h9 fk fv) (as.map item) O Y (.ownd (bp e c))=some (.ownd (bp e (c++(as.filter p).map λa=>(key a,g a))),Y):=by
 intro o;induction o with
 |nil=>
  intro c O _ _ _ _ _ _;simp only[Kl,rO,gW];rfl
 |cons a as j=>
  intro c O w l d k r s;refine aQ λz=>ej (k a (.head _) O w) λI t m u=>z ?_;have n:=r a (.head _) I m u;simp only[cK]at l;rw[cB]at d;by_cases f:p a=true
  ·refine mj (s a (.head _) I m u f) λx y A B C D=>?_;rw[f]at n;rw[rS f,cB,cB];have hk:put c (key a) (g a)=c++[(key a,g a)]:=by
    unfold put;rw[if_neg];intro q;have q:=lh.mp q;rw[pr]at d;exact d.2.2 _ q _ (.head _) rfl
   have v:=j (c++[(key a,g a)]) I m (by rw[cU];simp;exact mZ l) (by
    have:keys (c++[(key a,g a)])=keys c++[key a]:=by unfold keys;rw[mJ];rfl
    rw[this,eO];exact d) (λa h=>k a (.tail _ h)) (λa h=>r a (.tail _ h)) λa h=>s a (.tail _ h)
   rw[eO]at v;refine kM t n (YJ A B C D (by unfold bp;rw[dm];exact km l)) ?_;rw[DY,hk];exact v
  ·rw[Kh]at f;rw[f]at n;rw[uE (by simp[f]),cB];refine Bj t n (j c I m (sG l) ?_ (λa h=>k a (.tail _ h)) (λa h=>r a (.tail _ h)) λa h=>s a (.tail _ h));rw[pr]at d ⊢;exact⟨d.1,(gu.mp d.2.1).2,λa E b k=>d.2.2 a E b (.tail _ k)⟩
end
def dF(a:List T):Prop:=∀ t∈a,kE t
theorem dF.nil:dF []:=λ_ h=>nomatch h
theorem dF.app{a b:List T}(c:dF a)(d:dF b):dF (a++b):=λt h=>by
 rcases fQ.mp h with h|h
 ·exact c t h
 ·exact d t h
theorem dF.one{t:T}(h:kE t):dF [t]:=λu a=>by rw[jd]at a;exact a▸h
noncomputable def dS(o:Od)(p:Nat×V3):T:=.tup [.int (bH o p.2),dr p.2,.int (p.1:Int)]
noncomputable def bR(v:V3)(l:Dc):T:=.tup [.int v.r,.int v.g,.int v.b,.int (v.r+v.g+v.b),.dct (bp tB l)]
noncomputable def iW(o:Od)(p q:Nat×V3):Nat×V3:=if bH o p.2<bH o q.2 then q else p
noncomputable def oE(s:Int):T:=.tup [.lst [.int s,.bool false],.lst [.int s,.bool false]]
theorem UA(s:Int):kE (oE s):=(iz _ _ rfl (by
 show(true&&[(T.int s,T.int s),(T.bool false,T.bool false)].all λp=>eqT 5 p.1 p.2)=true;have:eqT 5 (T.int s) (T.int s)=true:=by show(s==s)=true;simp
 simp only[gX,this];rfl))
theorem F6(a b:Int):dn .Sub (.bool (decide (b<a))) (.bool (decide (a<b)))=some (.int (eR a b)):=rfl
theorem Ui{o:Od}(k:o.Ok){O:List S}{Y:List T}{p q:Nat×V3}(f:O.length=52)(h4:O[4]?=some .nts)(g:O[21]?=some (.v (.inst (cO o))))(c:O[32]?=some (.v (dS o p)))(d:O[33]?=some (.v (dS o q)))
  (l:p.2.Ok) (hq:q.2.Ok) (i:Y.length<=1000000) :
  sN O Y=some (.nx,(O.set 34 (.v (.int (eR (bH o q.2) (bH o p.2))))).set 32 (.v (dS o (iW o p q))),Y++[oE (eR (bH o q.2) (bH o p.2))]):=by
 have a1:bW (aO 52) (.nm 34) (s9 (dV 21) [aR (dV 33) (dK (.int 1)),aR (dV 32) (dK (.int 1))] (cf mO 3 me)) O Y=some (.nx,O.set 34 (.v (.int (eR (bH o q.2) (bH o p.2)))),Y):=
  ef (FZ (aM g rfl) (bN (bM (aM d rfl) be rfl rfl) (bN (bM (aM c rfl) be rfl rfl) cv)) (E9 k hq l Y)) rfl (cC rfl (l0 f rfl))
 have e:(O.set 34 (.v (.int (eR (bH o q.2) (bH o p.2)))))[34]?=some (.v (.int (eR (bH o q.2) (bH o p.2)))):=bS (l0 f rfl);have a:(O.set 34 (.v (.int (eR (bH o q.2) (bH o p.2)))))[32]?=some (.v (dS o p)):=aW rfl c;have b:(O.set 34 (.v (.int (eR (bH o q.2) (bH o p.2)))))[33]?=some (.v (dS o q)):=aW rfl d;unfold sN oE;refine bz a1 (bz (kU (eD (bQ (gn (bQ (aM e rfl) rfl (bQ (rU (aM e rfl) rfl rfl) rfl df))) rfl (bQ (gn (bQ (bV (kO (bM (aM b rfl) be rfl rfl) rfl (bM (aM a rfl) be rfl rfl) rfl rfl) rfl (kO (bM (aM b rfl) be rfl rfl) rfl (bM (aM a rfl) be rfl rfl) rfl rfl) rfl (F6 _ _)) rfl (bQ be rfl df))) rfl df))) rfl (aW rfl h4) i)
  (bz (ef (t:=dS o (iW o p q)) (x:=.v (dS o (iW o p q))) ?_ rfl (cC rfl (l1 f rfl))) dT))
 have j:∀ Y,tC .Gt (aR (dV 33) (dK (.int 0))) (aR (dV 32) (dK (.int 0))) _ Y=some (decide (bH o p.2<bH o q.2),Y):=λY=>jm (bM (aM b rfl) be rfl rfl) rfl (bM (aM a rfl) be rfl rfl) rfl rfl;unfold iW;by_cases h:bH o p.2<bH o q.2
 ·rw[if_pos h];exact yD (by rw[j,decide_eq_true h]) (aM b rfl)
 ·rw[if_neg h];exact Ag (by rw[j,decide_eq_false h]) (aM a rfl)
noncomputable def iA(o:Od)(p:Nat×V3)(a:List (Nat×V3)):Nat×V3:=a.foldl (iW o) p
theorem SG{o:Od}(m:o.Ok):∀ (f:List (Nat×V3)) (p:Nat×V3) (O:List S) (Y:List T),O.length=52->O[4]?=some .nts->O[21]?=some (.v (.inst (cO o)))->O[32]?=some (.v (dS o p))->p.2.Ok->(∀ q∈f,q.2.Ok)->Y.length+f.length<=1000000->
  ∃ U b,em (bU (aO 52) (.nm 33)) sN (f.map (dS o)) O Y=some (.nx,U,Y++b)/\bf [32,33,34] O U/\U[32]?=some (.v (dS o (iA o p f)))/\dF b/\b.length=f.length:=by
 intro i;induction i with
 |nil=>
  intro p O Y g h4 c d j hq a;exact(qd O [] (by rw[gW];rfl) (.refl O) d .nil rfl)
 |cons q f k=>
  intro p O Y g h4 c d j hq a;refine aQ λn=>?_;simp only[cK]at a;have r:=Ui (O:=O.set 33 (.v (dS o q))) m (p:=p) (q:=q) (Y:=Y) (by rw[fH];exact g) (aW rfl h4) (aW rfl c) (aW rfl d) (bS (xm g)) j (hq q (.head _)) (km a);have sm:bf [32,33,34] O (((O.set 33 (.v (dS o q))).set 34 (.v (.int (eR (bH o q.2) (bH o p.2))))).set 32 (.v (dS o (iW o p q)))):=(((bf.refl O).set rfl _).set rfl _).set rfl _;have l:(iW o p q).2.Ok:=by unfold iW;split;exact hq q (.head _);exact j
  refine nE (k (iW o p q) _ (Y++[oE (eR (bH o q.2) (bH o p.2))]) (sm.len g) (sm.get h4 rfl) (sm.get c rfl) (bS (by simp only[fH];exact IM g)) l (λq h=>hq q (.tail _ h)) (by rw[cU];simp;exact mZ a)) λU b h1 h2 h3 h5 h6=>n (qd U (oE (eR (bH o q.2) (bH o p.2))::b) ?_ (sm.trans h2) h3 ?_ (by simp[h6]))
  ·have e:Y++oE (eR (bH o q.2) (bH o p.2))::b=Y++[oE (eR (bH o q.2) (bH o p.2))]++b:=by simp
   rw[e];exact gk (cC rfl (xm g)) r h1
  ·exact(dF.one (UA _)).app h5
theorem ox{e:V3->T}{l:Dc}{k:Nat}(h:has l k=true):(X.v (.dct (bp e l))).item (.int (k:Int))=some (e (val l k)):=by
 show i6 _ _=_;rw[Bw,if_pos h]
theorem zc{l:Dc}(c:(keys l).Nodup){a:Nat×V3}(h:a∈l):val l a.1=a.2:=by
 induction l with
 |nil=>cases h
 |cons p l d=>
  have b:p.1∉keys l/\(keys l).Nodup:=gu.mp c;rw[show p::l=(p.1,p.2)::l from rfl,gR];rcases bP.mp h with rfl|h
  ·rw[if_pos rfl]
  ·rw[if_neg λ(q:p.1=a.1)=>b.1 (by rw[q];exact Kk h),d b.2 h]
theorem AP{l:Dc}{a:Nat×V3}(h:a∈l):has l a.1=true:=lh.mpr (Kk h)
theorem Dl(e:V3->T)(l:Dc):(bp e l).map (λp=>T.int p.1)=l.map λa=>T.int (a.1:Int):=by unfold bp;rw[il];rfl
theorem hJ{σ0:List S}(a:σ0.length=52){t:T}:∀ O,bf [49] σ0 O->∃ I,bU [49] (.nm 49) t O=some I/\bf [49] σ0 I/\I[49]?=some (.v t):=λO h=>
 (cI (O.set 49 (.v t)) (cC rfl (l0 (h.len a) rfl)) (h.set rfl _) (bS (l0 (h.len a) rfl)))
theorem ni(a b:List Nat):bv (a++b)=bv a++bv b:=mJ
theorem eV{O:List S}{i:Nat}(h:O[i]?=some .no):k8 [i] O=true:=lu h L5
theorem ic{J:Type}(l:List J):l.filter (λ_=>true)=l:=by induction l with|nil=>rfl|cons a l b=>rw[rS rfl,b]
theorem zl{l:Dc}:l.map (λa=>(a.1,a.2))=l:=Jm l
theorem Hy{O:List S}{Y:List T}{i:Nat}{l:Dc}(g:O.length=52)(hi:O[i]?=some (.v (.dct (bp tB l))))(hc:[49].contains i=false)(b:O[49]?=some .no)(c:(keys l).Nodup)(h:l.length<=1000000):
  cM (cn [49] (.nm 49) (iK (dV i)) (λ_ Y=>some (true,Y)) (h9 (dV 49) (aR (aR (dV i) (dV 49)) (dK (.int 3)))) (.ownd [])) O Y=some (.frd (bp nB l),Y):=by
 refine fJ (S0:=.ownd (bp nB l)) (eJ (eV b) (DP (aM hi rfl) rfl rfl) ?_) rfl;rw[Dl];have:=zd (bind:=bU [49] (.nm 49)) (test:=λ_ Y=>some (true,Y)) (fk:=dV 49) (fv:=aR (aR (dV i) (dV 49)) (dK (.int 3))) (Y:=Y) nB (λa:Nat×V3=>T.int (a.1:Int)) (λ_=>true) (λa=>a.1) (λa=>a.2) (bf [49] O) (λa I=>I[49]?=some (.v (.int (a.1:Int))))
  l [] O (.refl O) (by simpa using h) c (λa _=>hJ g) (λ_ _ _ _ _=>rfl) (λa d I j f _=>(qX _ (.v (nB a.2)) (aM f rfl) rfl ?_ rfl))
 ·rw[ic,zl]at this;exact this
 ·have h1:=ox (e:=tB) (AP d);rw[zc c d]at h1;exact bM (bM (aM (j.get hi hc) rfl) (aM f rfl) rfl h1) be rfl rfl
theorem Wx{o:Od}(C:o.Ok){σ0:List S}{L:List Nat}{lt:Dc}(A:σ0.length=52)(h4:σ0[4]?=some .nts)(q:σ0[17]?=some (.v (cO o)))(r:σ0[26]?=some (.own (bv L)))(u:σ0[27]?=some (.v (.dct (bp tB lt)))):
  ∀ (i:List Nat) (a:List T) (O:List S) (Y:List T),bf [49] σ0 O->(∀ k∈i,k∉L->has lt k=true/\(val lt k).Ok)->Y.length+i.length<=1000000->a.length+i.length<=1000000->
  ∃ b,iv (bU [49] (.nm 49)) sQ (cF zO) (bv i) O Y (.own a)=some (.own (a++(i.filter (λk=>!L.contains k)).map λk=>dS o (k,val lt k)),Y++b)/\dF b/\b.length<=i.length:=by
 intro v;induction v with
 |nil=>
  intro a O Y _ _ _ _;exact(cI [] (by simp only[Kl,rO,gW];rfl) .nil (cu _))
 |cons k i l=>
  intro a O Y hs hk c n;simp only[cK]at c n;have j:bf [49] σ0 (O.set 49 (.v (.int (k:Int)))):=hs.set rfl _;have w:(O.set 49 (.v (.int (k:Int))))[49]?=some (.v (.int (k:Int))):=bS (l0 (hs.len A) rfl);have B:bU [49] (.nm 49) (T.int (k:Int)) O=some (O.set 49 (.v (.int (k:Int)))):=cC rfl (l0 (hs.len A) rfl);have d:∀ Y,sQ (O.set 49 (.v (.int (k:Int)))) Y=some (!L.contains k,Y):=λY=>by
   have:=F9 (neg:=true) (f:=dV 49) (g:=dV 26) (Y:=Y) (aM w rfl) rfl (aM (j.get r rfl) rfl) (TD 26 L k);rw[JN]at this;exact this
  by_cases m:L.contains k=true
  ·rw[uE (by simpa using m)];have d:=d Y;rw[m]at d;exact ej (l a _ Y j (λk h=>hk k (.tail _ h)) (sG c) (sG n)) λb h1 h2 h3=>(cI b (Bj B d h1) h2 (by simp only[cK];exact Db h3))
  ·have y:L.contains k=false:=by simpa using m
   rw[rS (by simpa using m),cB];have d:=d Y;rw[y]at d;refine aQ λD=>bn (hk k (.head _) (by simpa using m)) λE F=>?_;have G:=VH C F Y (km c);refine ej (l (a++[dS o (k,val lt k)]) _ (Y++[.tup [.lst [.int ((val lt k).r+(val lt k).g+(val lt k).b),.bool true,.bool true],.lst [.int ((val lt k).r+(val lt k).g+(val lt k).b),.bool true,.bool true]]]) j (λk h=>hk k (.tail _ h)) (by rw[cU];simp;exact mZ c) (by rw[cU];simp;exact mZ n)) λb h1 h2 h3=>D (cI (.tup [.lst [.int ((val lt k).r+(val lt k).g+(val lt k).b),.bool true,.bool true],.lst [.int ((val lt k).r+(val lt k).g+(val lt k).b),.bool true,.bool true]]::b) ?_ ((dF.one (iz _ _ rfl ?_)).app h2) (by simp only[cK];exact vg h3))
   ·have e:Y++.tup [.lst [.int ((val lt k).r+(val lt k).g+(val lt k).b),.bool true,.bool true],.lst [.int ((val lt k).r+(val lt k).g+(val lt k).b),.bool true,.bool true]]::b=Y++[.tup [.lst [.int ((val lt k).r+(val lt k).g+(val lt k).b),.bool true,.bool true],.lst [.int ((val lt k).r+(val lt k).g+(val lt k).b),.bool true,.bool true]]]++b:=by simp
    rw[e];rw[eO]at h1;refine kM B d (wx (t:=dS o (k,val lt k)) (x:=.v (dS o (k,val lt k))) ?_ rfl (km n)) h1;refine' te (db (bN (bM (aM (j.get u rfl) rfl) (aM w rfl) rfl (ox E)) (bN (aM (j.get q rfl) rfl) (bN (aM (j.get h4 rfl) rfl) cv))) G) (eD (bQ (aM w rfl) rfl df)) rfl rfl ?z
    case z=>simp
   ·generalize (val lt k).r+(val lt k).g+(val lt k).b=s;show(true&&[(T.int s,T.int s),(T.bool true,T.bool true),(T.bool true,T.bool true)].all λp=>eqT 5 p.1 p.2)=true;have:eqT 5 (T.int s) (T.int s)=true:=by show(s==s)=true;simp
    simp only[gX,this];rfl
theorem iC(L:List Nat):(bv L).length=L.length:=dm _
theorem abI{o:Od}(ho:o.Ok){O:List S}{Y:List T}{B:List T}{L A:List Nat}{x:Nat}{u:V3}{l lt:Dc}{i:S}{q:Nat}{d:List Nat}
  (e:O.length=52) (h4:O[4]?=some .nts) (h6:O[6]?=some (.own B)) (hB:B[x]?=some (bR u l)) (J:B.length<=1000000) (K:O[17]?=some (.v (cO o))) (M:O[21]?=some (.v (.inst (cO o)))) (N:O[22]?=some (.own (bv A)))
  (w:O[26]?=some (.own (bv (L++[x])))) (P:O[27]?=some (.v (.dct (bp tB lt)))) (Q:O[28]?=some (.v (.dct (bp nB lt)))) (R:O[31]?=some i) (hS:i.isOwnB=false) (y:O[49]?=some .no)
  (hn:(keys lt).Nodup) (V:(keys l).Nodup) (W:lt.length+l.length<=1000000)
  (z:∀ k∈A,k∉L++[x]->has (ac lt l) k=true/\(val (ac lt l) k).Ok)
  (hA:A.filter (λk=>!(L++[x]).contains k)=q::d) (f:A.length<=1000) (X:L.length<=1000) (C:Y.length+3000<=1000000) :
  ∃ U Z,tW O Y=some (.nx,U,Y++Z)/\bf [26,27,28,30,31,32,33,34] O U/\
   U[26]?=some (.own (bv (L++[x]++[(iA o (q,val (ac lt l) q) ((q::d).map λk=>(k,val (ac lt l) k))).1])))/\
   U[27]?=some (.v (.dct (bp tB (ac lt l))))/\U[28]?=some (.v (.dct (bp nB (ac lt l))))/\(∃ S,U[31]?=some S/\S.isOwnB=false)/\
   U[32]?=some (.v (dS o (iA o (q,val (ac lt l) q) ((q::d).map λk=>(k,val (ac lt l) k)))))/\dF Z/\Z.length<=2000:=by
 have a0:bv (L++[x])=bv L++[T.int (x:Int)]:=ni _ _;have a7:(L++[x]).length<=1001:=by rw[cU];simp;exact VZ X
 have a1:bW (aO 52) (.nm 30) (aR (aR (dV 6) (aR (dV 26) (gT (dK (.int 1))))) (dK (.int 4))) O Y=some (.nx,O.set 30 (.v (.dct (bp tB l))),Y):=by
  refine ef (t:=.dct (bp tB l)) (bM (bM (aM h6 rfl) (bM (aM w rfl) (qS be rfl) rfl ?_) rfl (gU hB J)) be rfl rfl) rfl (cC rfl (l0 e rfl));rw[a0];exact item_last
 have s:bf [26,27,28,30,31,32,33,34] O (O.set 30 (.v (.dct (bp tB l)))):=(bf.refl O).set rfl _;have D:(O.set 30 (.v (.dct (bp tB l))))[30]?=some (.v (.dct (bp tB l))):=bS (l0 e rfl);have a8:(O.set 30 (.v (.dct (bp tB l))))[26]?=some (.own (bv (L++[x]))):=aW rfl w;have a9:(O.set 30 (.v (.dct (bp tB l))))[27]?=some (.v (.dct (bp tB lt))):=aW rfl P;have aa:(O.set 30 (.v (.dct (bp tB l))))[28]?=some (.v (.dct (bp nB lt))):=aW rfl Q;have ab:(O.set 30 (.v (.dct (bp tB l))))[31]?=some i:=aW rfl R;generalize O.set 30 (.v (.dct (bp tB l)))=I at*;have a2:gz (aO 52) [27,28] false [bL [dV 27,dV 30] (cf jY 2 jX),bL [dV 28,jR (cM (cn [49] (.nm 49) (iK (dV 30)) (λ_ Y=>some (true,Y)) (h9 Eu FP) (.ownd [])))] (cf jY 2 jX)] I Y
   = some (.nx,(I.set 27 (.v (.dct (bp tB (ac lt l))))).set 28 (.v (.dct (bp nB (ac lt l)))),Y):=by
  have hc:=Hy (Y:=Y) (s.len e) D rfl (s.get y rfl) V (acP W);refine Aa (bN (db (bN (aM a9 rfl) (bN (aM D rfl) cv)) (uJ As hn W _ _ rfl rfl)) (bN (db (bN (aM aa rfl) (bN (xw hc rfl) cv)) (uJ TP hn W _ _ rfl rfl)) cv)) rfl (qL rfl (l0 (s.len e) rfl)) (qL rfl (l1 (s.len e) rfl))
 have n:bf [26,27,28,30,31,32,33,34] O ((I.set 27 (.v (.dct (bp tB (ac lt l))))).set 28 (.v (.dct (bp nB (ac lt l))))):=(s.set rfl _).set rfl _;have E:((I.set 27 (.v (.dct (bp tB (ac lt l))))).set 28 (.v (.dct (bp nB (ac lt l)))))[27]?=some (.v (.dct (bp tB (ac lt l)))):=aW rfl (bS (l0 (s.len e) rfl));have ad:((I.set 27 (.v (.dct (bp tB (ac lt l))))).set 28 (.v (.dct (bp nB (ac lt l)))))[28]?=some (.v (.dct (bp nB (ac lt l)))):=bS (l1 (s.len e) rfl);have F:((I.set 27 (.v (.dct (bp tB (ac lt l))))).set 28 (.v (.dct (bp nB (ac lt l)))))[26]?=some (.own (bv (L++[x]))):=aW rfl (aW rfl a8);have ae:((I.set 27 (.v (.dct (bp tB (ac lt l))))).set 28 (.v (.dct (bp nB (ac lt l)))))[31]?=some i:=aW rfl (aW rfl ab);generalize (I.set 27 (.v (.dct (bp tB (ac lt l))))).set 28 (.v (.dct (bp nB (ac lt l))))=a at*;refine aQ λnG=>ej (Wx ho (n.len e) (n.get h4 rfl) (n.get K rfl) F E A [] a Y (.refl a) z (WD f C) (by simp;exact dR f)) λb r1 r2 r3=>nG ?_;rw[hA,eE]at r1;have g:(q::d).length<=A.length:=by rw[<- hA];exact Km _ _
 have r:∀ k∈q::d,(val (ac lt l) k).Ok:=λk hk=>by
  rw[<- hA,uF]at hk;exact(z k hk.1 (by simpa using hk.2)).2
 have a3:jD 31 (jU (aO 52) 31 (cn [49] (.nm 49) (iL (some 22) (dV 22)) sQ (cF zO) (.own []))) a Y=some (.nx,a.set 31 (.v (.lst ((q::d).map λk=>dS o (k,val (ac lt l) k)))),Y++b):=
  tT ae hS (eJ (eV (n.get y rfl)) (ie (aM (n.get N rfl) rfl) rfl rfl) r1) rfl rfl (l0 (n.len e) rfl)
 have s3:bf [26,27,28,30,31,32,33,34] O (a.set 31 (.v (.lst ((q::d).map λk=>dS o (k,val (ac lt l) k))))):=n.set rfl _;have v:(a.set 31 (.v (.lst ((q::d).map λk=>dS o (k,val (ac lt l) k)))))[31]?=some (.v (.lst ((q::d).map λk=>dS o (k,val (ac lt l) k)))):=bS (l0 (n.len e) rfl);have af:(a.set 31 (.v (.lst ((q::d).map λk=>dS o (k,val (ac lt l) k)))))[26]?=some (.own (bv (L++[x]))):=aW rfl F;have ag:(a.set 31 (.v (.lst ((q::d).map λk=>dS o (k,val (ac lt l) k)))))[27]?=some (.v (.dct (bp tB (ac lt l)))):=aW rfl E;have ah:(a.set 31 (.v (.lst ((q::d).map λk=>dS o (k,val (ac lt l) k)))))[28]?=some (.v (.dct (bp nB (ac lt l)))):=aW rfl ad;generalize an:a.set 31 (.v (.lst ((q::d).map λk=>dS o (k,val (ac lt l) k))))=h at*;have a4:bW (aO 52) (.nm 32) (aR (dV 31) (dK (.int 0))) h (Y++b)=some (.nx,h.set 32 (.v (dS o (q,val (ac lt l) q))),Y++b):=by
  refine ef (bM (aM v rfl) be rfl ?_) rfl (cC rfl (l0 (s3.len e) rfl));exact wg rfl (yB (j:=0) rfl (by rw[dm];exact HQ f g))
 have H:bf [26,27,28,30,31,32,33,34] O (h.set 32 (.v (dS o (q,val (ac lt l) q)))):=s3.set rfl _;obtain⟨c,m,b1,G,b3,b4,b5⟩:=SG ho ((q::d).map λk=>(k,val (ac lt l) k)) (q,val (ac lt l) q) (h.set 32 (.v (dS o (q,val (ac lt l) q)))) (Y++b) (H.len e) (H.get h4 rfl) (H.get M rfl) (bS (l0 (s3.len e) rfl)) (r q (.head _))
  (λp hp=>by refine aV (eh.mp hp) λk hk y2=>?_;subst y2;exact r k hk) (by rw[cU,dm];exact MQ f C r3 g)
 have s5:bf [26,27,28,30,31,32,33,34] O c:=H.trans (G.mono (by decide));have ai:c[26]?=some (.own (bv (L++[x]))):=G.get (aW rfl af) rfl;have aj:c[27]?=some (.v (.dct (bp tB (ac lt l)))):=G.get (aW rfl ag) rfl;have ak:c[28]?=some (.v (.dct (bp nB (ac lt l)))):=G.get (aW rfl ah) rfl;have al:c[31]?=some (.v (.lst ((q::d).map λk=>dS o (k,val (ac lt l) k)))):=G.get (aW rfl v) rfl;have a5:fe (aO 52) (.nm 33) (iL none (dV 31)) sN (h.set 32 (.v (dS o (q,val (ac lt l) q)))) (Y++b)=some (.nx,c,Y++b++m):=by
  refine iw (ie (aM (aW rfl v) rfl) rfl rfl) ?_;rw[il]at b1;exact b1
 generalize iA o (q,val (ac lt l) q) ((q::d).map λk=>(k,val (ac lt l) k))=p at*;have a6:dM 26 (aR (dV 32) (dK (.int 2))) c (Y++b++m)=some (.nx,c.set 26 (.own (bv (L++[x])++[T.int (p.1:Int)])),Y++b++m):=
  pR (bM (aM b3 rfl) be rfl rfl) rfl ai (by rw[iC];exact OZ a7)
 refine⟨c.set 26 (.own (bv (L++[x])++[T.int (p.1:Int)])),b++m,?_,s5.set rfl _,?_,aW rfl aj,aW rfl ak,⟨_,aW rfl al,rfl⟩,aW rfl b3,r2.app b4,?_⟩
 ·unfold tW;rw[<- eO];exact bz a1 (bz a2 (bz a3 (bz a4 (bz a5 (bz a6 dT)))))
 ·rw[ni (L++[x])];exact bS (l0 (s5.len e) rfl)
 ·rw[cU,b5,dm];exact Si f r3 g
noncomputable def sv:List Nat->(Nat->V3)->V3
 |[],_=>v0
 |x::L,f=>cq (f x) (sv L f)
theorem YC{f:Nat->V3}{x:Nat}{L:List Nat}:sv (x::L) f=cq (f x) (sv L f):=rfl
theorem fK{c:V3->Int}(hc:i9 c)(L:List Nat)(f:Nat->V3):c (sv L f)=sm L (λx=>c (f x)):=by
 induction L with
 |nil=>exact hc.z
 |cons x L b=>rw[YC,hc.a,b];rfl
theorem wP(o:Od):i9 (bH o) where
 z:=by
  unfold bH v0 V3.w;simp only[oY,Int.mul_zero,Int.sub_self,ite_self]
 a x y:=by
  have hw:∀ k,(cq x y).w k=x.w k+y.w k:=λk=>by
   unfold V3.w cq;dsimp only;repeat' split;all_goals lia
  unfold bH;have b:=Kn o.s1 (x.w o.k1) (y.w o.k1);have c:=Kn o.s2 (x.w o.k2) (y.w o.k2);rw[hw,hw,b,c];unfold cq;dsimp only;exact Nw
theorem No{L:List Nat}{f:Nat->V3}{v:V3}(h:∀ c,i9 c->c v=sm L (λx=>c (f x))):v=sv L f:=
 rZ (by rw[fK BL];exact h _ BL) (by rw[fK zQ];exact h _ zQ) (by rw[fK zT];exact h _ zT)
def jE(c:V3->Int):Prop:=c=V3.r\/c=V3.g\/c=V3.b
theorem jE.lin{c:V3->Int}(h:jE c):i9 c:=by
 rcases h with h|h|h
 ·rw[h];exact BL
 ·rw[h];exact zQ
 ·rw[h];exact zT
theorem om{a b:V3}(h:∀ c,jE c->c a=c b):a=b:=rZ (h _ (.inl rfl)) (h _ (.inr (.inl rfl))) (h _ (.inr (.inr rfl)))
theorem BO{v:V3}(h:∀ c,jE c->0<=c v/\c v<=45):v.Ok:=
 ⟨(h _ (.inl rfl)).1,(h _ (.inl rfl)).2,(h _ (.inr (.inl rfl))).1,(h _ (.inr (.inl rfl))).2,(h _ (.inr (.inr rfl))).1,(h _ (.inr (.inr rfl))).2⟩
theorem zW:∀ {R A:List Nat},R.Nodup->(∀ x∈R,x∈A)->∃ C,A.Perm (R++C):=by
 intro a;induction a with
 |nil=>
  intro A _ _;exact⟨A,.refl _⟩
 |cons x R b=>
  intro A e hs;have c:=gu.mp e;have f:=hs x (.head _);exact aU (b (A:=A.erase x) c.2 λy d=>(uD (λq=>by subst q;exact c.1 d)).mpr (hs y (.tail _ d))) λC hC=>⟨C,(lN f).trans (hC.cons x)⟩
structure jS (A:List Nat) (w:Nat->Nat->V3) (bk:Nat->V3×Dc):Prop where
 nd:A.Nodup
 sy:∀ i j,w i j=w j i
 dg:∀ i,w i i=v0
 nn:∀ c,jE c->∀ i j,0<=c (w i j)
 tt:∀ c,jE c->tot (λi j=>c (w i j)) A<=45
 kn:∀ n∈A,(keys (bk n).2).Nodup
 ks:∀ n∈A,∀ k,k∈keys (bk n).2↔k∈A/\k≠n
 vl:∀ n∈A,∀ k∈A,val (bk n).2 k=w n k
 dv:∀ n∈A,(bk n).1=sv A (w n)
theorem oe{R A:List Nat}(a:R.Nodup)(hs:∀ x∈R,x∈A):R.length<=A.length:=by
 refine aU (zW a hs) λC h=>?_;rw[h.length_eq,cU];exact(dI _ _)
theorem jS.ok{A:List Nat}{w:Nat->Nat->V3}{a:Nat->V3×Dc}(h:jS A w a){R:List Nat}{y:Nat}(b:(y::R).Nodup)(hs:∀ x∈y::R,x∈A):(sv R (λu=>w u y)).Ok:=by
 refine BO λc hc=>?_;rw[fK hc.lin];refine aU (zW b hs) λC d=>⟨qk λu=>h.nn c hc u y,?_⟩;have:=IL (W:=λi j=>c (w i j)) (h.nn c hc) (λi j=>by rw[h.sy]) d;exact fD this (h.tt c hc)
theorem VI(o:Od):∀ (a:List (Nat×V3)) (p:Nat×V3),iA o p a∈p::a/\bH o p.2<=bH o (iA o p a).2/\∀ q∈a,bH o q.2<=bH o (iA o p a).2:=by
 intro b;induction b with
 |nil=>
  intro p;exact⟨.head _,my _,λq h=>nomatch h⟩
 |cons q a c=>
  intro p;refine aQ λg=>bO (c (iW o p q)) λh1 h2 h3=>g ?_;have e:iA o p (q::a)=iA o (iW o p q) a:=rfl;rw[e];have f:bH o p.2<=bH o (iW o p q).2/\bH o q.2<=bH o (iW o p q).2:=by
   unfold iW;split<;>lia
  refine⟨?_,U3 h2 f,λr d=>?_⟩
  ·rcases bP.mp h1 with h|h
   ·rw[h];unfold iW;split
    ·exact .tail _ (.head _)
    ·exact .head _
   ·exact .tail _ (.tail _ h)
  ·rcases bP.mp d with rfl|d
   ·exact Qr h2 f
   ·exact h3 r d
structure Ln (o:Od) (A:List Nat) (w:Nat->Nat->V3) (L:List Nat) (x:Nat) (lt:Dc):Prop where
 nd:(L++[x]).Nodup
 su:∀ y∈L++[x],y∈A
 ma:Ma (λi j=>bH o (w i j)) A (x::L.reverse)
 kn:(keys lt).Nodup
 ks:∀ k∈keys lt,k∈A
 vl:∀ y∈A,val lt y=sv L (λu=>w u y)
theorem Xl{o:Od}(e:o.Ok){v:V3}(h:∀ c,jE c->0<=c v):0<=bH o v:=by
 have h0:=h _ (.inl rfl);have h1:=h _ (.inr (.inl rfl));have h2:=h _ (.inr (.inr rfl));refine aQ λf=>?_;obtain⟨a,i,d,j⟩:=o;obtain⟨p1,p2,p3,p4⟩:=e;refine f ?_;simp only at p1 p2 p3 p4;have a1:v.w a<=v.r+v.g+v.b/\0<=v.w a:=by rcases p1 with rfl|rfl|rfl<;>simp[V3.w]<;>lia
 have a2:v.w d<=10000*(v.r+v.g+v.b)/\-(10000*(v.r+v.g+v.b))<=v.w d:=by rcases p3 with rfl|rfl|rfl<;>simp[V3.w]<;>lia
 unfold bH;dsimp only;generalize v.w a=x at*;generalize v.w d=y at*;rcases p2 with rfl|rfl<;>rcases p4 with rfl|rfl<;>lia
theorem PG(L:List Nat)(x:Nat)(f:Nat->V3):sv (L++[x]) f=cq (sv L f) (f x):=by
 symm;apply No;intro c hc;rw[hc.a,fK hc,DX];first|exact congrArg _ (oY _)|exact congrArg _ (oY _).symm
structure qm (A:List Nat) (w:Nat->Nat->V3) (L:List Nat) (x:Nat) (lt:Dc):Prop where
 kn:(keys lt).Nodup
 ks:∀ k∈keys lt,k∈A
 vl:∀ y∈A,val lt y=sv (L++[x]) (λu=>w u y)
 ha:∀ k∈A,k≠x->has lt k=true
section
variable{o:Od}(ho:o.Ok){A:List Nat}{w:Nat->Nat->V3}{bk:Nat->V3×Dc}(hR:jS A w bk)
include hR
theorem K0{L:List Nat}{x:Nat}{lt:Dc}(h:Ln o A w L x lt):qm A w L x (ac lt (bk x).2):=by
 have a:x∈A:=h.su x (by simp);refine⟨qc _ h.kn,λk hk=>?_,λy c=>?_,λk hk b=>?_⟩
 ·rcases(qM _).mp hk with q|q
  ·exact h.ks k q
  ·exact((hR.ks x a k).mp q).1
 ·rw[vw _ _ (hR.kn x a),h.vl y c,hR.vl x a y c,PG]
 ·exact lh.mpr ((qM _).mpr (.inr ((hR.ks x a k).mpr ⟨hk,b⟩)))
theorem Mg{L:List Nat}{x:Nat}{lt fh:Dc}(h:Ln o A w L x lt)(b:qm A w L x fh){k:Nat}(hk:k∈A)(c:k∉L++[x]):has fh k=true/\(val fh k).Ok:=by
 refine⟨b.ha k hk λq=>c (q▸by simp),?_⟩;rw[b.vl k hk];exact hR.ok (gu.mpr ⟨c,h.nd⟩) λy a=>by
  rcases bP.mp a with rfl|a
  ·exact hk
  ·exact h.su y a
theorem Mb{L:List Nat}{x:Nat}{lt:Dc}(h:Ln o A w L x lt)(c:L.length+2<=A.length):∃ q a,A.filter (λk=>!(L++[x]).contains k)=q::a:=by
 cases e:A.filter (λk=>!(L++[x]).contains k)with
 |cons q a=>exact(dA q a rfl)
 |nil=>
  exfalso;have:A.length<=(L++[x]).length:=oe hR.nd λy b=>by
   have:=Ji.mp e y b;simp at this;rw[fQ,jd];exact Decidable.or_iff_not_imp_left.mpr this
  rw[cU]at this;simp at this;lia
include ho
theorem MJ{L:List Nat}{x:Nat}{lt fh:Dc}(h:Ln o A w L x lt)(g:qm A w L x fh){q:Nat}{f:List Nat}(e:A.filter (λk=>!(L++[x]).contains k)=q::f):
  Ln o A w (L++[x]) (iA o (q,val fh q) ((q::f).map λk=>(k,val fh k))).1 fh/\
  (iA o (q,val fh q) ((q::f).map λk=>(k,val fh k))).2=val fh (iA o (q,val fh q) ((q::f).map λk=>(k,val fh k))).1:=by
 refine aQ λv=>bO (VI o ((q::f).map λk=>(k,val fh k)) (q,val fh q)) λl D z=>v ?_;generalize iA o (q,val fh q) ((q::f).map λk=>(k,val fh k))=p at*;have r:p.1∈q::f/\p.2=val fh p.1:=by
  rcases bP.mp l with rfl|l
  ·exact⟨.head _,rfl⟩
  ·refine aV (eh.mp l) λk hk B=>?_;subst B;exact⟨hk,rfl⟩
 refine bn r λp1 p2=>?_;clear r;rw[<- e,uF]at p1;have pA:=p1.1;have s:p.1∉L++[x]:=by simpa using p1.2
 have key:∀ y∈A,bH o (val fh y)=sm (x::L.reverse) (λu=>bH o (w u y)):=λy d=>by
  rw[g.vl y d,fK (wP o)];refine ly ?_ _;have:(L++[x]).Perm (x::L):=Ko x L;exact this.trans ((Kp L).symm.cons x)
 have m:∀ y,y∉x::L.reverse->y∉L++[x]:=λy d q=>d (by
  rcases fQ.mp q with q|q
  ·exact .tail _ (CO.mpr q)
  ·rw[jd]at q;rw[q];exact .head _)
 refine⟨⟨?_,?_,?_,g.kn,g.ks,g.vl⟩,p2⟩
 ·rw[pr];refine⟨h.nd,by simp,?_⟩;intro a C b t;rw[jd]at t;subst t;rintro rfl;exact s C
 ·intro y d;rcases fQ.mp d with q|q
  ·exact h.su y q
  ·rw[jd]at q;rw[q];exact pA
 ·have:(p.1::(L++[x]).reverse)=p.1::x::L.reverse:=by simp
  rw[this];refine Ye (λi j=>Xl ho λc hc=>hR.nn c hc i j) h.ma pA (λq=>s ?_) λy d n=>?_
  ·rcases bP.mp q with q|q
   ·rw[q];simp
   ·exact fQ.mpr (.inl (CO.mp q))
  ·rw[<- key y d,<- key p.1 pA,<- p2];refine z (y,val fh y) (eh.mpr (aS y ?_ rfl));rw[<- e,uF];exact⟨d,by simpa using m y n⟩
structure Sl (o:Od) (A:List Nat) (B:List T) (O:List S):Prop where
 len:O.length=52
 s4:O[4]?=some .nts
 s6:O[6]?=some (.own B)
 s17:O[17]?=some (.v (cO o))
 s21:O[21]?=some (.v (.inst (cO o)))
 s22:O[22]?=some (.own (bv A))
 s49:O[49]?=some .no
omit ho hR in
theorem Sl.same{B:List T}{O U:List S}(h:Sl o A B O){is:List Nat}(hs:bf is O U)(hc:(is.all λi=>!([4,6,17,21,22,49].contains i))=true):Sl o A B U:=by
 have key:∀ j,[4,6,17,21,22,49].contains j=true->is.contains j=false:=λj a=>by
  cases q:is.contains j with
  |false=>rfl
  |true=>
   have:=c8.mp hc j (pe.mp q);rw[a]at this;cases this
 exact⟨hs.len h.len,hs.get h.s4 (key _ rfl),hs.get h.s6 (key _ rfl),hs.get h.s17 (key _ rfl),hs.get h.s21 (key _ rfl),hs.get h.s22 (key _ rfl),hs.get h.s49 (key _ rfl)⟩
theorem EM{B:List T}(X:∀ n∈A,B[n]?=some (bR (bk n).1 (bk n).2))(i:B.length<=1000000)(b:A.length<=6):
  ∀ (items:List T) (h:T) (L:List Nat) (x:Nat) (lt:Dc) (O:List S) (Y:List T),Ln o A w L x lt->A.length=L.length+2+items.length->Sl o A B O->
   O[26]?=some (.own (bv (L++[x])))->O[27]?=some (.v (.dct (bp tB lt)))->O[28]?=some (.v (.dct (bp nB lt)))->(∃ S,O[31]?=some S/\S.isOwnB=false)->Y.length+3000*(items.length+1)<=1000000->
   ∃ U y j u t fh,em (bU (aO 52) (.nm 29)) tW (h::items) O Y=some (.nx,U,Y++y)/\bf [26,27,28,29,30,31,32,33,34] O U/\(∃ z,Ln o A w j u z)/\qm A w j u fh/\
    t∈A/\t∉j++[u]/\A.length=j.length+2/\U[26]?=some (.own (bv (j++[u]++[t])))/\U[27]?=some (.v (.dct (bp tB fh)))/\U[28]?=some (.v (.dct (bp nB fh)))/\(∃ S,U[31]?=some S/\S.isOwnB=false)/\
    U[32]?=some (.v (dS o (t,val fh t)))/\dF y/\y.length<=2000*(items.length+1)
 |items,h,L,x,lt,O,Y,d,e,hs,C,D,E,l,c=>by
  have v:x∈A:=d.su x (by simp);have F:=K0 hR d;refine aQ λG=>gQ (Mb hR d (Nat.le.intro (id (Eq.symm e)))) λq H hq=>bn (MJ ho hR d F hq) λJ n2=>G ?_;have l1:lt.length<=6:=by have:=oe d.kn d.ks;unfold keys at this;rw[dm]at this;exact sA b this
  have l2:(bk x).2.length<=6:=by have:=oe (hR.kn x v) λk hk=>((hR.ks x v k).mp hk).1;unfold keys at this;rw[dm]at this;exact sA b this
  have m:bf [26,27,28,29,30,31,32,33,34] O (O.set 29 (.v h)):=(bf.refl O).set rfl _;have a:=hs.same m rfl;refine aV l λa0 r s=>?_;clear l;obtain⟨I,f,Z,r2,r3,r4,r5,r6,r7,r8,K⟩:=abI ho (O:=O.set 29 (.v h)) (Y:=Y) a.len a.s4 a.s6 (X x v) i a.s17 a.s21 a.s22 (aW rfl C) (aW rfl D) (aW rfl E) (aW rfl r) s a.s49 d.kn (hR.kn x v) (OA l1 l2)
   (λk hk hn=>Mg hR d F hk hn) hq (mU b) (MI b e) (LD c)
  have hb:bU (aO 52) (.nm 29) h O=some (O.set 29 (.v h)):=cC rfl (l0 hs.len rfl);have g:bf [26,27,28,29,30,31,32,33,34] O I:=m.trans (r2.mono (by decide));have pA:(iA o (q,val (ac lt (bk x).2) q) ((q::H).map λk=>(k,val (ac lt (bk x).2) k))).1∈A:=J.su _ (by simp);have pn:(iA o (q,val (ac lt (bk x).2) q) ((q::H).map λk=>(k,val (ac lt (bk x).2) k))).1∉L++[x]:=λhm=>by
   have:=J.nd;rw[pr]at this;exact this.2.2 _ hm _ (.head _) rfl
  generalize iA o (q,val (ac lt (bk x).2) q) ((q::H).map λk=>(k,val (ac lt (bk x).2) k))=p at*;have ep:p=(p.1,val (ac lt (bk x).2) p.1):=by rw[<- n2]
  match items,e,c with
  |[],e,c=>
   refine(wA I f L x p.1 _ ⟨gk hb Z Du,g,⟨lt,d⟩,F,pA,pn,(by simpa using e),r3,r4,r5,r6,?_,r8,(by simpa using K)⟩);rw[<- ep];exact r7
  |i1::items,e,c=>
   simp only[cK]at e c;refine aQ λG=>DH (EM X i b items i1 (L++[x]) p.1 _ I (Y++f) J (by rw[cU];simp;exact P4 e) (hs.same g rfl) r3 r4 r5 r6 (by rw[cU];exact MS ‹_› ‹_› K e)) λM N L2 x2 t2 nz f1 f2 f3 f4 f5 f6 f7 f8 f9 P Q R V W=>G (wA M (f++N) L2 x2 t2 nz ⟨?_,g.trans f2,f3,f4,f5,f6,f7,f8,f9,P,Q,R,r8.app V,(by rw[cU];simp only[cK];exact ZM K W)⟩);rw[<- eO];exact gk hb Z f1
end
theorem Wn(l:List T)(a b:T):iP (l++[a]++[b]) (some (-2)) none=[a,b]:=by
 have:=Ug (l++[a]++[b]) 2 (by simp) (by decide);rw[show(-((2:Nat):Int))=-2 from rfl]at this;rw[this,eO];have e:(l++([a]++[b])).length-2=l.length:=by simp
 rw[e,List.drop_left];rfl
theorem V1(l:List T)(b:T):iP (l++[b]) none (some (-1))=l:=by
 have:=GU (l++[b]) 1 (by simp) (by decide);rw[show(-((1:Nat):Int))=-1 from rfl]at this;rw[this];have e:(l++[b]).length-1=l.length:=by simp
 rw[e,List.take_left]
theorem LA(l:List T)(a b:T):iP (l++[a]++[b]) none (some (-2))=l:=by
 have:=GU (l++[a]++[b]) 2 (by simp) (by decide);rw[show(-((2:Nat):Int))=-2 from rfl]at this;rw[this,eO];have e:(l++([a]++[b])).length-2=l.length:=by simp
 rw[e,List.take_left]
theorem eq_int(n:Nat)(a:Int):eqT n (T.int a) (T.int a)=true:=by cases n<;>(show(a==a)=true;simp)
theorem Fm(n:Nat)(v:V3):eqT (n+1) (tB v) (tB v)=true:=by
 unfold tB;show(true&&[(T.int v.r,T.int v.r),(T.int v.g,T.int v.g),(T.int v.b,T.int v.b),(T.int (v.r+v.g+v.b),T.int (v.r+v.g+v.b))].all λp=>eqT n p.1 p.2)=true;simp only[gX,eq_int];rfl
theorem Eg{e:V3->T}{n:Nat}(c:∀ v,eqT n (e v) (e v)=true){l:Dc}(d:(keys l).Nodup):eqT (n+1) (.dct (bp e l)) (.dct (bp e l))=true:=by
 show((bp e l).length==(bp e l).length&&(bp e l).all λp=>xo (eqT n p.2) (i6 (bp e l) p.1))=true;rw[fg];refine⟨by simp,c8.mpr λp f=>?_⟩;refine aQ λg=>aV (eh.mp f) λa b h=>?_;subst h;refine g ?_;have h1:=Bw e l a.1;rw[if_pos (AP b),zc d b]at h1;simp only[h1];exact c _
theorem Xn(n:Nat)(v:V3):eqT n (nB v) (nB v)=true:=eq_int n _
theorem Lw:∀ (l:Dc) (a:S) (b:S) (c:Int) (Y:List T),∃ d,em (bU (aO 3) (.nm 2)) FS ((bp nB l).map λp=>p.2) [a,.v (.int c),b] Y=some (.nx,[a,.v (.int (c+iq V3.n l)),d],Y):=by
 intro f;induction f with
 |nil=>
  intro a b c Y;exact⟨b,by rw[show iq V3.n []=0 from rfl,oY];rfl⟩
 |cons g l h=>
  obtain⟨k,v⟩:=g;intro a b c Y;refine aU (h a (.v (nB v)) (c+v.n) Y) λy i=>⟨y,?_⟩;have e:c+iq V3.n ((k,v)::l)=c+v.n+iq V3.n l:=by show c+(v.n+_)=_;exact HC
  rw[e];exact gk (I:=[a,.v (.int c),.v (nB v)]) rfl (bz (KD rfl (aM rfl rfl) rfl rfl rfl (by simp)) dT) i
theorem Uj{l:Dc}{Y:List T}:cf oO 1 oM [.v (.dct (bp nB l))] Y=some (.v (.int (iq V3.n l)),Y):=by
 refine aU (Lw l (.v (.dct (bp nB l))) .no 0 Y) λy h=>?_;rw[xG]at h;refine' kq (σ0:=[_,.no,.no]) rfl rfl rfl ?h1 ?h2
 case h1=>
  unfold oM;refine' bz ?a1 (bz (iw (Qq (aM rfl rfl) rfl rfl) h) (ij (kh (aM rfl rfl))))
  case a1=>exact ef be rfl (cC rfl (by simp))
 case h2=>rfl
theorem BP{u v:V3}{l m:Dc}{Y:List T}(a:(keys l).Nodup)(c:l.length+m.length<=1000000):cf jq 2 jM [.v (bR u l),.v (bR v m)] Y=some (.v (bR (cq v u) (ac l m)),Y):=by
 unfold bR;rw[Se a c];have e:v.r+v.g+v.b+(u.r+u.g+u.b)=(cq v u).r+(cq v u).g+(cq v u).b:=by unfold cq;dsimp only;exact abK
 rw[e];rfl
theorem RH{A:List Nat}{t:Nat}(h:t∈A):∃ j,(bv A).findIdx? (oS (t:Int))=some j/\(bv A).eraseIdx j=bv (A.erase t):=by
 induction A with
 |nil=>cases h
 |cons a A d=>
  by_cases q:a=t
  ·subst q;refine(aS 0 ?_ ?_)
   ·unfold bv;rw[cB,Jw];have:oS (a:Int) (T.int (a:Int))=true:=by show((a:Int)==(a:Int))=true;simp
    rw[this];rfl
   ·rw[List.erase_cons_head];rfl
  ·have e:t∈A:=by
    rcases bP.mp h with h|h
    ·exact absurd h.symm q
    ·exact h
   refine aQ λf=>aV (d e) λj b c=>f (aS (j+1) ?_ ?_)
   ·unfold bv at b ⊢;rw[cB,Jw];have:oS (t:Int) (T.int (a:Int))=false:=by
     show((a:Int)==(t:Int))=false;rw[beq_eq_false_iff_ne];exact M4 q
    rw[this,b];rfl
   ·rw[List.erase_cons_tail (by simpa using q)];unfold bv at c ⊢;rw[cB,List.eraseIdx_cons_succ,c];rfl
theorem aaL{O:List S}{Y G:List T}{f:aP}{x:X}{i:Nat}{A:List Nat}{t:Nat}(a:f O Y=some (x,G))(b:x.t?=some (.int (t:Int)))(hi:O[i]?=some (.own (bv A)))(c:t∈A)(d:A.length<=1000000):
  rV i f O Y=some (.nx,O.set i (.own (bv (A.erase t))),G):=
 aV (RH c) λj e g=>aT a (aT b (aT rfl (aT hi (aT rfl (aT (Bz A) (aT e ((if_pos (by rw[iC];exact d)).trans (g▸rfl))))))))
theorem Yw{a:Int}:∀ (r:List Int),(∀ b∈r,a<=b)->Ii (a::r)=a:=by
 intro d;induction d with
 |nil=>
  intro _;exact rfl
 |cons b r e=>
  intro h;have f:=h b (.head _);show r.foldl _ (if b<a then b else a)=a;rw[if_neg (AD f)];exact e λc hc=>h c (.tail _ hc)
theorem ints_map{J:Type}(l:List J)(f:J->Int):ky (l.map λa=>T.int (f a))=some (l.map f):=by
 induction l with
 |nil=>rfl
 |cons a l b=>show(ky (l.map _)).map _=_;rw[b];rfl
theorem WG{J:Type}{a:J}{l:List J}{f:J->Int}{Y:List T}(h:∀ b∈l,f a<=f b):lZ [.fr ((a::l).map λa=>T.int (f a))] Y=some (.v (.int (f a)),Y):=by
 refine da (aT rfl (aT (ints_map (a::l) f) ((if_neg (List.cons_ne_nil _ _)).trans (congrArg (λm=>some (X.v (.int m))) (Yw _ λb d=>?_))))) rfl;exact aV (eh.mp d) λc hc e=>e▸h c hc
section
variable{O:List S}{Y:List T}(hl:O.length=52)
include hl
theorem Fs{A:List Nat}{i:Nat}(h:O[i]?=some (.own (bv A)))(a:A.length<=1000):bL [dV i] (cD iB) O Y=some (.v (.int (A.length:Int)),Y):=by
 refine db (bN (aM h rfl) cv) (gl ?_);show(if (bv A).length<=1000000 then some (X.v (T.int ((bv A).length:Int)))else none)=_;rw[if_pos (by rw[iC];exact dR a),iC]
theorem Vj{A:List Nat}{cV:Int}{a:Nat}(e:O[15]?=some (.v (.int cV)))(c:O[22]?=some (.own (bv A)))(f:O[25]?=some (.v (.int (a:Int))))(g:a<=4)(hA:0<A.length)(h:A.length<=6):
  ∃ x,x∈A/\gz (aO 52) [26,27,28] false [de [aR (dV 22) (dB .Mod (dB .FloorDiv (dB .FloorDiv (dV 15) (dK (.int 36))) (dB .Pow (dK (.int 6)) (dV 25))) (bL [dV 22] (cD iB)))],jR ((λO Y=>some (.frd [],Y))),jR ((λO Y=>some (.frd [],Y)))] O Y
   = some (.nx,((O.set 26 (.own (bv [x]))).set 27 (.v (.dct []))).set 28 (.v (.dct [])),Y):=by
 have i:∃ b:Int,(6:Int)^((a:Int)).toNat=b/\b≠0/\b.natAbs<2^64:=by
  have:a=0\/a=1\/a=2\/a=3\/a=4:=SO g;rcases this with rfl|rfl|rfl|rfl|rfl<;>exact(cI _ rfl (by decide) (by decide))
 refine aQ λm=>ej i λb n o p=>?_;clear i;refine m ?_;have k:(0:Int)<(A.length:Int):=Om hA;have h1:=adL ((cV.fdiv 36).fdiv b) k;have h2:=Int.fmod_lt_of_pos ((cV.fdiv 36).fdiv b) k;refine aU (yh h1) λj l=>?_;rw[l]at h2;have d:j<A.length:=C5 h2;have q:dB .FloorDiv (dB .FloorDiv (dV 15) (dK (.int 36))) (dB .Pow (dK (.int 6)) (dV 25)) O Y=some (.v (.int ((cV.fdiv 36).fdiv b)),Y):=by
  refine bV (bV (aM e rfl) rfl be rfl (nu (by decide) (by decide))) rfl (bV be rfl (aM f rfl) rfl (tQ (kB) (WI g) (by decide))) rfl ?_;rw[n];exact nu o p
 have r:dB .Mod (dB .FloorDiv (dB .FloorDiv (dV 15) (dK (.int 36))) (dB .Pow (dK (.int 6)) (dV 25))) (bL [dV 22] (cD iB)) O Y=some (.v (.int (j:Int)),Y):=by
  refine bV q rfl (Fs hl c (mU h)) rfl ?_;rw[ms (y8 hA),l]
 refine(aS (A[j]) (Ki d) (ND (bN (gn (bQ (bM (aM c rfl) r rfl (gU (t:=.int (A[j]:Int)) ?_ (by rw[iC];exact F1 h))) rfl df)) (bN (xw rfl rfl) (bN (xw rfl rfl) cv))) rfl (oL rfl (l0 hl rfl)) (qL rfl (l1 hl rfl)) (qL rfl (l2 hl rfl))));unfold bv;rw[fR,gv d];rfl
theorem KL{A:List Nat}(a:O[22]?=some (.own (bv A)))(hA:2<=A.length)(c:A.length<=6):∃ d items,iR (dB .Sub (bL [dV 22] (cD iB)) (dK (.int 1))) O Y=some (d::items,Y)/\items.length+2=A.length:=by
 refine aQ λg=>?_;obtain⟨n,b⟩:∃ n,A.length=n+2:=⟨A.length-2,Th hA⟩;refine g ?_;have e:=jJ (O:=O) (Y:=Y) (f:=dB .Sub (bL [dV 22] (cD iB)) (dK (.int 1))) (n:=((n+1:Nat):Int)) (G:=Y) (x:=.v (.int ((n+1:Nat):Int))) ?_ rfl (ZV c b)
 ·rw[mH,ado,cB]at e;exact(iz _ _ e (by simp;exact T9 b))
 ·refine bV (Fs hl a (mU c)) rfl be rfl ?_;rw[b];show some (T.int _)=some (T.int _);congr 2;exact NJ
theorem Er{l:List T}{a b:Nat}(c:O[26]?=some (.own (l++[.int (a:Int)]++[.int (b:Int)])))(d:l.length<=1000):hH (dV 26) (some (gT (dK (.int 2)))) none O Y=some (.fr [.int (a:Int),.int (b:Int)],Y):=
 sp (aM c rfl) (tx (qS be rfl) rfl) tJ rfl (by simp;exact ac0 d) (Wn _ _ _)
theorem QS{l:List T}{a b:Nat}(c:O[26]?=some (.own (l++[.int (a:Int)]++[.int (b:Int)])))(d:l.length<=1000):
  bW (aO 52) (.tp [(.nm 35),(.nm 36)]) (hH (dV 26) (some (gT (dK (.int 2)))) none) O Y=some (.nx,(O.set 35 (.v (.int (a:Int)))).set 36 (.v (.int (b:Int))),Y):=
 ef (Er hl c d) rfl (OX (h7 (cC rfl (l0 hl rfl)) (h7 (cC rfl (l1 hl rfl)) n6)))
noncomputable def jB(o:Od)(v:V3)(m:Nat):T:=.tup [.int (bH o v),dr v,tB v,.int (m:Int)]
theorem K3{o:Od}{t m:Nat}{lt:Dc}{c d:List T}(e:O[23]?=some (.own c))(f:O[24]?=some (.own d))(g:O[27]?=some (.v (.dct (bp tB lt))))(a:O[32]?=some (.v (dS o (t,val lt t))))(b:O[36]?=some (.v (.int (t:Int))))
  (i:has lt t=true) (hs:c[t]?=some (.int (m:Int))) (j:c.length<=1000) (h:d.length<=1000) :
  dM 24 (cJ [aR (dV 32) (dK (.int 0)),aR (dV 32) (dK (.int 1)),aR (dV 27) (dV 36),aR (dV 23) (dV 36)]) O Y=some (.nx,O.set 24 (.own (d++[jB o (val lt t) m])),Y):=
 pR (eD (bQ (bM (aM a rfl) be rfl rfl) rfl (bQ (bM (aM a rfl) be rfl rfl) rfl (bQ (bM (aM g rfl) (aM b rfl) rfl (ox i)) rfl (bQ (bM (aM e rfl) (aM b rfl) rfl (gU hs (dR j))) rfl df))))) rfl f (dR h)
theorem FU{B:List T}{u:V3}{l:Dc}{i t:Nat}(h6:O[6]?=some (.own B))(hi:O[i]?=some (.v (.int (t:Int))))(a:B[t]?=some (bR u l))(c:B.length<=1000):kj (aR (dV 6) (dV i)) (dK (.int 4)) O Y=some (.v (tB u),Y):=
 FN (l:=[.int u.r,.int u.g,.int u.b,.int (u.r+u.g+u.b),.dct (bp tB l)]) (bM (aM h6 rfl) (aM hi rfl) rfl (gU a (dR c))) be rfl rfl (by simp)
theorem Mj{B:List T}{u:V3}{l lt:Dc}{t:Nat}(h4:O[4]?=some .nts)(h6:O[6]?=some (.own B))(a:O[27]?=some (.v (.dct (bp tB lt))))(c:O[28]?=some (.v (.dct (bp nB lt))))(b:O[36]?=some (.v (.int (t:Int))))(d:O[49]?=some .no)
  (i:B[t]?=some (bR u l)) (j:B.length<=1000) (k:has lt t=true) (m:val lt t=u) (h:(keys lt).Nodup) (f:lt.length<=1000) (g:Y.length<=1000000) :
  ∃ n,dM 4 (cJ [de [aR (dV 27) (dV 36),dV 28],de [kj (aR (dV 6) (dV 36)) (dK (.int 4)),cM (cn [49] (.nm 49) (iK (dV 27)) (λ_ Y=>some (true,Y)) (h9 AH yO) (.ownd []))]]) O Y=some (.nx,O,Y++[n])/\kE n:=by
 have hc:=Hy (Y:=Y) hl a rfl d h (dR f);have h1:=ox (e:=tB) k;rw[m]at h1;refine(m0 _ (kU (eD (bQ (gn (bQ (bM (aM a rfl) (aM b rfl) rfl h1) rfl (bQ (aM c rfl) rfl df))) rfl (bQ (gn (bQ (FU hl h6 b i j) rfl (bQ hc rfl df))) rfl df))) rfl h4 g) _ _ rfl ?_);show(true&&[(tB u,tB u),(T.dct (bp nB lt),T.dct (bp nB lt))].all λp=>eqT 5 p.1 p.2)=true;simp only[gX,Fm,Eg (Xn 4) h];rfl
end
theorem str_eq(a:Str):(a==a)=true:=by simp
theorem GB(n:Nat)(a:Str):eqT n (.str a) (.str a)=true:=by cases n<;>exact str_eq a
section
variable{O:List S}{Y:List T}(hl:O.length=52)
include hl
theorem Wl{B:List T}{b:Nat->V3×Dc}{L:List Nat}{t:Nat}{lt:Dc}(h4:O[4]?=some .nts)(h6:O[6]?=some (.own B))(e:O[26]?=some (.own (bv L++[.int (t:Int)])))(f:O[28]?=some (.v (.dct (bp nB lt))))(g:O[49]?=some .no)
  (l:∀ n∈L,B[n]?=some (bR (b n).1 (b n).2)) (h:B.length<=1000) (c:L.length<=1000) (d:iq V3.n lt=fb (L.map λn=>(b n).1.n)) (m:(iq V3.n lt).natAbs<2^64) (i:Y.length<=1000000) :
  ∃ n,dM 4 (cJ [bL [bL [dV 28] (cf oO 1 oM)] (cD m7),bL [bL [cM (cn [49] (.nm 49) (iL none (hH (dV 26) none (some (gT (dK (.int 1)))))) (λ_ Y=>some (true,Y)) (cF vD) (.own []))] (cD jk)] (cD m7)]) O Y=some (.nx,O,Y++[n])/\kE n:=by
 have o:hH (dV 26) none (some (gT (dK (.int 1)))) O Y=some (.fr (bv L),Y):=sp (aM e rfl) tJ (tx (qS be rfl) rfl) rfl (by rw[cU,iC];simp;exact wt c) (V1 _ _);have j:=fV (bind:=bU [49] (.nm 49)) (test:=λ_ Y=>some (true,Y)) (fx:=vD) (Y:=Y) (λn:Nat=>T.int (n:Int)) (λ_=>true) (λn=>T.int (b n).1.n) (bf [49] O) (λn I=>I[49]?=some (.v (.int (n:Int))))
  L [] O (.refl O) (by simp;exact dR c) (λa _=>hJ hl) (λ_ _ _ _ _=>rfl) (λn p I q r _=>(aS (.v (.int (b n).1.n)) (bM (bM (aM (q.get h6 rfl) rfl) (aM r rfl) rfl (gU (l n p) (dR h))) be rfl rfl) rfl))
 rw[ic,eE]at j;have s:jk (.fr (L.map λn=>T.int (b n).1.n))=some (.v (.int (iq V3.n lt))):=by
  have:=yL (L.map λn=>(b n).1.n);rw[il]at this;rw[d];exact this
 have k:m7 (.v (.int (iq V3.n lt)))=some (.v (.str (aK (toString (iq V3.n lt))))):=by show(if _ then _ else _)=_;rw[if_pos m]
 refine(m0 _ (kU (eD (bQ (db (bN (db (bN (aM f rfl) cv) Uj) cv) (gl k)) rfl (bQ (db (bN (db (bN (fJ (eJ (eV g) (ie o rfl rfl) j) rfl) cv) (gl s)) cv) (gl k)) rfl df))) rfl h4 i) _ _ rfl (GB _ _))
theorem Rl{a:List T}{t m:Nat}(b:O[23]?=some (.own a))(c:O[36]?=some (.v (.int (t:Int))))(hs:a[t]?=some (.int (m:Int)))(d:a.length<=1000):
  bW (aO 52) (.nm 37) (de [aR (dV 23) (dV 36)]) O Y=some (.nx,O.set 37 (.v (.lst (bv [m]))),Y):=
 ef (gn (bQ (bM (aM b rfl) (aM c rfl) rfl (gU hs (dR d))) rfl df)) rfl (cC rfl (l0 hl rfl))
end
noncomputable def grow(M:Nat->Nat)(P:List Nat)(n:Nat):List Nat:=P++P.map λp=>p+M n
theorem KN{m:List T}{M:Nat->Nat}{Y:List T}:∀ (c P:List Nat) (O:List S),O.length=52->O[23]?=some (.own m)->O[49]?=some .no->m.length<=1000->(∀ n∈c,m[n]?=some (.int (M n:Int)))->O[37]?=some (.v (.lst (bv P)))->P.length*2^c.length<=1000->
  ∃ U,em (bU (aO 52) (.nm 38)) sZ (bv c) O Y=some (.nx,U,Y)/\bf [37,38] O U/\U[37]?=some (.v (.lst (bv (c.foldl (grow M) P)))):=by
 intro o;induction o with
 |nil=>
  intro P O _ _ _ _ _ b _;exact(cI O rfl (.refl O) b)
 |cons n c q=>
  intro P O d f g t u b r;refine aQ λy=>?_;have i:(P.length+P.length)*2^c.length<=1000:=by
   rw[cK,yo]at r;rw[<- yp]at r;rw[Nat.add_mul];exact Lc r
  have j:P.length+P.length<=1000:=bg (Nat.le_mul_of_pos_right _ (Kc _)) i;have e:bf [37,38] O (O.set 38 (.v (.int (n:Int)))):=(bf.refl O).set rfl _;have s:(O.set 38 (.v (.int (n:Int))))[38]?=some (.v (.int (n:Int))):=bS (l0 d rfl);have k:(O.set 38 (.v (.int (n:Int))))[37]?=some (.v (.lst (bv P))):=aW rfl b;have z:bU (aO 52) (.nm 38) (T.int (n:Int)) O=some (O.set 38 (.v (.int (n:Int)))):=cC rfl (l0 d rfl);generalize O.set 38 (.v (.int (n:Int)))=I at*;have v:=fV (bind:=bU [49] (.nm 49)) (test:=λ_ Y=>some (true,Y)) (fx:=D4) (Y:=Y) (λp:Nat=>T.int (p:Int)) (λ_=>true) (λp=>T.int ((p+M n:Nat):Int)) (bf [49] I) (λp I=>I[49]?=some (.v (.int (p:Int))))
   P [] I (.refl I) (by simp;exact Wy j) (λa _=>hJ (e.len d)) (λ_ _ _ _ _=>rfl) (λp H A w B _=>(aS (.v (.int ((p:Int)+(M n:Int)))) (bV (aM B rfl) rfl (bM (aM (w.get (e.get f rfl) rfl) rfl) (aM (w.get s rfl) rfl) rfl (gU (u n (.head _)) (dR t))) rfl rfl) rfl))
  rw[ic,eE]at v;have C:sZ I Y=some (.nx,I.set 37 (.v (.lst (bv (grow M P n)))),Y):=by
   refine bz (ef (x:=.fr (bv (grow M P n))) ?_ rfl (cC rfl (l0 (e.len d) rfl))) dT;have D:bv (grow M P n)=bv P++P.map (λp=>T.int ((p+M n:Nat):Int)):=by unfold grow;rw[ni];congr 1;unfold bv;rw[il];rfl
   rw[D];exact IJ (aM k rfl) (fJ (eJ (eV (e.get g rfl)) (ie (aM k rfl) rfl rfl) v) rfl) rfl rfl (by rw[iC,dm];exact ZY j)
  have l:bf [37,38] O (I.set 37 (.v (.lst (bv (grow M P n))))):=e.set rfl _;obtain⟨U,E,F,G⟩:=q (grow M P n) (I.set 37 (.v (.lst (bv (grow M P n))))) (l.len d) (l.get f rfl) (l.get g rfl) t (λn h=>u n (.tail _ h)) (bS (l0 (e.len d) rfl)) (by unfold grow;rw[cU,dm];exact i);exact y (cI U (gk z C E) (l.trans F) G)
noncomputable def jl(p:Nat):Nat:=if 63-p<p then 63-p else p
theorem RW{O:List S}{Y:List T}{o:Od}{p0:Nat×V3}{C:List T}{b:Nat->Int}{m:Nat}{P:List Nat}(s:O.length=52)(h4:O[4]?=some .nts)(e:O[16]?=some (.own C))(f:O[32]?=some (.v (dS o p0)))(g:O[37]?=some (.v (.lst (bv (m::P)))))(i:O[49]?=some .no)
  (hC:∀ p,p<=31->C[p]?=some (.int (b p))) (j:C.length<=1000) (t:∀ p∈m::P,p<=63) (k:P.length<=1000) (c:∀ p∈P,b (jl m)<=b (jl p)) (u:b (jl m)=bH o p0.2) (l:Y.length<=1000000) :
  ∃ n,dM 4 (cJ [bL [cM (cn [49] (.nm 49) (iL none (dV 37)) (λ_ Y=>some (true,Y)) (cF wG) (.own []))] lZ,aR (dV 32) (dK (.int 0))]) O Y=some (.nx,O,Y++[n])/\kE n:=by
 have q:=fV (bind:=bU [49] (.nm 49)) (test:=λ_ Y=>some (true,Y)) (fx:=wG) (Y:=Y) (λp:Nat=>T.int (p:Int)) (λ_=>true) (λp=>T.int (b (jl p))) (bf [49] O) (λp I=>I[49]?=some (.v (.int (p:Int))))
  (m::P) [] O (.refl O) (by simp;exact wt k) (λa _=>hJ s) (λ_ _ _ _ _=>rfl) (λp w x y r _=>(aS (.v (.int (b (jl p)))) ?_ rfl))
 ·rw[ic,eE]at q;refine(m0 _ (kU (eD (bQ (db (bN (fJ (eJ (eV i) (ie (aM g rfl) rfl rfl) q) rfl) cv) (WG c)) rfl (bQ (bM (aM f rfl) be rfl rfl) rfl df))) rfl h4 l) _ _ rfl ?_);rw[u];exact eq_int _ _
 ·have d:=t p w;have z:lZ [.v (.int (p:Int)),.v (.int (63-(p:Int)))] Y=some (.v (.int ((jl p:Nat):Int)),Y):=by
   show some (X.v (T.int (if (63:Int)-(p:Int)<(p:Int)then 63-(p:Int)else(p:Int))),Y)=_;congr 3;unfold jl;congr 1;by_cases h:63-p<p
   ·rw[if_pos h,if_pos (PS h)];exact((Int.ofNat_sub d).symm)
   ·rw[if_neg h,if_neg (Sh h)]
  exact bM (aM (y.get e rfl) rfl) (db (bN (aM r rfl) (bN (bV be rfl (aM r rfl) rfl rfl) cv)) z) rfl (gU (hC _ (by unfold jl;split<;>lia)) (dR j))
noncomputable def jf(v:V3):V3:=⟨-2*v.r,-2*v.g,-2*v.b⟩
theorem tq{B:List T}{n:Nat}(t:T)(h:n<B.length)(a:B.length<=1000000):mf (.own B) (.int (n:Int)) t=some (.own (B.set n t)):=by
 show(if _ then _ else _)=_;rw[if_pos ⟨kB,Br h,a⟩];rfl
section
variable{O:List S}{Y:List T}(hl:O.length=52)
include hl
theorem An{B:List T}{u:V3}{l:Dc}{i n:Nat}(h6:O[6]?=some (.own B))(hi:O[i]?=some (.v (.int (n:Int))))(a:B[n]?=some (bR u l))(b:B.length<=1000):aR (aR (dV 6) (dV i)) (dK (.int 4)) O Y=some (.v (.dct (bp tB l)),Y):=
 bM (bM (aM h6 rfl) (aM hi rfl) rfl (gU a (dR b))) be rfl rfl
theorem Yx{B:List T}{u:V3}{l:Dc}{x t:Nat}(h6:O[6]?=some (.own B))(b:O[35]?=some (.v (.int (x:Int))))(c:O[36]?=some (.v (.int (t:Int))))(d:O[49]?=some .no)(f:B[x]?=some (bR u l))(g:B.length<=1000)(h:has l t=true):
  bW (aO 52) (.nm 39) (iY (bL [cM (cn [49] (.nm 49) (iT (aR (aR (aR (dV 6) (dV 35)) (dK (.int 4))) (dV 36))) (λ_ Y=>some (true,Y)) (cF tS) (.own []))] (cD sL)) (cJ [(λO Y=>some (.frd [],Y))])) O Y
   = some (.nx,O.set 39 (.v (bR (jf (val l t)) [])),Y):=by
 have e:=fV (bind:=bU [49] (.nm 49)) (test:=λ_ Y=>some (true,Y)) (fx:=tS) (Y:=Y) T.int (λ_=>true) (λi=>T.int (-2*i)) (bf [49] O) (λi I=>I[49]?=some (.v (.int i)))
  [(val l t).r,(val l t).g,(val l t).b,(val l t).r+(val l t).g+(val l t).b] [] O (.refl O) (by simp) (λa _=>hJ hl) (λ_ _ _ _ _=>rfl) (λi hi I n j _=>(aS (.v (.int (-2*i))) (bV (qS be rfl) rfl (aM j rfl) rfl (qB (.inl (by decide)))) rfl))
 rw[ic,eE]at e;have k:bR (jf (val l t)) []=.tup ([T.int (-2*(val l t).r),.int (-2*(val l t).g),.int (-2*(val l t).b),.int (-2*((val l t).r+(val l t).g+(val l t).b))]++[.dct []]):=by
  unfold bR jf;simp only[rq,eE,T.tup.injEq,adK,T.int.injEq,true_and,and_true];exact⟨RV,rfl⟩
 rw[k];have m:bL [cM (cn [49] (.nm 49) (iT (aR (aR (aR (dV 6) (dV 35)) (dK (.int 4))) (dV 36))) (λ_ Y=>some (true,Y)) (cF tS) (.own []))] (cD sL) O Y=some (.v (.tup [T.int (-2*(val l t).r),.int (-2*(val l t).g),.int (-2*(val l t).b),.int (-2*((val l t).r+(val l t).g+(val l t).b))]),Y):=
  db (bN (fJ (eJ (eV d) (i_T (bM (An hl h6 b f g) (aM c rfl) rfl (ox h)) rfl) e) rfl) cv) (gl rfl)
 exact ef (te m (eD (l:=[.dct []]) (bQ (x:=.frd []) rfl rfl df)) rfl rfl (by simp)) rfl (cC rfl (l0 hl rfl))
theorem aba{B:List T}{j ut k:V3}{a l:Dc}{x t:Nat}(h6:O[6]?=some (.own B))(d:O[35]?=some (.v (.int (x:Int))))(e:O[36]?=some (.v (.int (t:Int))))(f:O[39]?=some (.v (bR k [])))(g:B[x]?=some (bR j a))(h:B[t]?=some (bR ut l))(n:B.length<=1000)
  (o:(keys a).Nodup) (b:a.length+l.length<=1000):bW (aO 52) (.nm 40) (bL [bL [aR (dV 6) (dV 35),aR (dV 6) (dV 36)] (cf jq 2 jM),dV 39] (cf jq 2 jM)) O Y
   = some (.nx,O.set 40 (.v (bR (cq k (cq ut j)) (ac a l))),Y):=by
 have c:∀ (m l:Dc),(ac l m).length<=l.length+m.length:=by
  intro m;induction m with
  |nil=>intro l;exact cu _
  |cons p m q=>
   intro l;show(ac (mX l p) m).length<=_;have:=q (mX l p);have h2:=Ge l p.1 (cq p.2 (val l p.1));unfold mX at this ⊢;simp only[cK];exact Zf this h2
 have i:=c l a;exact ef (db (bN (db (bN (bM (aM h6 rfl) (aM d rfl) rfl (gU g (dR n))) (bN (bM (aM h6 rfl) (aM e rfl) rfl (gU h (dR n))) cv)) (BP o (XA b))) (bN (aM f rfl) cv)) (BP (m:=[]) (qc _ o) (by simp;exact aab b i))) rfl (cC rfl (l0 hl rfl))
theorem UQ{B Ln:List T}{u:V3}{l:Dc}{x t:Nat}(h6:O[6]?=some (.own B))(k:O[26]?=some (.own (Ln++[.int (x:Int)]++[.int (t:Int)])))(m:O[35]?=some (.v (.int (x:Int))))(c:O[40]?=some (.v (bR u l)))(n:O[49]?=some .no)(w:x<B.length)(y:B.length<=1000)(o:Ln.length<=1000)
  (v:(keys l).Nodup) (p:l.length<=1000):jK 6 (dV 35) (iY (kj (dV 40) (dK (.int 4))) (cJ [cM (cn [49] (.nm 49) (iK (aR (dV 40) (dK (.int 4)))) qg (h9 tU se) (.ownd []))])) O Y
   = some (.nx,O.set 6 (.own (B.set x (bR u (l.filter λa=>!([x,t].contains a.1))))),Y):=by
 have d:∀ O,O[40]?=some (.v (bR u l))->aR (dV 40) (dK (.int 4)) O Y=some (.v (.dct (bp tB l)),Y):=λO h=>bM (aM h rfl) be rfl rfl;have q:=zd (bind:=bU [49] (.nm 49)) (test:=qg) (fk:=tU) (fv:=se) (Y:=Y) tB (λa:Nat×V3=>T.int (a.1:Int)) (λa=>!([x,t].contains a.1)) (λa=>a.1) (λa=>a.2) (bf [49] O) (λa I=>I[49]?=some (.v (.int (a.1:Int))))
  l [] O (.refl O) (by simp;exact dR p) v (λa _=>hJ hl) (λa s I i j=>?_) (λa s I i j _=>(qX _ (.v (tB a.2)) (aM j rfl) rfl ?_ rfl))
 ·rw[eE,zl]at q;refine pV (x:=.v (bR u (l.filter λa=>!([x,t].contains a.1)))) ?_ rfl (aM m rfl) rfl h6 (tq _ w (dR y));rw[<- Dl tB]at q;have z:cM (cn [49] (.nm 49) (iK (aR (dV 40) (dK (.int 4)))) qg (h9 tU se) (.ownd [])) O Y=some (.frd (bp tB (l.filter λa=>!([x,t].contains a.1))),Y):=fJ (eJ (eV n) (DP (d O c) rfl rfl) q) rfl;exact te (l:=[.int u.r,.int u.g,.int u.b,.int (u.r+u.g+u.b)]) (r:=[.dct (bp tB (l.filter λa=>!([x,t].contains a.1)))]) (FN (l:=[.int u.r,.int u.g,.int u.b,.int (u.r+u.g+u.b),.dct (bp tB l)]) (aM c rfl) be rfl rfl (by simp)) (eD (bQ z rfl df)) rfl rfl (by simp)
 ·have h2:=Er (O:=I) (Y:=Y) (i.len hl) (i.get k rfl) o;have:=F9 (neg:=true) (f:=dV 49) (aM j rfl) rfl h2 (OF [x,t] a.1);rw[JN]at this;exact this
 ·have h1:=ox (e:=tB) (AP s);rw[zc v s]at h1;exact bM (d I (i.get c rfl)) (aM j rfl) rfl h1
theorem LB{a:List T}{x t d mt:Nat}(b:O[23]?=some (.own a))(e:O[35]?=some (.v (.int (x:Int))))(f:O[36]?=some (.v (.int (t:Int))))(h:a[x]?=some (.int (d:Int)))(i:a[t]?=some (.int (mt:Int)))(g:a.length<=1000):
  mK 23 (dV 35) (aR (dV 23) (dV 36)) O Y=some (.nx,O.set 23 (.own (a.set x (.int ((d+mt:Nat):Int)))),Y):=by
 have c:x<a.length:=(je.mp h).1;refine zx (S0:=.own a) (old:=.int (d:Int)) (n:=.int ((d+mt:Nat):Int)) b (aM e rfl) rfl ?_ (bM (aM b rfl) (aM f rfl) rfl (gU i (dR g))) rfl rfl (tq _ c (dR g));show(if _ then _ else _)=_;rw[if_pos ⟨kB,Br c,dR g⟩,mH,h]
end
noncomputable def kp(x t:Nat)(l:Dc):Dc:=ac (l.filter λa=>a.1 != t) [(x,val l t)]
theorem Gm{σ0:List S}(c:σ0.length=52){a b:T}:∀ O,bf [49,50] σ0 O->∃ I,bU [49,50] (.tp [.nm 49,.nm 50]) (.tup [a,b]) O=some I/\bf [49,50] σ0 I/\(I[49]?=some (.v a)/\I[50]?=some (.v b)):=λO h=>
 (j3 ((O.set 49 (.v a)).set 50 (.v b)) (pZ (h7 (cC rfl (l0 (h.len c) rfl)) (h7 (cC rfl (l1 (h.len c) rfl)) n6))) ((h.set rfl _).set rfl _)
  (aW rfl (bS (l0 (h.len c) rfl))) (bS (l1 (h.len c) rfl)))
theorem KA{O:List S}{Y:List T}{B:List T}{u:V3}{l:Dc}{n x t:Nat}{o:S}(c:O.length=52)(h4:O[4]?=some .nts)(h6:O[6]?=some (.own B))(E:O[35]?=some (.v (.int (x:Int))))(q:O[36]?=some (.v (.int (t:Int))))(s:O[38]?=some (.v (.int (n:Int))))
  (F:O[41]?=some o) (Z:o.isOwnB=false) (G:O[49]?=some .no) (H:O[50]?=some .no) (A:B[n]?=some (bR u l)) (C:B.length<=1000) (V:(keys l).Nodup) (hh:has l t=true) (e:l.length<=1000) (J:Y.length<=1000000) :
  ∃ U W,yx O Y=some (.nx,U,Y++[W])/\bf [6,41,42] O U/\U[6]?=some (.own (B.set n (bR u (kp x t l))))/\(∃ S,U[41]?=some S/\S.isOwnB=false)/\kE W:=by
 have K:n<B.length:=(je.mp A).1;have v:(keys (l.filter λa=>a.1 != t)).Nodup:=V.sublist (adM.map _);have w:(l.filter λa=>a.1 != t).length<=l.length:=Km _ _;have L:=zd (bind:=bU [49,50] (.tp [.nm 49,.nm 50])) (test:=vP) (fk:=zD) (fv:=Bu) (Y:=Y) tB (λa:Nat×V3=>T.tup [T.int (a.1:Int),tB a.2]) (λa=>a.1 != t) (λa=>a.1) (λa=>a.2) (bf [49,50] O) (λa I=>I[49]?=some (.v (.int (a.1:Int)))/\I[50]?=some (.v (tB a.2)))
  l [] O (.refl O) (by simp;exact dR e) V (λa _=>Gm c) (λa ha I X D=>?_) (λa ha I X D _=>(qX _ (.v (tB a.2)) (aM D.1 rfl) rfl (aM D.2 rfl) rfl))
 ·rw[eE,zl]at L;have ei:l.map (λa:Nat×V3=>T.tup [T.int (a.1:Int),tB a.2])=(bp tB l).map λp=>T.tup [T.int p.1,p.2]:=by unfold bp;rw[il];rfl
  rw[ei]at L;have a1:jD 41 (jU (aO 52) 41 (cn [49,50] (.tp [(.nm 49),(.nm 50)]) (iI (aR (aR (dV 6) (dV 38)) (dK (.int 4)))) vP (h9 zD Bu) (.ownd []))) O Y=some (.nx,O.set 41 (.v (.dct (bp tB (l.filter λa=>a.1 != t)))),Y):=
   tT F Z (eJ (lu G (eV H)) (Bc (An c h6 s A C) rfl rfl) L) rfl rfl (l0 c rfl)
  have M:bf [6,41,42] O (O.set 41 (.v (.dct (bp tB (l.filter λa=>a.1 != t))))):=(bf.refl O).set rfl _;have y:(O.set 41 (.v (.dct (bp tB (l.filter λa=>a.1 != t)))))[41]?=some (.v (.dct (bp tB (l.filter λa=>a.1 != t)))):=bS (l0 c rfl);have k6:(O.set 41 (.v (.dct (bp tB (l.filter λa=>a.1 != t)))))[6]?=some (.own B):=aW rfl h6;generalize O.set 41 (.v (.dct (bp tB (l.filter λa=>a.1 != t))))=I at*;have a2:bW (aO 52) (.nm 42) (bL [dV 41] (cD BE)) I Y=some (.nx,I.set 42 (.v (.dct (bp tB (l.filter λa=>a.1 != t)))),Y):=by
   refine ef (x:=.frd (bp tB (l.filter λa=>a.1 != t))) (db (bN (aM y rfl) cv) (gl ?_)) rfl (cC rfl (l0 (M.len c) rfl));show(if _ then _ else _)=_;rw[if_pos (by unfold bp;rw[dm];exact HQ e w)]
  have d:bf [6,41,42] O (I.set 42 (.v (.dct (bp tB (l.filter λa=>a.1 != t))))):=M.set rfl _;have f:(I.set 42 (.v (.dct (bp tB (l.filter λa=>a.1 != t)))))[41]?=some (.v (.dct (bp tB (l.filter λa=>a.1 != t)))):=aW rfl y;have N:(I.set 42 (.v (.dct (bp tB (l.filter λa=>a.1 != t)))))[42]?=some (.v (.dct (bp tB (l.filter λa=>a.1 != t)))):=bS (l0 (M.len c) rfl);have P:(I.set 42 (.v (.dct (bp tB (l.filter λa=>a.1 != t)))))[6]?=some (.own B):=aW rfl k6;generalize I.set 42 (.v (.dct (bp tB (l.filter λa=>a.1 != t))))=j at*;have k:=d.get s rfl;have Q:=d.get E rfl;have R:=d.get q rfl;have a3:jK 6 (dV 38) (iY (kj (aR (dV 6) (dV 38)) (dK (.int 4))) (cJ [bL [dV 41,jR (nw (dV 35) (aR (aR (aR (dV 6) (dV 38)) (dK (.int 4))) (dV 36)))] (cf jY 2 jX)])) j Y=some (.nx,j.set 6 (.own (B.set n (bR u (kp x t l)))),Y):=by
   refine pV (x:=.v (bR u (kp x t l))) ?_ rfl (aM k rfl) rfl P (tq _ K (dR C));refine te (l:=[.int u.r,.int u.g,.int u.b,.int (u.r+u.g+u.b)]) (r:=[.dct (bp tB (kp x t l))]) (FU (d.len c) P k A C) (eD (bQ (db (bN (aM f rfl) (bN (xw (FB (aM Q rfl) (bM (An (d.len c) P k A C) (aM R rfl) rfl (ox hh)) rfl rfl) rfl) cv)) (uJ (m:=[(x,val l t)]) As v (by simp;exact Sn e w) _ _ rfl rfl)) rfl df)) rfl rfl (by simp)
  refine(qd (j.set 6 (.own (B.set n (bR u (kp x t l))))) (.tup [.dct (bp tB (l.filter λa=>a.1 != t)),.dct (bp tB (l.filter λa=>a.1 != t))]) ?_ (d.set (i:=6) rfl _) (bS (l0 (d.len c) rfl)) (aS _ (aW rfl f) rfl) (iz _ _ rfl ?_))
  case refine_1=>
   unfold yx;exact bz a1 (bz a2 (bz a3 (bz (kU (eD (bQ (aM (aW rfl f) rfl) rfl (bQ (aM (aW rfl N) rfl) rfl df))) rfl (aW rfl (d.get h4 rfl)) J) dT)))
  case refine_2=>exact Eg (Fm 4) v
 ·have z:=X.get q rfl;refine jm (aM D.1 rfl) rfl (aM z rfl) rfl ?_;show some ((a.1:Int) != (t:Int))=some (a.1 != t);congr 1;by_cases h:a.1=t
  ·rw[h];simp
  ·have:¬((a.1:Int)=(t:Int)):=sK h;rw[show(a.1 != t)=true by simpa using h,show((a.1:Int) != (t:Int))=true by simpa using this]
theorem RL{bk:Nat->V3×Dc}{x t:Nat}:∀ (p:List Nat) (O:List S) (Y:List T) (B:List T),p.Nodup->O.length=52->O[4]?=some .nts->O[6]?=some (.own B)->O[35]?=some (.v (.int (x:Int)))->O[36]?=some (.v (.int (t:Int)))->
  (∃ S,O[41]?=some S/\S.isOwnB=false)->O[49]?=some .no->O[50]?=some .no->B.length<=1000->Y.length+p.length<=1000000->
  (∀ n∈p,n≠x->B[n]?=some (bR (bk n).1 (bk n).2)/\(keys (bk n).2).Nodup/\has (bk n).2 t=true/\(bk n).2.length<=1000)->
  ∃ U i r,em (bU (aO 52) (.nm 38)) vS (bv p) O Y=some (.nx,U,Y++i)/\bf [6,38,41,42] O U/\U[6]?=some (.own r)/\r.length=B.length/\(∃ S,U[41]?=some S/\S.isOwnB=false)/\
   (∀ n∈p,n≠x->r[n]?=some (bR (bk n).1 (kp x t (bk n).2)))/\(∀ n,n∉p\/n=x->r[n]?=B[n]?)/\dF i/\i.length<=p.length:=by
 intro J;induction J with
 |nil=>
  intro O Y B W w h4 h6 f j s k l F g G;exact(dH O [] B ⟨(by rw[gW];rfl),.refl O,h6,rfl,s,(λ_ h=>nomatch h),(λ_ _=>rfl),.nil,cu _⟩)
 |cons n p y=>
  intro O Y B W w h4 h6 f j s k l F g G;have o:=gu.mp W;simp only[cK]at g;have d:bf [6,38,41,42] O (O.set 38 (.v (.int (n:Int)))):=(bf.refl O).set rfl _;have z:(O.set 38 (.v (.int (n:Int))))[38]?=some (.v (.int (n:Int))):=bS (l0 w rfl);have X:(O.set 38 (.v (.int (n:Int))))[6]?=some (.own B):=aW rfl h6;have u:∃ S,(O.set 38 (.v (.int (n:Int))))[41]?=some S/\S.isOwnB=false:=aV s λS0 a b=>(aS S0 (aW rfl a) b);have Z:bU (aO 52) (.nm 38) (T.int (n:Int)) O=some (O.set 38 (.v (.int (n:Int)))):=cC rfl (l0 w rfl);generalize O.set 38 (.v (.int (n:Int)))=I at*;have hc:tC .NotEq (dV 38) (dV 35) I Y=some (n != x,Y):=by
   have A:=d.get f rfl;refine jm (aM z rfl) rfl (aM A rfl) rfl ?_;show some ((n:Int) != (x:Int))=some (n != x);congr 1;by_cases h:n=x
   ·rw[h];simp
   ·have:¬((n:Int)=(x:Int)):=sK h;rw[show(n != x)=true by simpa using h,show((n:Int) != (x:Int))=true by simpa using this]
  by_cases C:n=x
  ·rw[show(n != x)=false by simpa using C]at hc;refine aQ λnG=>Sb (y I Y B o.2 (d.len w) (d.get h4 rfl) X (d.get f rfl) (d.get j rfl) u (d.get k rfl) (d.get l rfl) F (sG g) λm c=>G m (.tail _ c)) λU i r K L M N P Q D R V=>nG (dH U i r ⟨gk Z (bz (kw hc dT) dT) K,d.trans L,M,N,P,(λm c e=>?_),(λm c=>D m ?_),R,(by simp only[cK];exact Db V)⟩)
   ·rcases bP.mp c with rfl|c
    ·exact absurd C e
    ·exact Q m c e
   ·rcases c with c|c
    ·exact .inl λq=>c (.tail _ q)
    ·exact .inr c
  ·rw[show(n != x)=true by simpa using C]at hc;refine fX (G n (.head _) C) λb1 b2 b3 b4=>aV u λa0 c1 c2=>?_;clear u;refine nE (KA (Y:=Y) (d.len w) (d.get h4 rfl) X (d.get f rfl) (d.get j rfl) z c1 c2 (d.get k rfl) (d.get l rfl) b1 F b2 b3 b4 (km g)) λE H k1 k2 k3 k4 k5=>?_;have v:bf [6,38,41,42] O E:=d.trans (k2.mono (by decide));obtain⟨U,i,r,K,L,M,N,P,Q,D,R,V⟩:=y E (Y++[H]) (B.set n (bR (bk n).1 (kp x t (bk n).2))) o.2 (v.len w) (v.get h4 rfl) k3 (v.get f rfl) (v.get j rfl) k4 (v.get k rfl) (v.get l rfl) (by rw[fH];exact F) (by rw[cU];simp;exact mZ g)
    λm c e=>by
     rw[ed (λq=>by subst q;exact o.1 c)];exact G m (.tail _ c) e
   refine(dH U (H::i) r ⟨?_,v.trans L,M,(by rw[N,fH]),P,(λm c e=>?_),(λm c=>?_),(dF.one k5).app R,(by simp only[cK];exact vg V)⟩)
   ·rw[show Y++H::i=Y++[H]++i by simp];exact gk Z (bz (mh hc k1) dT) K
   ·rcases bP.mp c with rfl|c
    ·rw[D m (.inl o.1)];rw[fT (je.mp b1).1]
    ·exact Q m c e
   ·rcases c with c|c
    ·rw[D m (.inl λq=>c (.tail _ q)),ed (λq=>by subst q;exact c (.head _))]
    ·rw[D m (.inr c),ed (λq=>C (q.trans c))]
theorem Iy(p:Nat->Bool)(l:Dc)(k:Nat):val (l.filter λa=>p a.1) k=if p k=true then val l k else v0:=by
 induction l with
 |nil=>show v0=_;split<;>rfl
 |cons a l b=>
  obtain⟨j,v⟩:=a;by_cases h:p j=true
  ·rw[rS (p:=λa:Nat×V3=>p a.1) (a:=(j,v)) h,gR,gR,b];by_cases q:j=k
   ·subst q;rw[if_pos rfl,if_pos rfl,if_pos h]
   ·rw[if_neg q,if_neg q]
  ·rw[uE (p:=λa:Nat×V3=>p a.1) (a:=(j,v)) h,gR,b];by_cases q:j=k
   ·subst q;rw[if_pos rfl,if_neg h,if_neg h]
   ·rw[if_neg q]
theorem Hi(p:Nat->Bool)(l:Dc)(k:Nat):k∈keys (l.filter λa=>p a.1)↔k∈keys l/\p k=true:=by
 unfold keys;simp only[eh,uF];constructor
 ·rintro ⟨a,⟨h1,h2⟩,rfl⟩;exact⟨(aS a h1 rfl),h2⟩
 ·rintro ⟨⟨a,h1,rfl⟩,h2⟩;exact(aS a ⟨h1,h2⟩ rfl)
theorem HI(p:Nat×V3->Bool){l:Dc}(h:(keys l).Nodup):(keys (l.filter p)).Nodup:=h.sublist (adM.map _)
noncomputable def fZ(w:Nat->Nat->V3)(x t:Nat):Nat->Nat->V3:=λi j=>if i=j then w i i else if i=x then cq (w x j) (w t j)else if j=x then cq (w i x) (w i t)else w i j
theorem sM{c:V3->Int}(hc:i9 c)(w:Nat->Nat->V3)(x t i j:Nat):c (fZ w x t i j)=fY (λi j=>c (w i j)) x t i j:=by
 unfold fZ fY;by_cases h:i=j
 ·subst h;rw[if_pos rfl,if_pos rfl]
 ·rw[if_neg h,if_neg h];split
  ·exact hc.a _ _
  ·split
   ·exact hc.a _ _
   ·rfl
noncomputable def dq(w:Nat->Nat->V3)(b:Nat->V3×Dc)(x t:Nat):Nat->V3×Dc:=λn=>
 if n=x then(cq (jf (val (b x).2 t)) (cq (b t).1 (b x).1),(ac (b x).2 (b t).2).filter λa=>!([x,t].contains a.1))else((b n).1,kp x t (b n).2)
theorem Ov{c:V3->Int}(hc:jE c)(v:V3):c (jf v)=-2*c v:=by rcases hc with rfl|rfl|rfl<;>rfl
theorem uV{A:List Nat}{x t:Nat}(a:x∈A)(b:t∈A)(c:x≠t):A.Perm (t::x::(A.erase t).erase x):=
 (lN b).trans ((lN ((uD c).mpr a)).cons t)
theorem aaN{A:List Nat}{w:Nat->Nat->V3}{l:Nat->V3×Dc}(h:jS A w l){x t:Nat}(o:x∈A)(p:t∈A)(D:x≠t):jS (A.erase t) (fZ w x t) (dq w l x t):=by
 have E:=uV o p D;have v:(A.erase t).Perm (x::(A.erase t).erase x):=lN ((uD D).mpr o);have y:=E.nodup h.nd;have nB:=(gu.mp (gu.mp y).2);have tB:=(gu.mp y).1;generalize L:(A.erase t).erase x=B at*;have u:∀ k,k∈A.erase t↔k≠t/\k∈A:=λk=>h.nd.mem_erase_iff;have I:∀ k,(![x,t].contains k)=true↔k≠x/\k≠t:=λk=>by simp
 have s:∀ f:Nat->Int,sm A f=f t+(f x+sm B f):=λf=>by rw[ly E];rfl
 have F:∀ f:Nat->Int,sm (A.erase t) f=f x+sm B f:=λf=>by rw[ly v];rfl
 refine⟨h.nd.erase t,λi j=>?_,λi=>?_,λc hc i j=>?_,λc hc=>?_,λn m=>?_,λn m k=>?_,λn m k hk=>?_,λn m=>?_⟩
 ·refine om λc hc=>?_;rw[sM hc.lin,sM hc.lin,BG λi j=>by rw[h.sy]]
 ·unfold fZ;rw[if_pos rfl];exact h.dg i
 ·rw[sM hc.lin];exact Pe (h.nn c hc) x t i j
 ·have C:(λi j=>c (fZ w x t i j))=fY (λi j=>c (w i j)) x t:=by funext i j;exact sM hc.lin w x t i j
  have hs:∀ i j,(λi j=>c (w i j)) i j=(λi j=>c (w i j)) j i:=λi j=>by simp only[h.sy i j]
  have m:=BG hs x t;rw[C,oN m v,KZ hs nB.1,<- oN hs E];have:=h.tt c hc;have:=h.nn c hc x t;show tot (λi j=>c (w i j)) A-c (w x t)<=45;exact KE ‹_› this
 ·have d:=(u n).mp m;unfold dq;split
  ·exact HI _ (qc _ (h.kn x o))
  ·exact qc _ (HI _ (h.kn n d.2))
 ·have d:=(u n).mp m;rw[u k];unfold dq;by_cases q:n=x
  ·subst q;rw[if_pos rfl];have:=Hi (λk=>!([n,t].contains k)) (ac (l n).2 (l t).2) k;rw[this,qM,h.ks n o,h.ks t p,I k];constructor
   ·rintro ⟨a,b,c⟩;exact⟨⟨c,by rcases a with a|a<;>exact a.1⟩,b⟩
   ·rintro ⟨⟨c,a⟩,b⟩;exact⟨.inl ⟨a,b⟩,b,c⟩
  ·rw[if_neg q];unfold kp;have:=Hi (λk=>k != t) (l n).2 k;rw[qM,this,h.ks n d.2];have e:keys [(x,val (l n).2 t)]=[x]:=rfl;rw[e,jd];constructor
   ·rintro (⟨⟨a,b⟩,c⟩|rfl)
    ·exact⟨⟨by simpa using c,a⟩,b⟩
    ·exact⟨⟨D,o⟩,λw=>q w.symm⟩
   ·rintro ⟨⟨c,a⟩,b⟩;exact .inl ⟨⟨a,b⟩,by simpa using c⟩
 ·have d:=(u n).mp m;have g:=(u k).mp hk;unfold dq;by_cases q:n=x
  ·subst q;rw[if_pos rfl];have:=Iy (λk=>!([n,t].contains k)) (ac (l n).2 (l t).2) k;rw[this];by_cases r:n=k
   ·subst r;rw[if_neg (by simp)];unfold fZ;rw[if_pos rfl,h.dg]
   ·rw[if_pos ((I k).mpr ⟨Ne.symm r,g.1⟩),vw _ _ (h.kn t p),h.vl n o k g.2,h.vl t p k g.2];unfold fZ;rw[if_neg r,if_pos rfl]
  ·rw[if_neg q];unfold kp;have K:=Iy (λk=>k != t) (l n).2 k;rw[vw _ _ (by simp[keys]),K,if_pos (by simpa using g.1),h.vl n d.2 k g.2,h.vl n d.2 t p,gR];unfold fZ;by_cases r:n=k
   ·subst r;rw[if_neg (Ne.symm q),if_pos rfl];exact pY _
   ·rw[if_neg r,if_neg q];by_cases G:x=k
    ·subst G;rw[if_pos rfl,if_pos rfl]
    ·rw[if_neg G,if_neg (Ne.symm G)];exact pY _
 ·have d:=(u n).mp m;refine om λc hc=>?_;rw[fK hc.lin,F];have J:∀ k∈B,k≠x:=λk hk q=>by subst q;exact nB.1 hk
  unfold dq;by_cases q:n=x
  ·subst q;rw[if_pos rfl];have C:c (fZ w n t n n)=0:=by unfold fZ;rw[if_pos rfl,h.dg,hc.lin.z]
   have H:sm B (λk=>c (fZ w n t n k))=sm B (λk=>c (w n k))+sm B (λk=>c (w t k)):=by
    rw[<- vU];refine jC λk hk=>?_;unfold fZ;rw[if_neg (Ne.symm (J k hk)),if_pos rfl,hc.lin.a]
   rw[hc.lin.a,hc.lin.a,Ov hc,h.dv t p,h.dv n o,fK hc.lin,fK hc.lin,s,s,C,H,h.vl n o t p,h.dg,h.dg,hc.lin.z,h.sy t n];exact aay
  ·rw[if_neg q];have C:c (fZ w x t n x)=c (w n x)+c (w n t):=by unfold fZ;rw[if_neg q,if_neg q,if_pos rfl,hc.lin.a]
   have H:sm B (λk=>c (fZ w x t n k))=sm B (λk=>c (w n k)):=jC λk hk=>by
    unfold fZ;by_cases r:n=k
    ·subst r;rw[if_pos rfl]
    ·rw[if_neg r,if_neg q,if_neg (J k hk)]
   rw[h.dv n d.2,fK hc.lin,s,C,H];exact aa6
noncomputable def cw(c:V3->Int)(w:Nat->Nat->V3):Nat->Nat->Int:=λi j=>c (w i j)
noncomputable def eK(m:Nat):Nat->Bool:=λi=>m.testBit i
noncomputable def iu(c:V3->Int)(a:Nat->Nat->V3)(m:Nat):Int:=tot (du (cw c a) (eK m)) [0,1,2,3,4,5]
theorem Qo:((aO 64).all λp=>[0,1,2,3,4,5].all λi=>[0,1,2,3,4,5].all λj=>decide (((jl p).testBit i=(jl p).testBit j)↔(p.testBit i=p.testBit j)))=true:=by decide+kernel
theorem BC(c:V3->Int)(a:Nat->Nat->V3){p:Nat}(h:p<=63):iu c a (jl p)=iu c a p:=by
 refine qP λi hi j b=>?_;have h1:=c8.mp (c8.mp (c8.mp Qo p (eu.mpr (Jg h))) i hi) j b;simp only[decide_eq_true_eq]at h1;unfold du eK;by_cases q:p.testBit i=p.testBit j
 ·rw[if_pos q,if_pos (h1.mpr q)]
 ·rw[if_neg q,if_neg λr=>q (h1.mp r)]
theorem TV(L:List Nat)(f:Nat->Int):fb (L.map f)=sm L f:=by
 induction L with
 |nil=>rfl
 |cons x L a=>rw[cB];show f x+fb _=f x+sm L f;rw[a]
theorem XT{L:List Nat}{f:Nat->Int}{b:Int}(h:∀ x∈L,0<=f x/\f x<=b):0<=sm L f/\sm L f<=b*(L.length:Int):=by
 induction L with
 |nil=>simp[fW,ga]
 |cons x L a=>
  have h1:=h x (.head _);have h2:=a λy c=>h y (.tail _ c);have e:b*((x::L).length:Int)=b+b*(L.length:Int):=by rw[cK,Int.natCast_add,Kn];lia
  simp only[fW,ga];rw[e];exact Oj h1 h2
section
variable{A:List Nat}{M:Nat->Nat}{x t:Nat}
theorem RS(d:A.Nodup){n:Nat}(e:n∈A){s:Nat->Bool}(hs:s n=false):fo M (λi=>if i=n then true else s i) A=fo M s A+M n:=by
 have c:=lN e;have a:∀ y∈A.erase n,y≠n:=λy b q=>by subst q;exact d.not_mem_erase b
 rw[nv c,nv (s:=s) c];simp only[ll,kR,if_true,hs,jc,if_false];rw[A9 (M':=M) (D:=s) λy b=>⟨rfl,by rw[if_neg (a y b)]⟩];exact V7
theorem EU(a:A.Nodup){n:Nat}(b:n∈A):fo M (λi=>i==n) A=M n:=by
 have c:=lN b;rw[nv c];have z:∀ B:List Nat,n∉B->fo M (λi=>i==n) B=0:=by
  intro B;induction B with
  |nil=>intro _;rfl
  |cons y B d=>
   intro h;simp only[ll,kR];rw[d λq=>h (.tail _ q),if_neg (by simp;exact λq=>h (q▸.head _))]
 simp only[ll,kR];rw[z _ a.not_mem_erase];simp
def Good(A:List Nat)(M:Nat->Nat)(x t:Nat)(a:List Nat)(p:Nat):Prop:=∃ s:Nat->Bool,s t=true/\s x=false/\(∀ y,s y=true->y=t\/y∈a)/\p=fo M s A
theorem Oi(hA:A.Nodup):∀ (d c:List Nat) (a:Nat) (r:List Nat),d.Nodup->(∀ n∈d,n∈A/\n∉c/\n≠t/\n≠x)->(∀ p∈a::r,Good A M x t c p)->
  ∃ e,d.foldl (grow M) (a::r)=a::e/\(∀ p∈a::e,∃ c,Good A M x t c p)/\(a::e).length=(a::r).length*2^d.length:=by
 intro l;induction l with
 |nil=>
  intro c a r _ _ h;exact(cI r rfl (λp g=>⟨c,h p g⟩) (by simp))
 |cons n d o=>
  intro c a r D hs h;refine aQ λE=>?_;have f:=gu.mp D;refine fX (hs n (.head _)) λF G H I=>?_;obtain⟨e,J,K,L⟩:=o (c++[n]) a (r++(a::r).map λp=>p+M n) f.2 (λm C=>by
   refine fX (hs m (.tail _ C)) λa1 a2 a3 a4=>⟨a1,λq=>?_,a3,a4⟩;rcases fQ.mp q with q|q
   ·exact a2 q
   ·rw[jd]at q;subst q;exact f.1 C) (λp g=>by
   have b:p∈a::r\/p∈(a::r).map λp=>p+M n:=by rw[<- rq]at g;exact fQ.mp g
   rcases b with b|b
   ·exact nH (h p b) λs u v j w=>(j3 s u v (λy k=>by rcases j y k with q|q;exact .inl q;exact .inr (fQ.mpr (.inl q))) w)
   ·refine aV (eh.mp b) λp0 z N=>?_;subst N;refine nH (h p0 z) λs u v j w=>?_;have B:s n=false:=by
     cases q:s n with
     |false=>rfl
     |true=>
      rcases j n q with q|q
      ·exact absurd q H
      ·exact absurd q G
    refine(j3 (λi=>if i=n then true else s i) ?_ ?_ (λy k=>?_) ?_)
    ·simp[u]
    ·simp[v,Ne.symm I]
    ·by_cases q:y=n
     ·exact .inr (fQ.mpr (.inr (by simp[q])))
     ·simp[q]at k;rcases j y k with q|q
      ·exact .inl q
      ·exact .inr (fQ.mpr (.inl q))
    ·rw[RS hA F B,w])
  refine E (cI e ?_ K ?_)
  ·rw[<- J];rfl
  ·rw[L];simp only[cK,cU,dm,yo];rw[show r.length+(r.length+1)+1=(r.length+1)*2 by exact YO,yp,uA 2]
end
section
variable{o:Od}(ho:o.Ok){A:List Nat}{w w0:Nat->Nat->V3}{bk:Nat->V3×Dc}(hR:jS A w bk){L:List Nat}{x t:Nat}{lt0 lt:Dc}(hL:Ln o A w L x lt0)(hT:qm A w L x lt)(ht:t∈A)(hn:t∉L++[x])(hz:A.length=L.length+2)
include hR hL hT ht hn hz
theorem zh:A.Perm (t::(L++[x])):=by
 obtain⟨C,hC⟩:=zW (R:=t::(L++[x])) (A:=A) (gu.mpr ⟨hn,hL.nd⟩) λy a=>by
  rcases bP.mp a with rfl|a
  ·exact ht
  ·exact hL.su y a
 have:=hC.length_eq;simp at this;have b:C=[]:=by cases C with|nil=>rfl|cons _ _=>simp at this;lia
 rw[b,gW]at hC;exact hC
theorem vG:x∈A/\x≠t:=⟨hL.su x (by simp),λq=>hn (by simp[q])⟩
theorem UH:has lt t=true:=hT.ha t ht (vG hR hL hT ht hn hz).2.symm
theorem DD:val lt t=(bk t).1:=by
 rw[hT.vl t ht,hR.dv t ht];refine om λc hc=>?_;rw[fK hc.lin,fK hc.lin,ly (zh hR hL hT ht hn hz) (λk=>c (w t k))];simp only[fW,ga];have e:sm (L++[x]) (λk=>c (w t k))=sm (L++[x]) (λu=>c (w u t)):=jC λu _=>by rw[hR.sy t u]
 rw[hR.dg,hc.lin.z,e];exact Av
omit hL hT ht hn hz in
theorem Gx{n:Nat}(h:n∈A):(bk n).1.Ok:=by
 refine BO λc hc=>?_;rw[hR.dv n h,fK hc.lin];refine⟨qk λu=>hR.nn c hc n u,?_⟩;have b:=lN h;have a:A.Perm (n::(A.erase n++[])):=by rw[gW];exact b
 have:=IL (W:=λi j=>c (w i j)) (hR.nn c hc) (λi j=>by rw[hR.sy]) a;rw[ly b];simp only[fW,ga];have e:sm (A.erase n) (λk=>c (w n k))=sm (A.erase n) (λu=>c (w u n)):=jC λu _=>by rw[hR.sy n u]
 rw[hR.dg,hc.lin.z,e];have:=hR.tt c hc;exact U0 ‹_› this
omit hn ht in
theorem Mm(a:A.length<=6):iq V3.n lt=fb ((L++[x]).map λn=>(bk n).1.n)/\(iq V3.n lt).natAbs<2^64:=by
 have e:iq V3.n lt=sm (L++[x]) (λn=>(bk n).1.n):=by
  rw[Zl AG.z hT.kn hR.nd hT.ks];have c:sm A (λk=>(val lt k).n)=sm A (λy=>sm (L++[x]) λu=>(w u y).n):=jC λy d=>by rw[hT.vl y d,fK AG]
  rw[c,My];refine jC λu g=>?_;rw[hR.dv u (hL.su u g),fK AG]
 refine⟨by rw[e,TV],?_⟩;have h:=XT (L:=L++[x]) (f:=λn=>(bk n).1.n) (b:=135) λn i=>by
  have:=Gx hR (hL.su n i);have h0:=this.r0;have h1:=this.r1;have h2:=this.g0;have h3:=this.g1;have h4:=this.b0;have h5:=this.b1;unfold V3.n;exact QG h0 h1 h2 h3 h4 h5
 have j:(L++[x]).length<=6:=by rw[cU];simp;exact Mw hz a
 rw[e];generalize sm (L++[x]) (λn=>(bk n).1.n)=z at*;generalize (L++[x]).length=k at*;have:(2:Nat)^64=18446744073709551616:=by decide
 exact Sf j h
theorem Iz{c:V3->Int}(hc:i9 c){M:Nat->Nat}(a:Inv (cw c w0) (cw c w) M A):iu c w0 (M t)=c (val lt t):=by
 have b:=zh hR hL hT ht hn hz;have e:=a.cut (λi=>i==t);rw[EU hR.nd ht]at e;show tot (du (cw c w0) (eK (M t))) [0,1,2,3,4,5]=_;rw[show eK (M t)=λi=>(M t).testBit i from rfl,<- e,oN (wB (λi j=>by unfold cw;rw[hR.sy]) _) b,Zr,hT.vl t ht,fK hc]
 ·rfl
 ·intro u d;have:u≠t:=λq=>by subst q;exact hn d
  simp[this]
include ho in
theorem ZG{M:Nat->Nat}(m:Inv (cw (bH o) w0) (cw (bH o) w) M A)(C:fo M (λ_=>true) A=63)(d:A.length<=6):
  ∃ P,L.foldl (grow M) [M t]=M t::P/\(∀ p∈M t::P,p<=63)/\(∀ p∈P,iu (bH o) w0 (jl (M t))<=iu (bH o) w0 (jl p))/\iu (bH o) w0 (jl (M t))=bH o (val lt t)/\P.length<=100:=by
 refine aQ λD=>?_;have f:L.Nodup:=(pr.mp hL.nd).1;have g:x∉L:=λq=>(pr.mp hL.nd).2.2 x q x (.head _) rfl;obtain⟨P,E,r,u⟩:=Oi (M:=M) (x:=x) (t:=t) hR.nd L [] (M t) [] f (λn c=>⟨hL.su n (by simp[c]),by simp,λq=>by subst q;exact hn (by simp[c]),λq=>by subst q;exact g c⟩) (λp a=>by
  rw[jd]at a;subst a;exact(j3 (λi=>i==t) (by simp) (by simpa using (vG hR hL hT ht hn hz).2) (λy F=>.inl (by simpa using F)) ((EU hR.nd ht).symm)))
 have b:∀ p∈M t::P,p<=63:=λp a=>by
  refine mj (r p a) λG s v z H h=>?_;rw[h,<- C];exact aaa A
 have B:=Iz hR hL hT ht hn hz (wP o) m;refine D (ny P E b (λp a=>?_) ?_ ?_)
 ·rw[BC _ _ (b _ (.head _)),BC _ _ (b p (.tail _ a)),B];refine mj (r p (.tail _ a)) λG s v z H h=>?_;have e:=m.cut s;rw[<- h]at e;have a:=zh hR hL hT ht hn hz;have k:A.Perm (t::x::L.reverse):=a.trans (((Ko x L).trans ((Kp L).symm.cons x)).cons t);have l:t∉x::L.reverse:=λq=>hn (by
   rcases bP.mp q with q|q
   ·simp[q]
   ·exact fQ.mpr (.inl (CO.mp q)))
  have c:=VK (W:=cw (bH o) w) (λi j=>by unfold cw;rw[hR.sy]) hL.ma k l s (by rw[v,z];decide);rw[e]at c;refine fD (xE ?_) c;rw[hT.vl t ht,fK (wP o)];exact ly ((Ko x L).trans ((Kp L).symm.cons x)) _
 ·rw[BC _ _ (b _ (.head _)),B]
 ·have h1:2^L.length<=2^4:=xU (by decide) (SK hz d);simp only[cK,iJ,xJ,I3]at u;exact V0 h1 u
theorem XK:(val lt t).Ok:=by rw[DD hR hL hT ht hn hz];exact Gx hR ht
omit hR hL hT hn hz in
theorem R7{M:Nat->Nat}(c:x∈A)(a:x≠t)(b:fo M (λ_=>true) A=63)(h1:∀ n∈A,1<=M n):1<=M t/\M t<=62:=by
 have d:=uV c ht a;rw[nv d]at b;simp only[ll,kR,if_true]at b;have:=h1 x c;have:=h1 t ht;exact Va b ‹_› this
end
noncomputable def nM(M:Nat->Nat)(x t:Nat):Nat->Nat:=λi=>if i=x then M x+M t else M i
theorem Sc{A:List Nat}{w g:Nat->Nat->V3}{m:Nat->V3×Dc}(hR:jS A w m){M:Nat->Nat}{c:V3->Int}(hc:i9 c)(n:Inv (cw c g) (cw c w) M A){x t:Nat}(h:x∈A)(o:t∈A)(b:x≠t):Inv (cw c g) (cw c (fZ w x t)) (nM M x t) (A.erase t) where
 cut s:=by
  have k:=uV h o b;have d:=k.nodup hR.nd;have l:=gu.mp d;have p:=gu.mp l.2;have a:(A.erase t).Perm (x::(A.erase t).erase x):=lN ((uD b).mpr h);have hs:∀ i j,cw c w i j=cw c w j i:=λi j=>by unfold cw;rw[hR.sy]
  have:=(Inv.merge hs n k p.1 (λq=>l.1 (.tail _ q)) (Ne.symm b)).cut s;have e:cw c (fZ w x t)=fY (cw c w) x t:=by funext i j;exact sM hc w x t i j
  have f:∀ i j,cw c (fZ w x t) i j=cw c (fZ w x t) j i:=by rw[e];exact BG hs x t
  rw[oN (wB f s) a,nv a,e];exact this
theorem aa5{A:List Nat}{M:Nat->Nat}(hA:A.Nodup){x t:Nat}(d:x∈A)(g:t∈A)(e:x≠t)(a:fo M (λ_=>true) A=63):fo (nM M x t) (λ_=>true) (A.erase t)=63:=by
 have f:=uV d g e;have b:(A.erase t).Perm (x::(A.erase t).erase x):=lN ((uD e).mpr d);have c:=f.nodup hA;have h:=gu.mp (gu.mp c).2;rw[nv f]at a;rw[nv b];simp only[ll,kR,if_true]at a ⊢;rw[A9 (M':=M) (D:=λ_=>true) λy i=>⟨by unfold nM;rw[if_neg (λ(q:y=x)=>by subst q;exact h.1 i)],rfl⟩];unfold nM;rw[if_pos rfl];exact Rf a
structure yS (w0:Nat->Nat->V3) (A:List Nat) (B Sd:List T) (w:Nat->Nat->V3) (bk:Nat->V3×Dc) (M:Nat->Nat):Prop where
 rnd:jS A w bk
 inv:∀ c,i9 c->Inv (cw c w0) (cw c w) M A
 tot:fo M (λ_=>true) A=63
 pos:∀ n∈A,1<=M n
 bk:∀ n∈A,B[n]?=some (bR (bk n).1 (bk n).2)
 bl:B.length=6
 sd:∀ n∈A,Sd[n]?=some (.int (M n:Int))
 sl:Sd.length=6
structure qG (o:Od) (w0:Nat->Nat->V3) (C Ls:List T) (cV:Int) (A:List Nat) (O:List S):Prop where
 core:∃ B Sd w bk M,yS w0 A B Sd w bk M/\Sl o A B O/\O[23]?=some (.own Sd)
 s15:O[15]?=some (.v (.int cV))
 s16:O[16]?=some (.own C)
 s24:O[24]?=some (.own Ls)
 s31:∃ S,O[31]?=some S/\S.isOwnB=false
 s41:∃ S,O[41]?=some S/\S.isOwnB=false
 s50:O[50]?=some .no
noncomputable def qZ:List Nat:=[26,27,28,29,30,31,32,33,34]
structure EX (o:Od) (A:List Nat) (w:Nat->Nat->V3) (bk:Nat->V3×Dc) (B:List T) (L:List Nat) (x t:Nat) (lt:Dc) (O:List S):Prop where
 ln:∃ lt0,Ln o A w L x lt0
 ti:qm A w L x lt
 mt:t∈A
 nt:t∉L++[x]
 le:A.length=L.length+2
 sl:Sl o A B O
 s26:O[26]?=some (.own (bv (L++[x]++[t])))
 s27:O[27]?=some (.v (.dct (bp tB lt)))
 s28:O[28]?=some (.v (.dct (bp nB lt)))
 s31:∃ S,O[31]?=some S/\S.isOwnB=false
 s32:O[32]?=some (.v (dS o (t,val lt t)))
theorem Nf{o:Od}(H:o.Ok){A:List Nat}{w:Nat->Nat->V3}{h:Nat->V3×Dc}(hR:jS A w h){B:List T}{O:List S}{Y:List T}{cV:Int}{e:Nat}(hs:Sl o A B O)(J:∀ n∈A,B[n]?=some (bR (h n).1 (h n).2))(i:B.length=6)
  (j:O[15]?=some (.v (.int cV))) (k:O[25]?=some (.v (.int (e:Int)))) (l:∃ S,O[31]?=some S/\S.isOwnB=false) (K:e<=4) (hA:2<=A.length) (c:A.length<=6) (m:Y.length+20000<=1000000) :
  ∃ σ0 I g L x t lt,gz (aO 52) [26,27,28] false [de [aR (dV 22) (dB .Mod (dB .FloorDiv (dB .FloorDiv (dV 15) (dK (.int 36))) (dB .Pow (dK (.int 6)) (dV 25))) (bL [dV 22] (cD iB)))],jR ((λO Y=>some (.frd [],Y))),jR ((λO Y=>some (.frd [],Y)))] O Y=some (.nx,σ0,Y)/\
   fe (aO 52) (.nm 29) (iR (dB .Sub (bL [dV 22] (cD iB)) (dK (.int 1)))) tW σ0 Y=some (.nx,I,Y++g)/\bf qZ O I/\EX o A w h B L x t lt I/\dF g/\g.length<=10000:=by
 refine aQ λM=>aV (Vj (Y:=Y) hs.len j hs.s22 k K (Nat.zero_lt_of_lt hA) c) λf p N=>?_;have G:bf qZ O (((O.set 26 (.own (bv [f]))).set 27 (.v (.dct []))).set 28 (.v (.dct []))):=(((bf.refl O).set rfl _).set rfl _).set rfl _;have q:(((O.set 26 (.own (bv [f]))).set 27 (.v (.dct []))).set 28 (.v (.dct [])))[26]?=some (.own (bv ([]++[f]))):=aW rfl (aW rfl (bS (l0 hs.len rfl)));have r:(((O.set 26 (.own (bv [f]))).set 27 (.v (.dct []))).set 28 (.v (.dct [])))[27]?=some (.v (.dct (bp tB []))):=aW rfl (bS (l1 hs.len rfl));have s:(((O.set 26 (.own (bv [f]))).set 27 (.v (.dct []))).set 28 (.v (.dct [])))[28]?=some (.v (.dct (bp nB []))):=bS (l2 hs.len rfl);have u:∃ S,(((O.set 26 (.own (bv [f]))).set 27 (.v (.dct []))).set 28 (.v (.dct [])))[31]?=some S/\S.isOwnB=false:=aV l λP a b=>⟨P,aW rfl (aW rfl (aW rfl a)),b⟩;have d:=hs.same G rfl;refine eA (KL (Y:=Y) d.len d.s22 hA c) λQ items R v=>?_;have U:Ln o A w [] f []:=⟨by simp,by simpa using p,U4,by simp[keys],by simp[keys],λy _=>rfl⟩;exact DH (EM H hR J (Nl i) c items Q [] f [] _ Y U (by simp;exact abt v) d q r s u (acd c m v)) λI g L x t lt f1 f2 V W X Z f7 f8 f9 z C D E F=>M ⟨_,I,g,L,x,t,lt,N,iw R f1,G.trans f2,⟨V,W,X,Z,f7,d.same f2 rfl,f8,f9,z,C,D⟩,E,Rh c v F⟩
theorem IU{A:List Nat}{w:Nat->Nat->V3}{a:Nat->V3×Dc}(hR:jS A w a){n k:Nat}(b:n∈A)(hk:k∈A)(h:k≠n):has (a n).2 k=true:=lh.mpr ((hR.ks n b k).mpr ⟨hk,h⟩)
theorem B9{A:List Nat}{w:Nat->Nat->V3}{a:Nat->V3×Dc}(hR:jS A w a){n:Nat}(b:n∈A):(a n).2.length<=A.length:=by
 have:=oe (hR.kn n b) λk hk=>((hR.ks n b k).mp hk).1;unfold keys at this;rwa [dm]at this
theorem RU{o:Od}(ho:o.Ok){A:List Nat}{w w0:Nat->Nat->V3}{bk:Nat->V3×Dc}{B Sd C d:List T}{M:Nat->Nat}(hc:yS w0 A B Sd w bk M){L:List Nat}{x t:Nat}{lt:Dc}{O:List S}{Y:List T}(a:EX o A w bk B L x t lt O)(g:A.length<=6)
  (j:O[23]?=some (.own Sd)) (Q:O[16]?=some (.own C)) (U:O[24]?=some (.own d)) (hC:∀ p,p<=31->C[p]?=some (.int (iu (bH o) w0 p))) (V:C.length<=1000) (W:d.length<=100) (k:Y.length+10<=1000000) :
  ∃ G0:bC->bC,(∀ R:bC,G0 R=aY (bW (aO 52) (.tp [(.nm 35),(.nm 36)]) (hH (dV 26) (some (gT (dK (.int 2)))) none)) (aY (dM 24 (cJ [aR (dV 32) (dK (.int 0)),aR (dV 32) (dK (.int 1)),aR (dV 27) (dV 36),aR (dV 23) (dV 36)])) (aY (dM 4 (cJ [de [aR (dV 27) (dV 36),dV 28],de [kj (aR (dV 6) (dV 36)) (dK (.int 4)),cM (cn [49] (.nm 49) (iK (dV 27)) (λ_ Y=>some (true,Y)) (h9 AH yO) (.ownd []))]])) (aY (dM 4 (cJ [bL [bL [dV 28] (cf oO 1 oM)] (cD m7),bL [bL [cM (cn [49] (.nm 49) (iL none (hH (dV 26) none (some (gT (dK (.int 1)))))) (λ_ Y=>some (true,Y)) (cF vD) (.own []))] (cD jk)] (cD m7)])) (aY (bW (aO 52) (.nm 37) (de [aR (dV 23) (dV 36)])) (aY (fe (aO 52) (.nm 38) (iL none (hH (dV 26) none (some (gT (dK (.int 2)))))) sZ) (aY (dM 4 (cJ [bL [cM (cn [49] (.nm 49) (iL none (dV 37)) (λ_ Y=>some (true,Y)) (cF wG) (.own []))] lZ,aR (dV 32) (dK (.int 0))])) R)))))))/\
  ∃ I X,(∀ (R:bC) (Z:Mine.Internal.Fl) (l:List S) (m:List T),R I (Y++X)=some (Z,l,m)->G0 R O Y=some (Z,l,m))/\bf [24,35,36,37,38] O I/\I[24]?=some (.own (d++[jB o (val lt t) (M t)]))/\I[35]?=some (.v (.int (x:Int)))/\I[36]?=some (.v (.int (t:Int)))/\dF X/\X.length<=3:=by
 refine⟨_,λR=>rfl,?_⟩;refine aU a.ln λaj q=>?_;have hR:=hc.rnd;have hx:=vG hR q a.ti a.mt a.nt a.le;have hh:=UH hR q a.ti a.mt a.nt a.le;have h:L.length<=4:=by have:=a.le;exact OK g this
 have a0:bv (L++[x]++[t])=bv L++[T.int (x:Int)]++[T.int (t:Int)]:=by rw[ni,ni];rfl
 have F:bv (L++[x]++[t])=bv (L++[x])++[T.int (t:Int)]:=by rw[ni];rfl
 have r:=a.s26;rw[a0]at r;have i:=a.s26;rw[F]at i;have e:=a.sl.len;have a1:=QS (Y:=Y) e r (by rw[iC];exact XY h);have z:bf [24,35,36,37,38] O ((O.set 35 (.v (.int (x:Int)))).set 36 (.v (.int (t:Int)))):=((bf.refl O).set rfl _).set rfl _;have a8:((O.set 35 (.v (.int (x:Int)))).set 36 (.v (.int (t:Int))))[35]?=some (.v (.int (x:Int))):=aW rfl (bS (l0 e rfl));have G:((O.set 35 (.v (.int (x:Int)))).set 36 (.v (.int (t:Int))))[36]?=some (.v (.int (t:Int))):=bS (l1 e rfl);have a9:((O.set 35 (.v (.int (x:Int)))).set 36 (.v (.int (t:Int))))[24]?=some (.own d):=aW rfl (aW rfl U);generalize (O.set 35 (.v (.int (x:Int)))).set 36 (.v (.int (t:Int)))=f at*;have a2:=K3 (Y:=Y) (z.len e) (z.get j rfl) a9 (z.get a.s27 rfl) (z.get a.s32 rfl) G hh (hc.sd t a.mt) (by rw[hc.sl];decide) (Hs W);have b:bf [24,35,36,37,38] O (f.set 24 (.own (d++[jB o (val lt t) (M t)]))):=z.set rfl _;have aa:(f.set 24 (.own (d++[jB o (val lt t) (M t)])))[24]?=some (.own (d++[jB o (val lt t) (M t)])):=bS (l0 (z.len e) rfl);have ab:(f.set 24 (.own (d++[jB o (val lt t) (M t)])))[35]?=some (.v (.int (x:Int))):=aW rfl a8;have s:(f.set 24 (.own (d++[jB o (val lt t) (M t)])))[36]?=some (.v (.int (t:Int))):=aW rfl G;generalize f.set 24 (.own (d++[jB o (val lt t) (M t)]))=c at*;have H:B.length<=1000:=by rw[hc.bl];decide
 have ad:lt.length<=6:=by have:=oe a.ti.kn a.ti.ks;unfold keys at this;rw[dm]at this;exact sA g this
 refine aQ λu=>aV (Mj (Y:=Y) (b.len e) (b.get a.sl.s4 rfl) (b.get a.sl.s6 rfl) (b.get a.s27 rfl) (b.get a.s28 rfl) s (b.get a.sl.s49 rfl) (hc.bk t a.mt) H hh (DD hR q a.ti a.mt a.nt a.le) a.ti.kn (mU ad) (Gy k)) λv a3 k1=>bn (Mm hR q a.ti a.le g) λu1 u2=>aV (Wl (Y:=Y++[v]) (b.len e) (b.get a.sl.s4 rfl) (b.get a.sl.s6 rfl) (b.get i rfl) (b.get a.s28 rfl) (b.get a.sl.s49 rfl) (λn hn=>hc.bk n (q.su n hn)) H (by rw[cU];simp;exact aaJ h) u1 u2 (by rw[cU];simp;exact Fw k)) λD a4 k2=>u ?_;have a5:=Rl (Y:=Y++[v]++[D]) (b.len e) (b.get j rfl) s (hc.sd t a.mt) (by rw[hc.sl];decide);have J:bf [24,35,36,37,38] O (c.set 37 (.v (.lst (bv [M t])))):=b.set rfl _;have ae:(c.set 37 (.v (.lst (bv [M t]))))[24]?=some (.own (d++[jB o (val lt t) (M t)])):=aW rfl aa;have af:(c.set 37 (.v (.lst (bv [M t]))))[35]?=some (.v (.int (x:Int))):=aW rfl ab;have ag:(c.set 37 (.v (.lst (bv [M t]))))[36]?=some (.v (.int (t:Int))):=aW rfl s;have ah:(c.set 37 (.v (.lst (bv [M t]))))[37]?=some (.v (.lst (bv [M t]))):=bS (l0 (b.len e) rfl);generalize c.set 37 (.v (.lst (bv [M t])))=K at*;have ai:2^L.length<=2^4:=xU (by decide) h;refine aQ λu=>ej (KN (Y:=Y++[v]++[D]) L [M t] K (J.len e) (J.get j rfl) (J.get a.sl.s49 rfl) (by rw[hc.sl];decide) (λn hn=>hc.sd n (q.su n (by simp[hn]))) ah (by simp;exact SH ai)) λy b1 N b3=>u ?_;have a6:fe (aO 52) (.nm 38) (iL none (hH (dV 26) none (some (gT (dK (.int 2)))))) sZ K (Y++[v]++[D])=some (.nx,y,Y++[v]++[D]):=
  iw (ie (x:=.fr (bv L)) (sp (aM (J.get r rfl) rfl) tJ (tx (qS be rfl) rfl) rfl (by simp[iC];exact Wt h) (LA _ _ _)) rfl rfl) b1
 have E:bf [24,35,36,37,38] O y:=J.trans (N.mono (by decide));refine aQ λu=>zZ (ZG ho hR q a.ti a.mt a.nt a.le (hc.inv _ (wP o)) hc.tot g) λP g1 g2 g3 g4 g5=>u ?_;rw[g1]at b3;refine aQ λu=>aV (RW (Y:=Y++[v]++[D]) (E.len e) (E.get a.sl.s4 rfl) (E.get Q rfl) (E.get a.s32 rfl) b3 (E.get a.sl.s49 rfl) hC V g2 (Hs g5) g3 g4 (by simp;exact To k)) λn3 a7 k3=>u ⟨y,[v]++[D]++[n3],λR Z l m hr=>?_,E,N.get ae rfl,N.get af rfl,N.get ag rfl,(((dF.one k1).app (dF.one k2)).app (dF.one k3)),by simp⟩;rw[<- eO,<- eO]at hr;exact bz a1 (bz a2 (bz a3 (bz a4 (bz a5 (bz a6 (bz a7 hr))))))
noncomputable def qY:List Nat:=[6,22,23,24,26,27,28,29,30,31,32,33,34,35,36,37,38,39,40,41,42]
noncomputable def AM(R:bC):bC:=(aY (bW (aO 52) (.nm 39) (iY (bL [cM (cn [49] (.nm 49) (iT (aR (aR (aR (dV 6) (dV 35)) (dK (.int 4))) (dV 36))) (λ_ Y=>some (true,Y)) (cF tS) (.own []))] (cD sL)) (cJ [(λO Y=>some (.frd [],Y))]))) (aY (bW (aO 52) (.nm 40) (bL [bL [aR (dV 6) (dV 35),aR (dV 6) (dV 36)] (cf jq 2 jM),dV 39] (cf jq 2 jM))) (aY (jK 6 (dV 35) (iY (kj (dV 40) (dK (.int 4))) (cJ [cM (cn [49] (.nm 49) (iK (aR (dV 40) (dK (.int 4)))) qg (h9 tU se) (.ownd []))]))) (aY (mK 23 (dV 35) (aR (dV 23) (dV 36))) (aY (rV 22 (dV 36)) R)))))
theorem RK{o:Od}{A:List Nat}{w w0:Nat->Nat->V3}{c:Nat->V3×Dc}{B f:List T}{M:Nat->Nat}(hc:yS w0 A B f w c M){L:List Nat}{x t:Nat}{O:List S}{Y:List T}(hs:Sl o A B O)(i:A.length<=6)(r:x∈A)(v:t∈A)(hn:x≠t)(K:L.length<=6)
  (N:O[23]?=some (.own f)) (P:O[26]?=some (.own (bv L++[T.int (x:Int)]++[T.int (t:Int)]))) (j:O[35]?=some (.v (.int (x:Int)))) (l:O[36]?=some (.v (.int (t:Int)))) (Q:∃ S,O[41]?=some S/\S.isOwnB=false) (R:O[50]?=some .no) (V:Y.length+10<=1000000) :
  ∃ U C D,AM (aY (fe (aO 52) (.nm 38) (iL (some 22) (dV 22)) vS) cs) O Y=some (.nx,U,Y++C)/\bf [6,22,23,38,39,40,41,42] O U/\U[6]?=some (.own D)/\U[22]?=some (.own (bv (A.erase t)))/\U[23]?=some (.own (f.set x (.int ((M x+M t:Nat):Int))))/\
   (∃ S,U[41]?=some S/\S.isOwnB=false)/\D.length=6/\(∀ n∈A.erase t,D[n]?=some (bR (dq w c x t n).1 (dq w c x t n).2))/\dF C/\C.length<=6:=by
 have hR:=hc.rnd;have s:B.length<=1000:=by rw[hc.bl];decide
 have W:has (c x).2 t=true:=IU hR r v (Ne.symm hn);have p:=hs.len;have X:=B9 hR r;have Z:=B9 hR v;have a1:=Yx (Y:=Y) p hs.s6 j l hs.s49 (hc.bk x r) s W;have E:bf [6,22,23,38,39,40,41,42] O (O.set 39 (.v (bR (jf (val (c x).2 t)) []))):=(bf.refl O).set rfl _;have a0:(O.set 39 (.v (bR (jf (val (c x).2 t)) [])))[39]?=some (.v (bR (jf (val (c x).2 t)) [])):=bS (l0 p rfl);have p6:(O.set 39 (.v (bR (jf (val (c x).2 t)) [])))[6]?=some (.own B):=aW rfl hs.s6;have a6:(O.set 39 (.v (bR (jf (val (c x).2 t)) [])))[22]?=some (.own (bv A)):=aW rfl hs.s22;have a7:(O.set 39 (.v (bR (jf (val (c x).2 t)) [])))[23]?=some (.own f):=aW rfl N;have a8:∃ S,(O.set 39 (.v (bR (jf (val (c x).2 t)) [])))[41]?=some S/\S.isOwnB=false:=aV Q λu a b=>(aS u (aW rfl a) b);generalize O.set 39 (.v (bR (jf (val (c x).2 t)) []))=e at*;have a2:=aba (Y:=Y) (E.len p) p6 (E.get j rfl) (E.get l rfl) a0 (hc.bk x r) (hc.bk t v) s (hR.kn x r) (RN i X Z);have eU:bR (cq (jf (val (c x).2 t)) (cq (c t).1 (c x).1)) (ac (c x).2 (c t).2)=bR (dq w c x t x).1 (ac (c x).2 (c t).2):=by unfold dq;rw[if_pos rfl]
 rw[eU]at a2;have z:bf [6,22,23,38,39,40,41,42] O (e.set 40 (.v (bR (dq w c x t x).1 (ac (c x).2 (c t).2)))):=E.set rfl _;have a9:(e.set 40 (.v (bR (dq w c x t x).1 (ac (c x).2 (c t).2))))[40]?=some (.v (bR (dq w c x t x).1 (ac (c x).2 (c t).2))):=bS (l0 (E.len p) rfl);have q6:(e.set 40 (.v (bR (dq w c x t x).1 (ac (c x).2 (c t).2))))[6]?=some (.own B):=aW rfl p6;have aa:(e.set 40 (.v (bR (dq w c x t x).1 (ac (c x).2 (c t).2))))[22]?=some (.own (bv A)):=aW rfl a6;have ab:(e.set 40 (.v (bR (dq w c x t x).1 (ac (c x).2 (c t).2))))[23]?=some (.own f):=aW rfl a7;have ad:∃ S,(e.set 40 (.v (bR (dq w c x t x).1 (ac (c x).2 (c t).2))))[41]?=some S/\S.isOwnB=false:=aV a8 λu a b=>(aS u (aW rfl a) b);generalize e.set 40 (.v (bR (dq w c x t x).1 (ac (c x).2 (c t).2)))=g at*;have F:x<B.length:=(je.mp (hc.bk x r)).1;have G:=qc (c t).2 (hR.kn x r);have ae:(ac (c x).2 (c t).2).length<=6:=by
  have:=oe G (A:=A) λk hk=>by
   rcases(qM _).mp hk with q|q
   ·exact((hR.ks x r k).mp q).1
   ·exact((hR.ks t v k).mp q).1
  unfold keys at this;rw[dm]at this;exact sA i this
 have a3:=UQ (Y:=Y) (z.len p) q6 (z.get P rfl) (z.get j rfl) a9 (z.get hs.s49 rfl) F s (by rw[iC];exact mU K) G (mU ae);have eN:(ac (c x).2 (c t).2).filter (λa=>!([x,t].contains a.1))=(dq w c x t x).2:=by unfold dq;rw[if_pos rfl]
 rw[eN]at a3;have H:bf [6,22,23,38,39,40,41,42] O (g.set 6 (.own (B.set x (bR (dq w c x t x).1 (dq w c x t x).2)))):=z.set rfl _;have r6:(g.set 6 (.own (B.set x (bR (dq w c x t x).1 (dq w c x t x).2))))[6]?=some (.own (B.set x (bR (dq w c x t x).1 (dq w c x t x).2))):=bS (l0 (z.len p) rfl);have af:(g.set 6 (.own (B.set x (bR (dq w c x t x).1 (dq w c x t x).2))))[22]?=some (.own (bv A)):=aW rfl aa;have ag:(g.set 6 (.own (B.set x (bR (dq w c x t x).1 (dq w c x t x).2))))[23]?=some (.own f):=aW rfl ab;have ah:∃ S,(g.set 6 (.own (B.set x (bR (dq w c x t x).1 (dq w c x t x).2))))[41]?=some S/\S.isOwnB=false:=aV ad λu a b=>(aS u (aW rfl a) b);generalize g.set 6 (.own (B.set x (bR (dq w c x t x).1 (dq w c x t x).2)))=h at*;have a4:=LB (Y:=Y) (H.len p) ag (H.get j rfl) (H.get l rfl) (hc.sd x r) (hc.sd t v) (by rw[hc.sl];decide);have s4:bf [6,22,23,38,39,40,41,42] O (h.set 23 (.own (f.set x (.int ((M x+M t:Nat):Int))))):=H.set rfl _;have ai:(h.set 23 (.own (f.set x (.int ((M x+M t:Nat):Int)))))[23]?=some (.own (f.set x (.int ((M x+M t:Nat):Int)))):=bS (l0 (H.len p) rfl);have u6:(h.set 23 (.own (f.set x (.int ((M x+M t:Nat):Int)))))[6]?=some (.own (B.set x (bR (dq w c x t x).1 (dq w c x t x).2))):=aW rfl r6;have aj:(h.set 23 (.own (f.set x (.int ((M x+M t:Nat):Int)))))[22]?=some (.own (bv A)):=aW rfl af;have ak:∃ S,(h.set 23 (.own (f.set x (.int ((M x+M t:Nat):Int)))))[41]?=some S/\S.isOwnB=false:=aV ah λu a b=>(aS u (aW rfl a) b);generalize h.set 23 (.own (f.set x (.int ((M x+M t:Nat):Int))))=d at*;have a5:rV 22 (dV 36) d Y=some (.nx,d.set 22 (.own (bv (A.erase t))),Y):=aaL (aM (s4.get l rfl) rfl) rfl aj v (F1 i);have y:bf [6,22,23,38,39,40,41,42] O (d.set 22 (.own (bv (A.erase t)))):=s4.set rfl _;have I:(d.set 22 (.own (bv (A.erase t))))[22]?=some (.own (bv (A.erase t))):=bS (l0 (s4.len p) rfl);have al:(d.set 22 (.own (bv (A.erase t))))[23]?=some (.own (f.set x (.int ((M x+M t:Nat):Int)))):=aW rfl ai;have v6:(d.set 22 (.own (bv (A.erase t))))[6]?=some (.own (B.set x (bR (dq w c x t x).1 (dq w c x t x).2))):=aW rfl u6;have an:∃ S,(d.set 22 (.own (bv (A.erase t))))[41]?=some S/\S.isOwnB=false:=aV ak λu a b=>(aS u (aW rfl a) b);generalize d.set 22 (.own (bv (A.erase t)))=ao at*;have mA:∀ k,k∈A.erase t↔k≠t/\k∈A:=λk=>hR.nd.mem_erase_iff;have J:(A.erase t).length<=6:=bg (List.length_erase_le ..) i;obtain⟨U,C,D,b1,b2,b3,b4,b5,b6,b7,b8,b9⟩:=RL (bk:=c) (x:=x) (t:=t) (A.erase t) ao Y _ (hR.nd.erase t) (y.len p) (y.get hs.s4 rfl) v6 (y.get j rfl) (y.get l rfl) an (y.get hs.s49 rfl) (y.get R rfl) (by rw[fH];exact s) (Qj V J)
  λn hm aq=>by
   have m:=(mA n).mp hm;rw[ed (Ne.symm aq)];exact⟨hc.bk n m.2,hR.kn n m.2,IU hR m.2 v (Ne.symm m.1),by have:=B9 hR m.2;exact ZO i this⟩
 refine(dH U C D ⟨?_,y.trans (b2.mono (by decide)),b3,b2.get I rfl,b2.get al rfl,b5,(by rw[b4,fH,hc.bl]),(λn hm=>?_),b8,sA J b9⟩)
 ·unfold AM;exact bz a1 (bz a2 (bz a3 (bz a4 (bz a5 (bz (iw (ie (aM I rfl) rfl rfl) b1) dT)))))
 ·by_cases q:n=x
  ·subst q;rw[b7 n (.inr rfl),fT F]
  ·rw[b6 n hm q];have:dq w c x t n=((c n).1,kp x t (c n).2):=by unfold dq;rw[if_neg q]
   rw[this]
def mi(o:Od)(a:Nat->Nat->V3)(v:V3)(m:Nat):Prop:=v.Ok/\1<=m/\m<=62/\∀ c,i9 c->c v=iu c a m
theorem aak{o:Od}(ho:o.Ok){G:Nat->Nat->V3}{C H:List T}{cV:Int}{A:List Nat}{O:List S}{Y:List T}{turn:Nat}(h:qG o G C H cV A O)(J:O[25]?=some (.v (.int (turn:Int))))(K:turn<=4)(hA:2<=A.length)(i:A.length<=6)
  (hC:∀ p,p<=31->C[p]?=some (.int (iu (bH o) G p))) (N:C.length<=1000) (P:H.length<=100) (j:Y.length+20000<=1000000) :
  ∃ U Q t v m,t∈A/\uG O Y=some (.nx,U,Y++Q)/\bf qY O U/\qG o G C (H++[jB o v m]) cV (A.erase t) U/\dF Q/\Q.length<=10009/\mi o G v m:=by
 refine aQ λnG=>WA h.core λB Sd w bk M hc hs u=>?_;have hR:=hc.rnd;refine X8 (Nf ho hR (Y:=Y) hs hc.bk hc.bl h.s15 J h.s31 K hA i j) λa3 I l L x t lt a1 a2 r d d1 d2=>LS (RU ho hc d (Y:=Y++l) i (r.get u rfl) (r.get h.s16 rfl) (r.get h.s24 rfl) hC N P (by rw[cU];exact QK j d2)) λG0 hG y z b1 s b2 b3 b4 d3 d4=>aU d.ln λa4 R=>?_;have f:=vG hR R d.ti d.mt d.nt d.le;have V:bv (L++[x]++[t])=bv L++[T.int (x:Int)]++[T.int (t:Int)]:=by rw[ni,ni];rfl
 have D:=d.s26;rw[V]at D;have W:bf qY O y:=(r.mono (by decide)).trans (s.mono (by decide));have X:∃ S,y[41]?=some S/\S.isOwnB=false:=aV h.s41 λZ a b=>(aS Z (s.get (r.get a rfl) rfl) b);refine aaK (RK hc (L:=L) (x:=x) (t:=t) (Y:=Y++l++z) (d.sl.same s rfl) i f.1 d.mt f.2 (by have:=d.le;exact QL i this) (s.get (r.get u rfl) rfl) (s.get D rfl) b3 b4 X (s.get (r.get h.s50 rfl) rfl) (by simp only[cU];exact XO j d2 d4)) λE a0 B' c1 s3 c2 c3 c4 c5 c6 c7 d5 d6=>?_;have e:bf qY O E:=W.trans (s3.mono (by decide));have mA:∀ k,k∈A.erase t↔k≠t/\k∈A:=λk=>hR.nd.mem_erase_iff;have F:=R7 d.mt f.1 f.2 hc.tot hc.pos;refine nG (qE E (l++z++a0) t (val lt t) (M t) ⟨d.mt,?_,e,?_,(d1.app d3).app d5,(by simp only[cU];exact XB d2 d4 d6),XK hR R d.ti d.mt d.nt d.le,F.1,F.2,(λc g=>(Iz hR R d.ti d.mt d.nt d.le g (hc.inv c g)).symm)⟩)
 ·have hb:=b1 (AM (aY (fe (aO 52) (.nm 38) (iL (some 22) (dV 22)) vS) cs)) _ _ _ c1;rw[hG]at hb;rw[<- eO,<- eO];unfold uG;exact bz a1 (bz a2 hb)
 ·refine⟨(qE B' (Sd.set x (.int ((M x+M t:Nat):Int))) (fZ w x t) (dq w bk x t) (nM M x t) ⟨⟨aaN hR f.1 d.mt f.2,λc g=>Sc hR g (hc.inv c g) f.1 d.mt f.2,aa5 hR.nd f.1 d.mt f.2 hc.tot,λn hn=>?_,c7,c6,λn hn=>?_,by rw[fH,hc.sl]⟩,?_,c4⟩),e.get h.s15 rfl,e.get h.s16 rfl,s3.get b2 rfl,?_,c5,e.get h.s50 rfl⟩
  ·unfold nM;have:=hc.pos n ((mA n).mp hn).2;have:=hc.pos x f.1;split<;>lia
  ·unfold nM;by_cases q:n=x
   ·subst q;rw[if_pos rfl,fT (je.mp (hc.sd n f.1)).1]
   ·rw[if_neg q,ed (Ne.symm q)];exact hc.sd n ((mA n).mp hn).2
  ·exact⟨e.len hs.len,e.get hs.s4 rfl,c2,e.get hs.s17 rfl,e.get hs.s21 rfl,c3,e.get hs.s49 rfl⟩
  ·exact aV d.s31 λZ p q=>(aS Z (s3.get (s.get p rfl) rfl) q)
noncomputable def kZ(o:Od)(a:List (V3×Nat)):List T:=a.map λr=>jB o r.1 r.2
theorem Oq{o:Od}(Q:o.Ok){q:Nat->Nat->V3}{C:List T}{cV:Int}(hC:∀ p,p<=31->C[p]?=some (.int (iu (bH o) q p)))(x:C.length<=1000):
  ∀ (k c:Nat) (A:List Nat) (i:List (V3×Nat)) (O:List S) (Y:List T),k+c=5->A.length=k+1->i.length=c->O.length=52->qG o q C (kZ o i) cV A O->Y.length+20000+10009*k<=1000000->(∀ r∈i,mi o q r.1 r.2)->
  ∃ U z d,em (bU (aO 52) (.nm 25)) uG ((Cn c k).map λ(j:Nat)=>T.int (j:Int)) O Y=some (.nx,U,Y++z)/\bf (25::qY) O U/\U[24]?=some (.own (kZ o d))/\d.length=5/\(∀ r∈d,mi o q r.1 r.2)/\dF z/\z.length<=10009*k:=by
 intro D;induction D with
 |zero=>
  intro c A i O Y hk hA f s h l E;exact(dH O [] i ⟨(by rw[gW];rfl),.refl O,h.s24,Yt hk f,E,.nil,lA _⟩)
 |succ k F=>
  intro c A i O Y hk hA f s h l E;refine aQ λR=>?_;have V:bf (25::qY) O (O.set 25 (.v (.int (c:Int)))):=(bf.refl O).set rfl _;have g:∀ {j:Nat} {y:S},O[j]?=some y->mC 25 j=false->(O.set 25 (.v (.int (c:Int))))[j]?=some y:=λa b=>aW b a;have W:qG o q C (kZ o i) cV A (O.set 25 (.v (.int (c:Int)))):=by
   obtain⟨⟨B,X,w,Z,M,c1,n,c3⟩,b1,b2,b3,⟨S0,b4,G⟩,⟨S1,b5,H⟩,b6⟩:=h;refine⟨(qE B X w Z M ⟨c1,⟨by rw[fH];exact s,?_,?_,?_,?_,?_,?_⟩,?_⟩),?_,?_,?_,(aS S0 ?_ G),(aS S1 ?_ H),?_⟩
   ·exact g n.s4 rfl
   ·exact g n.s6 rfl
   ·exact g n.s17 rfl
   ·exact g n.s21 rfl
   ·exact g n.s22 rfl
   ·exact g n.s49 rfl
   ·exact g c3 rfl
   ·exact g b1 rfl
   ·exact g b2 rfl
   ·exact g b3 rfl
   ·exact g b4 rfl
   ·exact g b5 rfl
   ·exact g b6 rfl
  refine Ol (aak Q W (turn:=c) (Y:=Y) (bS (l0 s rfl)) (R1 hk) (XX hA) (Yi hk hA) hC x (by unfold kZ;rw[dm];exact K1 hk f) (aaq l)) λI u t v m r1 r2 L N r5 P r7=>?_;have e:kZ o i++[jB o v m]=kZ o (i++[(v,m)]):=by unfold kZ;rw[mJ];rfl
  rw[e]at N;obtain⟨J,K,d,q1,q2,q3,q4,q5,q6,q7⟩:=F (c+1) (A.erase t) (i++[(v,m)]) I (Y++u) (Rp hk) (by rw[List.length_erase_of_mem r1];exact Zw hA) (by rw[cU];simp;exact VB f) ((L.len (by rw[fH];exact s))) N (by rw[cU];exact XJ l P)
   λr f=>by
    rcases fQ.mp f with f|f
    ·exact E r f
    ·rw[jd]at f;rw[f];exact r7
  refine R (dH J (u++K) d ⟨?_,(V.trans (L.mono (by decide))).trans q2,q3,q4,q5,r5.app q6,(by rw[cU];exact XU P q7)⟩);rw[Co,cB,<- eO];exact gk (cC rfl (l0 s rfl)) r2 q1
theorem Ra{o:Od}(f:o.Ok){c:Nat->Nat->V3}{C:List T}{cV:Int}(hC:∀ p,p<=31->C[p]?=some (.int (iu (bH o) c p)))(d:C.length<=1000){A:List Nat}{O:List S}{Y:List T}(hA:A.length=6)(g:O.length=52)(h:qG o c C [] cV A O)(e:Y.length+100000<=1000000):
  ∃ U a b,A2 O Y=some (.nx,U,Y++a)/\bf (25::qY) O U/\U[24]?=some (.own (kZ o b))/\b.length=5/\(∀ r∈b,mi o c r.1 r.2)/\dF a/\a.length<=60000:=by
 refine aQ λi=>Do (Oq f hC d 5 0 A [] O Y rfl hA rfl g h (Yh e) (λ_ h=>nomatch h)) λU a b j k l m n q s=>i (dH U a b ⟨?_,k,l,m,n,q,KI s⟩);unfold A2;exact iw (jJ be rfl (by decide)) j
noncomputable def oH:Nat->List T->List T
 |_,[]=>[]
 |p,t::l=>T.tup [T.int (p:Int),t]::oH (p+1) l
theorem U7(l:List T):∀ p,(Cn p l.length).zipWith (λ(j:Nat) t=>T.tup [T.int (j:Int),t]) l=oH p l:=by
 induction l with
 |nil=>intro p;rfl
 |cons t l a=>
  intro p;rw[cK,Co,List.zipWith_cons_cons,a];rfl
theorem A7(l:List T):iO l=oH 0 l:=by unfold iO;rw[acN,U7]
def Lt(c:Nat):Prop:=c=114\/c=103\/c=98\/c=13191
theorem UY{k:Nat}(h:k<12):(X.v (T.lst (eW.map T.int))).item (T.int (k:Int))=some (T.int (eW.getD k 0))/\65<=eW.getD k 0:=by
 have:((aO 12).all λk=>decide ((eW)[k]?=some (eW.getD k 0))&&decide (65<=eW.getD k 0))=true:=by decide+kernel
 have:=c8.mp this k (eu.mpr h);simp only[fg,decide_eq_true_eq]at this;refine⟨wz ?_ (by decide),this.2⟩;rw[fR,this.1];rfl
theorem Xv{i k:Nat}(hi:i<3)(hk:k<3):∃ r,(X.v (T.lst (eF.map λr=>T.lst (r.map T.int)))).item (T.int (i:Int))=some r/\(X.v r).item (T.int (k:Int))=some (T.int ((eF.getD i []).getD k 0))/\0<=(eF.getD i []).getD k 0:=by
 refine aQ λa=>?_;have:((aO 3).all λi=>(aO 3).all λk=>decide (eF[i]?=some (eF.getD i []))&&decide ((eF.getD i [])[k]?=some ((eF.getD i []).getD k 0))&&decide (0<=(eF.getD i []).getD k 0)&&decide ((eF.getD i []).length<=1000000))=true:=by decide+kernel
 have:=c8.mp (c8.mp this i (eu.mpr hi)) k (eu.mpr hk);simp only[fg,decide_eq_true_eq]at this;refine bn this λb h4=>?_;clear this;obtain⟨⟨h1,h2⟩,h3⟩:=b;refine a (cI (T.lst ((eF.getD i []).map T.int)) (wz ?_ (by decide)) (wz ?_ (by rw[dm];exact h4)) h3)
 ·rw[fR,h1];rfl
 ·rw[fR,h2];rfl
theorem K6(c:Nat):pM (.v (cy c))=some (.v (.int (c:Int))):=rfl
theorem aap{w:S}{st p c:Nat}{acc:List T}{x6 x7 x8:S}{Y:List T}(hc:Lt c)(A:acc.length<=1000):
  ∃ C D,vm [w,.v (.int (st:Int)),.v (.lst (fI.map T.int)),.v (.lst (eW.map T.int)),.v (.lst (eF.map λr=>T.lst (r.map T.int))),.own acc,.v (.int (p:Int)),.v (cy c),x8] Y
   = some (.nx,[w,.v (.int (st:Int)),.v (.lst (fI.map T.int)),.v (.lst (eW.map T.int)),.v (.lst (eF.map λr=>T.lst (r.map T.int))),.own (acc++[cy (gG st p),cy (eM (kd st p) c)]),.v (.int (p:Int)),C,D],Y):=by
 have E:=LP st p;have j:=(yC st p).2;have hk:=Py st p;have f:=Ar st p;have B:=(Bs (k:=kd st p) (c:=c) f (by unfold Lt at hc;exact sR hc)).2.2;have m:dn .Mult (.int 10) (.int (p:Int))=some (.int (10*(p:Int))):=qB (.inl (by decide));have F:dn .Mult (.int 4) (.int (p:Int))=some (.int (4*(p:Int))):=qB (.inl (by decide));have f2:dn .FloorDiv (.int (st:Int)) (.int 2)=some (.int (n0 (st:Int) 2)):=nu (by decide) (by decide);have n:dn .FloorDiv (.int (st:Int)) (.int 54)=some (.int (n0 (st:Int) 54)):=nu (by decide) (by decide);have o:dn .Mod (.int (n0 (st:Int) 2+10*(p:Int))) (.int 27)=some (.int (yt (n0 (st:Int) 2+10*(p:Int)) 27)):=ms (by decide);have q:dn .Mod (.int (n0 (st:Int) 54+4*(p:Int))) (.int 15)=some (.int ((kd st p:Nat):Int)):=by rw[ms (by decide),hk]
 have a1:dM 5 (bL [aR (dV 2) (dB .Mod (dB .Add (dB .FloorDiv (dV 1) (dK (.int 2))) (dB .Mult (dK (.int 10)) (dV 6))) (dK (.int 27)))] (cD nF)) [w,.v (.int (st:Int)),.v (.lst (fI.map T.int)),.v (.lst (eW.map T.int)),.v (.lst (eF.map λr=>T.lst (r.map T.int))),.own acc,.v (.int (p:Int)),.v (cy c),x8] Y
   = some (.nx,[w,.v (.int (st:Int)),.v (.lst (fI.map T.int)),.v (.lst (eW.map T.int)),.v (.lst (eF.map λr=>T.lst (r.map T.int))),.own (acc++[cy (gG st p)]),.v (.int (p:Int)),.v (cy c),x8],Y):=
  pR (db (bN (bM (aM rfl rfl) (bV (bV (bV (aM rfl rfl) rfl be rfl f2) rfl (bV be rfl (aM rfl rfl) rfl m) rfl rfl) rfl be rfl o) rfl E) cv) (gl (AF j))) rfl rfl (dR A)
 have a2:bW (aO 9) (.nm 8) (dB .Mod (dB .Add (dB .FloorDiv (dV 1) (dK (.int 54))) (dB .Mult (dK (.int 4)) (dV 6))) (dK (.int 15))) [w,.v (.int (st:Int)),.v (.lst (fI.map T.int)),.v (.lst (eW.map T.int)),.v (.lst (eF.map λr=>T.lst (r.map T.int))),.own (acc++[cy (gG st p)]),.v (.int (p:Int)),.v (cy c),x8] Y
   = some (.nx,[w,.v (.int (st:Int)),.v (.lst (fI.map T.int)),.v (.lst (eW.map T.int)),.v (.lst (eF.map λr=>T.lst (r.map T.int))),.own (acc++[cy (gG st p)]),.v (.int (p:Int)),.v (cy c),.v (.int ((kd st p:Nat):Int))],Y):=
  ef (bV (bV (bV (aM rfl rfl) rfl be rfl n) rfl (bV be rfl (aM rfl rfl) rfl F) rfl rfl) rfl be rfl q) rfl (cC rfl (by simp))
 have a3:gD (tA (tC .In (dV 7) (dK (.str (aK "rgb")))) (tC .Lt (dV 8) (dK (.int 12)))) zj ve [w,.v (.int (st:Int)),.v (.lst (fI.map T.int)),.v (.lst (eW.map T.int)),.v (.lst (eF.map λr=>T.lst (r.map T.int))),.own (acc++[cy (gG st p)]),.v (.int (p:Int)),.v (cy c),.v (.int ((kd st p:Nat):Int))] Y
   = some (.nx,[w,.v (.int (st:Int)),.v (.lst (fI.map T.int)),.v (.lst (eW.map T.int)),.v (.lst (eF.map λr=>T.lst (r.map T.int))),.own (acc++[cy (gG st p)]),.v (.int (p:Int)),.v (cy (eM (kd st p) c)),.v (.int ((kd st p:Nat):Int))],Y):=by
  by_cases d:c=13191
  ·subst d;have e:eM (kd st p) 13191=13191:=by unfold eM;rw[if_pos rfl]
   rw[e];unfold ve;exact kw (QE (jm (aM rfl rfl) rfl be rfl Ef)) (bz (kw (jm (aM rfl rfl) rfl be rfl Ef) dT) dT)
  ·have b:c=114\/c=103\/c=98:=by unfold Lt at hc;exact MK hc d
   by_cases a:kd st p<12
   ·refine bn (UY a) λs u=>?_;have e:eW.getD (kd st p) 0+(c:Int)-97=((eM (kd st p) c:Nat):Int):=by
     unfold eM;rw[if_neg d,if_pos a];generalize eW.getD (kd st p) 0=z at*;exact Ve b u
    have g:nF (.v (.int (eW.getD (kd st p) 0+(c:Int)-97)))=some (.v (cy (eM (kd st p) c))):=by rw[e];exact AF B
    have h:d9 .Lt (.int ((kd st p:Nat):Int)) (.int 12)=some true:=by show some (decide _)=_;rw[decide_eq_true (Pg a)]
    unfold zj;exact mh (Eo (jm (aM rfl rfl) rfl be rfl (AU b)) (jm (aM rfl rfl) rfl be rfl h)) (bz (ef (db (bN (bV (bV (bM (aM rfl rfl) (aM rfl rfl) rfl s) rfl (db (bN (aM rfl rfl) cv) (gl (K6 c))) rfl rfl) rfl be rfl rfl) cv) (gl g)) rfl (cC rfl (by simp))) dT)
   ·have h:d9 .Lt (.int ((kd st p:Nat):Int)) (.int 12)=some false:=by show some (decide _)=_;rw[decide_eq_false (RR a)]
    refine aQ λG=>ej (Xv (i:=if c=114 then 0 else if c=103 then 1 else 2) (k:=kd st p-12) (by split<;>(try split)<;>lia) (Zs f)) λr s u H=>G ?_;have e:(eF.getD (if c=114 then 0 else if c=103 then 1 else 2) []).getD (kd st p-12) 0=((eM (kd st p) c:Nat):Int):=by
     unfold eM;rw[if_neg d,if_neg a];exact((Cf H).symm)
    have g:nF (.v (.int ((eF.getD (if c=114 then 0 else if c=103 then 1 else 2) []).getD (kd st p-12) 0)))=some (.v (cy (eM (kd st p) c))):=by rw[e];exact AF B
    have v:dn .Sub (.int ((kd st p:Nat):Int)) (.int 12)=some (.int ((kd st p-12:Nat):Int)):=by
     have e:((kd st p:Nat):Int)-12=((kd st p-12:Nat):Int):=abu a;show some (T.int (((kd st p:Nat):Int)-12))=_;rw[e]
    have y:=TR b;unfold ve E5;exact kw (Eo (jm (aM rfl rfl) rfl be rfl (AU b)) (jm (aM rfl rfl) rfl be rfl h)) (bz (mh (jm (aM rfl rfl) rfl be rfl (AU b)) (bz (ef (db (bN (bM (bM (aM rfl rfl) (n7 be rfl (bN (aM rfl rfl) cv) (pX y)) rfl s) (bV (aM rfl rfl) rfl be rfl v) rfl u) cv) (gl g)) rfl (cC rfl (by simp))) dT)) dT)
 have I:acc++[cy (gG st p),cy (eM (kd st p) c)]=acc++[cy (gG st p)]++[cy (eM (kd st p) c)]:=by rw[eO];rfl
 have a4:dM 5 (dV 7) [w,.v (.int (st:Int)),.v (.lst (fI.map T.int)),.v (.lst (eW.map T.int)),.v (.lst (eF.map λr=>T.lst (r.map T.int))),.own (acc++[cy (gG st p)]),.v (.int (p:Int)),.v (cy (eM (kd st p) c)),.v (.int ((kd st p:Nat):Int))] Y
   = some (.nx,[w,.v (.int (st:Int)),.v (.lst (fI.map T.int)),.v (.lst (eW.map T.int)),.v (.lst (eF.map λr=>T.lst (r.map T.int))),.own (acc++[cy (gG st p),cy (eM (kd st p) c)]),.v (.int (p:Int)),.v (cy (eM (kd st p) c)),.v (.int ((kd st p:Nat):Int))],Y):=by
  rw[I];exact pR (l:=acc++[cy (gG st p)]) (t:=cy (eM (kd st p) c)) (x:=.v (cy (eM (kd st p) c))) (aM rfl rfl) rfl rfl (by rw[cU];simp;exact wt A)
 refine(dA (.v (cy (eM (kd st p) c))) (.v (.int ((kd st p:Nat):Int))) ?_);unfold vm;exact bz a1 (bz a2 (bz a3 (bz a4 dT)))
theorem O9{w:S}{st:Nat}{Y:List T}:∀ (d:List Nat) (p:Nat) (a:List T) (e f b:S),(∀ c∈d,Lt c)->a.length+2*d.length<=1000->
  ∃ m g i,em (bU (aO 9) (.tp [(.nm 6),(.nm 7)])) vm (oH p (d.map cy)) [w,.v (.int (st:Int)),.v (.lst (fI.map T.int)),.v (.lst (eW.map T.int)),.v (.lst (eF.map λr=>T.lst (r.map T.int))),.own a,e,f,b] Y
   = some (.nx,[w,.v (.int (st:Int)),.v (.lst (fI.map T.int)),.v (.lst (eW.map T.int)),.v (.lst (eF.map λr=>T.lst (r.map T.int))),.own (a++(ki st p d).map cy),m,g,i],Y):=by
 intro j;induction j with
 |nil=>
  intro p a e f b _ _;exact(dH e f b (by simp only[OM,wI,rO,gW];rfl))
 |cons c d k=>
  intro p a e f b hc l;refine aQ λn=>?_;simp only[cK]at l;obtain⟨g,i,h1⟩:=aap (w:=w) (st:=st) (p:=p) (c:=c) (acc:=a) (x6:=e) (x7:=f) (x8:=b) (Y:=Y) (hc c (.head _)) (xF l);obtain⟨o,q,s,h2⟩:=k (p+1) (a++[cy (gG st p),cy (eM (kd st p) c)]) (.v (.int (p:Int))) g i (λc h=>hc c (.tail _ h)) (by rw[cU];simp;exact XE l);refine n (dH o q s ?_);rw[eO]at h2;exact gk (I:=[w,.v (.int (st:Int)),.v (.lst (fI.map T.int)),.v (.lst (eW.map T.int)),.v (.lst (eF.map λr=>T.lst (r.map T.int))),.own a,.v (.int (p:Int)),.v (cy c),b]) rfl h1 h2
noncomputable def sgn(st:Nat)(w:List Nat):List Nat:=if st%2=1 then tK w else w
theorem Gg(st:Nat){w:List Nat}(h:w∈kx):(sgn st w).flatMap n8=w/\(sgn st w).length<=3/\∀ c∈sgn st w,Lt c:=by
 have h1:=c8.mp abX w h;have h2:=c8.mp IA w h;simp only[fg,beq_iff_eq,decide_eq_true_eq]at h1 h2;have key:∀ l:List Nat,(l.all λc=>[114,103,98,13191].contains c)=true->∀ c∈l,Lt c:=λl a c hc=>by
  have:=c8.mp a c hc;simp at this;unfold Lt;exact sR this
 unfold sgn;split
 ·exact⟨h1.1.1,h1.1.2,key _ h1.2⟩
 ·exact⟨h2.1.1,h2.1.2,key _ h2.2⟩
theorem Q5(l:List Nat):l5 (cj l)=l.map cy:=by unfold l5 cj;rfl
theorem VD(w:List Nat):l5 (Txt.replace (cj w) (aK "gb") ⟨#[(13191:Int).toNat]⟩)=(tK w).map cy:=rfl
theorem SI(st:Nat){w:List Nat}(h:w∈kx)(Y:List T):cf pH 2 pz [.v (.str (cj w)),.v (.int (st:Int))] Y=some (.v (.lst ((ki st 0 (sgn st w)).map cy)),Y):=by
 refine aQ λa=>bO (Gg st h) λg1 g2 g3=>a ?_;have hw:w.length<=3:=by
  have h2:=c8.mp IA w h;simp only[fg,beq_iff_eq,decide_eq_true_eq]at h2;exact h2.1.2
 refine aQ λa=>eZ (O9 (w:=.v (.str (cj w))) (st:=st) (Y:=Y) (sgn st w) 0 [] .no .no .no g3 (by simp;exact EQ g2)) λe f g b=>a ?_;rw[<- A7]at b;refine' kq (σ0:=[_,_,.no,.no,.no,.no,.no,.no,.no]) rfl rfl rfl ?h1 ?h2
 case h1=>
  unfold pz;refine' bz (I:=[.v (.str (cj w)),.v (.int (st:Int)),.v (.lst (fI.map T.int)),.no,.no,.no,.no,.no,.no]) (G:=Y) ?a1 (bz (I:=[.v (.str (cj w)),.v (.int (st:Int)),.v (.lst (fI.map T.int)),.v (.lst (eW.map T.int)),.no,.no,.no,.no,.no]) (G:=Y) ?a2 (bz (I:=[.v (.str (cj w)),.v (.int (st:Int)),.v (.lst (fI.map T.int)),.v (.lst (eW.map T.int)),.v (.lst (eF.map λr=>T.lst (r.map T.int))),.no,.no,.no,.no]) (G:=Y) ?a3 (bz (I:=[.v (.str (cj w)),.v (.int (st:Int)),.v (.lst (fI.map T.int)),.v (.lst (eW.map T.int)),.v (.lst (eF.map λr=>T.lst (r.map T.int))),.own [],.no,.no,.no]) (G:=Y) ?a4 (bz (iw (items:=iO ((sgn st w).map cy)) ?a5 b) (ij (kh (aM rfl rfl)))))))
  case a1=>rfl
  case a2=>rfl
  case a3=>rfl
  case a4=>rfl
  case a5=>
   have c:dn .Mod (.int (st:Int)) (.int 2)=some (.int ((st%2:Nat):Int)):=by rw[ms (by decide)];exact congrArg _ (congrArg _ (oF st 2))
   unfold sgn;by_cases q:st%2=1
   ·rw[if_pos q,<- VD];refine DJ (yD (qn (bV (aM rfl rfl) rfl be rfl c) rfl (show oh _=some true by rw[q];rfl)) ?_);show(if _ then _ else _)=_;rw[if_pos ⟨show(cj w).cps.size<=1000 by unfold cj;rw[eY];exact IY hw,by decide,by decide,by decide+kernel⟩]
   ·have d:st%2=0:=Ly q;rw[if_neg q,<- Q5];exact DJ (Ag (qn (bV (aM rfl rfl) rfl be rfl c) rfl (show oh _=some false by rw[d];rfl)) (aM rfl rfl))
 case h2=>rfl
noncomputable def ql(j:Nat):Nat:=if j=0 then 114 else if j=1 then 103 else 98
noncomputable def cR(cell:Nat):List Nat:=(aO (cell%4)).map λk=>ql (cell/4/3^k%3)
theorem XD:∀ w:List Nat,w.length<=3->(∀ c∈w,c=114\/c=103\/c=98)->w∈kx
 |[],_,_=>by decide
 |[a],_,h=>by
  have e:=h a (.head _);rcases e with rfl|rfl|rfl<;>decide
 |[a,b],_,h=>by
  have e:=h a (.head _);have f:=h b (.tail _ (.head _));rcases e with rfl|rfl|rfl<;>rcases f with rfl|rfl|rfl<;>decide
 |[a,b,c],_,h=>by
  have e:=h a (.head _);have f:=h b (.tail _ (.head _));have hc:=h c (.tail _ (.tail _ (.head _)));rcases e with rfl|rfl|rfl<;>rcases f with rfl|rfl|rfl<;>rcases hc with rfl|rfl|rfl<;>decide
 |a::b::c::d::r,h,_=>by simp at h
theorem BZ(cell:Nat):cR cell∈kx:=by
 refine XD _ ?_ λc hc=>?_
 ·unfold cR;rw[dm,kc];exact Wa
 ·refine aV (eh.mp hc) λk _ a=>?_;subst a;unfold ql;split
  ·exact .inl rfl
  ·split
   ·exact .inr (.inl rfl)
   ·exact .inr (.inr rfl)
theorem Fo(a:List Str)(h:(a.map (·.length)).sum<=1000000):nh (.v (.str (aK ""))) (.fr (a.map T.str))=some (.v (.str (cj (a.flatMap λy=>y.cps.toList)))):=by
 show((strs? (a.map T.str)).bind λa=>if (a.map (·.length)).sum+a.length*(aK "").length<=1000000 then some (X.v (.str (Txt.join (aK "") a)))else none)=_;rw[strs_map,ip,if_pos,join_nil];have:(aK "").length=0:=by decide+kernel
 rw[this];exact Wq h
theorem HD(a:List Str):(a.map (·.length)).sum=(a.flatMap λy=>y.cps.toList).length:=by
 induction a with
 |nil=>rfl
 |cons y a b=>
  rw[cB,List.sum_cons,b,yr,cU];rfl
theorem xd{w:List Nat}(h:w∈kx):w.length<=3/\w.count 114+w.count 103+w.count 98=w.length:=by
 have:(kx.all λw=>decide (w.length<=3)&&decide (w.count 114+w.count 103+w.count 98=w.length))=true:=by decide+kernel
 have:=c8.mp this w h;simpa using this
noncomputable def vW(w:List Nat):V3:=⟨(w.count 114:Nat),(w.count 103:Nat),(w.count 98:Nat)⟩
noncomputable def vC(cell:Nat):V3:=vW (cR cell)
theorem abO{w:List Nat}(h:w∈kx):∀ c,jE c->0<=c (vW w)/\c (vW w)<=3:=λc hc=>by
 refine bn (xd h) λh1 h2=>?_;rcases hc with rfl|rfl|rfl<;>simp only[vW]<;>lia
theorem QC(k:Nat):((3:Int)^((k:Int)).toNat)=((3^k:Nat):Int):=by rw[mH];simp
theorem TJ{j:Nat}(h:j<3):JQ (aK "rgb") (j:Int)=some (ql j):=by
 have:j=0\/j=1\/j=2:=wU h;rcases this with rfl|rfl|rfl<;>kernel_rfl
theorem QP(st:Nat){a:List Nat}(h:∀ c∈a,Lt c):∀ p,((ki st p a).filter λ(c:Nat)=>!d8 (c:Int)).map m3=a.map λc=>cj (n8 c):=by
 induction a with
 |nil=>intro p;rfl
 |cons c a b=>
  intro p;have h1:=(yC st p).1;have h2:=Bs (Ar st p) (c:=c) (by have:=h c (.head _);unfold Lt at this;exact sR this);rw[wI];rw[uE (by simp[h1]),rS (by simp[h2.1]),cB,cB,b (λc hc=>h c (.tail _ hc)) (p+1),h2.2.1]
theorem ZX(st:Nat){a:List Nat}(h:∀ c∈a,Lt c):∀ p,(ki st p a).map (λ(c:Nat)=>d8 (c:Int))=a.flatMap λ_=>[true,false]:=by
 induction a with
 |nil=>intro p;rfl
 |cons c a b=>
  intro p;have h1:=(yC st p).1;have h2:=Bs (Ar st p) (c:=c) (by have:=h c (.head _);unfold Lt at this;exact sR this);rw[wI];rw[cB,cB,b (λc hc=>h c (.tail _ hc)) (p+1),h1,h2.1];rfl
theorem PR(st:Nat)(a:List Nat):∀ p,(ki st p a).length=2*a.length:=by
 induction a with
 |nil=>intro p;rfl
 |cons c a b=>intro p;rw[wI];simp only[cK];rw[b];exact(Nat.succ_add (2*_) 1)
theorem S4{d:List Nat}(h:d.length<=3):eqT 6 (.lst ((d.flatMap λ_=>[true,false]).map λb=>T.tup [.bool b,.bool !b])) (.lst ((aO (2*d.length)).map λ(k:Nat)=>T.tup [.bool (decide (k%2=0)),.bool (decide (k%2=1))]))=true:=by
 match d,h with
 |[],_=>kernel_rfl
 |[a],_=>kernel_rfl
 |[a,b],_=>kernel_rfl
 |[a,b,c],_=>kernel_rfl
 |_::_::_::_::_,h=>simp at h
noncomputable def ey(b:Nat×Nat×V3):T:=.tup [.int (b.1:Int),.int (b.2.1:Int),tB b.2.2]
section
variable{O:List S}{Y:List T}(hl:O.length=52)
include hl
theorem UW{cell:Nat}(g:O[9]?=some (.v (.int (cell:Int))))(d:O[49]?=some .no):
  iD "str" (dK (.str (aK ""))) [cM (cn [49] (.nm 49) (iR (dB .Mod (dV 9) (dK (.int 4)))) (λ_ Y=>some (true,Y)) (cF tP) (.own []))] (gS nh) O Y=some (.v (.str (cj (cR cell))),Y):=by
 have m:dn .Mod (.int (cell:Int)) (.int 4)=some (.int ((cell%4:Nat):Int)):=by rw[ms (by decide)];exact congrArg _ (congrArg _ (oF cell 4))
 have e:=fV (bind:=bU [49] (.nm 49)) (test:=λ_ Y=>some (true,Y)) (fx:=tP) (Y:=Y) (λk:Nat=>T.int (k:Int)) (λ_=>true) (λk=>T.str ⟨#[ql (cell/4/3^k%3)]⟩) (bf [49] O) (λk I=>I[49]?=some (.v (.int (k:Int))))
  (aO (cell%4)) [] O (.refl O) (by rw[iJ,kc];exact acf) (λa _=>hJ hl) (λ_ _ _ _ _=>rfl) (λk hk I n o _=>⟨.v (.str ⟨#[ql (cell/4/3^k%3)]⟩),?_,rfl⟩)
 ·rw[ic,eE]at e;have p:(aO (cell%4)).map (λk=>T.str ⟨#[ql (cell/4/3^k%3)]⟩)=((cR cell).map λc=>(⟨#[c]⟩:Str)).map T.str:=by unfold cR;rw[il,il];rfl
  rw[p]at e;have h:((cR cell).map λc=>(⟨#[c]⟩:Str)).flatMap (λy=>y.cps.toList)=cR cell:=by
   generalize cR cell=l;induction l with
   |nil=>rfl
   |cons c l q=>rw[cB,yr,q];rfl
  have i:=Fo ((cR cell).map λc=>(⟨#[c]⟩:Str)) (by rw[HD,h];have:=(xd (BZ cell)).1;exact GQ this);rw[h]at i;exact n7 be rfl (bN (fJ (eJ (eV d) (jJ (bV (aM g rfl) rfl be rfl m) rfl (KM)) e) rfl) cv) (pX i)
 ·have b:k<4:=by have:=eu.mp hk;omega
  have r:dn .FloorDiv (.int (cell:Int)) (.int 4)=some (.int ((cell/4:Nat):Int)):=by rw[nu (by decide) (by decide)];exact congrArg _ (congrArg _ (qV cell 4))
  have d2:dn .Pow (.int 3) (.int (k:Int))=some (.int ((3^k:Nat):Int)):=by rw[tQ (kB) (W8 b) (by decide),QC]
  have x:0<3^k:=Nat.pow_pos (by decide);have f:3^k<=3^4:=xU (by decide) (jN b);have s:dn .FloorDiv (.int ((cell/4:Nat):Int)) (.int ((3^k:Nat):Int))=some (.int ((cell/4/3^k:Nat):Int)):=by
   rw[nu (by omega) (by have:(2:Nat)^64=18446744073709551616:=rfl;exact We f)];exact congrArg _ (congrArg _ (qV _ _))
  have t:dn .Mod (.int ((cell/4/3^k:Nat):Int)) (.int 3)=some (.int ((cell/4/3^k%3:Nat):Int)):=by rw[ms (by decide)];exact congrArg _ (congrArg _ (oF _ 3))
  have u:=TJ (j:=cell/4/3^k%3) (S9);have w:dB .Mod (dB .FloorDiv (dB .FloorDiv (dV 9) (dK (.int 4))) (dB .Pow (dK (.int 3)) (dV 49))) (dK (.int 3)) I Y=some (.v (.int ((cell/4/3^k%3:Nat):Int)),Y):=
   bV (bV (bV (aM (n.get g rfl) rfl) rfl be rfl r) rfl (bV be rfl (aM o rfl) rfl d2) rfl s) rfl be rfl t
  unfold tP Be;rw[show dK (T.str (aK "rgb")) I Y=some (.v (.str (aK "rgb")),Y)from rfl,ip,w,ip];show(if (-1000:Int)<=((cell/4/3^k%3:Nat):Int)/\((cell/4/3^k%3:Nat):Int)<=1000 then(JQ (aK "rgb") ((cell/4/3^k%3:Nat):Int)).map λc=>(X.v (.str ⟨#[c]⟩),Y)else none)=_;rw[if_pos (L9),u];rfl
theorem WZ{L:List Nat}{b:S}(d:O[11]?=some (.v (.lst (L.map cy))))(e:O[12]?=some b)(h:b.isOwnB=false)(f:O[49]?=some .no)(i:L.length<=1000):
  jD 12 (jU (aO 52) 12 (cn [49] (.nm 49) (iL none (dV 11)) (λ_ Y=>some (true,Y)) (cF AC) (.own []))) O Y=some (.nx,O.set 12 (.v (.lst (L.map λ(c:Nat)=>T.bool (d8 (c:Int))))),Y):=by
 have g:=fV (bind:=bU [49] (.nm 49)) (test:=λ_ Y=>some (true,Y)) (fx:=AC) (Y:=Y) cy (λ_=>true) (λ(c:Nat)=>T.bool (d8 (c:Int))) (bf [49] O) (λc I=>I[49]?=some (.v (cy c)))
  L [] O (.refl O) (by simp;exact dR i) (λa _=>hJ hl) (λ_ _ _ _ _=>rfl) (λc hc I k j _=>⟨.v (.bool (d8 (c:Int))),db (bN (aM j rfl) cv) (UV c Y),rfl⟩)
 rw[ic,eE]at g;exact tT e h (eJ (eV f) (ie (aM d rfl) rfl rfl) g) rfl rfl (l0 hl rfl)
theorem PK{L w:List Nat}{b:List Str}(d:O[11]?=some (.v (.lst (L.map cy))))(e:O[12]?=some (.v (.lst (L.map λ(c:Nat)=>T.bool (d8 (c:Int))))))(f:O[49]?=some .no)(g:O[50]?=some .no)(m:L.length<=1000)
  (n:((L.filter λ(c:Nat)=>!d8 (c:Int)).map m3)=b) (hw:b.flatMap (λy=>y.cps.toList)=w) (h:w.length<=1000) :
  iD "str" (dK (.str (aK ""))) [cM (cn [49,50] (.tp [(.nm 49),(.nm 50)]) (iZ (dV 11) (dV 12)) r9 (cF vu) (.own []))] (gS nh) O Y=some (.v (.str (cj w)),Y):=by
 have i:=fV (bind:=bU [49,50] (.tp [.nm 49,.nm 50])) (test:=r9) (fx:=vu) (Y:=Y) (λc:Nat=>T.tup [cy c,T.bool (d8 (c:Int))]) (λ(c:Nat)=>!d8 (c:Int)) (λc=>T.str (m3 c)) (bf [49,50] O) (λ(c:Nat) I=>I[49]?=some (.v (cy c))/\I[50]?=some (.v (.bool (d8 (c:Int)))))
  L [] O (.refl O) (by simp;exact dR m) (λa _=>Gm hl) (λc _ I o j=>Tc (qn (aM j.2 rfl) rfl rfl)) (λc hc I o j _=>⟨.v (.str (m3 c)),db (bN (aM j.1 rfl) cv) (MC c Y),rfl⟩)
 rw[eE]at i;have p:(L.filter λ(c:Nat)=>!d8 (c:Int)).map (λc=>T.str (m3 c))=b.map T.str:=by rw[<- n,il];rfl
 rw[p]at i;have k:lY (L.map cy) (L.map λ(c:Nat)=>T.bool (d8 (c:Int)))=L.map λc:Nat=>T.tup [cy c,T.bool (d8 (c:Int))]:=by unfold lY;rw[List.zipWith_map,List.zipWith_self]
 have l:=Fo b (by rw[HD,hw];exact dR h);rw[hw]at l;exact n7 be rfl (bN (fJ (eJ (lu f (eV g)) (GJ (aM d rfl) (aM e rfl) ⟨rfl,rfl⟩ rfl rfl k) i) rfl) cv) (pX l)
theorem Me{c:List Bool}{n:Nat}(h4:O[4]?=some .nts)(d:O[12]?=some (.v (.lst (c.map T.bool))))(e:O[49]?=some .no)(j:c.length=n)(i:n<=1000)(l:Y.length<=1000000)
  (hq:eqT 6 (.lst (c.map λb=>T.tup [.bool b,.bool !b])) (.lst ((aO n).map λ(k:Nat)=>T.tup [.bool (decide (k%2=0)),.bool (decide (k%2=1))]))=true) :
  ∃ o,dM 4 (cJ [cM (cn [49] (.nm 49) (iL none (dV 12)) (λ_ Y=>some (true,Y)) (cF BI) (.own [])),cM (cn [49] (.nm 49) (iR (bL [dV 12] (cD iB))) (λ_ Y=>some (true,Y)) (cF zP) (.own []))]) O Y=some (.nx,O,Y++[o])/\kE o:=by
 have p:=fV (bind:=bU [49] (.nm 49)) (test:=λ_ Y=>some (true,Y)) (fx:=BI) (Y:=Y) T.bool (λ_=>true) (λb=>T.tup [.bool b,.bool !b]) (bf [49] O) (λb I=>I[49]?=some (.v (.bool b)))
  c [] O (.refl O) (by simp;exact D6 j i) (λa _=>hJ hl) (λ_ _ _ _ _=>rfl) (λb t I s f _=>⟨.v (.tup [.bool b,.bool !b]),by
   have c1:d9 .Is (.bool b) (.bool true)=some b:=by cases b<;>rfl
   have m:d9 .Is (.bool b) (.bool false)=some (!b):=by cases b<;>rfl
   exact eD (bQ (kO (aM f rfl) rfl be rfl c1) rfl (bQ (kO (aM f rfl) rfl be rfl m) rfl df)),rfl⟩)
 have q:=fV (bind:=bU [49] (.nm 49)) (test:=λ_ Y=>some (true,Y)) (fx:=zP) (Y:=Y) (λk:Nat=>T.int (k:Int)) (λ_=>true) (λk=>T.tup [.bool (decide (k%2=0)),.bool (decide (k%2=1))]) (bf [49] O) (λk I=>I[49]?=some (.v (.int (k:Int))))
  (aO n) [] O (.refl O) (by simp;exact dR i) (λa _=>hJ hl) (λ_ _ _ _ _=>rfl) (λk hk I s f _=>⟨.v (.tup [.bool (decide (k%2=0)),.bool (decide (k%2=1))]),by
   have r:dn .Mod (.int (k:Int)) (.int 2)=some (.int ((k%2:Nat):Int)):=by rw[ms (by decide)];exact congrArg _ (congrArg _ (oF k 2))
   have h2:k%2=0\/k%2=1:=(Nat.mod_two_eq_zero_or_one _);have c1:d9 .Eq (.int ((k%2:Nat):Int)) (.int 0)=some (decide (k%2=0)):=by rcases h2 with h|h<;>rw[h]<;>rfl
   have m:d9 .Eq (.int ((k%2:Nat):Int)) (.int 1)=some (decide (k%2=1)):=by rcases h2 with h|h<;>rw[h]<;>rfl
   exact eD (bQ (kO (bV (aM f rfl) rfl be rfl r) rfl be rfl c1) rfl (bQ (kO (bV (aM f rfl) rfl be rfl r) rfl be rfl m) rfl df)),rfl⟩)
 rw[ic,eE]at p q;have g:bL [dV 12] (cD iB) O Y=some (.v (.int (n:Int)),Y):=by
  refine db (bN (aM d rfl) cv) (gl ?_);show(if (c.map T.bool).length<=1000000 then some (X.v (T.int ((c.map T.bool).length:Int)))else none)=_;rw[if_pos (by rw[dm];exact D6 j i),dm,j]
 exact⟨_,kU (eD (bQ (fJ (eJ (eV e) (ie (aM d rfl) rfl rfl) p) rfl) rfl (bQ (fJ (eJ (eV e) (jJ g rfl (HB i)) q) rfl) rfl df))) rfl h4 l,_,_,rfl,hq⟩
theorem Kq{w:List Nat}(hw:w∈kx)(a:O[13]?=some (.v (.str (cj w)))):
  bW (aO 52) (.nm 14) (cJ [iD "str" (dV 13) [dK (.str (aK "r"))] (gS kN),iD "str" (dV 13) [dK (.str (aK "g"))] (gS kN),iD "str" (dV 13) [dK (.str (aK "b"))] (gS kN),bL [dV 13] (cD iB)]) O Y=some (.nx,O.set 14 (.v (tB (vW w))),Y):=by
 have hc:=c8.mp WW w hw;simp only[fg,beq_iff_eq]at hc;refine aQ λc=>bn hc λd e=>?_;clear hc;obtain⟨c1,f⟩:=d;refine bn (xd hw) λg h=>c ?_;have i:kN (.v (.str (cj w))) (.v (.str (aK "r")))=some (.v (.int ((w.count 114:Nat):Int))):=by show some (X.v (T.int _))=_;rw[c1]
 have j:kN (.v (.str (cj w))) (.v (.str (aK "g")))=some (.v (.int ((w.count 103:Nat):Int))):=by show some (X.v (T.int _))=_;rw[f]
 have l:kN (.v (.str (cj w))) (.v (.str (aK "b")))=some (.v (.int ((w.count 98:Nat):Int))):=by show some (X.v (T.int _))=_;rw[e]
 have b:(cj w).length=w.length:=by show(cj w).cps.size=_;unfold cj;exact eY
 have m:iB (.v (.str (cj w)))=some (.v (.int ((w.count 114:Nat)+(w.count 103:Nat)+(w.count 98:Nat):Int))):=by
  refine DI (aT rfl ((if_pos (by rw[b];exact GQ g)).trans (congrArg (λk:Int=>some (X.v (.int k))) ?_)));rw[b];exact O0 h
 exact ef (t:=tB (vW w)) (eD (bQ (n7 (aM a rfl) rfl (bN be cv) (pX i)) rfl (bQ (n7 (aM a rfl) rfl (bN be cv) (pX j)) rfl (bQ (n7 (aM a rfl) rfl (bN be cv) (pX l)) rfl (bQ (db (bN (aM a rfl) cv) (gl m)) rfl df))))) rfl (cC rfl (l0 hl rfl))
theorem F7{B:List T}{v u:V3}{l:Dc}{a b i j:Nat}(h6:O[6]?=some (.own B))(c:O[14]?=some (.v (tB v)))(e:O[a]?=some (.v (.int (i:Int))))(k:O[b]?=some (.v (.int (j:Int))))(f:B[i]?=some (bR u l))(h:B.length<=1000)(m:(keys l).Nodup)(d:l.length<=1000):
  jK 6 (dV a) (bL [aR (dV 6) (dV a),iY (dV 14) (cJ [nw (dV b) (dV 14)])] (cf jq 2 jM)) O Y=some (.nx,O.set 6 (.own (B.set i (bR (cq v u) (ac l [(j,v)])))),Y):=by
 have n:iY (dV 14) (cJ [nw (dV b) (dV 14)]) O Y=some (.v (bR v [(j,v)]),Y):=te (l:=[.int v.r,.int v.g,.int v.b,.int (v.r+v.g+v.b)]) (r:=[.dct (bp tB [(j,v)])]) (aM c rfl) (eD (bQ (FB (aM k rfl) (aM c rfl) rfl rfl) rfl df)) rfl rfl (by simp);exact pV (x:=.v (bR (cq v u) (ac l [(j,v)]))) (db (bN (bM (aM h6 rfl) (aM e rfl) rfl (gU f (dR h))) (bN n cv)) (BP m (by simp;exact wt d))) rfl (aM e rfl) rfl h6 (tq _ (je.mp f).1 (dR h))
end
noncomputable def mc:List Nat:=[5,6,9,10,11,12,13,14]
theorem Yu{O:List S}{Y:List T}{P:List Nat}{B:List T}{h:List (Nat×Nat×V3)}{s uj:V3}{q Q:Dc}{p i j cell:Nat}{r:S}(d:O.length=52)(h1:O[1]?=some (.own (bv P)))(W:P[p]?=some cell)(X:P.length<=1000)
  (h2:O[2]?=some (.v (.int (p:Int)))) (Z:O[7]?=some (.v (.int (i:Int)))) (h8:O[8]?=some (.v (.int (j:Int)))) (h4:O[4]?=some .nts) (h5:O[5]?=some (.own (h.map ey))) (h6:O[6]?=some (.own B)) (a0:B[i]?=some (bR s q)) (aa:B[j]?=some (bR uj Q)) (ab:i≠j)
  (ad:O[12]?=some r) (hS:r.isOwnB=false) (u:O[49]?=some .no) (ae:O[50]?=some .no) (af:(keys q).Nodup) (ag:(keys Q).Nodup) (ah:q.length<=1000) (ai:Q.length<=1000) (hz:B.length<=1000) (aj:h.length<=1000) (A:Y.length+10<=1000000) :
  ∃ U δ,xu O Y=some (.nx,U,Y++δ)/\bf mc O U/\U[5]?=some (.own ((h++[(i,j,vC cell)]).map ey))/\U[6]?=some (.own ((B.set i (bR (cq (vC cell) s) (ac q [(j,vC cell)]))).set j (bR (cq (vC cell) uj) (ac Q [(i,vC cell)]))))/\
   (∃ S,U[12]?=some S/\S.isOwnB=false)/\dF δ/\δ.length<=2:=by
 have hw:=BZ cell;refine aQ λnG=>bO (Gg (cell/108) hw) λg1 g2 g3=>nG ?_;have ak:(bv P)[p]?=some (.int (cell:Int)):=by unfold bv;rw[fR,W];rfl
 have a1:bW (aO 52) (.nm 9) (aR (dV 1) (dV 2)) O Y=some (.nx,O.set 9 (.v (.int (cell:Int))),Y):=ef (bM (aM h1 rfl) (aM h2 rfl) rfl (gU ak (by rw[iC];exact dR X))) rfl (cC rfl (l0 d rfl));have C:bf mc O (O.set 9 (.v (.int (cell:Int)))):=(bf.refl O).set rfl _;have p9:(O.set 9 (.v (.int (cell:Int))))[9]?=some (.v (.int (cell:Int))):=bS (l0 d rfl);have p5:(O.set 9 (.v (.int (cell:Int))))[5]?=some (.own (h.map ey)):=aW rfl h5;have p6:(O.set 9 (.v (.int (cell:Int))))[6]?=some (.own B):=aW rfl h6;have al:(O.set 9 (.v (.int (cell:Int))))[12]?=some r:=aW rfl ad;generalize O.set 9 (.v (.int (cell:Int)))=e at*;have a2:bW (aO 52) (.nm 10) (iD "str" (dK (.str (aK ""))) [cM (cn [49] (.nm 49) (iR (dB .Mod (dV 9) (dK (.int 4)))) (λ_ Y=>some (true,Y)) (cF tP) (.own []))] (gS nh)) e Y=some (.nx,e.set 10 (.v (.str (cj (cR cell)))),Y):=
  ef (UW (C.len d) p9 (C.get u rfl)) rfl (cC rfl (l0 (C.len d) rfl))
 have s2:bf mc O (e.set 10 (.v (.str (cj (cR cell))))):=C.set rfl _;have D:(e.set 10 (.v (.str (cj (cR cell)))))[10]?=some (.v (.str (cj (cR cell)))):=bS (l0 (C.len d) rfl);have q9:(e.set 10 (.v (.str (cj (cR cell)))))[9]?=some (.v (.int (cell:Int))):=aW rfl p9;have q5:(e.set 10 (.v (.str (cj (cR cell)))))[5]?=some (.own (h.map ey)):=aW rfl p5;have q6:(e.set 10 (.v (.str (cj (cR cell)))))[6]?=some (.own B):=aW rfl p6;have an:(e.set 10 (.v (.str (cj (cR cell)))))[12]?=some r:=aW rfl al;generalize e.set 10 (.v (.str (cj (cR cell))))=f at*;have E:dn .FloorDiv (.int (cell:Int)) (.int 108)=some (.int ((cell/108:Nat):Int)):=by rw[nu (by decide) (by decide)];exact congrArg _ (congrArg _ (qV cell 108))
 have a3:bW (aO 52) (.nm 11) (bL [dV 10,dB .FloorDiv (dV 9) (dK (.int 108))] (cf pH 2 pz)) f Y=some (.nx,f.set 11 (.v (.lst ((ki (cell/108) 0 (sgn (cell/108) (cR cell))).map cy))),Y):=
  ef (db (bN (aM D rfl) (bN (bV (aM q9 rfl) rfl be rfl E) cv)) (SI (cell/108) hw Y)) rfl (cC rfl (l0 (s2.len d) rfl))
 have t1:=QP (cell/108) g3 0;have t2:=ZX (cell/108) g3 0;have t3:=PR (cell/108) (sgn (cell/108) (cR cell)) 0;have t4:=S4 g2;generalize ki (cell/108) 0 (sgn (cell/108) (cR cell))=L at*;have R:bf mc O (f.set 11 (.v (.lst (L.map cy)))):=s2.set rfl _;have F:(f.set 11 (.v (.lst (L.map cy))))[11]?=some (.v (.lst (L.map cy))):=bS (l0 (s2.len d) rfl);have ao:(f.set 11 (.v (.lst (L.map cy))))[10]?=some (.v (.str (cj (cR cell)))):=aW rfl D;have r5:(f.set 11 (.v (.lst (L.map cy))))[5]?=some (.own (h.map ey)):=aW rfl q5;have r6:(f.set 11 (.v (.lst (L.map cy))))[6]?=some (.own B):=aW rfl q6;have aq:(f.set 11 (.v (.lst (L.map cy))))[12]?=some r:=aW rfl an;generalize f.set 11 (.v (.lst (L.map cy)))=m at*;have a4:=WZ (Y:=Y) (R.len d) F aq hS (R.get u rfl) (DO g2 t3);have z:bf mc O (m.set 12 (.v (.lst (L.map λ(c:Nat)=>T.bool (d8 (c:Int)))))):=R.set rfl _;have G:(m.set 12 (.v (.lst (L.map λ(c:Nat)=>T.bool (d8 (c:Int))))))[12]?=some (.v (.lst (L.map λ(c:Nat)=>T.bool (d8 (c:Int))))):=bS (l0 (R.len d) rfl);have ar:(m.set 12 (.v (.lst (L.map λ(c:Nat)=>T.bool (d8 (c:Int))))))[11]?=some (.v (.lst (L.map cy))):=aW rfl F;have au:(m.set 12 (.v (.lst (L.map λ(c:Nat)=>T.bool (d8 (c:Int))))))[10]?=some (.v (.str (cj (cR cell)))):=aW rfl ao;have u5:(m.set 12 (.v (.lst (L.map λ(c:Nat)=>T.bool (d8 (c:Int))))))[5]?=some (.own (h.map ey)):=aW rfl r5;have u6:(m.set 12 (.v (.lst (L.map λ(c:Nat)=>T.bool (d8 (c:Int))))))[6]?=some (.own B):=aW rfl r6;generalize m.set 12 (.v (.lst (L.map λ(c:Nat)=>T.bool (d8 (c:Int)))))=g at*;have av:((sgn (cell/108) (cR cell)).map λc=>cj (n8 c)).flatMap (λy=>y.cps.toList)=cR cell:=by
  rw[List.flatMap_map];refine Eq.trans ?_ g1;rfl
 have a5:bW (aO 52) (.nm 13) (iD "str" (dK (.str (aK ""))) [cM (cn [49,50] (.tp [(.nm 49),(.nm 50)]) (iZ (dV 11) (dV 12)) r9 (cF vu) (.own []))] (gS nh)) g Y=some (.nx,g.set 13 (.v (.str (cj (cR cell)))),Y):=
  ef (PK (z.len d) ar G (z.get u rfl) (z.get ae rfl) (DO g2 t3) t1 av (by have:=(xd hw).1;exact IY this)) rfl (cC rfl (l0 (z.len d) rfl))
 have x:bf mc O (g.set 13 (.v (.str (cj (cR cell))))):=z.set rfl _;have H:(g.set 13 (.v (.str (cj (cR cell)))))[13]?=some (.v (.str (cj (cR cell)))):=bS (l0 (z.len d) rfl);have I:(g.set 13 (.v (.str (cj (cR cell)))))[12]?=some (.v (.lst (L.map λ(c:Nat)=>T.bool (d8 (c:Int))))):=aW rfl G;have v10:(g.set 13 (.v (.str (cj (cR cell)))))[10]?=some (.v (.str (cj (cR cell)))):=aW rfl au;have v5:(g.set 13 (.v (.str (cj (cR cell)))))[5]?=some (.own (h.map ey)):=aW rfl u5;have v6:(g.set 13 (.v (.str (cj (cR cell)))))[6]?=some (.own B):=aW rfl u6;generalize g.set 13 (.v (.str (cj (cR cell))))=k at*;have eb:(L.map λ(c:Nat)=>T.bool (d8 (c:Int)))=(L.map λ(c:Nat)=>d8 (c:Int)).map T.bool:=by rw[il];rfl
 have v:=I;rw[eb,t2]at v;refine aQ λnG=>aV (Me (Y:=Y) (n:=2*(sgn (cell/108) (cR cell)).length) (x.len d) (x.get h4 rfl) v (x.get u rfl) (by rw[<- t2,dm,t3]) (EQ g2) (Gy A) t4) λw a6 k1=>nG ?_;have a7:dM 4 (cJ [dV 13,dV 10]) k (Y++[w])=some (.nx,k,Y++[w]++[.tup [.str (cj (cR cell)),.str (cj (cR cell))]]):=
  kU (eD (bQ (aM H rfl) rfl (bQ (aM v10 rfl) rfl df))) rfl (x.get h4 rfl) (by rw[cU];simp;exact Fw A)
 have a8:=Kq (Y:=Y++[w]++[.tup [.str (cj (cR cell)),.str (cj (cR cell))]]) (x.len d) hw H;have ev:vW (cR cell)=vC cell:=rfl;rw[ev]at a8;have V:bf mc O (k.set 14 (.v (tB (vC cell)))):=x.set rfl _;have J:(k.set 14 (.v (tB (vC cell))))[14]?=some (.v (tB (vC cell))):=bS (l0 (x.len d) rfl);have aw:(k.set 14 (.v (tB (vC cell))))[12]?=some (.v (.lst (L.map λ(c:Nat)=>T.bool (d8 (c:Int))))):=aW rfl I;have w5:(k.set 14 (.v (tB (vC cell))))[5]?=some (.own (h.map ey)):=aW rfl v5;have w6:(k.set 14 (.v (tB (vC cell))))[6]?=some (.own B):=aW rfl v6;generalize k.set 14 (.v (tB (vC cell)))=l at*;have a9:dM 5 (cJ [dV 7,dV 8,dV 14]) l (Y++[w]++[.tup [.str (cj (cR cell)),.str (cj (cR cell))]])=some (.nx,l.set 5 (.own ((h++[(i,j,vC cell)]).map ey)),Y++[w]++[.tup [.str (cj (cR cell)),.str (cj (cR cell))]]):=by
  rw[mJ];exact pR (t:=ey (i,j,vC cell)) (eD (bQ (aM (V.get Z rfl) rfl) rfl (bQ (aM (V.get h8 rfl) rfl) rfl (bQ (aM J rfl) rfl df)))) rfl w5 (by rw[dm];exact dR aj)
 have K:bf mc O (l.set 5 (.own ((h++[(i,j,vC cell)]).map ey))):=V.set rfl _;have x5:(l.set 5 (.own ((h++[(i,j,vC cell)]).map ey)))[5]?=some (.own ((h++[(i,j,vC cell)]).map ey)):=bS (l0 (V.len d) rfl);have M:(l.set 5 (.own ((h++[(i,j,vC cell)]).map ey)))[14]?=some (.v (tB (vC cell))):=aW rfl J;have ax:(l.set 5 (.own ((h++[(i,j,vC cell)]).map ey)))[12]?=some (.v (.lst (L.map λ(c:Nat)=>T.bool (d8 (c:Int))))):=aW rfl aw;have x6:(l.set 5 (.own ((h++[(i,j,vC cell)]).map ey)))[6]?=some (.own B):=aW rfl w6;generalize l.set 5 (.own ((h++[(i,j,vC cell)]).map ey))=o at*;have ay:=F7 (Y:=Y++[w]++[.tup [.str (cj (cR cell)),.str (cj (cR cell))]]) (a:=7) (b:=8) (K.len d) x6 M (K.get Z rfl) (K.get h8 rfl) a0 hz af ah;have N:bf mc O (o.set 6 (.own (B.set i (bR (cq (vC cell) s) (ac q [(j,vC cell)]))))):=K.set rfl _;have y6:(o.set 6 (.own (B.set i (bR (cq (vC cell) s) (ac q [(j,vC cell)])))))[6]?=some (.own (B.set i (bR (cq (vC cell) s) (ac q [(j,vC cell)])))):=bS (l0 (K.len d) rfl);have az:(o.set 6 (.own (B.set i (bR (cq (vC cell) s) (ac q [(j,vC cell)])))))[14]?=some (.v (tB (vC cell))):=aW rfl M;have aA:(o.set 6 (.own (B.set i (bR (cq (vC cell) s) (ac q [(j,vC cell)])))))[12]?=some (.v (.lst (L.map λ(c:Nat)=>T.bool (d8 (c:Int))))):=aW rfl ax;have y5:(o.set 6 (.own (B.set i (bR (cq (vC cell) s) (ac q [(j,vC cell)])))))[5]?=some (.own ((h++[(i,j,vC cell)]).map ey)):=aW rfl x5;generalize o.set 6 (.own (B.set i (bR (cq (vC cell) s) (ac q [(j,vC cell)]))))=aC at*;have aB:=F7 (Y:=Y++[w]++[.tup [.str (cj (cR cell)),.str (cj (cR cell))]]) (a:=8) (b:=7) (B:=B.set i (bR (cq (vC cell) s) (ac q [(j,vC cell)]))) (N.len d) y6 az (N.get h8 rfl) (N.get Z rfl) (by rw[ed ab];exact aa) (by rw[fH];exact hz) ag ai;refine⟨_,[w]++[.tup [.str (cj (cR cell)),.str (cj (cR cell))]],?_,N.set (i:=6) rfl _,aW rfl y5,bS (l0 (N.len d) rfl),⟨_,aW rfl aA,rfl⟩,(dF.one k1).app (dF.one ⟨_,_,rfl,GB _ _⟩),by simp⟩;rw[<- eO];unfold xu;exact bz a1 (bz a2 (bz a3 (bz a4 (bz a5 (bz a6 (bz a7 (bz a8 (bz a9 (bz ay (bz aB dT))))))))))
noncomputable def code(a b:Nat):Nat:=if a<b then b*(b-1)/2+a else if b<a then a*(a-1)/2+b else 99
noncomputable def k9:List (Nat×Nat):=[(0,1),(0,2),(1,2),(0,3),(1,3),(2,3),(0,4),(1,4),(2,4),(3,4),(0,5),(1,5),(2,5),(3,5),(4,5)]
noncomputable def pI(p:Nat):Nat:=(k9.getD p (0,0)).1
noncomputable def pJ(p:Nat):Nat:=(k9.getD p (0,0)).2
noncomputable def dD:List Nat:=[0,1,2,3,4,5]
noncomputable def wp(c:Nat->V3)(p:Nat):Nat->Nat->V3:=λa b=>if code a b<p then c (code a b)else v0
theorem Pk:((aO 15).all λp=>decide (pI p<6)&&decide (pJ p<6)&&decide (pI p≠pJ p)&&decide (k9[p]?=some (pI p,pJ p))&&(aO 6).all λa=>(aO 6).all λb=>decide (code a b=p↔(a=pI p/\b=pJ p)\/(a=pJ p/\b=pI p)))=true:=by decide+kernel
theorem zE{p:Nat}(h:p<15):pI p<6/\pJ p<6/\pI p≠pJ p/\k9[p]?=some (pI p,pJ p)/\∀ a<6,∀ b<6,(code a b=p↔(a=pI p/\b=pJ p)\/(a=pJ p/\b=pI p)):=by
 refine aQ λc=>?_;have h1:=c8.mp Pk p (eu.mpr h);simp only[fg,decide_eq_true_eq]at h1;refine bn h1 λd a5=>?_;clear h1;obtain⟨⟨⟨a1,a2⟩,a3⟩,a4⟩:=d;refine c ⟨a1,a2,a3,a4,λa e b f=>?_⟩;have:=c8.mp (c8.mp a5 a (eu.mpr e)) b (eu.mpr f);exact of_decide_eq_true this
theorem Xw(a b:Nat):code a b=code b a:=by
 unfold code;by_cases h1:a<b
 ·rw[if_pos h1,if_neg (Nat.not_lt_of_gt h1),if_pos h1]
 ·by_cases h2:b<a
  ·rw[if_neg h1,if_pos h2,if_pos h2]
  ·rw[if_neg h1,if_neg h2,if_neg h2,if_neg h1]
theorem ME{L:List Nat}(b:L.Nodup){f g:Nat->Int}{j:Nat}{d:Int}(c:j∈L)(h1:g j=f j+d)(h2:∀ k∈L,k≠j->g k=f k):sm L g=sm L f+d:=by
 have a:=lN c;rw[ly a,ly a f];simp only[fW,ga];rw[jC (f:=g) (g:=f) λk hk=>h2 k (List.mem_of_mem_erase hk) λq=>by subst q;exact b.not_mem_erase hk,h1];exact(Int.add_right_comm _ _ _)
structure Bo (bd:Nat->V3) (p:Nat) (n:Nat) (e:V3×Dc):Prop where
 kn:(keys e.2).Nodup
 ks:∀ k,k∈keys e.2↔k<6/\code n k<p
 vl:∀ k<6,val e.2 k=wp bd p n k
 dv:e.1=sv dD (wp bd p n)
theorem Tj(a:Nat->V3)(n:Nat):Bo a 0 n (v0,[]):=⟨by simp[keys],λk=>by simp[keys],λk _=>rfl,om λc hc=>by
 rw[fK hc.lin];have:(λx=>c (wp a 0 n x))=λ_=>0:=by funext x;show c v0=0;exact hc.lin.z
 rw[this,tm];exact hc.lin.z⟩
theorem S8{d:Nat->V3}{p n:Nat}{e:V3×Dc}(h:Bo d p n e)(f:∀ k<6,code n k≠p):Bo d (p+1) n e:=by
 have hw:∀ k<6,wp d (p+1) n k=wp d p n k:=λk hk=>by
  have:=f k hk;unfold wp;by_cases q:code n k<p
  ·rw[if_pos q,if_pos (wu q)]
  ·rw[if_neg q,if_neg (Ho this q)]
 refine⟨h.kn,λk=>?_,λk hk=>by rw[h.vl k hk,hw k hk],?_⟩
 ·rw[h.ks k];constructor
  ·rintro ⟨a,b⟩;exact⟨a,wu b⟩
  ·rintro ⟨a,b⟩;exact⟨a,by have:=f k a;exact Ee b this⟩
 ·rw[h.dv];refine om λc hc=>?_;rw[fK hc.lin,fK hc.lin];refine jC λk hk=>?_;rw[hw k (by unfold dD at hk;simp at hk;exact sH hk)]
theorem DS{i:Nat->V3}{p n m:Nat}{e:V3×Dc}(h:Bo i p n e)(u:m<6)(v:∀ k<6,(code n k=p↔k=m)):Bo i (p+1) n (cq (i p) e.1,ac e.2 [(m,i p)]):=by
 have l:code n m=p:=(v m u).mpr rfl;have hw:∀ k<6,k≠m->wp i (p+1) n k=wp i p n k:=λk hk o=>by
  have:code n k≠p:=λq=>o ((v k hk).mp q);unfold wp;by_cases q:code n k<p
  ·rw[if_pos q,if_pos (wu q)]
  ·rw[if_neg q,if_neg (Ho this q)]
 have s:wp i (p+1) n m=i p:=by unfold wp;rw[l,if_pos (Nat.lt_add_one _)]
 have t:wp i p n m=v0:=by unfold wp;rw[l,if_neg (zY)]
 refine⟨qc _ h.kn,λk=>?_,λk hk=>?_,?_⟩
 ·rw[qM,h.ks k];have w:keys [(m,i p)]=[m]:=rfl;rw[w,jd];constructor
  ·rintro (⟨a,b⟩|rfl)
   ·exact⟨a,wu b⟩
   ·exact⟨u,R9 l⟩
  ·rintro ⟨a,b⟩;by_cases q:k=m
   ·exact .inr q
   ·exact .inl ⟨a,by have:code n k≠p:=λr=>q ((v k a).mp r);exact Ee b this⟩
 ·rw[vw _ _ (by simp[keys]),h.vl k hk,gR];by_cases q:m=k
  ·subst q;rw[if_pos rfl,t,s,O1]
  ·rw[if_neg q,hw k hk (Ne.symm q)];exact pY _
 ·refine om λc hc=>?_;rw[hc.lin.a,h.dv,fK hc.lin,fK hc.lin,ME (f:=λx=>c (wp i p n x)) (g:=λx=>c (wp i (p+1) n x)) (j:=m) (d:=c (i p)) (by unfold dD;decide) (by unfold dD;simp;exact vR u) (by simp only[t,s,hc.lin.z];exact Av) λk hk o=>by simp only[hw k (by unfold dD at hk;simp at hk;exact sH hk) o]];exact E8
theorem TX{l:Nat->V3}(o:∀ p<15,∀ c,jE c->0<=c (l p)/\c (l p)<=3){q:Nat->V3×Dc}(h:∀ n<6,Bo l 15 n (q n)):jS dD (wp l 15) q:=by
 have f:∀ n,n∈dD↔n<6:=λn=>by unfold dD;simp;exact(⟨sH,vR⟩)
 have m:∀ a<6,∀ b<6,(code a b<15↔b≠a):=by
  have:((aO 6).all λa=>(aO 6).all λb=>decide (code a b<15↔b≠a))=true:=by decide+kernel
  intro a r b o;exact of_decide_eq_true (c8.mp (c8.mp this a (eu.mpr r)) b (eu.mpr o))
 have hc:∀ c,jE c->∀ i j,0<=c (wp l 15 i j)/\c (wp l 15 i j)<=3:=λc hc i j=>by
  unfold wp;split
  ·exact o _ (by assumption) c hc
  ·rw[hc.lin.z];exact⟨by decide,by decide⟩
 refine⟨by unfold dD;decide,λi j=>by unfold wp;rw[Xw],λi=>?_,λc g i j=>(hc c g i j).1,λc g=>?_,λn e=>(h n ((f n).mp e)).kn,λn e k=>?_,λn e k hk=>(h n ((f n).mp e)).vl k ((f k).mp hk),λn e=>(h n ((f n).mp e)).dv⟩
 ·unfold wp;have:code i i=99:=by unfold code;rw[if_neg (zY),if_neg (zY)]
  rw[this,if_neg (by decide)]
 ·have d:=λi j=>(hc c g i j).2;unfold dD;simp only[j2,ir,fW,ga];have:=d 1 0;have:=d 2 0;have:=d 3 0;have:=d 4 0;have:=d 5 0;have:=d 2 1;have:=d 3 1;have:=d 4 1;have:=d 5 1;have:=d 3 2;have:=d 4 2;have:=d 5 2;have:=d 4 3;have:=d 5 3;have:=d 5 4;exact Ld ‹_› ‹_› ‹_› ‹_› ‹_› ‹_› ‹_› ‹_› ‹_› ‹_› ‹_› ‹_› ‹_› ‹_› this
 ·rw[(h n ((f n).mp e)).ks k,f k];constructor
  ·rintro ⟨a,b⟩;exact⟨a,(m n ((f n).mp e) k a).mp b⟩
  ·rintro ⟨a,b⟩;exact⟨a,(m n ((f n).mp e) k a).mpr b⟩
noncomputable def ds(a:List Nat):Nat->V3:=λp=>vC (a.getD p 0)
noncomputable def dy(a:Nat->V3)(p:Nat):List (Nat×Nat×V3):=(aO p).map λk=>(pI k,pJ k,a k)
noncomputable def lm(q:Nat×Nat):T:=.tup [.int (q.1:Int),.int (q.2:Int)]
theorem Q4(a:Nat->V3)(p:Nat):dy a (p+1)=dy a p++[(pI p,pJ p,a p)]:=by unfold dy;rw[Kg,mJ];rfl
theorem abP{p:Nat}(h:p<15):k9.drop p=(pI p,pJ p)::k9.drop (p+1):=by
 refine aQ λb=>gj (zE h) λ_ _ _ e _=>b ?_;have a:p<k9.length:=h;rw[Jx a];rw[gv a]at e;injection e with e
 rw[e]
noncomputable def EK:List Nat:=[2,5,6,7,8,9,10,11,12,13,14]
theorem aaT{f:List Nat}(E:f.length=16):∀ (k p:Nat) (l:Nat->V3×Dc) (B:List T) (O:List S) (Y:List T),p+k=15->O.length=52->O[1]?=some (.own (bv f))->O[4]?=some .nts->O[5]?=some (.own ((dy (ds f) p).map ey))->O[6]?=some (.own B)->
  (∃ S,O[12]?=some S/\S.isOwnB=false)->O[49]?=some .no->O[50]?=some .no->B.length=6->(∀ n<6,B[n]?=some (bR (l n).1 (l n).2)/\Bo (ds f) p n (l n))->Y.length+10*(k+1)<=1000000->
  ∃ U Q,∃ (r:Nat->V3×Dc) (F:List T),em (bU (aO 52) (.tp [(.nm 2),(.tp [(.nm 7),(.nm 8)])])) xu (oH p ((k9.drop p).map lm)) O Y=some (.nx,U,Y++Q)/\bf EK O U/\U[5]?=some (.own ((dy (ds f) 15).map ey))/\U[6]?=some (.own F)/\F.length=6/\
   (∀ n<6,F[n]?=some (bR (r n).1 (r n).2)/\Bo (ds f) 15 n (r n))/\dF Q/\Q.length<=2*k:=by
 intro R;induction R with
 |zero=>
  intro p l B O Y hk s h1 h4 h5 h6 u G H z C v;have:p=15:=PX hk;subst this;exact⟨O,[],l,B,by rw[gW];rfl,.refl O,h5,h6,z,C,.nil,lA _⟩
 |succ k V=>
  intro p l B O Y hk s h1 h4 h5 h6 u G H z C v;have hp:p<15:=MU hk;refine aQ λw=>gj (zE hp) λW X Z _ h=>w ?_;rw[abP hp,cB];refine aQ λw=>bn (C (pI p) W) λbi oi=>bn (C (pJ p) X) λbj oj=>w ?_;have e1:bU (aO 52) (.tp [(.nm 2),(.tp [(.nm 7),(.nm 8)])]) (T.tup [T.int (p:Int),lm (pI p,pJ p)]) O=some (((O.set 2 (.v (.int (p:Int)))).set 7 (.v (.int (pI p:Int)))).set 8 (.v (.int (pJ p:Int)))):=
   pZ (h7 (cC rfl (l0 s rfl)) (h7 (pZ (h7 (cC rfl (l1 s rfl)) (h7 (cC rfl (l2 s rfl)) n6))) n6))
  have s1:bf EK O (((O.set 2 (.v (.int (p:Int)))).set 7 (.v (.int (pI p:Int)))).set 8 (.v (.int (pJ p:Int)))):=(((bf.refl O).set rfl _).set rfl _).set rfl _;have q2:(((O.set 2 (.v (.int (p:Int)))).set 7 (.v (.int (pI p:Int)))).set 8 (.v (.int (pJ p:Int))))[2]?=some (.v (.int (p:Int))):=aW rfl (aW rfl (bS (l0 s rfl)));have q7:(((O.set 2 (.v (.int (p:Int)))).set 7 (.v (.int (pI p:Int)))).set 8 (.v (.int (pJ p:Int))))[7]?=some (.v (.int (pI p:Int))):=aW rfl (bS (l1 s rfl));have q8:(((O.set 2 (.v (.int (p:Int)))).set 7 (.v (.int (pI p:Int)))).set 8 (.v (.int (pJ p:Int))))[8]?=some (.v (.int (pJ p:Int))):=bS (l2 s rfl);have g:∀ {m:Nat} {y:S},O[m]?=some y->mC 2 m=false->mC 7 m=false->mC 8 m=false->(((O.set 2 (.v (.int (p:Int)))).set 7 (.v (.int (pI p:Int)))).set 8 (.v (.int (pJ p:Int))))[m]?=some y:=λa b c d=>aW d (aW c (aW b a));have q1:=g h1 rfl rfl rfl;have q4:=g h4 rfl rfl rfl;have q5:=g h5 rfl rfl rfl;have q6:=g h6 rfl rfl rfl;have J:=g G rfl rfl rfl;have K:=g H rfl rfl rfl;refine aQ λw=>aV u λa7 a0 a1=>?_;clear u;refine w ?_;have a2:=g a0 rfl rfl rfl;clear g;generalize ((O.set 2 (.v (.int (p:Int)))).set 7 (.v (.int (pI p:Int)))).set 8 (.v (.int (pJ p:Int)))=I at*;have x:f[p]?=some (f.getD p 0):=by rw[yi,gv (Tu E hk)];rfl
  have t:∀ {n:Nat} {e:V3×Dc},Bo (ds f) p n e->e.2.length<=6:=λ{n e} o=>by
   have:=oe (A:=dD) o.kn λk hk=>by have:=((o.ks k).mp hk).1;unfold dD;simp;exact vR this
   unfold keys at this;rw[dm]at this;exact this
  have li:=t oi;have lj:=t oj;refine aQ λw=>Fb (Yu (O:=I) (Y:=Y) (p:=p) (i:=pI p) (j:=pJ p) (s1.len s) q1 x (aca E) q2 q7 q8 q4 q5 q6 bi bj Z a2 a1 J K oi.kn oj.kn (mU li) (mU lj) (Zi z) (by unfold dy;rw[dm,kc];exact Vp hk) (YN v)) λa3 L r1 D r3 r4 r5 r6 r7=>w ?_;have M:vC (f.getD p 0)=ds f p:=rfl;rw[M,<- Q4]at r3;rw[M]at r4;have a4:pI p<B.length:=Ij z W;have a5:pJ p<B.length:=Ij z X;obtain⟨U,a6,r,F,f1,f2,f3,f4,f5,f6,f7,f8⟩:=V (p+1) (λn=>if n=pI p then(cq (ds f p) (l (pI p)).1,ac (l (pI p)).2 [(pJ p,ds f p)])else if n=pJ p then(cq (ds f p) (l (pJ p)).1,ac (l (pJ p)).2 [(pI p,ds f p)])else l n) _ a3 (Y++L) (Pv hk) (D.len (s1.len s)) (D.get q1 rfl) (D.get q4 rfl) r3 r4 r5 (D.get J rfl) (D.get K rfl) (by rw[fH,fH];exact z)
   (λn N=>by
    by_cases a:n=pI p
    ·subst a;rw[if_pos rfl,ed (Ne.symm Z),fT a4];refine⟨rfl,DS oi X λm P=>?_⟩;rw[h _ N m P];constructor
     ·rintro (⟨_,q⟩|⟨q,_⟩)
      ·exact q
      ·exact absurd q Z
     ·rintro rfl;exact .inl ⟨rfl,rfl⟩
    ·rw[if_neg a];by_cases b:n=pJ p
     ·subst b;rw[if_pos rfl,fT (by rw[fH];exact a5)];refine⟨rfl,DS oj W λm P=>?_⟩;rw[h _ N m P];constructor
      ·rintro (⟨q,_⟩|⟨_,q⟩)
       ·exact absurd q a
       ·exact q
      ·rintro rfl;exact .inr ⟨rfl,rfl⟩
     ·rw[if_neg b,ed (Ne.symm b),ed (Ne.symm a)];refine⟨(C n N).1,S8 (C n N).2 λm P q=>?_⟩;rcases(h n N m P).mp q with q|q
      ·exact a q.1
      ·exact b q.1) (by rw[cU];exact Ob v r7)
  refine⟨U,L++a6,r,F,?_,(s1.trans (D.mono (by decide))).trans f2,f3,f4,f5,f6,r6.app f7,by rw[cU];exact Pu r7 f8⟩;rw[<- eO];exact gk e1 r1 f1
section
variable{O:List S}{Y:List T}(hl:O.length=52)
include hl
theorem abD(b:O[49]?=some .no):w9 O Y=some (.nx,O.set 6 (.own ((aO 6).map λ_=>bR v0 [])),Y):=by
 have c:=fV (bind:=bU [49] (.nm 49)) (test:=λ_ Y=>some (true,Y)) (fx:=HJ) (Y:=Y) (λk:Nat=>T.int (k:Int)) (λ_=>true) (λk=>bR v0 []) (bf [49] O) (λk I=>I[49]?=some (.v (.int (k:Int))))
  (aO 6) [] O (.refl O) (by decide) (λa _=>hJ hl) (λ_ _ _ _ _=>rfl) (λk hk I d e _=>(aS _ rfl rfl))
 rw[ic,eE]at c;unfold w9;exact tc (fJ (eJ (eV b) (jJ be rfl (by decide)) c) rfl) rfl rfl (l0 hl rfl)
theorem MZ(d:O[50]?=some .no){t:Nat}(c:O[49]?=some (.v (.int (t:Int))))(e:t<=1000)(b:List T)(g:b.length<=1000):
  oC [49,50] (.nm 50) (iR (dV 49)) (λ_ Y=>some (true,Y)) (cF sY) O Y (.own b)=some (.own (b++(aO t).map λo=>lm (o,t)),Y):=by
 have f:=fV (bind:=bU [49,50] (.nm 50)) (test:=λ_ Y=>some (true,Y)) (fx:=sY) (Y:=Y) (λk:Nat=>T.int (k:Int)) (λ_=>true) (λo=>lm (o,t)) (bf [50] O) (λk I=>I[50]?=some (.v (.int (k:Int))))
  (aO t) b O (.refl O) (by rw[kc];exact WQ e g) (λa _ I h=>(cI (I.set 50 (.v (.int (a:Int)))) (cC rfl (l0 (h.len hl) rfl)) (h.set rfl _) (bS (l0 (h.len hl) rfl)))) (λ_ _ _ _ _=>rfl) (λk hk I i j _=>(aS (.v (lm (k,t))) (eD (bQ (aM j rfl) rfl (bQ (aM (i.get c rfl) rfl) rfl df))) rfl))
 rw[ic]at f;unfold oC;rw[if_pos (show k8 (PT.idx (.nm 50)) O=true from eV d)];rw[jJ (O:=O) (Y:=Y) (aM c rfl) rfl (HB e),ip];exact f
end
theorem Lx{σ0:List S}{Y:List T}(c:σ0.length=52)(d:σ0[50]?=some .no):∀ (b:List Nat) (a:List T) (O:List S),bf [49] σ0 O->(∀ t∈b,t<=10)->a.length+10*b.length<=1000->
  iv (bU [49,50] (.nm 49)) (λ_ Y=>some (true,Y)) (oC [49,50] (.nm 50) (iR (dV 49)) (λ_ Y=>some (true,Y)) (cF sY)) (bv b) O Y (.own a)=some (.own (a++b.flatMap λt=>(aO t).map λo=>lm (o,t)),Y):=by
 intro e;induction e with
 |nil=>
  intro a O _ _ _;simp only[List.flatMap_nil,gW];rfl
 |cons t b f=>
  intro a O hs g i;simp only[cK]at i;have l:bU [49,50] (.nm 49) (T.int (t:Int)) O=some (O.set 49 (.v (.int (t:Int)))):=cC rfl (l0 (hs.len c) rfl);have j:bf [49] σ0 (O.set 49 (.v (.int (t:Int)))):=hs.set rfl _;have h1:=MZ (Y:=Y) (j.len c) (j.get d rfl) (bS (l0 (hs.len c) rfl)) (t:=t) (by have:=g t (.head _);exact ZF this) a (xF i);have k:=f (a++(aO t).map λo=>lm (o,t)) _ j (λt h=>g t (.tail _ h)) (by rw[cU,dm,kc];have:=g t (.head _);exact ach i this);rw[eO]at k;rw[yr];exact kM l rfl h1 k
theorem Lq:dD.flatMap (λt=>(aO t).map λo=>lm (o,t))=k9.map lm:=rfl
theorem Us{O:List S}{Y:List T}(c:O.length=52)(b:O[49]?=some .no)(a:O[50]?=some .no):
  iE none (cM (cn [49,50] (.nm 49) (iR (dK (.int 6))) (λ_ Y=>some (true,Y)) (oC [49,50] (.nm 50) (iR (dV 49)) (λ_ Y=>some (true,Y)) (cF sY)) (.own []))) O Y=some (oH 0 (k9.map lm),Y):=by
 have h:=Lx (Y:=Y) c a dD [] O (.refl O) (by decide) (by decide);rw[Lq,eE]at h;rw[<- A7];exact G7 (fJ (eJ (lu b (eV a)) (jJ be rfl (by decide)) h) rfl) rfl rfl
noncomputable def mQ(cV:Nat):Od:=⟨1+((cV%3:Nat):Int),1-2*((cV/9%2:Nat):Int),4+((cV/3%3:Nat):Int),1-2*((cV/18%2:Nat):Int)⟩
theorem Gd(cV:Nat):(mQ cV).Ok:=by
 refine⟨?_,?_,?_,?_⟩<;>unfold mQ<;>dsimp only<;>lia
theorem sf(a b:Nat)(h:0<b):dn .Mod (.int (a:Int)) (.int (b:Int))=some (.int ((a%b:Nat):Int)):=by rw[ms (y8 h)];exact congrArg _ (congrArg _ (oF a b))
theorem z7(a b:Nat)(h:0<b)(h2:b<2^64):dn .FloorDiv (.int (a:Int)) (.int (b:Int))=some (.int ((a/b:Nat):Int)):=by rw[nu (y8 h) (SQ h2)];exact congrArg _ (congrArg _ (qV a b))
section
variable{O:List S}{Y:List T}(hl:O.length=52)
include hl
theorem XH{a:List Nat}{cV:Nat}(h1:O[1]?=some (.own (bv a)))(hd:a[15]?=some cV)(b:a.length=16):wT O Y=some (.nx,(O.set 15 (.v (.int (cV:Int)))).set 16 (.own []),Y):=by
 unfold wT;refine Aa (bN (bM (aM h1 rfl) be rfl (gU (j:=15) (t:=.int (cV:Int)) ?_ (by rw[iC];exact zw b))) (bN (gn df) cv)) rfl (qL rfl (l0 hl rfl)) (oL rfl (l1 hl rfl));unfold bv;rw[fR,hd];rfl
theorem PD{cV:Nat}(a:O[15]?=some (.v (.int (cV:Int)))):xn O Y=some (.nx,O.set 17 (.v (cO (mQ cV))),Y):=by
 have c:=sf cV 3 (by decide);have d:=z7 cV 9 (by decide) (by decide);have e:=sf (cV/9) 2 (by decide);have d2:=z7 cV 3 (by decide) (by decide);have m3:=sf (cV/3) 3 (by decide);have f:=z7 cV 18 (by decide) (by decide);have g:=sf (cV/18) 2 (by decide);have b:∀ n:Nat,dn .Mult (.int 2) (.int (n:Int))=some (.int (2*(n:Int))):=λn=>qB (.inl (by decide));unfold xn;exact ef (t:=cO (mQ cV)) (gn (bQ (eD (bQ be rfl (bQ be rfl df))) rfl
  (bQ (eD (bQ (bV be rfl (bV (aM a rfl) rfl be rfl c) rfl rfl) rfl (bQ (bV be rfl (bV be rfl (bV (bV (aM a rfl) rfl be rfl d) rfl be rfl e) rfl (b _)) rfl rfl) rfl df))) rfl
  (bQ (eD (bQ (bV be rfl (bV (bV (aM a rfl) rfl be rfl d2) rfl be rfl m3) rfl rfl) rfl (bQ (bV be rfl (bV be rfl (bV (bV (aM a rfl) rfl be rfl f) rfl be rfl g) rfl (b _)) rfl rfl) rfl df))) rfl df)))) rfl (cC rfl (l0 hl rfl))
end
theorem BN{σ0:List S}(d:σ0.length=52){a b c:T}:∀ O,bf [49,50,51] σ0 O->∃ I,bU [49,50,51] (.tp [.nm 49,.nm 50,.nm 51]) (.tup [a,b,c]) O=some I/\bf [49,50,51] σ0 I/\(I[49]?=some (.v a)/\I[50]?=some (.v b)/\I[51]?=some (.v c)):=λO h=>
 (ny (((O.set 49 (.v a)).set 50 (.v b)).set 51 (.v c)) (pZ (h7 (cC rfl (l0 (h.len d) rfl)) (h7 (cC rfl (l1 (h.len d) rfl)) (h7 (cC rfl (l2 (h.len d) rfl)) n6)))) (((h.set rfl _).set rfl _).set rfl _)
  (aW rfl (aW rfl (bS (l0 (h.len d) rfl)))) (aW rfl (bS (l1 (h.len d) rfl))) (bS (l2 (h.len d) rfl)))
noncomputable def iS(o:Od)(b:Nat×Nat×V3):T:=.tup [.int (b.1:Int),.int (b.2.1:Int),.int (bH o b.2.2)]
section
variable{O:List S}{Y:List T}(hl:O.length=52)
include hl
theorem WJ{o:Od}(l:o.Ok){d:List (Nat×Nat×V3)}{c:S}(h5:O[5]?=some (.own (d.map ey)))(e:O[17]?=some (.v (cO o)))(f:O[18]?=some c)(m:c.isOwnB=false)(g:O[49]?=some .no)(h:O[50]?=some .no)(i:O[51]?=some .no)(n:d.length<=1000):
  xq O Y=some (.nx,O.set 18 (.v (.lst (d.map (iS o)))),Y):=by
 have k:=fV (bind:=bU [49,50,51] (.tp [.nm 49,.nm 50,.nm 51])) (test:=λ_ Y=>some (true,Y)) (fx:=Gf) (Y:=Y) ey (λ_=>true) (iS o) (bf [49,50,51] O) (λ(b:Nat×Nat×V3) (I:List S)=>I[49]?=some (S.v (T.int (b.1:Int)))/\I[50]?=some (S.v (T.int (b.2.1:Int)))/\I[51]?=some (S.v (tB b.2.2)))
  d [] O (.refl O) (by simp;exact dR n) (λa _=>BN hl) (λ_ _ _ _ _=>rfl) (λb q I p j _=>(aS (.v (iS o b)) (eD (bQ (aM j.1 rfl) rfl (bQ (aM j.2.1 rfl) rfl (bQ (db (bN (db (bN (aM j.2.2 rfl) cv) (ED b.2.2 Y)) (bN (aM (p.get e rfl) rfl) cv)) (Gu l b.2.2 Y)) rfl df)))) rfl))
 rw[ic,eE]at k;unfold xq;exact tT f m (eJ (lu g (lu h (eV i))) (ie (aM h5 rfl) rfl rfl) k) rfl rfl (l0 hl rfl)
end
theorem aan:((aO 32).all λm=>(aO 6).all λk=>((dn .BitAnd (.int ((m:Int).fdiv (2^k))) (.int 1)).bind T.int?)==some (if m.testBit k then 1 else 0))=true:=by decide+kernel
noncomputable def jj(m k:Nat):Int:=if m.testBit k then 1 else 0
theorem Vf{m k:Nat}(a:m<32)(hk:k<6):dn .BitAnd (.int ((m:Int).fdiv (2^((k:Int)).toNat))) (.int 1)=some (.int (jj m k)):=by
 have:=c8.mp (c8.mp aan m (eu.mpr a)) k (eu.mpr hk);rw[mH];exact aX (λt e h=>e.trans (congrArg some (T.int_eq h))) (dN this)
theorem Rs{J:Type}(p:J->Bool)(f:J->Int)(l:List J):fb ((l.filter p).map f)=fb (l.map λa=>if p a=true then f a else 0):=by
 induction l with
 |nil=>rfl
 |cons a l b=>
  by_cases h:p a=true
  ·rw[rS h,cB,cB];show f a+fb _=(if p a=true then f a else 0)+fb _;rw[b,if_pos h]
  ·rw[uE h,cB,b];show _=(if p a=true then f a else 0)+fb _;rw[if_neg h];exact Av
theorem Ti(c:V3->Int)(w:Nat->Nat->V3)(s:Nat->Bool)(u x:Nat):du (cw c w) s u x=if (s x != s u)=true then c (w u x)else 0:=by
 unfold du cw;cases s u<;>cases s x<;>rfl
theorem EH(c:V3->Int)(a:Nat->V3)(m:Nat):fb (((dy a 15).filter λb=>eK m b.1 != eK m b.2.1).map λb=>c b.2.2)=iu c (wp a 15) m:=by
 rw[Rs];have e:dy a 15=[(0,1,a 0),(0,2,a 1),(1,2,a 2),(0,3,a 3),(1,3,a 4),(2,3,a 5),(0,4,a 6),(1,4,a 7),(2,4,a 8),(3,4,a 9),(0,5,a 10),(1,5,a 11),(2,5,a 12),(3,5,a 13),(4,5,a 14)]:=rfl;rw[e];unfold iu;simp only[j2,ir,fW,ga,Ti,cB,rO,zH,NB];have d:wp a 15 1 0=a 0:=rfl;have f:wp a 15 2 0=a 1:=rfl;have g:wp a 15 2 1=a 2:=rfl;have h:wp a 15 3 0=a 3:=rfl;have i:wp a 15 3 1=a 4:=rfl;have j:wp a 15 3 2=a 5:=rfl;have k:wp a 15 4 0=a 6:=rfl;have l:wp a 15 4 1=a 7:=rfl;have n:wp a 15 4 2=a 8:=rfl;have o:wp a 15 4 3=a 9:=rfl;have p:wp a 15 5 0=a 10:=rfl;have q:wp a 15 5 1=a 11:=rfl;have r:wp a 15 5 2=a 12:=rfl;have s:wp a 15 5 3=a 13:=rfl;have t:wp a 15 5 4=a 14:=rfl;rw[d,f,g,h,i,j,k,l,n,o,p,q,r,s,t];exact Ts
noncomputable def kW(o:Od)(a:List (Nat×Nat×V3))(m:Nat):Int:=fb ((a.filter λb=>eK m b.1 != eK m b.2.1).map λb=>bH o b.2.2)
theorem Qt(m i j:Nat):(jj m i != jj m j)=(eK m i != eK m j):=by
 unfold jj eK;cases m.testBit i<;>cases m.testBit j<;>rfl
theorem PO{o:Od}{bs:List (Nat×Nat×V3)}{O:List S}{Y:List T}{m:Nat}{g:List T}(j:O.length=52)(r:O[16]?=some (.own g))(s:O[18]?=some (.v (.lst (bs.map (iS o)))))(t:O[19]?=some (.v (.int (m:Int))))(l:O[49]?=some .no)(u:O[50]?=some .no)(w:O[51]?=some .no)
  (B:m<32) (C:bs.length<=1000) (D:∀ b∈bs,b.1<6/\b.2.1<6) (hc:g.length<=1000) :
  ∃ U,BQ O Y=some (.nx,U,Y)/\bf [16,20] O U/\U[16]?=some (.own (g++[.int (kW o bs m)])):=by
 have z:=fV (bind:=bU [49] (.nm 49)) (test:=λ_ Y=>some (true,Y)) (fx:=za) (Y:=Y) (λk:Nat=>T.int (k:Int)) (λ_=>true) (λk=>T.int (jj m k)) (bf [49] O) (λ(k:Nat) (I:List S)=>I[49]?=some (S.v (T.int (k:Int))))
  (aO 6) [] O (.refl O) (by decide) (λa _=>hJ j) (λ_ _ _ _ _=>rfl) (λk hk I q e _=>(aS (.v (.int (jj m k))) (bV (bV (aM (q.get t rfl) rfl) rfl (aM e rfl) rfl (A8 (kB))) rfl be rfl (Vf B (eu.mp hk))) rfl))
 rw[ic,eE]at z;have a1:jy (aO 52) 20 (cM (cn [49] (.nm 49) (iR (dK (.int 6))) (λ_ Y=>some (true,Y)) (cF za) (.own []))) O Y=some (.nx,O.set 20 (.own ((aO 6).map λk=>T.int (jj m k))),Y):=
  tc (fJ (eJ (eV l) (jJ be rfl (by decide)) z) rfl) rfl rfl (l0 j rfl)
 have d:bf [16,20] O (O.set 20 (.own ((aO 6).map λk=>T.int (jj m k)))):=(bf.refl O).set rfl _;have x:(O.set 20 (.own ((aO 6).map λk=>T.int (jj m k))))[20]?=some (.own ((aO 6).map λk=>T.int (jj m k))):=bS (l0 j rfl);have y:(O.set 20 (.own ((aO 6).map λk=>T.int (jj m k))))[16]?=some (.own g):=aW rfl r;generalize O.set 20 (.own ((aO 6).map λk=>T.int (jj m k)))=f at*;have n:∀ {i:Nat},i<6->((aO 6).map λk=>T.int (jj m k))[i]?=some (T.int (jj m i)):=λh=>by
  rw[fR,rD h];rfl
 have hq:∀ b∈bs,∀ I,bf [49,50,51] f I->(I[49]?=some (S.v (T.int (b.1:Int)))/\I[50]?=some (S.v (T.int (b.2.1:Int)))/\I[51]?=some (S.v (T.int (bH o b.2.2))))->sr I Y=some (eK m b.1 != eK m b.2.1,Y):=λb p I q e=>by
  refine bn (D b p) λE F=>?_;have c:=q.get x rfl;rw[<- Qt];exact jm (bM (aM c rfl) (aM e.1 rfl) rfl (gU (n E) (by simp))) rfl (bM (aM c rfl) (aM e.2.1 rfl) rfl (gU (n F) (by simp))) rfl rfl
 have A:=fV (bind:=bU [49,50,51] (.tp [.nm 49,.nm 50,.nm 51])) (test:=sr) (fx:=AV) (Y:=Y) (iS o) (λb=>eK m b.1 != eK m b.2.1) (λb=>T.int (bH o b.2.2)) (bf [49,50,51] f) (λ(b:Nat×Nat×V3) (I:List S)=>I[49]?=some (S.v (T.int (b.1:Int)))/\I[50]?=some (S.v (T.int (b.2.1:Int)))/\I[51]?=some (S.v (T.int (bH o b.2.2))))
  bs [] f (.refl f) (by simp;exact dR C) (λa _=>BN (d.len j)) hq (λb p I q e _=>(aS (.v (.int (bH o b.2.2))) (aM e.2.2 rfl) rfl))
 rw[eE]at A;have G:jk (.fr ((bs.filter λb=>eK m b.1 != eK m b.2.1).map λb=>T.int (bH o b.2.2)))=some (.v (.int (kW o bs m))):=by
  have:=yL ((bs.filter λb=>eK m b.1 != eK m b.2.1).map λb=>bH o b.2.2);rw[il]at this;exact this
 have a2:dM 16 (bL [cM (cn [49,50,51] (.tp [(.nm 49),(.nm 50),(.nm 51)]) (iL none (dV 18)) sr (cF AV) (.own []))] (cD jk)) f Y=some (.nx,f.set 16 (.own (g++[.int (kW o bs m)])),Y):=
  pR (db (bN (fJ (eJ (lu (d.get l rfl) (lu (d.get u rfl) (eV (d.get w rfl)))) (ie (aM (d.get s rfl) rfl) rfl rfl) A) rfl) cv) (gl G)) rfl y (dR hc)
 exact(cI _ (bz a1 (bz a2 dT)) (d.set rfl _) (bS (l0 (d.len j) rfl)))
theorem QM{o:Od}{a:List (Nat×Nat×V3)}{Y:List T}(t:a.length<=1000)(u:∀ b∈a,b.1<6/\b.2.1<6):∀ (k m:Nat) (O:List S),m+k=32->O.length=52->O[16]?=some (.own ((aO m).map λm=>T.int (kW o a m)))->O[18]?=some (.v (.lst (a.map (iS o))))->O[49]?=some .no->O[50]?=some .no->O[51]?=some .no->
  ∃ U,em (bU (aO 52) (.nm 19)) BQ ((Cn m k).map λ(j:Nat)=>T.int (j:Int)) O Y=some (.nx,U,Y)/\bf [16,19,20] O U/\U[16]?=some (.own ((aO 32).map λm=>T.int (kW o a m))):=by
 intro n;induction n with
 |zero=>
  intro m O hk i c d e f g;have:m=32:=RE hk;subst this;exact(cI O rfl (.refl O) c)
 |succ k p=>
  intro m O hk i c d e f g;have v:bU (aO 52) (.nm 19) (T.int (m:Int)) O=some (O.set 19 (.v (.int (m:Int)))):=cC rfl (l0 i rfl);have r:bf [16,19,20] O (O.set 19 (.v (.int (m:Int)))):=(bf.refl O).set rfl _;refine aQ λq=>?_;obtain⟨l,w,x,s⟩:=PO (o:=o) (bs:=a) (O:=O.set 19 (.v (.int (m:Int)))) (Y:=Y) (m:=m) (r.len i) (aW rfl c) (aW rfl d) (bS (l0 i rfl)) (aW rfl e) (aW rfl f) (aW rfl g) (YL hk) t u (by rw[dm,kc];exact QD hk);refine q ?_;have y:(aO m).map (λm=>T.int (kW o a m))++[.int (kW o a m)]=(aO (m+1)).map λm=>T.int (kW o a m):=by rw[Kg,mJ];rfl
  rw[y]at s;have h:bf [16,19,20] O l:=r.trans (x.mono (by decide));refine aQ λq=>?_;obtain⟨U,f1,f2,z⟩:=p (m+1) l (V5 hk) (h.len i) s (h.get d rfl) (h.get e rfl) (h.get f rfl) (h.get g rfl);refine q ?_;rw[Co,cB];exact(cI U (gk v w f1) (h.trans f2) z)
theorem Kr{O:List S}{Y:List T}{o:Od}(b:O.length=52)(c:O[17]?=some (.v (cO o)))(d:O[49]?=some .no):uX O Y=some (.nx,(((O.set 21 (.v (.inst (cO o)))).set 22 (.own (bv dD))).set 23 (.own (dD.map λn=>T.int ((2^n:Nat):Int)))).set 24 (.own []),Y):=by
 have g:=fV (bind:=bU [49] (.nm 49)) (test:=λ_ Y=>some (true,Y)) (fx:=Dd) (Y:=Y) (λk:Nat=>T.int (k:Int)) (λ_=>true) (λn=>T.int ((2^n:Nat):Int)) (bf [49] O) (λ(k:Nat) (I:List S)=>I[49]?=some (S.v (T.int (k:Int))))
  dD [] O (.refl O) (by decide) (λa _=>hJ b) (λ_ _ _ _ _=>rfl) (λk hk I i h _=>(aS (.v (.int ((2^k:Nat):Int))) ?_ rfl))
 ·rw[ic,eE]at g;unfold uX;exact XM (bN (Tq (aM c rfl) rfl) (bN (aaB be rfl (by decide)) (bN (fJ (eJ (eV d) (jJ be rfl (by decide)) g) rfl) (bN (gn df) cv)))) rfl (qL rfl (l0 b rfl)) (oL rfl (l1 b rfl)) (oL rfl (l2 b rfl)) (oL rfl (l3 b rfl))
 ·have f:k<6:=by unfold dD at hk;simp at hk;exact sH hk
  refine bV be rfl (aM h rfl) rfl ?_;rw[tQ (kB) (Y4 f) (by decide),mH];have e:(2:Int)^k=((2^k:Nat):Int):=by simp
  rw[e]
noncomputable def nD:List Nat:=[2,5,6,7,8,9,10,11,12,13,14,15,16,17,18,19,20,21,22,23,24]
theorem DN(a:List Nat):∀ p<15,∀ c,jE c->0<=c (ds a p)/\c (ds a p)<=3:=λp _ c hc=>abO (BZ _) c hc
theorem IS(a:Nat->V3):∀ b∈dy a 15,b.1<6/\b.2.1<6:=λb c=>by
 refine aQ λd=>aV (eh.mp c) λk hk e=>?_;subst e;exact bO (zE (eu.mp hk)) λh1 h2 _=>d ⟨h1,h2⟩
noncomputable def pQ(a:List Nat):Nat->Nat->V3:=wp (ds a) 15
noncomputable def qU(o:Od)(a:Nat->Nat->V3):List T:=(aO 32).map λm=>T.int (iu (bH o) a m)
theorem W9(o:Od)(a:Nat->Nat->V3):∀ p,p<=31->(qU o a)[p]?=some (.int (iu (bH o) a p)):=λp b=>by
 unfold qU;rw[fR,rD (Jg b)];rfl
theorem Yy{f:List Nat}(u:f.length=16){O:List S}(j:O.length=52)(h1:O[1]?=some (.own (bv f)))(h4:O[4]?=some .nts)(h5:O[5]?=some (.own []))(M:O[12]?=some .no)(N:O[18]?=some .no)(P:O[31]?=some .no)(Q:O[41]?=some .no)(p:O[49]?=some .no)(s:O[50]?=some .no)(C:O[51]?=some .no):
  ∃ U q,(∀ (R:bC) (V:Mine.Internal.Fl) (v:List S) (w:List T),R U q=some (V,v,w)->aY w9 (aY vp (aY wT (aY xn (aY xq (aY wO (aY uX R)))))) O []=some (V,v,w))/\
   bf nD O U/\qG (mQ (f.getD 15 0)) (pQ f) (qU (mQ (f.getD 15 0)) (pQ f)) [] ((f.getD 15 0:Nat):Int) dD U/\U[5]?=some (.own ((dy (ds f) 15).map ey))/\dF q/\q.length<=30:=by
 have hd:f[15]?=some (f.getD 15 0):=by rw[yi,gv (aa0 u)];rfl
 have ho:=Gd (f.getD 15 0);generalize f.getD 15 0=cV at*;generalize W:mQ cV=o at*;have a1:=abD (Y:=[]) j p;have t:bf nD O (O.set 6 (.own ((aO 6).map λ_=>bR v0 []))):=(bf.refl O).set rfl _;have p6:(O.set 6 (.own ((aO 6).map λ_=>bR v0 [])))[6]?=some (.own ((aO 6).map λ_=>bR v0 [])):=bS (l0 j rfl);have p5:(O.set 6 (.own ((aO 6).map λ_=>bR v0 [])))[5]?=some (.own ((dy (ds f) 0).map ey)):=aW rfl h5;have X:(O.set 6 (.own ((aO 6).map λ_=>bR v0 [])))[12]?=some .no:=aW rfl M;have Z:(O.set 6 (.own ((aO 6).map λ_=>bR v0 [])))[18]?=some .no:=aW rfl N;generalize O.set 6 (.own ((aO 6).map λ_=>bR v0 []))=D at*;obtain⟨h,q,bk,B,b1,b2,b3,b4,b5,b6,b7,b8⟩:=aaT u 15 0 (λ_=>(v0,[])) ((aO 6).map λ_=>bR v0 []) D [] rfl (t.len j) (t.get h1 rfl) (t.get h4 rfl) p5 p6 (aS _ X rfl) (t.get p rfl) (t.get s rfl) rfl
  (λn r=>⟨by rw[fR,rD r];rfl,Tj _ n⟩) (by decide)
 have a2:vp D []=some (.nx,h,q):=by
  unfold vp;exact iw (Us (t.len j) (t.get p rfl) (t.get s rfl)) b1
 have E:bf nD O h:=t.trans (b2.mono (by decide));have a0:h[18]?=some .no:=b2.get Z rfl;clear b1;have a3:=XH (Y:=q) (E.len j) (E.get h1 rfl) hd u;have s3:bf nD O ((h.set 15 (.v (.int (cV:Int)))).set 16 (.own [])):=(E.set rfl _).set rfl _;have F:((h.set 15 (.v (.int (cV:Int)))).set 16 (.own []))[15]?=some (.v (.int (cV:Int))):=aW rfl (bS (l0 (E.len j) rfl));have a8:((h.set 15 (.v (.int (cV:Int)))).set 16 (.own []))[16]?=some (.own []):=bS (l1 (E.len j) rfl);have r5:((h.set 15 (.v (.int (cV:Int)))).set 16 (.own []))[5]?=some (.own ((dy (ds f) 15).map ey)):=aW rfl (aW rfl b3);have r6:((h.set 15 (.v (.int (cV:Int)))).set 16 (.own []))[6]?=some (.own B):=aW rfl (aW rfl b4);have a9:((h.set 15 (.v (.int (cV:Int)))).set 16 (.own []))[18]?=some .no:=aW rfl (aW rfl a0);generalize (h.set 15 (.v (.int (cV:Int)))).set 16 (.own [])=k at*;have a4:=PD (Y:=q) (s3.len j) F;rw[W]at a4;have A:bf nD O (k.set 17 (.v (cO o))):=s3.set rfl _;have G:(k.set 17 (.v (cO o)))[17]?=some (.v (cO o)):=bS (l0 (s3.len j) rfl);have t5:(k.set 17 (.v (cO o)))[5]?=some (.own ((dy (ds f) 15).map ey)):=aW rfl r5;have t6:(k.set 17 (.v (cO o)))[6]?=some (.own B):=aW rfl r6;have aa:(k.set 17 (.v (cO o)))[15]?=some (.v (.int (cV:Int))):=aW rfl F;have ab:(k.set 17 (.v (cO o)))[16]?=some (.own []):=aW rfl a8;have ad:(k.set 17 (.v (cO o)))[18]?=some .no:=aW rfl a9;generalize k.set 17 (.v (cO o))=l at*;have H:(dy (ds f) 15).length<=1000:=by unfold dy;rw[dm,kc];decide
 have a5:=WJ (Y:=q) (A.len j) ho t5 G ad rfl (A.get p rfl) (A.get s rfl) (A.get C rfl) H;have I:bf nD O (l.set 18 (.v (.lst ((dy (ds f) 15).map (iS o))))):=A.set rfl _;have ae:(l.set 18 (.v (.lst ((dy (ds f) 15).map (iS o)))))[18]?=some (.v (.lst ((dy (ds f) 15).map (iS o)))):=bS (l0 (A.len j) rfl);have u5:(l.set 18 (.v (.lst ((dy (ds f) 15).map (iS o)))))[5]?=some (.own ((dy (ds f) 15).map ey)):=aW rfl t5;have u6:(l.set 18 (.v (.lst ((dy (ds f) 15).map (iS o)))))[6]?=some (.own B):=aW rfl t6;have af:(l.set 18 (.v (.lst ((dy (ds f) 15).map (iS o)))))[15]?=some (.v (.int (cV:Int))):=aW rfl aa;have ag:(l.set 18 (.v (.lst ((dy (ds f) 15).map (iS o)))))[16]?=some (.own []):=aW rfl ab;have ah:(l.set 18 (.v (.lst ((dy (ds f) 15).map (iS o)))))[17]?=some (.v (cO o)):=aW rfl G;generalize l.set 18 (.v (.lst ((dy (ds f) 15).map (iS o))))=J at*;refine aQ λnG=>ej (QM (o:=o) (Y:=q) H (IS _) 32 0 J rfl (I.len j) ag ae (I.get p rfl) (I.get s rfl) (I.get C rfl)) λi c1 K c3=>nG ?_;have a6:wO J q=some (.nx,i,q):=by
  unfold wO;exact iw (jJ be rfl (by decide)) c1
 have eC:((aO 32).map λm=>T.int (kW o (dy (ds f) 15) m))=qU o (pQ f):=by
  unfold qU;refine uk λm _=>?_;unfold kW;rw[EH (bH o) (ds f) m];rfl
 rw[eC]at c3;have x:bf nD O i:=I.trans (K.mono (by decide));have w5:=K.get u5 rfl;have w6:=K.get u6 rfl;have ai:=K.get af rfl;have L:=K.get ah rfl;have a7:=Kr (Y:=q) (x.len j) L (x.get p rfl);have z:bf nD O ((((i.set 21 (.v (.inst (cO o)))).set 22 (.own (bv dD))).set 23 (.own (dD.map λn=>T.int ((2^n:Nat):Int)))).set 24 (.own [])):=(((x.set rfl _).set rfl _).set rfl _).set rfl _;have aj:((((i.set 21 (.v (.inst (cO o)))).set 22 (.own (bv dD))).set 23 (.own (dD.map λn=>T.int ((2^n:Nat):Int)))).set 24 (.own []))[21]?=some (.v (.inst (cO o))):=aW rfl (aW rfl (aW rfl (bS (l0 (x.len j) rfl))));have ak:((((i.set 21 (.v (.inst (cO o)))).set 22 (.own (bv dD))).set 23 (.own (dD.map λn=>T.int ((2^n:Nat):Int)))).set 24 (.own []))[22]?=some (.own (bv dD)):=aW rfl (aW rfl (bS (l1 (x.len j) rfl)));have al:((((i.set 21 (.v (.inst (cO o)))).set 22 (.own (bv dD))).set 23 (.own (dD.map λn=>T.int ((2^n:Nat):Int)))).set 24 (.own []))[23]?=some (.own (dD.map λn=>T.int ((2^n:Nat):Int))):=aW rfl (bS (l2 (x.len j) rfl));have an:((((i.set 21 (.v (.inst (cO o)))).set 22 (.own (bv dD))).set 23 (.own (dD.map λn=>T.int ((2^n:Nat):Int)))).set 24 (.own []))[24]?=some (.own []):=bS (l3 (x.len j) rfl);have g:∀ {m:Nat} {y:S},i[m]?=some y->mC 21 m=false->mC 22 m=false->mC 23 m=false->mC 24 m=false->((((i.set 21 (.v (.inst (cO o)))).set 22 (.own (bv dD))).set 23 (.own (dD.map λn=>T.int ((2^n:Nat):Int)))).set 24 (.own []))[m]?=some y:=λa b c d e=>aW e (aW d (aW c (aW b a)));have x5:=g w5 rfl rfl rfl rfl;have x6:=g w6 rfl rfl rfl rfl;have ao:=g ai rfl rfl rfl rfl;have aq:=g c3 rfl rfl rfl rfl;have ar:=g L rfl rfl rfl rfl;clear g;generalize (((i.set 21 (.v (.inst (cO o)))).set 22 (.own (bv dD))).set 23 (.own (dD.map λn=>T.int ((2^n:Nat):Int)))).set 24 (.own [])=au at*;have m6:∀ n∈dD,n<6:=λn r=>by unfold dD at r;simp at r;exact sH r
 refine(jG au q (λR V v w hr=>bz a1 (bz a2 (bz a3 (bz a4 (bz a5 (bz a6 (bz a7 hr))))))) z ⟨(qE B _ (pQ f) bk (λn=>2^n) ⟨⟨TX (DN f) λn r=>(b6 n r).2,λc hc=>Inv.base _,by decide,λn r=>Nat.one_le_two_pow,λn r=>(b6 n (m6 n r)).1,b5,λn r=>?_,by decide⟩,⟨z.len j,z.get h4 rfl,x6,ar,aj,ak,z.get p rfl⟩,al⟩),ao,aq,an,(aS _ (z.get P rfl) rfl),(aS _ (z.get Q rfl) rfl),z.get s rfl⟩ x5 b7 (ac5 b8));have h6:n=0\/n=1\/n=2\/n=3\/n=4\/n=5:=by have:=m6 n r;exact vR this
 rcases h6 with rfl|rfl|rfl|rfl|rfl|rfl<;>rfl
noncomputable def yQ(v:V3):Rat:=((30*v.r+59*v.g+11*v.b:Int):Rat)/6400
noncomputable def iQ(v:V3):Rat:=((5990*v.r-2773*v.g-3217*v.b:Int):Rat)/640000
noncomputable def qQ(v:V3):Rat:=((2130*v.r-5251*v.g+3121*v.b:Int):Rat)/640000
theorem yZ(v:V3):Fl.rI (yQ v) (iQ v) (qQ v)=(v.r:Rat)/64:=by
 unfold Fl.rI yQ iQ qQ;simp only[lL,lK,gK];exact Ud
theorem yA(v:V3):Fl.gI (yQ v) (iQ v) (qQ v)=(v.g:Rat)/64:=by
 unfold Fl.gI yQ iQ qQ;simp only[lL,lK,gK];exact Rk
theorem Bm(v:V3):Fl.bI (yQ v) (iQ v) (qQ v)=(v.b:Rat)/64:=by
 unfold Fl.bI yQ iQ qQ;simp only[lL,lK,gK];exact T7
theorem RQ(a b c d e f:Rat):Fl.rI (8*(a-b)) (8*(c-d)) (8*(e-f))=8*(Fl.rI a c e-Fl.rI b d f):=by unfold Fl.rI;exact R0
theorem abh(a b c d e f:Rat):Fl.gI (8*(a-b)) (8*(c-d)) (8*(e-f))=8*(Fl.gI a c e-Fl.gI b d f):=by unfold Fl.gI;exact Xp
theorem ZZ(a b c d e f:Rat):Fl.bI (8*(a-b)) (8*(c-d)) (8*(e-f))=8*(Fl.bI a c e-Fl.bI b d f):=by unfold Fl.bI;exact Q0
theorem qi{v:V3}(h:v.Ok):0<=yQ v/\yQ v<=3/4:=by
 have:=h.r0;have:=h.r1;have:=h.g0;have:=h.g1;have:=h.b0;have:=h.b1;unfold yQ;have h1:(0:Rat)<=((30*v.r+59*v.g+11*v.b:Int):Rat):=uC.mpr (RG ‹_› ‹_› ‹_›);have h2:((30*v.r+59*v.g+11*v.b:Int):Rat)<=((4500:Int):Rat):=gg.mpr (Vu ‹_› ‹_› this);have e:((4500:Int):Rat)=4500:=rfl;rw[e]at h2;generalize ((30*v.r+59*v.g+11*v.b:Int):Rat)=z at*;constructor<;>grind
theorem qe{v:V3}(h:v.Ok):-(9/20)<=iQ v/\iQ v<=9/20:=by
 have:=h.r0;have:=h.r1;have:=h.g0;have:=h.g1;have:=h.b0;have:=h.b1;unfold iQ;have h1:((-288000:Int):Rat)<=((5990*v.r-2773*v.g-3217*v.b:Int):Rat):=gg.mpr (Tw ‹_› ‹_› this);have h2:((5990*v.r-2773*v.g-3217*v.b:Int):Rat)<=((288000:Int):Rat):=gg.mpr (abb ‹_› ‹_› ‹_›);have e:((288000:Int):Rat)=288000:=rfl;have a:((-288000:Int):Rat)=-288000:=rfl;rw[e]at h2;rw[a]at h1;generalize ((5990*v.r-2773*v.g-3217*v.b:Int):Rat)=z at*;constructor<;>grind
theorem pK{v:V3}(h:v.Ok):-(9/20)<=qQ v/\qQ v<=9/20:=by
 have:=h.r0;have:=h.r1;have:=h.g0;have:=h.g1;have:=h.b0;have:=h.b1;unfold qQ;have h1:((-288000:Int):Rat)<=((2130*v.r-5251*v.g+3121*v.b:Int):Rat):=gg.mpr (SU ‹_› ‹_› ‹_›);have h2:((2130*v.r-5251*v.g+3121*v.b:Int):Rat)<=((288000:Int):Rat):=gg.mpr (L6 ‹_› ‹_› this);have e:((288000:Int):Rat)=288000:=rfl;have a:((-288000:Int):Rat)=-288000:=rfl;rw[e]at h2;rw[a]at h1;generalize ((2130*v.r-5251*v.g+3121*v.b:Int):Rat)=z at*;constructor<;>grind
theorem EV{i:Int}(h0:0<=i)(h1:i<=45):(0:Rat)<=(i:Rat)/\(i:Rat)<=45:=by
 refine⟨uC.mpr h0,?_⟩;have:(i:Rat)<=((45:Int):Rat):=gg.mpr h1;exact this
structure vX (V:V3) (zy zi zq:UInt64):Prop where
 y:Fl.Ap zy (yQ V) (1/2^40)
 i:Fl.Ap zi (iQ V) (1/2^40)
 q:Fl.Ap zq (qQ V) (1/2^40)
theorem B7:(2:Rat)^7=128:=by decide+kernel
theorem E7:(2:Rat)^7/2^54=1/2^47:=by decide+kernel
theorem B4:(2:Rat)^4=16:=by decide+kernel
theorem E4:(2:Rat)^4/2^54=1/2^50:=by decide+kernel
open PySem.Float64 in
theorem ze{x:UInt64}{i:Int}(h0:0<=i)(h1:i<=45)(h:Fl.Ap x ((i:Rat)/64) (5/2^40)):Fl.Sm (abs (sub (mul (ofInt 64) x) (ofInt i))) (1/2^31):=by
 refine bn (EV h0 h1) λp0 p1=>?_;have a:=Fl.ap_int (i:=64) 6 (by decide) Fl.E6 (by decide);have c:=Fl.ap_int (i:=i) 6 (by decide) Fl.E6 (RY h0 h1);have b:((64:Int):Rat)=64:=rfl;rw[b]at a;have m:=Fl.ap_mul (P:=64) (Q:=1) 7 (by decide) B7 E7 a h (by decide+kernel) (by decide+kernel) (Hx p1) (Q9 p0) (by decide+kernel);replace m:=m.mono (e':=330/2^40) (by decide+kernel);have d:(64:Rat)*((i:Rat)/64)=i:=Zm;rw[d]at m;have s:=Fl.ap_sub 1 (by decide) Fl.B1 Fl.E1 m c (UI) (QX);exact Fl.sm_abs s (OL) (KB)
open PySem.Float64 in
theorem Ot{x:UInt64}{z:Int}{p:Rat}(h0:0<=z)(h1:z<=8)(a:8*p=z)(h:Fl.Ap x p (37/2^40)):Fl.Sm (abs (sub (mul (ofInt 8) x) (ofInt z))) (1/2^31):=by
 have p0:(0:Rat)<=z:=uC.mpr h0;have p1:(z:Rat)<=8:=by
  have:(z:Rat)<=((8:Int):Rat):=gg.mpr h1;exact this
 have b:=Fl.ap_int (i:=8) 4 (by decide) E4 (by decide);have c:=Fl.ap_int (i:=z) 4 (by decide) E4 (Uc h0 h1);have d:((8:Int):Rat)=8:=rfl;rw[d]at b;have m:=Fl.ap_mul (P:=8) (Q:=1) 4 (by decide) B4 E4 b h (by decide+kernel) (by decide+kernel) (Pn a p1) (Wc a p0) (by decide+kernel);replace m:=m.mono (e':=300/2^40) (by decide+kernel);rw[a]at m;have s:=Fl.ap_sub 1 (by decide) Fl.B1 Fl.E1 m c (S6) (Vw);exact Fl.sm_abs s (S7) (XR)
theorem acm{p:Rat}(h0:0<=p)(h1:p<=1):Fl.clip p=p:=by unfold Fl.clip;grind
theorem aaE{V:V3}(hV:V.Ok){a d e:UInt64}(h:vX V a d e):
  Fl.Ap (Fl.clipF (Fl.rF a d e)) ((V.r:Rat)/64) (5/2^40)/\Fl.Ap (Fl.clipF (Fl.gF a d e)) ((V.g:Rat)/64) (5/2^40)/\Fl.Ap (Fl.clipF (Fl.bF a d e)) ((V.b:Rat)/64) (5/2^40):=by
 refine aQ λp=>bn (qi hV) λf j=>bn (qe hV) λl m=>bn (pK hV) λn o=>?_;have r:=Fl.r_ap h.y h.i h.q (by decide+kernel) (by decide+kernel) (zI f) (BD j) (pT l) (re m) (pT n) (re o);have g:=Fl.g_ap h.y h.i h.q (by decide+kernel) (by decide+kernel) (zI f) (BD j) (pT l) (re m) (pT n) (re o);have b:=Fl.b_ap h.y h.i h.q (by decide+kernel) (by decide+kernel) (zI f) (BD j) (pT l) (re m) (pT n) (re o);rw[yZ]at r;rw[yA]at g;rw[Bm]at b;have k:∀ {x:UInt64} {i:Int},0<=i->i<=45->Fl.Ap x ((i:Rat)/64) (4*(1/2^40)+1/2^44)->Fl.Ap (Fl.clipF x) ((i:Rat)/64) (5/2^40):=λ{x i} h0 h1 h=>by
  refine bn (EV h0 h1) λp0 p1=>?_;have c:=(Fl.clip_ap h (by decide+kernel)).mono (e':=5/2^40) (by decide+kernel)
  rwa [acm (Y8 p0) (Hx p1)]at c
 exact p ⟨k hV.r0 hV.r1 r,k hV.g0 hV.g1 g,k hV.b0 hV.b1 b⟩
open PySem.Float64 in
theorem Aq{x z:UInt64}{p q:Rat}(b:Fl.Ap x p (1/2^45))(c:Fl.Ap z q (1/2^40))(h1:p-q<=1-1/2^20)(h2:-(1-1/2^20)<=p-q):Fl.Ap (mul (ofInt 8) (sub x z)) (8*(p-q)) (9/2^40):=by
 have s:=Fl.ap_sub 0 (by decide) Fl.B0 Fl.E0 b c (O6 h1) (Vm h2);replace s:=s.mono (e':=17/2^44) (by decide+kernel);have a:=Fl.ap_int (i:=8) 4 (by decide) E4 (by decide);have d:((8:Int):Rat)=8:=rfl;rw[d]at a;have m:=Fl.ap_mul (P:=8) (Q:=1) 4 (by decide) B4 E4 a s (by decide+kernel) (by decide+kernel) (abS h1) (Zx h2) (by decide+kernel);exact m.mono (by decide+kernel)
noncomputable def fw(d:Int):Int:=if (if d<8 then d else 8)>0 then(if d<8 then d else 8)else 0
theorem Ft(d:Int):0<=fw d/\fw d<=8/\8*Fl.clip (8*((d:Rat)/64))=(fw d:Rat):=by
 have e:((8:Int):Rat)=8:=rfl;have h0:((0:Int):Rat)=0:=rfl;have key:fw d=if d<=0 then 0 else if 8<=d then 8 else d:=by
  unfold fw;repeat' split;all_goals lia
 have c:0<=fw d/\fw d<=8:=by
  rw[key];repeat' split;all_goals lia
 refine⟨c.1,c.2,?_⟩;rw[key];by_cases a:d<=0
 ·rw[if_pos a,h0];have:(d:Rat)<=0:=by
   have:(d:Rat)<=((0:Int):Rat):=gg.mpr a;exact this
  unfold Fl.clip;grind
 ·rw[if_neg a];have a1:(0:Rat)<d:=Rat.intCast_pos.mpr (NW a);by_cases b:8<=d
  ·rw[if_pos b,e];have:(8:Rat)<=d:=by
    have:((8:Int):Rat)<=(d:Rat):=gg.mpr b;exact this
   unfold Fl.clip;grind
  ·rw[if_neg b];have:(d:Rat)<=8:=by
    have:(d:Rat)<=((8:Int):Rat):=gg.mpr (Int.le_of_not_le b);exact this
   unfold Fl.clip;grind
theorem TK{V l:V3}(hV:V.Ok)(a:l.Ok){y i q:UInt64}(d:Fl.Ap y (8*(yQ l-yQ V)) (9/2^40))(hi:Fl.Ap i (8*(iQ l-iQ V)) (9/2^40))(hq:Fl.Ap q (8*(qQ l-qQ V)) (9/2^40)):
  Fl.Ap (Fl.clipF (Fl.rF y i q)) (Fl.clip (8*(((l.r-V.r:Int):Rat)/64))) (37/2^40)/\Fl.Ap (Fl.clipF (Fl.gF y i q)) (Fl.clip (8*(((l.g-V.g:Int):Rat)/64))) (37/2^40)/\Fl.Ap (Fl.clipF (Fl.bF y i q)) (Fl.clip (8*(((l.b-V.b:Int):Rat)/64))) (37/2^40):=by
 refine aQ λB=>bn (qi hV) λf m=>bn (qe hV) λn o=>bn (pK hV) λp s=>bn (qi a) λt u=>bn (qe a) λv w=>bn (pK a) λz A=>?_;have r:=Fl.r_ap d hi hq (by decide+kernel) (by decide+kernel) (zJ m t) (Bq f u) (qH o v) (qR n w) (qH s z) (qR p A);have g:=Fl.g_ap d hi hq (by decide+kernel) (by decide+kernel) (zJ m t) (Bq f u) (qH o v) (qR n w) (qH s z) (qR p A);have b:=Fl.b_ap d hi hq (by decide+kernel) (by decide+kernel) (zJ m t) (Bq f u) (qH o v) (qR n w) (qH s z) (qR p A);rw[RQ,yZ,yZ]at r;rw[abh,yA,yA]at g;rw[ZZ,Bm,Bm]at b;have k:∀ {x:UInt64} {i j:Int},Fl.Ap x (8*((i:Rat)/64-(j:Rat)/64)) (4*(9/2^40)+1/2^44)->Fl.Ap (Fl.clipF x) (Fl.clip (8*(((i-j:Int):Rat)/64))) (37/2^40):=λ{x i j} h=>by
  have c:=(Fl.clip_ap h (by decide+kernel)).mono (e':=37/2^40) (by decide+kernel);have e:8*((i:Rat)/64-(j:Rat)/64)=8*(((i-j:Int):Rat)/64):=by rw[lK];exact aaZ
  rwa [e]at c
 exact B ⟨k r,k g,k b⟩
abbrev Lr:=V3×Nat
noncomputable def lT(o:Od)(r:Lr):T:=jB o r.1 r.2
noncomputable def lU(o:Od)(p q:Lr):Lr:=if bH o q.1<bH o p.1 then q else p
theorem PU{o:Od}(f:o.Ok){O:List S}{Y:List T}{p q:Lr}(g:O.length=52)(h4:O[4]?=some .nts)(c:O[21]?=some (.v (.inst (cO o))))(a:O[32]?=some (.v (lT o p)))(b:O[33]?=some (.v (lT o q)))
  (i:p.1.Ok) (hq:q.1.Ok) (d:Y.length<=1000000) :
  ∃ n,wm O Y=some (.nx,O.set 32 (.v (lT o (lU o p q))),Y++[n])/\kE n:=by
 refine(m0 (.tup [.int (eR (bH o q.1) (bH o p.1)),.int (eR (bH o q.1) (bH o p.1))]) ?_ _ _ rfl (eq_int _ _));unfold wm;refine bz (kU (eD (bQ (FZ (aM c rfl) (bN (bM (aM b rfl) be rfl rfl) (bN (bM (aM a rfl) be rfl rfl) cv)) (E9 f hq i Y)) rfl (bQ (bV (kO (bM (aM b rfl) be rfl rfl) rfl (bM (aM a rfl) be rfl rfl) rfl rfl) rfl (kO (bM (aM b rfl) be rfl rfl) rfl (bM (aM a rfl) be rfl rfl) rfl rfl) rfl (F6 _ _)) rfl df))) rfl h4 d)
  (bz (ef (t:=lT o (lU o p q)) (x:=.v (lT o (lU o p q))) ?_ rfl (cC rfl (l0 g rfl))) dT)
 have e:∀ Y,tC .Lt (aR (dV 33) (dK (.int 0))) (aR (dV 32) (dK (.int 0))) O Y=some (decide (bH o q.1<bH o p.1),Y):=λY=>jm (bM (aM b rfl) be rfl rfl) rfl (bM (aM a rfl) be rfl rfl) rfl rfl;unfold lU;by_cases h:bH o q.1<bH o p.1
 ·rw[if_pos h];exact yD (by rw[e,decide_eq_true h]) (aM b rfl)
 ·rw[if_neg h];exact Ag (by rw[e,decide_eq_false h]) (aM a rfl)
theorem Ml{o:Od}(r:o.Ok){i:Nat->Nat->V3}:∀ (f:List Lr) (p:Lr) (O:List S) (Y:List T),O.length=52->O[4]?=some .nts->O[21]?=some (.v (.inst (cO o)))->O[32]?=some (.v (lT o p))->mi o i p.1 p.2->(∀ q∈f,mi o i q.1 q.2)->Y.length+f.length<=1000000->
  ∃ U b g,em (bU (aO 52) (.nm 33)) wm (f.map (lT o)) O Y=some (.nx,U,Y++b)/\bf [32,33] O U/\U[32]?=some (.v (lT o g))/\mi o i g.1 g.2/\dF b/\b.length<=f.length:=by
 intro k;induction k with
 |nil=>
  intro p O Y e h4 c d j hq a;exact(dH O [] p ⟨(by rw[gW];rfl),.refl O,d,j,.nil,cu _⟩)
 |cons q f l=>
  intro p O Y e h4 c d j hq a;refine aQ λs=>?_;simp only[cK]at a;refine aV (PU (O:=O.set 33 (.v (lT o q))) r (p:=p) (q:=q) (Y:=Y) (by rw[fH];exact e) (aW rfl h4) (aW rfl c) (aW rfl d) (bS (xm e)) j.1 (hq q (.head _)).1 (km a)) λn t u=>?_;have sm:bf [32,33] O ((O.set 33 (.v (lT o q))).set 32 (.v (lT o (lU o p q)))):=((bf.refl O).set rfl _).set rfl _;have m:mi o i (lU o p q).1 (lU o p q).2:=by unfold lU;split;exact hq q (.head _);exact j
  refine zU (l (lU o p q) _ (Y++[n]) (sm.len e) (sm.get h4 rfl) (sm.get c rfl) (bS (by simp only[fH];exact IM e)) m (λq h=>hq q (.tail _ h)) (by rw[cU];simp;exact mZ a)) λU b g h1 h2 h3 h5 h6 v=>s (dH U (n::b) g ⟨?_,sm.trans h2,h3,h5,(dF.one u).app h6,(by simp only[cK];exact vg v)⟩);rw[show Y++n::b=Y++[n]++b by simp];exact gk (cC rfl (xm e)) t h1
theorem WL:((aO 64).all λm=>(aO 6).all λi=>(aO 6).all λj=>(((dn .BitXor (.int ((m:Int).fdiv (2^i))) (.int ((m:Int).fdiv (2^j)))).bind T.int?).bind λz=>((dn .BitAnd (.int z) (.int 1)).bind T.int?).map λy=>decide (y≠0))==some (m.testBit i != m.testBit j))=true:=by decide+kernel
theorem aco{m i j:Nat}(a:m<64)(hi:i<6)(b:j<6):∃ z y,dn .BitXor (.int ((m:Int).fdiv (2^((i:Int)).toNat))) (.int ((m:Int).fdiv (2^((j:Int)).toNat)))=some (.int z)/\dn .BitAnd (.int z) (.int 1)=some (.int y)/\oh (.int y)=some (eK m i != eK m j):=by
 have:=c8.mp (c8.mp (c8.mp WL m (eu.mpr a)) i (eu.mpr hi)) j (eu.mpr b);rw[mH,mH];exact aX (λz h1=>ca λy h2 h3=>aX (λt e h=>aX (λu c h2=>cE z y (e.trans (congrArg some (T.int_eq h))) (c.trans (congrArg some (T.int_eq h2))) (congrArg some h3)) h2) h1) (dN this)
noncomputable def fC(v:V3):T:=.tup [.flt (yT v),.flt (gy v),.flt (qT v)]
theorem D2{O:List S}{Y:List T}{f:aP}{v:V3}(h:v.Ok)(a:f O Y=some (.v (tB v),Y)):
  bL [dB .Div (aR f (dK (.int 0))) (dK (.int 64)),dB .Div (aR f (dK (.int 1))) (dK (.int 64)),dB .Div (aR f (dK (.int 2))) (dK (.int 64))] (cf ml 3 mL) O Y=some (.v (fC v),Y):=by
 have c:=pu (i:=v.r) h.r0 (by have:=h.r1;exact j5 this);have d2:=pu (i:=v.g) h.g0 (by have:=h.g1;exact j5 this);have d:=pu (i:=v.b) h.b0 (by have:=h.b1;exact j5 this);exact db (bN (bV (bM a be rfl rfl) rfl be rfl c) (bN (bV (bM a be rfl rfl) rfl be rfl d2) (bN (bV (bM a be rfl rfl) rfl be rfl d) cv))) (IG _ _ _ Y)
theorem SJ{v:V3}(h:∀ c,jE c->0<=c v/\c v<=3):v.Ok:=BO λc hc=>⟨(h c hc).1,by have:=(h c hc).2;exact Xh this⟩
noncomputable def mm(a:List (Nat×Nat×V3))(m:Nat):List (Nat×Nat×V3):=a.filter λb=>eK m b.1 != eK m b.2.1
theorem abi{o:Od}{c:List (Nat×Nat×V3)}{O:List S}{Y:List T}{V:V3}{m:Nat}{e:S}(p:O.length=52)(h5:O[5]?=some (.own (c.map ey)))(h:O[32]?=some (.v (lT o (V,m))))(i:O[43]?=some e)(t:e.isOwnB=false)(j:O[49]?=some .no)(k:O[50]?=some .no)(l:O[51]?=some .no)
  (u:m<64) (w:c.length<=1000) (x:∀ b∈c,b.1<6/\b.2.1<6) (n:∀ b∈c,b.2.2.Ok):vK O Y=some (.nx,O.set 43 (.v (.lst ((mm c m).map λb=>fC b.2.2))),Y):=by
 have q:(X.v (lT o (V,m))).item (T.int 3)=some (T.int (m:Int)):=rfl;have hq:∀ b∈c,∀ I,bf [49,50,51] O I->(I[49]?=some (S.v (T.int (b.1:Int)))/\I[50]?=some (S.v (T.int (b.2.1:Int)))/\I[51]?=some (S.v (tB b.2.2)))->xi I Y=some (eK m b.1 != eK m b.2.1,Y):=λb d I r g=>by
  refine aQ λA=>bn (x b d) λB C=>bG (aco u B C) λz y D E F=>A ?_;have f:=r.get h rfl;exact qn (bV (bV (bV (bM (aM f rfl) be rfl q) rfl (aM g.1 rfl) rfl (A8 (kB))) rfl (bV (bM (aM f rfl) be rfl q) rfl (aM g.2.1 rfl) rfl (A8 (kB))) rfl D) rfl be rfl E) rfl F
 have s:=fV (bind:=bU [49,50,51] (.tp [.nm 49,.nm 50,.nm 51])) (test:=xi) (fx:=Ik) (Y:=Y) ey (λb=>eK m b.1 != eK m b.2.1) (λb=>fC b.2.2) (bf [49,50,51] O) (λ(b:Nat×Nat×V3) (I:List S)=>I[49]?=some (S.v (T.int (b.1:Int)))/\I[50]?=some (S.v (T.int (b.2.1:Int)))/\I[51]?=some (S.v (tB b.2.2)))
  c [] O (.refl O) (by simp;exact dR w) (λa _=>BN p) hq (λb d I r g _=>(aS (.v (fC b.2.2)) (D2 (n b d) (aM g.2.2 rfl)) rfl))
 rw[eE]at s;unfold vK;exact Sp i t (fJ (eJ (lu j (lu k (eV l))) (ie (aM h5 rfl) rfl rfl) s) rfl) rfl rfl rfl (l0 p rfl)
theorem Yn:∀ l:List UInt64,mP (l.map T.flt)=some (l.map lM):=by
 intro a;induction a with
 |nil=>
  exact rfl
 |cons x r b=>
  exact aT rfl (da (b) rfl)
theorem aa9{l:List UInt64}{z:UInt64}(h:lI 0 (l.map lM)=some (.float z)):jk (.fr (l.map T.flt))=some (.v (.flt z)):=by
 show(mP (l.map T.flt)).bind _=_;rw[Yn,ip,h];rfl
theorem WF{O:List S}{Y:List T}{b:List V3}{zs:List UInt64}{e:S}(i:O.length=52)(n:O[43]?=some (.v (.lst (b.map fC))))(o:O[44]?=some e)(u:e.isOwnB=false)(p:O[49]?=some .no)(q:O[50]?=some .no)(w:b.length<=1000)
  {j l m:UInt64} (x:lI 0 ((b.map yT).map lM)=some (.float j)) (hi:lI 0 ((b.map gy).map lM)=some (.float l)) (hq:lI 0 ((b.map qT).map lM)=some (.float m)) :
  v8 O Y=some (.nx,O.set 44 (.v (.lst [.flt j,.flt l,.flt m])),Y):=by
 have qZ:∀ (k:Nat) (g:V3->UInt64) (z:UInt64),(∀ v,(X.v (fC v)).item (T.int (k:Int))=some (T.flt (g v)))->lI 0 ((b.map g).map lM)=some (.float z)->∀ I,bf [49] O I->I[49]?=some (S.v (T.int (k:Int)))->Bh I Y=some (.v (.flt z),Y):=λk g z y hs I d f=>by
  have r:=fV (bind:=bU [50] (.nm 50)) (test:=λ_ Y=>some (true,Y)) (fx:=Il) (Y:=Y) fC (λ_=>true) (λv=>T.flt (g v)) (bf [50] I) (λ(v:V3) (c:List S)=>c[50]?=some (S.v (fC v)))
   b [] I (.refl I) (by simp;exact dR w) (λa _ c h=>(cI (c.set 50 (.v (fC a))) (cC rfl (l0 (h.len (d.len i)) rfl)) (h.set rfl _) (bS (l0 (h.len (d.len i)) rfl)))) (λ_ _ _ _ _=>rfl) (λv D c A B _=>(aS (.v (.flt (g v))) (bM (aM B rfl) (aM (A.get f rfl) rfl) rfl (y v)) rfl))
  rw[ic,eE]at r;have C:b.map (λv=>T.flt (g v))=(b.map g).map T.flt:=by rw[il];rfl
  rw[C]at r;exact db (bN (fJ (eJ (eV (d.get q rfl)) (ie (aM (d.get n rfl) rfl) rfl rfl) r) rfl) cv) (gl (aa9 hs))
 have t:=fV (bind:=bU [49] (.nm 49)) (test:=λ_ Y=>some (true,Y)) (fx:=Bh) (Y:=Y) (λk:Nat=>T.int (k:Int)) (λ_=>true) (λk=>T.flt (if k=0 then j else if k=1 then l else m)) (bf [49] O) (λ(k:Nat) (I:List S)=>I[49]?=some (S.v (T.int (k:Int))))
  (aO 3) [] O (.refl O) (by decide) (λa _=>hJ i) (λ_ _ _ _ _=>rfl) (λk hk I d f _=>by
   have s:=eu.mp hk;have:k=0\/k=1\/k=2:=wU s;rcases this with rfl|rfl|rfl
   ·exact(aS _ (qZ 0 yT j (λ_=>rfl) x I d f) rfl)
   ·exact(aS _ (qZ 1 gy l (λ_=>rfl) hi I d f) rfl)
   ·exact(aS _ (qZ 2 qT m (λ_=>rfl) hq I d f) rfl))
 rw[ic,eE]at t;unfold v8;exact tT o u (eJ (eV p) (jJ be rfl (by decide)) t) rfl rfl (l0 i rfl)
noncomputable def oy:List V3->V3
 |[]=>v0
 |v::r=>cq v (oy r)
theorem G9{x:V3}{r:List V3}:oy (x::r)=cq x (oy r):=rfl
theorem PP{c:V3->Int}(hc:i9 c)(l:List V3):c (oy l)=fb (l.map c):=by
 induction l with
 |nil=>exact hc.z
 |cons v l b=>rw[G9,hc.a,b,cB];rfl
theorem abU(a b:V3):yQ (cq a b)=yQ a+yQ b:=by
 unfold yQ cq;simp only[lL,gK];exact NP
theorem Q6(a b:V3):iQ (cq a b)=iQ a+iQ b:=by
 unfold iQ cq;simp only[lL,gK,lK];exact Mt
theorem Nz(a b:V3):qQ (cq a b)=qQ a+qQ b:=by
 unfold qQ cq;simp only[lL,gK,lK];exact Zh
theorem Ax{f:V3->Rat}(h0:f v0=0)(c:∀ a b,f (cq a b)=f a+f b)(l:List V3):Fl.sumQ (l.map f)=f (oy l):=by
 induction l with
 |nil=>exact h0.symm
 |cons v l d=>rw[cB,G9,c];show f v+Fl.sumQ _=_;rw[d]
theorem AI{g:V3->UInt64}{f:V3->Rat}{l:List V3}(h:∀ v∈l,Fl.Ap (g v) (f v) (1/2^45)/\f v<=1/\-1<=f v):Fl.Aps (1/2^45) (l.map g) (l.map f):=by
 induction l with
 |nil=>exact .nil
 |cons v l d=>
  exact bO (h v (.head _)) λa b c=>.cons a b c (d λv e=>h v (.tail _ e))
theorem Sz{l:List V3}(h0:l≠[])(m:l.length<=15)(c:∀ v∈l,v.Ok):∃ i j k,lI 0 ((l.map yT).map lM)=some (.float i)/\lI 0 ((l.map gy).map lM)=some (.float j)/\lI 0 ((l.map qT).map lM)=some (.float k)/\vX (oy l) i j k:=by
 refine aQ λr=>?_;have e:∀ g:V3->UInt64,l.map g≠[]:=λg q=>h0 (adN.mp q);have h:∀ g:V3->UInt64,(l.map g).length<=15:=λg=>by rw[dm];exact m
 obtain⟨i,s,n⟩:=Fl.sum_ap (e yT) (h yT) (AI (f:=yQ) λv d=>by
  exact bn (qi (c v d)) λa b=>⟨(vZ (c v d)).mono (by decide+kernel),aaD b,wJ a⟩)
 obtain⟨j,t,o⟩:=Fl.sum_ap (e gy) (h gy) (AI (f:=iQ) λv d=>by
  exact bn (qe (c v d)) λa b=>⟨vJ (c v d),GG b,Dx a⟩)
 obtain⟨k,u,p⟩:=Fl.sum_ap (e qT) (h qT) (AI (f:=qQ) λv d=>by
  exact bn (pK (c v d)) λa b=>⟨vO (c v d),GG b,Dx a⟩)
 rw[Ax (by decide+kernel) abU]at n;rw[Ax (by decide+kernel) Q6]at o;rw[Ax (by decide+kernel) Nz]at p;exact r (fy i j k s t u ⟨n,o,p⟩)
theorem Z6:((aO 62).all λm=>(aO 15).any λk=>(m+1).testBit (pI k) != (m+1).testBit (pJ k))=true:=by decide+kernel
theorem abm(a:Nat->V3){m:Nat}(h1:1<=m)(h2:m<=62):(mm (dy a 15) m).map (λb=>b.2.2)≠[]:=by
 have:=c8.mp Z6 (m-1) (eu.mpr (by exact PV h2));refine aQ λd=>aV (J5.mp this) λk hk e=>d ?_;rw[show m-1+1=m by exact(Jf h1)]at e;intro q;rw[adN]at q;have c:(pI k,pJ k,a k)∈mm (dy a 15) m:=uF.mpr ⟨eh.mpr (aS k hk rfl),e⟩;rw[q]at c;cases c
theorem Ru(a:Nat->V3){m:Nat}{V:V3}(h:∀ c,i9 c->c V=iu c (wp a 15) m):oy ((mm (dy a 15) m).map λb=>b.2.2)=V:=by
 refine om λc hc=>?_;rw[PP hc.lin,h c hc.lin,<- EH,il];rfl
noncomputable def ix(a b c:UInt64):T:=.tup [.flt a,.flt b,.flt c]
theorem Hj{O:List S}{Y:List T}{i:Nat}{x y z f:UInt64}(h4:O[4]?=some .nts)(hi:O[i]?=some (.v (ix x y z)))(a:O[46]?=some (.v (.flt f)))(c:Fl.Sm f (1/2^31))(b:Y.length<=1000000):
  ∃ n,dM 4 (cJ [de [na true (dV i),dC .Lt (dB .Mult (dV 46) (dB .Pow (dK (.int 10)) (dK (.int 9)))) (dK (.int 1))],de [dK (.bool true),dK (.bool true)]]) O Y=some (.nx,O,Y++[n])/\kE n:=by
 have d:dn .Pow (.int 10) (.int 9)=some (.int 1000000000):=by rw[tQ (by decide) (by decide) (by decide)];rfl
 have e:d9 .Lt (.flt (c9 f (bZ 1000000000))) (.int 1)=some true:=by
  show some (Jq _ 1==some jO)=some true;rw[Fl.far_ok 1000000000 (by decide) c (by decide+kernel) (by decide+kernel) (by decide) (by decide+kernel)]
 exact(m0 (.tup [.lst [.bool true,.bool true],.lst [.bool true,.bool true]]) (kU (eD (bQ (gn (bQ (rU (aM hi rfl) rfl rfl) rfl (bQ (kO (bV (aM a rfl) rfl (bV be rfl be rfl d) rfl (BS (by decide))) rfl be rfl e) rfl df))) rfl (bQ (gn (bQ be rfl (bQ be rfl df))) rfl df))) rfl h4 b) _ _ rfl rfl)
noncomputable def vk(v:V3)(k:Nat):Int:=if k=0 then v.r else if k=1 then v.g else v.b
noncomputable def mW(a b c:UInt64)(k:Nat):UInt64:=if k=0 then a else if k=1 then b else c
theorem IH{a b c:UInt64}{k:Nat}(h:k<3):(X.v (ix a b c)).item (T.int (k:Int))=some (T.flt (mW a b c k)):=by
 have:k=0\/k=1\/k=2:=wU h;rcases this with rfl|rfl|rfl<;>rfl
theorem A5{v:V3}{k:Nat}(h:k<3):(X.v (tB v)).item (T.int (k:Int))=some (T.int (vk v k)):=by
 have:k=0\/k=1\/k=2:=wU h;rcases this with rfl|rfl|rfl<;>rfl
theorem YV{v:V3}(h:v.Ok)(k:Nat):0<=vk v k/\vk v k<=45:=by
 have:=h.r0;have:=h.r1;have:=h.g0;have:=h.g1;have:=h.b0;have:=h.b1;unfold vk;split
 ·exact HH ‹_› ‹_›
 ·split<;>lia
theorem Gb(x:UInt64):tj (.v (.flt x))=some (.v (.flt (fU x))):=rfl
theorem PH{o:Od}{O:List S}{Y:List T}{V:V3}{m:Nat}{a b c:UInt64}(p:O.length=52)(e:O[32]?=some (.v (lT o (V,m))))(h:O[45]?=some (.v (ix a b c)))(i:O[49]?=some .no)(hV:V.Ok)
  (w:Fl.Ap a ((V.r:Rat)/64) (5/2^40)) (y:Fl.Ap b ((V.g:Rat)/64) (5/2^40)) (hc:Fl.Ap c ((V.b:Rat)/64) (5/2^40)):∃ f,wd O Y=some (.nx,O.set 46 (.v (.flt f)),Y)/\Fl.Sm f (1/2^31):=by
 have q:=fV (bind:=bU [49] (.nm 49)) (test:=λ_ Y=>some (true,Y)) (fx:=yu) (Y:=Y) (λk:Nat=>T.int (k:Int)) (λ_=>true) (λk=>T.flt (fU (dk (c9 (bZ 64) (mW a b c k)) (bZ (vk V k))))) (bf [49] O) (λ(k:Nat) (I:List S)=>I[49]?=some (S.v (T.int (k:Int))))
  (aO 3) [] O (.refl O) (by decide) (λa _=>hJ p) (λ_ _ _ _ _=>rfl) (λk hk I s t _=>by
   have d:=eu.mp hk;have z:=YV hV k;have j:(vk V k).natAbs<2^64:=ff (show(vk V k).natAbs<=45 by exact Zt z) (by decide);have A:=G3 (a:=64) (b:=mW a b c k) (by decide);have B:=Ao (a:=c9 (bZ 64) (mW a b c k)) (b:=vk V k) j;have C:(X.v (lT o (V,m))).item (T.int 2)=some (tB V):=rfl;have l1:=IH (a:=a) (b:=b) (c:=c) d;have l2:=A5 (v:=V) d;have l:=s.get h rfl;have n:=s.get e rfl;refine(aS (.v (.flt (fU (dk (c9 (bZ 64) (mW a b c k)) (bZ (vk V k)))))) ?_ rfl);unfold yu;exact db (bN (bV (bV be rfl (bM (aM l rfl) (aM t rfl) rfl l1) rfl A) rfl (bM (bM (aM n rfl) be rfl C) (aM t rfl) rfl l2) rfl B) cv) (gl (Gb _)))
 rw[ic,eE]at q;refine(aS (nZ [fU (dk (c9 (bZ 64) a) (bZ V.r)),fU (dk (c9 (bZ 64) b) (bZ V.g)),fU (dk (c9 (bZ 64) c) (bZ V.b))]) ?_ (Fl.sm_max (by simp) λx u=>?_))
 ·unfold wd;exact ef (db (bN (fJ (eJ (eV i) (jJ be rfl (by decide)) q) rfl) cv) (Bb _ _ _ Y)) rfl (cC rfl (l0 p rfl))
 ·simp only[bP,dP,or_false]at u;rcases u with rfl|rfl|rfl
  ·exact ze hV.r0 hV.r1 w
  ·exact ze hV.g0 hV.g1 y
  ·exact ze hV.b0 hV.b1 hc
noncomputable def og:List Nat:=[20,30,33,34,46,47,48]
theorem Wi{o:Od}{O:List S}{Y:List T}{V l:V3}{m m':Nat}{w z A:UInt64}(B:O.length=52)(h4:O[4]?=some .nts)(L:O[32]?=some (.v (lT o (V,m))))(M:O[44]?=some (.v (.lst [.flt w,.flt z,.flt A])))(G:O[48]?=some (.v (tB l)))(N:O[49]?=some .no)
  (hV:V.Ok) (e:l.Ok) (hT:vX V w z A) (P:Y.length<=1000000):∃ U n,wn O Y=some (.nx,U,Y++[n])/\bf og O U/\kE n:=by
 refine aQ λQ=>bn (qi hV) λy0 y1=>bn (qe hV) λi0 i1=>bn (pK hV) λq0 q1=>bn (qi e) λy2 y3=>bn (qe e) λi2 i3=>bn (pK e) λq2 q3=>?_;have R:=Aq ((vZ e).mono (e':=1/2^45) (by decide+kernel)) hT.y (show yQ l-yQ V<=_ by grind) (show _<=yQ l-yQ V by grind);have W:=Aq (vJ e) hT.i (show iQ l-iQ V<=_ by grind) (show _<=iQ l-iQ V by grind);have Z:=Aq (vO e) hT.q (show qQ l-qQ V<=_ by grind) (show _<=qQ l-qQ V by grind);refine bO (TK hV e R W Z) λmr mg mb=>Q ?_;have a1:bW (aO 52) (.nm 34) (bL [dB .Div (aR (dV 48) (dK (.int 0))) (dK (.int 64)),dB .Div (aR (dV 48) (dK (.int 1))) (dK (.int 64)),dB .Div (aR (dV 48) (dK (.int 2))) (dK (.int 64))] (cf ml 3 mL)) O Y=some (.nx,O.set 34 (.v (fC l)),Y):=
  ef (D2 e (aM G rfl)) rfl (cC rfl (l0 B rfl))
 have J:bf og O (O.set 34 (.v (fC l))):=(bf.refl O).set rfl _;have C:(O.set 34 (.v (fC l)))[34]?=some (.v (fC l)):=bS (l0 B rfl);have a0:(O.set 34 (.v (fC l)))[48]?=some (.v (tB l)):=aW rfl G;generalize O.set 34 (.v (fC l))=p at*;have K:∀ x:UInt64,dn .Mult (.int 8) (.flt x)=some (.flt (c9 (bZ 8) x)):=λx=>G3 (by decide);have D:=J.get M rfl;have a2:bW (aO 52) (.nm 30) (bL [dB .Mult (dK (.int 8)) (dB .Sub (aR (dV 34) (dK (.int 0))) (aR (dV 44) (dK (.int 0)))),dB .Mult (dK (.int 8)) (dB .Sub (aR (dV 34) (dK (.int 1))) (aR (dV 44) (dK (.int 1)))),dB .Mult (dK (.int 8)) (dB .Sub (aR (dV 34) (dK (.int 2))) (aR (dV 44) (dK (.int 2))))] (cf oB 3 mT)) p Y
   = some (.nx,p.set 30 (.v (ix (Fl.clipF (Fl.rF (c9 (bZ 8) (dk (yT l) w)) (c9 (bZ 8) (dk (gy l) z)) (c9 (bZ 8) (dk (qT l) A)))) (Fl.clipF (Fl.gF (c9 (bZ 8) (dk (yT l) w)) (c9 (bZ 8) (dk (gy l) z)) (c9 (bZ 8) (dk (qT l) A)))) (Fl.clipF (Fl.bF (c9 (bZ 8) (dk (yT l) w)) (c9 (bZ 8) (dk (gy l) z)) (c9 (bZ 8) (dk (qT l) A)))))),Y):=
  ef (db (bN (bV be rfl (bV (bM (aM C rfl) be rfl rfl) rfl (bM (aM D rfl) be rfl rfl) rfl rfl) rfl (K _)) (bN (bV be rfl (bV (bM (aM C rfl) be rfl rfl) rfl (bM (aM D rfl) be rfl rfl) rfl rfl) rfl (K _)) (bN (bV be rfl (bV (bM (aM C rfl) be rfl rfl) rfl (bM (aM D rfl) be rfl rfl) rfl rfl) rfl (K _)) cv))) (IQ _ _ _ Y)) rfl (cC rfl (l0 (J.len B) rfl))
 generalize Fl.clipF (Fl.rF (c9 (bZ 8) (dk (yT l) w)) (c9 (bZ 8) (dk (gy l) z)) (c9 (bZ 8) (dk (qT l) A)))=s at*;generalize Fl.clipF (Fl.gF (c9 (bZ 8) (dk (yT l) w)) (c9 (bZ 8) (dk (gy l) z)) (c9 (bZ 8) (dk (qT l) A)))=t at*;generalize Fl.clipF (Fl.bF (c9 (bZ 8) (dk (yT l) w)) (c9 (bZ 8) (dk (gy l) z)) (c9 (bZ 8) (dk (qT l) A)))=u at*;have F:bf og O (p.set 30 (.v (ix s t u))):=J.set rfl _;have H:(p.set 30 (.v (ix s t u)))[30]?=some (.v (ix s t u)):=bS (l0 (J.len B) rfl);have a5:(p.set 30 (.v (ix s t u)))[48]?=some (.v (tB l)):=aW rfl a0;generalize p.set 30 (.v (ix s t u))=j at*;have a6:=F.get L rfl;have e1:=fV (bind:=bU [49] (.nm 49)) (test:=λ_ Y=>some (true,Y)) (fx:=vh) (Y:=Y) (λk:Nat=>T.int (k:Int)) (λ_=>true) (λk=>T.flt (fU (dk (c9 (bZ 8) (mW s t u k)) (bZ (fw (vk l k-vk V k)))))) (bf [49] j) (λ(k:Nat) (I:List S)=>I[49]?=some (S.v (T.int (k:Int))))
  (aO 3) [] j (.refl j) (by decide) (λa _=>hJ (F.len B)) (λ_ _ _ _ _=>rfl) (λk hk I j1 r1 _=>by
   have E:=eu.mp hk;have a7:=Ft (vk l k-vk V k);have a8:(fw (vk l k-vk V k)).natAbs<2^64:=ff (show(fw (vk l k-vk V k)).natAbs<=8 by exact KW a7) (by decide);have n2:=Ao (a:=c9 (bZ 8) (mW s t u k)) (b:=fw (vk l k-vk V k)) a8;have n3:(X.v (lT o (V,m))).item (T.int 2)=some (tB V):=rfl;have l1:=IH (a:=s) (b:=t) (c:=u) E;have l2:=A5 (v:=l) E;have l3:=A5 (v:=V) E;have a9:=j1.get H rfl;have aa:=j1.get a6 rfl;have ab:=j1.get a5 rfl;have mn:lZ [.v (.int 8),.v (.int (vk l k-vk V k))] Y=some (.v (.int (if vk l k-vk V k<8 then vk l k-vk V k else 8)),Y):=rfl;have mx:mN [.v (.int 0),.v (.int (if vk l k-vk V k<8 then vk l k-vk V k else 8))] Y=some (.v (.int (fw (vk l k-vk V k))),Y):=rfl;refine(aS (.v (.flt (fU (dk (c9 (bZ 8) (mW s t u k)) (bZ (fw (vk l k-vk V k))))))) ?_ rfl);unfold vh;exact db (bN (bV (bV be rfl (bM (aM a9 rfl) (aM r1 rfl) rfl l1) rfl (K _)) rfl (db (bN be (bN (db (bN be (bN (bV (bM (aM ab rfl) (aM r1 rfl) rfl l2) rfl (bM (bM (aM aa rfl) be rfl n3) (aM r1 rfl) rfl l3) rfl rfl) cv)) mn) cv)) mx) rfl n2) cv) (gl (Gb _)))
 rw[ic,eE]at e1;have ad:Fl.Sm (nZ [fU (dk (c9 (bZ 8) s) (bZ (fw (l.r-V.r)))),fU (dk (c9 (bZ 8) t) (bZ (fw (l.g-V.g)))),fU (dk (c9 (bZ 8) u) (bZ (fw (l.b-V.b))))]) (1/2^31):=by
  refine Fl.sm_max (by simp) λx hx=>?_;have key:∀ {x:UInt64} {d:Int},Fl.Ap x (Fl.clip (8*((d:Rat)/64))) (37/2^40)->Fl.Sm (fU (dk (c9 (bZ 8) x) (bZ (fw d)))) (1/2^31):=λ{x d} h=>by
   exact bO (Ft d) λc0 c1 c2=>Ot c0 c1 c2 h
  simp only[bP,dP,or_false]at hx;rcases hx with rfl|rfl|rfl
  ·exact key mr
  ·exact key mg
  ·exact key mb
 have a3:bW (aO 52) (.nm 46) (bL [cM (cn [49] (.nm 49) (iR (dK (.int 3))) (λ_ Y=>some (true,Y)) (cF vh) (.own []))] mN) j Y=some (.nx,j.set 46 (.v (.flt (nZ [fU (dk (c9 (bZ 8) s) (bZ (fw (l.r-V.r)))),fU (dk (c9 (bZ 8) t) (bZ (fw (l.g-V.g)))),fU (dk (c9 (bZ 8) u) (bZ (fw (l.b-V.b))))]))),Y):=
  ef (db (bN (fJ (eJ (eV (F.get N rfl)) (jJ be rfl (by decide)) e1) rfl) cv) (Bb _ _ _ Y)) rfl (cC rfl (l0 (F.len B) rfl))
 generalize nZ [fU (dk (c9 (bZ 8) s) (bZ (fw (l.r-V.r)))),fU (dk (c9 (bZ 8) t) (bZ (fw (l.g-V.g)))),fU (dk (c9 (bZ 8) u) (bZ (fw (l.b-V.b))))]=f at*;have s3:bf og O (j.set 46 (.v (.flt f))):=F.set rfl _;refine aQ λQ=>aV (Hj (O:=j.set 46 (.v (.flt f))) (Y:=Y) (i:=30) (s3.get h4 rfl) (aW rfl H) (bS (l0 (F.len B) rfl)) ad P) λn a4 k4=>Q (cE _ n ?_ s3 k4);unfold wn;exact bz a1 (bz a2 (bz a3 (bz a4 dT)))
theorem Uq{o:Od}{V:V3}{m:Nat}{s t u:UInt64}(hV:V.Ok)(hT:vX V s t u):∀ (j:List Lr) (O:List S) (Y:List T),O.length=52->O[4]?=some .nts->O[32]?=some (.v (lT o (V,m)))->O[44]?=some (.v (.lst [.flt s,.flt t,.flt u]))->O[49]?=some .no->(∀ q∈j,q.1.Ok)->Y.length+j.length<=1000000->
  ∃ U c,em (bU (aO 52) (.tp [(.nm 47),(.nm 33),(.nm 48),(.nm 20)])) wn (j.map (lT o)) O Y=some (.nx,U,Y++c)/\bf og O U/\dF c/\c.length<=j.length:=by
 intro l;induction l with
 |nil=>
  intro O Y b h4 d e f hq a;exact(qX O [] (by rw[gW];rfl) (.refl O) .nil (cu _))
 |cons q j p=>
  intro O Y b h4 d e f hq a;refine aQ λv=>?_;simp only[cK]at a;have w:bU (aO 52) (.tp [(.nm 47),(.nm 33),(.nm 48),(.nm 20)]) (lT o q) O=some ((((O.set 47 (.v (.int (bH o q.1)))).set 33 (.v (dr q.1))).set 48 (.v (tB q.1))).set 20 (.v (.int (q.2:Int)))):=
   pZ (h7 (cC rfl (l0 b rfl)) (h7 (cC rfl (l1 b rfl)) (h7 (cC rfl (l2 b rfl)) (h7 (cC rfl (l3 b rfl)) n6))))
  have g:bf og O ((((O.set 47 (.v (.int (bH o q.1)))).set 33 (.v (dr q.1))).set 48 (.v (tB q.1))).set 20 (.v (.int (q.2:Int)))):=((((bf.refl O).set rfl _).set rfl _).set rfl _).set rfl _;have r:((((O.set 47 (.v (.int (bH o q.1)))).set 33 (.v (dr q.1))).set 48 (.v (tB q.1))).set 20 (.v (.int (q.2:Int))))[48]?=some (.v (tB q.1)):=aW rfl (bS (l2 b rfl));generalize (((O.set 47 (.v (.int (bH o q.1)))).set 33 (.v (dr q.1))).set 48 (.v (tB q.1))).set 20 (.v (.int (q.2:Int)))=I at*;refine bG (Wi (Y:=Y) (m':=0) (g.len b) (g.get h4 rfl) (g.get d rfl) (g.get e rfl) r (g.get f rfl) hV (hq q (.head _)) hT (km a)) λk n x y z=>?_;have i:bf og O k:=g.trans y;refine mj (p k (Y++[n]) (i.len b) (i.get h4 rfl) (i.get d rfl) (i.get e rfl) (i.get f rfl) (λq h=>hq q (.tail _ h)) (by rw[cU];simp;exact mZ a)) λU c f1 f2 A B=>v (qX U (n::c) ?_ (i.trans f2) ((dF.one z).app A) (by simp only[cK];exact vg B));rw[show Y++n::c=Y++[n]++c by simp];exact gk w x f1
theorem TY{O:List S}{Y:List T}{i:Nat}{f:aP}{t:T}(h4:O[i]?=some .nts)(h:f ((O.map S.un).set i (.own Y)) []=some (.v t,[])):yJ i f O Y=some (.ret (.v t),O,Y):=aT h4 (aT rfl (aT h (aT rfl (if_pos rfl))))
theorem Vn{O:List S}{Y:List T}(j:O.length=52)(h4:O[4]?=some .nts)(d:O[49]?=some .no)(m:dF Y)(f:Y.length<=1000000):Ay O Y=some (.ret (.v (.bool true)),O,Y):=by
 have g:((O.map S.un).set 4 (.own Y)).length=52:=by rw[fH,dm];exact j
 have g4:((O.map S.un).set 4 (.own Y))[4]?=some (.own Y):=bS (by rw[dm,j];decide);have h:((O.map S.un).set 4 (.own Y))[49]?=some .no:=aW rfl (by rw[fR,d];rfl);refine TY h4 ?_;generalize (O.map S.un).set 4 (.own Y)=c at*;have k:=fV (bind:=bU [49] (.nm 49)) (test:=p8) (fx:=uS) (Y:=[]) (λt:T=>t) (λ_=>false) (λt=>t) (bf [49] c) (λ(t:T) (I:List S)=>I[49]?=some (S.v t))
  Y [] c (.refl c) (by simpa using f) (λa _=>hJ g) (λt l I n i=>by
   refine aQ λo=>eA (m t l) λa b p e=>?_;subst p;refine o ?_;have f1:aR (dV 49) (dK (.int 0)) I []=some (.v a,[]):=bM (aM i rfl) be rfl rfl;have f2:aR (dV 49) (dK (.int 1)) I []=some (.v b,[]):=bM (aM i rfl) be rfl rfl;unfold p8 B8;rw[f1,ip];show Cg (some a) _=_;rw[ip,f2,ip];show Cg (some b) _=_;rw[ip,if_pos e]) (λt l I n i q=>by cases q)
 rw[List.map_id',Ji.mpr (λa _=>by simp)]at k;have r:Ai (cM (cn [49] (.nm 49) (iL (some 4) (dV 4)) p8 (cF uS) (.own []))) c []=some (.v (.bool true),[]):=by
  have s:cM (cn [49] (.nm 49) (iL (some 4) (dV 4)) p8 (cF uS) (.own [])) c []=some (.fr [],[]):=fJ (eJ (eV h) (ie (aM g4 rfl) rfl rfl) k) rfl;exact aT s (aT rfl (if_pos rfl))
 rw[r]
theorem aaO{cl:List Nat}{o:Od}(ho:o.Ok){rs:List Lr}{O:List S}{Y:List T}(s:O.length=52)(h4:O[4]?=some .nts)(h5:O[5]?=some (.own ((dy (ds cl) 15).map ey)))(ae:O[21]?=some (.v (.inst (cO o))))(z:O[24]?=some (.own (kZ o rs)))(af:O[43]?=some .no)(ag:O[44]?=some .no)(w:O[49]?=some .no)(M:O[50]?=some .no)(ah:O[51]?=some .no)
  (d:rs.length=5) (H:∀ r∈rs,mi o (pQ cl) r.1 r.2) (hn:dF Y) (A:Y.length+100<=1000000) :
  ∃ U ai,aY vE (aY wR (aY vK (aY v8 (aY vB (aY wd (aY xy (aY vY (aY Ay cs)))))))) O Y=some (.ret (.v (.bool true)),U,ai):=by
 refine aQ λnG=>?_;obtain⟨u,I,rfl⟩:∃ u I,rs=u::I:=by cases rs with|nil=>simp at d|cons a b=>exact(dA a b rfl)
 have aj:kZ o (u::I)=(u::I).map (lT o):=rfl;rw[aj]at z;have a1:vE O Y=some (.nx,O.set 32 (.v (lT o u)),Y):=by
  unfold vE;exact ef (bM (aM z rfl) be rfl (gU (j:=0) (t:=lT o u) rfl (by rw[dm];exact ZS d))) rfl (cC rfl (l0 s rfl))
 have N:bf [32,33] O (O.set 32 (.v (lT o u))):=(bf.refl O).set rfl _;refine zU (Ml ho (u::I) u (O.set 32 (.v (lT o u))) Y (N.len s) (N.get h4 rfl) (N.get ae rfl) (bS (l0 s rfl)) (H u (.head _)) H (ab5 A d)) λe c p b1 b2 b3 b4 b5 b6=>?_;have a2:wR (O.set 32 (.v (lT o u))) Y=some (.nx,e,Y++c):=by
  unfold wR;exact iw (ie (aM (N.get z rfl) rfl) rfl rfl) b1
 have B:bf [32,33] O e:=N.trans b2;obtain⟨V,m⟩:=p;refine fX b4 λhV ak P hc=>?_;clear b4;have al:(dy (ds cl) 15).length<=1000:=by unfold dy;rw[dm,kc];decide
 have Q:∀ b∈dy (ds cl) 15,b.2.2.Ok:=λb hb=>by
  refine aV (eh.mp hb) λk hk y2=>?_;subst y2;exact SJ (DN cl k (eu.mp hk))
 have a3:=abi (Y:=Y++c) (B.len s) (B.get h5 rfl) b3 (B.get af rfl) rfl (B.get w rfl) (B.get M rfl) (B.get ah rfl) (LO P) al (IS _) Q;have ec:(mm (dy (ds cl) 15) m).map (λb=>fC b.2.2)=((mm (dy (ds cl) 15) m).map λb=>b.2.2).map fC:=by rw[il];rfl
 rw[ec]at a3;have an:=abm (ds cl) ak P;have R:=Ru (ds cl) hc;have F:((mm (dy (ds cl) 15) m).map λb=>b.2.2).length<=15:=by
  rw[dm];refine bg (Km _ _) ?_;unfold dy;rw[dm,kc];exact cu _
 have W:∀ v∈(mm (dy (ds cl) 15) m).map (λb=>b.2.2),v.Ok:=λv hv=>by
  refine aV (eh.mp hv) λb hb y2=>?_;subst y2;exact Q b (uF.mp hb).1
 generalize (mm (dy (ds cl) 15) m).map (λb=>b.2.2)=X at*;refine gC (Sz an F W) λh l n t1 t2 t3 x=>?_;rw[R]at x;have Z:bf [32,33,43,44,45,46] O (e.set 43 (.v (.lst (X.map fC)))):=(B.mono (by decide)).set rfl _;have ao:(e.set 43 (.v (.lst (X.map fC))))[43]?=some (.v (.lst (X.map fC))):=bS (l0 (B.len s) rfl);have aq:(e.set 43 (.v (.lst (X.map fC))))[32]?=some (.v (lT o (V,m))):=aW rfl b3;have ar:(e.set 43 (.v (.lst (X.map fC))))[44]?=some .no:=aW rfl (B.get ag rfl);generalize e.set 43 (.v (.lst (X.map fC)))=C at*;have a4:=WF (zs:=[]) (Y:=Y++c) (Z.len s) ao ar rfl (Z.get w rfl) (Z.get M rfl) (Zp F) t1 t2 t3;have s4:bf [32,33,43,44,45,46] O (C.set 44 (.v (.lst [.flt h,.flt l,.flt n]))):=Z.set rfl _;have D:(C.set 44 (.v (.lst [.flt h,.flt l,.flt n])))[44]?=some (.v (.lst [.flt h,.flt l,.flt n])):=bS (l0 (Z.len s) rfl);have au:(C.set 44 (.v (.lst [.flt h,.flt l,.flt n])))[32]?=some (.v (lT o (V,m))):=aW rfl aq;generalize C.set 44 (.v (.lst [.flt h,.flt l,.flt n]))=g at*;have a5:vB g (Y++c)=some (.nx,g.set 45 (.v (ix (Fl.clipF (Fl.rF h l n)) (Fl.clipF (Fl.gF h l n)) (Fl.clipF (Fl.bF h l n)))),Y++c):=by
  unfold vB;exact ef (db (bN (bM (aM D rfl) be rfl rfl) (bN (bM (aM D rfl) be rfl rfl) (bN (bM (aM D rfl) be rfl rfl) cv))) (IQ h l n _)) rfl (cC rfl (l0 (s4.len s) rfl))
 refine bO (aaE hV x) λla lb lc=>?_;generalize Fl.clipF (Fl.rF h l n)=J at*;generalize Fl.clipF (Fl.gF h l n)=K at*;generalize Fl.clipF (Fl.bF h l n)=L at*;have s5:bf [32,33,43,44,45,46] O (g.set 45 (.v (ix J K L))):=s4.set rfl _;have a0:(g.set 45 (.v (ix J K L)))[45]?=some (.v (ix J K L)):=bS (l0 (s4.len s) rfl);have av:(g.set 45 (.v (ix J K L)))[44]?=some (.v (.lst [.flt h,.flt l,.flt n])):=aW rfl D;have aa:(g.set 45 (.v (ix J K L)))[32]?=some (.v (lT o (V,m))):=aW rfl au;generalize g.set 45 (.v (ix J K L))=y at*;refine aV (PH (Y:=Y++c) (s5.len s) aa a0 (s5.get w rfl) hV la lb lc) λf a6 hf=>?_;have G:bf [32,33,43,44,45,46] O (y.set 46 (.v (.flt f))):=s5.set rfl _;refine aV (Hj (O:=y.set 46 (.v (.flt f))) (Y:=Y++c) (i:=45) (G.get h4 rfl) (aW rfl a0) (bS (l0 (s5.len s) rfl)) hf (by rw[cU];exact LZ A d b6)) λn1 a7 k7=>?_;have aw:(y.set 46 (.v (.flt f)))[32]?=some (.v (lT o (V,m))):=aW rfl aa;have ax:(y.set 46 (.v (.flt f)))[44]?=some (.v (.lst [.flt h,.flt l,.flt n])):=aW rfl av;generalize y.set 46 (.v (.flt f))=E at*;have ay:c.length<=5:=by rw[d]at b6;exact b6
 refine mj (Uq hV x (u::I) E (Y++c++[n1]) (G.len s) (G.get h4 rfl) aw ax (G.get w rfl) (λq hq=>(H q hq).1) (by simp only[cU,cK,iJ]at d ⊢;exact MG A d ay)) λab ad c1 c2 c3 c4=>?_;have a8:vY E (Y++c++[n1])=some (.nx,ab,Y++c++[n1]++ad):=by
  unfold vY;exact iw (ie (aM (G.get z rfl) rfl) rfl rfl) c1
 rw[d]at c4;have a9:=Vn (O:=ab) (Y:=Y++c++[n1]++ad) (c2.len (G.len s)) (c2.get (G.get h4 rfl) rfl) (c2.get (G.get w rfl) rfl) (((hn.app b5).app (dF.one k7)).app c3) (by simp only[cU,cK,iJ];exact Yd A d b6 c4);have az:xy E (Y++c)=some (.nx,E,Y++c++[n1]):=by unfold xy;exact a7
 exact nG (dA _ _ (bz a1 (bz a2 (bz a3 (bz a4 (bz a5 (bz a6 (bz az (bz a8 (ij a9))))))))))
theorem qW{O:List S}(h:O.all S.notN=true){i:Nat}{x:S}(b:x.notN=true):(O.set i x).all S.notN=true:=by
 rw[c8]at h ⊢;intro y a;rcases List.mem_or_eq_of_mem_set a with a|rfl
 ·exact h y a
 ·exact b
theorem RM{Y:List T}:∀ (i:List Int) (p:Nat) (a:List Nat) (O:List S),O.length=52->O[1]?=some (.own (bv a))->a.length=16->O.all S.notN=true->
  ∃ U b,em (bU (aO 52) (.tp [(.nm 2),(.nm 3)])) AE (oH p (i.map T.int)) O Y=some (.nx,U,Y)/\bf [1,2,3] O U/\U[1]?=some (.own (bv b))/\b.length=16/\U.all S.notN=true:=by
 intro f;induction f with
 |nil=>
  intro p a O c h1 hc g;exact(qd O a rfl (.refl O) h1 hc g)
 |cons z i h=>
  intro p a O c h1 hc g;refine aQ λl=>?_;have m:bU (aO 52) (.tp [(.nm 2),(.nm 3)]) (T.tup [T.int (p:Int),T.int z]) O=some ((O.set 2 (.v (.int (p:Int)))).set 3 (.v (.int z))):=
   pZ (h7 (cC rfl (l0 c rfl)) (h7 (cC rfl (l1 c rfl)) n6))
  have j:bf [1,2,3] O ((O.set 2 (.v (.int (p:Int)))).set 3 (.v (.int z))):=((bf.refl O).set rfl _).set rfl _;have n:((O.set 2 (.v (.int (p:Int)))).set 3 (.v (.int z)))[2]?=some (.v (.int (p:Int))):=aW rfl (bS (l0 c rfl));have o:((O.set 2 (.v (.int (p:Int)))).set 3 (.v (.int z)))[3]?=some (.v (.int z)):=bS (l1 c rfl);have q:((O.set 2 (.v (.int (p:Int)))).set 3 (.v (.int z)))[1]?=some (.own (bv a)):=aW rfl (aW rfl h1);have r:((O.set 2 (.v (.int (p:Int)))).set 3 (.v (.int z))).all S.notN=true:=qW (qW g rfl) rfl;generalize (O.set 2 (.v (.int (p:Int)))).set 3 (.v (.int z))=I at*;refine aU (yh (adL z (show(0:Int)<1000000 by decide))) λy s=>?_;have t:=sf p 16 (by decide);have u:dn .Mod (.int z) (.int 1000000)=some (.int (y:Int)):=by rw[ms (by decide),s]
  have d:p%16<a.length:=by rw[hc];exact nP _ (by decide)
  have v:vT (.own (bv a)) (.int ((p%16:Nat):Int))=some (.int (a[p%16]:Int)):=by
   show(if _ then _ else _)=_;rw[if_pos ⟨(nO _),by rw[iC];exact aaX hc,by rw[iC];exact zw hc⟩,mH];unfold bv;rw[fR,gv d];rfl
  have e:mf (.own (bv a)) (.int ((p%16:Nat):Int)) (.int ((a[p%16]:Int)+(y:Int)))=some (.own (bv (a.set (p%16) (a[p%16]+y)))):=by
   rw[tq _ (by rw[iC];exact d) (by rw[iC];exact zw hc)];unfold bv;rw[List.map_set];rfl
  have a1:mK 1 (dB .Mod (dV 2) (dK (.int 16))) (dB .Mod (dV 3) (dK (.int 1000000))) I Y=some (.nx,I.set 1 (.own (bv (a.set (p%16) (a[p%16]+y)))),Y):=
   zx q (bV (aM n rfl) rfl be rfl t) rfl v (bV (aM o rfl) rfl be rfl u) rfl rfl e
  have k:bf [1,2,3] O (I.set 1 (.own (bv (a.set (p%16) (a[p%16]+y))))):=j.set rfl _;refine nE (h (p+1) (a.set (p%16) (a[p%16]+y)) _ (k.len c) (bS (l0 (j.len c) rfl)) (by rw[fH];exact hc) (qW r rfl)) λU b f1 f2 w x A=>l (qd U b ?_ (k.trans f2) w x A);rw[cB];exact gk m (bz a1 dT) f1
noncomputable def qw:List Nat:=[1850,7569,13314,19008,24733,30479,36185,41904,47630,53455,59163,64809,70524,76253,81982,42970]
theorem plain(l:List Int)(m:l.length<=63):∃ U,sD (ig dJ [.v (.lst (l.map T.int))]) []=some (.ret (.v (.bool true)),U,[]):=by
 have n:ig dJ [S.v (.lst (l.map T.int))]=S.v (.lst (l.map T.int))::CK 51 .no:=rfl;rw[n];generalize c:S.v (.lst (l.map T.int))::CK 51 S.no=O;have k:O.length=52:=by rw[<- c];rfl
 have h0:O[0]?=some (.v (.lst (l.map T.int))):=by rw[<- c];rfl
 have a:∀ i,0<i->i<52->O[i]?=some .no:=λi h1 h2=>by
  refine aQ λf=>?_;obtain⟨j,rfl⟩:∃ j,i=j+1:=⟨i-1,QF h1⟩;refine f ?_;rw[<- c,ad8,List.getElem?_replicate,if_pos (Pp h2)]
 have p:O.all S.notN=true:=by
  rw[<- c,gX];show(true&&(CK 51 S.no).all S.notN)=true;rw[Bool.true_and,c8];intro x H;rw[(ye.mp H).2];rfl
 clear c n;have a1:jy (aO 52) 1 (de [dK (.int 1850),dK (.int 7569),dK (.int 13314),dK (.int 19008),dK (.int 24733),dK (.int 30479),dK (.int 36185),dK (.int 41904),dK (.int 47630),dK (.int 53455),dK (.int 59163),dK (.int 64809),dK (.int 70524),dK (.int 76253),dK (.int 81982),dK (.int 42970)]) O []=some (.nx,O.set 1 (.own (bv qw)),[]):=
  tc (x:=.fr (bv qw)) rfl rfl rfl (l0 k rfl)
 have u:bf [1,2,3] O (O.set 1 (.own (bv qw))):=(bf.refl O).set rfl _;refine aQ λf=>nE (RM (Y:=[]) (l.take 60) 0 qw (O.set 1 (.own (bv qw))) (u.len k) (bS (l0 k rfl)) rfl (qW p rfl)) λb r I J K L M=>f ?_;have a2:fe (aO 52) (.tp [(.nm 2),(.nm 3)]) (iE none (hH (dV 0) none (some (dK (.int 60))))) AE (O.set 1 (.own (bv qw))) []=some (.nx,b,[]):=by
  have N:iP (l.map T.int) none (some 60)=(l.take 60).map T.int:=by
   have:=UU (l.map T.int) 60;rw[List.map_take];exact this
  refine iw (G7 (sp (aM (u.get h0 rfl) rfl) tJ (tx be rfl) rfl (by rw[dm];exact KG m) N) rfl rfl) ?_;rw[A7];exact I
 have C:bf [1,2,3] O b:=u.trans J;have e:=C.len k;have a3:gz (aO 52) [4,5] false [de [],de []] b []=some (.nx,(b.set 4 (.own [])).set 5 (.own []),[]):=
  Aa (bN (gn df) (bN (gn df) cv)) rfl (oL rfl (l0 e rfl)) (oL rfl (l1 e rfl))
 have g:((b.set 4 (.own [])).set 5 (.own [])).all S.notN=true:=qW (qW M rfl) rfl;have g4:((b.set 4 (.own [])).set 5 (.own []))[4]?=some (.own []):=aW rfl (bS (l0 e rfl));have d:bf [1,2,3,4,5] O (((b.set 4 (.own [])).set 5 (.own [])).set 4 .nts):=(((C.mono (by decide)).set rfl _).set rfl _).set rfl _;have P:(((b.set 4 (.own [])).set 5 (.own [])).set 4 .nts)[1]?=some (.own (bv r)):=aW rfl (aW rfl (aW rfl K));have D:(((b.set 4 (.own [])).set 5 (.own [])).set 4 .nts)[4]?=some .nts:=bS (l2 e rfl);have Q:(((b.set 4 (.own [])).set 5 (.own [])).set 4 .nts)[5]?=some (.own []):=aW rfl (bS (l1 e rfl));refine aQ λf=>iy (Yy L (d.len k) P D Q (d.get (a 12 (by decide) (by decide)) rfl) (d.get (a 18 (by decide) (by decide)) rfl) (d.get (a 31 (by decide) (by decide)) rfl) (d.get (a 41 (by decide) (by decide)) rfl) (d.get (a 49 (by decide) (by decide)) rfl) (d.get (a 50 (by decide) (by decide)) rfl) (d.get (a 51 (by decide) (by decide)) rfl)) λw s c1 h E R V F=>f ?_;have G:=Gd (r.getD 15 0);generalize mQ (r.getD 15 0)=o at*;have t:=h.len (d.len k);refine aQ λf=>Do (Ra G (Y:=s) (W9 o (pQ r)) (by unfold qU;rw[dm,kc];decide) (show dD.length=6 from rfl) t E (PW F)) λy z W X d2 Z d4 d5 d6 d7=>f ?_;have A:w[21]?=some (.v (.inst (cO o))):=by obtain⟨⟨_,_,_,_,_,_,q,_⟩,_⟩:=E;exact q.s21
 obtain⟨U,B,e1⟩:=aaO (cl:=r) G (rs:=W) (O:=y) (Y:=s++z) (d2.len t) (d2.get (h.get D rfl) rfl) (d2.get R rfl) (d2.get A rfl) Z (d2.get (h.get (d.get (a 43 (by decide) (by decide)) rfl) rfl) rfl) (d2.get (h.get (d.get (a 44 (by decide) (by decide)) rfl) rfl) rfl) (d2.get (h.get (d.get (a 49 (by decide) (by decide)) rfl) rfl) rfl) (d2.get (h.get (d.get (a 50 (by decide) (by decide)) rfl) rfl) rfl) (d2.get (h.get (d.get (a 51 (by decide) (by decide)) rfl) rfl) rfl)
  d4 d5 (V.app d6) (by rw[cU];exact abY F d7)
 have hR:Ba (((b.set 4 (.own [])).set 5 (.own [])).set 4 .nts) []=some (.ret (.v (.bool true)),U,B):=by
  unfold Ba;exact c1 _ _ _ _ (bz X e1)
 exact⟨U.map S.un,bz a1 (bz a2 (aT a3 ((if_pos g).trans (aT rfl (aT g4 (aT rfl ((if_pos rfl).trans (aT hR (aT rfl (da rfl rfl))))))))))⟩
end
end Pl
end Mine.Internal
theorem PySem.Challenge.cw_xh0036_01_holds : PySem.Challenge.rw_xh0036_01.Holds :=
  Mine.Internal.law_holds Mine.Internal.Pl.plain
