import PyProof.Rows.All
import Wide.All
import OpenK.AllK
import Wide.FinOn
import KE.KRevIter
import KE.KLam
import KE.KNestM
import KE.KSortTup
import PySem.Challenge.RW_wb0100_01
set_option Elab.async false
set_option autoImplicit false
set_option tactic.hygienic false
set_option linter.all false
set_option maxRecDepth 100000
set_option genSizeOf false
set_option compiler.extract_closed false
set_option maxHeartbeats 0
namespace Mine.Internal
noncomputable section
open And renaming intro->bQ
open Array renaming getElem?_toList->kB,getElem?_eq_getElem->nw,mem_toList_iff->s_,toList_push->tr,toList_inj->wf,mem_iff_getElem->zs,toList_append->zy,length_toList->zB,getElem?_eq_some_iff->EB,getElem?_eq_none_iff->ED,getElem?_eq_none->EL,getD_eq_getD_getElem?->NW,empty_append->Pa,find?_toList->Pl,ext_getElem?->Pr,size_push->Qa
open Bool renaming true->ae,false->aH,and_eq_true->bB,true->eR,eq_iff_iff->hY,not_eq_true'->nH,eq_false_iff->qN,not_eq_true->qR,and_eq_true_iff->s9,noConfusion->tx,or_eq_true->ww,false_or->Ah,false->Hd,false_eq_true->Pn,and_false->QD
open Classical renaming byContradiction->ba,propDecidable->zn,choose_spec->OI,choose->PZ
open Decidable renaming em->Rn
open False renaming elim->dw
open ForInStep renaming yield->mN
open Iff renaming rfl->Ju
open Int renaming le_trans->dh,le_of_lt->du,natCast_nonneg->dA,not_lt->dW,ofNat_lt->eN,ofNat_le->fX,add_comm->g4,le_of_eq->ja,lt_of_le_of_lt->jy,lt_of_lt_of_le->lc,toNat_natCast->lV,toNat_of_nonneg->mG,add_sub_cancel->mH,fdiv_eq_ediv_of_nonneg->nv,le_of_lt_add_one->nA,add_le_add_right->nB,sub_eq_add_neg->nG,toNat_le->nP,emod_lt_of_pos->pe,emod_nonneg->pj,lt_irrefl->po,ne_of_gt->pq,le_refl->pt,neg_neg->pv,not_le->pA,fmod_eq_emod_of_nonneg->qw,sub_le_sub_right->qE,max_eq_right->qQ,le_antisymm->qU,lt_asymm->rg,natAbs_neg->tC,add_zero->tM,neg_mul->tO,max_le->tS,le_add_of_nonneg_right->vH,lt_add_one_of_le->vQ,add_le_add_left->vY,natAbs_add_le->wa,min_eq_left->wo,le_natAbs->wA,mul_comm->wH,eq_ofNat_of_zero_le->zq,sub_nonneg_of_le->zt,add_lt_add_left->zx,sub_add_cancel->zF,sub_pos_of_lt->zP,lt_trichotomy->zR,min_eq_right->zS,natCast_add->zX,le_max_left->zZ,lt_or_le->An,sub_self->Au,neg_sub->Ax,sub_neg->Ay,sub_sub->AF,mul_le_mul_of_nonneg_left->Ew,natAbs_of_nonneg->ER,neg_le_of_neg_le->ES,lt_iff_le_and_ne->EX,add_left_cancel->EY,min_le_right->Fw,neg_fdiv_neg->FI,max_eq_left->FM,toNat_sub->Gk,add_assoc->Gl,toNat_lt->Gv,ediv_one->Gy,lt_trans->GG,zero_sub->GI,mul_zero->GL,one_mul->GU,mul_one->GY,mul_pos->G4,toNat->HH,mul_le_mul_of_nonpos_left->NV,lt_add_of_pos_right->Og,lt_or_eq_of_le->Pc,neg_le_neg_iff->Pd,add_right_comm->Pe,neg_pos_of_neg->Pf,natAbs_eq_zero->Ph,pos_of_neg_neg->Ps,natAbs_sub_le->PC,lt_of_sub_pos->PM,natCast_pos->Qh,neg_mul_neg->Qj,add_le_add->QH,ne_of_lt->Rb,fmod_def->Rh,le_total->Ri,mul_add->RG,sub_mul->RH,mul_neg->RI,neg_pos->RK,le_min->Se,ofNat->S6
open Int.ofNat renaming inj->lW
open List renaming length_map->aR,mem_singleton->a_,mem_cons_self->bi,mem_map->bL,mem_cons_of_mem->bM,length_append->bR,mem_cons->bT,not_mem_nil->ca,getElem?_map->ci,map_map->cJ,mem_append->cQ,append_nil->cR,mem_of_getElem?->c5,append_assoc->c6,getElem?_eq_getElem->dt,map_append->dK,range->dM,map_cons->d8,all_eq_true->ef,mem_filter->eg,getElem?_eq_some_iff->ez,pairwise_cons->fV,length_cons->gj,mem_range->gk,length->gm,length_take->gJ,nodup_cons->gK,replicate->gL,range'->hZ,lookup_cons->iu,foldl_cons->iw,mem_reverse->iM,length_reverse->i',lookup->jb,filter_cons->jA,take_length->j0,take_append_drop->kC,length_filter_le->kD,mem_map_of_mem->kE,length_range->kF,nodup_append->kG,getD_eq_getElem?_getD->k9,take_of_length_le->la,length_eq_zero_iff->lL,pairwise_append->lM,map_congr_left->lN,take_add_one->lQ,foldl_append->lR,map->l5,pairwise_singleton->mE,mem_of_mem_take->mF,filter_congr->mJ,cons_ne_nil->mM,drop_left->mP,getElem?_toArray->nz,filterMap_cons->nF,count_append->nL,getElem?_append_right->o8,getElem?_reverse->o9,mem_append_right->o_,getElem?_eq_none->pb,lookup_append->pc,sum_cons->pn,not_lt->pz,getElem?_eq_none_iff->qx,getElem?_append_left->qy,drop_eq_getElem_cons->qz,mem_iff_getElem?->qC,contains_iff_mem->qD,getLast?_append->qG,mem_of_getLast?->qH,mem_filterMap->qI,ext_getElem?->qJ,mem_range'_1->qM,pairwise_map->qO,getLast?_map->qP,length_drop->qT,filter_map->qV,take_left->qY,foldl->rs,mem_append_left->te,filter_append->tn,any_eq_true->tz,drop_zero->tD,getLast?_eq_some_getLast->vD,mem_zipIdx_iff_getElem?->vF,length_filterMap_le->vL,filter_eq_nil_iff->vN,range'_append_1->vR,reverse_reverse->vS,mem_of_mem_drop->vU,map_eq_cons_iff->vW,filter_sublist->v6,flatten_cons->v_,map_reverse->wj,cons_append->wl,forIn_cons->wt,length_nil->wv,all_cons->wB,count->wV,dropLast_concat_getLast->zh,replicate_succ->zz,getElem?_range->zC,map_eq_nil_iff->zD,filter_eq_self->zE,getElem?_drop->zH,append_of_mem->zJ,filterMap_map->zK,count_eq_zero->zL,ne_nil_of_mem->zM,mem_flatMap->zU,nodup_range->zV,drop_length->zW,nil_append->z0,lt_asymm->Ai,any_map->Ar,eq_nil_of_length_eq_zero->Ev,perm_ext_iff_of_nodup->EC,append_eq_append_iff->EE,getLast?_eq_some_iff->EF,length_erase_of_mem->EH,length_eq_one_iff->EI,length_take_of_le->EJ,length_pos_of_mem->EK,drop_eq_nil_of_le->EM,cons_sublist_cons->EN,lookup_cons_self->EQ,mem_erase_of_ne->EU,reverse_append->E0,getElem?_take->E6,getElem?_nil->Fc,reverse_cons->Fi,any_eq_false->Fm,flatMap_cons->Fq,range'_succ->Fz,map_snd_zip->FA,perm_middle->FC,zipIdx_cons->FJ,filter_nil->FX,drop_drop->F_,head?_map->Gh,map_take->Gq,zipWith->GD,map_nil->GJ,drop->HR,flatten_replicate_singleton->NQ,eraseIdx_eq_take_drop_succ->NR,eq_nil_iff_forall_not_mem->NS,take_append_of_le_length->NU,pairwise_iff_getElem->N1,getElem?_zip_eq_some->N4,getLastD_eq_getLast?->N5,filterMap_cons_none->N6,filterMap_cons_some->N7,drop_of_length_le->Ol,pairwise_reverse->Ow,length_singleton->Oy,singleton_append->Oz,filterMap_append->OA,filterMap_eq_map->OJ,length_eraseIdx->OO,getLast?_concat->OQ,le_iff_lt_or_eq->OT,length_take_le'->OW,reverse_sublist->OZ,flatten_append->O9,zip_cons_cons->Pm,map_inj_right->Pt,contains_cons->Pu,zipIdx_append->Pw,filter_filter->Px,size_toArray->PH,take_sublist->PL,isEmpty_iff->PR,getElem_mem->PX,getLast_mem->P2,mem_zipIdx'->P5,range_succ->Qb,length_zip->Qi,idxOf_cons->Qk,drop_take->Qy,filterMap->QF,le_trans->QV,drop_nil->QX,toArray->Rc,map_id->RJ,getD->S8,take->S_
open List.Pairwise renaming nil->jZ,imp_of_mem->ad0
open List.Perm renaming refl->qX,cons->Ab,swap->Qx
open List.Sublist renaming refl->PA,map->aek
open List.cons renaming inj->j6
open Nat renaming le_trans->aD,lt_of_le_of_lt->aV,le_of_lt->bd,le_of_eq->bn,le_refl->bv,lt_of_lt_of_le->cg,zero_le->ck,le_add_right->cy,not_lt->de,succ_pos->eB,ne_of_lt->eC,add_assoc->eK,lt_trans->eO,add_le_add_left->fi,zero_add->fq,add_le_add->fW,add_le_add_right->gG,lt_irrefl->gO,add_comm->gP,lt_succ_self->gY,min_eq_left->iN,le_add_left->jB,ne_of_gt->jD,le_succ->jF,lt_succ_of_le->jY,mul_comm->kH,not_le->kJ,add_sub_cancel_left->k_,le_antisymm->lg,add_sub_of_le->lO,lt_succ_of_lt->lU,mul_le_mul_left->nC,succ_le_succ->nM,le_of_lt_succ->pf,min_le_right->ph,one_mul->pu,exists_eq_add_of_le->qB,mul_le_mul_right->qF,le_of_succ_le->qK,succ_le_of_lt->qL,mul_succ->rf,mul_add->ri,sub_le->rr,lt_add_of_pos_right->s4,add_right_comm->tg,lt_of_succ_le->tu,sub_self->tL,one_pos->tN,mod_lt->tV,div_lt_of_lt_mul->vT,add_lt_add_left->vX,sub_add_cancel->v7,le_succ_of_le->wb,mod_eq_of_lt->wg,div_eq_of_lt->wh,succ_ne_zero->wi,min_le_left->wm,two_pow_pos->wx,lt_asymm->wF,two_pos->wI,log2_lt->wM,pow_le_pow_right->zv,sub_lt_sub_left->zw,add_sub_cancel->zI,not_lt_zero->z6,pow_add->AE,le_of_add_le_add_right->EA,le_sub_of_add_le'->EO,lt_of_lt_of_eq->E9,min_eq_right->Fu,succ_ne_self->Fy,mul_le_mul->Gg,mul_assoc->Go,succ_mul->Gu,add_zero->Gw,le_total->GK,sub_zero->GN,add_mul->G3,sub_lt->He,add_mul_mod_self_left->N0,lt_add_right_iff_pos->Oa,exists_eq_add_of_lt->Oc,lt_of_succ_lt_succ->Oi,eq_zero_of_not_pos->Oj,div_div_eq_div_mul->Oq,lt_add_of_pos_left->Ot,le_of_ble_eq_true->Ov,add_mul_div_left->OL,le_sub_one_of_lt->OM,add_lt_add_right->ON,sub_lt_sub_right->OR,not_succ_le_self->OU,not_succ_le_zero->OV,le_sub_of_add_le->OX,add_left_cancel->O0,lt_mul_div_succ->O7,lt_of_le_of_ne->Pb,pos_of_ne_zero->Pj,sub_pos_of_lt->Py,le_of_pred_lt->Pz,le_max_right->PQ,succ_lt_succ->PW,le_of_not_lt->P4,le_max_left->P',max_eq_left->P_,div_add_mod->Qe,mul_add_div->Qf,strongRecOn->Qg,lt_one_iff->QG,mul_zero->Rf,pow_zero->Rg,zero_div->Rj,pow_succ->Rk,div_one->RA,two_mul->RB,mul_one->RC,div_pos->RE
open Nat.succ renaming inj->pp
open Option renaming some->aa,none->ak,none->aU,bind_eq_some_iff->iq,map_eq_some_iff->kA,some_ne_none->lb,isNone_iff_eq_none->vK,some->G2,ite_none_right_eq_some->NT,map_eq_none_iff->Op,map_some->Qc
open Option.some renaming inj->aW,injEq->Fd
open Prod renaming ext->xo,fst->Uv
open Prod.mk renaming inj->wK
open PyProof renaming noPylong_small->Ou
open PyProof.Rows renaming listUpdate_at->tI,excClass_ZeroDivisionError->vJ,Attribute_name->Ac,Assign_Tuple->Ao,seqEpoch_at->AD,Subscript_->AJ,tail_any->Bk,get?_update_seq->FP,entry_list_sort->FQ,slot_list_sort->F9,listItems_at->GA,plain_sorted->GB,entry_sorted->GC,kind_sorted->GZ,isnot_none_gen->Qs,args_list_sort->QB,lshift_int_small->adO,getItem_tuple->adQ,floordiv_int->adU,truthy_int->ad3,lshift_int->ad4,rshift_int->ad5,invert_int->ad6,mod_int'->aea,and_int->aeb,xor_int->aec,neg_int->aed,lt_int->aee,le_int->aef,gt_int->aeg,ge_int->aeh
open PyProof.Rows.F renaming plain_set_update_loop->Eu,entry_set_update_loop->NP
open PySem renaming Addr->ag,Value->ai,Expr->au,Shared->av,wpAny_bind->aJ,wpAny_pure->a8,World->a9,Scope->bf,Stmt->bw,Around->bN,Params->bS,Heap->dp,DictEntry->dy,wpAny_mono->er,mainGlobals->eF,wpAny_holding->eM,wpAny_Name->eQ,wpAny_evalAll_nil->fB,NameKind->fP,BindsTo->fQ,partValue->fY,sysModules->gp,cellsFrom->gQ,foldedSetIterable->ir,strKind->ix,Arguments->iz,swapsWith->iA,builtinsNs->iO,Builtin->i_,SetTable->je,builtinLookup_eq_fast->jX,wpAny_call_entry->j4,typeLookup_type->j5,wpAny_newObj_type->lf,seqIndex?->lm,wpAny_Call_ofName->lP,wpAny_call->lY,Operator->l4,Program->l8,IsPair->l9,wpAny_execs_cons->mK,swappedStores->mQ,attributeBase->mR,codeAny_mono->mS,typeLookup->mT,wpAny_Call_method_late->ny,wpAny_truthy_bool->nJ,typeIs_str->nR,JoinOk->n9,Model->om,CmpOp->oq,wpAny_askSetting->pi,wpAny_setField->pk,sizeLine_eq->py,call_meets->pB,BoolOp->pW,wpAny_callSpecial?_slot->qA,wpAny_items_cons->qS,wpAny_Expr_any->qW,isSubtype_type->qZ,interactive->rj,assignEach->rt,sliceRange->rz,storeName->rC,noteFrame->rD,FuncBody->rN,wpAny_pyIter_list->tq,codeAny_builtin->tB,wpAny_of_eq->tP,codeAmong->tX,pushCells->tY,strValues->tZ,Fin->t0,ZipApart->ug,StrKeys->um,Result->ux,wpAny_isTrue_Compare1->vO,wpAny_setState_of->v9,wpAny_execs_nil->wq,pushCells_keeps->ws,letOwnedTupleGo->wu,wpAny_attempt->wE,isInstance->wR,typeIs_int->wS,closureFor->wT,TriplesOk->w9,seqItems?->w',IntMulOk->xm,UnaryOp->xE,WalksS->xP,Pairs->x9,wpAny_assignInOrder_more->zl,wpAny_list_append_plain->zo,wpAny_Assign_Subscript->zr,wpAny_Tuple_spliced->zA,wpAny_assign_Tuple->zG,wpAny_Assign_Name->zO,slot_list_setitem->zQ,theTreesLotGoes->zY,wpAny_loadPart'->z9,newFunctionEnv->Aa,behindInMarks->Af,swapsWithSole->Ag,plainId_quiet->Ak,foldedForSure->Al,assign->Ap,wpAny_field->Az,keywordEach->AA,sliceBounds->AB,treeTable->AV,compStart->AW,scanBound->AY,FuncData->Bj,wpAny_If->Bl,Thread->Cb,SignAt->Cc,wpAny_assignInOrder_none->EG,wpAny_AugAssign_Name->ET,intBits_le_iff->EV,wpAny_Constant_none->EZ,wpAny_setField_rec->E4,wpAny_pyIter_ascii->E5,wpAny_evalAll_cons->E7,wpAny_pyIter_tuple->E8,slot_list_getitem->Fe,slot_dict_getitem->Fg,wpAny_assign_Name->Fh,seqIndex_of->Fk,wpAny_getItem_of->Fv,theWindowsPlace->FN,codeAny_of_tree->FO,wpAny_updateSeq->FR,methodCallForm->F7,letTemporaryGo->F8,wpAny_fieldsOf->Ga,wpAny_listPart->Gb,firstArgMember->Gc,isSubtype_stop->Gd,comprehension->Gm,wpAny_onRaise->Gp,bootBuiltins->Gx,call_meetsIn->GF,wpAny_IfExp->GV,subscripted->GW,wpAny_Slice->GX,unsupported->G0,wpAny_throw->G1,checkCount->Hf,setsByText->Hh,setEntries->Hi,isSubtype->HI,clausesOf->HJ,wpAny_For->HL,isSeqSlot->HM,pickOrder->HP,Str->HQ,wpAny_getItem_list_slice->N8,wpAny_delete_Subscript->Oh,wpAny_pyNext_list_item->Om,wpAny_callSpecial?_own->Oo,wpAny_deleteEach_cons->Ox,wpAny_pyNext_list_end->OB,wpAny_deleteEach_nil->OP,codeAny_call_builtin->OS,wpAny_Constant_bool->O2,codeAny_forLoop_any->O4,wpAny_pyIter_values->O6,wpAny_setItem_pairs->O8,wpAny_List_spliced->Pk,entry_list_setitem->Po,wpAny_tupleItemsOf->Pp,wpAny_Call_Name_kw->Pq,wpAny_pyIter_wide->PB,wpAny_sequenceKey->PE,args_list_setitem->PF,wpAny_storeSet_of->PI,wpAny_pyIter_slot->PJ,meets_dict_values->PK,wpAny_isInstance->PP,wpAny_eqBool_int->PS,entryFor_of_tree->PU,wpAny_eqBool_str->PV,wpAny_pyIter_zip->P0,wpAny_seqItems->Qr,wpAny_layCells->Qw,wpAny_tryCatch->QA,entryFor_alias->QC,wpAny_runValue->QE,assignInOrder->QP,eval_ListComp->QR,methodCallPos->QU,stored->Rd
open PySem.Around renaming under_plainId->vV,frames_deeper->EW
open PySem.Builtin renaming divisionGoesByPylong->Ey,bitAnd->Qt,bitXor->Qu,bitNot->Qv
open PySem.Builtin.Frozenset renaming updateFrom->Ez,oneOther->adR,newClass->adS,isAnySet->adT,addrOf->adX,sizeOf->adY,slot0->ad7
open PySem.Builtin.Int renaming intBits->fA
open PySem.Builtin.List renaming listFitsIndex->vI,listSubscript?->zi,listTooLong->zj,listSliceParts->NX,listExtendWith->NY,listUpdate->Od,listItems->On,listAllItems->adV,listSameRef->adZ
open PySem.Builtin.Range renaming rangeSize->Ob,rangeFitsLong->adP,small->aei
open PySem.Builtin.SmallTypes renaming ownedTupleHandOut->adN,nextOf->adW
open PySem.Builtin.Str renaming occurrences->ku,strSliceIndices->vG,partsBetween->vM,tooLong->vZ,strKind->v0
open PySem.Calls renaming callWith_builtin->nN,Name_function_global->zu,loadGlobal_global->Fj,call_function_entry->N2
open PySem.Challenge renaming rw_wb0100_01->vE,pw_wb0100_01->Ex
open PySem.Code renaming compLoop->jI,builtin->Aq
open PySem.Data renaming fields->bC,fields->eP,seq->rM,dict->w8,noConfusion->zT
open PySem.Env renaming blockKind->QS
open PySem.Expr renaming Name->aS,Call->bU,Tuple->b7,Attribute->cC,Subscript->dN,Compare->iQ,Constant->jH,Name->S9
open PySem.Expr.Attribute renaming elim->E1
open PySem.Expr.BinOp renaming elim->FT
open PySem.Expr.BoolOp renaming elim->FD
open PySem.Expr.Call renaming elim->Ge
open PySem.Expr.Compare renaming elim->Fp
open PySem.Expr.Constant renaming elim->E_
open PySem.Expr.IfExp renaming elim->FU
open PySem.Expr.List renaming elim->tE
open PySem.Expr.Name renaming elim->mO
open PySem.Expr.Slice renaming elim->FW
open PySem.Expr.Subscript renaming elim->E2
open PySem.Expr.Tuple renaming elim->FV
open PySem.Expr.UnaryOp renaming elim->Fo
open PySem.F renaming called_set->pd,slot_dict_values->zm,args_dict_values_1->NZ,entry_dict_values->N3,type_dict_values->N9,plain_list_iadd->Oe,plainAttrs_dict->Of,slot_str_join->OC,slot_set_iter->OE,plain_set_new->OF
open PySem.Flow renaming cont->S7
open PySem.FuncBody renaming stmts->gR
open PySem.Heap renaming get?_push_of_some->bZ,lt_size->cq,get?_push_size->cB,size_push->gZ,SameBut->kI,get?_update_self->s6,ExtBut->wJ,mk->Jt,size_update->PT
open PySem.Heap.SameBut renaming update->gH
open PySem.Heap.UpToSlots renaming of_keeps->ad8
open PySem.IsL renaming update->wU
open PySem.Keeper renaming boundFrame->jz,machine->jC,frame->jE
open PySem.NameKind renaming globalImplicit->cj,cell->lh,free->wD
open PySem.Obj renaming mapSeq->jc,data_mapFields->th,isFreed_of_fields->vP,mapFields->Aj,putSet->Hg
open PySem.Pairs renaming nil->Ta
open PySem.ScopeKind renaming function->fu
open PySem.SetTable renaming grown->q7,below->wz,laid->QW
open PySem.Shared renaming TypeIs->Gn,heap->RF
open PySem.Sre renaming M->sh,forSearch->QT,Outcome->RD
open PySem.Stmt renaming Assign->fe
open PySem.Stmt.Assert renaming elim->FH
open PySem.Stmt.Assign renaming elim->FE
open PySem.Stmt.AugAssign renaming elim->E3
open PySem.Stmt.ClassDef renaming elim->aej
open PySem.Stmt.Continue renaming elim->Fa
open PySem.Stmt.Expr renaming elim->Gf
open PySem.Stmt.FunctionDef renaming elim->ad9
open PySem.Stmt.If renaming elim->GH
open PySem.Stmt.Return renaming elim->FG
open PySem.Str renaming ofString->a6,length->iy,join->Bm
open PySem.StrLaws renaming At->tU,strSub_toList->OG,glued_eq_join->OH,occBody->Qd,occ_eq->Qz
open PySem.Txt renaming lower->cf,find->jJ,join->jK,rfind->j9,split->pC,startswith->wy,endswith->wG
open PySem.Value renaming type->aK,type->cF,bool->eG,none->fD,isStrOf->gl,isInt->px,isInt_shape->Ff,noConfusion->Fs,isStrOf_shape->O5,builtin->QN
open PySem.Value.int renaming inj->QO
open PySem.Value.ref renaming inj->tH
open PySem.W renaming Looks->jN,callWith_of->j8,WData->p6,KasT->sB,SharedT->ul,kas_rev->xF,kas_place->AX,kas_asc->BM,kas_ask->BN,WellAll->BO,kas_descPart->Gz,kas_tail3->HN,kas_count->HO,kas_sort->IH,wellAll_cons_inv->P6
open PySem.W.Looks renaming of_pure->QQ,ld->Uu
open PySem.W.RowW renaming records->Q_
open PySem.W.WShape renaming has->Sf
open PySem.W.WTm renaming holds->AZ,value->Tb
open PySem.Walks renaming dictValues->PY,list->Sd
open PySem.WalksT renaming enumerateD->PD
open PySem.pickOrder renaming go->As
open PySem PySem.Calls PySem.W PyProof.Rows
variable {x y aG bI z nm:Str} {w:a9} {n i c m b j tk r ep hi u c':Nat} {s aw s' aA aT:av} {aM p np xp ap eT cp e6 sp p' oT oU:Pos} {α β:Type} {sc aF scope oF:bf} {e iter co cX:au} {a fa dx X L:ag} {A A':bN} {ab eL:Env} {v doc pm ct bA cv dV kV:ai} {mu wr:List ag} {vs:List ai} {E Q:ai->av->Prop} {o fo:Obj} {F:Prop} {aI xs U T ys:List Str} {params:iz} {body:List bw} {bV ts:List au} {h h':dp} {af:Array ai} {es:Array (Int×ai)} {bX:Nat->List ag} {fd:Bj} {kz:List Int} {ps:List (Str×Str)} {q:Int} {jU:Str->List ag} {J It:Nat->dp->Prop} {bh:List (Str×ai)} {fS:l8} {op:l4} {an:Option ag} {rows:List (List Str)}
local macro_rules | `(tactic|ac_rfl)=>`(tactic|with_unfolding_all rfl)
theorem aQ.{u,v}{α:Sort u}{β:Sort v}{a b:α}(f:α->β)(h:a=b):f a=f b:=congrArg f h
theorem aZ{a b:Prop}(h:a)(n:¬a):b:=absurd h n
theorem be.{u}{c:Prop}{h:Decidable c}(q:¬c){α:Sort u}{t e:α}:ite c t e=e:=if_neg q
theorem bo.{u}{c:Prop}{h:Decidable c}(q:c){α:Sort u}{t e:α}:ite c t e=t:=if_pos q
theorem cY{p:Prop}[inst:Decidable p]:decide p=ae->p:=of_decide_eq_true
theorem eS{p:Prop}[inst:Decidable p]:p->decide p=ae:=decide_eq_true
theorem eY{p:Prop}[inst:Decidable p]:¬p->decide p=aH:=decide_eq_false
theorem ig{p:Prop}[inst:Decidable p]:decide p=aH->¬p:=of_decide_eq_false
noncomputable abbrev PG:l8:=vE.row.toRowW.prog
noncomputable def tp(i:Nat):Option bw:=Ex.main.body[i]?
def mt(i:Nat):Option bw:=(tp 22).bind λs=>if h:s.ctorIdx=2 then aej s h λ_ _ _ body _ _ _ _ _ _ _=>body[i]? else ak
noncomputable def e7(st:Option bw)(name bI:String)(dV kV doc pm cd:ai):Obj:=st.elim (tabObj #[]) λs=>if h:s.ctorIdx=0 then ad9 s h λ_ args body _ _ _ scope _ _ _=>{cls:=aK "function",data:=.func {name:=a6 name,qualname:=a6 bI,params:=args,body:=gR body,scope:=scope,globals:=3,closure:=[],defaults:=dV,kwdefaults:=kV,doc:=doc,pyModule:=pm,annotations:=ak,code:=cd,closureTuple:=.none,builtins:=0}} else tabObj #[]
noncomputable abbrev S(x:String):Str:=a6 x
noncomputable abbrev Sv(x:String)(t:Nat):ai:=.str (a6 x) t
noncomputable abbrev I(i:Int)(t:Nat):ai:=.int i t
noncomputable abbrev R(a:Nat):ai:=.ref a
noncomputable abbrev N:ai:=.none
noncomputable abbrev en(P:bS)(k:String)(t:Nat)(v:ai):dy:={hash:=PyData.keyHash P (a6 k),key:=.str (a6 k) t,val:=v}
def h3(P:bS):Obj:={cls:=(cF "dict"),dict:=ak,data:=(w8 #[(en P "__name__" 165 (Sv "law_wb0100_01" 693)),(en P "__doc__" 166 N),(en P "__package__" 167 N),(en P "__loader__" 168 (QN "__main__.__loader__#opaqu\x65")),(en P "__spec__" 169 N),(en P "__annotations__" 170 (R 6)),(en P "__builtins__" 171 (R 4)),(en P "__file__" 173 (Sv "/claim/cut.py" 172)),(en P "__cached__" 174 N),(en P "_sre" 275 (R 12)),(en P "_wall" 288 (R 38)),(en P "ELLIPSIS_MARKER" 292 (Sv "..." 291)),(en P "_ellipsis_match" 304 (R 45)),(en P "_DIV_LIMIT" 308 (I 4000 307)),(en P "_div2n1n" 325 (R 52)),(en P "_div3n2n" 339 (R 59)),(en P "_int2digits" 350 (R 66)),(en P "_digits2int" 361 (R 73)),(en P "_divmod_pos" 376 (R 80)),(en P "int_divmod" 386 (R 87)),(en P "insort_right" 401 (R 96)),(en P "bisect_right" 415 (R 105)),(en P "bisect_left" 429 (R 114)),(en P "tspecials" 465 (R 119)),(en P "_name_disallowed_re" 491 (R 124)),(en P "_value_disallowed_re" 525 (R 129)),(en P "_formatparam" 535 (R 137)),(en P "Headers" 692 (R 258)),(en P "_law_over" 705 (R 269)),(en P "_law_apart" 715 (R 276)),(en P "_law_sticks" 721 (R 281)),(en P "_law_rows" 727 (R 286)),(en P "_law_points" 733 (R 291)),(en P "_law_order" 739 (R 296)),(en P "_law_painted" 745 (R 301)),(en P "_law_takes" 753 (R 308)),(en P "_law_once" 766 (R 315)),(en P "law" 772 (R 320))] 38),slots:=#[]}
def h44(P:bS):Obj:={cls:=(cF "code"),dict:=ak,data:=(eP #[(Sv "_ellipsis_match" 293),(Sv "_ellipsis_match" 294),(Sv "/claim/cut.py" 295),(I 7 0),(I 2 0),(I 0 0),(I 0 0),(I 3 0),(R 39),(eG eR),(I 276 0),(R 40),N,(R 41),(R 42),(R 43),(I 302 0),(I 7 0),(Sv "/claim/cut.py" 303)]),slots:=#[]}
def h45(P:bS):Obj:=e7 (tp 4) "_ellipsis_match" "_ellipsis_match" N N N (Sv "cpy313.doctest" 289) (R 44)
def h51(P:bS):Obj:={cls:=(cF "code"),dict:=ak,data:=(eP #[(Sv "_div2n1n" 309),(Sv "_div2n1n" 310),(Sv "/claim/cut.py" 311),(I 37 0),(I 3 0),(I 0 0),(I 0 0),(I 3 0),(R 46),(eG eR),(I 276 0),(R 47),N,(R 48),(R 49),(R 50),(I 323 0),(I 37 0),(Sv "/claim/cut.py" 324)]),slots:=#[]}
def h52(P:bS):Obj:=e7 (tp 7) "_div2n1n" "_div2n1n" N N N (Sv "cpy313._pylong" 305) (R 51)
def h58(P:bS):Obj:={cls:=(cF "code"),dict:=ak,data:=(eP #[(Sv "_div3n2n" 326),(Sv "_div3n2n" 327),(Sv "/claim/cut.py" 328),(I 53 0),(I 6 0),(I 0 0),(I 0 0),(I 3 0),(R 53),(eG eR),(I 276 0),(R 54),N,(R 55),(R 56),(R 57),(I 337 0),(I 53 0),(Sv "/claim/cut.py" 338)]),slots:=#[]}
def h59(P:bS):Obj:=e7 (tp 8) "_div3n2n" "_div3n2n" N N N (Sv "cpy313._pylong" 305) (R 58)
def h65(P:bS):Obj:={cls:=(cF "code"),dict:=ak,data:=(eP #[(Sv "_int2digits" 340),(Sv "_int2digits" 341),(Sv "/claim/cut.py" 342),(I 63 0),(I 2 0),(I 0 0),(I 0 0),(I 3 0),(R 60),(eG eR),(I 276 0),(R 61),N,(R 62),(R 63),(R 64),(I 348 0),(I 63 0),(Sv "/claim/cut.py" 349)]),slots:=#[]}
def h66(P:bS):Obj:=e7 (tp 9) "_int2digits" "_int2digits" N N N (Sv "cpy313._pylong" 305) (R 65)
def h72(P:bS):Obj:={cls:=(cF "code"),dict:=ak,data:=(eP #[(Sv "_digits2int" 351),(Sv "_digits2int" 352),(Sv "/claim/cut.py" 353),(I 79 0),(I 2 0),(I 0 0),(I 0 0),(I 3 0),(R 67),(eG eR),(I 276 0),(R 68),N,(R 69),(R 70),(R 71),(I 359 0),(I 79 0),(Sv "/claim/cut.py" 360)]),slots:=#[]}
def h73(P:bS):Obj:=e7 (tp 10) "_digits2int" "_digits2int" N N N (Sv "cpy313._pylong" 305) (R 72)
def h79(P:bS):Obj:={cls:=(cF "code"),dict:=ak,data:=(eP #[(Sv "_divmod_pos" 362),(Sv "_divmod_pos" 363),(Sv "/claim/cut.py" 364),(I 88 0),(I 2 0),(I 0 0),(I 0 0),(I 3 0),(R 74),(eG eR),(I 276 0),(R 75),N,(R 76),(R 77),(R 78),(I 374 0),(I 88 0),(Sv "/claim/cut.py" 375)]),slots:=#[]}
def h80(P:bS):Obj:=e7 (tp 11) "_divmod_pos" "_divmod_pos" N N N (Sv "cpy313._pylong" 305) (R 79)
def h86(P:bS):Obj:={cls:=(cF "code"),dict:=ak,data:=(eP #[(Sv "int_divmod" 377),(Sv "int_divmod" 378),(Sv "/claim/cut.py" 379),(I 99 0),(I 2 0),(I 0 0),(I 0 0),(I 3 0),(R 81),(eG eR),(I 276 0),(R 82),N,(R 83),(R 84),(R 85),(I 384 0),(I 99 0),(Sv "/claim/cut.py" 385)]),slots:=#[]}
def h87(P:bS):Obj:=e7 (tp 12) "int_divmod" "int_divmod" N N N (Sv "cpy313._pylong" 305) (R 86)
def h88(P:bS):Obj:={cls:=(cF "tuple"),dict:=ak,data:=(rM #[(I 0 389),N] 0),slots:=#[]}
def h89(P:bS):Obj:={cls:=(cF "dict"),dict:=ak,data:=(w8 #[(en P "key" 390 N)] 1),slots:=#[]}
def h95(P:bS):Obj:={cls:=(cF "code"),dict:=ak,data:=(eP #[(Sv "insort_right" 391),(Sv "insort_right" 392),(Sv "/claim/cut.py" 393),(I 111 0),(I 4 0),(I 0 0),(I 1 0),(I 3 0),(R 90),(eG eR),(I 276 0),(R 91),N,(R 92),(R 93),(R 94),(I 399 0),(I 111 0),(Sv "/claim/cut.py" 400)]),slots:=#[]}
def h96(P:bS):Obj:=e7 (tp 14) "insort_right" "insort_right" (R 88) (R 89) N (Sv "cpy313.bisect" 387) (R 95)
def h97(P:bS):Obj:={cls:=(cF "tuple"),dict:=ak,data:=(rM #[(I 0 402),N] 0),slots:=#[]}
def h98(P:bS):Obj:={cls:=(cF "dict"),dict:=ak,data:=(w8 #[(en P "key" 403 N)] 1),slots:=#[]}
def aaD(P:bS):Obj:={cls:=(cF "code"),dict:=ak,data:=(eP #[(Sv "bisect_right" 404),(Sv "bisect_right" 405),(Sv "/claim/cut.py" 406),(I 117 0),(I 4 0),(I 0 0),(I 1 0),(I 3 0),(R 99),(eG eR),(I 276 0),(R 100),N,(R 101),(R 102),(R 103),(I 413 0),(I 117 0),(Sv "/claim/cut.py" 414)]),slots:=#[]}
def aaE(P:bS):Obj:=e7 (tp 15) "bisect_right" "bisect_right" (R 97) (R 98) N (Sv "cpy313.bisect" 387) (R 104)
def aaF(P:bS):Obj:={cls:=(cF "tuple"),dict:=ak,data:=(rM #[(I 0 416),N] 0),slots:=#[]}
def aaG(P:bS):Obj:={cls:=(cF "dict"),dict:=ak,data:=(w8 #[(en P "key" 417 N)] 1),slots:=#[]}
def aaH(P:bS):Obj:={cls:=(cF "code"),dict:=ak,data:=(eP #[(Sv "bisect_left" 418),(Sv "bisect_left" 419),(Sv "/claim/cut.py" 420),(I 137 0),(I 4 0),(I 0 0),(I 1 0),(I 3 0),(R 108),(eG eR),(I 276 0),(R 109),N,(R 110),(R 111),(R 112),(I 427 0),(I 137 0),(Sv "/claim/cut.py" 428)]),slots:=#[]}
def aaI(P:bS):Obj:=e7 (tp 16) "bisect_left" "bisect_left" (R 106) (R 107) N (Sv "cpy313.bisect" 387) (R 113)
def aaJ(P:bS):Obj:={cls:=(cF "tuple"),dict:=ak,data:=(rM #[(I 14 0),(I 10 0),(I 4 0),(I 1 0),(I 1 0),(I 22 0),(I 0 0),(I 31 0),(I 16 0),(I 127 0),(I 0 0),(I 13 0),(I 7 0),(I 22 0),(I 0 0),(I 31 0),(I 16 0),(I 127 0),(I 0 0),(I 1 0)] 0),slots:=#[]}
def aaK(P:bS):Obj:={cls:=(cF "re.Pattern"),dict:=ak,data:=(eP #[(Sv "[\\x00-\\x1F\\x7F]" 467),(I 32 490),(I 0 0),N,N,(R 123),(I 0 0)]),slots:=#[]}
def aaL(P:bS):Obj:={cls:=(cF "tuple"),dict:=ak,data:=(rM #[(I 14 0),(I 14 0),(I 4 0),(I 1 0),(I 1 0),(I 9 0),(I 4294966783 0),(I 0 0),(I 0 0),(I 2147483648 0),(I 0 0),(I 0 0),(I 0 0),(I 0 0),(I 0 0),(I 13 0),(I 11 0),(I 9 0),(I 4294966783 0),(I 0 0),(I 0 0),(I 2147483648 0),(I 0 0),(I 0 0),(I 0 0),(I 0 0),(I 0 0),(I 1 0)] 0),slots:=#[]}
def aaM(P:bS):Obj:={cls:=(cF "re.Pattern"),dict:=ak,data:=(eP #[(Sv "[\\x00-\\x08\\x0A-\\x1F\\x7F]" 493),(I 32 524),(I 0 0),N,N,(R 128),(I 0 0)]),slots:=#[]}
def aaN(P:bS):Obj:={cls:=(cF "tuple"),dict:=ak,data:=(rM #[N] 0),slots:=#[]}
def aaO(P:bS):Obj:={cls:=(cF "code"),dict:=ak,data:=(eP #[(Sv "__init__" 548),(Sv "Headers.__init__" 549),(Sv "/claim/cut.py" 550),(I 172 0),(I 2 0),(I 0 0),(I 0 0),(I 3 0),(R 146),(eG eR),(I 276 0),(R 147),N,(R 148),(R 149),(R 150),(I 555 0),(I 172 0),(Sv "/claim/cut.py" 556)]),slots:=#[]}
def aaP(P:bS):Obj:=e7 (mt 0) "__init__" "Headers.__init__" (R 145) N N (Sv "cpy313.wsgiref.headers" 430) (R 151)
def aaQ(P:bS):Obj:={cls:=(cF "code"),dict:=ak,data:=(eP #[(Sv "_convert_string_type" 558),(Sv "Headers._convert_string_type" 559),(Sv "/claim/cut.py" 560),(I 182 0),(I 2 0),(I 0 0),(I 1 0),(I 3 0),(R 153),(eG eR),(I 276 0),(R 154),N,(R 155),(R 156),(R 157),(I 565 0),(I 182 0),(Sv "/claim/cut.py" 566)]),slots:=#[]}
def aaR(P:bS):Obj:=e7 (mt 1) "_convert_string_type" "Headers._convert_string_type" N N N (Sv "cpy313.wsgiref.headers" 430) (R 158)
def aaS(P:bS):Obj:={cls:=(cF "code"),dict:=ak,data:=(eP #[(Sv "__setitem__" 575),(Sv "Headers.__setitem__" 576),(Sv "/claim/cut.py" 577),(I 193 0),(I 3 0),(I 0 0),(I 0 0),(I 3 0),(R 167),(eG eR),(I 276 0),(R 168),N,(R 169),(R 170),(R 171),(I 581 0),(I 193 0),(Sv "/claim/cut.py" 582)]),slots:=#[]}
def aaT(P:bS):Obj:=e7 (mt 3) "__setitem__" "Headers.__setitem__" N N N (Sv "cpy313.wsgiref.headers" 430) (R 172)
def aaU(P:bS):Obj:={cls:=(cF "code"),dict:=ak,data:=(eP #[(Sv "__delitem__" 584),(Sv "Headers.__delitem__" 585),(Sv "/claim/cut.py" 586),(I 197 0),(I 2 0),(I 0 0),(I 0 0),(I 3 0),(R 174),(eG eR),(I 276 0),(R 175),N,N,N,(R 176),(I 587 0),(I 197 0),(Sv "/claim/cut.py" 588)]),slots:=#[]}
def aaV(P:bS):Obj:=e7 (mt 4) "__delitem__" "Headers.__delitem__" N N N (Sv "cpy313.wsgiref.headers" 430) (R 177)
def aaW(P:bS):Obj:={cls:=(cF "code"),dict:=ak,data:=(eP #[(Sv "get_all" 606),(Sv "Headers.get_all" 607),(Sv "/claim/cut.py" 608),(I 207 0),(I 2 0),(I 0 0),(I 0 0),(I 3 0),(R 193),(eG eR),(I 276 0),(R 194),N,N,N,(R 195),(I 609 0),(I 207 0),(Sv "/claim/cut.py" 610)]),slots:=#[]}
def aaX(P:bS):Obj:=e7 (mt 7) "get_all" "Headers.get_all" N N N (Sv "cpy313.wsgiref.headers" 430) (R 196)
def aaY(P:bS):Obj:={cls:=(cF "code"),dict:=ak,data:=(eP #[(Sv "items" 635),(Sv "Headers.items" 636),(Sv "/claim/cut.py" 637),(I 224 0),(I 1 0),(I 0 0),(I 0 0),(I 3 0),(R 216),(eG eR),(I 276 0),(R 217),N,(R 218),(R 219),(R 220),(I 639 0),(I 224 0),(Sv "/claim/cut.py" 640)]),slots:=#[]}
def aaZ(P:bS):Obj:=e7 (mt 11) "items" "Headers.items" N N N (Sv "cpy313.wsgiref.headers" 430) (R 221)
def aa0(P:bS):Obj:={cls:=(cF "code"),dict:=ak,data:=(eP #[(Sv "add_header" 671),(Sv "Headers.add_header" 672),(Sv "/claim/cut.py" 673),(I 239 0),(I 3 0),(I 0 0),(I 0 0),(I 11 0),(R 249),(eG eR),(I 276 0),(R 250),N,(R 251),(R 252),(R 253),(I 681 0),(I 239 0),(Sv "/claim/cut.py" 682)]),slots:=#[]}
def aa1(P:bS):Obj:=e7 (mt 16) "add_header" "Headers.add_header" N N N (Sv "cpy313.wsgiref.headers" 430) (R 254)
def C8(P:bS):Obj:={cls:=(cF "dict"),dict:=ak,data:=(w8 #[(en P "__module__" 543 (Sv "cpy313.wsgiref.headers" 430)),(en P "__firstlineno__" 547 (I 170 546)),(en P "__init__" 557 (R 152)),(en P "_convert_string_type" 567 (R 159)),(en P "__len__" 574 (R 166)),(en P "__setitem__" 583 (R 173)),(en P "__delitem__" 589 (R 178)),(en P "__getitem__" 597 (R 185)),(en P "__contains__" 605 (R 192)),(en P "get_all" 611 (R 197)),(en P "get" 622 (R 205)),(en P "keys" 628 (R 210)),(en P "values" 634 (R 215)),(en P "items" 641 (R 222)),(en P "__repr__" 648 (R 229)),(en P "__str__" 654 (R 234)),(en P "__bytes__" 661 (R 241)),(en P "setdefault" 670 (R 248)),(en P "add_header" 683 (R 255)),(en P "__static_attributes__" 685 (R 256)),(en P "__dict__" 687 (R 259)),(en P "__weakref__" 689 (R 260)),(en P "__doc__" 690 N)] 4),slots:=#[]}
def aa2(P:bS):Obj:={cls:=(cF "type"),dict:=ak,data:=(Data.cls {name:=(S "Headers"),bases:=[(cF "object")],mro:=[(R 258),(cF "object")],ns:=257,qualname:=(S "Headers"),hasDict:=eR,slotNames:=[],subclasses:=[],abstract:=Hd,collection:=ak,hasDel:=Hd}),slots:=#[ak,ak,(aa (Sv "Headers" 536)),(aa (Sv "Headers" 544)),(aa (QN "object.__new__")),(aa (eG eR))]}
def aa3(P:bS):Obj:={cls:=(cF "code"),dict:=ak,data:=(eP #[(Sv "_law_over" 695),(Sv "_law_over" 696),(Sv "/claim/cut.py" 697),(I 253 0),(I 3 0),(I 0 0),(I 0 0),(I 3 0),(R 263),(eG eR),(I 276 0),(R 264),N,(R 265),(R 266),(R 267),(I 703 0),(I 253 0),(Sv "/claim/cut.py" 704)]),slots:=#[]}
def aa4(P:bS):Obj:=e7 (tp 24) "_law_over" "_law_over" N N N (Sv "law_wb0100_01" 693) (R 268)
def aa5(P:bS):Obj:={cls:=(cF "code"),dict:=ak,data:=(eP #[(Sv "_law_apart" 706),(Sv "_law_apart" 707),(Sv "/claim/cut.py" 708),(I 257 0),(I 2 0),(I 0 0),(I 0 0),(I 3 0),(R 270),(eG eR),(I 276 0),(R 271),N,(R 272),(R 273),(R 274),(I 713 0),(I 257 0),(Sv "/claim/cut.py" 714)]),slots:=#[]}
def aa6(P:bS):Obj:=e7 (tp 25) "_law_apart" "_law_apart" N N N (Sv "law_wb0100_01" 693) (R 275)
def aa7(P:bS):Obj:={cls:=(cF "code"),dict:=ak,data:=(eP #[(Sv "_law_sticks" 716),(Sv "_law_sticks" 717),(Sv "/claim/cut.py" 718),(I 260 0),(I 1 0),(I 0 0),(I 0 0),(I 3 0),(R 277),(eG eR),(I 276 0),(R 278),N,N,N,(R 279),(I 719 0),(I 260 0),(Sv "/claim/cut.py" 720)]),slots:=#[]}
def aa8(P:bS):Obj:=e7 (tp 26) "_law_sticks" "_law_sticks" N N N (Sv "law_wb0100_01" 693) (R 280)
def aa9(P:bS):Obj:={cls:=(cF "code"),dict:=ak,data:=(eP #[(Sv "_law_rows" 722),(Sv "_law_rows" 723),(Sv "/claim/cut.py" 724),(I 281 0),(I 2 0),(I 0 0),(I 0 0),(I 3 0),(R 282),(eG eR),(I 276 0),(R 283),N,N,N,(R 284),(I 725 0),(I 281 0),(Sv "/claim/cut.py" 726)]),slots:=#[]}
def aba(P:bS):Obj:=e7 (tp 27) "_law_rows" "_law_rows" N N N (Sv "law_wb0100_01" 693) (R 285)
def abb(P:bS):Obj:={cls:=(cF "code"),dict:=ak,data:=(eP #[(Sv "_law_points" 728),(Sv "_law_points" 729),(Sv "/claim/cut.py" 730),(I 296 0),(I 4 0),(I 0 0),(I 0 0),(I 3 0),(R 287),(eG eR),(I 276 0),(R 288),N,N,N,(R 289),(I 731 0),(I 296 0),(Sv "/claim/cut.py" 732)]),slots:=#[]}
def abc(P:bS):Obj:=e7 (tp 28) "_law_points" "_law_points" N N N (Sv "law_wb0100_01" 693) (R 290)
def abd(P:bS):Obj:={cls:=(cF "code"),dict:=ak,data:=(eP #[(Sv "_law_order" 734),(Sv "_law_order" 735),(Sv "/claim/cut.py" 736),(I 307 0),(I 2 0),(I 0 0),(I 0 0),(I 3 0),(R 292),(eG eR),(I 276 0),(R 293),N,N,N,(R 294),(I 737 0),(I 307 0),(Sv "/claim/cut.py" 738)]),slots:=#[]}
def abe(P:bS):Obj:=e7 (tp 29) "_law_order" "_law_order" N N N (Sv "law_wb0100_01" 693) (R 295)
def abf(P:bS):Obj:={cls:=(cF "code"),dict:=ak,data:=(eP #[(Sv "_law_painted" 740),(Sv "_law_painted" 741),(Sv "/claim/cut.py" 742),(I 327 0),(I 3 0),(I 0 0),(I 0 0),(I 3 0),(R 297),(eG eR),(I 276 0),(R 298),N,N,N,(R 299),(I 743 0),(I 327 0),(Sv "/claim/cut.py" 744)]),slots:=#[]}
def abg(P:bS):Obj:=e7 (tp 30) "_law_painted" "_law_painted" N N N (Sv "law_wb0100_01" 693) (R 300)
def abh(P:bS):Obj:={cls:=(cF "code"),dict:=ak,data:=(eP #[(Sv "_law_takes" 746),(Sv "_law_takes" 747),(Sv "/claim/cut.py" 748),(I 334 0),(I 2 0),(I 0 0),(I 0 0),(I 3 0),(R 302),(eG eR),(I 276 0),(R 303),N,(R 304),(R 305),(R 306),(I 751 0),(I 334 0),(Sv "/claim/cut.py" 752)]),slots:=#[]}
def abi(P:bS):Obj:=e7 (tp 31) "_law_takes" "_law_takes" N N N (Sv "law_wb0100_01" 693) (R 307)
def abj(P:bS):Obj:={cls:=(cF "code"),dict:=ak,data:=(eP #[(Sv "_law_once" 754),(Sv "_law_once" 755),(Sv "/claim/cut.py" 756),(I 336 0),(I 2 0),(I 0 0),(I 0 0),(I 3 0),(R 309),(eG eR),(I 276 0),(R 310),N,(R 311),(R 312),(R 313),(I 764 0),(I 336 0),(Sv "/claim/cut.py" 765)]),slots:=#[]}
def abk(P:bS):Obj:=e7 (tp 32) "_law_once" "_law_once" N N N (Sv "law_wb0100_01" 693) (R 314)
def abl(P:bS):Obj:={cls:=(cF "code"),dict:=ak,data:=(eP #[(Sv "law" 767),(Sv "law" 768),(Sv "/claim/cut.py" 769),(I 342 0),(I 1 0),(I 0 0),(I 0 0),(I 3 0),(R 316),(eG eR),(I 276 0),(R 317),N,N,N,(R 318),(I 770 0),(I 342 0),(Sv "/claim/cut.py" 771)]),slots:=#[]}
def abm(P:bS):Obj:=e7 (tp 33) "law" "law" N N N (Sv "law_wb0100_01" 693) (R 319)
def DO(P:bS):Frag:=[(3,h3 P),(44,h44 P),(45,h45 P),(51,h51 P),(52,h52 P),(58,h58 P),(59,h59 P),(65,h65 P),(66,h66 P),(72,h72 P),(73,h73 P),(79,h79 P),(80,h80 P),(86,h86 P),(87,h87 P),(88,h88 P),(89,h89 P),(95,h95 P),(96,h96 P),(97,h97 P),(98,h98 P),(104,aaD P),(105,aaE P),(106,aaF P),(107,aaG P),(113,aaH P),(114,aaI P),(123,aaJ P),(124,aaK P),(128,aaL P),(129,aaM P),(145,aaN P),(151,aaO P),(152,aaP P),(158,aaQ P),(159,aaR P),(172,aaS P),(173,aaT P),(177,aaU P),(178,aaV P),(196,aaW P),(197,aaX P),(221,aaY P),(222,aaZ P),(254,aa0 P),(255,aa1 P),(257,C8 P),(258,aa2 P),(268,aa3 P),(269,aa4 P),(275,aa5 P),(276,aa6 P),(280,aa7 P),(281,aa8 P),(285,aa9 P),(286,aba P),(290,abb P),(291,abc P),(295,abd P),(296,abe P),(300,abf P),(301,abg P),(307,abh P),(308,abi P),(314,abj P),(315,abk P),(319,abl P),(320,abm P)]
noncomputable def KA:List ag:=[3,44,45,51,52,58,59,65,66,72,73,79,80,86,87,88,89,95,96,97,98,104,105,106,107,113,114,123,124,128,129,145,151,152,158,159,172,173,177,178,196,197,221,222,254,255,257,258,268,269,275,276,280,281,285,286,290,291,295,296,300,301,307,308,314,315,319,320]
theorem Y9(P:bS):KA=(DO P).map (·.1):=by rfl
noncomputable def V:l8:=view Ex [0,1,3,4,6,7,8,9,10,11,12,18,19,20,22,24,25,26,27,28,29,30,31,32,33]
noncomputable def LN:List Str:=[a6 "insort_right",a6 "bisect_right",a6 "bisect_left",a6 "tspecials",
 a6 "_name_disallowed_re",a6 "_value_disallowed_re",a6 "_formatparam"]
def HK:Hook:=kmHook DO KA Y9 [288,283,68,61]
abbrev jT:=vE.row.toRowW
noncomputable def MR:l8->a9->ul->Cb->Option (ul×Cb):=Fast.tw10156331382660048174 (Fast.tw11892475500146522536 Fast.tw14364793385576792824)
theorem XQ:MR=stepT (denote AV):=by rw[Fast.te10156331382660048174,Fast.te11892475500146522536,Fast.te14364793385576792824];rfl
theorem hcA{c:Bool}{a b r:α}(e:c=ae)(h:cond c a b=r):a=r:=by subst e;exact h
theorem hcB{c:Bool}{a b r:α}(e:c=aH)(h:cond c a b=r):b=r:=by subst e;exact h
theorem hcS{c:Bool}{o:Option α}{a:α}(h:cond c o ak=aa a):c=ae/\o=aa a:=by
 induction c with
 |false=>exact nomatch h
 |true=>exact⟨rfl,h⟩
noncomputable def LV(p:l8)(w:a9)(V:Nat)(Y:Option ai)(n:Nat):ul->Cb->Option ul:=
 Nat.rec (λ_ _=>ak) (λ_ W s t=>cond (through t) (aa s) (cond (stepOk V Y t) ((MR p w s t).bind λq=>W q.1 q.2) ak)) n
theorem Wj{p:l8}{V:Nat}{Y:Option ai}{r:ul}(n:Nat):∀{s:ul} {t:Cb},LV p w V Y n s t=aa r->topRun AV p w V Y n s.abs t=aa r.abs:=by
 induction n with
 |zero=>exact λh=>nomatch h
 |succ n Z=>
  intro s t h
  unfold topRun
  cases e:through t with
  |true=>exact aQ (Option.map SharedT.abs) (hcA e h)
  |false=>
   have h:=hcS (hcB e h)
   refine(iq.mp h.2).elim λq W=>?_
   rw[h.1,stepT_spec (XQ▸W.1)]
   exact Z W.2
noncomputable def treeOf(l:List Obj):Nat->BT->Option BT:=List.rec (λ_ t=>aa t) (λo _ V n t=>cond ((t.ins n o).get n).isSome (V (n+1) (t.ins n o)) ak) l
theorem Tc{T:BT}{sK:Life}(l:List Obj):∀{n:Nat} {t:BT},treeOf l n t=aa T->absHeap T (n+l.length) sK=⟨(absHeap t n sK).objs++l.toArray,sK⟩:=by
 induction l with
 |nil=>exact λh=>aW h▸aQ (Jt · sK) Array.append_empty.symm
 |cons o l V=>
  intro n t h
  have h:=hcS h
  have e:=V h.2
  rw[absHeap_ins h.1] at e
  rw[gj,<-eK,tg]
  exact e.trans (aQ (Jt · sK) (wf.mp (by simp[Heap.push])))
theorem RL{T:BT}(e:treeOf h.objs.toList 0 .nil=aa T):absHeap T h.objs.toList.length h.life=h:=
 fq h.objs.toList.length▸(Tc (sK:=h.life) _ e).trans (aQ (Jt · h.life) Pa)
def abn(p:l8)(w:a9)(N:Nat)(s:av):Option av:=
 cond (s.heap.isNs eF&&s.gens.size==0) ((treeOf s.heap.objs.toList 0 .nil).bind λT=>(LV p w s.heap.objs.size (s.heap.nsMap eF "__annotations__") N ⟨T,s.heap.objs.toList.length,s.heap.life,s.gens,s.drawn,s.toks,s.os⟩ (topStub p)).bind λr=>
  cond (staticsOk (importedModules p.main.body) s.heap r.abs.heap&&namesBound p r.abs.heap&&gensDone r.abs&&laidKept s.heap r.abs.heap) (aa r.abs) ak) ak
theorem Wk{p:l8}{N:Nat}{r:av}(h:abn p w N s=aa r):topFrom AV p w N s=aa r:=by
 have h:=hcS h
 refine(iq.mp h.2).elim λT V=>?_
 refine(iq.mp V.2).elim λq Y=>?_
 have k:=hcS Y.2
 have e:=Wj _ Y.1
 unfold topFrom
 rw[h.1]
 refine iq.mpr ⟨_,(aQ (λx=>topRun AV p w s.heap.objs.size (s.heap.nsMap eF "__annotations__") N ⟨x,s.gens,s.drawn,s.toks,s.os⟩ (topStub p)) (RL V.1)).symm.trans e,?_⟩
 rw[k.1]
 exact k.2
theorem Uw{f g:av->Option av}{F:av->α}(h:∀{s r},f s=aa r->g s=aa r){o:Option av}{z:α}(e:(o.bind f).map F=aa z):(o.bind g).map F=aa z:=by
 refine(kA.mp e).elim λr q=>?_
 refine(iq.mp q.1).elim λs k=>?_
 exact kA.mpr ⟨r,iq.mpr ⟨s,k.1,h k.2⟩,q.2⟩
theorem Y':LeftO PG V LN (λs=>xlAt V [] s&&recOk (Q_ jT) s) HK.obs HK.val 3578:=λw=>by
 refine Uw Wk ?_
 unfold fencedOpening
 rw[Fast.te10274390034422433532,Fast.te14289696077712309145,Fast.te4187177175401517315]
 kernel_rfl
def MS:DefRec×List (Str×au):=(defOf V (a6 "law")).getD (⟨a6 "law",⟨[],[],ak,[],[],ak,[]⟩,[],Ex.main.scope,⟨0,0,0,0⟩⟩,[])
theorem Td:vE.wellSaid=ae:=by
 refine(congrFun Fast.te9446332074065402090 _).trans ?_
 unfold Fast.tw9446332074065402090 Fast.tw17960256430627541270 Fast.tw2436336058641802641 Fast.tw12908688711261696721
 repeat' with_reducible refine s9.mpr ⟨?_,?_⟩
 all_goals decide+kernel
theorem Te:jT.promised:=by w_witness2
theorem hd(Z:WalkO V LN (XL V []) HK.says jT MS.1 MS.2 λf vs=>PySem.call f vs):vE.Holds:=
 holds_law Td λY=>holds_open (q:=V) (loose:=LN) (Xt:=λs=>xlAt V [] s&&recOk (Q_ jT) s) (XP:=XL V []) (Yf:=HK.obs) (Ya:=HK.val) (YP:=HK.says) (N:=3578) Y' HK.of HK.keeps
  (λs e=>xl_of s (s9.mp e).1) XL.keeps (by kernel_rfl) (by kernel_rfl) (by kernel_rfl) (λs e=>recFacts_of (s9.mp e).2) (by rfl) Y (by decide+kernel) ⟨rfl,rfl,rfl,rfl,rfl,by decide+kernel⟩ Te Z
def dP{c:Prop}[Decidable c](f:c->Prop)(F:Prop):Prop:=if h:c then f h else F
theorem gS{c:Prop}[i:Decidable c]{f:c->Prop}{F R:Prop}(h:dP f F)(V:∀q,f q->R)(Y:F->R):R:=by
 induction i with
 |isTrue q=>exact V q h
 |isFalse q=>exact Y h
noncomputable def dO{c:Prop}[Decidable c]{α:Type}(f:c->Option α):Option α:=if h:c then f h else ak
theorem CH{c:Prop}[i:Decidable c]{α:Type}{f:c->Option α}{a:α}{R:Prop}(h:dO f=aa a)(V:∀q,f q=aa a->R):R:=by
 induction i with
 |isTrue q=>exact V q h
 |isFalse q=>exact aZ h (lb _).symm
theorem cT{c:Bool}{P:Prop}(e:c=ae)(h:cond c P True):P:=by subst e;exact h
theorem fm{p:α->Prop}{a:α}{l:List α}(h:p a)(q:∀x∈l,p x):∀x∈a::l,p x:=λ_ m=>(bT.1 m).elim (λe=>e▸h) (q _)
theorem fU{p:α->Prop}:∀x∈([]:List α),p x:=λ_ h=>aZ h ca
theorem tT:ae=ae:=rfl
theorem lB{a:Nat}(h:Nat.ble a b=ae):a<=b:=Ov h
theorem lT{a:Nat}(h:Nat.ble (a+1) b=ae):a<b:=Ov h
theorem dC{p:Prop}[Decidable p](h:decide p=ae):p:=cY h
theorem tf{P:Prop}(h:ae=aH):P:=nomatch h
theorem ft{P:Prop}(h:aH=ae):P:=nomatch h
theorem ns{a:α}{P:Prop}(h:ak=aa a):P:=nomatch h
theorem sn{a:α}{P:Prop}(h:aa a=ak):P:=nomatch h
theorem sf{a:Array ai}{vs:Array ai}:rM a n≠bC vs:=nofun
theorem sL{p:α->Prop}{a:α}(h:p a):∀x∈[a],p x:=λ_ m=>a_.1 m▸h
theorem XR{f:α->β}{l:List α}{x y:α}:(l.map f).Nodup->x∈l->y∈l->f x=f y->x=y:=by
 induction l with
 |nil=>exact λ_ h=>aZ h ca
 |cons a r H=>exact λh G Y e=>
  have q:=gK.1 h
  have W:∀z∈r,f z≠f a:=λz m C=>q.1 (C▸kE m)
  (bT.1 G).elim (λZ=>(bT.1 Y).elim (λV=>Z.trans V.symm) λm=>aZ (e.symm.trans (aQ f Z)) (W y m)) λm=>(bT.1 Y).elim (λV=>aZ (e.trans (aQ f V)) (W x m)) λB=>H q.2 m B e
@[elab_as_elim] theorem t9 {P:List α->Prop}{l:List α}(h:l.length=0)(f:P []):P l:=(Ev h).symm▸f
@[elab_as_elim] theorem j_ {P:List α->Prop}{l:List α}(h:l.length=n+1)(f:∀a r,r.length=n->P (a::r)):P l:=by
 cases l with
 |nil=>exact nomatch h
 |cons a r=>exact f a r (pp h)
theorem Kk{l:List α}(h:l.length=2):∃a b,l=[a,b]:=j_ h λa r h=>j_ h λb r h=>t9 h ⟨a,b,rfl⟩
theorem XS{k:Nat}(h:n<k):k-n=k-(n+1)+1:=(v7 (Py h)).symm
theorem Cd(j:Nat):(max 0 (j:Int)).toNat=j:=aQ HH (qQ (dA j))
theorem Wl(h:j<=n):min (max 0 (j:Int)).toNat n=j:=(aQ (min · n) (Cd j)).trans (iN h)
theorem Kl(n:Nat):(-1+(n:Int)).toNat=n-1:=(aQ HH (g4 _ _)).trans (Gk n 1)
theorem XT{a h:Nat}(q:a+h<=n):min a n+h+(n-(a+h))=n:=by
 rw[iN (aD (cy a h) q),lO q]
theorem Wm{a h:Nat}(q:a+(h+r)<=n):min a n+h=a+h:=aQ (·+h) (iN (aD (cy a _) q))
theorem Km{k:Nat}(h:n-i=k+1):n-(i+1)=k:=by rw[<-Nat.sub_sub,h];rfl
theorem XU(h:b<=1):(b+2*m)/1%2=b:=by rw[RA,N0,wg (jY h)]
theorem XV(h:b<=1):(b+2*m)/2=m:=by rw[OL _ _ wI,wh (jY h),fq]
theorem abo{a b c:Int}(V:a<=c)(Y:c<=b):(c-a).toNat<(b-a+1).toNat:=by
 have W:=zt V
 have h3:=qE Y a
 exact(Int.toNat_lt_toNat (jy (dh W h3) (vQ (pt _)))).mpr (vQ h3)
theorem XW{a c:Int}(V:a<=c):a+((c-a).toNat:Int)=c:=by rw[mG (zt V),g4,zF]
theorem x_{a b:Int}(h:i<(b-a+1).toNat):a<=a+i/\a+i<=b:=by
 refine⟨vH (dA i),?_⟩
 have V:(i:Int)<b-a+1:=Int.lt_toNat.mp h
 exact g4 i a▸Int.add_le_of_le_sub_right (nA V)
theorem XX{a b:Int}(l:-4<=a)(r:b<=11)(h:i<(b-a+1).toNat):-4<=a+i/\a+i<=11:=⟨dh l (x_ h).1,dh (x_ h).2 r⟩
theorem Y_{a:Nat}(h:j+n<=a-0):j<=a:=aD (cy j n) h
theorem abp{s e:Nat}(h:s<=e)(q:j+n<=e-s):s+j+n<=e:=(eK s j n).symm▸aD (fi q s) (bn (lO h))
theorem LW(V:0<n)(h:b+n-1<m+n):b<=m:=EA (Pz h)
theorem abq{c:Int}(h:-4<=c):((c+4).toNat:Int)-4=c:=by rw[mG (Int.le_add_of_sub_right_le h),mH]
theorem a_neg{a:Int}(h:a.natAbs<n):(-a).natAbs<n:=(tC a).symm▸h
theorem abr(h:i<6)(q:n<=5):i*5+min j n<=9000:=aD (fW (qF 5 (bd h)) (aD (ph j n) q)) (by decide)
theorem abt(q:n<=5):i*5+n<=(i+1)*5:=Gu i 5▸fi q _
theorem Jv(h:u+12*(n+1)<=9000):u+1+12*n<=9000:=aD (by rw[ri,eK,gP 1];exact fi (fi (by decide) _) u) h
theorem BP{a:Nat}(h:n<=m+b)(q:m<=a+1):n<=a+(b+1):=aD h (aD (gG q b) (bn (by rw[eK,gP 1])))
theorem abu{k:Nat}(h:n<=0+min i m)(q:m<=k):n<=k:=aD h (aD (bn (fq _)) (aD (ph i m) q))
theorem abv(h:n<=0+min i m):n<=i:=aD h (aD (bn (fq _)) (wm i m))
theorem abw(h:n-i=0)(q:i<=n):i=n:=lg q (Nat.le_of_sub_eq_zero h)
theorem XY(a j d:Nat):a+(a+(j+d))=a+d+(a+j):=(eK a a (j+d)).symm.trans ((aQ (a+a+·) (gP j d)).trans (Nat.add_add_add_comm a a d j))
theorem LX{i:Int}(h:0<=i/\i<n):i.toNat<n:=(Gv h.1).mpr h.2
theorem abx:(16-(n:Int)).toNat=16-n:=Gk 16 n
theorem a_pos{i:Int}(h:i<n)(q:0<=i):i.toNat<n:=(Gv q).mpr h
theorem aby{a b:Int}(h:b-a<=4):(b-a+1).toNat<=5:=nP.mpr (nB h 1)
theorem abz(h:n=6)(q:m<=6):min m n=m:=iN (aD q (bn h.symm))
theorem abA(h:j<=m)(q:n=m):min j n=j:=iN (aD h (bn q.symm))
theorem LY{a s:Nat}(h:a+b<=s)(q:n=a)(r:m=b):n+m<=s:=q▸r▸h
theorem abB{a p:Nat}(h:a+p=b+p+c)(q:a<=b):c=0:=Nat.eq_zero_of_le_zero (Nat.le_of_add_le_add_left (a:=b+p) (h▸gG q p))
theorem LZ(h:m<=n):m+(n-m)=n:=lO h
theorem L4(h:n<m):n<=m-1:=OM h
theorem abC{k:Nat}(h:n<=m+k+3+c)(q:k<=b):n<=m+(c+1*(b+3)):=aD h (by rw[pu,gP c,eK,eK,eK b];exact fi (gG q _) m)
theorem abD{p:Nat}(h:n<=c)(q:p<=b):p+3+n<=c+1*(b+3):=by rw[pu,gP c];exact fW (gG q 3) h
theorem abE{a b c:Int}:b+(a+(c-b))=c+a:=by rw[Int.add_left_comm,g4 b,zF,g4]
theorem Za{p:Int}(V:p<=60)(Y:0<=q):((p-q+6-1)/6).toNat<=100:=nP.mpr (dh (Int.ediv_le_ediv (by decide) (qE (nB (Int.sub_le_sub V Y) 6) 1)) (by decide))
theorem Zb{e s x:Nat}(h:n<=10000)(q:e<=n)(_:s<=e)(r:j+x<=e-s):x<2^63:=aV (aD (jB x j) (aD r (aD (rr e s) (aD q h)))) (by decide)
theorem L5(h:n<2^63):¬(n:Int)>=2^63:=pA.mpr (eN.mpr h)
theorem Zc(h:n<2^63):(n:Int)<2^63:=eN.mpr h
theorem Zd(h:n<2^63)(q:m=n):(m:Int)<2^63:=q▸eN.mpr h
theorem Ze(h:n<=10000):(n:Int)<2^63:=eN.mpr (aV h (by decide))
theorem Zf(h:n<=100000):(n:Int)<2^63:=eN.mpr (aV h (by decide))
theorem Zg(h:n<=100000)(q:m<n):(m:Int)<2^63:=Zf (aD (bd q) h)
theorem Zh(h:n<=10000)(q:m=n):(m:Int)<2^63:=q▸Ze h
theorem Zi(h:(1:Int)<n):1<n:=eN.mp h
theorem II:(max 0 (n:Int)).toNat=n:=aQ HH (qQ (dA n))
theorem abF(h:n<2^63):min (2^63-1:Int).toNat n=n:=Fu (pf h)
theorem XZ{a N:Nat}(h:a<=19)(q:1<=N):a+N-1<=N*19+N:=aD (rr _ 1) (gG (aD h (aD (by decide) (qF 19 q))) N)
theorem Zj(h:n*j+n<=b+n-1)(q:0<n)(r:b<=n*j):False:=gO _ (aV h (cg (He (cg q (jB n b)) tN) (gG r n)))
theorem X4{a l f:Nat}(h:a<=l+f+100*r)(q:f<=100):a<=l+100*(r+1):=aD h (by rw[rf,eK,gP f];exact fi (fi q _) l)
theorem K8(h:i<n):n-(i+1)<n-i:=zw h (gY i)
theorem Zk{p:Nat}(h:p<=90)(q:r<=6):p+min j r<=9000:=aD (fW h (aD (ph j r) q)) (by decide)
theorem Zl{L V:Nat}(h:1<=V):((L:Int)+1=((L+V:Nat):Int)->V=1)/\((L:Int)+1≠((L+V:Nat):Int)->2<=V):=⟨λe=>(O0 (lW e)).symm,λn=>Pb h λe=>n (e▸rfl)⟩
theorem Zm(h:u+12*n<=9000)(q:m<=n):u+12*m<=9000:=aD (fi (nC 12 q) u) h
theorem abG(h:u+12*(n+1)<=9000):u+3+12*n<=9000:=aD (aD (bn (tg u 3 _)) (fi (by decide:3<=12) _)) h
theorem L6(h:u+(n+1)<=900):u+1+n<=900:=tg u 1 n▸h
theorem abH(h:u+n<=900)(q:m<=n):u+m<=900:=aD (fi q u) h
theorem Zn(h:u+n<=900)(q:70<=n):u<=840:=aD (EA (aD (fi q u) h:u+70<=830+70)) (by decide)
theorem Zo(h:u+12*n<=9000)(q:70<=n):u<=8278:=aD (EA (aD (fi (nC 12 q) u) h:u+840<=8160+840)) (by decide)
theorem C9{f s:Nat}(h:s<=r*6)(q:f<=6):f+s<=(r+1)*6:=Gu r 6▸gP s f▸fW h q
theorem Zp{f s:Nat}(h:s<=r*6)(q:c<=6)(p:f<=c):f+s<=(r+1)*6:=C9 h (aD p q)
theorem Zq{f s:Nat}(h:s<=r*6)(q:c<=6)(p:f=c):f+s<=(r+1)*6:=C9 h (p▸q)
theorem abI{f s:Nat}(h:s<=6*r)(q:c<=6)(p:f=c):f+s<=6*(r+1):=kH 6 (r+1)▸C9 (kH 6 r▸h) (p▸q)
theorem abJ{a:Nat}(h:a<=n*6)(q:n<=6):a<=10000:=aD h (aD (qF 6 q) (by decide))
theorem abK(h:m<=n)(q:n<=6):m*(1+3)<=9000:=aD (qF 4 (aD h q)) (by decide)
theorem Zr{a b:Int}(h:a<b\/a=b/\i<j)(q:b<a\/b=a/\j<i):False:=
 h.elim (λx=>q.elim (λy=>rg x y) λy=>Rb x y.1.symm) λx=>q.elim (λy=>Rb y x.1.symm) λy=>wF x.2 y.2
theorem Zs{a b:Int}:(¬b<a/\(a<b\/i<j)<->a<b\/a=b/\i<j):=
 ⟨λh=>(An a b).elim .inl λx=>.inr ⟨qU (dW.mp h.1) x,h.2.resolve_left (dW.mpr x)⟩,λh=>h.elim (λx=>⟨dW.mpr (du x),.inl x⟩) λx=>⟨dW.mpr (ja x.1),.inr x.2⟩⟩
theorem X5{a b:Int}(h:¬a<b)(q:i<j):b<a\/b=a/\i<j:=(Pc (dW.mp h)).elim .inl λe=>.inr ⟨e,q⟩
theorem Zt{a b:Int}(h:b<=11)(q:a<b):(a+4).toNat<16:=jY (nP.mpr (nB (du (lc q h)) 4))
theorem X6{c x y:Int}(h:x<=c/\c<=y)(q:y<=11):(c+4).toNat<16:=jY (nP.mpr (nB (dh h.2 q) 4))
theorem C_{c:Int}(h:-4<=c):c=-4+((c+4).toNat:Int):=by rw[mG (nB h 4),g4 c,Int.neg_add_cancel_left]
theorem Zu{c:Int}(h:-4<=c):c≤-4+((c+4).toNat:Int):=ja (C_ h)
theorem Zv{c x:Int}(h:-4<=c)(q:c<x):-4+((c+4).toNat:Int)<=x:=C_ h▸du q
theorem Zw{c x y:Int}(h:x<=c/\c<=y)(q:-4<=x):c=-4+((c+4).toNat:Int):=C_ (dh q h.1)
theorem Zx{c:Int}(h:c<=15):(c+4).toNat<20:=jY (nP.mpr (nB h 4))
theorem Zy{c:Int}(h:-(n:Int)<=c)(q:c<=n):c.natAbs<=n:=c.natAbs_eq.elim (λe=>fX.mp (e▸q)) λe=>fX.mp (Pd.mp (e▸h))
theorem X7{c:Int}(h:-4<=c/\c<=11):c.natAbs<2^4:=aV (Zy (n:=11) (dh (by decide) h.1) h.2) (by decide)
theorem Zz(h:n<60):¬300<n/30+1:=de.mpr (nM (aD (Nat.div_le_div_right (bd h)) (by decide)))
theorem ZA(h:n=16)(q:i<n):6*min i n<=90:=aD (nC 6 (aD (wm i n) (pf (h▸q)))) (by decide)
theorem abL{f:Nat}(h:f<=0+n)(q:n<60):f<60:=aV (fq n▸h) q
theorem ZB{x p:Nat}(h:p+m=x):(x:Int)+(p:Nat)-2*((p:Nat):Int)=(m:Nat):=by rw[<-h,Int.two_mul,zX,Pe,g4 _ (m:Int),mH]
theorem b_g{f:Nat}(h:f<=16):1*(16-f)<=2^24:=aD (bn (pu _)) (aD (rr 16 f) (by decide))
theorem X8(h:b+c=n):b+(c+1)=n+1:=aQ (·+1) h
theorem abM{f:Nat}(h:f<=i)(q:i<n)(r:n<=500):f<=1000:=aD h (aD (bd q) (aD r (by decide)))
theorem ZC{k:Nat}(h:n-i=k+1):i<n:=Nat.lt_of_sub_pos (h▸eB k)
theorem ZD{x y:Nat}(h:0+y<=x):x<=y+(x-y):=bn (lO (fq y▸h)).symm
theorem abN{a:Int}(h:a.natAbs<n):-a-1<n:=jy (Int.sub_le_self _ (by decide)) (jy (tC a▸wA) (eN.mpr h))
theorem Db{a:Int}(h:a.natAbs<n):a<n:=jy wA (eN.mpr h)
theorem ZE{a:Int}(h:a.natAbs<n):-a<n:=Db ((tC a).symm▸h)
theorem ZF{a:Int}(h:¬0<=a):0≤-a-1:=zt (Int.add_one_le_of_lt (Pf (pA.mp h)))
theorem Dc{a:Int}(h:¬0<=a):0< -a:=Pf (pA.mp h)
theorem abO{a:Int}(h:a≠0)(q:0<=a):0<a:=(Pc q).resolve_right h.symm
theorem abP{i:Int}(h:0<=i)(q:i.toNat<n):i<n:=mG h▸eN.mpr q
theorem ZG{i:Int}(h:0<=i):-2^63<=i:=dh (by decide) h
theorem ZH{i j:Int}(h:j>i):max i j=j:=qQ (du h)
theorem ZI{i j:Int}(h:¬j>i):max i j=i:=FM (dW.mp h)
theorem ZJ{i j:Int}(h:j<i):min i j=j:=zS (du h)
theorem ZK{i j:Int}(h:¬j<i):min i j=i:=wo (dW.mp h)
theorem X9(x:Int):60*(x/60)+x%60=x:=Int.mul_ediv_add_emod x 60
theorem L7{a:Int}(h:a.natAbs=0):a=0:=Ph.mp h
theorem L8{l:Nat}(h:r<=l-1)(q:0<l):r+1<=l:=aD (nM h) (bn (v7 q))
theorem X'{p:Nat}(h:r<p)(q:b<=1):b+2*r<p*2:=cg (ON (jY q) _) (kH 2 p▸gP (2*r) 2▸nC 2 h)
theorem abQ{c:Int}(h:0<=c%n):c%n=((c%n).toNat:Int):=(mG h).symm
theorem K9(h:0<n):(n:Int)≠0:=pq (eN.mpr h)
theorem abR{k d:Nat}:((k+d+1:Nat):Int)-1+-1*(k:Int)=d:=by rw[Int.natCast_succ,mH,tO,GU,zX,<-nG,g4,mH]
theorem ZL{s:Nat}(h:b<=100000)(q:s<=100000)(r:i<=b):(i:Int)+(s:Int)<=2^27:=fX.mpr (aD (fW (aD r h) q) (by decide:200000<=2^27))
theorem X_{f:Nat}(h:n<=9000)(q:f<=0+n):f<=2^24:=aD (fq n▸q) (aD h (by decide))
theorem ZM{d p q:Nat}(h:d<p)(r:p*u+p<=q):d+p*u<q:=cg (gP d _▸vX h _) r
theorem Yb{p e:Nat}(h:e<p)(q:r*p+p<=b*p):r*p+e<b*p:=cg (vX h _) q
theorem ZN(j k:Nat):j=k↔-4+(j:Int)=-4+(k:Int):=⟨λe=>e▸rfl,λe=>lW (EY e)⟩
theorem Yc{a:Nat}{x:Int}(h:x+(a:Int)=x+(b:Int)):a=b:=lW (EY h)
theorem Ce{a:Nat}(h:a<b):-4+(a:Int)< -4+(b:Int):=zx (eN.mpr h) (-4)
theorem Kn(k:Nat):(k:Int)-4=-4+(k:Int):=nG.trans (g4 _ _)
theorem abS{a:Nat}(h:0+a=0+b):a=b:=O0 h
theorem ZO{k:Nat}(h:k<16):-4≤-4+(k:Int)∧-4+(k:Int)<=15:=⟨vH (dA k),dh (vY (fX.mpr (pf h):(k:Int)<=15) (-4)) (by decide)⟩
theorem ZP(b m:Int):b+(-m-1)=b-1-m:=by rw[nG,nG,nG,Gl,g4 (-m)]
theorem abT(a b:Int):a-b=-(-a- -b):=by rw[Ax,nG,nG,pv,g4]
theorem K_{x:Int}(h:-2^63<=x)(q:x<2^63):-9223372036854775808<=x/\x<9223372036854775808:=⟨h,q⟩
theorem Yd(h:i%2=1):(i:Int)%2=1:=aQ S6 h
theorem abU{k:Nat}(h:n+(r+1)<=k):n+1+r<=k:=tg n 1 r▸h
theorem ZQ{k:Nat}(h:n+(r+1)<=k):n<k:=cg (s4 (eB r)) h
theorem Ye(h:n-1<n):0≤-1+(n:Int)∧-1+(n:Int)<n:=⟨g4 (n:Int) (-1)▸zt (fX.mpr (Pj λe=>gO _ (aV (ck _) (e▸h:0-1<0)))),g4 (n:Int) (-1)▸Int.sub_lt_self _ Int.one_pos⟩
theorem abV:(0:Int)<((n+1:Nat):Int):=eN.mpr (eB n)
theorem ZR(h:n<=2^24):¬n>(2^63-1)/8:=de.mpr (aD h (by decide))
theorem ZT{i:Int}(h:0<=i+(n:Int)):-(n:Int)<=i:=Int.le_of_sub_nonneg ((Ay i n).symm▸h)
theorem ZU:n<2<->(n:Int)<2:=eN.symm
theorem abW{s e:Nat}(h:s<=e):¬(e:Int)<s:=dW.mpr (fX.mpr h)
theorem Yg(x:Int):(if x<0 then-x else x)=(x.natAbs:Int):=if h:x<0 then (bo h).trans (Int.ofNat_natAbs_of_nonpos (du h)).symm else (be h).trans (ER (dW.mp h)).symm
theorem abX{p q:Nat}:p+3+q+1=p+(1+(2+(q+1))):=by rw[eK p 3,<-eK 1 2,eK,eK]
theorem abY{f a x:Nat}(h:f<=a+x+0+n)(q:x<=1):f<=a+(n+1):=aD h (by rw[Gw,tg];exact fi q _)
theorem abZ{p x:Nat}(h:x<=1)(q:p<=43):p+x<=100:=aD (fW q h) (by decide)
theorem ZV{p:Nat}(h:p<=4):p+3<=100:=aD (gG h 3) (by decide)
theorem ZW(h:n<=998):n+1+1<=1000:=gG h 2
abbrev KH(w:a9):Frag:=DO w.params
noncomputable def TB:List ag:=[288,283,68,61]
noncomputable def fy:List (ag×ag×Str):=[(290,288,"_law_points.<locals>.<lambda>"),(285,283,"_law_rows.<locals>.<lambda>"),(72,68,"_digits2int.<locals>.inner"),(65,61,"_int2digits.<locals>.inner")]
set_option genCtorIdx false in
inductive D where
 |none
 |bool (b:Bool)
 |int (i:Int)
 |str (x:Str)
 |tup (l:List D)
 |lst (l:List D)
 |cO (l:List (Str×D))
 |eu (l:List (Int×D))
variable {k k':D->Prop} {l l':List D} {d:D} {φ:D->Option D}
noncomputable def D.sel(d:D):Nat:=@D.casesOn (λ_=>Nat) d 0 (λ_=>1) (λ_=>2) (λ_=>3) (λ_=>4) (λ_=>5) (λ_=>6) (λ_=>7)
theorem D.no{a b:D}{P:Prop}(e:a=b)(h:a.sel.beq b.sel=aH):P:=tf ((Nat.beq_refl b.sel).symm.trans (e▸h))
noncomputable abbrev aY:=ag->Option Obj
variable {g aE g' aN bb:aY}
inductive Rep(w:a9)(g:aY):ai->D->Prop where
 |none:Rep w g .none .none
 |bool (b:Bool):Rep w g (.bool b) (.bool b)
 |int (i:Int) (t:Tok):Rep w g (.int i t) (.int i)
 |str (x:Str) (t:Tok):Rep w g (.str x t) (.str x)
 |tup (a:ag) (n:Nat) (af:Array ai) (l:List D):g a=aa {cls:=aK "tuple",data:=.seq af n}->af.toList.length=l.length->
  (∀(i:Nat) (v:ai) (d:D),af.toList[i]?=aa v->l[i]?=aa d->Rep w g v d)->Rep w g (.ref a) (.tup l)
 |lst (a:ag) (n:Nat) (af:Array ai) (l:List D):g a=aa {cls:=aK "list",data:=.seq af n}->af.toList.length=l.length->
  (∀(i:Nat) (v:ai) (d:D),af.toList[i]?=aa v->l[i]?=aa d->Rep w g v d)->Rep w g (.ref a) (.lst l)
 |cO (a:ag) (n:Nat) (es:Array dy) (l:List (Str×D)):g a=aa {cls:=aK "dict",data:=.dict es n}->es.toList.length=l.length->((l.map (·.1)).Nodup/\a≠gp)->
  (∀(i:Nat) (e:dy) (x:Str) (d:D),es.toList[i]?=aa e->l[i]?=aa (x,d)->(∃t,e.key=.str x t)/\e.hash=hashStr w x)->
  (∀(i:Nat) (e:dy) (x:Str) (d:D),es.toList[i]?=aa e->l[i]?=aa (x,d)->Rep w g e.val d)->Rep w g (.ref a) (.cO l)
 |eu (a:ag) (n:Nat) (es:Array dy) (l:List (Int×D)):g a=aa {cls:=aK "dict",data:=.dict es n}->es.toList.length=l.length->((l.map (·.1)).Nodup/\a≠gp)->
  (∀(i:Nat) (e:dy) (x:Int) (d:D),es.toList[i]?=aa e->l[i]?=aa (x,d)->(∃t,e.key=.int x t)/\e.hash=hashInt x)->
  (∀(i:Nat) (e:dy) (x:Int) (d:D),es.toList[i]?=aa e->l[i]?=aa (x,d)->Rep w g e.val d)->Rep w g (.ref a) (.eu l)
def aP(w:a9)(g:aY)(vs:List ai)(ds:List D):Prop:=vs.length=ds.length/\∀(i:Nat) (v:ai) (d:D),vs[i]?=aa v->ds[i]?=aa d->Rep w g v d
theorem Rep.mono(Z:∀a o,g a=aa o->g' a=aa o)(h:Rep w g v d):Rep w g' v d:=by
 induction h with
 |none=>exact .none
 |bool b=>exact .bool b
 |int i t=>exact .int i t
 |str x t=>exact .str x t
 |tup a n af l V Y _ W=>exact .tup a n af l (Z _ _ V) Y W
 |lst a n af l V Y _ W=>exact .lst a n af l (Z _ _ V) Y W
 |cO a n es l V Y H G _ W=>exact .cO a n es l (Z _ _ V) Y H G W
 |eu a n es l V Y H G _ W=>exact .eu a n es l (Z _ _ V) Y H G W
theorem aP.mono(V:∀a o,g a=aa o->g' a=aa o){v:List ai}{d:List D}(h:aP w g v d):aP w g' v d:=
 ⟨h.1,λi v d Y W=>(h.2 i v d Y W).mono V⟩
theorem aP.nil:aP w g [] []:=⟨rfl,λi v d h=>by exact ns h⟩
theorem aP.cons{ds:List D}(h:Rep w g v d)(hs:aP w g vs ds):aP w g (v::vs) (d::ds):=
 ⟨aQ _ hs.1,λi W Z V Y=>by
  induction i with
  |zero=>simp at V Y;subst V Y;exact h
  |succ i=>simp at V Y;exact hs.2 i W Z V Y⟩
theorem aP.ie{ds:List D}(h:aP w g (v::vs) (d::ds)):Rep w g v d/\aP w g vs ds:=
 ⟨h.2 0 v d rfl rfl,by simpa using h.1,λi v d V Y=>h.2 (i+1) v d V Y⟩
theorem aP.append{V:List ai}{ds sW:List D}(h:aP w g vs ds)(h':aP w g V sW):aP w g (vs++V) (ds++sW):=by
 induction vs generalizing ds with
 |nil=>induction ds with
  |nil=>exact h'
  |cons d ds=>exact aZ h.1 (by simp)
 |cons v vs Y=>induction ds with
  |nil=>exact aZ h.1 (by simp)
  |cons d ds=>exact aP.cons h.ie.1 (Y h.ie.2)
theorem aP.get{ds:List D}(h:aP w g vs ds)(Y:vs[i]?=aa v):∃d,ds[i]?=aa d/\Rep w g v d:=by
 have hi:i<vs.length:=(ez.mp Y).1
 have V:i<ds.length:=h.1▸hi
 exact⟨ds[i],by simp[V],h.2 i v _ Y (by simp[V])⟩
theorem aP.getD{ds:List D}(h:aP w g vs ds)(hd:ds[i]?=aa d):∃v,vs[i]?=aa v/\Rep w g v d:=by
 have hi:i<ds.length:=(ez.mp hd).1
 have V:i<vs.length:=h.1▸hi
 exact⟨vs[i],by simp[V],h.2 i _ d (by simp[V]) hd⟩
def BQ(h:dp)(q:Str)(ps:Array ai):Prop:=w9 ps.toList/\∀aM cv,tX aM ps.toList=aa cv->h.CodeRec cv q
structure St(w:a9)(s:av)(g:aY):Prop where
 df:(KH w).In s.heap
 gB:∃mg,s.heap.Ns eF mg
 blt:∃mb,s.heap.Ns iO mb/\∀x:Str,x≠"__name__"→mb x=Gx x
 lim:s.heap.NoLimit
 bmain:∀mg,s.heap.Ns eF mg->∃bm ob,mg "__builtins__"=aa (.ref bm)/\bm≠iO/\s.heap.get? bm=aa ob/\ob.cls=aK "module"∧ob.dict=aa iO/\ob.data=.plain
 tab:∀t∈fy,∃ps,s.heap.get? t.2.1=aa (tabObj ps)/\BQ s.heap t.2.2 ps
 sub:∀a o,g a=aa o->s.heap.get? a=aa o
 off:∀P∈TB,g P=ak
 gens:s.gens=#[]
structure Nx(mu:List ag)(s:av)(g:aY)(s':av)(g':aY):Prop where
 keep:∀b o,s.heap.get? b=aa o->b∉TB->b∉mu->s'.heap.get? b=aa o
 there:∀b o,s.heap.get? b=aa o->b∉mu->∃o',s'.heap.get? b=aa o'
 gg:∀a o,g a=aa o->g' a=aa o
 old:∀a o,s.heap.get? a=aa o->g a=ak->a∉mu->g' a=ak
 os:s'.os=s.os
theorem Nx.refl(mu:List ag)(s:av)(g:aY):Nx mu s g s g:=⟨λ_ _ e _ _=>e,λ_ o e _=>⟨o,e⟩,λ_ _ e=>e,λ_ _ _ e _=>e,rfl⟩
theorem Nx.trans{Y:av}{W:aY}(x:Nx mu s g s' g')(y:Nx mu s' g' Y W):Nx mu s g Y W:=
 ⟨λb o e G C=>y.keep b o (x.keep b o e G C) G C,λb o e V=>(x.there b o e V).elim λZ H=>y.there b Z H V,λa o e=>y.gg a o (x.gg a o e),
  λa o e h V=>(x.there a o e V).elim λZ H=>y.old a Z H (x.old a o e h V) V,y.os.trans x.os⟩
theorem Nx.more{V:List ag}(x:Nx mu s g s' g')(h:∀a∈mu,a∈V):Nx V s g s' g':=
 ⟨λb o e Z H=>x.keep b o e Z λY=>H (h b Y),λb o e W=>x.there b o e λY=>W (h b Y),x.gg,λa o e G W=>x.old a o e G λC=>W (h a C),x.os⟩
theorem Yh(w:a9):∀a o,(KH w).lookup a=aa o->a∉TB:=λa o h V=>
 have q:∀P∈TB,(KH w).lookup P=ak:=fm (by kernel_rfl) (fm (by kernel_rfl) (fm (by kernel_rfl) (sL (by kernel_rfl))))
 ns ((q a V).symm.trans h)
noncomputable def iB(g:aY)(n:ag)(o:Obj):aY:=λa=>if a=n then aa o else g a
theorem g5(g:aY)(n:ag)(o:Obj):iB g n o n=aa o:=bo rfl
theorem fE(g:aY)(n:ag)(o:Obj)(h:a≠n):iB g n o a=g a:=be h
theorem lj(h:dp):h.get? h.objs.size=ak:=by
 induction e:h.get? h.objs.size with
 |none=>rfl
 |some o=>exact aZ (cq e) (gO _)
section
variable {w:a9} {s:av} {g:aY}
theorem ZX{P:ag}(h:P∈TB):∃t∈fy,t.2.1=P:=bL.1 (show P∈fy.map λt=>t.2.1 from h)
theorem ZY{t:ag×ag×Str}(h:t∈fy):t.2.1∈TB:=kE (f:=λt:ag×ag×Str=>t.2.1) h
theorem St.tb(S:St w s g){P:ag}(h:P∈TB):∃ps q,s.heap.get? P=aa (tabObj ps)/\BQ s.heap q ps:=
 (ZX h).elim λt q=>(S.tab t q.1).elim λps e=>⟨ps,_,q.2▸e.1,e.2⟩
theorem St.dQ(S:St w s g)(e:s.heap.get? a=aa o)(h:o.cls≠.none\/(∀vs,o.data≠bC vs)):a∉TB:=λY=>by
 obtain⟨ps,q,V,_⟩:=S.tb Y
 rw[e] at V
 obtain rfl:=aW V
 rcases h with h|h
 ·exact h rfl
 ·exact h _ rfl
theorem TriplesOk.no1{vs:Array ai}(h:w9 vs.toList){q:Str}{t:Tok}:vs[1]?≠aa (.str q t):=λe=>by
 have no:∀(a:ai) (r:List ai),w9 (a::.str q t::r)=False:=λa r=>by cases r<;>cases a<;>exact Eq.refl False
 obtain⟨l⟩:=vs
 rcases l with _|⟨a,_|⟨b,r⟩⟩
 ·exact ns e
 ·exact ns e
 ·obtain rfl:=aW e;exact no a r▸h
def cV(o:Obj):Prop:=∀(vs:Array ai) (q:Str) (t:Tok),o.data=bC vs->vs[1]?≠aa (.str q t)
structure sM(w:a9)(s:av)(g:aY)(a:ag):Prop where
 off:g a=ak
 here:∃o,s.heap.get? a=aa o
 df:(KH w).lookup a=ak
 gB:a≠eF
 blt:a≠iO
 lim:a≠cStatics
 bm:∀mg bm,s.heap.Ns eF mg->mg "__builtins__"=aa (.ref bm)->bm≠a
 tb:a∉TB
theorem CI{m:Str->Option ai}(V:h.Ns a m):∃o,h.get? a=aa o/\∀vs,o.data≠bC vs:=V.elim λo q=>q.elim λ_ q=>q.elim λ_ q=>⟨o,q.1,λ_ e=>zT (q.2.1.symm.trans e)⟩
theorem BR{m:Str->Option ai}(V:h.Ns a m)(k:∀o,h.get? a=aa o->h'.get? a=aa o):h'.Ns a m:=V.elim λo q=>q.elim λes q=>q.elim λep q=>⟨o,es,ep,k o q.1,q.2⟩
theorem Jw{m W:Str->Option ai}(Z:h.Ns a m)(Y:h'.Ns a W)(k:∀o,h.get? a=aa o->h'.get? a=aa o):h.Ns a W:=
 (CI Z).elim λo q=>Y.elim λH V=>V.elim λes V=>V.elim λep V=>⟨o,es,ep,q.1,aW (V.1.symm.trans (k o q.1))▸V.2⟩
theorem St.step(S:St w s g)(N:Nx mu s g s' g')(W:∀a o,g' a=aa o->s'.heap.get? a=aa o)(hg:s'.gens=s.gens)
 (Z:∀P∈TB,∀o,s.heap.get? P=aa o->s'.heap.get? P=aa o)
 (V:∀a∈mu,sM w s g a/\∀o,s.heap.get? a=aa o->cV o):St w s' g':=by
 have up:∀b o,s.heap.get? b=aa o->b∉mu->s'.heap.get? b=aa o:=λb o e hb=>if H:b∈TB then Z b H o e else N.keep b o e H hb
 have gM:eF∉mu:=λY=>(V _ Y).1.gB rfl
 refine⟨λa o e=>up _ _ (S.df a o e) λY=>ns ((V a Y).1.df.symm.trans e),S.gB.elim λmg h=>⟨mg,BR h λo e=>up _ _ e gM⟩,S.blt.elim λmb h=>⟨mb,BR h.1 λo e=>up _ _ e λY=>(V _ Y).1.blt rfl,h.2⟩,
  S.lim.elim λmc h=>⟨mc,BR h.1 λo e=>up _ _ e λY=>(V _ Y).1.lim rfl,h.2⟩,λG C=>?_,λt H=>?_,W,λP B=>?_,hg.trans S.gens⟩
 ·refine S.gB.elim λmg f=>?_
  have e2:=Jw f C λo e=>up _ _ e gM
  exact(S.bmain G e2).elim λbm q=>q.elim λob q=>⟨bm,ob,q.1,q.2.1,up _ _ q.2.2.1 λY=>(V bm Y).1.bm G bm e2 q.1 rfl,q.2.2.2⟩
 ·exact(S.tab t H).elim λps q=>⟨ps,Z _ (ZY H) _ q.1,q.2.1,λaM cv DP=>(q.2.2 aM cv DP).elim λc h=>h.elim λo h=>h.elim λvs h=>h.elim λt h=>⟨c,o,vs,t,h.1,up _ _ h.2.1 λY=>(V c Y).2 o h.2.1 vs _ t h.2.2.1 h.2.2.2,h.2.2⟩⟩
 ·exact(S.tb B).elim λps q=>q.elim λ_ q=>N.old P _ q.1 (S.off P B) λY=>(V P Y).1.tb B
theorem St.keeps(S:St w s g)(N:Nx [] s g s' g')(V:∀a o,g' a=aa o->s'.heap.get? a=aa o)(W:s'.gens=s.gens)
 (Y:∀P∈TB,∀o,s.heap.get? P=aa o->s'.heap.get? P=aa o):St w s' g':=
 S.step N V W Y fU
theorem St.ext{dr:Drawn}(S:St w s g)(V:∀b o,s.heap.get? b=aa o->h'.get? b=aa o):Nx [] s g {s with heap:=h',toks:=tk,drawn:=dr} g/\St w {s with heap:=h',toks:=tk,drawn:=dr} g:=by
 have N:Nx [] s g {s with heap:=h',toks:=tk,drawn:=dr} g:=⟨λb o e _ _=>V b o e,λb o e _=>⟨o,V b o e⟩,λ_ _ e=>e,λ_ _ _ e _=>e,rfl⟩
 exact⟨N,S.keeps N (λa o e=>V _ _ (S.sub a o e)) rfl λP _ o e=>V P o e⟩
theorem St.ext'(S:St w s g)(V:∀b o,s.heap.get? b=aa o->h'.get? b=aa o):Nx [] s g {s with heap:=h',toks:=tk} g/\St w {s with heap:=h',toks:=tk} g:=S.ext (dr:=s.drawn) V
theorem St.freeze{n:ag}(S:St w s g)(e:s.heap.get? n=aa o)(Z:g n=ak)(H:n∉TB):St w s (iB g n o)/\(∀a V,g a=aa V->iB g n o a=aa V):=by
 have up:∀a V,g a=aa V->iB g n o a=aa V:=λa V h=>by
  by_cases Y:a=n
  ·subst Y;exact ns (Z.symm.trans h)
  ·exact(fE _ _ _ Y).trans h
 refine⟨⟨S.df,S.gB,S.blt,S.lim,S.bmain,S.tab,λa V h=>?_,λP W=>?_,S.gens⟩,up⟩
 ·by_cases Y:a=n
  ·subst Y;rw[g5] at h;obtain rfl:=aW h;exact e
  ·rw[fE _ _ _ Y] at h;exact S.sub a V h
 ·exact(fE g n o (a:=P) (λq=>H (q▸W))).trans (S.off P W)
theorem St.alloc(S:St w s g)(W:o.isFreed=aH)(Z:o.cls≠.none):
 Nx [] s g {s with heap:=s.heap.push o,toks:=tk} (iB g s.heap.objs.size o)/\St w {s with heap:=s.heap.push o,toks:=tk} (iB g s.heap.objs.size o):=by
 refine(S.ext' (h':=s.heap.push o) (tk:=tk) λb V e=>bZ _ e).elim λN Y=>?_
 have H:g s.heap.objs.size=ak:=by
  induction q:g s.heap.objs.size with
  |none=>rfl
  |some V=>have:=S.sub _ _ q;rw[lj] at this;exact ns this
 have e:=cB s.heap W
 refine(Y.freeze (n:=s.heap.objs.size) e H (Y.dQ (a:=s.heap.objs.size) e (.inl Z))).elim λG C=>?_
 refine⟨⟨N.keep,N.there,C,λa V B f _=>?_,rfl⟩,G⟩
 exact(fE _ _ _ (eC (cq B))).trans f
end
section
variable {α β:Type} {M:om} {fS:l8} {w:a9} {A:bN} {E:ai->av->Prop} {s:av} {Q:β->av->Prop}
theorem fZ{a:α}{f:α->Sem β}(h:wpAny M A (f a) Q E s):wpAny M A (pure a>>=f) Q E s:=h
theorem kg{V:String}{f:Unit->Sem β}(h:wpAny M A (f ()) Q E s):wpAny M A (rule V>>=f) Q E s:=aJ (wpAny_rule h)
theorem jd{f:Unit->Sem β}(h:wpAny M A (f ()) Q E s):wpAny M A (standAt aM>>=f) Q E s:=aJ (wpAny_standAt h)
theorem lZ{f:Option (Array ai)->Sem β}(h:s.heap.get? a=aa o)(e:o.data=.seq af n)(q:wpAny M A (f (aa af)) Q E s):wpAny M A (w' (.ref a)>>=f) Q E s:=aJ (Qr h e q)
theorem w_field{vs:Array ai}{x:ai}{f:ai->Sem β}(h:s.heap.get? a=aa o)(e:o.data=bC vs)(q:vs[i]?=aa x)(r:wpAny M A (f x) Q E s):wpAny M A (field (.ref a) i>>=f) Q E s:=aJ (Az h e q r)
theorem Ad{cls:ai}{vs:Array ai}{k:Nat}{x:ai}{f:Unit->Sem β}(h:s.heap.get? a=aa {cls:=cls,data:=bC vs})(V:k<vs.size)
 (q:∀h':dp,h'.get? a=aa {cls:=cls,data:=bC (vs.setIfInBounds k x)}->kI a s.heap h'->wpAny (model fS w) A (f ()) Q E {s with heap:=h'}):wpAny (model fS w) A (setField (.ref a) k x>>=f) Q E s:=aJ (E4 h V q)
theorem pG{T:String}{f:ai->Sem β}(h:s.TypeIs v T)(q:wpAny M A (f (aK T)) Q E s):wpAny M A (typeOf v>>=f) Q E s:=aJ (wpAny_typeOf h q)
theorem t_{af:List ai}{f:ai->Sem β}(h:wpAny M A (f (.ref s.heap.objs.size)) Q E {s with heap:=s.heap.push {cls:=aK "list",data:=.seq af.toArray}})(q:af.length<=sizeLine):wpAny M A (newList af>>=f) Q E s:=aJ (wpAny_newList h q)
theorem wW{af:List ai}{f:ai->Sem β}(h:wpAny M A (f (.ref s.heap.objs.size)) Q E {s with heap:=s.heap.push {cls:=aK "tuple",data:=.seq af.toArray}})(q:af.length<=sizeLine):wpAny M A (newTuple af>>=f) Q E s:=aJ (wpAny_newTuple h q)
theorem xG{V keep:List ai}{f:Unit->Sem β}(h:wpAny M A (f ()) Q E s):wpAny M A (letGo V keep>>=f) Q E s:=aJ (wpAny_letGo h)
theorem rh{T U:String}{b:Bool}{f:Bool->Sem β}(h:s.TypeIs v T)(e:HI (aK T) (aK U)=pure b)(q:wpAny M A (f b) Q E s):wpAny M A (wR v (aK U)>>=f) Q E s:=aJ (PP h e q)
theorem rT{t:Sem α}{a:α}{f:α->Sem β}(h:t=pure a)(q:wpAny M A (f a) Q E s):wpAny M A (t>>=f) Q E s:=aJ (tP h q)
theorem A0{f:Option ai->Sem β}(h:wpAny M A (f A.handled) Q E s):wpAny M A (handled>>=f) Q E s:=aJ (wpAny_handled h)
theorem BS{f:ag->Sem β}(h:wpAny M A (f s.heap.objs.size) Q E {s with heap:=s.heap.push o}):wpAny M A (alloc o>>=f) Q E s:=aJ (wpAny_alloc h)
theorem tJ{t:je}{f:Array (Int×ai)×Nat×je->Sem β}(h:s.heap.get? a=aa o)(e:o.data=.set es ep t)(q:t.fits es.size=ae)(r:wpAny (model fS w) A (f (es,ep,t)) Q E s):wpAny (model fS w) A (setState a>>=f) Q E s:=aJ (v9 h e q r)
theorem FK{T:ag}{a b x:ai}{k:Nat}{f:Unit->Sem β}(h:l9 s.heap T a b)
 (q:∀h':dp,h'.get? T=aa {cls:=aK "tuple",data:=.seq (#[a,b].setIfInBounds k x)}->kI T s.heap h'->wpAny (model fS w) A (f ()) Q E {s with heap:=h'}):wpAny (model fS w) A (updateSeq T (λy=>y.setIfInBounds k x)>>=f) Q E s:=aJ (wpAny_updateSeq_pair h q)
theorem wO{T:String}{name:Str}{r:Option ai}{f:Option ai->Sem β}(h:s.TypeIs v T)(e:mT (aK T) name=pure r)(q:wpAny M A (f r) Q E s):wpAny M A (specialOf v name>>=f) Q E s:=aJ (wpAny_specialOf h e q)
end
set_option genCtorIdx false in
set_option genInjectivity false in
inductive Bd where
 |dat (d:D)
 |own (a:ag) (l:List D)
 |lam (nm:Str) (params:iz) (body:rN) (scope:bf)
 |dU (x dx hl:ag) (l:List D)
 |obj (R:a9->av->aY->ai->List ag->Prop)
 |fn (bz:List ag) (φ:D->Option D)
 |hdr (x dx hl:ag) (l:List D)
 |raw (x dx:ag) (o:Option ag)
 |re (a:ag)
 |any
variable {bs:List Bd} {bx:Bd}
def Bd.isFn(b:Bd):Bool:=Bd.rec (motive:=λ_=>Bool) (λ_=>aH) (λ_ _=>aH) (λ_ _ _ _=>aH) (λ_ _ _ _=>aH) (λ_=>aH) (λ_ _=>ae) (λ_ _ _ _=>ae) (λ_ _ _=>aH) (λ_=>aH) aH b
noncomputable def Bd.La:Bd->Bool
 |.lam _ _ _ _=>ae
 |_=>aH
noncomputable abbrev ay:=List (Str×Bd)
variable {ρ aC:ay}
theorem cV.of(h:∀vs,o.data≠bC vs):cV o:=λvs _ _ e=>aZ e (h vs)
def Rm(n:Nat)(A:bN):Prop:=A.depth+n<=900/\A.units+12*n<=9000/\A.handled=ak
theorem Rm.le(h:Rm n A)(V:m<=n):Rm m A:=⟨by have:=h.1;exact abH (by assumption) (by assumption),by have:=h.2.1;exact Zm (by assumption) (by assumption),h.2.2⟩
theorem Rm.in1(h:Rm (n+1) A):Rm n A.in1:=⟨by have:=h.1;simp;exact bd (by assumption),by have:=h.2.1;simp;exact Jv (by assumption),h.2.2⟩
theorem Rm.deeper(h:Rm (n+1) A):Rm n (A.deeper ab):=⟨by have:=h.1;show A.depth+1+n<=900;exact L6 (by assumption),by have:=h.2.1;show A.units+3+12*n<=9000;exact abG (by assumption),h.2.2⟩
theorem Rm.mark(h:Rm n A):Rm n (A.mark ak):=⟨h.1,h.2.1,by refine h.2.2.trans ?_;rfl⟩
theorem mark_none(A:bN):A.mark ak=A:=by rcases A with _;rfl
theorem Rm.room(h:Rm n A):A.depth<recursionLimit:=by have:=h.1;show _<1000;exact aV (aD (cy _ _) this) (by simp)
inductive ab0(s:av)(g:aY)(ab:Env)(x:Str)(v:ai):Prop
 |mk (k:ab.kindOf x=aa .local) (hg:g ab.locals=ak) (m) (hm:s.heap.Ns ab.locals m) (hv:m x=aa v)
inductive ab1(s:av)(g:aY)(ab:Env)(x:Str)(v:ai):Prop
 |mk (k:ab.kindOf x=aa .cell\/ab.kindOf x=aa .free) (c) (hc:ab.cells.lookup x=aa c) (hg:g c=ak) (hv:s.heap.IsCell c (aa v))
def fG(s:av)(g:aY)(ab:Env)(x:Str)(v:ai):Prop:=ab0 s g ab x v\/ab1 s g ab x v
def InstAt(g:aY)(x dx:ag):Prop:=∃o,g x=aa o/\o.cls=.ref 258/\o.dict=aa dx/\(∀c,o.data≠.cls c)/\dx≠x
structure jj(w:a9)(s:av)(g:aY)(x:ag)(dx hl:ag)(af:Array ai):Prop where
 inst:InstAt g x dx
 dict:∃o es n,g dx=aa o/\o.data=.dict es n/\um es/\UniqKeys es/\∀y,nsFind es y=if y="_headers" then aa (.ref hl) else ak
 list:s.heap.PlainList hl af
 yr:g hl=ak
def p7(R:a9->av->aY->ai->List ag->Prop):Prop:=∀w s g v ad,St w s g->R w s g v ad->(∀a∈ad,g a=ak/\∃o,s.heap.get? a=aa o/\∀vs,o.data≠bC vs)/\∀mu s' g',(∀a∈ad,a∉mu)->Nx mu s g s' g'->R w s' g' v ad
noncomputable def jO(name bI:Str)(params:iz)(body:rN)(scope:bf)(br:List (Str×ag))(doc pm ct cv:ai):Bj:=
 {name,qualname:=bI,params,body,scope,globals:=eF,closure:=br,defaults:=.none,kwdefaults:=.none,doc,pyModule:=pm,annotations:=ak,code:=cv,closureTuple:=ct,builtins:=iO}
noncomputable def mf(fd:Bj):Obj:={cls:=aK "function",data:=.func fd}
def xQ(scope:bf)(V br:List (Str×ag)):Prop:=(∀x c,br.lookup x=aa c->V.lookup x=aa c/\scope.names.lookup x=aa .free)/\∀x,scope.names.lookup x=aa .free->∃c,br.lookup x=aa c
inductive Out(w:a9)(s:av)(g:aY)(k:D->Prop)(v:ai)(s':av):Prop
 |mk (g' d:_) (N:Nx [] s g s' g') (S:St w s' g') (R:Rep w g' v d) (h:k d)
inductive mn(w:a9)(s:av)(g:aY)(k:Bool->Prop)(b:Bool)(s':av):Prop
 |mk (g':_) (N:Nx [] s g s' g') (S:St w s' g') (h:k b)
theorem Out.trans(N:Nx [] s g aA aN)(h:Out w aA aN k v aT)(V:∀d,k d->k' d):Out w s g k' v aT:=
 let ⟨g',d,Y,W,R,hd⟩:=h;⟨g',d,N.trans Y,W,R,V d hd⟩
theorem Out.toks(S:St w s g)(R:Rep w g v d)(V:k d):Out w s g k v {s with toks:=tk}:=
 (S.ext' (h':=s.heap) (tk:=tk) λ_ _ e=>e).elim λN Y=>⟨g,d,N,Y,R,V⟩
theorem Out.same(S:St w s g)(R:Rep w g v d)(V:k d):Out w s g k v s:=⟨g,d,Nx.refl _ _ _,S,R,V⟩
def FnV(w:a9)(V:av->aY->Prop)(v:ai)(φ:D->Option D):Prop:=
 ∀(A:bN) (s:av) (g:aY) (u:ai) (d r:D),V s g->St w s g->Rm 60 A->Rep w g u d->φ d=aa r->∀E,wpAny (model PG w) A (call v [u]) (Out w s g (λx=>x=r)) E s
inductive ab2(w:a9)(s:av)(g:aY)(v:ai)(ad:List ag)(a:ag)(l:List D):Prop
 |mk (af:_) (hv:v=.ref a) (hg:g a=ak) (hp:s.heap.PlainList a af) (hr:aP w g af.toList l) (lI:ad=[a])
inductive ab3(s:av)(g:aY)(ab:Env)(v:ai)(ad:List ag)(nm:Str)(params:iz)(body:rN)(scope:bf):Prop
 |mk (f q br doc pm ct cv:_) (hv:v=.ref f) (hg:g f=aa (mf (jO nm q params body scope br doc pm ct cv:_))) (hc:s.heap.CodeRec cv q) (ho:xQ scope ab.cells br) (lI:ad=[])
inductive CJ(w:a9)(s:av)(g:aY)(v:ai)(ad:List ag)(x dx hl:ag)(l:List D):Prop
 |mk (af:_) (hv:v=.ref x) (hp:jj w s g x dx hl af) (hr:aP w g af.toList l) (lI:ad=[hl])
noncomputable def qb(o:Option ag)(y:Str):Option ai:=match o with
 |none=>ak
 |some hl=>if y="_headers" then aa (.ref hl) else ak
inductive ab4(s:av)(g:aY)(v:ai)(ad:List ag)(x dx:ag)(o:Option ag):Prop
 |mk (hv:v=.ref x) (hi:InstAt g x dx) (hd:s.heap.Ns1 dx (qb o)) (hg:g dx=ak) (lI:ad=[dx])
structure FnI(w:a9)(v:ai)(ad bz:List ag)(φ:D->Option D)(Lv:av->aY->Prop):Prop where
 st:∀mu s g s' g',(∀a∈mu,a∉ad)->Lv s g->St w s g->Nx mu s g s' g'->Lv s' g'
 fv:FnV w Lv v φ
 at_:∃a,v=.ref a/\∀s g,Lv s g->(∃o fd,s.heap.get? a=aa o/\o.data=.func fd)/\∀b∈bz,∃o,s.heap.get? b=aa o
def cU(w:a9)(s:av)(g:aY)(ab:Env)(v:ai)(ad:List ag):Bd->Prop
 |.dat d=>Rep w g v d/\ad=[]
 |.own a l=>ab2 w s g v ad a l
 |.lam nm params body scope=>ab3 s g ab v ad nm params body scope
 |.dU x dx hl l=>CJ w s g v ad x dx hl l
 |.obj R=>R w s g v ad/\p7 R
 |.hdr x dx hl l=>CJ w s g v ad x dx hl l
 |.raw x dx o=>ab4 s g v ad x dx o
 |.re a=>v=.ref a/\ad=[]
 |.any=>ad=[]
 |.fn bz φ=>ad=bz/\∃V:av->aY->Prop,V s g/\FnI w v ad bz φ V
def KS(a b:Option fP):Prop:=a=b\/(a=aa .cell/\b=aa .free)
noncomputable def sC(sc:bf)(x:String)(k:fP):Bool:=sc.names.lookup (a6 x)==aa k
def d5(sc:bf):Option (ag×Str):=
 if sC sc "insort_right" cj then aa (285,a6 "_law_rows.<locals>.")
 else if sC sc "spot" .local then aa (290,a6 "_law_points.<locals>.")
 else if sC sc "inner" .cell&&sC sc "a_digits" .cell then aa (65,a6 "_int2digits.<locals>.")
 else if sC sc "inner" .cell&&sC sc "digits" .cell then aa (72,a6 "_digits2int.<locals>.")
 else ak
structure c8(w:a9)(s:av)(g:aY)(ab:Env)(sc:bf)(ρ:ay):Prop where
 kind:ab.scope.kind=fu
 glob:ab.globals=eF
 gv:ab.builtins=iO
 ks:∀x,KS (ab.kindOf x) (sc.names.lookup x)
 lam:∀c q,d5 sc=aa (c,q)->ab.code=.ref c/\ab.qual=q
 e8:∀x,sc.names.lookup x=aa .cell\/sc.names.lookup x=aa .free->∃c,ab.cells.lookup x=aa c
 cP:∀x c,ab.cells.lookup x=aa c->g c=ak/\∃v,s.heap.IsCell c v
 fg:∀x y c,ab.cells.lookup x=aa c->ab.cells.lookup y=aa c->x=y
 var:∀x b,ρ.lookup x=aa b->∃v ad,fG s g ab x v/\cU w s g ab v ad b
section
variable {w:a9} {s s':av} {g g':aY} {ab:Env}
theorem Nx.get(N:Nx mu s g s' g')(S:St w s g)(e:s.heap.get? a=aa o)(h:o.cls≠.none\/(∀vs,o.data≠bC vs))(V:a∉mu):s'.heap.get? a=aa o:=N.keep a o e (S.dQ e h) V
theorem Nx.ns(N:Nx mu s g s' g')(S:St w s g){m:Str->Option ai}(e:s.heap.Ns a m)(W:a∉mu):s'.heap.Ns a m:=
 e.elim λo V=>V.elim λes V=>V.elim λep V=>V.elim λZ V=>V.elim λY r=>⟨o,es,ep,N.get S Z (.inr λvs q=>by cases Y.symm.trans q) W,Y,r⟩
theorem Nx.cell(N:Nx mu s g s' g')(S:St w s g){v:Option ai}(e:s.heap.IsCell a v)(Y:a∉mu):s'.heap.IsCell a v:=
 e.elim λo W=>W.elim λZ V=>⟨o,N.get S Z (.inr λvs q=>by cases V.symm.trans q) Y,V⟩
theorem Nx.plain(N:Nx mu s g s' g')(S:St w s g){v:Array ai}(e:s.heap.PlainList a v)(V:a∉mu):s'.heap.PlainList a v:=
 e.elim λn Y=>⟨n,N.get S Y (.inl (by simp)) V⟩
theorem AK(S:St w s g){c:ag}{vs:Array ai}{q:Str}{t:Tok}(Y:s.heap.get? c=aa o)(W:o.data=bC vs)(Z:vs[1]?=aa (.str q t)):c∉TB:=λH=>by
 obtain⟨ps,C,V,G,_⟩:=S.tb H
 rw[Y] at V;obtain rfl:=aW V;cases W
 exact TriplesOk.no1 G Z
theorem Nx.code(N:Nx mu s g s' g')(S:St w s g){q:Str}(e:s.heap.CodeRec cv q)(H:∀a,cv=.ref a->a∉mu):s'.heap.CodeRec cv q:=by
 obtain⟨c,o,vs,t,V,Y,W,Z⟩:=e
 exact⟨c,o,vs,t,V,N.keep c o Y (AK S Y W Z) (H c V),W,Z⟩
theorem fG.step(N:Nx mu s g s' g')(S:St w s g)(h:fG s g ab x v)(Z:ab.locals∉mu)(H:∀c∈ab.cells,c.2∉mu):fG s' g' ab x v:=by
 rcases h with ⟨W,V,m,h3,Y⟩|⟨W,c,V,h3,Y⟩
 ·refine .inl ⟨W,?_,m,N.ns S h3 Z,Y⟩
  obtain⟨o,_,_,e,_⟩:=h3
  exact N.old _ _ e V Z
 ·refine .inr ⟨W,c,V,?_,N.cell S Y (H _ (mem_of_lookup V))⟩
  obtain⟨o,e,_⟩:=Y
  exact N.old _ _ e h3 (H _ (mem_of_lookup V))
theorem cU.step{b:Bd}{ad:List ag}(N:Nx mu s g s' g')(S:St w s g)(h:cU w s g ab v ad b)(Y:∀a∈ad,a∉mu)(hc:b.La=ae->∀a∈mu,∀o,s.heap.get? a=aa o->cV o):cU w s' g' ab v ad b:=by
 have W:∀a o,s.heap.get? a=aa o->g a=ak->a∉mu->g' a=ak:=N.old
 induction b with
 |dat d=>exact⟨h.1.mono N.gg,h.2⟩
 |own a l=>
  obtain⟨af,Z,H,h3,V,G⟩:=h
  obtain⟨n,e⟩:=h3
  exact⟨af,Z,W _ _ e H (Y a (by simp[G])),N.plain S ⟨n,e⟩ (Y a (by simp[G])),V.mono N.gg,G⟩
 |lam nm params body scope=>
  obtain⟨f,q,br,doc,pm,ct,cv,H,h3,V,G,h6⟩:=h
  refine⟨f,q,br,doc,pm,ct,cv,H,N.gg _ _ h3,N.code S V λa ha C=>?_,G,h6⟩
  obtain⟨c,o,vs,t,e1,e2,e3,e4⟩:=V
  replace e1:=ha▸e1;cases e1
  exact hc rfl a C o e2 vs q t e3 e4
 |dU x dx hl l=>
  obtain⟨af,Z,⟨⟨o,B,q2⟩,⟨o',es,n,q3,q4⟩,q5,q6⟩,h3,V⟩:=h
  obtain⟨nn,e⟩:=q5
  exact⟨af,Z,⟨⟨o,N.gg _ _ B,q2⟩,⟨o',es,n,N.gg _ _ q3,q4⟩,N.plain S ⟨nn,e⟩ (Y hl (by simp[V])),W _ _ e q6 (Y hl (by simp[V]))⟩,h3.mono N.gg,V⟩
 |obj R=>exact⟨(h.2 w s g v ad S h.1).2 mu s' g' Y N,h.2⟩
 |hdr x dx hl l=>
  obtain⟨af,Z,⟨⟨o,B,q2⟩,⟨o',es,n,q3,q4⟩,q5,q6⟩,h3,V⟩:=h
  obtain⟨nn,e⟩:=q5
  exact⟨af,Z,⟨⟨o,N.gg _ _ B,q2⟩,⟨o',es,n,N.gg _ _ q3,q4⟩,N.plain S ⟨nn,e⟩ (Y hl (by simp[V])),W _ _ e q6 (Y hl (by simp[V]))⟩,h3.mono N.gg,V⟩
 |raw x dx ro=>
  refine ba λN_=>?_
  obtain⟨Z,⟨o,B,q2⟩,q5,q6,V⟩:=h
  obtain⟨od,es,n,e,d,r⟩:=q5
  apply N_
  refine⟨Z,⟨o,N.gg _ _ B,q2⟩,⟨od,es,n,N.get S e (.inr λvs q=>by cases d.symm.trans q) (Y dx (by simp[V])),d,r⟩,W _ _ e q6 (Y dx (by simp[V])),V⟩
 |any=>exact h
 |re a=>exact h
 |fn bz φ=>
  obtain⟨h0,Lv,Z,H⟩:=h
  exact⟨h0,Lv,H.st mu s g s' g' (λa D' lI=>Y a lI D') Z S N,H⟩
theorem cU.plain{b:Bd}{ad:List ag}(S:St w s g)(h:cU w s g ab v ad b)(Z:b.isFn=aH):∀a∈ad,g a=ak/\∃o,s.heap.get? a=aa o/\(∀vs,o.data≠bC vs):=by
 induction b with
 |dat d=>exact h.2▸fU
 |own B l=>obtain⟨af,H,V,⟨n,e⟩,Y,G⟩:=h;exact G▸sL ⟨V,_,e,λ_=>sf⟩
 |lam nm params body scope=>obtain⟨f,q,br,doc,pm,ct,cv,V,h3,Y,G,C⟩:=h;exact C▸fU
 |dU x dx hl l=>obtain⟨af,H,V,h3,Y⟩:=h;exact Y▸sL (V.list.elim λn' W=>⟨V.yr,_,W,λ_=>sf⟩)
 |raw x dx ro=>obtain⟨H,V,⟨od,es,n,e,d,r⟩,h3,Y⟩:=h;exact Y▸sL ⟨h3,_,e,λvs q=>nomatch d.symm.trans q⟩
 |obj R=>exact(h.2 w s g v ad S h.1).1
 |any=>exact(h:ad=[])▸fU
 |re b=>exact h.2▸fU
 |fn bz φ=>exact tf Z
 |hdr x dx hl l=>exact tf Z
theorem cU.there{b:Bd}{ad:List ag}(S:St w s g)(h:cU w s g ab v ad b)(V:b.isFn=aH):∀a∈ad,∃o,s.heap.get? a=aa o:=λa Y=>(h.plain S V a Y).2.elim λo e=>⟨o,e.1⟩
theorem c8.step(R:c8 w s g ab sc ρ)(N:Nx [] s g s' g')(S:St w s g):c8 w s' g' ab sc ρ:=
 ⟨R.kind,R.glob,R.gv,R.ks,R.lam,R.e8,λx c h=>by
  refine(R.cP x c h).elim λY W=>W.elim λv V=>?_
  obtain⟨o,e,_⟩:=id V
  exact⟨N.old _ _ e Y (by simp),v,N.cell S V (by simp)⟩,R.fg,λx b h=>by
  obtain⟨v,ad,Y,V⟩:=R.var x b h
  exact⟨v,ad,Y.step N S (ca) (by simp),V.step N S (by simp) (by simp)⟩⟩
end
structure aj(n:Nat)(sc:bf)(ρ:ay)(e:au)(k:D->Prop):Prop where
 run:∀(w:a9) (A:bN) (ab:Env) (s:av) (g:aY),St w s g->Rm n A->c8 w s g ab sc ρ->∀E,wpAny (model PG w) A (eval e ab) (Out w s g k) E s
structure bH(n:Nat)(sc:bf)(ρ:ay)(e:au)(k:Bool->Prop):Prop where
 run:∀(w:a9) (A:bN) (ab:Env) (s:av) (g:aY),St w s g->Rm n A->c8 w s g ab sc ρ->∀E,wpAny (model PG w) A (isTrue e ab (eval e ab)) (mn w s g k) E s
section
variable {n:Nat} {sc:bf} {ρ:ay} {k k':D->Prop}
theorem aj.mono(h:aj n sc ρ e k)(Y:∀d,k d->k' d):aj n sc ρ e k':=.mk λw A ab s g S R V E=>
 er (h.run w A ab s g S R V E) (λv s' o=>o.trans (Nx.refl _ _ _) Y) λ_ _ x=>x
theorem bH.mono{k k':Bool->Prop}(h:bH n sc ρ e k)(Y:∀d,k d->k' d):bH n sc ρ e k':=.mk λw A ab s g S R V E=>
 er (h.run w A ab s g S R V E) (λv s' W=>by obtain⟨g',N,Z,x⟩:=W;exact⟨g',N,Z,Y _ x⟩) λ_ _ x=>x
theorem bg{M:om}{t:Sem α}{Q V:α->av->Prop}(h:wpAny M A t Q E s)(f:∀a s,Q a s->V a s):wpAny M A t V E s:=er h f λ_ _ x=>x
theorem Out.back{m:Sem ai}(N:Nx [] s g aA aN)(h:wpAny (model PG w) A m (Out w aA aN k) E aA):wpAny (model PG w) A m (Out w s g k) E aA:=bg h λ_ _ o=>o.trans N λ_ x=>x
theorem aj.wp(h:aj n sc ρ e k)(S:St w s g)(R:Rm n A)(V:c8 w s g ab sc ρ)(f:∀v s' g' d,Nx [] s g s' g'->St w s' g'->Rep w g' v d->k d->Q v s'):wpAny (model PG w) A (eval e ab) Q E s:=
 bg (h.run w A ab s g S R V E) λv s' o=>by obtain⟨g',d,N,Y,W,Z⟩:=o;exact f v s' g' d N Y W Z
theorem bH.wp{k:Bool->Prop}(h:bH n sc ρ e k){Q:Bool->av->Prop}(S:St w s g)(R:Rm n A)(V:c8 w s g ab sc ρ)(f:∀b s' g',Nx [] s g s' g'->St w s' g'->k b->Q b s'):wpAny (model PG w) A (isTrue e ab (eval e ab)) Q E s:=
 bg (h.run w A ab s g S R V E) λv s' o=>by obtain⟨g',N,Y,W⟩:=o;exact f v s' g' N Y W
noncomputable def ce(x:Str):Bool:=!(x==("__debug__":Str))&&!(x==("__classdict__":Str))
theorem d3(W:ab.scope.kind=fu)(h:fG s g ab x v)(G:ce x=ae)(Z:Q v s):
 wpAny (model PG w) A (loadName ab x) Q E s:=by
 simp only[ce,bB,nH] at G
 rcases h with ⟨V,H,m,h3,Y⟩|⟨V|V,c,H,h3,Y⟩
 ·exact wpAny_loadName_local W V h3 Y Z
 ·exact wpAny_loadName_cell W V H Y Z
 ·exact wpAny_loadName_free W V H Y Z G.2
theorem aj.name(h:ρ.lookup x=aa (.dat d))(Y:ce x=ae)(W:k d):aj n sc ρ (aS x aM) k:=.mk λw A ab s g S R V E=>by
 obtain⟨v,ad,Z,H⟩:=V.var x _ h
 exact eQ (d3 V.kind Z Y (Out.same S H.1 W)) (by simp only[ce,bB,nH] at Y;exact Y.1)
theorem aj.int{i:Int}(Y:k (.int i)):aj n sc ρ (jH (.int i) c aM) k:=.mk λw A ab s g S R V E=>wpAny_Constant_int (Out.toks S (.int _ _) Y)
theorem aj.str(Y:k (.str x)):aj n sc ρ (jH (.str x) c aM) k:=.mk λw A ab s g S R V E=>Constant_str (Out.toks S (.str _ _) Y)
theorem aj.bool{b:Bool}(Y:k (.bool b)):aj n sc ρ (jH (.bool b) c aM) k:=.mk λw A ab s g S R V E=>O2 (Out.same S (.bool _) Y)
theorem aj.none(Y:k .none):aj n sc ρ (jH .none c aM) k:=.mk λw A ab s g S R V E=>EZ (Out.same S .none Y)
structure bF(n:Nat)(op:l4)(a b:D)(k:D->Prop):Prop where
 run:∀(w:a9) (A:bN) (s:av) (g:aY) (v u:ai),St w s g->Rm n A->Rep w g v a->Rep w g u b->∀E,wpAny (model PG w) A (binaryOp op v u) (Out w s g k) E s
theorem aj.bin{l r:au}(h:aj n sc ρ l λa=>aj n sc ρ r λb=>bF n op a b k):aj n sc ρ (.BinOp l op r aM) k:=.mk λw A ab s g S R V E=>
 wpAny_BinOp (bg (h.run w A ab s g S R V E) (λv aA ⟨aN,a,Y,Z,H,G⟩=>
  bg (G.run w A ab aA aN Z R (V.step Y S) E) (λu aT ⟨bb,b,W,C,B,f⟩=>
   Out.back (Y.trans W) (f.run w A aT bb v u C R (H.mono W.gg) B E))))
def L9(w:a9)(g:aY)(v:ai):D->Prop
 |.none=>v=.none
 |.bool b=>v=.bool b
 |.int i=>∃t,v=.int i t
 |.str x=>∃t,v=.str x t
 |.tup l=>∃a n af,v=.ref a/\g a=aa {cls:=aK "tuple",data:=.seq af n}/\aP w g af.toList l
 |.lst l=>∃a n af,v=.ref a/\g a=aa {cls:=aK "list",data:=.seq af n}/\aP w g af.toList l
 |.cO l=>∃a n es,v=.ref a/\g a=aa {cls:=aK "dict",data:=.dict es n}/\es.toList.length=l.length/\((l.map (·.1)).Nodup/\a≠gp)/\
  (∀(i:Nat) (e:dy) (x:Str) (d:D),es.toList[i]?=aa e->l[i]?=aa (x,d)->(∃t,e.key=.str x t)/\e.hash=hashStr w x)/\
  (∀(i:Nat) (e:dy) (x:Str) (d:D),es.toList[i]?=aa e->l[i]?=aa (x,d)->Rep w g e.val d)
 |.eu l=>∃a n es,v=.ref a/\g a=aa {cls:=aK "dict",data:=.dict es n}/\es.toList.length=l.length/\((l.map (·.1)).Nodup/\a≠gp)/\
  (∀(i:Nat) (e:dy) (x:Int) (d:D),es.toList[i]?=aa e->l[i]?=aa (x,d)->(∃t,e.key=.int x t)/\e.hash=hashInt x)/\
  (∀(i:Nat) (e:dy) (x:Int) (d:D),es.toList[i]?=aa e->l[i]?=aa (x,d)->Rep w g e.val d)
theorem Rep.inv(h:Rep w g v d):L9 w g v d:=
 Rep.casesOn (motive:=λv d _=>L9 w g v d) h rfl (λ_=>rfl) (λ_ t=>⟨t,rfl⟩) (λ_ t=>⟨t,rfl⟩) (λa n af l V Y h3=>⟨a,n,af,rfl,V,Y,h3⟩) (λa n af l V Y h3=>⟨a,n,af,rfl,V,Y,h3⟩)
  (λa n es l V Y h3 W Z=>⟨a,n,es,rfl,V,Y,h3,W,Z⟩) (λa n es l V Y h3 W Z=>⟨a,n,es,rfl,V,Y,h3,W,Z⟩)
theorem Rep.int_inv{i:Int}(h:Rep w g v (.int i)):∃t,v=.int i t:=h.inv
theorem Rep.str_inv{i:Str}(h:Rep w g v (.str i)):∃t,v=.str i t:=h.inv
@[elab_as_elim] theorem Rep.b9 {i:Int}{P:ai->Prop}(h:Rep w g v (.int i))(f:∀t,P (.int i t)):P v:=by obtain⟨t,rfl⟩:=h.int_inv;exact f t
@[elab_as_elim] theorem Rep.dB {i:Str}{P:ai->Prop}(h:Rep w g v (.str i))(f:∀t,P (.str i t)):P v:=by obtain⟨t,rfl⟩:=h.str_inv;exact f t
theorem Rep.bool_inv{i:Bool}(h:Rep w g v (.bool i)):v=.bool i:=h.inv
theorem Rep.none_inv(h:Rep w g v .none):v=.none:=h.inv
theorem bF.add{i j:Int}(V:k (.int (i+j))):bF n .Add (.int i) (.int j) k:=.mk λw A s g v u S R Y W E=>by
 refine Y.b9 λt=>?_;refine W.b9 λZ=>?_
 exact wpAny_add_int (Out.toks S (.int _ _) V)
end
set_option genCtorIdx false in
set_option genInjectivity false in
inductive Ty where
 |int|str|bool
 |lst (t:Ty)
 |pair (t u:Ty)
noncomputable def iC:Ty->D->Prop
 |.int,d=>∃i,d=.int i
 |.str,d=>∃x,d=.str x
 |.bool,d=>∃b,d=.bool b
 |.lst t,d=>∃l,d=.lst l/\∀x∈l,iC t x
 |.pair t u,d=>∃a b,d=.tup [a,b]/\iC t a/\iC u b
noncomputable def Ty.dep:Ty->Nat
 |.int|.str|.bool=>0
 |.lst t=>t.dep+1
 |.pair t u=>max t.dep u.dep+1
section
variable {w:a9} {g:aY} {s:av}
theorem Rep.lst_inv(h:Rep w g v (.lst l)):∃a n af,v=.ref a/\g a=aa {cls:=aK "list",data:=.seq af n}/\aP w g af.toList l:=h.inv
theorem Rep.rU(h:Rep w g v (.tup l)):∃a n af,v=.ref a/\g a=aa {cls:=aK "tuple",data:=.seq af n}/\aP w g af.toList l:=h.inv
@[elab_as_elim] theorem Rep.ka {P:ai->Prop}(h:Rep w g v (.lst l))(f:∀a n af,g a=aa {cls:=aK "list",data:=.seq af n}->aP w g af.toList l->P (.ref a)):P v:=by
 obtain⟨a,n,af,rfl,V,Y⟩:=h.lst_inv
 exact f a n af V Y
@[elab_as_elim] theorem Rep.uh {P:ai->Prop}(h:Rep w g v (.tup l))(f:∀a n af,g a=aa {cls:=aK "tuple",data:=.seq af n}->aP w g af.toList l->P (.ref a)):P v:=by
 obtain⟨a,n,af,rfl,V,Y⟩:=h.rU
 exact f a n af V Y
theorem Rep.n_(S:St w s g)(h:Rep w g v (.lst l)):∃a af,v=.ref a/\s.heap.IsList a af/\aP w g af.toList l:=
 h.lst_inv.elim λa V=>V.elim λn V=>V.elim λaf V=>V.elim λY V=>V.elim λW Z=>⟨a,af,Y,⟨_,S.sub _ _ W,rfl,n,rfl⟩,Z⟩
theorem Rep.Cf(S:St w s g)(h:Rep w g v (.tup l)):∃a af,v=.ref a/\s.heap.IsTuple a af/\aP w g af.toList l:=
 h.rU.elim λa V=>V.elim λn V=>V.elim λaf V=>V.elim λY V=>V.elim λW Z=>⟨a,af,Y,⟨_,S.sub _ _ W,rfl,n,rfl⟩,Z⟩
theorem aP.det(r:aP w g vs l)(V:aP w g vs l')(h:∀(i:Nat) u x y,l[i]?=aa x->l'[i]?=aa y->Rep w g u x->Rep w g u y->x=y):l=l':=by
 refine qJ λi=>?_
 induction hi:vs[i]? with
 |none=>
  have Y:=qx.mp hi
  simp only[qx.mpr (r.1▸Y),qx.mpr (V.1▸Y)]
 |some u=>
  obtain⟨x,W,H⟩:=r.get hi
  obtain⟨y,Z,G⟩:=V.get hi
  simp only[W,Z,h i u x y W Z H G]
theorem Jx{c:String}{x y:Array ai}(h:aa ({cls:=aK c,data:=.seq x n}:Obj)=aa {cls:=aK c,data:=.seq y m}):x=y:=(Data.seq.inj (aQ Obj.data (aW h))).1
theorem BU{x:α}{P:Prop}(h:([]:List α)[i]?=aa x):P:=aZ (Fc.symm.trans h) (lb x).symm
theorem Rep.det(Z:Ty):∀{v:ai} {d H:D},iC Z d->iC Z H->Rep w g v d->Rep w g v H->d=H:=by
 induction Z with
 |int=>
  rintro v _ _ ⟨i,rfl⟩ ⟨j,rfl⟩ h h'
  obtain⟨t,rfl⟩:=h.int_inv
  exact h'.int_inv.elim λu e=>aQ D.int (QO e).1
 |str=>
  rintro v _ _ ⟨i,rfl⟩ ⟨j,rfl⟩ h h'
  obtain⟨t,rfl⟩:=h.str_inv
  exact h'.str_inv.elim λu e=>aQ D.str (Value.str.inj e).1
 |bool=>
  rintro v _ _ ⟨i,rfl⟩ ⟨j,rfl⟩ h h'
  exact aQ D.bool (Value.bool.inj (h.bool_inv.symm.trans h'.bool_inv))
 |lst t ih=>
  rintro v _ _ ⟨l,rfl,hl⟩ ⟨l',rfl,G⟩ h h'
  obtain⟨a,n,af,rfl,C,B⟩:=h.lst_inv
  obtain⟨a',n',V,e,f,r4⟩:=h'.lst_inv
  obtain rfl:=tH e
  obtain rfl:=Jx (C.symm.trans f)
  exact aQ D.lst (B.det r4 λi u x y hx hy=>ih (hl x (c5 hx)) (G y (c5 hy)))
 |pair t u DQ DR=>
  rintro v _ _ ⟨x,y,rfl,h1,h2⟩ ⟨x',y',rfl,h1',h2'⟩ h h'
  obtain⟨a,n,af,rfl,C,B⟩:=h.rU
  obtain⟨a',n',V,e,f,r4⟩:=h'.rU
  obtain rfl:=tH e
  obtain rfl:=Jx (C.symm.trans f)
  refine aQ D.tup (B.det r4 λi v p q Y W rp rq=>?_)
  induction i with
  |zero=>exact aW Y▸aW W▸DQ h1 h1' (aW Y▸rp) (aW W▸rq)
  |succ i=>induction i with
   |zero=>exact aW Y▸aW W▸DR h2 h2' (aW Y▸rp) (aW W▸rq)
   |succ i=>exact BU (i:=i) Y
noncomputable def eqB(l l':List D)(j:Nat):Bool:=@decide (l[j]?=l'[j]?) (zn _)
theorem eqB_iff:eqB l l' j=ae<->l[j]?=l'[j]?:=@decide_eq_true_iff _ (zn _)
theorem Jy(h:l.length=n)(h':l'.length=n):(dM n).all (eqB l l')=ae<->l=l':=by
 refine ef.trans ?_
 refine⟨λhh=>qJ λj=>?_,λe j _=>eqB_iff.mpr (e▸rfl)⟩
 by_cases V:j<n
 ·exact eqB_iff.mp (hh j (gk.mpr V))
 ·simp only[qx.mpr (h▸de.mp V),qx.mpr (h'▸de.mp V)]
open SeqAt in
theorem seq_eq{V:Array ai}(G:aP w g af.toList l)(Y:aP w g V.toList l')(C:∀(j:Nat) p q u v b,l[j]?=aa p->l'[j]?=aa q->Rep w g u p->Rep w g v q->(b=ae<->p=q)->EqAt A s u v b)(j:Nat)(B:j<af.size)(f:j<V.size):EqAt A s af[j] V[j] (eqB l l' j):=by
 refine(G.get (i:=j) (v:=af[j]) (kB.trans (nw B))).elim λp W=>W.elim λZ rp=>?_
 obtain⟨q,H,rq⟩:=Y.get (i:=j) (v:=V[j]) (kB.trans (nw f))
 exact C j p q _ _ _ Z H rp rq (by simp only[eqB_iff,Z,H,Fd])
theorem BV[BEq α][LawfulBEq α]{c:α->D}{i j:α}{b:Bool}(Y:∀i j,c i=c j->i=j)(V:b=ae<->c i=c j):(i==j)=b:=hY.mpr (beq_iff_eq.trans ⟨λh=>V.mpr (aQ c h),λh=>Y i j (V.mp h)⟩)
open SeqAt in
theorem Jz{V:ag}{b:Bool}(Y:Value.ref a=.ref V->b=ae)(qp:RcAt A s (.ref a) (.ref V) b/\RcNeAt A s (.ref a) (.ref V) (!b)):EqAt A s (.ref a) (.ref V) b/\RcAt A s (.ref a) (.ref V) b/\RcNeAt A s (.ref a) (.ref V) (!b):=by
 refine⟨?_,qp⟩
 by_cases W:a=V
 ·subst W
  exact(Y rfl)▸(EqAt.same _)
 ·exact EqAt.of_refs W qp.1
open SeqAt in
theorem Lb(τ:Ty):∀{A:bN} {v u:ai} {d d':D} {b:Bool},St w s g->Rm τ.dep A->iC τ d->iC τ d'->Rep w g v d->Rep w g u d'->(b=ae<->d=d')->
 EqAt A s v u b/\RcAt A s v u b/\RcNeAt A s v u (!b):=by
 induction τ with
 |int=>
  rintro A v u _ _ b S R ⟨i,rfl⟩ ⟨j,rfl⟩ h h' Y
  refine h.b9 λt=>?_;refine h'.b9 λG=>?_
  exact BV (c:=D.int) (λ_ _=>D.int.inj) Y▸⟨EqAt.int_int i t j G,RcAt.int_int i t j G,RcNeAt.int_int i t j G⟩
 |str=>
  rintro A v u _ _ b S R ⟨i,rfl⟩ ⟨j,rfl⟩ h h' Y
  refine h.dB λt=>?_;refine h'.dB λG=>?_
  exact BV (c:=D.str) (λ_ _=>D.str.inj) Y▸⟨EqAt.str_str i t j G,RcAt.str_str i t j G,RcNeAt.str_str i t j G⟩
 |bool=>
  rintro A v u _ _ b S R ⟨i,rfl⟩ ⟨j,rfl⟩ h h' Y
  rw[h.bool_inv];exact h'.bool_inv▸(BV (c:=D.bool) (λ_ _=>D.bool.inj) Y▸⟨EqAt.bool_bool i j,RcAt.bool_bool i j,RcNeAt.bool_bool i j⟩)
 |lst t ih=>
  rintro A v u _ _ b S R ⟨l,rfl,hl⟩ ⟨l',rfl,lJ⟩ h h' Y
  have B:A.units<cLine:=aV (aD (cy _ _) R.2.1) (lT tT:9000<cLine)
  have C:v=u->b=ae:=λq=>Y.mpr (Rep.det (.lst t) ⟨l,rfl,hl⟩ ⟨l',rfl,lJ⟩ h (q▸h'))
  obtain⟨a,af,rfl,f,ra⟩:=h.n_ S
  obtain⟨a',V,rfl,W,Z⟩:=h'.n_ S
  refine Jz C ?_
  by_cases H:af.size=V.size
  ·have he:=seq_eq (s:=s) ra Z λj p q u v b hp hq rp rq Y=>(ih S (Rm.in1 R) (hl _ (c5 hp)) (lJ _ (c5 hq)) rp rq Y).1
   exact(hY.mpr ((Jy ra.1.symm (Z.1.symm.trans H.symm)).trans ⟨λe=>Y.mpr (aQ D.lst e),λe=>D.lst.inj (Y.mp e)⟩):(dM af.size).all (eqB l l')=b)▸⟨RcAt.lists f W H B he,RcNeAt.lists f W H B he⟩
  ·exact(hY.mpr ⟨nofun,λe=>aZ (ra.1.trans ((aQ gm (D.lst.inj (Y.mp e))).trans Z.1.symm)) H⟩:aH=b)▸⟨RcAt.lists_lengths f W (bne_iff_ne.mpr H) B,RcNeAt.lists_lengths f W (bne_iff_ne.mpr H) B⟩
 |pair t G DQ DR=>
  rintro A v u _ _ b S R ⟨x,y,rfl,hx,hy⟩ ⟨x',y',rfl,Nq,Nr⟩ h h' Y
  have B:A.units<cLine:=aV (aD (cy _ _) R.2.1) (lT tT:9000<cLine)
  have C:v=u->b=ae:=λq=>Y.mpr (Rep.det (.pair t G) ⟨x,y,rfl,hx,hy⟩ ⟨x',y',rfl,Nq,Nr⟩ h (q▸h'))
  obtain⟨a,af,rfl,f,ra⟩:=h.Cf S
  obtain⟨a',V,rfl,W,Z⟩:=h'.Cf S
  have sX:af.size=2:=ra.1
  have D_:V.size=2:=Z.1
  have adB:((dM (min af.size V.size)).all (eqB [x,y] [x',y'])&&af.size==V.size)=b:=by
   rw[sX,D_]
   exact(Bool.and_true _).trans (hY.mpr ((Jy (l:=[x,y]) (l':=[x',y']) rfl rfl).trans ⟨λe=>Y.mpr (aQ D.tup e),λe=>D.tup.inj (Y.mp e)⟩))
  have he:=seq_eq (s:=s) (A:=A.in1) ra Z λj p q u v b hp hq rp rq Y=>by
   cases j with
   |zero=>
    obtain rfl:=aW hp;obtain rfl:=aW hq
    exact(DQ S ((Rm.in1 (n:=max t.dep G.dep) R).le (P' _ _)) hx Nq rp rq Y).1
   |succ i=>induction i with
    |zero=>
     obtain rfl:=aW hp;obtain rfl:=aW hq
     exact(DR S ((Rm.in1 (n:=max t.dep G.dep) R).le (PQ _ _)) hy Nr rp rq Y).1
    |succ i=>exact BU (i:=i) hp
  exact Jz C (adB▸⟨RcAt.tuples f W B he,RcNeAt.tuples f W B he⟩)
end
inductive ab5(w:a9)(s:av)(g:aY)(k:Bool->Prop)(r:ai)(s':av):Prop
 |mk (c g':_) (hr:r=.bool c) (N:Nx [] s g s' g') (S:St w s' g') (h:k c)
structure bq(n:Nat)(op:oq)(a b:D)(k:Bool->Prop):Prop where
 run:∀(w:a9) (A:bN) (s:av) (g:aY) (v u:ai),St w s g->Rm n A->Rep w g v a->Rep w g u b->∀E,wpAny (model PG w) A (compareOp op v u) (ab5 w s g k) E s
section
variable {n:Nat} {sc:bf} {ρ:ay} {k:Bool->Prop}
theorem bq.eqT(V:Ty){a b:D}(W:V.dep<=n)(Z:iC V a)(H:iC V b)(G:∀c:Bool,(c=ae<->a=b)->k c):bq n .Eq a b k:=.mk λw A s g v u S R C B E=>by
 let c:Bool:=@decide (a=b) (zn _)
 have Y:c=ae<->a=b:=by simp[c]
 exact(Lb V S (R.le W) Z H C B Y).2.1 _ _ _ _ ⟨c,g,rfl,Nx.refl _ _ _,S,G c Y⟩
theorem bq.neT(V:Ty){a b:D}(W:V.dep<=n)(Z:iC V a)(H:iC V b)(G:∀c:Bool,(c=ae<->a≠b)->k c):bq n .NotEq a b k:=.mk λw A s g v u S R C B E=>by
 let c:Bool:=@decide (a=b) (zn _)
 have Y:c=ae<->a=b:=by simp[c]
 exact(Lb V S (R.le W) Z H C B Y).2.2 _ _ _ _ ⟨!c,g,rfl,Nx.refl _ _ _,S,G (!c) (by rw[nH,<-qR,Y])⟩
theorem bq.eqI{i j:Int}(V:k (i==j)):bq n .Eq (.int i) (.int j) k:=bq.eqT .int (ck _) ⟨i,rfl⟩ ⟨j,rfl⟩ λc Y=>by
 have:c=(i==j):=by rw[hY,Y,beq_iff_eq];simp
 rw[this];exact V
theorem bq.neI{i j:Int}(V:k (i != j)):bq n .NotEq (.int i) (.int j) k:=bq.neT .int (ck _) ⟨i,rfl⟩ ⟨j,rfl⟩ λc Y=>by
 have:c=(i != j):=by rw[hY,Y,bne_iff_ne];simp
 rw[this];exact V
theorem bq.eqX{i j:Str}(V:k (i==j)):bq n .Eq (.str i) (.str j) k:=bq.eqT .str (ck _) ⟨i,rfl⟩ ⟨j,rfl⟩ λc Y=>by
 have:c=(i==j):=by rw[hY,Y,beq_iff_eq];simp
 rw[this];exact V
theorem bq.neX{i j:Str}(V:k (i != j)):bq n .NotEq (.str i) (.str j) k:=bq.neT .str (ck _) ⟨i,rfl⟩ ⟨j,rfl⟩ λc Y=>by
 have:c=(i != j):=by rw[hY,Y,bne_iff_ne];simp
 rw[this];exact V
theorem bq.lt{i j:Int}(V:k (decide (i<j))):bq n .Lt (.int i) (.int j) k:=.mk λw A s g v u S R Y W E=>by
 refine Y.b9 λt=>?_;refine W.b9 λZ=>?_
 exact aee ⟨_,g,rfl,Nx.refl _ _ _,S,V⟩
theorem bq.le{i j:Int}(V:k (decide (i<=j))):bq n .LtE (.int i) (.int j) k:=.mk λw A s g v u S R Y W E=>by
 refine Y.b9 λt=>?_;refine W.b9 λZ=>?_
 exact aef ⟨_,g,rfl,Nx.refl _ _ _,S,V⟩
theorem bq.gt{i j:Int}(V:k (decide (j<i))):bq n .Gt (.int i) (.int j) k:=.mk λw A s g v u S R Y W E=>by
 refine Y.b9 λt=>?_;refine W.b9 λZ=>?_
 exact aeg ⟨_,g,rfl,Nx.refl _ _ _,S,V⟩
theorem bq.ge{i j:Int}(V:k (decide (j<=i))):bq n .GtE (.int i) (.int j) k:=.mk λw A s g v u S R Y W E=>by
 refine Y.b9 λt=>?_;refine W.b9 λZ=>?_
 exact aeh ⟨_,g,rfl,Nx.refl _ _ _,S,V⟩
noncomputable def D.isNone:D->Bool
 |.none=>ae
 |_=>aH
theorem Rep.JA(h:Rep w g v d):(v==.none)=d.isNone:=by induction h<;>rfl
theorem bq.isNone{a:D}(V:k a.isNone):bq n .Is a .none k:=.mk λw A s g v u S R Y W E=>by
 have e:=W.none_inv;subst e
 exact is_none_gen (Y.JA▸⟨_,g,rfl,Nx.refl _ _ _,S,V⟩)
theorem bq.isNotNone{a:D}(V:k (!a.isNone)):bq n .IsNot a .none k:=.mk λw A s g v u S R Y W E=>by
 have e:=W.none_inv;subst e
 exact Qs (by exact Y.JA▸⟨_,g,rfl,Nx.refl _ _ _,S,V⟩)
theorem bq.pX{a b:Bool}(V:k (a != b)):bq n .IsNot (.bool a) (.bool b) k:=.mk λw A s g v u S R Y W E=>by
 have e:=Y.bool_inv;subst e;have e:=W.bool_inv;subst e
 exact isnot_bool ⟨_,g,rfl,Nx.refl _ _ _,S,V⟩
noncomputable def jk(y x:Str):Bool:=!(ku x y 0 x.length 1).isEmpty
theorem bq.inX(V:k (jk y x)):bq n .In (.str y) (.str x) k:=.mk λw A s g v u S R Y W E=>by
 refine Y.dB λt=>?_;refine W.dB λZ=>?_
 exact P.in_str ⟨_,g,rfl,Nx.refl _ _ _,S,V⟩
theorem bq.Yi(V:k (!jk y x)):bq n .NotIn (.str y) (.str x) k:=.mk λw A s g v u S R Y W E=>by
 refine Y.dB λt=>?_;refine W.dB λZ=>?_
 exact P.notIn_str ⟨_,g,rfl,Nx.refl _ _ _,S,V⟩
theorem aj.cmp{kd:D->Prop}{op:oq}{l r:au}(h:aj n sc ρ l λa=>aj n sc ρ r λb=>bq n op a b λc=>kd (.bool c))(hm:Af op r=aH):aj n sc ρ (iQ l [op] [r] aM) kd:=.mk λw A ab s g S R V E=>
 wpAny_Compare1 (bg (h.run w A ab s g S R V E) (λv aA ⟨aN,a,Y,Z,H,G⟩=>
  bg (G.run w A ab aA aN Z R (V.step Y S) E) (λu aT ⟨bb,b,W,C,B,f⟩=>
   bg (f.run w A aT bb v u C R (H.mono W.gg) B E) (λr kX q_=>by obtain⟨c,ii,e,gw,ij,hk⟩:=q_;exact e▸⟨ii,_,(Y.trans W).trans gw,ij,.bool _,hk⟩)))) hm
theorem bH.cmp{op:oq}{l r:au}(h:aj n sc ρ l λa=>aj n sc ρ r λb=>bq n op a b k)(hm:Af op r=aH):bH n sc ρ (iQ l [op] [r] aM) k:=.mk λw A ab s g S R V E=>
 vO (bg (h.run w A ab s g S R V E) (λv aA ⟨aN,a,Y,Z,H,G⟩=>
  bg (G.run w A ab aA aN Z R (V.step Y S) E) (λu aT ⟨bb,b,W,C,B,f⟩=>
   bg (f.run w A aT bb v u C R (H.mono W.gg) B E) (λr kX q_=>by
    obtain⟨c,ii,e,gw,ij,hk⟩:=q_
    subst e
    exact nJ ⟨ii,(Y.trans W).trans gw,ij,hk⟩)))) hm
theorem bH.not{x:au}(h:bH n sc ρ x λb=>k (!b)):bH n sc ρ (.UnaryOp .Not x aM) k:=.mk λw A ab s g S R V E=>
 wpAny_isTrue_Not (bg (h.run w A ab s g S R V E) (λb s' Y=>by obtain⟨g',N,W,x⟩:=Y;exact⟨g',N,W,x⟩))
noncomputable def D.truth(d:D):Option Bool:=match d with
 |.none=>aa aH
 |.bool b=>aa b
 |.int i=>aa (i != 0)
 |.str x=>aa ((x.length:Int) != 0)
 |.lst l=>aa (!l.isEmpty)
 |.tup _=>aU|.cO _=>aU|.eu _=>aU
theorem IJ{b:Bool}(S:St w s g)(R:Rep w g v d)(h:d.truth=aa b)(hl:∀x,d=.str x->x.length<2^63)(V:∀x,d=.lst x->x.length<2^63)(W:k b):
 wpAny (model PG w) A (truthy v) (mn w s g k) E s:=by
 have tk:∀(tk:Nat),mn w s g k b {s with toks:=tk}:=λtk=>(S.ext' (h':=s.heap) (tk:=tk) λ_ _ e=>e).elim λN Z=>⟨g,N,Z,W⟩
 cases d with
 |none=>obtain rfl:=R.none_inv;obtain rfl:=aW h;exact λ_ _ _=>tk _
 |bool x=>obtain rfl:=R.bool_inv;obtain rfl:=aW h;exact nJ (tk _)
 |int i=>refine R.b9 λt=>?_;obtain rfl:=aW h;exact ad3 (tk _)
 |str x=>refine R.dB λt=>?_;obtain rfl:=aW h;exact P.truthy_str (L5 (hl x rfl)) (tk _)
 |lst l=>
  obtain⟨a,af,rfl,H,Y⟩:=R.n_ S
  obtain rfl:=aW h
  have e:af.isEmpty=l.isEmpty:=hY.mpr (Array.isEmpty_iff_size_eq_zero.trans ((iff_of_eq (aQ (·=0) Y.1)).trans (lL.trans PR.symm)))
  exact wpAny_truthy_list H (Zd (V l rfl) Y.1) (e▸tk _)
 |tup l=>exact ns h
 |cO l=>exact ns h
 |eu l=>exact ns h
theorem bH.val(h:aj n sc ρ e λd=>∃b,d.truth=aa b/\(∀x,d=.str x->x.length<2^63)/\(∀x,d=.lst x->x.length<2^63)/\k b)(f:∀ab Y,isTrue e ab Y=(do let v <-Y;standAt e.pos;holding [v] (truthy v))):bH n sc ρ e k:=.mk λw A ab s g S R V E=>
 wpAny_isTrue_value (bg (h.run w A ab s g S R V E) (λv aA ⟨aN,d,W,Z,H,b,h1,h2,h3,B⟩=>
  bg (IJ Z H h1 h2 h3 B) (λb aT q_=>by obtain⟨bb,G,C,B⟩:=q_;exact⟨bb,W.trans G,C,B⟩))) (f ab _)
def m5(n:Nat)(sc:bf)(ρ:ay)(op:pW):List au->(Bool->Prop)->Prop
 |[],k=>k (op==.And)
 |x::r,k=>bH n sc ρ x λb=>if (match op with|.And=>!b|.Or=>b) then k b else m5 n sc ρ op r k
theorem mn.back{m:Sem Bool}(N:Nx [] s g aA aN)(h:wpAny (model PG w) A m (mn w aA aN k) E aA):wpAny (model PG w) A m (mn w s g k) E aA:=bg h λb s' o=>by
 obtain⟨bb,V,Y,W⟩:=o
 exact⟨bb,N.trans V,Y,W⟩
theorem m5.ok{op:pW}{l:List au}(h:m5 n sc ρ op l k)(w:a9)(A:bN)(ab:Env)(s:av)(g:aY)(S:St w s g)(R:Rm n A)(V:c8 w s g ab sc ρ)(E:ai->av->Prop):
 wpAny (model PG w) A (allTrue op l ab) (mn w s g k) E s:=by
 induction l generalizing s g with
 |nil=>exact a8 (a:=op==.And) ⟨g,Nx.refl _ _ _,S,h⟩
 |cons x r H=>
  induction op with
  |And=>exact wpAny_allTrue_And_cons (bH.wp h S R V λb aA aN Y W Z=>by
   cases b with
   |false=>exact⟨aN,Y,W,Z⟩
   |true=>exact mn.back Y (H Z aA aN W (V.step Y S)))
  |Or=>exact wpAny_allTrue_Or_cons (bH.wp h S R V λb aA aN Y W Z=>by
   cases b with
   |true=>exact⟨aN,Y,W,Z⟩
   |false=>exact mn.back Y (H Z aA aN W (V.step Y S)))
theorem bH.Yj{op:pW}{l:List au}(h:m5 n sc ρ op l k):bH n sc ρ (.BoolOp op l aM) k:=.mk λw A ab s g S R V E=>
 wpAny_isTrue_BoolOp (h.ok w A ab s g S R V E)
end
section
variable {n:Nat} {sc:bf} {ρ:ay} {k:D->Prop}
theorem bF.sub{i j:Int}(V:k (.int (i-j))):bF n .Sub (.int i) (.int j) k:=.mk λw A s g v u S R Y W E=>by
 refine Y.b9 λt=>?_;refine W.b9 λZ=>?_
 exact PySem.P.sub_int (Out.toks S (.int _ _) V)
theorem bF.mul{i j:Int}(V:xm i j)(Y:k (.int (i*j))):bF n .Mult (.int i) (.int j) k:=.mk λw A s g v u S R W Z E=>by
 refine W.b9 λt=>?_;refine Z.b9 λH=>?_
 exact PySem.P.mul_int (Out.toks S (.int _ _) Y) V
theorem bF.mod{i j:Int}(V:j≠0)(Y:k (.int (i.fmod j))):bF n .Mod (.int i) (.int j) k:=.mk λw A s g v u S R W Z E=>by
 refine W.b9 λt=>?_;refine Z.b9 λH=>?_
 exact aea V (Out.toks S (.int _ _) Y)
theorem bF.fdiv{i j:Int}(V:j≠0)(Y:Ey i j=aH)(W:k (.int (i.fdiv j))):bF n .FloorDiv (.int i) (.int j) k:=.mk λw A s g v u S R Z H E=>by
 refine Z.b9 λt=>?_;refine H.b9 λG=>?_
 exact adU V (Out.toks S (.int _ _) W) (.inl Y)
theorem bF.shl{i j:Int}(W:0<=j)(V:j<=1000000)(Y:i.natAbs<2^64)(Z:k (.int (i*2^j.toNat))):bF n .LShift (.int i) (.int j) k:=.mk λw A s g v u S R H G E=>by
 refine H.b9 λt=>?_;refine G.b9 λC=>?_
 exact adO W V Y (Out.toks S (.int _ _) Z)
theorem bF.ab6{i j:Int}(Y:0<=j)(V:(fA i:Int)+j<=2^27)(W:k (.int (i*2^j.toNat))):bF n .LShift (.int i) (.int j) k:=.mk λw A s g v u S R Z H E=>by
 refine Z.b9 λt=>?_;refine H.b9 λG=>?_
 exact ad4 Y V (Out.toks S (.int _ _) W)
theorem bF.shr{i j:Int}(V:0<=j)(Y:k (.int (i.fdiv (2^j.toNat)))):bF n .RShift (.int i) (.int j) k:=.mk λw A s g v u S R W Z E=>by
 refine W.b9 λt=>?_;refine Z.b9 λH=>?_
 exact ad5 V (Out.toks S (.int _ _) Y)
theorem bF.band{i j:Int}(V:k (.int (Qt i j))):bF n .BitAnd (.int i) (.int j) k:=.mk λw A s g v u S R Y W E=>by
 refine Y.b9 λt=>?_;refine W.b9 λZ=>?_
 exact aeb (Out.toks S (.int _ _) V)
theorem bF.bxor{i j:Int}(V:k (.int (Qu i j))):bF n .BitXor (.int i) (.int j) k:=.mk λw A s g v u S R Y W E=>by
 refine Y.b9 λt=>?_;refine W.b9 λZ=>?_
 exact aec (Out.toks S (.int _ _) V)
theorem Str.len0(h:(x.length==0)=ae):x=⟨#[]⟩:=by
 obtain⟨c⟩:=x
 have:c.size=0:=by simpa[iy] using h
 exact aQ _ (Array.size_eq_zero_iff.mp this)
set_option tactic.hygienic true in
theorem bF.ab7(hl:x.length+y.length<=sizeLine)(V:k (.str (x++y))):bF n .Add (.str x) (.str y) k:=.mk λw A s g v u S R W Z E=>by
 refine W.dB λt=>?_;refine Z.dB λH=>?_
 refine PySem.P.add_str ?_
 split
 ·rename_i Y
  have e:=Str.len0 Y;subst e
  have e:(⟨#[]⟩:Str)++y=y:=by show Str.mk (#[]++y.cps)=y;simp
  exact Out.same S (.str _ _) (e▸V)
 ·split
  ·rename_i Y
   have e:=Str.len0 Y;subst e
   have e:x++(⟨#[]⟩:Str)=x:=by rfl
   exact Out.same S (.str _ _) (e▸V)
  ·exact⟨by rw[strLen_append];exact hl,Out.toks S (.str _ _) V⟩
theorem Out.newList(S:St w s g)(h:aP w g af.toList l)(V:k (.lst l)):
 Out w s g k (.ref s.heap.objs.size) {s with heap:=s.heap.push {cls:=aK "list",data:=.seq af},toks:=tk}:=by
 refine(S.alloc (o:={cls:=aK "list",data:=.seq af}) (tk:=tk) rfl (by simp)).elim λN Y=>?_
 exact⟨_,_,N,Y,.lst _ 0 af l (g5 _ _ _) h.1 λi v d W Z=>(h.2 i v d W Z).mono N.gg,V⟩
theorem Out.Ko(S:St w s g)(h:aP w g af.toList l)(V:k (.tup l)):
 Out w s g k (.ref s.heap.objs.size) {s with heap:=s.heap.push {cls:=aK "tuple",data:=.seq af},toks:=tk}:=by
 refine(S.alloc (o:={cls:=aK "tuple",data:=.seq af}) (tk:=tk) rfl (by simp)).elim λN Y=>?_
 exact⟨_,_,N,Y,.tup _ 0 af l (g5 _ _ _) h.1 λi v d W Z=>(h.2 i v d W Z).mono N.gg,V⟩
theorem bF.ab8{m:List D}(hl:l.length+m.length<=sizeLine)(W:k (.lst (l++m))):bF n .Add (.lst l) (.lst m) k:=.mk λw A s g v u S R Z H E=>by
 refine Z.ka λa B i1 G V=>?_
 refine H.ka λb f i2 C Y=>?_
 refine PySem.P.add_list (S.sub _ _ G) (S.sub _ _ C) (Out.newList (tk:=s.toks) S ?_ W) ?_
 ·rw[zy];exact V.append Y
 ·have:=V.1;have:=Y.1;simp at*;exact LY (by assumption) (by assumption) (by assumption)
theorem FY(af:Array ai)(c:Nat):(rs (λY W=>Y++W) #[] (gL c af)).toList=(gL c af.toList).flatten:=by
 have:∀(c:Nat) (V:Array ai),(rs (λY W=>Y++W) V (gL c af)).toList=V.toList++(gL c af.toList).flatten:=by
  intro c
  induction c with
  |zero=>intro V;simp
  |succ c Z=>intro V;simp only[zz,iw,Z];simp[zz]
 rw[this];rfl
theorem aP.replicate{ds:List D}(h:aP w g vs ds)(c:Nat):aP w g (gL c vs).flatten (gL c ds).flatten:=by
 induction c with
 |zero=>exact aP.nil
 |succ c V=>simp only[zz,zz,v_,v_];exact h.append V
theorem GO{l:ag}{k:Nat}{x:Int}{u:Tok}
 (hl:s.heap.get? l=aa {cls:=aK "list",data:=.seq af k})(W:-(2^63:Int)<=x)(Z:x<2^63)(V:af.size*x.toNat<=2^24)
 (h:Q (.ref s.heap.objs.size) {s with heap:=s.heap.push {cls:=aK "list",data:=.seq (rs (λH G=>H++G) #[] (gL (if af.isEmpty=ae then 0 else x.toNat) af))}}):
 wpAny (model fS w) A (binaryOp .Mult (.ref l) (.int x u)) Q E s:=by
 have Y:s.TypeIs (.ref l) "list":=⟨_,hl,rfl⟩
 refine wpAny_binaryOp_repeat_ref (T:="list") (U:="int") (rfl) Y (λs'=>wS s' x u) noFill_list_mul F.fills_int_mul F.slot_int_rmul repeat_list F.slot_int_index.lookup ?_
 exact pB F.slot_int_rmul (wS s x u) F.entry_int_rmul (F.args_int_rmul_2 _ _) (int___rmul___int_list x u l af k) ⟨hl,rfl,Y,pB F.slot_list_mul Y F.entry_list_mul (F.args_list_mul_2 _ _) (AutoListH.list___mul___list_int_3 l af k x u (by simp[vI];exact K_ (by assumption) (by assumption)) (by exact ZR (by assumption)) (by simp[zj,sizeLine];exact aD V (bv _))) ⟨hl,h⟩⟩
theorem bF.mulL{j:Int}(V:-(2^63:Int)<=j)(Y:j<2^63)(hl:l.length*j.toNat<=2^24)(G:k (.lst (gL j.toNat l).flatten)):bF n .Mult (.lst l) (.int j) k:=.mk λw A s g v u S R C B E=>by
 refine C.ka λa n1 i1 f W=>?_
 refine B.b9 λt=>?_
 have hs:i1.size=l.length:=by have:=W.1;exact this
 refine GO (S.sub _ _ f) V Y (by exact hs▸hl) (Out.newList (tk:=s.toks) S ?_ G)
 rw[FY]
 by_cases Z:i1.isEmpty=ae
 ·rw[bo Z]
  have:i1.toList=[]:=by simpa using Z
  have H:l=[]:=by exact lL.mp (this▸W).1.symm
  subst H
  have:(gL j.toNat ([]:List D)).flatten=[]:=by simp
  simp only[this];exact aP.nil
 ·rw[be Z];exact W.replicate _
structure mw(n:Nat)(op:xE)(a:D)(k:D->Prop):Prop where
 run:∀(w:a9) (A:bN) (s:av) (g:aY) (v:ai),St w s g->Rm n A->Rep w g v a->∀E,wpAny (model PG w) A (unaryOp op v) (Out w s g k) E s
theorem aj.un{op:xE}{x:au}(h:aj n sc ρ x λa=>mw n op a k):aj n sc ρ (.UnaryOp op x aM) k:=.mk λw A ab s g S R V E=>
 wpAny_UnaryOp (bg (h.run w A ab s g S R V E) (λv aA ⟨aN,a,Y,W,Z,H⟩=>
  Out.back Y (H.run w A aA aN v W R Z E)))
theorem mw.neg{i:Int}(V:k (.int (-i))):mw n .USub (.int i) k:=.mk λw A s g v S R Y E=>by
 refine Y.b9 λt=>?_
 exact aed (Out.toks S (.int _ _) V)
theorem mw.inv{i:Int}(V:k (.int (Qv i))):mw n .Invert (.int i) k:=.mk λw A s g v S R Y E=>by
 refine Y.b9 λt=>?_
 exact ad6 (Out.toks S (.int _ _) V)
theorem aj.neg{i:Int}(V:k (.int (-i))):aj n sc ρ (.UnaryOp .USub (jH (.int i) c p) aM) k:=aj.un (aj.int (mw.neg V))
theorem aj.CK{t b o:au}(h:bH n sc ρ t λc=>if c then aj n sc ρ b k else aj n sc ρ o k):aj n sc ρ (.IfExp t b o aM) k:=.mk λw A ab s g S R V E=>
 GV (bg (h.run w A ab s g S R V E) (λc aA H=>by
  obtain⟨aN,Y,W,Z⟩:=H
  induction c with
  |true=>exact Out.back Y (Z.run w A ab aA aN W R (V.step Y S) E)
  |false=>exact Out.back Y (Z.run w A ab aA aN W R (V.step Y S) E)))
theorem aj.ab9{x y:au}(h:aj n sc ρ x λd=>∃b,d=.bool b/\if b then aj n sc ρ y k else k (.bool aH)):aj n sc ρ (.BoolOp .And [x,y] aM) k:=.mk λw A ab s g S R V E=>
 wpAny_And2 (bg (h.run w A ab s g S R V E) (λv aA G=>by
  obtain⟨aN,d,Y,W,H,b,C,Z⟩:=G
  subst C
  have e:=H.bool_inv;subst e
  refine nJ ?_
  induction b with
  |true=>exact Out.back Y (Z.run w A ab aA aN W R (V.step Y S) E)
  |false=>exact⟨aN,_,Y,W,.bool _,Z⟩))
theorem aj.or2{x y:au}(h:aj n sc ρ x λd=>∃b,d.truth=aa b/\(∀x,d=.str x->x.length<2^63)/\(∀x,d=.lst x->x.length<2^63)/\if b then k d else aj n sc ρ y k):aj n sc ρ (.BoolOp .Or [x,y] aM) k:=.mk λw A ab s g S R V E=>
 wpAny_Or2 (bg (h.run w A ab s g S R V E) (λv aA B=>by
  obtain⟨aN,d,W,Z,H,b,f,h2,h3,G⟩:=B
  refine bg (IJ (k:=λc=>c=b) Z H f h2 h3 rfl) (λc aT ⟨bb,Y,C,hc⟩=>?_)
  subst hc
  induction c with
  |true=>exact⟨bb,d,W.trans Y,C,H.mono Y.gg,G⟩
  |false=>exact Out.back (W.trans Y) (G.run w A ab aT bb C R ((V.step W S).step Y Z) E)))
inductive acd(w:a9)(s:av)(g:aY)(k:List D->Prop)(vs:List ai)(s':av):Prop
 |mk (g' ds:_) (N:Nx [] s g s' g') (S:St w s' g') (R:aP w g' vs ds) (h:k ds)
def cn(n:Nat)(sc:bf)(ρ:ay):List au->(List D->Prop)->Prop
 |[],k=>k []
 |e::r,k=>aj n sc ρ e λd=>cn n sc ρ r λds=>k (d::ds)
noncomputable def cu(e:au):Bool:=!e.ctorIdx.beq 22
theorem nO{r:List au}(h:cu e=ae):starEach (e::r) ab=(aH,eval e ab)::starEach r ab:=
 cT h (by cases e<;>first|exact rfl|exact trivial)
theorem cn.ok:∀{l:List au} {k:List D->Prop},l.all cu=ae->cn n sc ρ l k->∀(w:a9) (A:bN) (ab:Env) (s:av) (g:aY) (aM:Pos),St w s g->Rm n A->c8 w s g ab sc ρ->∀E,
 wpAny (model PG w) A (spliced (backTo aM (starEach l ab))) (acd w s g k) E s:=by
 intro l_
 induction l_ with
 |nil=>
  intro k _ h w A ab s g aM S R V E
  exact spliced_nil ⟨g,[],Nx.refl _ _ _,S,aP.nil,h⟩
 |cons e r DS=>
  intro k ha h w A ab s g aM S R V E
  simp only[wB,bB] at ha
  refine qS (h.wp S R V λv aA aN d Y Z H G=>?_) (nO ha.1)
  exact bg (DS ha.2 G w A ab aA aN aM Z R (V.step Y S) E) (λvs aT q_=>by obtain⟨bb,ds,W,C,B,f⟩:=q_;exact⟨bb,d::ds,Y.trans W,C,aP.cons (H.mono W.gg) B,f⟩)
theorem cn.wp{l:List au}{k:List D->Prop}(Y:l.all cu=ae)(h:cn n sc ρ l k){Q:List ai->av->Prop}(S:St w s g)(R:Rm n A)(V:c8 w s g ab sc ρ)(f:∀vs s' g' ds,Nx [] s g s' g'->St w s' g'->aP w g' vs ds->k ds->Q vs s'):wpAny (model PG w) A (spliced (backTo aM (starEach l ab))) Q E s:=
 bg (cn.ok Y h w A ab s g aM S R V E) λv s' o=>by obtain⟨g',d,N,W,Z,H⟩:=o;exact f v s' g' d N W Z H
theorem cn.mono:∀{l:List au} {k k':List D->Prop},cn n sc ρ l k->(∀ds,k ds->k' ds)->cn n sc ρ l k':=by
 intro W
 induction W with
 |nil=>
  intro k k' h V
  exact V _ h
 |cons e r Y=>
  intro k k' h V
  exact aj.mono (k':=λd=>cn n sc ρ r λds=>k' (d::ds)) h λd hd=>Y hd λds h=>V _ h
theorem cn.len:∀{l:List au} {k:List D->Prop},cn n sc ρ l k->cn n sc ρ l λds=>ds.length=l.length/\k ds:=by
 intro Y
 induction Y with
 |nil=>
  intro k h
  exact⟨rfl,h⟩
 |cons e r V=>
  intro k h
  exact aj.mono (k':=λd=>cn n sc ρ r λds=>(d::ds).length=(e::r).length/\k (d::ds)) h λd hd=>cn.mono (V hd) λds h=>⟨aQ _ h.1,h.2⟩
theorem aj.tup{l:List au}(C:l.all cu=ae)(hl:l.length<=1000)(h:cn n sc ρ l λds=>k (.tup ds)):aj n sc ρ (b7 l c aM) k:=.mk λw A ab s g S R V E=>by
 refine zA (bg (cn.ok C h.len w A ab s g aM S R V E) (λvs aA ⟨aN,ds,W,Z,Y,H,G⟩=>⟨?_,?_⟩))
 ·rw[Y.1,H];have:sizeLine=2^24:=rfl;exact bd (aV hl (lT tT))
 ·exact(Out.Ko (tk:=aA.toks) Z (af:=vs.toArray) (by exact Y) G).trans W λ_ x=>x
theorem aj.lst{l:List au}(C:l.all cu=ae)(hl:l.length<=1000)(h:cn n sc ρ l λds=>k (.lst ds)):aj n sc ρ (.List l aM) k:=.mk λw A ab s g S R V E=>by
 refine Pk (bg (cn.ok C h.len w A ab s g aM S R V E) (λvs aA ⟨aN,ds,W,Z,Y,H,G⟩=>⟨?_,?_⟩))
 ·rw[Y.1,H];have:sizeLine=2^24:=rfl;exact bd (aV hl (lT tT))
 ·exact(Out.newList (tk:=aA.toks) Z (af:=vs.toArray) (by exact Y) G).trans W λ_ x=>x
structure b8(n:Nat)(a b:D)(k:D->Prop):Prop where
 run:∀(w:a9) (A:bN) (s:av) (g:aY) (v u:ai),St w s g->Rm n A->Rep w g v a->Rep w g u b->(∃T id,s.TypeIs v T/\mT (aK T) "__getitem__"=pure (aa (.builtin id)))/\
  ∀E,wpAny (model PG w) A (getItem v u) (Out w s g k) E s
theorem aj.sub{Y:au}(h:aj n sc ρ cX λa=>aj n sc ρ Y λb=>b8 n a b k)(hs:∀o i,GW Y aH o i=operate [o,i] (getItem o i)):aj n sc ρ (dN cX Y aM) k:=.mk λw A ab s g S R V E=>
 AJ (bg (h.run w A ab s g S R V E) (λv aA ⟨aN,a,W,H,G,C⟩=>
  bg (C.run w A ab aA aN H R (V.step W S) E) (λu aT q_=>by
   obtain⟨bb,b,Z,B,f,gd⟩:=q_
   obtain⟨⟨T,id,hT,hl⟩,jS⟩:=gd.run w A aT bb v u B R (G.mono Z.gg) f
   exact Bk hT hl (Out.back (W.trans Z) (jS E)) (hs _ _))))
theorem QY{i:Int}(h:lm i n=aa j):j<n/\((i<0/\j=(i+n).toNat/\0<=i+n)\/(0<=i/\j=i.toNat)):=by
 have e:lm i n=if (decide (0<=(if i<0 then i+n else i))&&decide ((if i<0 then i+n else i)<n))=ae then aa (if i<0 then i+n else i).toNat else ak:=rfl
 rw[e] at h
 by_cases hi:i<0
 ·rw[bo hi] at h
  by_cases V:(decide (0<=i+(n:Int))&&decide (i+(n:Int)<n))=ae
  ·rw[bo V] at h
   simp only[bB,decide_eq_true_eq] at V
   obtain rfl:=aW h
   exact⟨by exact LX (by assumption),.inl ⟨hi,rfl,V.1⟩⟩
  ·rw[be V] at h;exact ns h
 ·rw[be hi] at h
  by_cases V:(decide (0<=i)&&decide (i<(n:Int)))=ae
  ·rw[bo V] at h
   simp only[bB,decide_eq_true_eq] at V
   obtain rfl:=aW h
   exact⟨by exact LX (by assumption),.inr ⟨V.1,rfl⟩⟩
  ·rw[be V] at h;exact ns h
theorem b8.tup{i:Int}(V:-(2^63)<=i)(Y:i<2^63)(G:lm i l.length=aa j)(hd:l[j]?=aa d)(C:k d):b8 n (.tup l) (.int i) k:=.mk λw A s g v u S R B f=>by
 refine B.uh λa n1 i1 Z H=>?_
 refine f.b9 λt=>?_
 have hs:i1.size=l.length:=by have:=H.1;exact this
 refine(H.getD hd).elim λx W=>W.elim λhx rx=>?_
 exact⟨⟨"tuple",_,⟨_,S.sub _ _ Z,rfl⟩,slot_tuple_getitem.lookup⟩,λE=>adQ ⟨_,S.sub _ _ Z,rfl,_,rfl⟩ V Y (by exact hs▸G) (by simpa using hx) (Out.same S rx C)⟩
theorem b8.lst{i:Int}(Y:-(2^63)<=i)(W:i<2^63)(f:lm i l.length=aa j)(hd:l[j]?=aa d)(Z:k d):b8 n (.lst l) (.int i) k:=.mk λw A s g v u S R h1 h2=>by
 refine h1.ka λa n1 i1 H G=>?_
 refine h2.b9 λt=>?_
 have hs:i1.size=l.length:=by have:=G.1;exact this
 obtain⟨x,hx,C⟩:=G.getD hd
 have V:i1[j]?=aa x:=by simpa using hx
 refine⟨⟨"list",_,⟨_,S.sub _ _ H,rfl⟩,Fe.lookup⟩,λE=>?_⟩
 have B:s.heap.IsList a i1:=⟨_,S.sub _ _ H,rfl,_,rfl⟩
 rcases(QY f).2 with ⟨hi,rfl,h0⟩|⟨hi,rfl⟩
 ·exact wpAny_getItem_list_neg B hi (by rw[hs];exact ZT (by assumption)) Y (by exact hs▸V) (Out.same S C Z)
 ·exact wpAny_getItem_list B hi W V (Out.same S C Z)
theorem b8.str{i:Int}(V:-(2^63)<=i)(Y:i<2^63)(W:lm i x.length=aa j)(hd:x.cps[j]?=aa c)(Z:k (.str ⟨#[c]⟩)):b8 n (.str x) (.int i) k:=.mk λw A s g v u S R H G=>by
 refine H.dB λt=>?_
 refine G.b9 λC=>?_
 exact⟨⟨"str",_,nR s x t,F.slot_str_getitem.lookup⟩,λE=>PySem.P.getItem_str (by simp;exact K_ (by assumption) (by assumption)) (by exact W▸hd) (Out.toks S (.str _ _) Z)⟩
theorem GP{K:Type}{P:K->ai->Bool}{es:List dy}{l:List (K×D)}(W:es.length=l.length)(H:(l.map (·.1)).Nodup)
 (B:∀(i:Nat) (e:dy) (x:K) (d:D),es[i]?=aa e->l[i]?=aa (x,d)->∀y,P y e.key=ae<->y=x){i:Nat}{x:K}{d:D}(hi:l[i]?=aa (x,d)):∃e,es[i]?=aa e/\es.find? (λe=>P x e.key)=aa e:=by
 have V:i<l.length:=(ez.mp hi).1
 have Z:i<es.length:=W▸V
 refine⟨es[i],by simp[Z],?_⟩
 rw[List.find?_eq_some_iff_getElem]
 refine⟨(B i _ x d (by simp[Z]) hi x).mpr rfl,i,Z,rfl,λj f=>?_⟩
 have Y:j<l.length:=eO f V
 have G:j<es.length:=W▸Y
 have C:l[j]?=aa (l[j].1,l[j].2):=by simp[Y]
 induction q:P x es[j].key with
 |false=>rfl
 |true=>
  have h2:=ez.mp hi
  have e2:(l.map (·.1))[j]'(by simpa using Y)=(l.map (·.1))[i]'(by simpa using V):=by simp[<-((B j _ _ _ (by simp[G]) C x).mp q),h2.2]
  exact aZ ((List.nodup_iff_pairwise_ne.mp H|>N1.mp) j i (by simpa using Y) (by simpa using V) f e2) (by simp)
theorem Rep.JB{l:List (Str×D)}(h:Rep w g v (.cO l)):∃a n es,v=.ref a/\g a=aa {cls:=aK "dict",data:=.dict es n}/\es.toList.length=l.length/\((l.map (·.1)).Nodup/\a≠gp)/\
 (∀(i:Nat) (e:dy) (x:Str) (d:D),es.toList[i]?=aa e->l[i]?=aa (x,d)->(∃t,e.key=.str x t)/\e.hash=hashStr w x)/\
 (∀(i:Nat) (e:dy) (x:Str) (d:D),es.toList[i]?=aa e->l[i]?=aa (x,d)->Rep w g e.val d):=h.inv
theorem Rep.Wn{l:List (Int×D)}(h:Rep w g v (.eu l)):∃a n es,v=.ref a/\g a=aa {cls:=aK "dict",data:=.dict es n}/\es.toList.length=l.length/\((l.map (·.1)).Nodup/\a≠gp)/\
 (∀(i:Nat) (e:dy) (x:Int) (d:D),es.toList[i]?=aa e->l[i]?=aa (x,d)->(∃t,e.key=.int x t)/\e.hash=hashInt x)/\
 (∀(i:Nat) (e:dy) (x:Int) (d:D),es.toList[i]?=aa e->l[i]?=aa (x,d)->Rep w g e.val d):=h.inv
theorem rk{t:Tok}:gl y (.str x t)=ae<->y=x:=by
 exact beq_iff_eq.trans eq_comm
theorem isInt_iff{x y:Int}{t:Tok}:px y (.int x t)=ae<->y=x:=by
 constructor
 ·intro h;obtain⟨V,e⟩:=Ff h;cases e;rfl
 ·rintro rfl;simp[px]
theorem Tf{es:Array dy}{l:List (Str×D)}(ho:h.get? a=aa {cls:=aK "dict",data:=.dict es n})(V:es.toList.length=l.length)(Y:(l.map (·.1)).Nodup)
 (f:∀(i:Nat) (e:dy) (x:Str) (d:D),es.toList[i]?=aa e->l[i]?=aa (x,d)->(∃t,e.key=.str x t)/\e.hash=hashStr w x):
 h.MapOf (strKind PG w) a (findBy gl es)/\∀(i:Nat) (x:Str) (d:D),l[i]?=aa (x,d)->∃e,es.toList[i]?=aa e/\findBy gl es x=aa e.val:=by
 refine⟨⟨_,es,n,ho,⟨rfl,rfl,rfl⟩,rfl,λe he=>?_,λ_=>rfl⟩,λi x d hi=>?_⟩
 ·obtain⟨i,hi,rfl⟩:=zs.mp he
  have W:i<l.length:=by exact V▸hi
  refine(f i es[i] l[i].1 l[i].2 (by simp[hi]) (by simp[W])).elim λZ e2=>Z.elim λt H=>?_
  exact⟨l[i].1,by rw[H];exact(rk (t:=t)).mpr rfl,e2⟩
 ·refine(GP (P:=gl) V Y (λi e x d G C y=>by obtain⟨⟨t,H⟩,_⟩:=f i e x d G C;exact H▸rk) hi).elim λe B=>B.elim λG C=>?_
  refine⟨e,G,?_⟩
  unfold findBy
  rw[<-Pl,C];rfl
theorem Tg{es:Array dy}{l:List (Int×D)}(ho:h.get? a=aa {cls:=aK "dict",data:=.dict es n})(V:es.toList.length=l.length)(Y:(l.map (·.1)).Nodup)
 (f:∀(i:Nat) (e:dy) (x:Int) (d:D),es.toList[i]?=aa e->l[i]?=aa (x,d)->(∃t,e.key=.int x t)/\e.hash=hashInt x):
 h.MapOf (intKind PG w) a (findBy px es)/\∀(i:Nat) (x:Int) (d:D),l[i]?=aa (x,d)->∃e,es.toList[i]?=aa e/\findBy px es x=aa e.val:=by
 refine⟨⟨_,es,n,ho,⟨rfl,rfl,rfl⟩,rfl,λe he=>?_,λ_=>rfl⟩,λi x d hi=>?_⟩
 ·obtain⟨i,hi,rfl⟩:=zs.mp he
  have W:i<l.length:=by exact V▸hi
  refine(f i es[i] l[i].1 l[i].2 (by simp[hi]) (by simp[W])).elim λZ e2=>Z.elim λt H=>?_
  exact⟨l[i].1,by rw[H];exact(isInt_iff (t:=t)).mpr rfl,e2⟩
 ·refine(GP (P:=px) V Y (λi e x d G C y=>by obtain⟨⟨t,H⟩,_⟩:=f i e x d G C;exact H▸isInt_iff) hi).elim λe B=>B.elim λG C=>?_
  refine⟨e,G,?_⟩
  unfold findBy
  rw[<-Pl,C];rfl
theorem JC{l:List α}{x:α}(h:x∈l):∃i:Nat,l[i]?=aa x:=qC.mp h
theorem b8.cO{l:List (Str×D)}(hd:(x,d)∈l)(W:k d):b8 n (.cO l) (.str x) k:=.mk λw A s g v u S R Z H=>by
 refine ba λV=>?_
 obtain⟨a,n1,es,rfl,Y,G,⟨C,_⟩,B,f⟩:=Z.JB
 apply V
 refine H.dB λt=>?_
 refine(JC hd).elim λi hi=>?_
 refine ba λV=>?_
 obtain⟨M,hM⟩:=Tf (S.sub _ _ Y) G C B
 obtain⟨e,he,hf⟩:=hM i x d hi
 apply V
 exact⟨⟨"dict",_,⟨_,S.sub _ _ Y,rfl⟩,Fg.lookup⟩,λE=>Fv (knd:=strKind PG w) (show gl x (.str x t)=ae from rk.mpr rfl) M hf (Out.toks S (f i e x d he hi) W)⟩
theorem b8.eu{l:List (Int×D)}{x:Int}(hd:(x,d)∈l)(W:k d):b8 n (.eu l) (.int x) k:=.mk λw A s g v u S R Z H=>by
 refine ba λV=>?_
 obtain⟨a,n1,es,rfl,Y,G,⟨C,_⟩,B,f⟩:=Z.Wn
 apply V
 refine H.b9 λt=>?_
 refine(JC hd).elim λi hi=>?_
 refine ba λV=>?_
 obtain⟨M,hM⟩:=Tg (w:=w) (S.sub _ _ Y) G C B
 obtain⟨e,he,hf⟩:=hM i x d hi
 apply V
 exact⟨⟨"dict",_,⟨_,S.sub _ _ Y,rfl⟩,Fg.lookup⟩,λE=>Fv (knd:=intKind PG w) (show px x (.int x t)=ae from isInt_iff.mpr rfl) M hf (Out.toks S (f i e x d he hi) W)⟩
end
def dq(w:a9)(s:av)(g:aY)(mu:List ag):Prop:=∀a∈mu,sM w s g a
theorem dq.nil:dq w s g []:=fU
theorem sM.of(V:St w aw aE)(N:Nx mu aw aE s g)(M:dq w aw aE mu)(h:aw.heap.get? a=ak\/a∈mu)(H:g a=ak)(G:∃o,s.heap.get? a=aa o):sM w s g a:=by
 refine V.gB.elim λmg W=>?_
 have C:∀Y,s.heap.Ns eF Y->aw.heap.Ns eF Y:=λY e=>Jw W e λo q=>N.keep _ _ q (V.dQ q (.inr ((CI W).elim λo' B=>aW (B.1.symm.trans q)▸B.2))) λh=>(M _ h).gB rfl
 refine h.elim (λh=>?_) λh=>?_
 ·have Z:∀b m,aw.heap.Ns b m->a≠b:=λb m hn q=>(CI hn).elim λo e=>ns ((q▸h).symm.trans e.1)
  refine⟨H,G,?_,Z _ _ W,V.blt.elim λm q=>Z _ _ q.1,V.lim.elim λm q=>Z _ _ q.1,λY f e q1 q=>?_,λhT=>(V.tb hT).elim λps q=>q.elim λ_ q=>ns (h.symm.trans q.1)⟩
  ·induction q:(KH w).lookup a with
   |none=>rfl
   |some ob=>exact ns (h.symm.trans (V.df _ _ q))
  ·exact(V.bmain Y (C Y e)).elim λbm' r=>r.elim λob r=>ns ((tH (aW (q1.symm.trans r.1))▸q▸h).symm.trans r.2.2.1)
 ·have m:=M a h
  exact⟨H,G,m.df,m.gB,m.blt,m.lim,λY f e=>m.bm Y f (C Y e),m.tb⟩
theorem St.changes{mt:List ag}(Y:St w aw aE)(S:St w s g)(W:Nx mu aw aE s g)(M:dq w aw aE mu)(Z:∀a∈mt,(aw.heap.get? a=ak\/a∈mu)/\g a=ak/\∃o,s.heap.get? a=aa o/\cV o)
 (hs:∀b o,b∉mt->s.heap.get? b=aa o->h'.get? b=aa o):
 Nx mt s g {s with heap:=h',toks:=tk} g/\St w {s with heap:=h',toks:=tk} g:=by
 have N:Nx mt s g {s with heap:=h',toks:=tk} g:=⟨λb ob e _ V=>hs b ob V e,λb ob e V=>⟨ob,hs b ob V e⟩,λ_ _ e=>e,λ_ _ _ e _=>e,rfl⟩
 have E:∀b∈mt,sM w s g b:=λb V=>.of Y W M (Z b V).1 (Z b V).2.1 ((Z b V).2.2.elim λo q=>⟨o,q.1⟩)
 exact⟨N,S.step N (λb ob e=>hs b ob (λq=>ns ((Z b q).2.1.symm.trans e)) (S.sub _ _ e)) rfl (λP H ob e=>hs P ob (λq=>(E P q).tb H) e) λb V=>⟨E b V,λo e=>(Z b V).2.2.elim λG q=>aW (q.1.symm.trans e)▸q.2⟩⟩
theorem Nx.over{mt:List ag}(V:Nx mu aw aE s g)(N:Nx mt s g s' g')(Z:∀a∈mt,aw.heap.get? a=ak\/a∈mu):Nx mu aw aE s' g':=
 ⟨λb o e C B=>N.keep b o (V.keep b o e C B) C λq=>(Z b q).elim (λW=>by exact nomatch (W.symm.trans e)) B,λb o e Y=>(V.there b o e Y).elim λH G=>N.there b H G λq=>(Z b q).elim (λW=>by exact nomatch (W.symm.trans e)) Y,λa o e=>N.gg a o (V.gg a o e),
  λa o e h Y=>(V.there a o e Y).elim λH G=>N.old a H G (V.old a o e h Y) λq=>(Z a q).elim (λW=>by exact nomatch (W.symm.trans e)) Y,N.os.trans V.os⟩
structure bj(w:a9)(mu:List ag)(aw:av)(aE:aY)(s:av)(g:aY)(ab:Env)(sc:bf)(ρ:ay)(aB:Str->List ag):Prop where
 gT:St w aw aE
 fz:dq w aw aE mu
 st:St w s g
 nx:Nx mu aw aE s g
 kind:ab.scope.kind=fu
 glob:ab.globals=eF
 gv:ab.builtins=iO
 ks:∀x,KS (ab.kindOf x) (sc.names.lookup x)
 lam:∀c q,d5 sc=aa (c,q)->ab.code=.ref c/\ab.qual=q
 ik:g ab.locals=ak
 gE:∃m,s.heap.Ns ab.locals m
 iY:aw.heap.get? ab.locals=ak\/ab.locals∈mu
 cP:∀x c,ab.cells.lookup x=aa c->g c=ak/\(∃v,s.heap.IsCell c v)/\c≠ab.locals
 lw:∀x c,ab.cells.lookup x=aa c->sc.names.lookup x=aa .cell->aw.heap.get? c=ak\/c∈mu
 fg:∀x y c,ab.cells.lookup x=aa c->ab.cells.lookup y=aa c->x=y
 e8:∀x,sc.names.lookup x=aa .cell\/sc.names.lookup x=aa .free->∃c,ab.cells.lookup x=aa c
 var:∀x b,ρ.lookup x=aa b->∃v,fG s g ab x v/\cU w s g ab v (aB x) b
 dI:∀x b,ρ.lookup x=aa b->∀a∈aB x,((b.isFn=aH->aw.heap.get? a=ak\/a∈mu)/\∃o,s.heap.get? a=aa o)/\a≠ab.locals/\(∀y c,ab.cells.lookup y=aa c->c≠a)
 e9:∀x y b b',ρ.lookup x=aa b->ρ.lookup y=aa b'->b.isFn=aH->x≠y->∀a∈aB x,a∉aB y
section
variable {w:a9} {mu:List ag} {aw s s':av} {aE g g':aY} {ab:Env} {sc:bf} {ρ:ay} {aB:Str->List ag}
theorem bj.cI(A:bj w mu aw aE s g ab sc ρ aB):c8 w s g ab sc ρ:=⟨A.kind,A.glob,A.gv,A.ks,A.lam,A.e8,λx c h=>⟨(A.cP x c h).1,(A.cP x c h).2.1⟩,A.fg,λx b h=>(A.var x b h).elim λv V=>V.elim λY W=>⟨v,aB x,Y,W⟩⟩
theorem bj.step(A:bj w mu aw aE s g ab sc ρ aB)(N:Nx [] s g s' g')(B:St w s' g'):bj w mu aw aE s' g' ab sc ρ aB:=by
 refine A.gE.elim λm C=>?_
 obtain⟨oL,_,_,eL,dL,_⟩:=id C
 refine⟨A.gT,A.fz,B,A.nx.over N (fU),A.kind,A.glob,A.gv,A.ks,A.lam,N.old _ _ eL A.ik (by simp),⟨m,N.ns A.st C (by simp)⟩,A.iY,λx c h=>?_,A.lw,A.fg,A.e8,λx b h=>?_,λx b h a f=>?_,A.e9⟩
 ·refine(A.cP x c h).elim λW Z=>Z.elim λH h3=>H.elim λv Y=>?_
  obtain⟨o,e,d⟩:=id Y
  exact⟨N.old _ _ e W (by simp),⟨v,N.cell A.st Y (by simp)⟩,h3⟩
 ·obtain⟨v,W,Y⟩:=A.var x b h
  exact⟨v,W.step N A.st (ca) (by simp),Y.step N A.st (by simp) (by simp)⟩
 ·refine(A.dI x b h a f).elim λG q3=>G.elim λq1 V=>V.elim λo q2=>?_
  exact⟨⟨q1,N.there a o q2 (ca)⟩,q3⟩
theorem bj.weaken(A:bj w mu aw aE s g ab sc ρ aB)(h:∀x b,aC.lookup x=aa b->ρ.lookup x=aa b):bj w mu aw aE s g ab sc aC aB:=
 ⟨A.gT,A.fz,A.st,A.nx,A.kind,A.glob,A.gv,A.ks,A.lam,A.ik,A.gE,A.iY,A.cP,A.lw,A.fg,A.e8,λx b e=>A.var x b (h x b e),λx b e=>A.dI x b (h x b e),λx y b V e Y=>A.e9 x y b V (h x b e) (h y V Y)⟩
theorem KS.local{a:Option fP}(h:KS a (aa .local)):a=aa .local:=by
 rcases h with h|h
 ·exact h
 ·cases h.2
theorem KS.cell{a:Option fP}(h:KS a (aa .cell)):a=aa .cell:=by
 rcases h with h|h
 ·exact h
 ·exact h.1
theorem KS.glob{a:Option fP}(h:KS a (aa cj)):a=aa cj:=by
 rcases h with h|h
 ·exact h
 ·cases h.2
noncomputable def mine(sc:bf)(x:Str):Bool:=sc.names.lookup x==aa .local||sc.names.lookup x==aa .cell
theorem BW{a:Option fP}(h:(a==aa .local||a==aa .cell)=ae):a=aa .local\/a=aa .cell:=by
 induction a with
 |none=>simp at h
 |some k=>rcases k with _<;>simp_all
theorem lookup_cons_self{b:Bd}:jb x ((x,b)::ρ)=aa b:=by simp
theorem fj{b:Bd}(h:y≠x):jb y ((x,b)::ρ)=ρ.lookup y:=by
 refine iu.trans ?_
 have:(y==x)=aH:=beq_eq_false_iff_ne.mpr h
 rw[this]
theorem bj.change{mt:List ag}{b b':Bd}{io:List ag}(A:bj w mu aw aE s g ab sc ρ aB)(hx:ρ.lookup x=aa b)(hf:b.isFn=aH)(hf':b'.isFn=aH)(N:Nx mt s g s' g')(S':St w s' g')(C:∀a∈mt,a∈aB x)
 (hmg:∀a∈mt,∀o,s.heap.get? a=aa o->cV o)
 (hr:∀v,fG s g ab x v->cU w s g ab v (aB x) b->cU w s' g' ab v io b')(B:∀a∈io,a∈aB x\/s.heap.get? a=ak):bj w mu aw aE s' g' ab sc ((x,b')::ρ) (λy=>if y=x then io else aB y):=by
 have own:∀a∈aB x,(aw.heap.get? a=ak\/a∈mu)/\a≠ab.locals/\(∀y c,ab.cells.lookup y=aa c->c≠a):=λa h=>by
  obtain⟨⟨q1,_⟩,q2⟩:=A.dI x b hx a h
  exact⟨q1 hf,q2⟩
 obtain⟨m,sN⟩:=A.gE
 obtain⟨oL,_,_,eL,dL,_⟩:=id sN
 have Lm:ab.locals∉mt:=λh=>(own _ (C _ h)).2.1 rfl
 have cm:∀x c,ab.cells.lookup x=aa c->c∉mt:=λx c h q=>(own _ (C _ q)).2.2 x c h rfl
 have new:∀a,s.heap.get? a=ak->aw.heap.get? a=ak\/a∈mu:=λa e=>by
  by_cases C:a∈mu
  ·exact .inr C
  ·induction q:aw.heap.get? a with
   |none=>exact .inl rfl
   |some o=>obtain⟨o',e'⟩:=A.nx.there a o q C;exact ns (e.symm.trans e')
 have H:∀y v,fG s g ab y v->fG s' g' ab y v:=λy v h=>by
  rcases h with ⟨Z,Y,m,h3,h4⟩|⟨Z,c,Y,h3,h4⟩
  ·obtain⟨o,_,_,e,_⟩:=id h3
   exact .inl ⟨Z,N.old _ _ e Y Lm,m,N.ns A.st h3 Lm,h4⟩
  ·obtain⟨o,e,_⟩:=id h4
   exact .inr ⟨Z,c,Y,N.old _ _ e h3 (cm _ _ Y),N.cell A.st h4 (cm _ _ Y)⟩
 refine⟨A.gT,A.fz,S',A.nx.over N λa h=>(own a (C a h)).1,A.kind,A.glob,A.gv,A.ks,A.lam,N.old _ _ eL A.ik Lm,⟨m,N.ns A.st sN Lm⟩,A.iY,λy c h=>?_,A.lw,A.fg,A.e8,λy c h=>?_,λy c h a V=>?_,λy z c c' h h' hc G a V=>?_⟩
 ·obtain⟨Z,⟨v,Y⟩,h3⟩:=A.cP y c h
  obtain⟨o,e,d⟩:=id Y
  exact⟨N.old _ _ e Z (cm _ _ h),⟨v,N.cell A.st Y (cm _ _ h)⟩,h3⟩
 ·by_cases W:y=x
  ·subst W
   rw[lookup_cons_self] at h;obtain rfl:=aW h
   obtain⟨v,Z,Y⟩:=A.var y b hx
   exact⟨v,H _ _ Z,by simp only[if_true];exact hr v Z Y⟩
  ·replace h:=(fj W)▸h
   obtain⟨u,Z,Y⟩:=A.var y c h
   refine⟨u,H _ _ Z,?_⟩
   exact(be W)▸(Y.step N A.st (λa hay f=>A.e9 x y b c hx h hf (Ne.symm W) a (C a f) hay) λ_ a f=>hmg a f)
 ·by_cases W:y=x
  ·subst W
   rw[lookup_cons_self] at h;obtain rfl:=aW h
   simp only[if_true] at V
   obtain⟨v,Z,Y⟩:=A.var y b hx
   refine⟨⟨λ_=>?_,cU.there S' (hr v Z Y) hf' a V⟩,?_⟩
   ·rcases B a V with q|q
    ·exact(own a q).1
    ·exact new a q
   ·rcases B a V with q|q
    ·exact(own a q).2
    ·refine⟨λe=>?_,λz c hz e=>?_⟩
     ·rw[e,eL] at q;exact sn q
     ·obtain⟨_,⟨_,o,e',_⟩,_⟩:=A.cP z c hz
      rw[e,q] at e';exact ns e'
  ·rw[fj W] at h
   rw[be W] at V
   refine(A.dI y c h a V).elim λDd q3=>Dd.elim λq1 ace=>ace.elim λo q2=>?_
   exact⟨⟨q1,N.there a o q2 λhmt=>A.e9 x y b c hx h hf (Ne.symm W) a (C a hmt) V⟩,q3⟩
 ·have qp:∀z c',z≠x->ρ.lookup z=aa c'->∀a∈io,a∉aB z:=λz c' hz h' a V Nt=>by
   rcases B a V with q|q
   ·exact A.e9 x z b c' hx h' hf (Ne.symm hz) a q Nt
   ·obtain⟨⟨_,o,e⟩,_⟩:=A.dI z c' h' a Nt
    exact ns (q.symm.trans e)
  by_cases W:y=x
  ·subst W
   rw[lookup_cons_self] at h;obtain rfl:=aW h
   simp only[if_true] at V
   exact(be (Ne.symm G))▸(qp z c' (Ne.symm G) ((fj (Ne.symm G)).symm.trans h') a V)
  ·rw[fj W] at h
   rw[be W] at V
   by_cases hz:z=x
   ·subst hz
    simp only[if_true]
    exact λq=>qp y c W h a q V
   ·exact(be hz)▸(A.e9 y z c c' h ((fj hz).symm.trans h') hc G a V)
theorem bj.Cg{n:Nat}{b:Bd}{ad:List ag}(A:bj w mu aw aE s g ab sc ρ aB)(hx:mine sc x=ae)(hb:cU w s g ab v ad b)
 (ha:∀a∈ad,((b.isFn=aH->aw.heap.get? a=ak\/a∈mu)/\∃o,s.heap.get? a=aa o)/\(a≠ab.locals/\∀y c,ab.cells.lookup y=aa c->c≠a)/\∀y b',ρ.lookup y=aa b'->(b.isFn=aH\/b'.isFn=aH)->y≠x->a∉aB y)
 {Q:Unit->av->Prop}(hQ:∀s',(∃h tk,s'={s with heap:=h,toks:=tk})->bj w mu aw aE s' g ab sc ((x,b)::ρ) (λy=>if y=x then ad else aB y)->(∀u d c,cU w s g ab u d c->(∀a∈d,a≠ab.locals/\∀y c',ab.cells.lookup y=aa c'->c'≠a)->cU w s' g ab u d c)->(∀a o,s.heap.get? a=aa o->a≠ab.locals->(∀y c',ab.cells.lookup y=aa c'->c'≠a)->s'.heap.get? a=aa o)->Q () s')(E:ai->av->Prop):
 wpAny (model PG w) A' (rC ab x v) Q E s:=by
 have finish:∀(i8:ag) (o:Obj) (h':dp) (tk:Nat),(aw.heap.get? i8=ak\/i8∈mu)->g i8=ak->s.heap.get? i8=aa o->(∀vs,o.data≠bC vs)->kI i8 s.heap h'->(∃o',h'.get? i8=aa o')->
  (i8=ab.locals\/∃y,ab.cells.lookup y=aa i8)->(∃m,h'.Ns ab.locals m)->(∀y c,ab.cells.lookup y=aa c->∃v,h'.IsCell c v)->
  fG {s with heap:=h',toks:=tk} g ab x v->(∀y u,y≠x->fG s g ab y u->fG {s with heap:=h',toks:=tk} g ab y u)->bj w mu aw aE {s with heap:=h',toks:=tk} g ab sc ((x,b)::ρ) (λy=>if y=x then ad else aB y)/\(∀u d c,cU w s g ab u d c->(∀a∈d,a≠ab.locals/\∀y c',ab.cells.lookup y=aa c'->c'≠a)->cU w {s with heap:=h',toks:=tk} g ab u d c)/\(∀a o,s.heap.get? a=aa o->a≠ab.locals->(∀y c',ab.cells.lookup y=aa c'->c'≠a)->h'.get? a=aa o):=by
  intro i8 o h' tk t1 t2 t3 t5 t6 t7 t8 t11 t12 t13 t14
  refine(St.changes (mt:=[i8]) (h':=h') (tk:=tk) A.gT A.st A.nx A.fz (λa h=>by
   have:a=i8:=a_.1 h
   subst this;exact⟨t1,t2,o,t3,cV.of t5⟩) (λb ob hb e=>(t6.2 b (by simpa using hb)).trans e)).elim λN S'=>?_
  have V:∀a,(a≠ab.locals/\∀y c,ab.cells.lookup y=aa c->c≠a)->a≠i8:=λa h q=>by
   rcases t8 with e|⟨y,e⟩
   ·exact h.1 (q.trans e)
   ·exact h.2 y i8 e q.symm
  have rb:∀{u:ai} {d:List ag} {c:Bd},cU w s g ab u d c->(∀a∈d,a≠i8)->cU w {s with heap:=h',toks:=tk} g ab u d c:=λh hd=>h.step N A.st (λa B=>by simpa using hd a B) (λ_ a B ob e1=>by
   have:a=i8:=a_.1 B
   subst this;rw[t3] at e1;obtain rfl:=aW e1;exact cV.of t5)
  refine⟨?_,λu d c h hd=>rb h λa sY=>V a (hd a sY),λa o e C Z=>(t6.2 a (V a ⟨C,Z⟩)).trans e⟩
  refine⟨A.gT,A.fz,S',A.nx.over N (λa h=>by
   have:a=i8:=a_.1 h
   subst this;exact t1),A.kind,A.glob,A.gv,A.ks,A.lam,A.ik,t11,A.iY,λy c h=>?_,A.lw,A.fg,A.e8,λy c h=>?_,λy c h a Y=>?_,λy z c c' h h' f y7 a Y=>?_⟩
  ·obtain⟨C,Z,h3⟩:=A.cP y c h
   exact⟨C,t12 y c h,h3⟩
  ·by_cases H:y=x
   ·subst H
    replace h:=lookup_cons_self▸h;obtain rfl:=aW h
    refine⟨v,t13,?_⟩
    simp only[if_true]
    exact rb hb λa h=>V a (ha a h).2.1
   ·replace h:=(fj H)▸h
    obtain⟨u,C,Z⟩:=A.var y c h
    refine⟨u,t14 y u H C,?_⟩
    rw[be H]
    exact rb Z λa B=>V a (A.dI y c h a B).2
  ·by_cases H:y=x
   ·subst H;simp only[if_true] at Y
    rw[lookup_cons_self] at h;obtain rfl:=aW h
    refine ba λN_=>?_
    obtain⟨⟨q1,o,q2⟩,q3,_⟩:=ha a Y
    apply N_
    exact⟨⟨q1,o,(t6.2 a (V a q3)).trans q2⟩,q3⟩
   ·rw[fj H] at h;rw[be H] at Y
    refine(A.dI y c h a Y).elim λvk q3=>vk.elim λq1 lG=>lG.elim λo q2=>?_
    exact⟨⟨q1,o,(t6.2 a (V a q3)).trans q2⟩,q3⟩
  ·by_cases H:y=x
   ·subst H
    rw[lookup_cons_self] at h;obtain rfl:=aW h
    simp only[if_true] at Y
    exact(be (Ne.symm y7))▸((ha a Y).2.2 z c' ((fj (Ne.symm y7)).symm.trans h') (.inl f) (Ne.symm y7))
   ·rw[fj H] at h
    rw[be H] at Y
    by_cases hz:z=x
    ·subst hz
     simp only[if_true]
     intro B
     exact(ha a B).2.2 y c h (.inr f) H Y
    ·rw[fj hz] at h'
     rw[be hz];exact A.e9 y z c c' h h' f y7 a Y
 obtain⟨m,B⟩:=A.gE
 rcases BW hx with hk|hk
 ·have kY:=KS.local (hk▸A.ks x)
  refine ba λN_=>?_
  obtain⟨oL,es,ep,eL,dL,rL⟩:=id B
  apply N_
  refine wpAny_storeName_local kY B (λh' G W=>?_) (by rw[A.kind];rfl)
  have dk:=finish ab.locals oL h' (s.toks+1) A.iY A.ik eL (λvs q=>by cases dL.symm.trans q) W (G.elim λo q_=>q_.elim λ_ q_=>q_.elim λ_ q_=>q_.elim λe _=>⟨o,e⟩) (.inl rfl) ⟨_,G⟩ (λy c h=>?_) (.inl ⟨kY,A.ik,_,G,by simp⟩) (λy u H h=>?_)
  ·exact hQ _ ⟨_,_,rfl⟩ dk.1 dk.2.1 dk.2.2
  ·obtain⟨_,⟨v,Z⟩,h3⟩:=A.cP y c h
   exact⟨v,Z.sameBut W h3⟩
  ·rcases h with ⟨C,Z,m',h3,h4⟩|⟨C,c,Z,h3,h4⟩
   ·refine .inl ⟨C,Z,_,G,?_⟩
    have e:m' y=m y:=by
     obtain⟨o1,es1,ep1,e1,d1,_,f1⟩:=h3
     obtain⟨o2,sO,ep2,e2,d2,_,f2⟩:=B
     rw[e1] at e2;obtain rfl:=aW e2
     replace d2:=d1▸d2;cases d2
     simp only[<-f1,<-f2]
    simp only[be H,<-e,h4]
   ·exact .inr ⟨C,c,Z,h3,h4.sameBut W (A.cP _ _ Z).2.2⟩
 ·have y8:=KS.cell (hk▸A.ks x)
  refine(A.e8 x (.inl hk)).elim λc f=>?_
  obtain⟨c1,⟨v₀,c2⟩,c3⟩:=A.cP x c f
  have ⟨oc,ec,dc⟩:=id c2
  refine wpAny_storeName_cell A.kind y8 f c2 (λh' G W=>?_)
  have dk:=finish c oc h' s.toks (A.lw x c f hk) c1 ec (λvs q=>by cases dc.symm.trans q) W (G.elim λo q_=>q_.elim λe _=>⟨o,e⟩) (.inr ⟨x,f⟩) ⟨m,B.sameBut W (Ne.symm c3)⟩ (λy c' h=>?_) (.inr ⟨.inl y8,c,f,c1,G⟩) (λy u H h=>?_)
  ·exact(hQ {s with heap:=h',toks:=s.toks} ⟨h',s.toks,rfl⟩) dk.1 dk.2.1 dk.2.2
  ·by_cases hq:c'=c
   ·subst hq;exact⟨_,G⟩
   ·refine(A.cP y c' h).elim λ_ acf=>acf.elim λacg _=>acg.elim λv Z=>?_
    exact⟨v,Z.sameBut W hq⟩
  ·rcases h with ⟨C,Z,m',h3,h4⟩|⟨C,c',Z,h3,h4⟩
   ·exact .inl ⟨C,Z,m',h3.sameBut W (Ne.symm c3),h4⟩
   ·refine .inr ⟨C,c',Z,h3,h4.sameBut W λq=>H ?_⟩
    subst q
    exact A.fg y x _ Z f
theorem bj.store{n:Nat}{b:Bd}{ad:List ag}(A:bj w mu aw aE s g ab sc ρ aB)(V:mine sc x=ae)(Y:cU w s g ab v ad b)
 (W:∀a∈ad,((b.isFn=aH->aw.heap.get? a=ak\/a∈mu)/\∃o,s.heap.get? a=aa o)/\(a≠ab.locals/\∀y c,ab.cells.lookup y=aa c->c≠a)/\∀y b',ρ.lookup y=aa b'->(b.isFn=aH\/b'.isFn=aH)->y≠x->a∉aB y)
 {Q:Unit->av->Prop}(Z:∀s',(∃h tk,s'={s with heap:=h,toks:=tk})->bj w mu aw aE s' g ab sc ((x,b)::ρ) (λy=>if y=x then ad else aB y)->Q () s')(E:ai->av->Prop):
 wpAny (model PG w) A' (rC ab x v) Q E s:=A.Cg (n:=n) V Y W (λs' e H _ _=>Z s' e H) E
theorem bj.ach{mt:List ag}(A:bj w mu aw aE s g ab sc ρ aB)(N:Nx mt s g s' g')(S':St w s' g')(hm:∀a∈mt,aw.heap.get? a=ak\/a∈mu)(C:ab.locals∉mt)(B:∀x c,ab.cells.lookup x=aa c->c∉mt)
 (hR:∀x b,ρ.lookup x=aa b->∀a∈aB x,a∉mt)(hN:∀a∈mt,∀o,s.heap.get? a=aa o->cV o):bj w mu aw aE s' g' ab sc ρ aB:=by
 obtain⟨m,Z⟩:=A.gE
 obtain⟨oL,_,_,eL,dL,_⟩:=id Z
 have Y:∀y v,fG s g ab y v->fG s' g' ab y v:=λy v h=>by
  rcases h with ⟨W,V,m,h3,f⟩|⟨W,c,V,h3,f⟩
  ·obtain⟨o,_,_,e,_⟩:=id h3
   exact .inl ⟨W,N.old _ _ e V C,m,N.ns A.st h3 C,f⟩
  ·obtain⟨o,e,_⟩:=id f
   exact .inr ⟨W,c,V,N.old _ _ e h3 (B _ _ V),N.cell A.st f (B _ _ V)⟩
 refine⟨A.gT,A.fz,S',A.nx.over N hm,A.kind,A.glob,A.gv,A.ks,A.lam,N.old _ _ eL A.ik C,⟨m,N.ns A.st Z C⟩,A.iY,λy c h=>?_,A.lw,A.fg,A.e8,λy c h=>?_,λy c h a ha=>?_,A.e9⟩
 ·obtain⟨W,⟨v,V⟩,h3⟩:=A.cP y c h
  have ⟨o,e,d⟩:=id V
  exact⟨N.old _ _ e W (B _ _ h),⟨v,N.cell A.st V (B _ _ h)⟩,h3⟩
 ·obtain⟨u,W,V⟩:=A.var y c h
  exact⟨u,Y _ _ W,V.step N A.st (hR y c h) λ_=>hN⟩
 ·refine(A.dI y c h a ha).elim λH q3=>H.elim λq1 G=>G.elim λo q2=>?_
  exact⟨⟨q1,N.there a o q2 (hR y c h a ha)⟩,q3⟩
def iS(ab:Env)(sc:bf)(ρ:ay)(aB:Str->List ag):List ag:=
 ab.locals::(ab.cells.filterMap λp=>if sc.names.lookup p.1=aa .cell/\ab.cells.lookup p.1=aa p.2 then aa p.2 else ak)++ρ.flatMap λp=>match ρ.lookup p.1 with
  |some b=>if b.isFn then [] else aB p.1
  |none=>[]
set_option tactic.hygienic true in
theorem w_(h:a∈iS ab sc ρ aB):a=ab.locals\/(∃x,ab.cells.lookup x=aa a/\sc.names.lookup x=aa .cell)\/∃x b,ρ.lookup x=aa b/\b.isFn=aH/\a∈aB x:=by
 refine(cQ.mp h).elim (λh=>?_) λh=>?_
 ·rcases bT.mp h with h|h
  ·exact .inl h
  ·obtain⟨p,Z,V⟩:=qI.mp h
   split at V
   ·rename_i W
    obtain rfl:=aW V
    exact .inr (.inl ⟨p.1,W.2,W.1⟩)
   ·exact ns V
 ·obtain⟨p,Z,V⟩:=zU.mp h
  split at V
  ·rename_i b H
   induction Y:b.isFn with
   |true=>rw[Y] at V;simp at V
   |false=>rw[Y] at V;exact .inr (.inr ⟨p.1,b,H,Y,by exact V⟩)
  ·simp at V
theorem Ro:ab.locals∈iS ab sc ρ aB:=bi
set_option tactic.hygienic true in
theorem eA[BEq α][LawfulBEq α]:∀{l:List (α×β)} {x:α} {b:β},l.lookup x=aa b->(x,b)∈l
 |[],x,b,h=>by simp at h
 |(y,c)::r,x,b,h=>by
  simp only[iu] at h
  split at h
  ·rename_i V;obtain rfl:=aW h;rw[eq_of_beq V];exact bi
  ·exact bM _ (eA h)
theorem Sg{c:ag}(h:ab.cells.lookup x=aa c)(V:sc.names.lookup x=aa .cell):c∈iS ab sc ρ aB:=by
 refine cQ.mpr (.inl (bM _ (qI.mpr ⟨(x,c),eA h,?_⟩)))
 exact bo ⟨V,h⟩
theorem ua{b:Bd}(h:ρ.lookup x=aa b)(V:b.isFn=aH)(Y:a∈aB x):a∈iS ab sc ρ aB:=by
 refine cQ.mpr (.inr (zU.mpr ⟨(x,b),eA h,?_⟩))
 rw[h];simp[V,Y]
theorem bj.L_(H:bj w mu aw aE s g ab sc ρ aB)(h:aw.heap.get? a=ak\/a∈mu)(V:g a=ak)(Y:s.heap.get? a=aa o):sM w s g a:=.of H.gT H.nx H.fz h V ⟨o,Y⟩
theorem bj.rebase(H:bj w mu aw aE s g ab sc ρ aB):bj w (iS ab sc ρ aB) s g s g ab sc ρ aB/\∀a∈iS ab sc ρ aB,aw.heap.get? a=ak\/a∈mu:=by
 have Y:∀a∈iS ab sc ρ aB,(aw.heap.get? a=ak\/a∈mu)/\g a=ak/\∃o,s.heap.get? a=aa o/\∀vs,o.data≠bC vs:=λa V=>by
  rcases w_ V with rfl|⟨x,W,Z⟩|⟨x,b,W,Z,h3⟩
  ·refine ba λG=>?_
   obtain⟨m,oL,C,B,eL,f,_⟩:=H.gE
   apply G
   exact⟨H.iY,H.ik,_,eL,λvs e=>nomatch f.symm.trans e⟩
  ·obtain⟨q1,⟨v,o,e,d⟩,_⟩:=H.cP x a W
   exact⟨H.lw x a W Z,q1,o,e,λvs e=>nomatch d.symm.trans e⟩
  ·obtain⟨v,_,q⟩:=H.var x b W
   exact⟨(H.dI x b W a h3).1.1 Z,cU.plain H.st q Z a h3⟩
 exact⟨⟨H.st,λa V=>(Y a V).2.2.elim λo q=>H.L_ (Y a V).1 (Y a V).2.1 q.1,H.st,Nx.refl _ _ _,H.kind,H.glob,H.gv,H.ks,H.lam,H.ik,H.gE,.inr Ro,H.cP,λx c h hk=>.inr (Sg h hk),H.fg,H.e8,H.var,
  λx b h a V=>⟨⟨λhf=>.inr (ua h hf V),(H.dI x b h a V).1.2⟩,(H.dI x b h a V).2⟩,H.e9⟩,λa V=>(Y a V).1⟩
theorem bj.Ch{W:List ag}{V:Str->List ag}(H:bj w mu aw aE s g ab sc ρ aB)(Y:bj w W s g s' g' ab sc aC V)(Z:∀a∈W,aw.heap.get? a=ak\/a∈mu):bj w mu aw aE s' g' ab sc aC V:=by
 refine⟨H.gT,H.fz,Y.st,H.nx.over Y.nx Z,H.kind,H.glob,H.gv,H.ks,H.lam,Y.ik,Y.gE,H.iY,Y.cP,H.lw,H.fg,H.e8,Y.var,λx b h a B=>?_,Y.e9⟩
 refine(Y.dI x b h a B).elim λG f=>G.elim λq1 q2=>?_
 refine⟨⟨λhf=>?_,q2⟩,f⟩
 rcases q1 hf with q|q
 ·by_cases C:a∈mu
  ·exact .inr C
  ·induction e:aw.heap.get? a with
   |none=>exact .inl rfl
   |some o=>obtain⟨o',e'⟩:=H.nx.there a o e C;exact ns (q.symm.trans e')
 ·exact Z a q
end
set_option genCtorIdx false in
set_option genInjectivity false in
inductive Fl where
 |next|brk|cont
 |ret (d:D)
def FlR(w:a9)(g:aY):Flow->Fl->Prop
 |.next,.next=>True
 |.brk,.brk=>True
 |.cont,.cont=>True
 |.ret v,.ret d=>Rep w g v d
 |_,_=>False
inductive Fin(w:a9)(mu:List ag)(aw:av)(aE:aY)(ab:Env)(sc:bf)(k:Fl->ay->Prop)(f:Flow)(s':av):Prop
 |mk (g' aC fl dX:_) (H:bj w mu aw aE s' g' ab sc aC dX) (hf:FlR w g' f fl) (hk:k fl aC)
inductive De(w:a9)(mu:List ag)(aw:av)(aE g:aY)(ab:Env)(sc:bf)(k:ay->Prop)(s':av):Prop
 |mk (g' aC dX:_) (H:bj w mu aw aE s' g' ab sc aC dX) (hg:∀a o,g a=aa o->g' a=aa o) (hk:k aC)
structure aL(n:Nat)(sc:bf)(ρ:ay)(b:List bw)(k:Fl->ay->Prop):Prop where
 run:∀(w:a9) (A:bN) (ab:Env) (mu:List ag) (aw:av) (aE:aY) (s:av) (g:aY) (aB:Str->List ag),bj w mu aw aE s g ab sc ρ aB->Rm n A->∀E,wpAny (model PG w) A (execs b ab) (Fin w mu aw aE ab sc k) E s
structure aO(n:Nat)(sc:bf)(ρ:ay)(b:bw)(k:Fl->ay->Prop):Prop where
 run:∀(w:a9) (A:bN) (ab:Env) (mu:List ag) (aw:av) (aE:aY) (s:av) (g:aY) (aB:Str->List ag),bj w mu aw aE s g ab sc ρ aB->Rm n A->∀E,wpAny (model PG w) A (exec b ab) (Fin w mu aw aE ab sc k) E s
structure fK(n:Nat)(sc:bf)(ρ:ay)(t:au)(d:D)(k:ay->Prop):Prop where
 run:∀(w:a9) (A:bN) (ab:Env) (mu:List ag) (aw:av) (aE:aY) (s:av) (g:aY) (aB:Str->List ag) (v:ai),bj w mu aw aE s g ab sc ρ aB->Rm n A->Rep w g v d->∀E,
  wpAny (model PG w) A (assign t ab v) (λ_=>De w mu aw aE g ab sc k) E s
def Sub(ρ aC:ay):Prop:=∀x b,ρ.lookup x=aa b->aC.lookup x=aa b
theorem Sub.refl(ρ:ay):Sub ρ ρ:=λ_ _ h=>h
theorem Sub.trans{a b c:ay}(h:Sub a b)(h':Sub b c):Sub a c:=λx y e=>h' x y (h x y e)
theorem Sub.cons{b:Bd}(h:aC.lookup x=aa b)(h':Sub ρ aC):Sub ((x,b)::ρ) aC:=λy c e=>by
 by_cases V:y=x
 ·subst V;rw[lookup_cons_self] at e;obtain rfl:=aW e;exact h
 ·rw[fj V] at e;exact h' y c e
theorem Sub.nil:Sub [] ρ:=λx b h=>by simp at h
theorem Sub.under{b:Bd}(h:Sub ρ aC):Sub ((x,b)::ρ) ((x,b)::aC):=λy c e=>by
 by_cases V:y=x
 ·subst V;rw[lookup_cons_self] at e⊢;exact e
 ·rw[fj V] at e⊢;exact h y c e
def cA(ρ:ay)(aC:ay):Prop:=match ρ with
 |[]=>True
 |(x,b)::r=>aC.lookup x=aa b/\cA r aC
theorem cA.sub:∀{ρ aC:ay},cA ρ aC->Sub ρ aC
 |[],_,_=>Sub.nil
 |(_,_)::_,_,h=>Sub.cons h.1 h.2.sub
section
variable {n:Nat} {sc:bf} {ρ:ay}
theorem Fin.mono{k k':Fl->ay->Prop}{f:Flow}(h:Fin w mu aw aE ab sc k f s)(Y:∀fl ρ,k fl ρ->k' fl ρ):Fin w mu aw aE ab sc k' f s:=
 let ⟨g',aC,fl,V,a,b,c⟩:=h;⟨g',aC,fl,V,a,b,Y _ _ c⟩
theorem aL.mono{b:List bw}{k k':Fl->ay->Prop}(h:aL n sc ρ b k)(V:∀fl ρ,k fl ρ->k' fl ρ):aL n sc ρ b k':=.mk λw A ab mu aw aE s g aB H R E=>
 bg (h.run w A ab mu aw aE s g aB H R E) (λf s' o=>o.mono V)
theorem aO.mono{b:bw}{k k':Fl->ay->Prop}(h:aO n sc ρ b k)(V:∀fl ρ,k fl ρ->k' fl ρ):aO n sc ρ b k':=.mk λw A ab mu aw aE s g aB H R E=>
 bg (h.run w A ab mu aw aE s g aB H R E) (λf s' o=>o.mono V)
theorem aL.sub{b:List bw}{k:Fl->ay->Prop}(h:aL n sc ρ b k)(hs:Sub ρ aC):aL n sc aC b k:=.mk λw A ab mu aw aE s g aB H R E=>h.run w A ab mu aw aE s g aB (H.weaken hs) R E
theorem aL.nil{k:Fl->ay->Prop}(h:k .next ρ):aL n sc ρ [] k:=.mk λw A ab mu aw aE s g aB H R E=>wq ⟨g,ρ,.next,aB,H,trivial,h⟩
def pO(n:Nat)(sc:bf)(r:List bw)(k:Fl->ay->Prop):Fl->ay->Prop:=λfl aC=>match fl with
 |.next=>aL n sc aC r k
 |fl=>k fl aC
theorem aL.cons{st:bw}{r:List bw}{k:Fl->ay->Prop}(h:aO n sc ρ st (pO n sc r k)):aL n sc ρ (st::r) k:=.mk λw A ab mu aw aE s g aB H R E=>by
 refine mK (bg (h.run w A ab mu aw aE s g aB H R E) (λf aA ⟨aN,Y,fl,V,W,Z,G⟩=>?_))
 induction f<;>induction fl<;>first|exact Z.elim|skip
 ·exact G.run w A ab mu aw aE aA aN V W R E
 ·exact⟨aN,Y,_,V,W,Z,G⟩
 ·exact⟨aN,Y,_,V,W,Z,G⟩
 ·exact⟨aN,Y,_,V,W,Z,G⟩
theorem bj.uy{aB:Str->List ag}(A:bj w mu aw aE s g ab sc ρ aB)(Y:mine sc x=ae)(hd:Rep w g v d)
 {Q:Unit->av->Prop}(W:∀s' V,(∃h tk,s'={s with heap:=h,toks:=tk})->bj w mu aw aE s' g ab sc ((x,.dat d)::ρ) V->Q () s')(E:ai->av->Prop):wpAny (model PG w) A' (rC ab x v) Q E s:=
 A.store (n:=0) (b:=.dat d) (ad:=[]) Y ⟨hd,rfl⟩ (λa h=>by simp at h) (λs' e A'=>W s' _ e A') E
theorem aO.assign{k:Fl->ay->Prop}(B:mine sc x=ae)(hs:∀ab,iA cX (aa (aS x p)) aM.line ab=pure aH)
 (h:aj n sc ρ cX λd=>k .next ((x,.dat d)::ρ)):aO n sc ρ (fe [aS x p] cX aM) k:=.mk λw A ab mu aw aE s g aB H R E=>
 zO (bg (h.run w A ab s g H.st R H.cI E) (λv aA ⟨aN,d,Y,W,Z,G⟩=>
  (H.step Y W).uy B Z (λaT V _ C=>⟨aN,_,.next,V,C,trivial,G⟩) E)) (hs ab)
theorem fK.name{k:ay->Prop}(W:mine sc x=ae)(h:k ((x,.dat d)::ρ)):fK n sc ρ (aS x p) d k:=.mk λw A ab mu aw aE s g aB v H R r E=>
 Fh (H.uy W r (λaT V _ Y=>⟨g,_,V,Y,λ_ _ e=>e,h⟩) E)
def kO(n:Nat)(sc:bf):ay->List au->List D->(ay->Prop)->Prop
 |ρ,[],[],k=>k ρ
 |ρ,t::ts,d::ds,k=>fK n sc ρ t d λaC=>kO n sc aC ts ds k
 |_,_,_,_=>False
theorem z_{r:List au}(h:cu e=ae):rt (e::r) ab=(aH,assign e ab)::rt r ab:=
 cT h (by cases e<;>first|exact rfl|exact trivial)
theorem kO.len:∀{ts:List au} {ds:List D} {ρ:ay} {k:ay->Prop},kO n sc ρ ts ds k->(∃aC,k aC->True)->True:=λ_ _=>trivial
theorem kO.ok{ds:List D}{k:ay->Prop}(ha:ts.all cu=ae)(h:kO n sc ρ ts ds k)(w:a9)(A:bN)(ab:Env)(mu:List ag)(aw:av)(aE:aY)(s:av)(g:aY)(aB:Str->List ag)
 (H:bj w mu aw aE s g ab sc ρ aB)(R:Rm n A)(r:aP w g vs ds)(E:ai->av->Prop):wpAny (model PG w) A (QP ((rt ts ab).map (·.2)) vs) (λ_=>De w mu aw aE g ab sc k) E s:=by
 induction ts generalizing ds vs ρ s g aB with
 |nil=>
  induction ds with
  |nil=>
   obtain rfl:=lL.mp r.1
   exact EG ⟨g,ρ,aB,H,λ_ _ e=>e,h⟩
  |cons _ _=>exact dw h
 |cons t ts ih=>
  cases ds with
  |nil=>exact dw h
  |cons d ds=>
   induction vs with
   |nil=>exact aZ r.1 (wi _).symm
   |cons v vs=>
    have ha:=(bB _ _).mp ha
    refine(z_ ha.1)▸?_
    refine zl (bg (fK.run h w A ab mu aw aE s g aB v H R r.ie.1 E) λ_ aA q=>?_)
    obtain⟨aN,aen,V,G,W,C⟩:=q
    refine bg (ih ha.2 C aA aN V G (r.ie.2.mono W)) λ_ aT q=>?_
    obtain⟨bb,Z,Y,B,f,gd⟩:=q
    exact⟨bb,Z,Y,B,λa o e=>f _ _ (W _ _ e),gd⟩
theorem tF:∀{ts:List au},ts.all cu=ae->(rt ts ab).length=ts.length/\(rt ts ab).findIdx? (·.1)=ak:=by
 intro Y
 induction Y with
 |nil=>
  intro _
  exact⟨rfl,rfl⟩
 |cons t ts V=>
  intro h
  simp only[wB,bB] at h
  refine(z_ h.1)▸?_
  have:=V h.2
  exact⟨aQ _ this.1,by simp[List.findIdx?_cons,this.2]⟩
theorem ExtBut.keeps(x:wJ h.objs.size h h'):∀b o,h.get? b=aa o->h'.get? b=aa o:=λb o e=>x b o (eC (cq e)) e
theorem fK.tup{ds:List D}{k:ay->Prop}(V:ts.all cu=ae)(hl:ds.length=ts.length)(h:kO n sc ρ ts ds k):fK n sc ρ (b7 ts c p) (.tup ds) k:=.mk λw A ab mu aw aE s g aB v H R r E=>by
 obtain⟨a,af,rfl,W,Y⟩:=r.Cf H.st
 obtain⟨Z,G⟩:=tF (ab:=ab) V
 refine zG R.2.2 W (by simp only[Z,<-hl,<-Y.1];rfl) G λh' C=>?_
 obtain⟨N,B⟩:=H.st.ext' (tk:=s.toks) (ExtBut.keeps C)
 exact h.ok V w A ab mu aw aE _ g aB (H.step N B) R Y E
theorem aO.HS{k:Fl->ay->Prop}(hs:∀ab,Ag [b7 ts c p] cX aM.line ab=pure aH)(hw:∀ab:Env,ab.scope.kind=fu->(∀x,KS (ab.kindOf x) (sc.names.lookup x))->mQ [b7 ts c p] cX ab=pure ak)
 (h:aj n sc ρ cX λd=>fK n sc ρ (b7 ts c p) d λaC=>k .next aC):aO n sc ρ (fe [b7 ts c p] cX aM) k:=.mk λw A ab mu aw aE s g aB H R E=>
 Ao (bg (h.run w A ab s g H.st R H.cI E) (λv aA ⟨aN,d,W,Z,G,C⟩=>
  bg (C.run w A ab mu aw aE aA aN aB v (H.step W Z) R G E) (λ_ aT q_=>by obtain⟨bb,Y,V,B,_,f⟩:=q_;exact⟨bb,Y,.next,V,B,trivial,f⟩))) (hs ab) (hw ab H.kind H.ks)
theorem aO.ret{k:Fl->ay->Prop}(h:aj n sc ρ e λd=>k (.ret d) ρ):aO n sc ρ (.Return (aa e) aM) k:=.mk λw A ab mu aw aE s g aB H R E=>
 wpAny_Return_some (bg (h.run w A ab s g H.st R H.cI E) (λv aA G=>by obtain⟨aN,d,V,Y,W,Z⟩:=G;exact⟨aN,ρ,.ret d,aB,H.step V Y,W,Z⟩))
theorem aO.iff{t:au}{b o:List bw}{k:Fl->ay->Prop}(h:bH n sc ρ t λc=>if c then aL n sc ρ b k else aL n sc ρ o k):aO n sc ρ (.If t b o aM) k:=.mk λw A ab mu aw aE s g aB H R E=>
 Bl (bg (h.run w A ab s g H.st R H.cI E) (λc aA Z=>by
  obtain⟨aN,V,Y,W⟩:=Z
  induction c with
  |true=>exact W.run w A ab mu aw aE aA aN aB (H.step V Y) R E
  |false=>exact W.run w A ab mu aw aE aA aN aB (H.step V Y) R E))
theorem aO.cont{k:Fl->ay->Prop}(h:k .cont ρ):aO n sc ρ (.Continue aM) k:=.mk λw A ab mu aw aE s g aB H R E=>by
 show wpAny _ _ (do standAt aM;pure S7) _ _ _
 exact jd (a8 ⟨g,ρ,.cont,aB,H,trivial,h⟩)
theorem aO.assert{t:au}{m:Option au}{k:Fl->ay->Prop}(h:bH n sc ρ t λc=>c=ae/\k .next ρ):aO n sc ρ (.Assert t m aM) k:=.mk λw A ab mu aw aE s g aB H R E=>by
 show wpAny _ _ (do standAt aM;if <-isTrue t ab (eval t ab) then pure Flow.next else assertFails t.pos (evalOpt m ab)) _ _ _
 refine jd (aJ (h.wp H.st R H.cI λc aA aN V Y Z=>Z.elim λG W=>?_))
 subst G
 exact a8 ⟨aN,ρ,.next,aB,H.step V Y,trivial,W⟩
structure bJ(n:Nat)(fa:ag)(ds:List D)(k:D->Prop):Prop where
 run:∀(w:a9) (A:bN) (s:av) (g:aY) (vs:List ai),St w s g->Rm n A->aP w g vs ds->∀E,wpAny (model PG w) A (call (.ref fa) vs) (Out w s g k) E s
inductive uI(w:a9)(bA:ai)(bI:Str):Prop
 |mk (c:ag) (oc:Obj) (vs:Array ai) (t:Tok) (h0:bA=.ref c) (h1:(KH w).lookup c=aa oc) (h2:oc.data=bC vs) (h3:vs[1]?=aa (.str bI t))
inductive aci(w:a9)(fa:ag)(name bI:Str)(params:iz)(body:List bw)(sc:bf):Prop
 |mk (doc pm bA ct:ai) (an:Option ag) (h0:(KH w).lookup fa=aa {cls:=aK "function",data:=.func {name,qualname:=bI,params,body:=gR body,scope:=sc,globals:=eF,closure:=[],defaults:=.none,kwdefaults:=.none,doc,pyModule:=pm,annotations:=an,code:=bA,closureTuple:=ct,builtins:=iO}}) (h1:uI w bA bI)
structure si(fa:ag)(name bI:Str)(params:iz)(body:List bw)(sc:bf):Prop where
 at_:∀w:a9,aci w fa name bI params body sc
end
theorem lX{l:List (Str×α)}{b:α}(V:(l.map (·.1)).Nodup)(h:(x,b)∈l):l.lookup x=aa b:=by
 induction l with
 |nil=>exact aZ h ca
 |cons p r Y=>
  have V:=gK.mp V
  rw[iu]
  rcases bT.mp h with e|h
  ·rw[<-e,beq_self_eq_true]
  ·rw[(beq_eq_false_iff_ne (a:=x) (b:=p.1)).mpr λe=>V.1 (show p.1∈_ from e▸kE (f:=(·.1)) h)]
   exact Y V.2 h
theorem ll:∀(aI:List (Str×fP)) (n:Nat) (V:List (Str×ag)),gQ n aI V=gQ n aI []++V
 |[],n,V=>rfl
 |(y,Y)::r,n,V=>by
  dsimp only[gQ]
  split
  ·simp only[ll r (n+1) ((y,n)::V),ll r (n+1) [(y,n)]];simp
  ·exact ll r n V
set_option tactic.hygienic true in
theorem tK:∀(aI:List (Str×fP)) (n:Nat) (x:Str) (c:ag),(x,c)∈gQ n aI []->(x,lh)∈aI
 |[],n,x,c,h=>by cases h
 |(y,V)::r,n,x,c,h=>by
  unfold gQ at h
  split at h
  ·rename_i Y
   rw[ll] at h
   rcases cQ.mp h with h|h
   ·exact bM _ (tK r _ x c h)
   ·simp at h
    obtain⟨rfl,rfl⟩:=h
    have e:V=lh:=cY Y
    exact e▸bi
  ·exact bM _ (tK r _ x c h)
theorem A1:∀(aI:List (Str×fP)) (n:Nat) (x:Str),(x,lh)∈aI->∃c,(gQ n aI []).lookup x=aa c
 |(y,Y)::r,n,x,h=>by
  dsimp only[gQ]
  rcases bT.mp h with e|h
  ·cases e
   rw[bo (by rfl:(lh==lh)=ae),ll,pc]
   induction q:(gQ (n+1) r []).lookup y with
   |none=>exact⟨n,by simp⟩
   |some c=>exact⟨c,rfl⟩
  ·split
   ·refine(A1 r (n+1) x h).elim λc V=>?_
    rw[ll,pc,V];exact⟨c,rfl⟩
   ·exact A1 r n x h
structure cW(w:a9)(s:av)(g:aY)(mu:List ag)(vs:List ai)(bs:List Bd)(bX:Nat->List ag):Prop where
 len:vs.length=bs.length
 rep:∀(i:Nat) v b,vs[i]?=aa v->bs[i]?=aa b->∀ab,cU w s g ab v (bX i) b
 dI:∀(i:Nat) b,bs[i]?=aa b->∀a∈bX i,if b.isFn then (∃o,s.heap.get? a=aa o)/\a∉mu else a∈mu
 e9:∀(i j:Nat) b b',bs[i]?=aa b->bs[j]?=aa b'->b.isFn=aH->i≠j->∀a∈bX i,a∉bX j
 fz:dq w s g mu
theorem cW.dat{ds:List D}(r:aP w g vs ds):cW w s g [] vs (ds.map Bd.dat) (λ_=>[]):=
 ⟨by simp[r.1],λi v b Y V ab=>by
  rw[ci] at V
  induction hd:ds[i]? with
  |none=>rw[hd] at V;exact ns V
  |some d=>rw[hd] at V;obtain rfl:=aW V;exact⟨r.2 i v d Y hd,rfl⟩,λ_ _ _ a h=>by simp at h,λ_ _ _ _ _ _ _ _ a h=>by simp at h,dq.nil⟩
noncomputable def my(ad:List ag)(bX:Nat->List ag)(i:Nat):List ag:=Nat.casesOn (motive:=λ_=>List ag) i ad bX
theorem cW.nil(M:dq w s g mu):cW w s g mu [] [] (λ_=>[]):=
 ⟨rfl,λ_ _ _ h=>aZ h.symm (lb _),λ_ _ _ _ h=>aZ h ca,λ_ _ _ _ _ _ _ _ _ h=>aZ h ca,M⟩
theorem cW.cons{b:Bd}{ad:List ag}(hr:∀ab,cU w s g ab v ad b)(f:∀a∈ad,if b.isFn then (∃o,s.heap.get? a=aa o)/\a∉mu else a∈mu)
 (Z:∀j b',bs[j]?=aa b'->(b.isFn=aH\/b'.isFn=aH)->∀a∈ad,a∉bX j)(r:cW w s g mu vs bs bX):cW w s g mu (v::vs) (b::bs) (my ad bX):=by
 refine⟨aQ (·+1) r.len,λi v' b' H G ab=>?_,λi b' h a V=>?_,λi j C B h h' W Y a V=>?_,r.fz⟩
 ·induction i with
  |zero=>obtain rfl:=aW H;obtain rfl:=aW G;exact hr ab
  |succ i _=>exact r.rep i v' b' H G ab
 ·induction i with
  |zero=>obtain rfl:=aW h;exact f a V
  |succ i _=>exact r.dI i b' h a V
 ·induction i with
  |zero=>induction j with
   |zero=>exact aZ rfl Y
   |succ j _=>obtain rfl:=aW h;exact Z j B h' (.inl W) a V
  |succ i _=>induction j with
   |zero=>obtain rfl:=aW h';exact λq=>Z i C h (.inr W) a q V
   |succ j _=>exact r.e9 i j C B h h' W (λe=>Y (aQ (·+1) e)) a V
structure dR(w:a9)(s:av)(g:aY)(mu:List ag)(sc:bf)(br:List (Str×ag))(ρ:ay)(jU:Str->List ag):Prop where
 cP:∀x c,br.lookup x=aa c->g c=ak/\∃v,s.heap.IsCell c v
 fg:∀x y c,br.lookup x=aa c->br.lookup y=aa c->x=y
 e8:∀x,sc.names.lookup x=aa .free->∃c,br.lookup x=aa c
 free:∀x c,br.lookup x=aa c->sc.names.lookup x=aa .free
 var:∀x b,ρ.lookup x=aa b->∃c v,br.lookup x=aa c/\s.heap.IsCell c (aa v)/\b.isFn=aH/\∀ab:Env,(∀y c,br.lookup y=aa c->ab.cells.lookup y=aa c)->cU w s g ab v (jU x) b
 MT:∀x b,ρ.lookup x=aa b->∀a∈jU x,a∈mu/\∀y c,br.lookup y=aa c->c≠a
 e9:∀x y b b',ρ.lookup x=aa b->ρ.lookup y=aa b'->x≠y->∀a∈jU x,a∉jU y
theorem dR.nil(h:∀x,sc.names.lookup x≠aa .free):dR w s g mu sc [] [] (λ_=>[]):=
 ⟨λx c h=>by simp at h,λx y c h=>by simp at h,λx e=>aZ e (h x),λx c h=>by simp at h,λx b h=>by simp at h,λx b h=>by simp at h,λx y b V h=>by simp at h⟩
theorem bj.fresh{br:List (Str×ag)}
 (S:St w s g)(M:dq w s g mu)(C:dR w s g mu sc br ρ jU)(iJ:(sc.names.map (·.1)).Nodup)(hfo:(s.heap.push fo).Ns s.heap.objs.size (λ_=>ak))(hk:ab.scope.kind=fu)(jV:∀x,KS (ab.kindOf x) (sc.names.lookup x))(Dg:∀c q,d5 sc=aa (c,q)->ab.code=.ref c/\ab.qual=q)
 (hl:ab.locals=s.heap.objs.size)(hg:ab.globals=eF)(hb:ab.builtins=iO)(hc:ab.cells=gQ (s.heap.objs.size+1) sc.names br):
 bj w mu s g {s with heap:=tY (s.heap.push fo) sc.names,toks:=tk} g ab sc ρ jU:=by
 have ok:=cellsFrom_ok sc.names (s.heap.push fo) (s.heap.objs.size+1) [] ⟨λ_ _ hm=>(nomatch hm),jZ⟩ (by simp only[gZ];exact bv _)
 rw[gZ] at ok
 have B:∀b o,s.heap.get? b=aa o->(tY (s.heap.push fo) sc.names).get? b=aa o:=λb o e=>ws _ _ b o (bZ _ e)
 obtain⟨N,S'⟩:=S.ext' (h':=tY (s.heap.push fo) sc.names) (tk:=tk) B
 have V:∀a,s.heap.objs.size<=a->g a=ak/\s.heap.get? a=ak:=λa ha=>by
  have e:s.heap.get? a=ak:=by
   induction q:s.heap.get? a with
   |none=>rfl
   |some o=>exact aZ (cq q) (de.mpr ha)
  refine⟨?_,e⟩
  induction q:g a with
  |none=>rfl
  |some o=>exact sn ((S.sub _ _ q).symm.trans e)
 have lk:∀x c,ab.cells.lookup x=aa c->((gQ (s.heap.objs.size+1) sc.names []).lookup x=aa c/\sc.names.lookup x=aa .cell)\/(br.lookup x=aa c/\sc.names.lookup x=aa .free):=λx c h=>by
  rw[hc,ll,pc] at h
  induction q:(gQ (s.heap.objs.size+1) sc.names []).lookup x with
  |some c'=>
   rw[q] at h;obtain rfl:=aW h
   refine .inl ⟨rfl,?_⟩
   exact lX iJ (tK _ _ _ _ (eA q))
  |none=>rw[q] at h;exact .inr ⟨h,C.free x c h⟩
 have Y:∀x c,(gQ (s.heap.objs.size+1) sc.names []).lookup x=aa c->(tY (s.heap.push fo) sc.names).IsCell c ak/\s.heap.objs.size<c:=λx c h=>ok.empty x c (eA h)
 have Z:∀x c,br.lookup x=aa c->g c=ak/\(∃v,s.heap.IsCell c v)/\c<s.heap.objs.size:=λx c h=>by
  refine(C.cP x c h).elim λW nj=>nj.elim λv f=>?_
  exact⟨W,⟨v,f⟩,f.lt⟩
 refine⟨S,M,S',N.more (fU),hk,hg,hb,jV,Dg,by rw[hl];exact(V _ (bv _)).1,⟨_,by exact hl▸(hfo.keeps (ws _ _))⟩,.inl (hl▸((V _ (bv _)).2)),λx c h=>?_,λx c h Nu=>?_,λx y c W f=>?_,λx h=>?_,λx b h=>?_,λx b h a ha=>?_,λx y b b' h h' _ hxy a ha=>C.e9 x y b b' h h' hxy a ha⟩
 ·rcases lk x c h with ⟨W,_⟩|⟨W,_⟩
  ·obtain⟨H,G⟩:=Y x c W
   exact⟨(V c (bd G)).1,⟨_,H⟩,hl▸(jD G)⟩
  ·obtain⟨H,⟨v,G⟩,q3⟩:=Z x c W
   exact⟨H,⟨v,G.keeps B⟩,by rw[hl];exact eC q3⟩
 ·rcases lk x c h with ⟨W,_⟩|⟨_,f⟩
  ·exact .inl (V c (bd (Y x c W).2)).2
  ·rw[f] at Nu;exact nomatch Nu
 ·rcases lk x c W with ⟨H,_⟩|⟨H,_⟩<;>rcases lk y c f with ⟨G,_⟩|⟨G,_⟩
  ·exact name_of_addr ok.apart (eA H) (eA G)
  ·exact aZ (Y x c H).2 (wF (Z y c G).2.2)
  ·exact aZ (Y y c G).2 (wF (Z x c H).2.2)
  ·exact C.fg x y c H G
 ·rw[hc,ll,pc]
  refine h.elim (λh=>?_) λh=>?_
  ·obtain⟨c,hc⟩:=A1 sc.names (s.heap.objs.size+1) x (eA h)
   exact hc▸⟨c,rfl⟩
  ·obtain⟨c,hc⟩:=C.e8 x h
   induction (gQ (s.heap.objs.size+1) sc.names []).lookup x with
   |some c'=>exact⟨c',rfl⟩
   |none=>exact⟨c,hc⟩
 ·refine ba λN_=>?_
  obtain⟨c,v,W,f,_,h4⟩:=C.var x b h
  apply N_
  have k5:∀x c,br.lookup x=aa c->ab.cells.lookup x=aa c:=λx c W=>by
   rw[hc,ll,pc]
   induction q:(gQ (s.heap.objs.size+1) sc.names []).lookup x with
   |some c'=>
    have:=lX iJ (tK _ _ _ _ (eA q))
    rw[C.free x c W] at this;exact nomatch this
   |none=>exact W
  refine⟨v,.inr ⟨?_,c,k5 x c W,(Z x c W).1,f.keeps B⟩,(h4 ab k5).step N S (by simp) (by simp)⟩
  rcases jV x with q|q
  ·exact .inr (q.trans (C.free x c W))
  ·exact .inl q.1
 ·refine(C.MT x b h a ha).elim λm1 m2=>?_
  refine ba λN_=>?_
  obtain⟨_,⟨o,e⟩,_⟩:=M a m1
  apply N_
  refine⟨⟨λ_=>.inr m1,o,B a o e⟩,by rw[hl];exact eC (cq e),λy c hy q=>?_⟩
  rcases lk y c hy with ⟨H,_⟩|⟨H,_⟩
  ·exact aZ (Y y c H).2 (wF (q▸cq e))
  ·exact m2 y c H q
theorem j7{b:Bd}:jb y ((x,b)::ρ)=if y=x then aa b else ρ.lookup y:=by
 by_cases h:y=x
 ·subst h;refine lookup_cons_self.trans ?_;exact(bo rfl).symm
 ·refine(fj h).trans ?_;exact(be h).symm
theorem cW.tail{b:Bd}(r:cW w s g mu (v::vs) (b::bs) bX):cW w s g mu vs bs (λi=>bX (i+1)):=
 ⟨by simpa using r.len,λi v b W Z ab=>r.rep (i+1) v b W Z ab,λi b h a V=>r.dI (i+1) b h a V,λi j b H h h' G Y a V=>r.e9 (i+1) (j+1) b H h h' G (λe=>Y (pp e)) a V,r.fz⟩
theorem xq{P:List α->Prop}{l:List α}(h:l.length=n+1)(k:∀a as,as.length=n->P (a::as)):P l:=by
 induction l with
 |nil=>exact aZ h (wi n).symm
 |cons a as=>exact k a as (pp h)
theorem xH{P:List α->Prop}{l:List α}(h:l.length=0)(k:P []):P l:=lL.mp h▸k
theorem Ma{H G C:Type}{P:List α->List β->List H->List G->List C->Prop}(B:P [] [] [] [] [])(f:∀a b c d e as bs V ds es,P as bs V ds es->P (a::as) (b::bs) (c::V) (d::ds) (e::es))(V:List H):
 ∀{as:List α} {bs:List β} {ds:List G} {es:List C},as.length=V.length->bs.length=V.length->ds.length=V.length->es.length=V.length->P as bs V ds es:=by
 induction V with
 |nil=>exact λ{as bs ds es} Y W hd Z=>xH (P:=λl=>P l _ _ _ _) Y (xH (P:=λl=>P _ l _ _ _) W (xH (P:=λl=>P _ _ _ l _) hd (xH Z B)))
 |cons c V ih=>exact λ{as bs ds es} Y W hd Z=>xq (P:=λl=>P l _ _ _ _) Y λa as Y=>xq (P:=λl=>P _ l _ _ _) W λb bs W=>xq (P:=λl=>P _ _ _ l _) hd λd ds hd=>xq Z λe es Z=>f a b c d e _ _ _ _ _ (ih Y W hd Z)
def uJ(w:a9)(mu:List ag)(aw:av)(aE:aY)(ab:Env)(sc:bf)(A:bN)(E:ai->av->Prop)(f:Str×ai->PUnit->Sem (ForInStep PUnit))(aI:List Str)(vs:List ai)(bs:List Bd):Prop:=
 ∀(bX:Nat->List ag) (s:av) (ρ:ay) (aB:Str->List ag) (Q:PUnit->av->Prop),bj w mu aw aE s aE ab sc ρ aB->cW w aw aE mu vs bs bX->
  (∀(i:Nat) b,bs[i]?=aa b->∀a∈bX i,(∃o,s.heap.get? a=aa o)/\a≠ab.locals/\(∀y c,ab.cells.lookup y=aa c->c≠a))->
  (∀(i:Nat) b v,bs[i]?=aa b->vs[i]?=aa v->cU w s aE ab v (bX i) b)->
  (∀x∈aI,mine sc x=ae)->(∀x b,ρ.lookup x=aa b->∀(i:Nat) Y,bs[i]?=aa Y->(b.isFn=aH\/Y.isFn=aH)->∀a∈bX i,a∉aB x)->aI.Nodup->(∀x∈aI,x∉ρ.map (·.1))->
  (∀s',∀V,bj w mu aw aE s' aE ab sc ((aI.zip bs).reverse++ρ) V->Q ⟨⟩ s')->wpAny (model PG w) A (forIn (aI.zip vs) ⟨⟩ f) Q E s
theorem IK{x:α}{b:β}{aI:List α}{bs:List β}{ρ:List (α×β)}:((x::aI).zip (b::bs)).reverse++ρ=(aI.zip bs).reverse++(x,b)::ρ:=by
 rw[Pm,Fi,c6];rfl
theorem uJ.cons{f:Str×ai->PUnit->Sem (ForInStep PUnit)}(hf:∀n v u,f (n,v) u=(do rC ab n v;pure (.yield ⟨⟩)))
 {x:Str}{v:ai}{b:Bd}{aI:List Str}{vs:List ai}{bs:List Bd}(ih:uJ w mu aw aE ab sc A E f aI vs bs):uJ w mu aw aE ab sc A E f (x::aI) (v::vs) (b::bs):=by
 intro bX s ρ aB Q H r C hR hm hd hn y9 hQ
 rw[Pm,wt,hf]
 refine aJ (aJ (H.Cg (n:=0) (b:=b) (ad:=bX 0) (hm x bi) (hR 0 b v rfl rfl) (λa Y=>?_) (λs' he H' K X=>a8 ?_) E))
 ·have q0:=(C 0 b rfl a Y).1;have q1:=(C 0 b rfl a Y).2
  refine⟨⟨λhf=>?_,q0⟩,q1,λy Z W sZ e_=>hd y Z W 0 b rfl sZ.symm a Y⟩
  have:=r.dI 0 b rfl a Y
  rw[hf] at this
  exact .inr this
 ·obtain⟨hp,tk,rfl⟩:=he
  refine ih (λi=>bX (i+1)) _ ((x,b)::ρ) _ Q H' r.tail (λi Z h a Y=>⟨?_,(C (i+1) Z h a Y).2⟩) (λi Z v' h1 h2=>K v' (bX (i+1)) Z (hR (i+1) Z v' h1 h2) λa Y=>(C (i+1) Z h1 a Y).2) (λy W=>hm y (bM _ W)) (λy Z W i G hi V a Y=>?_) (gK.mp hn).2 (λy W e=>?_) (λs' B H''=>hQ s' B (IK.symm▸H''))
  ·exact(C (i+1) Z h a Y).elim λq3 q=>q3.elim λo e=>⟨o,X a o e q.1 q.2⟩
  ·rw[j7] at W
   by_cases e:y=x
   ·rw[bo e] at W⊢
    obtain rfl:=aW W
    rcases V with V|V
    ·exact λq=>r.e9 0 (i+1) b G rfl hi V (wi i).symm a q Y
    ·exact r.e9 (i+1) 0 G b hi rfl V (wi i) a Y
   ·rw[be e] at W⊢
    exact hd y Z W (i+1) G hi V a Y
  ·rcases bT.mp e with e|e
   ·exact(gK.mp hn).1 ((show y=x from e)▸W)
   ·exact y9 y (bM _ W) e
theorem bj.binds(f:Str×ai->PUnit->Sem (ForInStep PUnit))(V:∀n v u,f (n,v) u=(do rC ab n v;pure (.yield ⟨⟩)))
 {aI:List Str}{vs:List ai}{bs:List Bd}(hl:aI.length=vs.length)(Y:bs.length=vs.length):uJ w mu aw aE ab sc A E f aI vs bs:=
 Ma (P:=λaI bs vs (_ _:List ai)=>uJ w mu aw aE ab sc A E f aI vs bs) (λ_ s _ aB _ H _ _ _ _ _ _ _ W=>a8 (W s aB H)) (λ_ _ _ _ _ _ _ _ _ _ Z=>Z.cons V) vs hl Y rfl rfl
noncomputable def gr(name bI:Str)(params:iz)(body:List bw)(sc:bf)(dV kV doc pm bA ct:ai)(an:Option ag):Bj:=
 {name,qualname:=bI,params,body:=gR body,scope:=sc,globals:=eF,closure:=[],defaults:=dV,kwdefaults:=kV,doc,pyModule:=pm,annotations:=an,code:=bA,closureTuple:=ct,builtins:=iO}
noncomputable def bindR(aI:List Str)(bs:List Bd):ay:=aI.zip bs
def ly(k:D->ay->Prop):Fl->ay->Prop:=λfl ρ=>match fl with
 |.ret d=>k d ρ
 |.next=>k .none ρ
 |_=>False
def fM(k:D->Prop):Fl->ay->Prop:=ly λd _=>k d
theorem CodeRec.of_K(S:St w s g)(h:uI w bA bI):s.heap.CodeRec bA bI:=
 h.rec λc V vs t Y W h3 Z=>⟨c,V,vs,t,Y,S.df _ _ W,h3,Z⟩
theorem Kp(h:dp)(c:ai):(h.push {cls:=c,data:=.dict #[]}).Ns h.objs.size (λ_=>ak):=Heap.Ns.new h c
theorem G5:∀(aI:List Str) (bs:List Bd),((aI.zip bs).map (·.1)).Sublist aI
 |[],bs=>by simp
 |x::aI,[]=>by simp
 |x::aI,b::bs=>by exact(G5 aI bs).cons_cons x
theorem HT{l:List Str}(h:l.Nodup):l.reverse.Nodup:=Ow.mpr (h.imp λh=>Ne.symm h)
theorem Th(Y:aI.Nodup)(V:∀x∈aI,x∉ρ.map (·.1)):Sub (bindR aI bs++ρ) ((aI.zip bs).reverse++ρ):=λx b h=>by
 rw[pc] at h⊢
 induction q:(bindR aI bs).lookup x with
 |some W=>
  replace h:=q▸h;cases h
  rw[lX (l:=(aI.zip bs).reverse) (by rw[wj];exact HT (Y.sublist (G5 aI bs):((aI.zip bs).map (·.1)).Nodup)) (iM.mpr (eA q:(x,b)∈aI.zip bs))];rfl
 |none=>
  replace h:=q▸h
  induction Z:(aI.zip bs).reverse.lookup x with
  |none=>exact h
  |some W=>
   exact aZ (kE (f:=(·.1)) (eA (h:ρ.lookup x=aa b))) (V x ((List.of_mem_zip (iM.mp (eA Z))).1:x∈aI))
theorem IL{br:List (Str×ag)}{V:Option ag}{code:ai}{Q:Env->av->Prop}
 (S:St w s g)(r:cW w s g mu vs bs bX)(C:dR w s g mu sc br ρ jU)(iJ:(sc.names.map (·.1)).Nodup)(hk:sc.kind=fu)(Nv:aI.Nodup)(jt:aI.length=vs.length)(y9:∀x∈aI,x∉ρ.map (·.1))(G:∀x∈aI,mine sc x=ae)(k5:br=[]\/∀i,∀a,a∉bX i)(Dg:∀c q,d5 sc=aa (c,q)->code=.ref c/\bI=q)
 (hQ:∀ab s' Y,ab.frame=aa ab.locals->bj w mu s g s' g ab sc (bindR aI bs++ρ) Y->Q ab s'):
 wpAny (model PG w) A (Aa sc eF br (aI.zip vs) bI V code ak iO) Q E s:=by
 simp only[Aa,Option.isSome_none,Pn,if_false]
 refine BS ?_
 refine aJ (Qw _ (λname kind cells=>by cases y8:kind==lh<;>rfl) _ _ _ _ ?_)
 refine(show ({s with heap:=s.heap.push {cls:=aK "frame",data:=.dict #[]}}:av).heap.objs.size=s.heap.objs.size+1 from gZ ..)▸?_
 have H:bj w mu s g {s with heap:=tY (s.heap.push {cls:=aK "frame",data:=.dict #[]}) sc.names} g (newEnv sc s.heap.objs.size eF (gQ (s.heap.objs.size+1) sc.names br) bI V code ak iO) sc ρ jU:=
  bj.fresh (tk:=s.toks) S r.fz C iJ (Kp _ _) hk (λx=>.inl rfl) Dg rfl rfl rfl rfl
 have aep:∀a∈mu,a<s.heap.objs.size:=λa f=>by
  obtain⟨_,⟨o,e⟩,_⟩:=r.fz a f
  exact cq e
 have new:∀x c,(gQ (s.heap.objs.size+1) sc.names []).lookup x=aa c->s.heap.objs.size<c:=λx c h=>by
  have ok:=cellsFrom_ok sc.names (s.heap.push {cls:=aK "frame",data:=.dict #[]}) (s.heap.objs.size+1) [] ⟨λ_ _ hm=>(nomatch hm),jZ⟩ (by rw[gZ];exact bv _)
  rw[gZ] at ok
  exact(ok.empty x c (eA h)).2
 refine aJ (bj.binds (aw:=s) (aE:=g) (ab:=newEnv sc s.heap.objs.size eF (gQ (s.heap.objs.size+1) sc.names br) bI V code ak iO) _ (λ_ _ _=>rfl) jt r.len.symm bX _ ρ jU _ H r (λi b hb a f=>?_) (λi b v h1 h2=>?_) G (λx b hxb i b' sZ hff a f hax=>?_) Nv y9 λs' Y H'=>a8 ?_)
 ·have hex:∃o,s.heap.get? a=aa o:=by
   have:=r.dI i b hb a f
   induction q:b.isFn with
   |true=>rw[q] at this;exact this.1
   |false=>
    rw[q] at this
    exact(r.fz a this).here
  obtain⟨o,e⟩:=hex
  have lt:=cq e
  refine⟨⟨o,ws _ _ a o (bZ _ e)⟩,eC lt,λy c hc e'=>?_⟩
  rcases k5 with rfl|Z
  ·subst e';exact wF lt (new y _ hc)
  ·exact(Z i a f).elim
 ·exact(r.rep i v b h2 h1 _).step (S.ext' (h':=tY (s.heap.push {cls:=aK "frame",data:=.dict #[]}) sc.names) (tk:=s.toks) λb o e=>ws _ _ b o (bZ _ e)).1 S (by simp) (by simp)
 ·rcases k5 with rfl|Z
  ·obtain⟨c,_,q,_⟩:=C.var x b hxb
   simp at q
  ·exact(Z i a f).elim
 ·exact hQ _ s' Y rfl (H'.weaken (Th Nv y9))
def acj(Q:ai->av->Prop)(f:Flow)(s:av):Prop:=match f with
 |.next=>Q .none s
 |.ret v=>Q v s
 |.brk=>False
 |.cont=>False
@[elab_as_elim] theorem nY {Q E:ai->Prop}{P:ux->Prop}(r:ux)(h:match r with|.ok (.ret v)=>Q v|.ok _=>False|.error e=>E e)(V:∀v,Q v->P (.ok (.ret v)))(Y:∀e,E e->P (.error e)):P r:=by
 cases r with
 |error e=>exact Y e h
 |ok f=>cases f with
  |ret v=>exact V v h
  |next=>exact dw h
  |brk=>exact dw h
  |cont=>exact dw h
theorem xa{name:Str}{G:av}{args:Args}{br:List (Str×ag)}
 (S:St w s g)(R:Rm (n+2) A)(r:cW w s g mu vs bs bX)(ho:G.heap.get? fa=aa fo)(B:fo.data=.func {gr name bI params body sc dV kV doc pm bA ct an with closure:=br})(i9:G.heap.CodeRec bA bI)(C:dR w s g mu sc br ρ jU)(k5:br=[]\/∀i,∀a,a∉bX i)
 (hb:∀(M:om) (A:bN) (E:ai->av->Prop) (Q:List (Str×ai)->av->Prop),Q (aI.zip vs) s->wpAny M A (bindArgs {gr name bI params body sc dV kV doc pm bA ct an with closure:=br} args) Q E G)(Y:aI.length=bs.length)(W:∀c q,d5 sc=aa (c,q)->bA=.ref c/\bI++(".<locals>.":Str)=q)
 (Z:(decide aI.Nodup&&(sc.kind==fu)&&!sc.isGenerator&&!sc.isCoroutine&&aI.all (mine sc)&&decide ((sc.names.map (·.1)).Nodup)&&aI.all (λx=>!(ρ.map (·.1)).contains x))=ae)(E:ai->av->Prop)
 (h:∀ab aA aB,ab.frame=aa ab.locals->bj w mu s g aA g ab sc (bindR aI bs++ρ) aB->wpAny (model PG w) (A.deeper ab) (execs body ab) (acj Q) (λe s'=>wpAny (model PG w) (A.deeper ab) (leaving ab e) (λ_ V=>E e V) (λe' V=>E e' V) s') aA):
 codeAny (model PG w) A (.call (.ref fa) args) (λr s'=>match r with|.ok (.ret v)=>Q v s'|.ok _=>False|.error e=>E e s') G:=by
 simp only[bB,decide_eq_true_eq,beq_iff_eq,nH,ef] at Z
 refine ba λN_=>?_
 obtain⟨⟨⟨⟨⟨⟨h1,h3⟩,h4⟩,h5⟩,h6⟩,h7⟩,h8⟩:=Z
 apply N_
 refine codeAny_call_function R.room ho B h5 h4 rfl i9 (hb _ _ _ _ ?_)
 refine IL S r C h7 h3 h1 (by simp only[Y,r.len]) (λx hx hm=>by have:=h8 x hx;rw[qD.mpr hm] at this;exact tf this) h6 k5 W λab aA aB jx H=>?_
 refine⟨(H.st.lim:aA.heap.NoLimit),codeAny_func ?_⟩
 refine bg (h ab aA _ jx H) (λf s' h'=>?_)
 induction f<;>first|exact h'|exact h'.elim
theorem HU{name:Str}{k:D->ay->Prop}{Z:av}{args:Args}{br:List (Str×ag)}
 (S:St w s g)(R:Rm (n+2) A)(r:cW w s g mu vs bs bX)(ho:Z.heap.get? fa=aa fo)(G:fo.data=.func {gr name bI params body sc dV kV doc pm bA ct an with closure:=br})(B:Z.heap.CodeRec bA bI)(C:dR w s g mu sc br ρ jU)(k5:br=[]\/∀i,∀a,a∉bX i)
 (hb:∀(M:om) (A:bN) (E:ai->av->Prop) (Q:List (Str×ai)->av->Prop),Q (aI.zip vs) s->wpAny M A (bindArgs {gr name bI params body sc dV kV doc pm bA ct an with closure:=br} args) Q E Z)(Y:aI.length=bs.length)(W:∀c q,d5 sc=aa (c,q)->bA=.ref c/\bI++(".<locals>.":Str)=q)
 (hO:(decide aI.Nodup&&(sc.kind==fu)&&!sc.isGenerator&&!sc.isCoroutine&&aI.all (mine sc)&&decide ((sc.names.map (·.1)).Nodup)&&aI.all (λx=>!(ρ.map (·.1)).contains x))=ae)(h:aL n sc (bindR aI bs++ρ) body (ly k))(E:ai->av->Prop):
 codeAny (model PG w) A (.call (.ref fa) args) (λr s'=>match r with|.ok (.ret v)=>∃ab g' aC d V,bj w mu s g s' g' ab sc aC V/\Rep w g' v d/\k d aC|.ok _=>False|.error e=>E e s') Z:=
 xa (Q:=λv s'=>∃ab g' aC d V,bj w mu s g s' g' ab sc aC V/\Rep w g' v d/\k d aC) S R r ho G B C k5 hb Y W hO E λab aA aB _ H=>bg (h.run w _ ab mu s g aA g _ H ((R.le (jF _)).deeper) _) (λf s' q_=>by
  obtain⟨g',aC,fl,V,H',F',h'⟩:=q_
  induction f<;>induction fl<;>first|exact F'.elim|exact h'.elim|exact⟨ab,g',aC,_,V,H',.none,h'⟩|exact⟨ab,g',aC,_,V,H',F',h'⟩)
theorem xb{name:Str}{k:D->ay->Prop}{args:Args}{br:List (Str×ag)}
 (S:St w s g)(R:Rm (n+2) A)(r:cW w s g mu vs bs bX)(f:s.heap.get? fa=aa fo)(Z:fo.data=.func {gr name bI params body sc dV kV doc pm bA ct an with closure:=br})(H:s.heap.CodeRec bA bI)(C:dR w s g mu sc br ρ jU)(G:br=[]\/∀i,∀a,a∉bX i)
 (hb:fQ s {gr name bI params body sc dV kV doc pm bA ct an with closure:=br} args (aI.zip vs))(V:aI.length=bs.length)(Y:∀c q,d5 sc=aa (c,q)->bA=.ref c/\bI++(".<locals>.":Str)=q)
 (B:(decide aI.Nodup&&(sc.kind==fu)&&!sc.isGenerator&&!sc.isCoroutine&&aI.all (mine sc)&&decide ((sc.names.map (·.1)).Nodup)&&aI.all (λx=>!(ρ.map (·.1)).contains x))=ae)(h:aL n sc (bindR aI bs++ρ) body (ly k))(E:ai->av->Prop):
 codeAny (model PG w) A (.call (.ref fa) args) (λr s'=>match r with|.ok (.ret v)=>∃ab g' aC d W,bj w mu s g s' g' ab sc aC W/\Rep w g' v d/\k d aC|.ok _=>False|.error e=>E e s') s:=HU S R r f Z H C G hb V Y B h E
theorem rE:bindR aI bs++[]=bindR aI bs:=cR _
def g6(aI:List Str)(scope:bf)(bE:ay):Bool:=decide aI.Nodup&&(scope.kind==fu)&&!scope.isGenerator&&!scope.isCoroutine&&aI.all (mine scope)&&decide ((scope.names.map (·.1)).Nodup)&&aI.all (λx=>!(bE.map (·.1)).contains x)
theorem nU{name:Str}{k:D->ay->Prop}{ps:List ai}{f:List (Str×ai)}
 (S:St w s g)(R:Rm (n+2) A)(r:cW w s g mu vs bs bX)(ho:(KH w).lookup fa=aa fo)(H:fo.data=.func (gr name bI params body sc dV kV doc pm bA ct an))(G:uI w bA bI)
 (hb:fQ s (gr name bI params body sc dV kV doc pm bA ct an) ⟨ps,f⟩ (aI.zip vs))(Z:aI.length=bs.length)
 (C:g6 aI sc []=ae)(W:sc.names.all (λx=>!(x.2==.free))=ae)(B:(d5 sc).isNone=ae)(h:aL n sc (bindR aI bs) body (ly k))
 (hQ:∀v s' ab g' aC d Y,bj w mu s g s' g' ab sc aC Y->Rep w g' v d->k d aC->Q v s'):wpAny (model PG w) A (call (.ref fa) ps f) Q E s:=
 lY (mS (xb S R r (S.df _ _ ho) H (CodeRec.of_K S G) (dR.nil λx e=>tx (ef.mp W _ (eA e))) (.inl rfl) hb Z (λc q e=>aZ ((vK.mp B).symm.trans e) (lb _).symm) C (rE.symm▸h) E) λr s' hr=>
  nY r hr (λv V=>V.elim λab V=>V.elim λg' V=>V.elim λaC V=>V.elim λd V=>V.elim λY V=>hQ v s' ab g' aC d Y V.1 V.2.1 V.2.2) λ_ h=>h)
theorem bJ.intro{name:Str}{ds:List D}(B:si fa name bI params body sc)(W:aI=params.args.map (·.arg))
 (f:∀doc pm bA ct an (s:av) vs,vs.length=ds.length->fQ s (gr name bI params body sc .none .none doc pm bA ct an) ⟨vs,[]⟩ (aI.zip vs))
 (Z:g6 aI sc []=ae)(Y:aI.length=ds.length)(V:sc.names.all (λx=>!(x.2==.free))=ae)(G:(d5 sc).isNone=ae)
 (h:aL n sc (bindR aI (ds.map Bd.dat)) body (fM k)):bJ (n+2) fa ds k:=.mk λw A s g vs S R r E=>
 (B.at_ w).rec λdoc pm bA ct an h0 h1=>
 nU S R (cW.dat r) h0 rfl h1 (f doc pm bA ct an s vs r.1) (Y.trans (aR ..).symm) Z V G h λv s' ab g' aC d C H R' hk=>⟨g',d,H.nx,H.st,R',hk⟩
structure bO(sc:bf)(x:Str)(v:ai):Prop where
 run:∀(w:a9) (A:bN) (ab:Env) (s:av) (g:aY) (ρ:ay),St w s g->c8 w s g ab sc ρ->∀(aM:Pos) (Q:ai->av->Prop) E,Q v s->wpAny (model PG w) A (eval (aS x aM) ab) Q E s
 keep:∀(w:a9) (s:av) (g:aY),St w s g->∃k,(k=jE\/k=jC\/k=jz)/\jN (model PG w) s.heap (keeperOf v) k
theorem d4(V:ce x=ae):(x==("__debug__":Str))=aH:=by simp only[ce,bB,nH] at V;exact V.1
theorem bO.top(H:sc.names.lookup x=aa cj)(G:∀w,nsIn (KH w) eF x=aa (aa (.ref a)))(C:ce x=ae)(Y:∀w,keepIn (KH w) (.ref a)=ae):bO sc x (.ref a) where
 run:=λw A ab s g ρ S V aM Q E B=>by
  refine S.gB.elim λZ W=>?_
  refine zu V.kind (KS.glob (H▸V.ks x)) (Fj (mg:=Z) (by exact V.glob▸W) (mg_of S.df W (G w)) B) (d4 C)
 keep:=λw s g S=>keeps_K (Y w) _ S.df
theorem bO.boot(C:sc.names.lookup x=aa cj)(B:∀w,nsIn (KH w) eF x=aa ak)(f:ce x=ae)(hv:Gx x=aa v)(W:x≠"__name__")(hr:∀a,v≠.ref a):bO sc x v where
 run:=λw A ab s g ρ S V aM Q E hQ=>by
  refine S.gB.elim λH Y=>?_
  obtain⟨G,Z,hb⟩:=S.blt
  exact zu V.kind (KS.glob (C▸V.ks x)) (loadGlobal_builtin (mg:=H) (mb:=G) (by exact V.glob▸Y) (mg_none_of S.df Y (B w)) (V.gv▸Z) ((hb x W).trans hv) hQ) (d4 f)
 keep:=λw s g S=>⟨.machine,.inr (.inl rfl),QQ (by induction v<;>first|rfl|exact aZ rfl (hr _))⟩
section
variable {n:Nat} {sc:bf} {ρ:ay} {k:D->Prop}
theorem aj.top(Z:sc.names.lookup x=aa cj)(H:∀w,nsIn (KH w) eF x=aa (aa v))(G:ce x=ae)(hd:∀w g,Rep w g v d)(h:k d):aj n sc ρ (aS x p) k:=.mk λw A ab s g S R V E=>by
 obtain⟨W,Y⟩:=S.gB
 exact zu V.kind (KS.glob (Z▸V.ks x)) (Fj (mg:=W) (by exact V.glob▸Y) (mg_of S.df Y (H w)) (Out.same S (hd w g) h)) (d4 G)
structure bk(n:Nat)(f:ai)(ds:List D)(k:D->Prop):Prop where
 run:∀(w:a9) (A:bN) (s:av) (g:aY) (vs:List ai),St w s g->Rm n A->aP w g vs ds->∀E,wpAny (model PG w) A (call f vs) (Out w s g k) E s
theorem bJ.oW{ds:List D}(h:bJ n fa ds k):bk n (.ref fa) ds k:=⟨λw A s g vs S R r E=>h.run w A s g vs S R r E⟩
theorem bJ.le{ds:List D}(h:bJ m fa ds k)(V:m<=n):bJ n fa ds k:=⟨λw A s g vs S R r E=>h.run w A s g vs S (R.le V) r E⟩
theorem bJ.mono{ds:List D}(h:bJ n fa ds k)(V:∀d,k d->k' d):bJ n fa ds k':=⟨λw A s g vs S R r E=>bg (h.run w A s g vs S R r E) (λv s' o=>o.trans (Nx.refl _ _ _) V)⟩
theorem bk.mono{f:ai}{ds:List D}(h:bk n f ds k)(V:∀d,k d->k' d):bk n f ds k':=⟨λw A s g vs S R r E=>bg (h.run w A s g vs S R r E) (λv s' o=>o.trans (Nx.refl _ _ _) V)⟩
section
variable {M:om} {A:bN} {E:ai->av->Prop} {s:av}
theorem fk{f:ai}{Y:List (Bool×Sem ai)}{V:List (Option Str×Sem ai)}{Q:Args->av->Prop}(G:Y.all (λx=>!x.1)=ae)(H:V.all (·.1.isSome)=ae)
 (h:wpAny M A (spliced Y) (λvs aA=>wpAny M A (evalAll (V.map (·.2))) (λks aT=>Q ⟨vs,(V.filterMap (·.1)).zip ks⟩ aT) E aA) E s):
 wpAny M A (evalArgs f ae Y V) Q E s:=by
 dsimp only[evalArgs]
 match Y,G,h with
 |[],_,h=>
  refine aJ (er h (λvs aA W=>?_) λ_ _ x=>x)
  refine eM ?_
  simp only[H,if_true]
  refine aJ (er W (λks aT Z=>?_) λ_ _ x=>x)
  exact fZ (a8 Z)
 |(aH,x)::r,_,h=>
  refine aJ (er h (λvs aA W=>?_) λ_ _ x=>x)
  refine eM ?_
  simp only[H,if_true]
  refine aJ (er W (λks aT Z=>?_) λ_ _ x=>x)
  exact fZ (a8 Z)
end
theorem cE:∀{l:List au} {ab:Env} {aM:Pos},l.all cu=ae->(backTo aM (starEach l ab)).all (λx=>!x.1)=ae/\(backTo aM (starEach l ab)).any (·.1)=aH
 |[],_,_,_=>⟨rfl,rfl⟩
 |e::r,ab,aM,h=>by
  simp only[wB,bB] at h
  have V:=cE (ab:=ab) (aM:=aM) h.2
  exact(nO h.1)▸⟨by refine V.1.trans ?_;rfl,by refine V.2.trans ?_;rfl⟩
theorem aj.call{args:List au}{f:ai}(C:bO sc x f)(G:args.all cu=ae)(h:cn n sc ρ args λds=>bk n f ds k):aj n sc ρ (bU (aS x np) args [] aM) k:=.mk λw A ab s g S R V E=>by
 refine lP (C.run w A ab s g ρ S V np _ E ?_)
 refine j8 (P:=λB=>∃k,(k=jE\/k=jC\/k=jz)/\jN (model PG w) B (keeperOf f) k) (by rw[(cE G).2];rfl) (λ_ q=>q) ?_
 refine fk (cE G).1 rfl (bg (cn.ok G h w A ab s g aM S R V E) (λvs aA ⟨aN,ds,W,Y,Z,H⟩=>?_))
 refine fB ⟨C.keep w aA aN Y,?_⟩
 exact Out.back W (H.run w A aA aN vs Y R Z E)
noncomputable def D.ty:D->String
 |.none=>"NoneType"
 |.bool _=>"bool"
 |.int _=>"int"
 |.str _=>"str"
 |.tup _=>"tuple"
 |.lst _=>"list"
 |.cO _=>"dict"
 |.eu _=>"dict"
theorem Rep.typeIs(S:St w s g)(h:Rep w g v d):s.TypeIs v d.ty/\∀a,v=.ref a->∃o,s.heap.get? a=aa o/\o.dict=aU:=by
 induction h with
 |none=>exact⟨typeIs_none s,λa e=>by cases e⟩
 |bool b=>exact⟨PySem.typeIs_bool s b,λa e=>by cases e⟩
 |int i t=>exact⟨wS s i t,λa e=>by cases e⟩
 |str x t=>exact⟨nR s x t,λa e=>by cases e⟩
 |tup a n af l V Y _=>exact⟨⟨_,S.sub _ _ V,rfl⟩,λb e=>by cases e;exact⟨_,S.sub _ _ V,rfl⟩⟩
 |lst a n af l V Y _=>exact⟨⟨_,S.sub _ _ V,rfl⟩,λb e=>by cases e;exact⟨_,S.sub _ _ V,rfl⟩⟩
 |cO a n es l V Y W Z _=>exact⟨⟨_,S.sub _ _ V,rfl⟩,λb e=>by cases e;exact⟨_,S.sub _ _ V,rfl⟩⟩
 |eu a n es l V Y W Z _=>exact⟨⟨_,S.sub _ _ V,rfl⟩,λb e=>by cases e;exact⟨_,S.sub _ _ V,rfl⟩⟩
structure cM(T:String)(name:Str)(id:String):Prop where
 pa:PlainAttrs T
 slot:Slot T name id
 ty:typeOf (.builtin id)=pure (aK "method_descriptor")
theorem Kq{l:List (Bool×Sem ai)}(h:l.all (!·.1)=ae)(V:n<30):F7 n l (backToKw aM (AA [] ab))=ae:=
 (bB _ _).mpr ⟨(bB _ _).mpr ⟨h,rfl⟩,eS V⟩
theorem aj.yt{o:au}{name:Str}{args:List au}{T id:String}(m:cM T name id)(ha:args.all cu=ae)(hb:∀ab,mR o name ab (eval o ab)=eval o ab)(hl:(args.length<30/\(eT.endLine==aM.line)=ae))
 (h:aj n sc ρ o λa=>a.ty=T/\cn n sc ρ args λds=>bk n (.builtin id) (a::ds) k):aj n sc ρ (bU (cC o name eT) args [] aM) k:=.mk λw A ab s g S R V E=>by
 refine ny (hb ab) ?_ hl.2 rfl (h.wp S R V λv aA aN d Y W Z q_=>q_.elim λhT G=>?_)
 ·exact Kq (cE ha).1 hl.1
 ·obtain⟨t1,t2⟩:=Z.typeIs W
  refine⟨T,id,m.pa,m.slot,m.ty,hT▸t1,t2,?_⟩
  refine nN (cE ha).2 (fk (cE ha).1 rfl (bg (cn.ok ha G w A ab aA aN aM W R (V.step Y S) E) (λvs aT ⟨bb,ds,H,C,B,f⟩=>?_)))
  refine fB ?_
  exact Out.back (Y.trans H) (f.run w A aT bb (v::vs) C R (aP.cons (Z.mono H.gg) B) E)
end
section
variable {n:Nat} {k:D->Prop}
theorem aP.one{a:D}(h:aP w g vs [a]):∃v,vs=[v]/\Rep w g v a:=by
 match vs,h with
 |[],h=>exact aZ h.1 (by simp)
 |[v],h=>exact⟨v,rfl,h.ie.1⟩
 |_::_::_,h=>exact aZ h.1 (by simp)
theorem aP.two{a b:D}(h:aP w g vs [a,b]):∃v u,vs=[v,u]/\Rep w g v a/\Rep w g u b:=by
 match vs,h with
 |[],h=>exact aZ h.1 (by simp)
 |v::r,h=>
  obtain⟨u,rfl,V⟩:=h.ie.2.one
  exact⟨v,u,rfl,h.ie.1,V⟩
theorem aP.three{a b c:D}(h:aP w g vs [a,b,c]):∃v u x,vs=[v,u,x]/\Rep w g v a/\Rep w g u b/\Rep w g x c:=by
 match vs,h with
 |[],h=>exact aZ h.1 (by simp)
 |v::r,h=>
  obtain⟨u,x,rfl,V⟩:=h.ie.2.two
  exact⟨v,u,x,rfl,h.ie.1,V⟩
theorem aP.four{a b c:D}(h:aP w g vs [a,b,c,d]):∃v u x y,vs=[v,u,x,y]/\Rep w g v a/\Rep w g u b/\Rep w g x c/\Rep w g y d:=by
 match vs,h with
 |[],h=>exact aZ h.1 (by simp)
 |v::r,h=>
  obtain⟨u,x,y,rfl,V⟩:=h.ie.2.three
  exact⟨v,u,x,y,rfl,h.ie.1,V⟩
theorem aP.strs:∀{w:a9} {g:aY} {vs:List ai} {xs:List Str},aP w g vs (xs.map D.str)->∃l:List (Str×Tok),vs=tZ l/\l.map (·.1)=xs
 |w,g,[],[],h=>⟨[],rfl,rfl⟩
 |w,g,[],x::xs,h=>aZ h.1 (nofun)
 |w,g,v::vs,[],h=>aZ h.1 (by simp)
 |w,g,v::vs,x::xs,h=>by
  refine(show Rep w g v (.str x) from h.ie.1).dB λt=>?_
  obtain⟨l,rfl,e⟩:=aP.strs (w:=w) (g:=g) (xs:=xs) h.ie.2
  exact⟨(x,t)::l,rfl,aQ _ e⟩
theorem aP.ints:∀{w:a9} {g:aY} {vs:List ai} {xs:List Int},aP w g vs (xs.map D.int)->IntsAre vs xs
 |w,g,[],[],h=>.nil
 |w,g,[],x::xs,h=>aZ h.1 (nofun)
 |w,g,v::vs,[],h=>aZ h.1 (by simp)
 |w,g,v::vs,x::xs,h=>by
  refine(show Rep w g v (.int x) from h.ie.1).b9 λt=>?_
  exact .cons _ _ (aP.ints (w:=w) (g:=g) (xs:=xs) h.ie.2)
theorem aP.Wo{xs:List Int}(h:IntsAre vs xs):aP w g vs (xs.map D.int):=by
 induction h with
 |nil=>exact aP.nil
 |cons i t h V=>exact aP.cons (.int i t) V
theorem Out.keep(S:St w s g)(V:∀b o,s.heap.get? b=aa o->h'.get? b=aa o)(R:Rep w g v d)(h:k d):Out w s g k v {s with heap:=h',toks:=tk}:=
 (S.ext' (h':=h') (tk:=tk) V).elim λN Y=>⟨g,d,N,Y,R,h⟩
theorem bk.ack(hl:l.length<2^63)(V:k (.int l.length)):bk n (.builtin "len") [.lst l] k:=.mk λw A s g vs S R r E=>by
 obtain⟨v,rfl,h⟩:=r.one
 obtain⟨a,af,rfl,Y,W⟩:=h.n_ S
 have e:af.size=l.length:=by have:=W.1;exact this
 refine call_len_list Y (by rw[e];exact Zc (by assumption)) (Out.toks S (.int _ _) ?_)
 rw[e];exact V
theorem bk.acm(hl:x.length<2^63)(V:k (.int x.length)):bk n (.builtin "len") [.str x] k:=.mk λw A s g vs S R r E=>by
 obtain⟨v,rfl,h⟩:=r.one
 refine h.dB λt=>?_
 exact P.len_str (by exact L5 (by assumption)) (Out.toks S (.int _ _) V)
theorem bk.abs{i:Int}(V:k (.int (if i<0 then-i else i))):bk n (.builtin "abs") [.int i] k:=.mk λw A s g vs S R r E=>by
 obtain⟨v,rfl,h⟩:=r.one
 refine h.b9 λt=>?_
 exact call_abs_int λu tk=>Out.toks S (.int _ _) V
theorem bk.max2{i j:Int}(Y:k (.int (max i j))):bk n (.builtin "max") [.int i,.int j] k:=.mk λw A s g vs S R r E=>by
 obtain⟨v,u,rfl,Z,H⟩:=r.two
 refine Z.b9 λt=>?_;refine H.b9 λG=>?_
 refine max_two_ints R.2.2 λh' tk V=>?_
 by_cases W:j>i
 ·rw[bo W];exact Out.keep S V (.int _ _) (by rw[show max i j=j by exact ZH (by assumption)] at Y;exact Y)
 ·rw[be W];exact Out.keep S V (.int _ _) (by rw[show max i j=i by exact ZI (by assumption)] at Y;exact Y)
theorem bk.min2{i j:Int}(Y:k (.int (min i j))):bk n (.builtin "min") [.int i,.int j] k:=.mk λw A s g vs S R r E=>by
 obtain⟨v,u,rfl,Z,H⟩:=r.two
 refine Z.b9 λt=>?_;refine H.b9 λG=>?_
 refine min_two_ints R.2.2 λh' tk V=>?_
 by_cases W:j<i
 ·rw[bo W];exact Out.keep S V (.int _ _) (by rw[show min i j=j by exact ZJ (by assumption)] at Y;exact Y)
 ·rw[be W];exact Out.keep S V (.int _ _) (by rw[show min i j=i by exact ZK (by assumption)] at Y;exact Y)
theorem bk.acn{i:Int}(hi:i.natAbs.log2<1920)(V:k (.str (toString i))):bk n (aK "str") [.int i] k:=.mk λw A s g vs S R r E=>by
 obtain⟨v,rfl,h⟩:=r.one
 refine h.b9 λt=>?_
 exact PySem.P.str_of_int hi (Out.toks S (.str _ _) V)
theorem bk.oa{i:Int}(V:k (.int (fA i))):bk n (.builtin "int.bit_length") [.int i] k:=.mk λw A s g vs S R r E=>by
 obtain⟨v,rfl,h⟩:=r.one
 refine h.b9 λt=>?_
 exact call_int_bit_length (Out.toks S (.int _ _) V)
theorem bk.divmod{i j:Int}(V:j≠0)(Y:Ey i j=aH)(W:k (.tup [.int (i.fdiv j),.int (i.fmod j)])):bk n (.builtin "divmod") [.int i,.int j] k:=.mk λw A s g vs S R r E=>by
 obtain⟨v,u,rfl,Z,H⟩:=r.two
 refine Z.b9 λt=>?_;refine H.b9 λG=>?_
 exact divmod_int V (Out.Ko S (af:=#[.int (i.fdiv j) s.toks,.int (i.fmod j) (s.toks+1)]) (aP.cons (.int _ _) (aP.cons (.int _ _) aP.nil)) W) (.inl Y)
theorem bk.lower(V:vZ (cf x).length=aH)(Y:k (.str (cf x))):bk n (.builtin "str.lower") [.str x] k:=.mk λw A s g vs S R r E=>by
 obtain⟨v,rfl,h⟩:=r.one
 refine h.dB λt=>?_
 exact SC.lower V (Out.toks S (.str _ _) Y)
theorem bk.find(V:k (.int (jJ x y))):bk n (.builtin "str.find") [.str x,.str y] k:=.mk λw A s g vs S R r E=>by
 obtain⟨v,u,rfl,Y,W⟩:=r.two
 refine Y.dB λt=>?_;refine W.dB λZ=>?_
 exact SC.find (Out.toks S (.int _ _) V)
theorem bk.rfind(V:k (.int (j9 x y))):bk n (.builtin "str.rfind") [.str x,.str y] k:=.mk λw A s g vs S R r E=>by
 obtain⟨v,u,rfl,Y,W⟩:=r.two
 refine Y.dB λt=>?_;refine W.dB λZ=>?_
 exact SC.rfind (Out.toks S (.int _ _) V)
theorem bk.startswith(V:k (.bool (wy x y))):bk n (.builtin "str.startswith") [.str x,.str y] k:=.mk λw A s g vs S R r E=>by
 obtain⟨v,u,rfl,Y,W⟩:=r.two
 refine Y.dB λt=>?_;refine W.dB λZ=>?_
 exact SC.startswith (Out.same S (.bool _) V)
theorem bk.endswith(V:k (.bool (wG x y))):bk n (.builtin "str.endswith") [.str x,.str y] k:=.mk λw A s g vs S R r E=>by
 obtain⟨v,u,rfl,Y,W⟩:=r.two
 refine Y.dB λt=>?_;refine W.dB λZ=>?_
 exact SC.endswith (Out.same S (.bool _) V)
theorem bk.index{bW:List Nat}(V:ku x y 0 x.length 1=i::bW)(Y:k (.int i)):bk n (.builtin "str.index") [.str x,.str y] k:=.mk λw A s g vs S R r E=>by
 obtain⟨v,u,rfl,W,Z⟩:=r.two
 refine W.dB λt=>?_;refine Z.dB λH=>?_
 exact SC.index V (Out.toks S (.int _ _) Y)
theorem bk.join(V:n9 x xs=ae)(Y:k (.str (jK x xs))):bk n (.builtin "str.join") [.str x,.lst (xs.map D.str)] k:=.mk λw A s g vs S R r E=>by
 obtain⟨v,u,rfl,W,Z⟩:=r.two
 refine W.dB λt=>?_
 obtain⟨a,af,rfl,H,G⟩:=Z.n_ S
 obtain⟨l,e,hl⟩:=G.strs
 exact SC.join ((e▸rfl:af=(tZ l).toArray)▸H) hl V λC k'=>Out.toks S (.str _ _) Y
theorem cM.lower:cM "str" "lower" "str.lower":=⟨F.plainAttrs_str,F.slot_str_lower,F.type_str_lower⟩
theorem cM.find:cM "str" "find" "str.find":=⟨F.plainAttrs_str,F.slot_str_find,F.type_str_find⟩
theorem cM.rfind:cM "str" "rfind" "str.rfind":=⟨F.plainAttrs_str,F.slot_str_rfind,F.type_str_rfind⟩
theorem cM.startswith:cM "str" "startswith" "str.startswith":=⟨F.plainAttrs_str,F.slot_str_startswith,F.type_str_startswith⟩
theorem cM.endswith:cM "str" "endswith" "str.endswith":=⟨F.plainAttrs_str,F.slot_str_endswith,F.type_str_endswith⟩
theorem cM.index:cM "str" "index" "str.index":=⟨F.plainAttrs_str,F.slot_str_index,F.type_str_index⟩
theorem cM.join:cM "str" "join" "str.join":=⟨F.plainAttrs_str,F.slot_str_join,F.type_str_join⟩
theorem cM.split:cM "str" "split" "str.split":=⟨F.plainAttrs_str,F.slot_str_split,F.type_str_split⟩
theorem cM.oa:cM "int" "bit_length" "int.bit_length":=⟨F.plainAttrs_int,F.slot_int_bit_length,F.type_int_bit_length⟩
end
def pY(w:a9)(g:aY)(t:au)(v:ai)(d:D)(h:dp):Prop:=
 Rep w g v d\/∃T gW l,v=.ref T/\h.IsTuple T gW/\aP w g gW.toList l/\d=.tup l/\∃ts c p,t=b7 ts c p
structure dz(w:a9)(A:bN)(g:aY)(I:ag)(t:au)(af:List D)(fp wr:List ag)(J:Nat->dp->Prop):Prop where
 sub:∀b∈wr,b∈fp
 frame:∀i h h',J i h->(∀b∈fp,∀o,h.get? b=aa o->h'.get? b=aa o)->J i h'
 nc:∀i h,J i h->∀b∈wr,∃o,h.get? b=aa o/\cV o
 item:∀i d (s:av) (Q:ai->av->Prop) (E:ai->av->Prop),af[i]?=aa d->J i s.heap->
  (∀v h' tk,pY w g t v d h'->J (i+1) h'->(∀b o,b∉wr->s.heap.get? b=aa o->h'.get? b=aa o)->Q v {s with heap:=h',toks:=tk})->
  wpAny (model PG w) A (pyNext (.ref I)) (λr aA=>∃v,r=aa v/\wpAny (model PG w) A (wu t (.ref I) v) (λ_ aT=>Q v aT) E aA) E s
 done:∀(s:av) (Q:Option ai->av->Prop) (E:ai->av->Prop),J af.length s.heap->
  (∀h' tk,(∀b o,b∉wr->s.heap.get? b=aa o->h'.get? b=aa o)->Q ak {s with heap:=h',toks:=tk})->wpAny (model PG w) A (pyNext (.ref I)) Q E s
 self:∀i (s:av) (Q:ai->av->Prop) (E:ai->av->Prop),J i s.heap->Q (.ref I) s->wpAny (model PG w) A (pyIter (.ref I)) Q E s
noncomputable def wX:List String:=["enumerate","zip","dict_itemiterator","dict_reverseitemiterator","odict_iterator","itertools.zip_longest","itertools.pairwise"]
theorem Ux{t:au}{I:ag}{n:String}{vs:Array ai}{Q:Unit->av->Prop}(W:s.heap.get? I=aa o)(Z:o.cls=aK n)(hd:o.data=bC vs)(H:wX.contains n=aH)(V:Q () s):
 wpAny (model PG w) A (wu t (.ref I) v) Q E s:=by
 have Y:∀a,wpAny (model PG w) A (do
  let o <-load I
  match o.cls,o.data with
  |aK n,bC vs=>
   if ["enumerate","zip","dict_itemiterator","dict_reverseitemiterator","odict_iterator","itertools.zip_longest","itertools.pairwise"].contains n&&vs[0]?==aa (rawInt a) then
    rule "for.unpacks-the-owned-tuple"
    updateField I 0 .none
  |_,_=>pure ()) Q E s:=λa=>by
  refine aJ (wpAny_load W ?_)
  rw[Z,hd]
  show wpAny _ A (if (wX.contains n&&vs[0]?==aa (rawInt a))=ae then _ else _) Q E s
  rw[be (by rw[H];simp)]
  exact a8 V
 cases t<;>first
  |exact a8 V
  |induction v<;>first|exact a8 V|exact Y _
theorem dz.of{I:ag}{t:au}{af:List D}{fp:List ag}{P:Nat->ai->Prop}(W:Walks PG w A I fp wr af.length P J)
 (Z:∀i v d,af[i]?=aa d->P i v->Rep w g v d)(nc:∀i h,J i h->∀b∈wr,∃o,h.get? b=aa o/\cV o)
 (Y:∀i h,J i h->∃o n vs,h.get? I=aa o/\o.cls=aK n/\o.data=bC vs/\wX.contains n=aH):dz w A g I t af fp wr J where
 sub:=W.sub
 frame:=W.frame
 nc:=nc
 item:=λi d s Q E hi H G=>W.item i s _ E (ez.mp hi).1 H λv h' tk C V B=>by
  refine ba λf=>?_
  obtain⟨o,n,vs,h1,h2,h3,h4⟩:=Y _ _ V
  apply f
  exact⟨v,rfl,Ux h1 h2 h3 h4 (G v h' tk (.inl (Z i v d hi C)) V B)⟩
 done:=W.done
 self:=W.self
theorem dz.ofT{I:ag}{af:List D}{fp:List ag}{P:Nat->Array ai->Prop}{Z:Nat->ag->dp->Prop}(W:WalksU PG w A I fp wr af.length P J Z)
 (B:∀i gW d,af[i]?=aa d->P i gW->∃l,d=.tup l/\aP w g gW.toList l)(nc:∀i h,J i h->∀b∈wr,∃o,h.get? b=aa o/\cV o):dz w A g I (b7 ts c p) af fp wr J where
 sub:=W.sub
 frame:=W.frame
 nc:=nc
 item:=λi d s Q E hi f hQ=>W.item i s _ E (ez.mp hi).1 f λT gW h' tk hv hT G hk=>by
  refine⟨.ref T,rfl,W.go ts c p i T _ _ E G λH V Y=>?_⟩
  obtain⟨l,rfl,hl⟩:=B i gW d hi hv
  refine hQ (.ref T) H tk (.inr ⟨T,gW,l,rfl,?_,hl,rfl,ts,c,p,rfl⟩) V λb o C e=>Y b o C (hk b o C e)
  exact hT.at λo e=>Y T o (W.apart i T _ G) e
 done:=W.done
 self:=W.self
theorem dz.list(R:A.handled=ak)(I Y:ag)(Z:Y≠I)(t:au)(V:Array ai)(l:List D)(h:aP w g V.toList l):
 dz w A g I t l [I,Y] [I] (λi h=>h.IsListIter I Y i/\h.IsList Y V):=by
 have e:V.size=l.length:=by have:=h.1;exact this
 have W:=Sd (prog:=PG) (w:=w) R I Y Z V
 replace W:=e▸W
 refine dz.of W (λi v d hi B=>h.2 i v d (by simpa using B) hi) (λi h H b f=>?_) λi h H=>?_
 ·obtain⟨o,G,C,hd⟩:=H.1
  have:b=I:=a_.1 f
  subst this
  exact⟨o,G,λvs q t e e'=>by replace e:=hd▸e;cases e;simp at e'⟩
 ·obtain⟨o,G,C,hd⟩:=H.1
  exact⟨o,_,_,G,C,hd,rfl⟩
inductive iT(w:a9)(A:bN)(s:av)(g:aY)(t:au)(k:List D->Prop)(it:ai)(aT:av):Prop
 |mk (I fp wr J af bb:_) (hi:it=.ref I) (N:Nx [] s g aT bb) (S:St w aT bb) (W:dz w A bb I t af fp wr J) (hJ:J 0 aT.heap) (hw:∀b∈wr,s.heap.get? b=ak/\bb b=ak) (mD:∀b∈fp,b∉TB/\b<aT.heap.objs.size/\(b∈wr\/∃o,bb b=aa o)) (hl:af.length<=10000) (hk:k af)
structure bK(n:Nat)(sc:bf)(ρ:ay)(t:au)(e:au)(k:List D->Prop):Prop where
 run:∀(w:a9) (A:bN) (ab:Env) (s:av) (g:aY),St w s g->Rm n A->c8 w s g ab sc ρ->∀E,wpAny (model PG w) A (eval e ab) (λx aA=>wpAny (model PG w) A (pyIter x) (iT w A s g t k) E aA) E s
section
variable {n:Nat} {sc:bf} {ρ:ay} {t:au}
inductive aco(k:List D->Prop)(d:D):Prop
 |mk (l:_) (e:d=.lst l) (hl:l.length<=10000) (hk:k l)
theorem bK.list{k:List D->Prop}(h:aj n sc ρ e (aco k)):bK n sc ρ t e k:=.mk λw A ab s g S R V E=>
 bg (h.run w A ab s g S R V E) (λv aA q_=>by
  obtain⟨aN,d,Z,W,G,l,hd,hl,hk⟩:=q_
  subst hd
  refine G.ka λa nn C H rl=>?_
  refine tq (⟨_,W.sub _ _ H,rfl,nn,rfl⟩:aA.heap.IsList a C) ?_
  refine(W.ext' (h':=aA.heap.push {cls:=aK "list_iterator",data:=bC #[.ref a,.int 0 0]}) (tk:=aA.toks) λb o e=>bZ _ e).elim λf Y=>?_
  have hI:=cB aA.heap (o:={cls:=aK "list_iterator",data:=bC #[.ref a,.int 0 0]}) rfl
  have e_:a≠aA.heap.objs.size:=λe=>by have:=W.sub _ _ H;rw[e,lj] at this;exact ns this
  have gn:aN aA.heap.objs.size=ak:=by
   induction q:aN aA.heap.objs.size with
   |none=>rfl
   |some o=>have:=W.sub _ _ q;rw[lj] at this;exact ns this
  have sn:s.heap.get? aA.heap.objs.size=ak:=by
   induction q:s.heap.get? aA.heap.objs.size with
   |none=>rfl
   |some o=>obtain⟨o',e'⟩:=Z.there _ _ q (ca);rw[lj] at e';exact ns e'
  refine⟨_,[aA.heap.objs.size,a],[aA.heap.objs.size],_,l,aN,rfl,Z.trans f,Y,dz.list R.2.2 _ a e_ t C l rl,⟨⟨_,hI,rfl,rfl⟩,⟨_,Y.sub _ _ H,rfl,nn,rfl⟩⟩,λb hb=>?_,λb hb=>?_,hl,hk⟩
  ·have:b=aA.heap.objs.size:=a_.1 hb
   subst this;exact⟨sn,gn⟩
  ·refine(bT.mp hb).elim (λe=>?_) λhb=>?_
   ·subst e;exact⟨Y.dQ hI (.inl (by simp)),cq hI,.inl (bi)⟩
   ·have:b=a:=a_.1 hb
    subst this
    exact⟨Y.dQ (Y.sub _ _ H) (.inl (by simp)),cq (Y.sub _ _ H),.inr ⟨_,H⟩⟩)
end
noncomputable def kn(V:List (Str×ag))(aI:List (Str×fP)):List (Str×ag):=(aI.filterMap λp=>if p.2==.free then (V.lookup p.1).map λc=>(p.1,c) else ak).reverse
theorem P7(h:∀p∈scope.names,p.2=.free->∃c,ab.cells.lookup p.1=aa c):wT scope ab=pure (kn ab.cells scope.names):=by
 have G:∀(aI:List (Str×fP)) (V:List (Str×ag)),(∀p∈aI,p.2=.free->∃c,ab.cells.lookup p.1=aa c)->
  (forIn aI V λx r=>match x with
   |(name,W)=>if (W==wD)=ae then (do let a <-cellOf ab name;pure (mN ((name,a)::r))) else pure (mN r):Sem (List (Str×ag)))=pure (kn ab.cells aI++V):=by
  intro aI
  induction aI with
  |nil=>intro V _;rfl
  |cons x r C=>
   intro V B
   obtain⟨nm,Z⟩:=x
   simp only[wt]
   have hr:∀p∈r,p.2=.free->∃c,ab.cells.lookup p.1=aa c:=λp hp=>B p (bM _ hp)
   induction H:Z==wD with
   |true=>
    obtain⟨c,f⟩:=B (nm,Z) bi (eq_of_beq H)
    have e:cellOf ab nm=pure c:=by unfold cellOf;rw[f]
    simp only[H,if_true,e,pure_bind]
    refine(C _ hr).trans ?_
    have Y:Z=.free:=eq_of_beq H
    subst Y
    unfold kn
    rw[nF]
    simp[(f:ab.cells.lookup nm=aa c)]
   |false=>
    refine(C _ hr).trans ?_
    have Y:¬Z=.free:=by simpa using H
    unfold kn
    rw[nF]
    simp[Y]
 have:=G scope.names [] h
 rw[cR] at this
 dsimp only[wT]
 refine this.symm▸?_
 rw[bind_pure]
theorem Yk{V:Type}{f:α->Option β}{k:α->V}{k':β->V}(h:∀p q,f p=aa q->k' q=k p)(l:List α):((l.filterMap f).map k').Sublist (l.map k):=by
 induction l with
 |nil=>exact PA _
 |cons p r Y=>
  cases e:f p with
  |none=>rw[N6 e];exact Y.cons _
  |some q=>rw[N7 e,d8,h p q e];exact Y.cons_cons _
theorem nQ{V:List (Str×ag)}{aI:List (Str×fP)}(Y:(aI.map (·.1)).Nodup){c:ag}:(kn V aI).lookup x=aa c<->((x,wD)∈aI/\V.lookup x=aa c):=by
 have Nw:∀{p:Str×fP} {q:Str×ag},(if p.2==.free then (V.lookup p.1).map λc=>(p.1,c) else ak)=aa q->p.2=.free/\q.1=p.1/\V.lookup p.1=aa q.2:=λh=>
  have r:=NT.mp h
  (kA.mp r.2).elim λc e=>⟨eq_of_beq r.1,e.2▸rfl,e.2▸e.1⟩
 have Z:((kn V aI).map (·.1)).Nodup:=by
  unfold kn
  rw[wj]
  exact HT ((Yk (λp q h=>(Nw h).2.1) aI).nodup Y)
 refine⟨λh=>?_,λh=>lX Z (iM.mpr (qI.mpr ⟨(x,.free),h.1,(bo rfl).trans (h.2▸rfl)⟩))⟩
 obtain⟨p,H,e⟩:=qI.mp (iM.mp (eA h))
 have i:=Nw e
 have W:x=p.1:=i.2.1
 have G:p=(x,.free):=xo W.symm i.1
 exact⟨G▸H,W▸i.2.2⟩
def Bd.Dh(b:Bd):Option D:=Bd.rec (motive:=λ_=>Option D) aa (λ_ _=>ak) (λ_ _ _ _=>ak) (λ_ _ _ _=>ak) (λ_=>ak) (λ_ _=>ak) (λ_ _ _ _=>ak) (λ_ _ _=>ak) (λ_=>ak) ak b
theorem Bd.Kr{b:Bd}(h:b.Dh=aa d):b=.dat d:=by
 induction b with
 |dat a=>exact aQ Bd.dat (aW h)
 |_=>exact ns h
theorem Uy{c:Bool}{o:Option α}{a:α}(h:(bif c then o else ak)=aa a):c=ae/\o=aa a:=by
 induction c with
 |false=>exact ns h
 |true=>exact⟨rfl,h⟩
def cZ(aF:bf)(ρ:ay):ay:=aF.names.filterMap λp=>bif p.2==.free then ((ρ.lookup p.1).bind Bd.Dh).map λd=>(p.1,.dat d) else ak
theorem AG{b:Bd}(h:(cZ aF ρ).lookup x=aa b):(x,wD)∈aF.names/\∃d,b=.dat d/\ρ.lookup x=aa (.dat d):=
 (qI.mp (eA h)).elim λp q=>
  have r:=Uy q.2
  (kA.mp r.2).elim λd hd=>(iq.mp hd.1).elim λc V=>
   have e:=wK hd.2
   have Y:p=(x,.free):=xo e.1 (eq_of_beq r.1)
   ⟨Y▸q.1,d,e.2.symm,e.1▸Bd.Kr V.2▸V.1⟩
theorem Ql{f:Str×fP->fP}{aI:List (Str×fP)}{k:fP}(h:(aI.map λp=>(p.1,f p)).lookup x=aa k):∃Y,aI.lookup x=aa Y/\k=f (x,Y):=by
 induction aI with
 |nil=>exact ns h
 |cons p r W=>
  rw[d8,iu] at h
  rw[iu]
  induction V:x==p.1 with
  |true=>rw[V] at h;obtain rfl:=eq_of_beq V;exact⟨p.2,rfl,(aW h).symm⟩
  |false=>rw[V] at h;exact W h
theorem FZ{f:Str×fP->fP}:∀{aI:List (Str×fP)} {x:Str},(aI.map λp=>(p.1,f p)).lookup x=ak->aI.lookup x=ak
 |[],x,h=>rfl
 |(y,Y)::r,x,h=>by
  rw[d8,iu] at h
  rw[iu]
  induction V:x==y with
  |true=>simp only[V] at h;exact sn h
  |false=>exact FZ (V▸h)
theorem QZ:(relabel scope ab).names=scope.names.map λp=>(p.1,(λp:Str×fP=>if (p.2==.free&&ab.scope.kind==fu&&ab.kindOf p.1==aa .cell)=ae then lh else p.2) p):=by
 unfold relabel
 simp only
 apply lN
 rintro⟨n,k⟩ _
 split<;>rfl
theorem Sh(x:Str):KS ((relabel aF ab).names.lookup x) (aF.names.lookup x):=by
 rw[QZ]
 induction h:(aF.names.map λp=>(p.1,(λp:Str×fP=>if (p.2==.free&&ab.scope.kind==fu&&ab.kindOf p.1==aa .cell)=ae then lh else p.2) p)).lookup x with
 |none=>rw[FZ h];exact .inl rfl
 |some k=>
  obtain⟨W,Z,V⟩:=Ql h
  rw[Z]
  by_cases Y:(W==.free&&ab.scope.kind==fu&&ab.kindOf x==aa .cell)=ae
  ·simp only[Y,if_true] at V
   subst V
   simp only[bB,beq_iff_eq] at Y
   rw[Y.1.1];exact .inr ⟨rfl,rfl⟩
  ·simp only[Y] at V
   subst V;exact .inl rfl
def dD(aF sc:bf):Bool:=(d5 aF).isNone&&decide ((aF.names.map (·.1)).Nodup)&&(aF.kind==fu)&&aF.names.all λp=>p.2 != .free||sc.names.lookup p.1==aa .cell||sc.names.lookup p.1==aa .free
theorem dD.spec(h:dD aF sc=ae):(aF.names.map (·.1)).Nodup/\aF.kind=fu/\∀x,(x,wD)∈aF.names->sc.names.lookup x=aa .cell\/sc.names.lookup x=aa .free:=by
 simp only[dD,bB,decide_eq_true_eq,beq_iff_eq,ef] at h
 refine⟨h.1.1.2,h.1.2,λx V=>?_⟩
 have:=h.2 _ V
 simpa using this
theorem dD.ZZ(h:dD aF sc=ae):d5 aF=ak:=by
 simp only[dD,bB] at h
 simpa using h.1.1.1
theorem dR.of(V:c8 w s g ab sc ρ)(Z:dD aF sc=ae):wT aF ab=pure (kn ab.cells aF.names)/\dR w s g [] aF (kn ab.cells aF.names) (cZ aF ρ) (λ_=>[]):=by
 refine(dD.spec Z).elim λY H=>H.elim λhk G=>?_
 refine⟨P7 λp hp he=>V.e8 p.1 (G p.1 (by obtain⟨a,b⟩:=p;subst he;exact hp)),λx c h=>V.cP x c ((nQ Y).mp h).2,λx y c C B=>V.fg x y c ((nQ Y).mp C).2 ((nQ Y).mp B).2,λx h=>?_,λx c h=>lX Y ((nQ Y).mp h).1,λx b h=>?_,λx b h a f=>by simp at f,λx y b b' _ _ _ a f=>by simp at f⟩
 ·have W:=eA h
  obtain⟨c,hc⟩:=V.e8 x (G x W)
  exact⟨c,(nQ Y).mpr ⟨W,hc⟩⟩
 ·refine ba λN_=>?_
  obtain⟨W,d,rfl,hd⟩:=AG h
  obtain⟨v,ad,C,B⟩:=V.var x _ hd
  apply N_
  rcases C with ⟨q1,_⟩|⟨q1,c,q2,q3,q4⟩
  ·exfalso
   have:=V.ks x
   rw[q1] at this
   rcases G x W with e|e<;>rw[e] at this<;>rcases this with q|q<;>simp at q
  ·exact⟨c,v,(nQ Y).mpr ⟨W,q2⟩,q4,rfl,λ_ _=>⟨B.1,rfl⟩⟩
theorem Av:∀(aI:List (Str×fP)) (n:Nat) (x:Str) (c:ag),(x,c)∈gQ n aI []->n<=c
 |[],n,x,c,h=>by cases h
 |(y,V)::r,n,x,c,h=>by
  unfold gQ at h
  split at h
  ·rw[ll] at h
   rcases cQ.mp h with h|h
   ·exact qK (Av r _ x c h)
   ·simp at h
    exact bn h.2.symm
  ·exact Av r _ x c h
theorem bj.Wp{aB:Str->List ag}(H:bj w [] aA aN s g ab sc ρ aB)(V:St w aw aE)(N:Nx [] aw aE aA aN):bj w [] aw aE s g ab sc ρ aB:=by
 have no:∀a,aA.heap.get? a=ak->aw.heap.get? a=ak:=λa e=>by
  induction q:aw.heap.get? a with
  |none=>rfl
  |some o=>obtain⟨o',W⟩:=N.there a o q (ca);exact ns (e.symm.trans W)
 refine⟨V,dq.nil,H.st,N.trans H.nx,H.kind,H.glob,H.gv,H.ks,H.lam,H.ik,H.gE,?_,H.cP,λx c h Z=>?_,H.fg,H.e8,H.var,λx b h a G=>?_,H.e9⟩
 ·rcases H.iY with q|q
  ·exact .inl (no _ q)
  ·simp at q
 ·rcases H.lw x c h Z with q|q
  ·exact .inl (no _ q)
  ·simp at q
 ·refine(H.dI x b h a G).elim λY C=>Y.elim λB f=>?_
  refine⟨⟨λhf=>?_,f⟩,C⟩
  rcases B hf with q|q
  ·exact .inl (no _ q)
  ·simp at q
theorem Ti{Q:Env->av->Prop}(S:St w s g)(V:c8 w s g ab sc ρ)(Y:dD aF sc=ae)
 (B:∀cenv s',bj w [] s g s' g {cenv with scope:=relabel aF ab} aF (cZ aF ρ) (λ_=>[])->(∀b o,s.heap.get? b=aa o->s'.heap.get? b=aa o)->cenv.locals=s.heap.objs.size->(∀x c,cenv.cells.lookup x=aa c->(s.heap.objs.size<c/\aF.names.lookup x=aa .cell)\/ab.cells.lookup x=aa c)->Q cenv s'):wpAny (model PG w) A (Aa aF ab.globals (kn ab.cells aF.names) [] ab.qual ak .none (aa ab)) Q E s:=by
 have W:=(dD.spec Y).1;have f:=(dD.spec Y).2.1
 simp only[Aa,Option.isSome_some,if_true]
 refine BS ?_
 refine aJ (Qw _ (λname Z H=>by cases y8:Z==lh<;>rfl) _ _ _ _ ?_)
 refine(show ({s with heap:=s.heap.push {cls:=aK "dict",data:=.dict #[]}}:av).heap.objs.size=s.heap.objs.size+1 from gZ ..)▸?_
 refine fZ (a8 (B _ _ ?_ (λb o e=>ws _ _ b o (bZ _ e)) rfl λx c h=>?_))
 rotate_left
 ·have h:(gQ (s.heap.objs.size+1) aF.names (kn ab.cells aF.names)).lookup x=aa c:=h
  rw[ll,pc] at h
  induction q:(gQ (s.heap.objs.size+1) aF.names []).lookup x with
  |some c'=>
   rw[q] at h;obtain rfl:=aW h
   exact .inl ⟨Av _ _ _ _ (eA q),lX W (tK _ _ _ _ (eA q))⟩
  |none=>rw[q] at h;exact .inr ((nQ W).mp h).2
 exact bj.fresh (tk:=s.toks) S dq.nil (dR.of V Y).2 W (Kp _ _) f (λx=>Sh x) (λc q e=>by exact ns ((dD.ZZ Y).symm.trans e)) rfl V.glob V.gv rfl
structure c0(n:Nat)(sc:bf)(ρ:ay)(t:au)(d:D)(k:ay->Prop):Prop where
 run:∀(w:a9) (A:bN) (ab:Env) (mu:List ag) (aw:av) (aE:aY) (s:av) (g:aY) (aB:Str->List ag) (v:ai),bj w mu aw aE s g ab sc ρ aB->Rm n A->pY w g t v d s.heap->∀E,
  wpAny (model PG w) A (assign t ab v) (λ_=>De w mu aw aE g ab sc k) E s
def fN(n:Nat)(sc:bf)(ρ:ay):List au->(Bool->Prop)->Prop
 |[],k=>k ae
 |c::r,k=>bH n sc ρ c λb=>if b then fN n sc ρ r k else k aH
section
variable {n:Nat} {sc:bf} {ρ:ay}
theorem c0.name{k:ay->Prop}(V:mine sc x=ae)(h:k ((x,.dat d)::ρ)):c0 n sc ρ (aS x p) d k:=.mk λw A ab mu aw aE s g aB v H R r E=>by
 rcases r with r|⟨_,_,_,_,_,_,_,_,_,_,e⟩
 ·exact(fK.name (n:=n) V h).run w A ab mu aw aE s g aB v H R r E
 ·cases e
theorem c0.tup{ds:List D}{k:ay->Prop}(V:ts.all cu=ae)(hl:ds.length=ts.length)(h:kO n sc ρ ts ds k):c0 n sc ρ (b7 ts c p) (.tup ds) k:=.mk λw A ab mu aw aE s g aB v H R r E=>by
 rcases r with r|⟨T,gW,l,rfl,W,Y,e,_⟩
 ·exact(fK.tup V hl h).run w A ab mu aw aE s g aB v H R r E
 ·cases e
  obtain⟨Z,G⟩:=tF (ab:=ab) V
  refine zG R.2.2 W (by simp only[Z,<-hl,<-Y.1];rfl) G λh' C=>?_
  obtain⟨N,B⟩:=H.st.ext' (tk:=s.toks) (ExtBut.keeps C)
  exact h.ok V w A ab mu aw aE _ g aB (H.step N B) R Y E
theorem fN.false{Q:Bool->av->Prop}:∀{bV:List au} {s:av},Q aH s->
 wpAny (model PG w) A (forIn bV aH λc r=>if r=ae then do let ok <-isTrue c ab (eval c ab);pure (mN ok) else pure (mN r)) Q E s:=by
 intro Y
 induction Y with
 |nil=>
  intro s h
  exact a8 h
 |cons c r V=>
  intro s h
  rw[wt]
  exact fZ (V h)
theorem fN.ok:∀{bV:List au} {k:Bool->Prop},fN n sc ρ bV k->∀(w:a9) (A:bN) (ab:Env) (s:av) (g:aY),St w s g->Rm n A->c8 w s g ab sc ρ->∀E,
 wpAny (model PG w) A (forIn bV ae λc r=>if r=ae then do let ok <-isTrue c ab (eval c ab);pure (mN ok) else pure (mN r)) (mn w s g k) E s:=by
 intro f
 induction f with
 |nil=>
  intro k h w A ab s g S R V E
  exact a8 ⟨g,Nx.refl _ _ _,S,h⟩
 |cons c r B=>
  intro k h w A ab s g S R V E
  rw[wt]
  refine aJ (aJ (h.wp S R V λb aA aN Y W Z=>a8 ?_))
  induction b with
  |true=>exact bg (B Z w A ab aA aN W R (V.step Y S) E) (λb aT q_=>by obtain⟨bb,H,G,C⟩:=q_;exact⟨bb,Y.trans H,G,C⟩)
  |false=>exact fN.false ⟨aN,Y,W,Z⟩
end
section
variable {w:a9} {A:bN} {R:ux->av->Prop} {s:av}
theorem Fb{g:Comprehension}{d:Nat}{Y V:ai}(G:(HJ e)[d]?=aa g)(C:(g.is_async != 0)=aH)(W:(model PG w).den (.compStart e d Y V ab)=(AW e d Y V ab).onRaise (λx=>do rD x ab;standAt FN))(B:A.under (.compStart e d Y V ab)=A)
 (H:codeAny (model PG w) A (jI e d Y V ab) R s)
 (h:wpAny (model PG w) A (pyIter Y) (λZ s'=>codeAny (model PG w) A (jI e d Z V ab) R s') (notedBy (model PG w) A ab λx s'=>R (.error x) s') s):
 codeAny (model PG w) A (.compStart e d Y V ab) R s:=by
 refine FO ?_
 simp only[W,B]
 refine wpAny_notedAt ?_
 dsimp only[AW]
 refine G▸?_
 simp only[Option.elim_some,C,Pn,if_false]
 refine aJ (pi (wpAny_ite ?_))
 split
 ·first
   |exact fZ (a8 (bQ rfl H))
   |exact a8 (bQ rfl H)
 ·refine kg ?_
  exact jd (aJ (er h (λZ s' h'=>a8 (bQ rfl h')) λ_ _ x=>x))
noncomputable def uz(e bp iter:au)(bV:List au)(m:Sem Unit)(V Y:ai)(ab:Env)(d:Nat):Sem t0:=do
 standAt iter.pos
 match <-pyNext V with
 |none=>pure (.done .next)
 |some v=>
  wu bp V v
  assign bp ab v
  let mut ok:=ae
  for c in bV do
   if ok then ok <-isTrue c ab (eval c ab)
  if ok then m
  again (jI e d V Y ab)
theorem PN{bp:au}{m:Sem Unit}{d:Nat}{Z V:ai}(he:compTurn e d Z V ab=uz e bp iter bV m Z V ab d)(f:(model PG w).den (jI e d Z V ab)=(compTurn e d Z V ab).onRaise (λx=>do rD x ab;zY x))(hu:A.under (jI e d Z V ab)=A)(I:Nat->av->Prop)
 (turn:∀n s,I n s->wpAny (model PG w) A (pyNext Z) (λr aA=>match r with
  |none=>R (.ok .next) aA
  |some v=>wpAny (model PG w) A (wu bp Z v) (λ_ Y=>wpAny (model PG w) A (assign bp ab v) (λ_ aT=>
   wpAny (model PG w) A (forIn bV ae λc r=>if r=ae then do let ok <-isTrue c ab (eval c ab);pure (mN ok) else pure (mN r)) (λok W=>
    if ok=ae then wpAny (model PG w) A m (λ_ H=>∃m,m<n/\I m H) (notedBy (model PG w) A ab λe s'=>R (.error e) s') W
    else ∃m,m<n/\I m W) (notedBy (model PG w) A ab λe s'=>R (.error e) s') aT) (notedBy (model PG w) A ab λe s'=>R (.error e) s') Y) (notedBy (model PG w) A ab λe s'=>R (.error e) s') aA) (notedBy (model PG w) A ab λe s'=>R (.error e) s') s)
 (n:Nat)(h:I n s):codeAny (model PG w) A (jI e d Z V ab) R s:=by
 refine codeAny_loop rfl I (λn s hI=>?_) n h
 simp only[f,hu]
 refine wpAny_noted ?_
 simp only[he]
 dsimp only[uz]
 refine jd (aJ (er (turn n s hI) (λr aA G=>?_) λ_ _ h'=>h'))
 induction r with
 |none=>exact a8 G
 |some v=>
  refine aJ (er G (λ_ Y B=>?_) λ_ _ h'=>h')
  refine aJ (er B (λ_ aT gd=>aJ (er gd (λok W C=>?_) λ_ _ h'=>h')) λ_ _ h'=>h')
  induction ok with
  |false=>exact a8 ⟨rfl,C⟩
  |true=>exact aJ (er C (λ_ H yK=>a8 ⟨rfl,yK⟩) λ_ _ h'=>h')
end
theorem bj.rV{aB:Str->List ag}(A:bj w mu aw aE s g ab sc ρ aB)
 (Z:∀b o,b∉wr->s.heap.get? b=aa o->h'.get? b=aa o)(Y:∀a∈wr,(aw.heap.get? a=ak\/a∈mu)/\g a=ak/\∃o,s.heap.get? a=aa o/\cV o)(H:ab.locals∉wr)(G:∀x c,ab.cells.lookup x=aa c->c∉wr)
 (C:∀x b,ρ.lookup x=aa b->∀a∈aB x,a∉wr):bj w mu aw aE {s with heap:=h',toks:=tk} g ab sc ρ aB:=
 (St.changes (tk:=tk) A.gT A.st A.nx A.fz Y Z).elim λN B=>A.ach N B (λa h=>(Y a h).1) H G C λa f o e=>(Y a f).elim λ_ V=>V.elim λ_ V=>V.elim λo' V=>V.elim λW c=>by rw[e] at W;obtain rfl:=aW W;exact c
def eH(ρ:ay):Prop:=∀x b,ρ.lookup x=aa b->∃d,b=.dat d
theorem eH.aB{aB:Str->List ag}(H:bj w mu aw aE s g ab sc ρ aB)(h:eH ρ)(x:Str)(b:Bd)(e:ρ.lookup x=aa b):b.La=aH/\b.isFn=aH/\aB x=[]:=by
 refine(h x b e).elim λd V=>?_;subst V
 obtain⟨v,_,q⟩:=H.var x _ e
 exact⟨rfl,rfl,q.2⟩
theorem pY.mono{t:au}(V:∀a o,g a=aa o->g' a=aa o)(x:pY w g t v d h):pY w g' t v d h:=by
 rcases x with x|⟨T,gW,l,a,b,c,r⟩
 ·exact .inl (x.mono V)
 ·exact .inr ⟨T,gW,l,a,b,c.mono V,r⟩
structure p9{α:Type}(AC:aY->Obj->List α->Prop):Prop where
 mono:∀g g' o l,(∀a o,g a=aa o->g' a=aa o)->AC g o l->AC g' o l
 cls:∀g o l,AC g o l->o.cls≠.none
 nf:∀g o l,AC g o l->∀vs,o.data≠bC vs
structure d9(w:a9)(sa:av)(ga:aY)(cenv:Env)(aF:bf)(bE:ay)(D:ag)(g0:aY)(wc:List ag)(J:Nat->dp->Prop){α:Type}(AC:aY->Obj->List α->Prop)(i:Nat)(l:List α)(s:av)(g:aY):Prop where
 act:∃aB,bj w [] sa ga s g cenv aF bE aB
 it:J i s.heap
 acc:∃o,s.heap.get? D=aa o/\AC g o l
 off:g D=ak
 up:∀a o,g0 a=aa o->g a=aa o
 wn:∀b∈wc,g b=ak/\∃o,s.heap.get? b=aa o
structure n6(sa:av)(cenv:Env)(aF:bf)(D:ag)(fp wr wc:List ag):Prop where
 Dn:sa.heap.get? D=ak
 DL:D≠cenv.locals
 DC:∀x c,cenv.cells.lookup x=aa c->c≠D
 Df:D∉fp
 wn:∀b∈wr,sa.heap.get? b=ak
 fL:cenv.locals∉fp
 fC:∀x c,cenv.cells.lookup x=aa c->aF.names.lookup x=aa .cell->c∉fp
 wC:∀x c,cenv.cells.lookup x=aa c->c∉wr
 fT:∀b∈fp,b∉TB
 s1:∀b∈wr,b∈wc
 s2:∀b∈wc,b∈fp
section
variable {w:a9} {sa:av} {ga g0:aY} {cenv:Env} {aF:bf} {bE:ay} {D:ag} {fp wr wc:List ag} {J:Nat->dp->Prop} {i:Nat} {α:Type} {AC:aY->Obj->List α->Prop} {l:List α} {s s':av} {g g':aY} {A:bN} {I:ag} {t:au} {af:List Mine.Internal.D}
theorem d9.pure(K:p9 AC)(C:d9 w sa ga cenv aF bE D g0 wc J AC i l s g)(F:n6 sa cenv aF D fp wr wc)(W:dz w A g0 I t af fp wr J)(N:Nx [] s g s' g')(G:St w s' g'):d9 w sa ga cenv aF bE D g0 wc J AC i l s' g':=by
 refine C.act.elim λaB H=>?_
 obtain⟨o,Y,Z⟩:=C.acc
 refine⟨⟨aB,H.step N G⟩,W.frame i _ _ C.it λb V o e=>N.keep b o e (F.fT b V) (ca),⟨o,N.get H.st Y (.inl (K.cls _ _ _ Z)) (by simp),K.mono _ _ _ _ N.gg Z⟩,?_,λa o e=>N.gg _ _ (C.up a o e),λb V=>?_⟩
 ·exact N.old _ _ Y C.off (by simp)
 ·obtain⟨q,o,e⟩:=C.wn b V
  exact⟨N.old _ _ e q (by simp),N.there b o e (by simp)⟩
theorem d9.next(C:d9 w sa ga cenv aF bE D g0 wc J AC i l s g)(F:n6 sa cenv aF D fp wr wc)(W:dz w A g0 I t af fp wr J)(hd:eH bE)(G:J j h')(Y:∀b o,b∉wr->s.heap.get? b=aa o->h'.get? b=aa o):
 d9 w sa ga cenv aF bE D g0 wc J AC j l {s with heap:=h',toks:=tk} g:=by
 refine C.act.elim λaB H=>?_
 refine C.acc.elim λo Z=>Z.elim λf h2=>?_
 refine⟨⟨aB,H.rV Y (λa V=>⟨.inl (F.wn a V),(C.wn a (F.s1 a V)).1,W.nc i _ C.it a V⟩) (λq=>F.fL (W.sub _ q)) F.wC λx b e=>?_⟩,G,⟨o,Y _ _ (λq=>F.Df (W.sub _ q)) f,h2⟩,C.off,C.up,λb B=>⟨(C.wn b B).1,?_⟩⟩
 ·have q1:=(hd.aB H x b e).1;have q3:=(hd.aB H x b e).2.2
  exact λa V=>by rw[q3] at V;simp at V
 ·by_cases q:b∈wr
  ·obtain⟨o,e,_⟩:=W.nc _ _ G b q;exact⟨o,e⟩
  ·obtain⟨_,o,e⟩:=C.wn b B;exact⟨o,Y b o q e⟩
theorem d9.target(K:p9 AC){d:Mine.Internal.D}{k:ay->Prop}(C:d9 w sa ga cenv aF bE D g0 wc J AC i l s g)(F:n6 sa cenv aF D fp wr wc)(W:dz w A g0 I t af fp wr J)(hd:eH bE)(R:Rm n A)(hv:pY w g0 t v d s.heap)(h:c0 n aF bE t d λaC=>eH aC/\k aC)(E:ai->av->Prop):
 wpAny (model PG w) A (assign t cenv v) (λ_ s'=>∃g' aC,d9 w sa ga cenv aF aC D g0 wc J AC i l s' g'/\eH aC/\k aC) E s:=by
 refine C.act.elim λaB H=>?_
 obtain⟨o,f,h2⟩:=C.acc
 have H1:=H.rebase.1;have V:=H.rebase.2
 have Z:∀a∈iS cenv aF bE aB,a=cenv.locals\/∃x,cenv.cells.lookup x=aa a/\aF.names.lookup x=aa .cell:=λa ha=>by
  rcases w_ ha with q|q|⟨x,b,q1,q2,q3⟩
  ·exact .inl q
  ·exact .inr q
  ·rw[(hd.aB H x b q1).2.2] at q3;simp at q3
 have Dt:D∉iS cenv aF bE aB:=λq=>by
  rcases Z D q with e|⟨x,e,_⟩
  ·exact F.DL e
  ·exact F.DC x D e rfl
 have ft:∀b∈fp,b∉iS cenv aF bE aB:=λb V q=>by
  rcases Z b q with e|⟨x,e,e'⟩
  ·exact F.fL (e▸V)
  ·exact F.fC x b e e' V
 refine bg (h.run w A cenv _ s g s g aB v H1 R (hv.mono C.up) E) (λ_ s' ⟨g',aC,G,Y,m,hk⟩=>?_)
 refine⟨g',aC,⟨⟨G,?_⟩,W.frame i _ _ C.it λb V o e=>Y.nx.keep b o e (F.fT b V) (ft b V),⟨o,Y.nx.get H.st f (.inl (K.cls _ _ _ h2)) Dt,K.mono _ _ _ _ m h2⟩,?_,λa o e=>m _ _ (C.up a o e),λb V=>?_⟩,hk⟩
 ·exact H.Ch Y V
 ·exact Y.nx.old _ _ f C.off Dt
 ·refine(C.wn b V).elim λq B=>B.elim λo e=>?_
  exact⟨Y.nx.old _ _ e q (ft b (F.s2 b V)),Y.nx.there b o e (ft b (F.s2 b V))⟩
theorem d9.stored{G:Obj}{l':List α}(K:p9 AC)(C:d9 w sa ga cenv aF bE D g0 wc J AC i l s g)(F:n6 sa cenv aF D fp wr wc)(W:dz w A g0 I t af fp wr J)(hd:eH bE)
 (hs:∀b,b≠D->h'.get? b=s.heap.get? b)(f:h'.get? D=aa G)(Y:AC g G l'):d9 w sa ga cenv aF bE D g0 wc J AC i l' {s with heap:=h',toks:=tk} g:=by
 refine C.act.elim λaB H=>?_
 obtain⟨o,h1,h2⟩:=C.acc
 have Z:∀b∈fp,b≠D:=λb V e=>F.Df (e▸V)
 have B:∀b o,b∉[D]->s.heap.get? b=aa o->h'.get? b=aa o:=λb o V e=>(hs b (by simpa using V)).trans e
 refine⟨⟨aB,H.rV (tk:=tk) B (λa Y=>?_) (λq=>F.DL (a_.mp q).symm) (λx c hc q=>F.DC x c hc (a_.1 q)) λx b e=>?_⟩,W.frame i _ _ C.it λb V o e=>B b o (by simpa using Z b V) e,⟨G,f,Y⟩,C.off,C.up,λb V=>(C.wn b V).elim λq q_=>q_.elim λo e=>⟨q,o,B b o (by simpa using Z b (F.s2 b V)) e⟩⟩
 ·have:a=D:=a_.1 Y
  subst this
  exact⟨.inl F.Dn,C.off,_,h1,cV.of (K.nf _ _ _ h2)⟩
 ·have q1:=(hd.aB H x b e).1;have q3:=(hd.aB H x b e).2.2
  exact λa Y=>by rw[q3] at Y;simp at Y
theorem d9.weaken(C:d9 w sa ga cenv aF aC D g0 wc J AC i l s g)(h:Sub bE aC):d9 w sa ga cenv aF bE D g0 wc J AC i l s g:=
 C.act.elim λaB H=>⟨⟨aB,H.weaken h⟩,C.it,C.acc,C.off,C.up,C.wn⟩
theorem d9.st(C:d9 w sa ga cenv aF bE D g0 wc J AC i l s g):St w s g:=C.act.elim λ_ H=>H.st
theorem d9.cI(C:d9 w sa ga cenv aF bE D g0 wc J AC i l s g):c8 w s g cenv aF bE:=C.act.elim λ_ H=>H.cI
end
theorem eH.cons(h:eH ρ):eH ((x,.dat d)::ρ):=λy b e=>by
 rw[j7] at e
 split at e
 ·obtain rfl:=aW e;exact⟨d,rfl⟩
 ·exact h y b e
theorem eH.cap:eH (cZ aF ρ):=λx b e=>(AG e).elim λ_ V=>V.elim λd V=>V.elim λh _=>⟨d,h⟩
structure kN{α:Type}(N:Nat)(e bp iter:au)(bV:List au)(mk:Sem ai)(AC:aY->Obj->List α->Prop)(w:a9)(n:Nat)(aF:bf)(P:(List α->D->List α)->D->ay->Prop)(m:ai->Env->Sem Unit):Prop where
 ok:p9 AC
 cls:∃gs,HJ e=⟨bp,iter,bV,0⟩::gs
 Mb:∀it D ab,(model PG w).den (.compStart e 0 it (.ref D) ab)=(AW e 0 it (.ref D) ab).onRaise (λx=>do rD x ab;standAt FN)
 Ks:∀(A:bN) it D ab,A.under (.compStart e 0 it (.ref D) ab)=A
 turn:∀it D ab,compTurn e 0 it (.ref D) ab=uz e bp iter bV (m (.ref D) ab) it (.ref D) ab 0
 den:∀it D ab,(model PG w).den (jI e 0 it (.ref D) ab)=(compTurn e 0 it (.ref D) ab).onRaise (λx=>do rD x ab;zY x)
 under:∀(A:bN) it D ab,A.under (jI e 0 it (.ref D) ab)=A
 make:∀(A:bN) (E:ai->av->Prop) (s:av) (Q:ai->av->Prop),(∀o,(∀g,AC g o [])->o.isFreed=aH->Q (.ref s.heap.objs.size) {s with heap:=s.heap.push o})->wpAny (model PG w) A mk Q E s
 add:∀(F:List α->D->List α) (d:D) (ρ:ay) (D:ag) (A:bN) (cenv:Env) (sa:av) (ga:aY) (fp wr wc:List ag) (J:Nat->dp->Prop) (i:Nat) (l:List α) (s:av) (g g0:aY) (I:ag) (t:au) (af:List Mine.Internal.D) (E:ai->av->Prop),P F d ρ->eH ρ->Rm n A->n6 sa cenv aF D fp wr wc->dz w A g0 I t af fp wr J->(∀i h,J i h->∀b∈fp,∃o,h.get? b=aa o)->
  d9 w sa ga cenv aF ρ D g0 wc J AC i l s g->D∉TB->l.length<=N->wpAny (model PG w) A (m (.ref D) cenv) (λ_ s'=>∃g',d9 w sa ga cenv aF ρ D g0 wc J AC i (F l d) s' g') E s
theorem dz.ex{I:ag}{t:au}{af:List D}{fp:List ag}(W:dz w A g I t af fp wr J):dz w A g I t af fp wr (λi h=>J i h/\∀b∈fp,∃o,h.get? b=aa o) where
 sub:=W.sub
 frame:=λi h h' ⟨a,b⟩ V=>⟨W.frame i h h' a V,λc Z=>(b c Z).elim λo e=>⟨o,V c Z o e⟩⟩
 nc:=λi h ⟨a,_⟩=>W.nc i h a
 item:=λi d s Q E hi ⟨a,b⟩ Y=>W.item i d s Q E hi a λv h' tk G H V=>Y v h' tk G ⟨H,λc Z=>by
  by_cases q:c∈wr
  ·obtain⟨o,e,_⟩:=W.nc _ _ H c q;exact⟨o,e⟩
  ·obtain⟨o,e⟩:=b c Z;exact⟨o,V c o q e⟩⟩ V
 done:=λs Q E ⟨a,_⟩ Y=>W.done s Q E a Y
 self:=λi s Q E ⟨a,_⟩ Y=>W.self i s Q E a Y
theorem kN.of{N:Nat}{bp:au}{mk:Sem ai}{AC:aY->Obj->List α->Prop}{P:(List α->D->List α)->D->ay->Prop}{m:ai->Env->Sem Unit}
 (ok:p9 AC)(cls:HJ e=[⟨bp,iter,bV,0⟩])(H:∀Y D ab,(model PG w).den (.compStart e 0 Y (.ref D) ab)=(AW e 0 Y (.ref D) ab).onRaise (λx=>do rD x ab;standAt FN))(Z:∀(A:bN) Y D ab,A.under (.compStart e 0 Y (.ref D) ab)=A)(turn:∀Y D ab,compTurn e 0 Y (.ref D) ab=uz e bp iter bV (m (.ref D) ab) Y (.ref D) ab 0)(den:∀Y D ab,(model PG w).den (jI e 0 Y (.ref D) ab)=(compTurn e 0 Y (.ref D) ab).onRaise (λx=>do rD x ab;zY x))(under:∀(A:bN) Y D ab,A.under (jI e 0 Y (.ref D) ab)=A)(G:∀(A:bN) (E:ai->av->Prop) (s:av) (Q:ai->av->Prop),(∀o,(∀g,AC g o [])->o.isFreed=aH->Q (.ref s.heap.objs.size) {s with heap:=s.heap.push o})->wpAny (model PG w) A mk Q E s)(add:∀(F:List α->D->List α) (d:D) (ρ:ay) (D:ag) (A:bN) (ab:Env) (s:av) (g:aY) (o:Obj) (l:List α) (E:ai->av->Prop),P F d ρ->St w s g->Rm n A->c8 w s g ab aF ρ->s.heap.get? D=aa o->AC g o l->g D=ak->D∉TB->l.length<=N->wpAny (model PG w) A (m (.ref D) ab) (λ_ s'=>∃aA aN h' tk o',Nx [] s g aA aN/\St w aA aN/\s'={aA with heap:=h',toks:=tk}/\(∀b,b≠D->h'.get? b=aA.heap.get? b)/\h'.get? D=aa o'/\AC aN o' (F l d)) E s):kN N e bp iter bV mk AC w n aF P m:=
 ⟨ok,⟨[],cls⟩,H,Z,turn,den,under,G,λF d ρ D A cenv sa ga fp wr wc J i l s g g0 I t af E hP hd R Fx W _ C hT hl=>by
  refine ba λN_=>?_
  obtain⟨o,e1,e2⟩:=C.acc
  apply N_
  refine bg (add F d ρ D A cenv s g o l _ hP C.st R C.cI e1 e2 C.off hT hl) (λ_ adD V=>V.elim λoV V=>V.elim λB V=>V.elim λh5 V=>V.elim λtk5 V=>V.elim λo5 V=>V.elim λf V=>V.elim λm6 V=>V.elim λes V=>V.elim λhs5 V=>V.elim λho5 ha5=>?_)
  subst es
  exact⟨B,(C.pure ok Fx W f m6).stored (tk:=tk5) ok Fx W hd hs5 ho5 ha5⟩⟩
theorem HV{N lv:Nat}{sa:av}{ga g0:aY}{cenv:Env}{bE:ay}{D I:ag}{fp wc:List ag}{t:au}{af:List Mine.Internal.D}{AC:aY->Obj->List α->Prop}{F:List α->Mine.Internal.D->List α}{T:Mine.Internal.D->ay->Prop}{m:Sem Unit}{R:ux->av->Prop}{l0:List α}
 (yq:compTurn e lv (.ref I) (.ref D) cenv=uz e t iter bV m (.ref I) (.ref D) cenv lv)(acp:(model PG w).den (jI e lv (.ref I) (.ref D) cenv)=(compTurn e lv (.ref I) (.ref D) cenv).onRaise (λx=>do rD x cenv;zY x))(H:A.under (jI e lv (.ref I) (.ref D) cenv)=A)
 (K:p9 AC)(Fx:n6 sa cenv aF D fp wr wc)(W:dz w A g0 I t af fp wr J)(hd:eH bE)(MU:Rm n A)(C:d9 w sa ga cenv aF bE D g0 wc J AC 0 l0 s g)(jt:∀i,((af.take i).foldl F l0).length<=N)
 (h:∀d∈af,c0 n aF bE t d λaC=>eH aC/\Sub bE aC/\fN n aF aC bV λb=>if b then T d aC else ∀l,F l d=l)
 (adE:∀i d aC l s g E,d∈af->T d aC->eH aC->l.length<=N->d9 w sa ga cenv aF aC D g0 wc J AC i l s g->wpAny (model PG w) A m (λ_ s'=>∃g',d9 w sa ga cenv aF aC D g0 wc J AC i (F l d) s' g') E s)
 (hR:∀s' g' i,d9 w sa ga cenv aF bE D g0 wc J AC i (af.foldl F l0) s' g'->∀h' tk,(∀b o,b∉wr->s'.heap.get? b=aa o->h'.get? b=aa o)->R (.ok .next) {s' with heap:=h',toks:=tk}):
 codeAny (model PG w) A (jI e lv (.ref I) (.ref D) cenv) R s:=by
 refine PN (bp:=t) (iter:=iter) (bV:=bV) (m:=m) yq acp H
  (λk s=>∃i g,k=af.length-i/\i<=af.length/\d9 w sa ga cenv aF bE D g0 wc J AC i ((af.take i).foldl F l0) s g) ?_ (af.length-0) ⟨0,g,rfl,ck _,C⟩
 rintro k s ⟨i,g,rfl,hi,C⟩
 by_cases Y:i<af.length
 ·obtain⟨d,G⟩:∃d,af[i]?=aa d:=⟨af[i],by simp[Y]⟩
  refine bg (W.item i d s (λv aA=>wpAny (model PG w) A (assign t cenv v) (λ_ aT=>
   wpAny (model PG w) A (forIn bV ae λc r=>if r=ae then do let ok <-isTrue c cenv (eval c cenv);pure (mN ok) else pure (mN r)) (λok V=>
    if ok=ae then wpAny (model PG w) A m (λ_ B=>∃m,m<af.length-i/\∃i g,m=af.length-i/\i<=af.length/\d9 w sa ga cenv aF bE D g0 wc J AC i ((af.take i).foldl F l0) B g) (notedBy (model PG w) A cenv λe s'=>R (.error e) s') V
    else ∃m,m<af.length-i/\∃i g,m=af.length-i/\i<=af.length/\d9 w sa ga cenv aF bE D g0 wc J AC i ((af.take i).foldl F l0) V g) (notedBy (model PG w) A cenv λe s'=>R (.error e) s') aT) (notedBy (model PG w) A cenv λe s'=>R (.error e) s') aA) _ G C.it ?_) (λr aA hr=>?_)
  ·intro v h' tk hv hJ hk
   refine bg ((C.next (tk:=tk) Fx W hd hJ hk).target K Fx W hd MU hv (h d (c5 G)) _) (λ_ aT Z=>Z.elim λbb Z=>Z.elim λaC Z=>Z.elim λC2 Z=>Z.elim λqq Z=>Z.elim λhs ht=>?_)
   refine bg (ht.ok w A cenv aT bb C2.st MU C2.cI _) (λok V ⟨f,gw,ij,jS⟩=>?_)
   have C3:=C2.pure K Fx W gw ij
   have MV:(af.take (i+1)).foldl F l0=F ((af.take i).foldl F l0) d:=by
    simp only[lQ,G,lR];rfl
   induction ok with
   |false=>
    have Z0:∀l,F l d=l:=jS
    exact⟨af.length-(i+1),K8 Y,i+1,f,rfl,Y,by rw[MV,Z0];exact C3.weaken hs⟩
   |true=>
    refine bg (adE (i+1) d aC _ V f _ (c5 G) (jS:T d aC) qq (jt i) C3) (λ_ B Z=>Z.elim λm7 C5=>?_)
    exact⟨af.length-(i+1),K8 Y,i+1,m7,rfl,Y,by rw[MV];exact C5.weaken hs⟩
  ·obtain⟨v,rfl,hv⟩:=hr
   exact hv
 ·have e:i=af.length:=lg hi (de.mp Y)
  subst e
  refine W.done s _ _ C.it λh' tk hk=>?_
  exact hR s g _ (j0▸C) h' tk hk
set_option tactic.hygienic true in
theorem Sub.tgt{b:Bd}(V:dD aF sc=ae)(Y:mine aF x=ae)(h:Sub (cZ aF ρ) aC):Sub (cZ aF ρ) ((x,b)::aC):=λy c e=>by
 refine j7.trans ?_
 split
 ·rename_i W
  subst W
  have:=lX (dD.spec V).1 ((AG e).1)
  rcases BW Y with q|q<;>rw[this] at q<;>exact nomatch q
 ·exact h y c e
section
variable {n:Nat} {sc:bf} {ρ:ay} {k:D->Prop}
theorem PO(h:Q (.ref s.heap.objs.size) {s with heap:=s.heap.push {cls:=aK "list",data:=.seq #[]}}):wpAny (model PG w) A (newList []) Q E s:=
 lf h
def dj(n:Nat)(sc:bf)(ρ:ay)(aF:bf)(bp iter co:au)(bV:List au)(k:D->Prop):Prop:=
 bK n sc ρ bp iter λaf=>∃f:D->Option D,(∀d∈af,c0 n aF (cZ aF ρ) bp d λaC=>eH aC/\Sub (cZ aF ρ) aC/\fN n aF aC bV λb=>if b then aj n aF aC co (λy=>f d=aa y) else f d=ak)/\k (.lst (af.filterMap f))
inductive Yl(w:a9)(A:bN)(s:av)(g:aY)(t:au)(k:List D->Prop)(it:ai)(aT:av):Prop
 |mk (I fp wr J af bb:_) (hi:it=.ref I) (N:Nx [] s g aT bb) (S:St w aT bb) (W:dz w A bb I t af fp wr J) (hJ:J 0 aT.heap) (hw:∀b∈wr,s.heap.get? b=ak/\bb b=ak) (mD:∀b∈fp,b∉TB/\b<aT.heap.objs.size/\(b∈wr\/(∃o,bb b=aa o)\/∃iK,aT.heap.PlainList b iK)) (hl:af.length<=10000) (hk:k af)
structure gx(n:Nat)(sc:bf)(ρ:ay)(t:au)(e:au)(k:List D->Prop):Prop where
 run:∀(w:a9) (A:bN) (ab:Env) (s:av) (g:aY),St w s g->Rm n A->c8 w s g ab sc ρ->∀E,wpAny (model PG w) A (eval e ab) (λx aA=>wpAny (model PG w) A (pyIter x) (Yl w A s g t k) E aA) E s
theorem bK.cc{t:au}{k:List D->Prop}(h:bK n sc ρ t e k):gx n sc ρ t e k:=.mk λw A ab s g S R V E=>
 bg (h.run w A ab s g S R V E) (λx aA Z=>er Z (λit aT f=>by obtain⟨I,fp,wr,J,af,bb,e,H,G,W,hJ,hw,Y,C,hk⟩:=f;exact⟨I,fp,wr,J,af,bb,e,H,G,W,hJ,hw,λb B=>⟨(Y b B).1,(Y b B).2.1,(Y b B).2.2.imp id .inl⟩,C,hk⟩) λ_ _ x=>x)
def og(n:Nat)(sc:bf)(ρ:ay)(aF:bf)(bp iter co:au)(bV:List au)(k:D->Prop):Prop:=
 gx n sc ρ bp iter λaf=>∃f:D->Option D,(∀d∈af,c0 n aF (cZ aF ρ) bp d λaC=>eH aC/\Sub (cZ aF ρ) aC/\fN n aF aC bV λb=>if b then aj n aF aC co (λy=>f d=aa y) else f d=ak)/\k (.lst (af.filterMap f))
def uK{α:Type}(N n:Nat)(sc:bf)(ρ:ay)(aF:bf)(bp iter:au)(bV:List au)(P:(List α->D->List α)->D->ay->Prop)(k:List α->Prop):Prop:=
 gx n sc ρ bp iter λaf=>af.length<=N/\∃F:List α->D->List α,(∀l d,(F l d).length<=l.length+1)/\(∀d∈af,c0 n aF (cZ aF ρ) bp d λaC=>eH aC/\Sub (cZ aF ρ) aC/\fN n aF aC bV λb=>if b then P F d aC else ∀l,F l d=l)/\k (af.foldl F [])
def ya{α:Type}(N n:Nat)(sc:bf)(ρ:ay)(aF:bf)(bp iter:au)(bV:List au)(P:(List α->D->List α)->D->ay->Prop)(k:List α->Prop):Prop:=
 gx n sc ρ bp iter λaf=>∃F:List α->D->List α,(∀i,((af.take i).foldl F []).length<=N)/\(∀d∈af,c0 n aF (cZ aF ρ) bp d λaC=>eH aC/\Sub (cZ aF ρ) aC/\fN n aF aC bV λb=>if b then P F d aC else ∀l,F l d=l)/\k (af.foldl F [])
theorem Tj{F:List α->β->List α}(W:∀l d,(F l d).length<=l.length+1):∀(Y:List β) (l:List α),(Y.foldl F l).length<=l.length+Y.length:=by
 intro Z
 induction Z with
 |nil=>
  intro l
  exact bv _
 |cons d r V=>
  intro l
  have H:=V (F l d)
  have G:=W l d
  simp only[iw,gj];exact BP (by assumption) (by assumption)
theorem gx.mono{t:au}{k k':List D->Prop}(h:gx n sc ρ t e k)(B:∀l,k l->k' l):gx n sc ρ t e k':=.mk λw A ab s g S R V E=>
 bg (h.run w A ab s g S R V E) (λx aA Y=>er Y (λit aT f=>by obtain⟨I,fp,wr,J,af,bb,e,Z,H,W,hJ,hw,C,G,q⟩:=f;exact⟨I,fp,wr,J,af,bb,e,Z,H,W,hJ,hw,C,G,B _ q⟩) λ_ _ x=>x)
theorem gx.len{t:au}{k:List D->Prop}(h:gx n sc ρ t e k):gx n sc ρ t e λl=>l.length<=10000/\k l:=.mk λw A ab s g S R V E=>
 bg (h.run w A ab s g S R V E) (λx aA Z=>er Z (λit aT B=>by obtain⟨I,fp,wr,J,af,bb,e,H,G,W,f,hw,C,Y,q⟩:=B;exact⟨I,fp,wr,J,af,bb,e,H,G,W,f,hw,C,Y,Y,q⟩) λ_ _ x=>x)
theorem uK.hh{N:Nat}{bp:au}{P:(List α->D->List α)->D->ay->Prop}{kl:List α->Prop}(h:uK N n sc ρ aF bp iter bV P kl):ya N n sc ρ aF bp iter bV P kl:=
 gx.mono h λaf W=>by refine W.elim λhl V=>V.elim λF Y=>Y.elim λZ r=>?_;exact⟨F,λi=>by
  have:=Tj Z (af.take i) []
  simp only[gJ,wv] at this
  exact abu (by assumption) (by assumption),r⟩
theorem dj.cc{bp:au}(h:dj n sc ρ aF bp iter co bV k):og n sc ρ aF bp iter co bV k:=bK.cc h
theorem A2{N:Nat}{bp:au}{mk:Sem ai}{AC:aY->Obj->List α->Prop}{P:(List α->D->List α)->D->ay->Prop}{m:ai->Env->Sem Unit}{kl:List α->Prop}
 {w:a9}(K:kN N e bp iter bV mk AC w n aF P m)(nt:dD aF sc=ae)(hs:∀ab x,ir iter ab x=pure x)(h:ya N n sc ρ aF bp iter bV P kl)
 {A:bN}{ab:Env}{s:av}{g:aY}(S:St w s g)(R:Rm n A)(V:c8 w s g ab sc ρ){E:ai->av->Prop}{Q:ai->av->Prop}{use:Option (ai->Sem Unit)}{fp:Pos}
 (hQ:∀s' g' D o l C,Nx [] s g s' g'->St w s' g'->s.heap.get? D=ak/\D≠gp->g' D=aa o->AC g' o l->kl l->s.heap.get? C=ak->g' C=ak->(∃m,s'.heap.Ns C m)->compPost (model PG w) A E use Q (.ref D) C (.ok .next) s'):
 wpAny (model PG w) A (Gm e aF ab fp mk aH (eval iter ab) use) Q E s:=by
 have iJ:=(dD.spec nt).1;have hk:=(dD.spec nt).2.1;have jx:=(dD.spec nt).2.2
 refine K.cls.elim λgs k5=>?_
 refine wpAny_comprehension_free (use:=use) (g:=⟨bp,iter,bV,0⟩) (gs:=gs) k5 (hs ab) (dR.of V nt).1 hk (λx hx hl=>lX iJ (by obtain⟨a,b⟩:=x;subst hl;exact hx)) ?_
 refine bg (h.run w A ab s g S R V E) (λx aA iZ=>er iZ (λit aT ⟨I,fp,wr,J,af,bb,e,Y,Z,W,hJ,hw,mD,_,F0,hF0,hf,hkk⟩=>?_) λ_ _ x=>x)
 subst e
 replace hJ:J 0 aT.heap/\∀b∈fp,∃o,aT.heap.get? b=aa o:=⟨hJ,λb hb=>by
  rcases(mD b hb).2.2 with q|⟨o,q⟩|⟨iK,nn,q⟩
  ·have ⟨o,e,_⟩:=W.nc _ _ hJ b q;exact⟨o,e⟩
  ·exact⟨o,Z.sub _ _ q⟩
  ·exact⟨_,q⟩⟩
 replace W:=W.ex
 refine K.make A E aT _ λoA MW acq=>?_
 generalize hD:aT.heap.objs.size=D
 have D2:aT.heap.get? D=ak:=by exact hD▸(lj _)
 have Dn:s.heap.get? D=ak:=by
  induction q:s.heap.get? D with
  |none=>rfl
  |some o=>obtain⟨o',e'⟩:=Y.there _ _ q (ca);exact ns (D2.symm.trans e')
 have gD:bb D=ak:=by
  induction q:bb D with
  |none=>rfl
  |some o=>replace D2:=(Z.sub _ _ q)▸D2;exact sn D2
 have Ea:D≠gp:=λe=>by
  obtain⟨mg,o,_,_,e',_⟩:=Z.gB
  have:=cq e'
  rw[hD,e] at this
  exact aZ this (dC tT)
 obtain⟨gw,ij⟩:=Z.ext' (h':=aT.heap.push oA) (tk:=aT.toks) λb o e=>bZ _ e
 have hk3:∀b o,aT.heap.get? b=aa o->(aT.heap.push oA).get? b=aa o:=λb o e=>bZ _ e
 have MX:(aT.heap.push oA).get? D=aa oA:=by exact hD▸(cB _ acq)
 have hT:D∉TB:=ij.dQ (a:=D) MX (.inl (K.ok.cls _ _ _ (MW bb)))
 have sz:(aT.heap.push oA).objs.size=D+1:=by rw[gZ,hD]
 refine Ti ij ((V.step Y S).step gw Z) nt λcenv f H MY hL hC=>?_
 have B:∀x c,ab.cells.lookup x=aa c->(∃o,s.heap.get? c=aa o)/\c∉wr/\c<D:=λx c hc=>by
  refine ba λN_=>?_
  obtain⟨_,v,o,e,_⟩:=V.cP x c hc
  obtain⟨o',e'⟩:=Y.there _ _ e (ca)
  apply N_
  exact⟨⟨o,e⟩,λq=>(by rw[(hw c q).1] at e;exact ns e),(by exact hD▸(cq e'))⟩
 have yu:∀b∈fp,b<D:=λb hb=>by exact hD▸((mD b hb).2.1)
 have F:n6 s {cenv with scope:=relabel aF ab} aF D fp wr wr:=by
  refine⟨Dn,by rw[(hL.trans sz:cenv.locals=D+1)];exact eC (gY _),λx c hc e=>?_,λq=>gO _ (yu D q),λb hb=>(hw b hb).1,λq=>?_,λx c hc hk q=>?_,λx c hc q=>?_,λb hb=>(mD b hb).1,λ_ q=>q,W.sub⟩
  ·rcases hC x c hc with ⟨q1,_⟩|q
   ·rw[sz,e] at q1;exact gO _ (eO (gY _) q1)
   ·exact gO _ (e▸(B x c q).2.2)
  ·have:=yu _ q
   exact gO _ (eO (gY _) ((hL.trans sz:cenv.locals=D+1)▸(this:cenv.locals<D)))
  ·rcases hC x c hc with ⟨q1,_⟩|q2
   ·rw[sz] at q1;exact gO _ (eO (eO (gY _) q1) (yu c q))
   ·rcases(mD c q).2.2 with e|⟨o,e⟩|⟨iK,nn,e⟩
    ·exact(B x c q2).2.1 e
    ·exact ns ((((V.step Y S).cP x c q2).1).symm.trans e)
    ·obtain⟨_,_,o,e1,e2⟩:=(V.step Y S).cP x c q2
     rw[e] at e1;obtain rfl:=aW e1;cases e2
  ·rcases hC x c hc with ⟨q1,_⟩|q2
   ·rw[sz] at q1;exact gO _ (eO (eO (gY _) q1) (yu c (W.sub c q)))
   ·exact(B x c q2).2.1 q
 have Kt:∀b o,aT.heap.get? b=aa o->f.heap.get? b=aa o:=λb o e=>MY b o (hk3 b o e)
 have C:d9 w s g {cenv with scope:=relabel aF ab} aF (cZ aF ρ) D bb wr (λi h=>J i h/\∀b∈fp,∃o,h.get? b=aa o) AC 0 [] f bb:=by
  refine⟨⟨_,H.Wp S (Y.trans gw)⟩,W.frame 0 _ _ hJ λb _ o e=>Kt b o e,⟨oA,MY _ _ MX,MW bb⟩,gD,λ_ _ e=>e,λb hb=>⟨(hw b hb).2,let ⟨o,e,_⟩:=W.nc _ _ hJ b hb;⟨o,Kt b o e⟩⟩⟩
 have vf:codeAny (model PG w) A (jI e 0 (.ref I) (.ref D) {cenv with scope:=relabel aF ab}) (compPost (model PG w) A E use Q (.ref D) cenv.locals) f:=by
  refine HV (K.turn _ _ _) (K.den _ _ _) (K.under _ _ _ _) K.ok F W eH.cap R C hF0 hf (λi d aC l s g E _ hP qq hl C=>K.add F0 d aC D A _ _ _ _ _ _ _ i l s g _ _ _ _ E hP qq R F W (λ_ _ q=>q.2) C hT hl) λs' g' i C' h' tk jW=>?_
  refine ba λN_=>?_
  obtain⟨aB,H'⟩:=C'.act
  obtain⟨oD,h1,h2⟩:=C'.acc
  obtain⟨m,hm⟩:=H'.gE
  apply N_
  have D':h'.Ns cenv.locals m:=hm.elim λo q_=>q_.elim λes q_=>q_.elim λep q_=>q_.elim λe r=>⟨o,es,ep,jW _ _ (λq=>F.fL (W.sub _ q):cenv.locals∉wr) e,r⟩
  refine ba λN_=>?_
  obtain⟨oL,_,_,eL,dL,_⟩:=id hm
  obtain⟨qc,uU⟩:=St.changes (mt:=wr) (h':=h') (tk:=tk) S H'.st H'.nx dq.nil (λa ha=>by
   have ⟨o,e1,e2⟩:=W.nc i _ C'.it a ha
   exact⟨.inl (F.wn a ha),(C'.wn a ha).1,o,e1,e2⟩) jW
  apply N_
  have G:=H'.nx.over qc λa ha=>.inl (F.wn a ha)
  refine(uU.freeze (n:=D) (jW _ _ (λq=>F.Df (W.sub _ q):D∉wr) h1:h'.get? D=aa oD) C'.off hT).elim λacr up=>?_
  have Cn:s.heap.get? cenv.locals=ak:=by
   rcases H'.iY with q|q
   ·exact q
   ·simp at q
  refine hQ {s' with heap:=h',toks:=tk} (iB g' D oD) D oD _ cenv.locals ⟨G.keep,G.there,λa o e=>up _ _ (G.gg a o e),λa o e1 e2 hm=>?_,G.os⟩ acr ⟨Dn,Ea⟩ (g5 _ _ _) (K.ok.mono _ _ _ _ up h2) hkk Cn ?_ ⟨m,D'⟩
  ·exact(fE _ _ _ (λe=>by rw[e,Dn] at e1;exact ns e1)).trans (G.old a o e1 e2 hm)
  ·exact(fE _ _ _ (Ne.symm F.DL)).trans H'.ik
 exact Fb (g:=⟨bp,iter,bV,0⟩) (by rw[k5];rfl) rfl (K.Mb _ _ _) (K.Ks _ _ _ _) vf (W.self 0 f _ _ C.it vf)
def pZ(w:a9)(g:aY)(o:Obj)(l:List D):Prop:=∃ys n,o={cls:=aK "list",data:=.seq ys n}/\aP w g ys.toList l
theorem rF:p9 (pZ w):=⟨λg g' o l h ⟨ys,n,e,r⟩=>⟨ys,n,e,r.mono h⟩,λg o l ⟨ys,n,e,r⟩=>(by rw[e];simp),λg o l ⟨ys,n,e,r⟩=>(by rw[e];simp)⟩
theorem CM{bp:au}:kN 10000 (.ListComp co [⟨bp,iter,bV,0⟩] oF aM) bp iter bV (newList []) (pZ w) w n aF (λF d aC=>aj n aF aC co λy=>∀l,F l d=l++[y]) (λD ab=>do let _ <-call (.builtin "list.append") [D,<-eval co ab]):=
 kN.of
  rF
  (rfl)
  (λ_ _ _=>rfl)
  (λ_ _ _ _=>rfl)
  (λ_ _ _=>rfl)
  (λ_ _ _=>rfl)
  (λ_ _ _ _=>rfl)
  (λA E s Q h=>PO (h _ (λg=>⟨#[],0,rfl,aP.nil⟩) rfl))
  (λF d ρ D A ab s g o l E B S R V e ⟨ys,f,eo,hr⟩ hg hT hl=>by
  subst eo
  refine aJ (B.wp S R V λx W Z y Y H G hy=>?_)
  have hs:ys.size=l.length:=by have:=hr.1;exact this
  refine aJ (zo (items:=ys) ⟨f,Y.get S e (.inl (by simp)) (ca)⟩ (λh' ⟨n',hp⟩ C=>a8 ⟨W,Z,h',W.toks,_,Y,H,rfl,λb hb=>C.2 b hb,hp,_,_,rfl,?_⟩) (by rw[hs];have:sizeLine=2^24:=rfl;exact bd (aV hl (lT tT))))
  simp only[hy,tr]
  exact(hr.mono Y.gg).append (aP.cons G aP.nil))
theorem c0.mono{t:au}{k k':ay->Prop}(h:c0 n sc ρ t d k)(Y:∀aC,k aC->k' aC):c0 n sc ρ t d k':=.mk λw A ab mu aw aE s g aB v H R r E=>
 bg (h.run w A ab mu aw aE s g aB v H R r E) (λ_ s' W=>by obtain⟨g',aC,V,a,b,c⟩:=W;exact⟨g',aC,V,a,b,Y _ c⟩)
theorem fN.mono:∀{bV:List au} {k k':Bool->Prop},fN n sc ρ bV k->(∀b,k b->k' b)->fN n sc ρ bV k'
 |[],_,_,h,V=>V _ h
 |c::r,k,k',h,V=>bH.mono (k':=λb=>if b then fN n sc ρ r k' else k' Hd) h λb Y=>by
  induction b with
  |true=>exact fN.mono (bV:=r) Y V
  |false=>exact V _ Y
theorem og.gg{bp:au}(h:og n sc ρ aF bp iter co bV k):uK 10000 n sc ρ aF bp iter bV (λF d aC=>aj n aF aC co λy=>∀l,F l d=l++[y]) λl=>k (.lst l):=by
 refine gx.mono h.len λaf V=>V.elim λhl V=>V.elim λf V=>V.elim λH G=>⟨hl,λl d=>l++(f d).toList,λl d=>by cases f d<;>simp,λd hd=>?_,?_⟩
 ·refine c0.mono (H d hd) λaC V=>V.elim λC V=>V.elim λB h3=>⟨C,B,fN.mono h3 λb Z=>?_⟩
  induction b with
  |true=>exact aj.mono Z λy hy l=>by show l++(f d).toList=_;rw[hy];rfl
  |false=>
   intro l;show l++(f d).toList=l;rw[(Z:f d=ak)];simp
 ·have W:∀(Y:List D) (l:List D),Y.foldl (λl d=>l++(f d).toList) l=l++Y.filterMap f:=by
   intro Y
   induction Y with
   |nil=>intro l;simp
   |cons d r ih=>
    intro l
    rw[iw,ih,nF]
    cases f d<;>simp
  rw[W];exact G
theorem aj.CN{N:Nat}{bp:au}{mk:Sem ai}{AC:a9->aY->Obj->List α->Prop}{P:(List α->D->List α)->D->ay->Prop}{m:ai->Env->Sem Unit}{kl:List α->Prop}{Y:Pos}
 (K:∀w,kN N e bp iter bV mk (AC w) w n aF P m)(he:∀ab,eval e ab=Gm e aF ab Y mk aH (eval iter ab))(G:dD aF sc=ae)(hs:∀ab x,ir iter ab x=pure x)(h:ya N n sc ρ aF bp iter bV P kl)
 (hr:∀w g D o l,g D=aa o->D≠gp->AC w g o l->kl l->∃d,Rep w g (.ref D) d/\k d):aj n sc ρ e k:=.mk λw A ab s g S R V E=>by
 rw[he]
 refine A2 (K w) G hs h S R V (use:=aU) λs' g' D o l C N S' Dn gD W B Cn gC q_=>q_.elim λm hm=>⟨m,hm,λh' f=>?_⟩
 refine(hr w g' D o l gD Dn.2 W B).elim λd nj=>nj.elim λr B=>?_
 refine ba λN_=>?_
 obtain⟨oL,_,_,eL,dL,_⟩:=id hm
 obtain⟨Z,H⟩:=St.changes (mt:=[C]) (h':=h') (tk:=s'.toks) S S' N dq.nil (λa W=>by
  have:a=C:=a_.1 W
  subst this
  exact⟨.inl Cn,gC,oL,eL,cV.of λvs q=>by cases dL.symm.trans q⟩) (λb o hb e=>(f.2 b (by simpa using hb)).trans e)
 apply N_
 exact⟨g',d,N.over Z (λa W=>by
  have:a=C:=a_.1 W
  subst this;exact .inl Cn),H,r,B⟩
theorem pZ.rep{D:ag}{l:List Mine.Internal.D}(V:g D=aa o):pZ w g o l->Rep w g (.ref D) (.lst l):=λ⟨ys,Y,W,hr⟩=>.lst D Y ys l (V.trans (aQ _ W)) hr.1 hr.2
theorem aj.A3{bp:au}(V:dD aF sc=ae)(hs:∀ab x,ir iter ab x=pure x)(h:og n sc ρ aF bp iter co bV k):
 aj n sc ρ (.ListComp co [⟨bp,iter,bV,0⟩] aF aM) k:=aj.CN (λw=>CM) (λab=>QR ..) V hs h.gg.hh λw g D o l Y _ W Z=>⟨_,W.rep Y,Z⟩
theorem aj.Uz{bp:au}(V:dD aF sc=ae)(hs:∀ab x,ir iter ab x=pure x)(h:dj n sc ρ aF bp iter co bV k):
 aj n sc ρ (.ListComp co [⟨bp,iter,bV,0⟩] aF aM) k:=.A3 V hs h.cc
theorem aO.Wq{N:Nat}{bp:au}{mk:Sem ai}{AC:a9->aY->Obj->List α->Prop}{P:(List α->D->List α)->D->ay->Prop}{m:ai->Env->Sem Unit}{kl:List α->Prop}{Z:Pos}{k:Fl->ay->Prop}
 (K:∀w,kN N e bp iter bV mk (AC w) w n aF P m)(he:∀ab use,evalThenUse e ab use=(do let _ <-Gm e aF ab Z mk aH (eval iter ab) (aa use)))(f:dD aF sc=ae)(hs:∀ab x,ir iter ab x=pure x)(hx:sc.names.lookup x=aa .local)
 (hse:∀ab,iA e (aa (aS x p)) oT.line ab=pure (ab.blockKind==fu&&ab.kindOf x==aa .local&&(p.line==e.pos.line)&&!(aF.names.any λ(n,k)=>n==x&&(k==.local||k==.cell))))
 (Y:(p.line==e.pos.line&&!(aF.names.any λy=>y.1==x&&(y.2==.local||y.2==.cell)))=ae)(h:ya N n sc ρ aF bp iter bV P kl)
 (hr:∀w g D o l,g D=aa o->D≠gp->AC w g o l->kl l->∃d,Rep w g (.ref D) d/\k .next ((x,.dat d)::ρ)):
 aO n sc ρ (fe [aS x p] e oT) k:=.mk λw A ab mu aw aE s g aB H R E=>by
 have sw:iA e (aa (aS x p)) oT.line ab=pure ae:=by
  rw[hse]
  have e:ab.blockKind=fu:=by unfold QS;rw[H.kind];rfl
  rw[e,(KS.local (hx▸H.ks x):ab.kindOf x=aa .local)]
  simp only[bB] at Y
  rw[Y.1]
  have:(aF.names.any λ(n,k)=>n==x&&(k==.local||k==.cell))=aH:=by simpa using Y.2
  rw[this];rfl
 rw[exec_Assign_Name_used _ _ _ _ sw]
 refine jd (aJ ?_)
 rw[he]
 refine aJ (bg (A2 (Q:=λ_ s'=>Fin w mu aw aE ab sc k .next s') (use:=aa (Ap (aS x p) ab)) (K w) f hs h H.st R H.cI λs' g' D o l C N S' Dn gD W hk G gC V=>?_) (λ_ s' hq=>a8 (a8 hq)))
 obtain⟨d,r,hk⟩:=hr w g' D o l gD Dn.2 W hk
 obtain⟨m,V⟩:=V
 have new:∀a,s.heap.get? a=ak->aw.heap.get? a=ak\/a∈mu:=λa e=>by
  by_cases q:a∈mu
  ·exact .inr q
  ·induction e':aw.heap.get? a with
   |none=>exact .inl rfl
   |some o=>obtain⟨o',vA⟩:=H.nx.there a o e' q;exact ns (e.symm.trans vA)
 obtain⟨mL,sN⟩:=H.gE
 have CL:C≠ab.locals:=λe=>by
  obtain⟨o,_,_,q,_⟩:=sN
  rw[<-e,G] at q;exact ns q
 have B:=H.step N S'
 have H3:=B.rebase.1;have hb:=B.rebase.2
 have cN:∀y c,ab.cells.lookup y=aa c->c≠C:=λy c hc e=>by
  obtain⟨_,⟨_,o,q,_⟩,_⟩:=H.cP y c hc
  rw[e,G] at q;exact ns q
 have Ct:C∉iS ab sc ρ aB:=λq=>by
  rcases w_ q with e|⟨y,e,_⟩|⟨y,b,q1,q2,q3⟩
  ·exact CL e
  ·exact cN y C e rfl
  ·obtain⟨u,_,rb⟩:=H.var y b q1
   obtain⟨o,e⟩:=cU.there H.st rb q2 C q3
   exact ns (G.symm.trans e)
 refine Fh (H3.store (n:=0) (b:=.dat d) (ad:=[]) (by unfold mine;rw[hx];rfl) ⟨r,rfl⟩ (λa h=>by simp at h) (λaT he H2=>?_) E)
 refine⟨m,H2.nx.ns B.st V Ct,λh'' hsb=>?_⟩
 obtain⟨oL,_,_,eL,dL,_⟩:=id (H2.nx.ns B.st V Ct)
 have gC2:g' C=ak:=gC
 refine⟨g',_,.next,_,(B.Ch H2 hb).rV (wr:=[C]) (tk:=aT.toks) (λb o hb e=>(hsb.2 b (by simpa using hb)).trans e) (λa W=>?_) (λq=>CL (a_.mp q).symm) (λy c hc q=>cN y c hc (a_.mp q)) (λy b e=>?_),trivial,hk⟩
 ·have:a=C:=a_.1 W
  subst this
  exact⟨new a G,gC2,oL,eL,cV.of λvs q=>by cases dL.symm.trans q⟩
 ·rw[j7] at e
  intro a W V
  have V:a=C:=a_.1 V
  subst V
  by_cases hy:y=x
  ·subst hy;simp at W
  ·rw[be hy] at e
   rw[be hy] at W
   obtain⟨⟨_,o,e'⟩,_⟩:=H.dI y b e a W
   exact ns (G.symm.trans e')
theorem aO.wY{bp:au}{k:Fl->ay->Prop}(V:dD aF sc=ae)(hs:∀ab x,ir iter ab x=pure x)(W:sc.names.lookup x=aa .local)
 (Y:(p.line==aM.line&&!(aF.names.any λy=>y.1==x&&(y.2==.local||y.2==.cell)))=ae)(h:dj n sc ρ aF bp iter co bV λd=>k .next ((x,.dat d)::ρ)):
 aO n sc ρ (fe [aS x p] (.ListComp co [⟨bp,iter,bV,0⟩] aF aM) oT) k:=aO.Wq (λw=>CM) (λab use=>rfl) V hs W (λab=>rfl) Y h.cc.gg.hh λw g D o l Z _ H G=>⟨_,H.rep Z,G⟩
end
def noFn(ρ:ay):Bool:=ρ.all λp=>!p.2.isFn
theorem noFn.at(h:noFn ρ=ae){b:Bd}(e:ρ.lookup x=aa b):b.isFn=aH:=by
 have:=ef.mp h _ (eA e)
 simpa using this
def uL(J:ay->Prop)(k:Fl->ay->Prop):Fl->ay->Prop:=λfl ρ=>match fl with
 |.next=>∃aC,Sub aC ρ/\J aC
 |.cont=>∃aC,Sub aC ρ/\J aC
 |.brk=>k .next ρ
 |.ret d=>k (.ret d) ρ
section
variable {n:Nat} {sc:bf} {ρ:ay}
structure p_(w:a9)(mu:List ag)(aw:av)(aE:aY)(ab:Env)(sc:bf)(g2:aY)(wr:List ag)(It:Nat->dp->Prop)(J:Nat->ay->Prop)(i:Nat)(s:av)(g:aY)(ρ:ay)(aB:Str->List ag):Prop where
 act:bj w mu aw aE s g ab sc ρ aB
 it:It i s.heap
 j:J i ρ
 up:∀a o,g2 a=aa o->g a=aa o
 wn:∀b∈wr,g b=ak
 ap:∀x b,ρ.lookup x=aa b->∀a∈aB x,a∉wr
inductive Mc(w:a9)(mu:List ag)(aw:av)(aE:aY)(ab:Env)(sc:bf)(g2:aY)(wr:List ag)(It:Nat->dp->Prop)(J:Nat->ay->Prop)(N m:Nat)(s:av):Prop
 |mk (i g aC dX:_) (hm:m=N-i) (hi:i<=N) (F:p_ w mu aw aE ab sc g2 wr It J i s g aC dX)
inductive Lc(w:a9)(A:bN)(ab:Env)(sc:bf)(bp:au)(body:List bw)(k:Fl->ay->Prop)(ρ:ay)(af:List D):Prop
 |mk (J:Nat->ay->Prop) (h0:J 0 ρ) (y_:∀i aC,J i aC->noFn aC=ae) (yq:∀i d aC s g dX v,af[i]?=aa d->J i aC->bj w (iS ab sc aC dX) s g s g ab sc aC dX->pY w g bp v d s.heap->∀E E',wpAny (model PG w) A (Ap bp ab v) (λ_ aT=>wpAny (model PG w) A (execs body ab)
  (Fin w (iS ab sc aC dX) s g ab sc (uL (J (i+1)) k)) E aT) E' s) (MK:∀aC,J af.length aC->k .next aC)
structure sP(w:a9)(mu:List ag)(aw:av)(ab:Env)(bb:aY)(wr fp:List ag):Prop where
 new:∀a∈wr,aw.heap.get? a=ak\/a∈mu
 wL:ab.locals∉wr
 wC:∀x c,ab.cells.lookup x=aa c->c∉wr
 fp:∀b∈fp,b∉TB/\(b∈wr\/∃o,bb b=aa o)
theorem p_.ext{aB:Str->List ag}{bp:au}{I:ag}{af:List D}{fp:List ag}{J:Nat->ay->Prop}(X:sP w mu aw ab bb wr fp)(W:dz w A bb I bp af fp wr It)(F:p_ w mu aw aE ab sc bb wr It J i s g ρ aB)
 {h':dp}{tk:Nat}(Y:∀b o,b∉wr->s.heap.get? b=aa o->h'.get? b=aa o):bj w mu aw aE {s with heap:=h',toks:=tk} g ab sc ρ aB:=
 F.act.rV Y (λa V=>⟨X.new a V,F.wn a V,W.nc i _ F.it a V⟩) X.wL X.wC F.ap
theorem sP.tw{aB:Str->List ag}{fp:List ag}{J:Nat->ay->Prop}(X:sP w mu aw ab bb wr fp)(F:p_ w mu aw aE ab sc bb wr It J i s g ρ aB)(V:a∈iS ab sc ρ aB)(q:a∈wr):False:=by
 rcases w_ V with e|⟨x,e,_⟩|⟨x,b,e,_,Y⟩
 ·exact X.wL (e▸q)
 ·exact X.wC x a e q
 ·exact F.ap x b e a Y q
theorem sP.next{Z:av}{H:aY}{aB V:Str->List ag}{Y G:ay}{bp:au}{I:ag}{af:List D}{fp:List ag}{J:Nat->ay->Prop}(X:sP w mu aw ab bb wr fp)(W:dz w A bb I bp af fp wr It)
 (F:p_ w mu aw aE ab sc bb wr It J i s g ρ aB)(H2:bj w (iS ab sc ρ aB) aA g aA g ab sc ρ aB)(B:It (i+1) aA.heap)(H4:bj w (iS ab sc ρ aB) aA g Z H ab sc Y V)(H5:bj w mu aw aE Z H ab sc Y V)(C:Sub G Y)(hJ:J (i+1) G)(y_:noFn G=ae):p_ w mu aw aE ab sc bb wr It J (i+1) Z H G V:=by
 refine⟨H5.weaken C,W.frame _ _ _ B λb hb o e=>H4.nx.keep b o e (X.fp b hb).1 λq=>?_,hJ,λa o e=>H4.nx.gg _ _ (F.up _ _ e),λb f=>?_,λx b hx a ha q=>?_⟩
 ·rcases(X.fp b hb).2 with e|⟨o,e⟩
  ·exact X.tw F q e
  ·exact nomatch (H2.fz b q).1.symm.trans (F.up _ _ e)
 ·obtain⟨o,e,_⟩:=W.nc _ _ B b f
  exact H4.nx.old b o e (F.wn b f) λq=>X.tw F q f
 ·rcases(H4.dI x b (C x b hx) a ha).1.1 (noFn.at y_ hx) with q2|q2
  ·obtain⟨o,e,_⟩:=W.nc _ _ B a q
   exact nomatch q2.symm.trans e
  ·exact X.tw F q2 q
theorem Tk{aB:Str->List ag}{bp:au}{k:Fl->ay->Prop}{I:ag}{af:List D}{fp:List ag}
 (X:sP w mu aw ab bb wr fp)(W:dz w A bb I bp af fp wr It)(T:Lc w A ab sc bp body k ρ af)(F0:∀J:Nat->ay->Prop,J 0 ρ->p_ w mu aw aE ab sc bb wr It J 0 s g ρ aB):codeAny (model PG w) A (.forLoop bp (.ref I) body [] ab) (λr s'=>match r with|.ok f=>Fin w mu aw aE ab sc k f s'|.error e=>cameBackBy (model PG w) A ab E e s') s:=by
 obtain⟨J,hJ0,y_,yq,MK⟩:=T
 refine O4 (Mc w mu aw aE ab sc bb wr It J af.length) (λm s st=>?_) af.length ⟨0,g,ρ,aB,rfl,ck _,F0 J hJ0⟩
 obtain⟨i,g,aC,C,hm,hi,B⟩:=st
 by_cases Z:i<af.length
 ·refine bg (W.item i _ s _ _ (dt Z) B.it λv h' tk hv acs hk=>?_) λr aA hr=>by obtain⟨v,rfl,hv⟩:=hr;exact hv
  have H1:=B.ext X W (tk:=tk) hk
  have H2:=H1.rebase
  refine bg (yq i _ aC _ g C v (dt Z) B.j H2.1 (hv.mono B.up) _ _) λ_ kX jS=>bg jS λf oV F=>?_
  obtain⟨H,Y,fl,V,H4,F4,G⟩:=F
  have H5:=H1.Ch H4 H2.2
  have turn:(∃aC,Sub aC Y/\J (i+1) aC)->∃m',m'<m/\Mc w mu aw aE ab sc bb wr It J af.length m' oV:=λ⟨vl,q1,q2⟩=>
   ⟨_,hm▸zw Z (gY i),i+1,H,vl,V,rfl,Z,X.next W B H2.1 acs H4 H5 q1 q2 (y_ _ _ q2)⟩
  induction f<;>induction fl<;>first|exact F4.elim|exact turn G|exact⟨H,Y,.next,V,H5,trivial,G⟩|exact⟨H,Y,_,V,H5,F4,G⟩
 ·have e:=lg hi (de.mp Z)
  exact W.done s _ _ (e▸B.it) λh' tk hk=>wq ⟨g,aC,.next,C,B.ext X W hk,trivial,MK aC (e▸B.j)⟩
theorem IM{aB:Str->List ag}{bp:au}{k:Fl->ay->Prop}
 (hs:∀ab x,ir iter ab x=pure x)(H:bj w mu aw aE s g ab sc ρ aB)(hI:∀E,wpAny (model PG w) A (eval iter ab) (λx aA=>wpAny (model PG w) A (pyIter x) (iT w A s g bp (Lc w A ab sc bp body k ρ)) E aA) E s):
 wpAny (model PG w) A (exec (.For bp iter body [] aM) ab) (Fin w mu aw aE ab sc k) E s:=
 HL (bg (hI E) λx aA V=>bg V λit aT P=>by
  obtain⟨I,fp,wr,It,af,bb,rfl,Y,Z,W,f,G,C,jt,T⟩:=P
  refine Tk ⟨λa ha=>?_,λq=>?_,λx c hc q=>?_,λb B=>⟨(C b B).1,(C b B).2.2⟩⟩ W T λJ hJ=>⟨H.step Y Z,f,hJ,λ_ _ e=>e,λb B=>(G b B).2,λx b hx a ha q=>?_⟩
  ·by_cases q:a∈mu
   ·exact .inr q
   ·induction e':aw.heap.get? a with
    |none=>exact .inl rfl
    |some o=>exact(H.nx.there a o e' q).elim λo' vA=>nomatch (G a ha).1.symm.trans vA
  ·obtain⟨mL,o,_,_,e,_⟩:=H.gE
   exact ns ((G _ q).1.symm.trans e)
  ·obtain⟨_,⟨_,o,e,_⟩,_⟩:=H.cP x c hc
   exact nomatch (G _ q).1.symm.trans e
  ·obtain⟨⟨_,o,e⟩,_⟩:=H.dI x b hx a ha
   exact nomatch (G a q).1.symm.trans e) (hs ab)
theorem bK.mono{t:au}{k k':List D->Prop}(h:bK n sc ρ t e k)(H:∀l,k l->k' l):bK n sc ρ t e k':=.mk λw A ab s g S R V E=>
 bg (h.run w A ab s g S R V E) (λx aA Y=>er Y (λf aT G=>by obtain⟨I,fp,wr,J,af,bb,e,N,S,W,C,B,Z,hl,q⟩:=G;exact⟨I,fp,wr,J,af,bb,e,N,S,W,C,B,Z,hl,H _ q⟩) λ_ _ x=>x)
theorem aO.for{bp:au}{k:Fl->ay->Prop}(hs:∀ab x,ir iter ab x=pure x)
 (h:bK n sc ρ bp iter λaf=>∃J:Nat->ay->Prop,J 0 ρ/\(∀i aC,J i aC->noFn aC=ae)/\(∀i d aC,af[i]?=aa d->J i aC->c0 n sc aC bp d λC=>aL n sc C body (uL (J (i+1)) k))/\∀aC,J af.length aC->k .next aC):
 aO n sc ρ (.For bp iter body [] aM) k:=.mk λw A ab mu aw aE s g aB H R E=>
 IM hs H λE=>(h.mono λaf q=>by
  obtain⟨J,h1,h2,h3,h4⟩:=q
  exact⟨J,h1,h2,λi d aC s g Y v hd hj H hv E E'=>bg ((h3 i d aC hd hj).run w A ab _ _ _ s g Y v H R hv E') λ_ W q=>by
   obtain⟨Z,B,V,H3,f,G⟩:=q
   exact G.run w A ab _ _ _ W Z V H3 R E,h4⟩).run w A ab s g H.st R H.cI E
theorem aO.while{ML:au}{k:Fl->ay->Prop}(J:Nat->ay->Prop)(m:Nat)(h0:J m ρ)
 (h:∀m aC,J m aC->bH n sc aC ML λb=>if b then aL n sc aC body (uL (λG=>∃B,B<m/\J B G) k) else k .next aC):aO n sc ρ (.While ML body [] aM) k:=.mk λw A ab mu aw aE s g aB H R E=>by
 refine wpAny_While (codeAny_whileLoop (λm s=>∃g aC Y,bj w mu aw aE s g ab sc aC Y/\J m aC) (λm s ⟨g,aC,Y,H',hJ⟩=>?_) m ⟨g,ρ,aB,H,h0⟩)
 refine bg ((h m aC hJ).run w A ab s g H'.st R H'.cI _) (λb aT ⟨bb,lz,gf,gd⟩=>?_)
 have H2:=H'.step lz gf
 induction b with
 |false=>exact wq ⟨bb,aC,.next,Y,H2,trivial,gd⟩
 |true=>
  have aaA:aL n sc aC body (uL (λG=>∃B,B<m/\J B G) k):=gd
  refine bg (aaA.run w A ab mu aw aE aT bb Y H2 R _) (λf kX ⟨W,C,fl,V,H3,F3,Z⟩=>?_)
  induction f<;>induction fl<;>first|exact F3.elim|skip
  ·obtain⟨vl,q1,B,q2,q3⟩:=Z
   exact⟨B,q2,W,vl,V,H3.weaken q1,q3⟩
  ·exact⟨W,C,.next,V,H3,trivial,Z⟩
  ·obtain⟨vl,q1,B,q2,q3⟩:=Z
   exact⟨B,q2,W,vl,V,H3.weaken q1,q3⟩
  ·exact⟨W,C,_,V,H3,F3,Z⟩
end
noncomputable def d6(x:Str)(lo hi st:Option Int):Str:=
 if (st.getD 1==1&&(vG lo hi (st.getD 1) x.length).length==x.length)=ae then x else ⟨((vG lo hi (st.getD 1) x.length).filterMap (x.cps[·]?)).toArray⟩
noncomputable def kK(l:List D)(lo hi st:Option Int):List D:=(rz (AB lo hi st l.length).1 (AB lo hi st l.length).2.1 (AB lo hi st l.length).2.2).filterMap (l[·]?)
theorem aP.pick{V:Array ai}(h:aP w g V.toList l)(Eb:List Nat):aP w g (Eb.filterMap (V[·]?)) (Eb.filterMap (l[·]?)):=by
 induction Eb with
 |nil=>exact aP.nil
 |cons i r Y=>
  rw[nF,nF]
  induction W:V[i]? with
  |none=>
   have e:l[i]?=ak:=by
    rw[qx,<-h.1]
    simpa using W
   rw[e];exact Y
  |some v=>
   obtain⟨d,hd,Z⟩:=h.get (i:=i) (v:=v) (by simpa using W)
   simp only[hd];exact aP.cons Z Y
inductive acu(w:a9)(s:av)(g:aY)(k:Option Int->Prop)(v:ai)(s':av):Prop
 |mk (g':_) (q:Option (Int×Tok)) (N:Nx [] s g s' g') (S:St w s' g') (hv:v=fY q) (h:k (q.map (·.1)))
def gu(n:Nat)(sc:bf)(ρ:ay):Option au->(Option Int->Prop)->Prop
 |none,k=>k ak
 |some e,k=>aj n sc ρ e λd=>∃i,d=.int i/\k (aa i)
section
variable {n:Nat} {sc:bf} {ρ:ay}
theorem gu.ok{p:Option au}{k:Option Int->Prop}(h:gu n sc ρ p k)(w:a9)(A:bN)(ab:Env)(s:av)(g:aY)(S:St w s g)(R:Rm n A)(V:c8 w s g ab sc ρ)(E:ai->av->Prop):
 wpAny (model PG w) A (evalPart p ab) (acu w s g k) E s:=by
 induction p with
 |none=>exact a8 ⟨g,ak,Nx.refl _ _ _,S,rfl,h⟩
 |some e=>
  refine(h:aj n sc ρ e λd=>∃i,d=.int i/\k (aa i)).wp S R V λv s' g' d N W r Y=>Y.elim λi Y=>Y.elim λhd Z=>?_
  subst hd
  refine r.b9 λt=>?_
  exact⟨g',aa (i,t),N,W,rfl,Z⟩
theorem rG(q:Option (Int×Tok)):IsPart (fY q) (q.map (·.1)):=by
 induction q with
 |none=>exact .none
 |some q=>exact .int _ _
def uV(a:D)(lo hi st:Option Int)(k:D->Prop):Prop:=match a with
 |.str x=>((st.getD 1)==0)=aH/\x.length<=10000/\k (.str (d6 x lo hi st))
 |.lst l=>st≠aa 0/\l.length<=10000/\k (.lst (kK l lo hi st))
 |_=>False
theorem Rp(lo hi:Option Int)(st:Int)(n:Nat)(h:(st==0)=aH):(vG lo hi st n).length<=n:=by
 dsimp only[vG]
 refine sliceRange_length_le _ _ _ n (λV=>⟨?_,?_⟩) (λV=>⟨?_,?_⟩)
 ·induction lo with
  |none=>exact ja (bo V).symm
  |some i=>exact dh (zZ 0 _) (ja (bo V).symm)
 ·induction hi with
  |none=>exact ja (bo V)
  |some i=>exact dh (ja (bo V)) (tS.mpr ⟨dA n,Fw _ _⟩)
 ·induction lo with
  |none=>exact ja (be V)
  |some i=>exact dh (ja (be V)) (tS.mpr ⟨qE (dA n) 1,Fw _ _⟩)
 ·induction hi with
  |none=>exact ja (be V).symm
  |some i=>exact dh (zZ _ _) (ja (be V).symm)
set_option tactic.hygienic true in
theorem aj.slc{lo hi st:Option au}
 (h:aj n sc ρ cX λa=>gu n sc ρ lo λl=>gu n sc ρ hi λu=>gu n sc ρ st λt=>uV a l u t k):aj n sc ρ (dN cX (.Slice lo hi st p) aM) k:=.mk λw A ab s g S R V E=>by
 have aaB:∀{a:D} {v:ai} {aA:av} {aN:aY},Nx [] s g aA aN->St w aA aN->Rep w aN v a->(gu n sc ρ lo λl=>gu n sc ρ hi λu=>gu n sc ρ st λt=>uV a l u t k)->
  wpAny (model PG w) A (eval (.Slice lo hi st p) ab) (λi aT=>∃T id,aT.TypeIs v T/\mT (aK T) "__getitem__"=pure (aa (.builtin id))/\wpAny (model PG w) A (getItem v i) (Out w s g k) E aT) E aA:=λ{a v aA aN} Z G B f=>by
  refine GX (bg (gu.ok f w A ab aA aN G R (V.step Z S) E) (λlv aT ⟨bb,ql,C,gf,e2,gd⟩=>?_))
  subst e2
  refine bg (gu.ok gd w A ab aT bb gf R ((V.step Z S).step C G) E) (λuv kX ⟨ii,qu,gw,ij,e3,jS⟩=>?_)
  subst e3
  refine bg (gu.ok jS w A ab kX ii ij R (((V.step Z S).step C G).step gw gf) E) (λtv Y ⟨m7,qt,lA,m6,e4,W⟩=>?_)
  subst e4
  have N:=((Z.trans C).trans gw).trans lA
  have r:=((B.mono C.gg).mono gw.gg).mono lA.gg
  obtain⟨qc,H⟩:=m6.ext' (h':=Y.heap.push {cls:=aK "slice",data:=bC #[fY ql,fY qu,fY qt]}) (tk:=Y.toks) λb o e=>bZ _ e
  have Ny:({Y with heap:=Y.heap.push {cls:=aK "slice",data:=bC #[fY ql,fY qu,fY qt]}}:av).heap.IsSlice Y.heap.objs.size ql qu qt:=⟨_,cB _ rfl,rfl,rfl⟩
  cases a with
  |str x=>
   obtain⟨t,rfl⟩:=r.str_inv
   have h0:((qt.map (·.1)).getD 1==0)=aH:=W.1
   refine⟨_,_,((Rep.typeIs H r).1),F.slot_str_getitem.lookup,wpAny_getItem_str_slice Ny h0 ?_⟩
   have hk:=W.2.2
   delta sliceMade slicePicked
   unfold d6 at hk
   split
   ·rename_i hc
    rw[bo hc] at hk
    exact Out.trans (N.trans qc) (Out.same H (.str _ _) hk) λ_ x=>x
   ·rename_i hc
    rw[be hc] at hk
    refine⟨?_,Out.trans (N.trans qc) (Out.toks H (.str _ _) hk) λ_ x=>x⟩
    have:sizeLine=2^24:=rfl
    exact bd (aV (aD (aD (vL (x.cps[·]?) (vG (ql.map (·.1)) (qu.map (·.1)) ((qt.map (·.1)).getD 1) x.length)) (Rp (ql.map (·.1)) (qu.map (·.1)) ((qt.map (·.1)).getD 1) x.length h0)) W.2.1) (lT tT))
  |lst l=>
   obtain⟨b,nn,iK,rfl,hg,rl⟩:=r.lst_inv
   have hL:({Y with heap:=Y.heap.push {cls:=aK "slice",data:=bC #[fY ql,fY qu,fY qt]}}:av).heap.IsList b iK:=⟨_,H.sub _ _ hg,rfl,nn,rfl⟩
   have eU:iK.size=l.length:=by have:=rl.1;exact this
   refine⟨_,_,((Rep.typeIs H r).1),Fe.lookup,N8 hL ⟨_,cB _ rfl,rfl,rfl⟩ (rG ql) (rG qu) (rG qt) W.1 ?_ (by rw[eU];have:=W.2.1;have:sizeLine=2^24:=rfl;exact aD (by assumption) (by decide))⟩
   refine Out.trans (N.trans qc) (Out.newList (tk:=Y.toks) H (l:=kK l (ql.map (·.1)) (qu.map (·.1)) (qt.map (·.1))) ?_ W.2.2) λ_ x=>x
   delta slicePick kK
   exact eU▸(rl.pick _)
  |_=>exact W.elim
 refine AJ (h.wp S R V λv aA aN a Z G B f=>bg (aaB Z G B f) (λi aT q_=>q_.elim λT q_=>q_.elim λid q_=>q_.elim λhT q_=>q_.elim λhl hg=>?_))
 induction st with
 |none=>exact Bk (ops:=[i,v]) hT hl hg rfl
 |some e=>exact Bk (ops:=[v,i]) hT hl hg rfl
theorem aj.d6{lo hi st:Option au}(V:∀o r,F8 cX o r=pure ())
 (h:aj n sc ρ cX λa=>a.ty="str"∧gu n sc ρ lo λl=>gu n sc ρ hi λu=>gu n sc ρ st λt=>uV a l u t k):aj n sc ρ (dN cX (.Slice lo hi st p) aM) k:=aj.slc (h.mono λ_ q=>q.2)
theorem aj.kK{lo hi st:Option au}(V:∀o r,F8 cX o r=pure ())
 (h:aj n sc ρ cX λa=>a.ty="list"∧gu n sc ρ lo λl=>gu n sc ρ hi λu=>gu n sc ρ st λt=>uV a l u t k):aj n sc ρ (dN cX (.Slice lo hi st p) aM) k:=aj.slc (h.mono λ_ q=>q.2)
end
inductive Di(w:a9)(s:av)(g:aY)(ab:Env)(k:Bd->Prop)(v:ai)(s':av):Prop
 |mk (g' b ad:_) (N:Nx [] s g s' g') (S:St w s' g') (R:cU w s' g' ab v ad b) (hf:b.isFn=aH) (ha:∀a∈ad,s.heap.get? a=ak) (h:k b)
structure cK(n:Nat)(sc:bf)(ρ:ay)(e:au)(k:Bd->Prop):Prop where
 run:∀(w:a9) (A:bN) (ab:Env) (s:av) (g:aY),St w s g->Rm n A->c8 w s g ab sc ρ->∀E,wpAny (model PG w) A (eval e ab) (Di w s g ab k) E s
def f8(n:Nat)(sc:bf)(ρ:ay):List au->(List Bd->Prop)->Prop
 |[],k=>k []
 |e::r,k=>cK n sc ρ e λb=>f8 n sc ρ r λbs=>k (b::bs)
structure oG(w:a9)(s:av)(g:aY)(ab:Env)(vs:List ai)(bs:List Bd)(bX:List (List ag)):Prop where
 len:vs.length=bs.length
 len':bX.length=bs.length
 rep:∀(i:Nat) v b ad,vs[i]?=aa v->bs[i]?=aa b->bX[i]?=aa ad->cU w s g ab v ad b
 nf:∀b∈bs,b.isFn=aH
 sQ:bX.Pairwise λa b=>∀x∈a,x∉b
section
variable {n:Nat} {sc:bf} {ρ:ay}
inductive Z1(w:a9)(s:av)(g:aY)(ab:Env)(k:List Bd->Prop)(vs:List ai)(s':av):Prop
 |mk (g' bs bX:_) (N:Nx [] s g s' g') (S:St w s' g') (R:oG w s' g' ab vs bs bX) (ha:∀ad∈bX,∀a∈ad,s.heap.get? a=ak) (h:k bs)
theorem cK.dat{k:Bd->Prop}(h:aj n sc ρ e λd=>k (.dat d)):cK n sc ρ e k:=.mk λw A ab s g S R V E=>
 bg (h.run w A ab s g S R V E) (λv s' Y=>by obtain⟨g',d,N,W,r,Z⟩:=Y;exact⟨g',.dat d,[],N,W,⟨r,rfl⟩,rfl,fU,Z⟩)
theorem cK.mono{k k':Bd->Prop}(h:cK n sc ρ e k)(Y:∀b,k b->k' b):cK n sc ρ e k':=.mk λw A ab s g S R V E=>
 bg (h.run w A ab s g S R V E) (λv s' W=>by obtain⟨g',b,ad,N,Z,r,nf,H,q⟩:=W;exact⟨g',b,ad,N,Z,r,nf,H,Y b q⟩)
theorem f8.mono:∀{l:List au} {k k':List Bd->Prop},f8 n sc ρ l k->(∀ds,k ds->k' ds)->f8 n sc ρ l k':=by
 intro W
 induction W with
 |nil=>
  intro k k' h V
  exact V _ h
 |cons e r Y=>
  intro k k' h V
  exact cK.mono (k':=λd=>f8 n sc ρ r λds=>k' (d::ds)) h λd hd=>Y hd λds h=>V _ h
theorem f8.len:∀{l:List au} {k:List Bd->Prop},f8 n sc ρ l k->f8 n sc ρ l λds=>ds.length=l.length/\k ds:=by
 intro Y
 induction Y with
 |nil=>
  intro k h
  exact⟨rfl,h⟩
 |cons e r V=>
  intro k h
  exact cK.mono (k':=λd=>f8 n sc ρ r λds=>(d::ds).length=(e::r).length/\k (d::ds)) h λd hd=>f8.mono (V hd) λds h=>⟨aQ _ h.1,h.2⟩
theorem oG.reverse{bX:List (List ag)}(B:oG w s g ab vs bs bX):oG w s g ab vs.reverse bs.reverse bX.reverse:=by
 have V:=B.len;have Y:=B.len'
 refine⟨by simp[V],by simp[Y],λi v b ad W H G=>?_,λb C=>B.nf b (iM.mp C),Ow.mpr (B.sQ.imp λh x f Z=>h x Z f)⟩
 have hi:i<vs.length:=by have:=(ez.mp W).1;simpa using this
 rw[o9 hi] at W
 rw[o9 (cg hi (bn V))] at H
 rw[o9 (cg (cg hi (bn V)) (bn Y.symm))] at G
 refine B.rep (vs.length-1-i) v b ad W ?_ ?_
 ·rw[V];exact H
 ·rw[V,<-Y];exact G
theorem f8.ok:∀{l:List au} {k:List Bd->Prop},l.all cu=ae->f8 n sc ρ l k->∀(w:a9) (A:bN) (ab:Env) (s:av) (g:aY) (aM:Pos),St w s g->Rm n A->c8 w s g ab sc ρ->∀E,
 wpAny (model PG w) A (spliced (backTo aM (starEach l ab))) (Z1 w s g ab k) E s:=by
 intro l_
 induction l_ with
 |nil=>
  intro k _ h w A ab s g aM S R V E
  exact spliced_nil ⟨g,[],[],Nx.refl _ _ _,S,⟨rfl,rfl,λi v b ad h=>by simp at h,dC tT,jZ⟩,fU,h⟩
 |cons e r DS=>
  intro k ha h w A ab s g aM S R V E
  simp only[wB,bB] at ha
  refine qS (bg (h.run w A ab s g S R V E) (λv aA ⟨aN,b,ad,W,Z,f,nf,fr,iZ⟩=>?_)) (nO ha.1)
  refine bg (DS ha.2 iZ w A ab aA aN aM Z R (V.step W S) E) (λvs aT ⟨bb,bs,bX,lz,gf,Y,H,gd⟩=>?_)
  have qk:∀a,aA.heap.get? a=ak->s.heap.get? a=ak:=λa e=>by
   induction q:s.heap.get? a with
   |none=>rfl
   |some o=>obtain⟨o',e'⟩:=W.there a o q (ca);exact ns (e.symm.trans e')
  refine⟨bb,b::bs,ad::bX,W.trans lz,gf,⟨aQ _ Y.len,aQ _ Y.len',λi v' b' G q1 q2 q3=>?_,λb' hb=>?_,fV.mpr ⟨λG C a ha B=>?_,Y.sQ⟩⟩,λG C a B=>?_,gd⟩
  ·induction i with
   |zero=>simp at q1 q2 q3;subst q1 q2 q3;exact f.step lz Z (by simp) (by simp)
   |succ i=>simp at q1 q2 q3;exact Y.rep i v' b' G q1 q2 q3
  ·rcases bT.mp hb with e|hb
   ·subst e;exact nf
   ·exact Y.nf b' hb
  ·obtain⟨o,e⟩:=f.there Z nf a ha
   exact ns ((H G C a B).symm.trans e)
  ·rcases bT.mp C with e|C
   ·subst e;exact fr a B
   ·exact qk a (H G C a B)
def uW(w:a9)(mu:List ag)(aw:av)(aE g:aY)(ab:Env)(sc:bf)(A:bN)(E:ai->av->Prop)(fs:List (ai->Sem Unit))(aI:List Str)(vs:List ai)(bs:List Bd)(bX:List (List ag)):Prop:=
 ∀(s:av) (ρ:ay) (aB:Str->List ag),bj w mu aw aE s g ab sc ρ aB->oG w s g ab vs bs bX->(∀x∈aI,mine sc x=ae)->
  (∀(i:Nat) f x,fs[i]?=aa f->aI[i]?=aa x->∀v (Q:Unit->av->Prop) s,wpAny (model PG w) A (rC ab x v) Q E s->wpAny (model PG w) A (f v) Q E s)->
  (∀ad∈bX,∀a∈ad,(aw.heap.get? a=ak\/a∈mu)/\(a≠ab.locals/\∀y c,ab.cells.lookup y=aa c->c≠a)/\∀y Y,ρ.lookup y=aa Y->a∉aB y)->
  wpAny (model PG w) A (QP fs vs) (λ_ s'=>∃V,bj w mu aw aE s' g ab sc ((aI.zip bs).reverse++ρ) V) E s
theorem uW.cons{f:ai->Sem Unit}{b:Bd}{ad:List ag}{fs:List (ai->Sem Unit)}{bX:List (List ag)}
 (ih:uW w mu aw aE g ab sc A E fs aI vs bs bX):uW w mu aw aE g ab sc A E (f::fs) (x::aI) (v::vs) (b::bs) (ad::bX):=by
 intro s ρ aB H B hm hf C
 have rb:=B.rep 0 v b ad rfl rfl rfl
 have nf:=B.nf b bi
 refine zl (hf 0 f x rfl rfl v _ s (H.Cg (n:=0) (b:=b) (ad:=ad) (hm x bi) rb (λa W=>?_) (λs' he H' K X=>?_) E))
 ·have q:=C ad bi a W
  exact⟨⟨λ_=>q.1,rb.there H.st nf a W⟩,q.2.1,λy Y Z _ _=>q.2.2 y Y Z⟩
 ·refine IK.symm▸ih s' ((x,b)::ρ) _ H' ⟨pp B.len,pp B.len',λi v' Y V q1 q2 q3=>K v' V Y (B.rep (i+1) v' Y V q1 q2 q3) λa W=>(C V (bM _ (c5 q3)) a W).2.1,λY hb=>B.nf Y (bM _ hb),(fV.mp B.sQ).2⟩ (λy Z=>hm y (bM _ Z)) (λi f x q1 q2=>hf (i+1) f x q1 q2) λV G a W=>?_
  have q:=C V (bM _ G) a W
  refine⟨q.1,q.2.1,λy Y Z=>?_⟩
  rw[j7] at Z
  by_cases e:y=x
  ·rw[bo e]
   exact λq=>(fV.mp B.sQ).1 V G a q W
  ·rw[be e] at Z⊢
   exact q.2.2 y Y Z
theorem storeAll{fs:List (ai->Sem Unit)}{bX:List (List ag)}
 (B:oG w s g ab vs bs bX)(hl:aI.length=vs.length)(V:fs.length=vs.length):uW w mu aw aE g ab sc A E fs aI vs bs bX:=
 Ma (P:=uW w mu aw aE g ab sc A E) (λs ρ aB H _ _ _ _=>EG ⟨aB,H⟩) (λ_ _ _ _ _ _ _ _ _ _ Y=>Y.cons) vs V hl B.len.symm (B.len'.trans B.len.symm)
theorem Bn{s':av}{g':aY}{aB:Str->List ag}(H:bj w mu aw aE s g ab sc ρ aB)(e:s.heap.get? a=ak):
 (aw.heap.get? a=ak\/a∈mu)/\(a≠ab.locals/\∀y c,ab.cells.lookup y=aa c->c≠a)/\∀y b',ρ.lookup y=aa b'->a∉aB y:=by
 refine⟨?_,⟨λq=>?_,λy c W q=>?_⟩,λy b' Z q=>?_⟩
 ·by_cases q:a∈mu
  ·exact .inr q
  ·induction V:aw.heap.get? a with
   |none=>exact .inl rfl
   |some o=>obtain⟨G,Y⟩:=H.nx.there a o V q;exact ns (e.symm.trans Y)
 ·obtain⟨m,o,_,_,V,_⟩:=H.gE
  rw[<-q,e] at V;exact ns V
 ·obtain⟨_,⟨_,o,V,_⟩,_⟩:=H.cP y c W
  rw[q,e] at V;exact ns V
 ·obtain⟨⟨_,o,V⟩,_⟩:=H.dI y b' Z a q
  exact ns (e.symm.trans V)
theorem aO.uo{k:Fl->ay->Prop}(B:mine sc x=ae)(hs:∀ab,iA cX (aa (aS x p)) aM.line ab=pure aH)
 (h:cK n sc ρ cX λb=>k .next ((x,b)::ρ)):aO n sc ρ (fe [aS x p] cX aM) k:=.mk λw A ab mu aw aE s g aB H R E=>
 zO (bg (h.run w A ab s g H.st R H.cI E) (λv aA ⟨aN,b,ad,W,V,Y,nf,f,Z⟩=>
  (H.step W V).store (n:=0) B Y (λa C=>by
   refine ba λN_=>?_
   obtain⟨q1,⟨q2,q3⟩,q4⟩:=Bn (s':=s) (g':=g) H (f a C)
   apply N_
   exact⟨⟨λ_=>q1,Y.there V nf a C⟩,⟨q2,q3⟩,λy b' hy _ _=>q4 y b' hy⟩) (λaT _ G=>⟨aN,_,.next,_,G,trivial,Z⟩) E)) (hs ab)
theorem aO.AL{es:List au}{k:Fl->ay->Prop}(hn:aI.length=es.length)(vB:es.all cu=ae)(C:aI.all (mine sc)=ae)(iJ:aI.Nodup)(B:es.length<=1000)
 (hV:∀ab,Ag [b7 ts c p] (b7 es c' p') aM.line ab=pure aH)(hw:∀ab:Env,ab.scope.kind=fu->(∀x,KS (ab.kindOf x) (sc.names.lookup x))->mQ [b7 ts c p] (b7 es c' p') ab=pure (aa aI))
 (h:f8 n sc ρ es λbs=>k .next (aI.zip bs++ρ)):aO n sc ρ (fe [b7 ts c p] (b7 es c' p') aM) k:=.mk λw A ab mu aw aE s g aB H R E=>by
 refine Assign_Tuple_swapped (names:=aI) ?_ (hV ab) (hw ab H.kind H.ks)
 refine zA (bg (f8.ok vB h.len w A ab s g p' H.st R H.cI E) (λvs aA ⟨aN,bs,bX,vg,W,V,fr,Y,iZ⟩=>⟨?_,?_⟩))
 ·simp only[V.len,Y];have:sizeLine=2^24:=rfl;exact bd (aV B (lT tT))
 ·have nl:aI.length=vs.toArray.size:=by simp[V.len,Y,hn]
  rw[nl]
  refine unpackItems_tuple R.2.2 ⟨_,cB _ rfl,rfl,_,rfl⟩ λh' he=>?_
  have kp:∀b o,aA.heap.get? b=aa o->h'.get? b=aa o:=λb o e=>ExtBut.keeps he b o (bZ _ e)
  refine(W.ext' (h':=h') (tk:=aA.toks) kp).elim λZ gf=>?_
  have G:oG w {aA with heap:=h'} aN ab vs bs bX:=⟨V.len,V.len',λi v b ad q1 q2 q3=>(V.rep i v b ad q1 q2 q3).step Z W (by simp) (by simp),V.nf,V.sQ⟩
  have hz:(aI.reverse.zip bs.reverse).reverse=aI.zip bs:=by
   have:=List.reverse_zipWith (f:=Prod.mk) (l:=aI.reverse) (l':=bs.reverse) (by simp[hn,Y])
   simpa[List.zip] using this
  refine bg (storeAll (fs:=aI.reverse.map λn=>bindName ab n) G.reverse (by simp[hn,V.len,Y]) (by simp[hn,V.len,Y]) _ ρ aB ((H.step vg W).step Z gf) G.reverse (λx hx=>ef.mp C x (iM.mp hx)) (λi f x q1 q2 v Q s hq=>?_) (λad lI a ha=>Bn (s':=s) (g':=g) H (fr ad (iM.mp lI) a ha)) (E:=E)) (λ_ kX q_=>q_.elim λdX H3=>?_)
  ·rw[ci,q2] at q1
   obtain rfl:=aW q1
   exact bindName_ hq
  ·exact⟨aN,_,.next,dX,(hz▸H3),trivial,iZ⟩
end
noncomputable def jg(ρ:ay):ay:=ρ.map λp=>(p.1,match p.2 with
 |.dat d=>.dat d
 |_=>.any)
theorem Gi{b:Bd}(h:(jg ρ).lookup x=aa b):b=.any\/∃d,b=.dat d/\ρ.lookup x=aa (.dat d):=by
 induction ρ with
 |nil=>exact ns h
 |cons p r Y=>
  have h:jb x ((p.1,match p.2 with|.dat d=>Bd.dat d|_=>.any)::jg r)=aa b:=h
  rw[iu] at h⊢
  induction V:x==p.1 with
  |true=>
   rw[V] at h
   have h:=aW h
   induction q:p.2 with
   |dat d=>exact .inr ⟨d,(q▸h).symm,rfl⟩
   |_=>exact .inl (q▸h).symm
  |false=>rw[V] at h;exact Y h
theorem Aw:∀{ρ:ay} {x:Str} {b:Bd},(jg ρ).lookup x=aa b->∃c,ρ.lookup x=aa c
 |[],x,b,h=>by exact ns h
 |(y,c)::r,x,b,h=>by
  unfold jg at h
  rw[d8,iu] at h
  dsimp only[iu]
  induction V:x==y with
  |true=>exact⟨c,rfl⟩
  |false=>exact Aw (V▸h)
def D.scalar(d:D):Bool:=d.sel.ble 3
theorem Rep.scalar(h:Rep w g v d)(hd:d.scalar=ae):Rep w g' v d:=by
 induction h with
 |none=>exact .none
 |bool b=>exact .bool b
 |int i t=>exact .int i t
 |str x t=>exact .str x t
 |tup=>exact ft hd
 |lst=>exact ft hd
 |cO=>exact ft hd
 |eu=>exact ft hd
section
variable {n:Nat} {sc:bf} {ρ:ay}
set_option tactic.hygienic true in
theorem mo(S:St w s g)(V:c8 w s g ab sc ρ)(hx:ρ.lookup x=aa (.own a l)):∃aN,St w s aN/\c8 w s aN ab sc ((x,.dat (.lst l))::jg ρ)/\(∀b,b≠a->aN b=g b)/\g a=ak/\∃o,s.heap.get? a=aa o:=by
 refine ba λN_=>?_
 obtain⟨v,ad,h1,af,rfl,h3,⟨nn,W⟩,h5,_⟩:=V.var x _ hx
 obtain⟨G,up⟩:=S.freeze (n:=a) W h3 (S.dQ W (.inl (by simp)))
 apply N_
 have ne:∀b o,s.heap.get? b=aa o->o.cls≠aK "list"→b≠a:=λb o e C q=>by
  subst q;rw[W] at e;obtain rfl:=aW e;exact C rfl
 have vs:∀y u,fG s g ab y u->fG s (iB g a {cls:=aK "list",data:=.seq af nn}) ab y u:=λy u h=>by
  rcases h with ⟨Y,Z,m,B,f⟩|⟨Y,c,Z,B,f⟩
  ·refine .inl ⟨Y,?_,m,B,f⟩
   obtain⟨o,es,ep,e,d,_⟩:=B
   rw[fE];exact Z
   intro q;rw[q] at e;rw[W] at e;obtain rfl:=aW e;cases d
  ·refine .inr ⟨Y,c,Z,?_,f⟩
   obtain⟨o,e,d⟩:=f
   rw[fE];exact B
   intro q;rw[q] at e;rw[W] at e;obtain rfl:=aW e;cases d
 refine⟨_,G,⟨V.kind,V.glob,V.gv,V.ks,V.lam,V.e8,λy c C=>?_,V.fg,λy b H=>?_⟩,λb H=>fE _ _ _ H,h3,_,W⟩
 ·obtain⟨Y,u,o,e,d⟩:=V.cP y c C
  refine⟨?_,u,o,e,d⟩
  rw[fE];exact Y
  intro q;rw[q] at e;rw[W] at e;obtain rfl:=aW e;cases d
 ·rw[j7] at H
  split at H
  ·rename_i e
   obtain rfl:=aW H;subst e
   exact⟨.ref a,[],vs _ _ h1,.lst a nn af l (g5 _ _ _) h5.1 λi v d Y Z=>(h5.2 i v d Y Z).mono up,rfl⟩
  ·rcases Gi H with rfl|⟨d,rfl,hd⟩
   ·obtain⟨c,C⟩:=Aw H
    obtain⟨u,_,Y,_⟩:=V.var y _ C
    exact⟨u,[],vs _ _ Y,rfl⟩
   ·obtain⟨u,_,Y,Z,_⟩:=V.var y _ hd
    exact⟨u,[],vs _ _ Y,Z.mono up,rfl⟩
theorem A4(W:∀b,b≠a->aN b=g b)(Z:g a=ak)(hs:∃o,s.heap.get? a=aa o)(N:Nx [] s aN s' bb)(Y:St w s' bb):∃g',Nx [] s g s' g'/\St w s' g':=by
 refine⟨λb=>if b=a then ak else bb b,⟨N.keep,N.there,λb o e=>?_,λb o e H G=>?_,N.os⟩,⟨Y.df,Y.gB,Y.blt,Y.lim,Y.bmain,Y.tab,λb o e=>?_,λP C=>?_,Y.gens⟩⟩
 ·have V:b≠a:=λq=>by subst q;exact ns (Z.symm.trans e)
  simp only[be V]
  exact N.gg b o (by exact(W b V).trans e)
 ·by_cases V:b=a
  ·simp[V]
  ·exact(be V).trans (N.old b o e (by exact(W b V).trans H) G)
 ·by_cases V:b=a
  ·simp[V] at e
  ·simp only[be V] at e;exact Y.sub b o e
 ·by_cases V:P=a
  ·simp[V]
  ·exact(be V).trans (Y.off P C)
theorem aj.mo(H:ρ.lookup x=aa (.own a l))(h:aj n sc ((x,.dat (.lst l))::jg ρ) e λd=>d.scalar=ae/\k d):aj n sc ρ e k:=.mk λw A ab s g S R V E=>by
 refine ba λG=>?_
 obtain⟨aN,Y,W,C,B,hs⟩:=Mine.Internal.mo S V H
 apply G
 refine h.wp Y R W λv s' bb d N Z r f=>f.elim λhd hk=>?_
 obtain⟨g',N',S'⟩:=A4 C B hs N Z
 exact⟨g',d,N',S',r.scalar hd,hk⟩
theorem bH.mo{k:Bool->Prop}(H:ρ.lookup x=aa (.own a l))(h:bH n sc ((x,.dat (.lst l))::jg ρ) e k):bH n sc ρ e k:=.mk λw A ab s g S R V E=>by
 refine ba λG=>?_
 obtain⟨aN,Y,W,C,B,hs⟩:=Mine.Internal.mo S V H
 apply G
 refine h.wp Y R W λv s' bb N Z f=>?_
 obtain⟨g',N',S'⟩:=A4 C B hs N Z
 exact⟨g',N',S',f⟩
theorem bj.freeze{aB:Str->List ag}(H:bj w mu aw aE s g ab sc ρ aB)(B:ρ.lookup x=aa (.own a l)):
 ∃g' V,bj w mu aw aE s g' ab sc ((x,.dat (.lst l))::ρ) V/\(∀b o,g b=aa o->g' b=aa o):=by
 refine ba λN_=>?_
 obtain⟨v,h1,af,rfl,h3,⟨f,Z⟩,h5,h6⟩:=H.var x _ B
 obtain⟨Y,up⟩:=H.st.freeze (n:=a) Z h3 (H.st.dQ Z (.inl (by simp)))
 apply N_
 have N:Nx [a] s g s (iB g a {cls:=aK "list",data:=.seq af f}):=⟨λb o e _ _=>e,λb o e _=>⟨o,e⟩,up,λb o e W hm=>by
  rw[fE];exact W
  exact λq=>hm (by simp[q]),rfl⟩
 refine⟨_,_,H.change (io:=[]) B rfl rfl N Y (λb C=>h6▸C) (λb C o e=>?_) (λv' _ r=>?_) (fU),up⟩
 ·have:b=a:=a_.1 C
  subst this;rw[Z] at e;obtain rfl:=aW e;exact cV.of λvs q=>by cases q
 ·obtain⟨G,rfl,_,⟨nn',W⟩,r5,_⟩:=r
  replace W:=Z▸W;cases W
  exact⟨.lst a f af l (g5 _ _ _) r5.1 λi v d q1 q2=>(r5.2 i v d q1 q2).mono up,rfl⟩
theorem aL.freeze{b:List bw}{k:Fl->ay->Prop}(Y:ρ.lookup x=aa (.own a l))(h:aL n sc ((x,.dat (.lst l))::ρ) b k):aL n sc ρ b k:=.mk λw A ab mu aw aE s g aB H R E=>by
 obtain⟨g',V,W,up⟩:=bj.freeze H Y
 exact h.run w A ab mu aw aE s g' V W R E
structure kP(n:Nat)(id:String)(l:List D)(ds:List D)(l':List D):Prop where
 run:∀(w:a9) (A:bN) (s:av) (g:aY) (a:ag) (af:Array ai) (vs:List ai),St w s g->Rm n A->s.heap.PlainList a af->aP w g af.toList l->aP w g vs ds->g a=ak->∀(Q:ai->av->Prop) E,
  (∀h' tk me,kI a s.heap h'->h'.PlainList a me->aP w g me.toList l'->Q .none {s with heap:=h',toks:=tk})->wpAny (model PG w) A (call (.builtin id) (.ref a::vs)) Q E s
theorem bj.own{aB:Str->List ag}{V:Array ai}(H:bj w mu aw aE s g ab sc ρ aB)(G:ρ.lookup x=aa (.own a l))
 (hs:kI a s.heap h')(hp:h'.PlainList a V)(hr:aP w g V.toList l'):∃W,bj w mu aw aE {s with heap:=h',toks:=tk} g ab sc ((x,.own a l')::ρ) W:=by
 obtain⟨v,h1,af,rfl,h3,⟨nn,B⟩,h5,C⟩:=H.var x _ G
 have am:a∈aB x:=by rw[C];simp
 obtain⟨⟨q1,_⟩,_⟩:=H.dI x _ G a am
 have f:cV {cls:=aK "list",data:=.seq af nn}:=cV.of λvs q=>by cases q
 obtain⟨N,S'⟩:=St.changes (mt:=[a]) (h':=h') (tk:=tk) H.gT H.st H.nx H.fz (λb Y=>by
  have:b=a:=a_.1 Y
  subst this;exact⟨q1 rfl,h3,_,B,f⟩) (λb o Y e=>(hs.2 b (by simpa using Y)).trans e)
 refine⟨_,H.change (io:=[a]) G rfl rfl N S' (λb Y=>by rw[C];exact Y) (λb Y o e=>?_) (λv' _ r=>?_) (λb Y=>.inl (by rw[C];exact Y))⟩
 ·have:b=a:=a_.1 Y
  subst this;rw[B] at e;obtain rfl:=aW e;exact f
 ·obtain⟨Z,rfl,_⟩:=r
  exact⟨V,rfl,h3,hp,hr,rfl⟩
theorem kP.append(hl:l.length<=100000):kP n "list.append" l [d] (l++[d]):=.mk λw A s g a af vs S R V hr Y C Q E W=>by
 obtain⟨v,rfl,Z⟩:=Y.one
 have hs:af.size=l.length:=by have:=hr.1;exact this
 refine zo V (λh' H G=>W h' s.toks _ G H ?_) (by rw[hs];have:sizeLine=2^24:=rfl;exact bd (aV hl (lT tT)))
 rw[tr];exact hr.append (aP.cons Z aP.nil)
theorem cM.append:cM "list" "append" "list.append":=⟨F.plainAttrs_list,slot_list_append,type_list_append⟩
end
theorem bK.of{t:au}{k:List D->Prop}(h:∀(w:a9) (A:bN) (ab:Env) (s:av) (g:aY),St w s g->Rm n A->c8 w s g ab sc ρ->∀E,wpAny (model PG w) A (eval e ab) (λx aA=>wpAny (model PG w) A (pyIter x) (iT w A s g t k) E aA) E s):bK n sc ρ t e k:=⟨h⟩
theorem iT.trans{t:au}{k:List D->Prop}{V:ai}(N:Nx [] s g aA aN)(h:iT w A aA aN t k V aT):iT w A s g t k V aT:=by
 obtain⟨I,fp,wr,J,af,bb,Z,H,h3,G,C,Y,B,f,h9⟩:=h
 refine⟨I,fp,wr,J,af,bb,Z,N.trans H,h3,G,C,λb W=>⟨?_,(Y b W).2⟩,B,f,h9⟩
 induction q:s.heap.get? b with
 |none=>rfl
 |some o=>obtain⟨o',e⟩:=N.there b o q (ca);exact ns (((Y b W).1).symm.trans e)
structure fO(n:Nat)(f:ai)(ds:List D)(t:au)(k:List D->Prop):Prop where
 run:∀(w:a9) (A:bN) (s:av) (g:aY) (vs:List ai),St w s g->Rm n A->aP w g vs ds->∀E,wpAny (model PG w) A (call f vs) (λx aA=>wpAny (model PG w) A (pyIter x) (iT w A s g t k) E aA) E s
theorem h_(S:St w s g)(h:s.heap.objs.size<=a):s.heap.get? a=ak/\g a=ak:=by
 have e:s.heap.get? a=ak:=by
  induction q:s.heap.get? a with
  |none=>rfl
  |some o=>exact aZ (cq q) (de.mpr h)
 refine⟨e,?_⟩
 induction q:g a with
 |none=>rfl
 |some o=>exact sn ((S.sub _ _ q).symm.trans e)
theorem iT.one{t:au}{k:List D->Prop}{qr:List ag}{af:List D}(S:St w s g)(C:o.cls≠.none)(B:o.isFreed=aH)
 (W:dz w A g s.heap.objs.size t af (s.heap.objs.size::qr) [s.heap.objs.size] J)(f:J 0 (s.heap.push o))(V:∀b∈qr,∃o,g b=aa o)(hl:af.length<=10000)(hk:k af):
 iT w A s g t k (.ref s.heap.objs.size) {s with heap:=s.heap.push o}:=by
 refine(S.ext' (h':=s.heap.push o) (tk:=s.toks) λb G e=>bZ _ e).elim λN Y=>?_
 have e:=cB s.heap B
 refine⟨_,_,_,J,af,g,rfl,N,Y,W,f,λb Z=>?_,λb Z=>?_,hl,hk⟩
 ·have:b=s.heap.objs.size:=a_.1 Z
  subst this;exact h_ S (bv _)
 ·rcases bT.mp Z with q|q
  ·subst q
   exact⟨Y.dQ (a:=s.heap.objs.size) e (.inl C),cq e,.inl (bi)⟩
  ·refine(V b q).elim λG H=>?_
   refine⟨λhT=>?_,cq (Y.sub _ _ H),.inr ⟨G,H⟩⟩
   have:=S.off b hT;exact sn (H.symm.trans this)
section
variable {n:Nat} {sc:bf} {ρ:ay} {t:au} {k:List D->Prop}
theorem bK.call{args:List au}{f:ai}(C:bO sc x f)(G:args.all cu=ae)(h:cn n sc ρ args λds=>fO n f ds t k):bK n sc ρ t (bU (aS x np) args [] aM) k:=.of λw A ab s g S R V E=>by
 refine lP (C.run w A ab s g ρ S V np _ E ?_)
 refine j8 (P:=λhp=>∃k,(k=jE\/k=jC\/k=jz)/\jN (model PG w) hp (keeperOf f) k) (by rw[(cE G).2];rfl) (λ_ q=>q) ?_
 refine fk (cE G).1 rfl (bg (cn.ok G h w A ab s g aM S R V E) (λvs aA ⟨aN,ds,W,Y,Z,H⟩=>?_))
 refine fB ⟨C.keep w aA aN Y,?_⟩
 exact bg (H.run w A aA aN vs Y R Z E) (λr aT o=>er o (λit B q=>q.trans W) λ_ _ x=>x)
theorem bK.str(h:aj n sc ρ e λd=>∃x:Str,d=.str x/\x.length<=10000/\k (x.cps.toList.map λc=>.str ⟨#[c]⟩)):bK n sc ρ t e k:=.of λw A ab s g S R V E=>
 bg (h.run w A ab s g S R V E) (λv aA q_=>by
  obtain⟨aN,d,Y,Z,H,x,hd,hl,hk⟩:=q_
  subst hd
  refine H.dB λtk=>?_
  have len:(x.cps.toList.map λc=>D.str ⟨#[c]⟩).length=x.cps.size:=aR _
  have G:∀i v d,(x.cps.toList.map λc=>D.str ⟨#[c]⟩)[i]?=aa d->Cc x i v->Rep w aN v d:=λi v d hi hv=>by
   obtain⟨c,u,B,rfl⟩:=hv
   rw[ci] at hi
   rw[show x.cps.toList[i]?=aa c by simpa using B] at hi
   obtain rfl:=aW hi;exact .str _ _
  have C:∀(ty:String),wX.contains ty=aH->(Walks PG w A aA.heap.objs.size [aA.heap.objs.size] [aA.heap.objs.size] x.cps.size (Cc x) (λi h=>h.IsStrIter aA.heap.objs.size ty x tk i))->
   iT w A aA aN t k (.ref aA.heap.objs.size) {aA with heap:=aA.heap.push {cls:=aK ty,data:=bC #[.str x tk,.int 0 0]}}:=λty f W=>by
   rw[<-len] at W
   refine iT.one (qr:=[]) Z (by simp) rfl (dz.of W G (λi h ⟨o,ho,B,hd⟩ b hb=>?_) λi h ⟨o,ho,B,hd⟩=>⟨o,ty,_,ho,B,hd,f⟩) ⟨_,cB _ rfl,rfl,rfl⟩ (fU) (by simpa[iy] using hl) hk
   have:b=aA.heap.objs.size:=a_.1 hb
   subst this
   exact⟨o,ho,λvs q t e e'=>by replace e:=hd▸e;cases e;simp at e'⟩
  cases ha:x.cps.all (·<128)
  ·exact PB ha ((C "str_iterator" (rfl) (Walks.strWide R.2.2 _ x tk)).trans Y)
  ·exact E5 ha ((C "str_ascii_iterator" (rfl) (Walks.strAscii R.2.2 _ x tk)).trans Y))
noncomputable def p0(a b:Int):List D:=(dM (b-a).toNat).map λi:Nat=>.int (a+(i:Int))
theorem JD{a b:Int}(V:a.natAbs<=1000)(Y:b.natAbs<=1000):(b-a).toNat<=2000:=
 nP.mpr (dh wA (fX.mpr (aD (PC b a) (fW Y V))))
theorem uM{i:Int}(hi:i.natAbs<=4000):adP i=ae:=
 (bB _ _).mpr ⟨eS (dh (dC tT:(-2^63:Int)≤-4000) (ES (dh (tC i▸wA) (fX.mpr hi)))),eS (jy (dh wA (fX.mpr hi)) (dC tT:(4000:Int)<2^63))⟩
theorem Z2{b:Int}(V:b.natAbs<=1000):(b+(1-1)).natAbs<=4000:=aD (wa b _) (aD (gG V _) (lB tT))
theorem Hj(a b:Int):Ob a b 1=((b-a).toNat:Int):=by
 unfold Ob
 rw[bo (by decide)]
 by_cases h:a<b
 ·rw[bo h,Gy,zF,mG (du (zP h))]
 ·rw[be h,Int.toNat_of_nonpos (Int.sub_nonpos_of_le (dW.mp h))];rfl
theorem Si(a b:Int):(p0 a b).length=(b-a).toNat:=(aR _).trans kF
theorem fO.Ci{a b:Int}(G:a.natAbs<=1000)(Z:b.natAbs<=1000)(hk:k (p0 a b)):fO n (aK "range") [.int a,.int b] t k:=.mk λw A s g vs S R r E=>by
 obtain⟨v,u,rfl,h1,H⟩:=r.two
 refine h1.b9 λC=>?_;refine H.b9 λB=>?_
 refine call_range_2 ?_
 obtain⟨N,S'⟩:=S.ext' (h':=s.heap.push {cls:=aK "range",data:=bC #[.int a C,.int b B,.int 1 s.toks]}) (tk:=s.toks+1) λb o' e=>bZ _ e
 refine wpAny_pyIter_range (cB _ rfl) ?_ ?_
 ·unfold aei
  rw[(Hj a b),uM (aD G (lB tT)),uM (aD Z (lB tT)),uM (i:=1) (by simp),uM (i:=((b-a).toNat:Int)) (aD (JD G Z) (by simp)),uM (i:=b+(1-1)) (Z2 Z),bo (by decide),Bool.or_true]
  rfl
 ·have W:=Walks.range (prog:=PG) (w:=w) R.2.2 ({s with heap:=s.heap.push {cls:=aK "range",data:=bC #[.int a C,.int b B,.int 1 s.toks]},toks:=s.toks+1}:av).heap.objs.size a 1 (b-a).toNat
  have len:=Si a b
  rw[<-len] at W
  refine(iT.one (qr:=[]) S' (by simp) rfl (dz.of W (λi v d hi q_=>q_.elim λu hv=>?_) (λi h f b Z=>?_) λi h f=>⟨_,"range_iterator",_,f,rfl,rfl,rfl⟩) ?_ (fU) (len▸aD (JD G Z) (by simp)) hk).trans N
  ·subst hv
   unfold p0 at hi
   rw[ci] at hi
   induction q:(dM (b-a).toNat)[i]? with
   |none=>replace hi:=q▸hi;exact ns hi
   |some j=>
    rw[q] at hi;obtain rfl:=aW hi
    have:=ez.mp q
    obtain⟨h1,H⟩:=this
    simp at H;subst H
    rw[GY];exact .int _ _
  ·have:b=_:=a_.mp Z
   subst this
   exact⟨_,f,λvs q t e e'=>by cases e;cases e'⟩
  ·show IsRangeIter _ _ (a+((0:Nat):Int)*1) (((p0 a b).length:Int)-((0:Nat):Int)) 1
   rw[len,(Hj a b)]
   have:=cB (s.heap.push {cls:=aK "range",data:=bC #[.int a C,.int b B,.int 1 s.toks]}) (o:={cls:=aK "range_iterator",data:=bC #[rawInt a,rawInt ((b-a).toNat:Int),rawInt 1]}) rfl
   simpa using this
end
noncomputable def jl(l:List D):List D:=l.zipIdx.map λp=>.tup [.int (p.2:Int),p.1]
theorem ub(h:(jl l)[i]?=aa d):∃x,l[i]?=aa x/\d=.tup [.int (i:Int),x]:=by
 unfold jl at h
 rw[ci,List.getElem?_zipIdx] at h
 induction q:l[i]? with
 |none=>replace h:=q▸h;simp at h
 |some x=>rw[q] at h;simp at h;exact⟨x,rfl,h.symm⟩
theorem nV:(jl l).length=l.length:=by simp[jl]
section
variable {n:Nat} {k:List D->Prop} {ts:List au} {c:Nat} {p:Pos}
theorem fO.CO(hl:l.length<=10000)(hk:k (jl l)):fO n (aK "enumerate") [.lst l] (b7 ts c p) k:=.mk λw A s g vs S R r E=>by
 obtain⟨v,rfl,h1⟩:=r.one
 refine h1.ka λa nn V Y rl=>?_
 have sz:V.size=(jl l).length:=by have:=rl.1;rw[nV];exact this
 refine call_enumerate_list (⟨_,S.sub _ _ Y,rfl,nn,rfl⟩:s.heap.IsList a V) λh' f H eU Ec=>?_
 have W:=WalksT.enumerate (prog:=PG) (w:=w) R.2.2 (s.heap.objs.size+1) s.heap.objs.size a (Fy _) (eC (lU (cq (S.sub _ _ Y)))) (eC (cq (S.sub _ _ Y))) V
 simp only[sz] at W
 obtain⟨N,Z⟩:=S.ext' (h':=h') (tk:=s.toks) Ec
 have hJ:(λ(i:Nat) (h:dp)=>(∃G,IsEnum h (s.heap.objs.size+1) s.heap.objs.size i G)/\h.IsListIter s.heap.objs.size a i/\h.IsList a V) 0 h':=⟨⟨_,f⟩,H,⟨_,Z.sub _ _ Y,rfl,nn,rfl⟩⟩
 refine W.self 0 _ _ E hJ ⟨_,_,_,_,jl l,g,rfl,N,Z,dz.ofT W.toU (λi gW d hi C=>C.elim λt C=>C.elim λx C=>C.elim λhx hv=>?_) (λi h ⟨⟨G,e1⟩,⟨o,e2,e3,e4⟩,_⟩ b B=>?_),hJ,λb B=>?_,λb B=>?_,by rw[nV];exact hl,hk⟩
 ·obtain⟨y,hy,rfl⟩:=ub hi
  subst hv
  refine⟨_,rfl,aP.cons (.int _ _) (aP.cons ?_ aP.nil)⟩
  exact rl.2 i x y (by simpa using hx) hy
 ·rcases bT.mp B with q|q
  ·subst q;exact⟨_,e1,λvs q t e e'=>by cases e;simp at e'⟩
  ·have:b=s.heap.objs.size:=a_.mp q
   subst this
   exact⟨o,e2,λvs q t e e'=>by replace e:=e4▸e;cases e;simp at e'⟩
 ·rcases bT.mp B with q|q
  ·subst q;exact h_ S (jF _)
  ·have:b=s.heap.objs.size:=a_.mp q
   subst this;exact h_ S (bv _)
 ·obtain⟨oi,i1,i2,i3⟩:=H
  rcases bT.mp B with q|q
  ·subst q;exact⟨Z.dQ f (.inl (by simp)),cq f,.inl (bi)⟩
  ·refine(bT.mp q).elim (λq=>?_) λq=>?_
   ·subst q;exact⟨Z.dQ (a:=s.heap.objs.size) i1 (.inl (by rw[i2];simp)),cq i1,.inl ((bM _ bi))⟩
   ·have:b=a:=a_.mp q
    subst this
    exact⟨Z.dQ (Z.sub _ _ Y) (.inl (by simp)),cq (Z.sub _ _ Y),.inr ⟨_,Y⟩⟩
theorem fO.Ld(hl:x.length<=10000)(hk:k (jl (x.cps.toList.map λc=>.str ⟨#[c]⟩))):fO n (aK "enumerate") [.str x] (b7 ts c p) k:=.mk λw A s g vs S R r E=>by
 refine r.one.elim λv G=>G.elim λC h1=>?_;subst C
 refine h1.dB λtk=>?_
 have sz:x.cps.size=(jl (x.cps.toList.map λc=>D.str ⟨#[c]⟩)).length:=by rw[nV];simp
 refine call_enumerate_str λh' B V eU f=>?_
 refine(S.ext' (h':=h') (tk:=s.toks) f).elim λN S'=>?_
 have Y:∀ty,h'.IsStrIter s.heap.objs.size ty x tk 0->(Draws PG w A.in1 s.heap.objs.size [s.heap.objs.size] x.cps.size (Cc x) (λi h=>h.IsStrIter s.heap.objs.size ty x tk i))->
  wpAny (model PG w) A (pyIter (.ref (s.heap.objs.size+1))) (iT w A s g (b7 ts c p) k) E {s with heap:=h'}:=λty V Dr=>by
  have W:=PD Dr (s.heap.objs.size+1) (Fy _) (by simp) (bi)
  simp only[sz] at W
  have hJ:(λ(i:Nat) (h:dp)=>(∃Z,IsEnum h (s.heap.objs.size+1) s.heap.objs.size i Z)/\h.IsStrIter s.heap.objs.size ty x tk i) 0 h':=⟨⟨_,B⟩,V⟩
  refine W.self 0 _ _ E hJ ⟨_,_,_,_,jl (x.cps.toList.map λc=>.str ⟨#[c]⟩),g,rfl,N,S',dz.ofT W.toU (λi gW d hi ⟨t,y,⟨c',u,hc,hy⟩,hv⟩=>?_) (λi h ⟨⟨Z,e1⟩,o,e2,e3,e4⟩ b H=>?_),hJ,λb H=>?_,λb H=>?_,by rw[nV];simpa[iy] using hl,hk⟩
  ·obtain⟨z,hz,rfl⟩:=ub hi
   subst hv;subst hy
   rw[ci,show x.cps.toList[i]?=aa c' by simpa using hc] at hz
   obtain rfl:=aW hz
   exact⟨_,rfl,aP.cons (.int _ _) (aP.cons (.str _ _) aP.nil)⟩
  ·rcases bT.mp H with q|q
   ·subst q;exact⟨_,e1,λvs q t e e'=>by cases e;simp at e'⟩
   ·have:b=s.heap.objs.size:=a_.mp q
    subst this
    exact⟨o,e2,λvs q t e e'=>by replace e:=e4▸e;cases e;simp at e'⟩
  ·rcases bT.mp H with q|q
   ·subst q;exact h_ S (jF _)
   ·have:b=s.heap.objs.size:=a_.mp q
    subst this;exact h_ S (bv _)
  ·refine V.elim λoi DT=>DT.elim λi1 vk=>vk.elim λi2 i3=>?_
   rcases bT.mp H with q|q
   ·subst q;exact⟨S'.dQ B (.inl (by simp)),cq B,.inl (bi)⟩
   ·have:b=s.heap.objs.size:=a_.mp q
    subst this;exact⟨S'.dQ (a:=s.heap.objs.size) i1 (.inl (by rw[i2];simp)),cq i1,.inl ((bM _ bi))⟩
 cases ha:x.cps.all (·<128)
 ·exact Y _ (by unfold strIterType at V;rw[ha] at V;exact V) (Draws.strWide (show A.in1.handled=aU from R.2.2) _ x tk)
 ·exact Y _ (by unfold strIterType at V;rw[ha] at V;exact V) (Draws.strAscii (show A.in1.handled=aU from R.2.2) _ x tk)
end
section
variable {n:Nat} {k:D->Prop}
theorem G6(xs:List Int):∀j,j<=xs.length->preSum (λi=>xs.getD i 0) j=(xs.take j).sum
 |0,_=>rfl
 |j+1,h=>by
  simp only[preSum,G6 xs j (qK h),lQ]
  have:xs[j]?=aa xs[j]:=by simp[tu h]
  simp only[this,List.sum_append]
  simp[S8,this]
theorem bk.Dj{xs:List Int}(hk:k (.int xs.sum)):bk n (.builtin "sum") [.lst (xs.map D.int)] k:=.mk λw A s g vs S R r E=>by
 obtain⟨v,rfl,h1⟩:=r.one
 refine h1.ka λa G V W C=>?_
 have B:V.size=xs.length:=by have:=C.1;simpa using this
 refine call_sum_walkG (tq (⟨_,S.sub _ _ W,rfl,G,rfl⟩:s.heap.IsList a V) ?_)
 have Z:(s.heap.push {cls:=aK "list_iterator",data:=bC #[.ref a,.int 0 0]}).objs.size=s.heap.objs.size+1:=gZ ..
 refine⟨_,_,_,_,_,_,λi=>xs.getD i 0,rfl,Sd (prog:=PG) (w:=w) (A:=A.in1) R.2.2 s.heap.objs.size a (eC (cq (S.sub _ _ W))) V,⟨⟨_,cB _ rfl,rfl,rfl⟩,⟨_,bZ _ (S.sub _ _ W),rfl,G,rfl⟩⟩,λb hb=>?_,λi v hv=>?_,λh' tk t' H=>?_⟩
 ·show b<(s.heap.push _).objs.size
  rw[Z]
  rcases bT.mp hb with q|q
  ·subst q;exact gY _
  ·have:b=a:=a_.mp q
   subst this;exact lU (cq (S.sub _ _ W))
 ·have hi:i<V.size:=(EB.mp hv).1
  have Y:i<xs.length:=by exact B▸hi
  refine(C.2 i v (.int xs[i]) (by simpa using hv) (by simp[Y])).b9 λt=>?_
  exact⟨t,by simp[S8,Y]⟩
 ·simp only[B,G6 xs xs.length (bv _),j0]
  refine Out.keep S (λb o e=>H b o ?_ (bZ _ e)) (.int _ _) hk
  intro q
  have:b=s.heap.objs.size:=a_.1 q
  subst this;rw[lj] at e;exact ns e
end
section
variable {n:Nat} {k:D->Prop}
theorem Out.sorted{V:Array ai}(S:St w s g)(h:aP w g V.toList l)(B:k (.lst l)):Out w s g k (.ref (s.heap.objs.size+1)) {s with heap:=sortedAll s.heap vs V}:=by
 refine(S.ext' (h':=sortedAll s.heap vs V) (tk:=s.toks) λb o e=>sortedAll_old e).elim λN Z=>?_
 obtain⟨e,H⟩:=sortedAll_at s.heap vs V
 have G:=h_ S (a:=s.heap.objs.size+1) (jF _)
 refine(Z.freeze (n:=s.heap.objs.size+1) H G.2 (Z.dQ (a:=s.heap.objs.size+1) H (.inl (by simp[seqObj])))).elim λf C=>?_
 refine⟨_,_,⟨N.keep,N.there,C,λa o Y W _=>?_,rfl⟩,f,.lst _ e V l (g5 _ _ _) h.1 λi v d Y W=>(h.2 i v d Y W).mono C,B⟩
 exact(fE _ _ _ (λq=>by rw[q,G.1] at Y;exact ns Y)).trans W
theorem bk.Wr{xs:List Int}(hl:xs.length<64)(Z:∀ys:List Int,ys.Perm xs->ys.Pairwise (·≤·)->k (.lst (ys.map D.int))):bk n (.builtin "sorted") [.lst (xs.map D.int)] k:=.mk λw A s g vs S R r E=>by
 obtain⟨v,rfl,H⟩:=r.one
 refine H.ka λa G V C W=>?_
 exact sorted_ints (⟨_,S.sub _ _ C,rfl,G,rfl⟩:s.heap.IsList a V.toList.toArray) W.ints (by rw[W.1];simpa using hl) λB Y f q2 q3=>Out.sorted S (aP.Wo f) (Z Y q2 q3)
end
set_option tactic.hygienic true in
theorem Q0{a b:Int}{c:ai}(l:List ai)(h:w9 l)(e:tX aM (l++[rawInt a,rawInt b,c])=aa cv):tX aM l=aa cv\/cv=c:=by
 fun_induction w9 l with
 |case1=>
  dsimp only[z0,rawInt,tX] at e
  split at e
  ·obtain rfl:=aW e;exact .inr rfl
  ·exact ns e
 |case2 W t Z u x bW Y=>
  dsimp only[wl,tX] at e⊢
  split at e
  ·rename_i V;rw[bo V];exact .inl e
  ·rename_i V;rw[be V];exact Y h e
 |case3 l H G=>exact h.elim
theorem UA{t V:ag×ag×Str}(h:t∈fy)(h':V∈fy)(e:V.2.1=t.2.1):V=t:=XR (f:=λt=>t.2.1) (by decide) h' h e
theorem JE{t:ag×ag×Str}(h:t∈fy):t.2.1∈TB:=by
 simp only[fy,bT,ca,or_false] at h
 rcases h with rfl|rfl|rfl|rfl<;>decide
theorem St.grow(S:St w s g){t:ag×ag×Str}(ht:t∈fy){Y:Array ai}(f:∀b o,b≠t.2.1->s.heap.get? b=aa o->h'.get? b=aa o)
 (hP:h'.get? t.2.1=aa (tabObj Y))(hG:BQ h' t.2.2 Y):Nx [] s g {s with heap:=h',toks:=tk} g/\St w {s with heap:=h',toks:=tk} g:=by
 have W:∀b o,b∉TB->s.heap.get? b=aa o->h'.get? b=aa o:=λb o V e=>f b o (λq=>V (q▸(JE ht))) e
 have ns:∀a m,s.heap.Ns a m->h'.Ns a m:=λa m hn=>by
  obtain⟨o,es,ep,e,d,r⟩:=hn
  exact⟨o,es,ep,W _ _ (S.dQ e (.inr λvs q=>by replace q:=d▸q;cases q)) e,d,r⟩
 have cr:∀cv q,s.heap.CodeRec cv q->h'.CodeRec cv q:=λcv q hc=>by
  obtain⟨c,o,vs,t,e1,B,e3,e4⟩:=hc
  exact⟨c,o,vs,t,e1,W _ _ (AK S B e3 e4) B,e3,e4⟩
 refine ba λN_=>?_
 obtain⟨mg,Z⟩:=S.gB
 obtain⟨mb,hmb,V⟩:=S.blt
 obtain⟨mc,hmc,hc⟩:=S.lim
 apply N_
 refine⟨⟨λb o e V _=>W b o V e,λb o e _=>?_,λ_ _ e=>e,λ_ _ _ e _=>e,rfl⟩,⟨λa o e=>W _ _ (Yh w a o e) (S.df a o e),⟨mg,ns _ _ Z⟩,⟨mb,ns _ _ hmb,V⟩,⟨mc,ns _ _ hmc,hc⟩,λH G=>?_,λt' C=>?_,λa o e=>?_,S.off,S.gens⟩⟩
 ·by_cases V:b=t.2.1
  ·exact⟨_,V▸hP⟩
  ·exact⟨o,f b o V e⟩
 ·have B:s.heap.Ns eF H:=by
   obtain⟨o,es,ep,e,r⟩:=Z
   obtain⟨o',zb,sR,e',r'⟩:=G
   have:=W _ _ (S.dQ e (.inr λvs q=>by replace q:=r.1▸q;cases q)) e
   rw[(e':h'.get? eF=aa o')] at this;obtain rfl:=aW this
   exact⟨_,zb,sR,e,r'⟩
  refine ba λN_=>?_
  obtain⟨bm,ob,h1,h2,h3,h4,h5,h6⟩:=S.bmain H B
  apply N_
  exact⟨bm,ob,h1,h2,W _ _ (S.dQ h3 (.inl (by rw[h4];decide))) h3,h4,h5,h6⟩
 ·by_cases V:t'.2.1=t.2.1
  ·have:=UA ht C V
   subst this
   exact⟨Y,hP,hG⟩
  ·obtain⟨ps,e,t1,t2⟩:=S.tab t' C
   exact⟨ps,f _ _ V e,t1,λaM cv DP=>cr _ _ (t2 aM cv DP)⟩
 ·refine W _ _ (λhm=>?_) (S.sub a o e)
  replace e:=(S.off a hm)▸e;cases e
inductive IN(w:a9)(s:av)(g:aY)(name bI:Str)(params:iz)(body:rN)(scope:bf)(br:List (Str×ag))(v:ai)(s':av):Prop
 |mk (f g' doc pm ct cv:_) (hv:v=.ref f) (hf:s.heap.get? f=ak) (N:Nx [] s g s' g') (S:St w s' g') (hg:g' f=aa (mf (jO name bI params body scope br doc pm ct cv:_))) (hc:s'.heap.CodeRec cv bI)
theorem xr{name:Str}{body:rN}{br:List (Str×ag)}{aN:aY}(S:St w s g)(N:Nx [] s g {s with heap:=h'} g)(W:St w {s with heap:=h'} g)(C:h'.CodeRec cv bI)(V:s.heap.objs.size<=h'.objs.size):
 IN w s g name bI params body scope br (.ref h'.objs.size) {s with heap:=h'.push (mf (jO name bI params body scope br doc pm ct cv)),toks:=tk}:=by
 refine(W.ext' (h':=h'.push (mf (jO name bI params body scope br doc pm ct cv))) (tk:=tk) λb o e=>bZ _ e).elim λZ H=>?_
 have G:=cB h' (o:=mf (jO name bI params body scope br doc pm ct cv)) rfl
 refine(h_ S V).elim λnf B=>?_
 refine(H.freeze (n:=h'.objs.size) G B (H.dQ (a:=h'.objs.size) G (.inl (by simp[mf])))).elim λf u2=>?_
 have Y:=N.trans Z
 refine⟨h'.objs.size,_,doc,pm,ct,cv,rfl,nf,⟨Y.keep,Y.there,u2,λa o e e' _=>?_,Y.os⟩,f,g5 _ _ _,Z.code W C (by simp)⟩
 exact(fE _ _ _ (λq=>by rw[q,nf] at e;exact ns e)).trans e'
theorem Nx.yb(S:St w s g)(V:∀b o,s.heap.get? b=aa o->h'.get? b=aa o):Nx [] s g {s with heap:=h'} g/\St w {s with heap:=h'} g:=S.ext' (tk:=s.toks) V
theorem JF{t:ag×ag×Str}(h:t∈fy):eF≠t.2.1:=by
 simp only[fy,bT,ca,or_false] at h
 rcases h with rfl|rfl|rfl|rfl<;>decide
theorem Ym{name:Str}{body:rN}{br:List (Str×ag)}{fl:Nat}{t:ag×ag×Str}
 (S:St w s g)(ht:t∈fy)(i9:codeHdIn (KH w) t.1 t.2.1=ae)(Z:wT scope ab=pure br)(H:ab.globals=eF)(V:ab.code=.ref t.1):
 wpAny (model PG w) A (makeFunction name t.2.2 params body scope ab [] [] [] aM fl) (IN w s g name t.2.2 params body scope br) E s:=by
 have C:=codeHd_of_K S.df i9
 obtain⟨mg,Y⟩:=S.gB
 refine ba λN_=>?_
 obtain⟨ps,hP,hT,hR⟩:=S.tab t ht
 obtain⟨bm,ob,b1,b2,b3,b4,b5,b6⟩:=S.bmain mg Y
 apply N_
 have bG:bm≠eF:=λq=>by
  obtain⟨o,_,_,e,hd,_⟩:=Y
  rw[q,e] at b3;obtain rfl:=aW b3;replace b6:=hd▸b6;cases b6
 have bP:bm≠t.2.1:=λq=>by
  rw[q,hP] at b3;obtain rfl:=aW b3;cases b4
 have hb:s.heap.BuiltinsAt mg t.2.1:=⟨bm,ob,b1,b2,bG,bP,b3,b4,b5,b6⟩
 have B:∀c' h',wJ t.2.1 s.heap h'->h'.CodeRec (.ref c') t.2.2->h'.get? t.2.1=aa (tabObj (ps++#[rawInt aM.line,rawInt aM.col,.ref c']))->Nx [] s g {s with heap:=h'} g/\St w {s with heap:=h'} g:=λc' h' hx f W=>by
  refine S.grow (tk:=s.toks) ht (λb o hb e=>hx b o hb e) W ⟨?_,λp cv e=>?_⟩
  ·rw[zy];exact TriplesOk_snoc _ _ _ _ hT
  ·rw[zy] at e
   rcases Q0 _ hT e with q|rfl
   ·obtain⟨c,o,vs,tt,e1,e2,e3,e4⟩:=hR p cv q
    refine⟨c,o,vs,tt,e1,hx _ _ (λq=>?_) e2,e3,e4⟩
    exact AK S e2 e3 e4 (q▸JE ht)
   ·exact f
 induction hf:tX aM ps.toList with
 |none=>
  induction body with
  |expr b=>
   exact kla_makeFunction Z H Y V C hP hT hf (JF ht) hb λc' Ed h' tk hx h1 h2 f W=>by
    obtain⟨G,S1⟩:=B c' h' hx f W
    exact xr (aN:=g) S G S1 f (bd (aV h1 h2))
  |stmts b=>
   exact makeFunction_K Z H Y V C hP hT hf (JF ht) hb λc' Ed doc h' tk hx h1 h2 f W=>by
    refine(B c' h' hx f W).elim λG S1=>?_
    exact xr (aN:=g) S G S1 f (bd (aV h1 h2))
 |some cv=>
  induction body with
  |expr b=>
   exact kla_makeFunctionHit Z H Y V C hP hT hf hb λEd h' tk hk eU=>by
    have G:=(Nx.yb S hk).1;have S1:=(Nx.yb S hk).2
    exact xr (aN:=g) S G S1 (G.code S (hR aM cv hf) (by simp)) eU
  |stmts b=>
   exact makeFunction_hit Z H Y V C hP hT hf hb λEd doc h' tk hk eU=>by
    have G:=(Nx.yb S hk).1;have S1:=(Nx.yb S hk).2
    exact xr (aN:=g) S G S1 (G.code S (hR aM cv hf) (by simp)) eU
theorem l6(h:∀a,bindArgs fd ⟨[a],[]⟩=pure [(x,a)])(vs:List ai)(hl:vs.length=1):fQ s fd ⟨vs,[]⟩ ([x].zip vs):=
 j_ hl λa r V=>t9 V (.of_eq (h a))
theorem jf(h:∀a b,bindArgs fd ⟨[a,b],[]⟩=pure [(x,a),(y,b)])(vs:List ai)(hl:vs.length=2):fQ s fd ⟨vs,[]⟩ ([x,y].zip vs):=
 j_ hl λa r V=>j_ V λb r V=>t9 V (.of_eq (h a b))
theorem pH(h:∀a b c,bindArgs fd ⟨[a,b,c],[]⟩=pure [(x,a),(y,b),(z,c)])(vs:List ai)(hl:vs.length=3):fQ s fd ⟨vs,[]⟩ ([x,y,z].zip vs):=
 j_ hl λa r V=>j_ V λb r V=>j_ V λc r V=>t9 V (.of_eq (h a b c))
theorem UB{u:Str}(h:∀a b c d,bindArgs fd ⟨[a,b,c,d],[]⟩=pure [(x,a),(y,b),(z,c),(u,d)])(vs:List ai)(hl:vs.length=4):fQ s fd ⟨vs,[]⟩ ([x,y,z,u].zip vs):=
 j_ hl λa r V=>j_ V λb r V=>j_ V λc r V=>j_ V λd r V=>t9 V (.of_eq (h a b c d))
theorem pr{r:List bw}{k:Fl->ay->Prop}(h:aL n sc ρ r k):pO n sc r k .next ρ:=h
theorem fR{k:List D->Prop}(h:k []):cn n sc ρ [] k:=h
theorem ia{r:List au}{k:List D->Prop}(h:aj n sc ρ e λd=>cn n sc ρ r λds=>k (d::ds)):cn n sc ρ (e::r) k:=h
theorem UC{k:List Bd->Prop}(h:k []):f8 n sc ρ [] k:=h
theorem HW{r:List au}{k:List Bd->Prop}(h:cK n sc ρ e λd=>f8 n sc ρ r λds=>k (d::ds)):f8 n sc ρ (e::r) k:=h
set_option tactic.hygienic true in
theorem intBits_le{a:Int}(h:a.natAbs<2^60):fA a<=64:=by
 unfold fA
 split
 ·exact bd (eB _)
 ·rename_i Y
  have V:a.natAbs≠0:=by
   intro q
   have:a=0:=by exact L7 (by assumption)
   subst this;exact Y rfl
  have:=(wM V).mpr h
  exact qL (eO this (by simp))
theorem mulL{a b:Int}(V:a.natAbs<2^60):xm a b:=IntMulOk.of_left (intBits_le V)
theorem mulR{a b:Int}(V:b.natAbs<2^60):xm a b:=IntMulOk.of_right (intBits_le V)
theorem UD(V:sc.names.lookup (a6 "max")=aa cj):bO sc (a6 "max") (.builtin "max"):=bO.boot V (by intro w;ac_rfl) (by ac_rfl) Boot.«max» (dC tT) (by intro a e;cases e)
theorem UE(V:sc.names.lookup (a6 "min")=aa cj):bO sc (a6 "min") (.builtin "min"):=bO.boot V (by intro w;ac_rfl) (by ac_rfl) Boot.«min» (dC tT) (by intro a e;cases e)
theorem UG(V:sc.names.lookup (a6 "abs")=aa cj):bO sc (a6 "abs") (.builtin "abs"):=bO.boot V (by intro w;ac_rfl) (by ac_rfl) Boot.«abs» (dC tT) (by intro a e;cases e)
theorem UH(V:sc.names.lookup (a6 "len")=aa cj):bO sc (a6 "len") (.builtin "len"):=bO.boot V (by intro w;ac_rfl) (by ac_rfl) Boot.«len» (dC tT) (by intro a e;cases e)
theorem RM(V:sc.names.lookup (a6 "divmod")=aa cj):bO sc (a6 "divmod") (.builtin "divmod"):=bO.boot V (by intro w;ac_rfl) (by ac_rfl) Boot.«divmod» (dC tT) (by intro a e;cases e)
theorem UI(V:sc.names.lookup (a6 "sum")=aa cj):bO sc (a6 "sum") (.builtin "sum"):=bO.boot V (by intro w;ac_rfl) (by ac_rfl) Boot.«sum» (dC tT) (by intro a e;cases e)
theorem tQ(V:sc.names.lookup (a6 "sorted")=aa cj):bO sc (a6 "sorted") (.builtin "sorted"):=bO.boot V (by intro w;ac_rfl) (by ac_rfl) Boot.«sorted» (dC tT) (by intro a e;cases e)
theorem IP(V:sc.names.lookup (a6 "str")=aa cj):bO sc (a6 "str") (aK "str"):=bO.boot V (by intro w;ac_rfl) (by ac_rfl) Boot.«str» (dC tT) (by intro a e;cases e)
theorem AM(V:sc.names.lookup (a6 "range")=aa cj):bO sc (a6 "range") (aK "range"):=bO.boot V (by intro w;ac_rfl) (by ac_rfl) Boot.«range» (dC tT) (by intro a e;cases e)
theorem q9(V:sc.names.lookup (a6 "enumerate")=aa cj):bO sc (a6 "enumerate") (aK "enumerate"):=bO.boot V (by intro w;ac_rfl) (by ac_rfl) Boot.«enumerate» (dC tT) (by intro a e;cases e)
theorem UJ(V:sc.names.lookup (a6 "zip")=aa cj):bO sc (a6 "zip") (aK "zip"):=bO.boot V (by intro w;ac_rfl) (by ac_rfl) Boot.«zip» (dC tT) (by intro a e;cases e)
theorem Q1(V:sc.names.lookup (a6 "reversed")=aa cj):bO sc (a6 "reversed") (aK "reversed"):=bO.boot V (by intro w;ac_rfl) (by ac_rfl) Boot.«reversed» (dC tT) (by intro a e;cases e)
theorem IQ(V:sc.names.lookup (a6 "set")=aa cj):bO sc (a6 "set") (aK "set"):=bO.boot V (by intro w;ac_rfl) (by ac_rfl) Boot.«set» (dC tT) (by intro a e;cases e)
theorem xc(V:sc.names.lookup (a6 "type")=aa cj):bO sc (a6 "type") (aK "type"):=bO.boot V (by intro w;ac_rfl) (by ac_rfl) Boot.«type» (dC tT) (by intro a e;cases e)
theorem O_(V:sc.names.lookup (a6 "_ellipsis_match")=aa cj):bO sc (a6 "_ellipsis_match") (.ref 45):=bO.top V (by intro w;ac_rfl) (by ac_rfl) (by intro w;ac_rfl)
theorem Rq(V:sc.names.lookup (a6 "_div2n1n")=aa cj):bO sc (a6 "_div2n1n") (.ref 52):=bO.top V (by intro w;ac_rfl) (by ac_rfl) (by intro w;ac_rfl)
theorem Qm(V:sc.names.lookup (a6 "_int2digits")=aa cj):bO sc (a6 "_int2digits") (.ref 66):=bO.top V (by intro w;ac_rfl) (by ac_rfl) (by intro w;ac_rfl)
theorem Qn(V:sc.names.lookup (a6 "_digits2int")=aa cj):bO sc (a6 "_digits2int") (.ref 73):=bO.top V (by intro w;ac_rfl) (by ac_rfl) (by intro w;ac_rfl)
theorem Qo(V:sc.names.lookup (a6 "_divmod_pos")=aa cj):bO sc (a6 "_divmod_pos") (.ref 80):=bO.top V (by intro w;ac_rfl) (by ac_rfl) (by intro w;ac_rfl)
theorem F5(V:sc.names.lookup (a6 "int_divmod")=aa cj):bO sc (a6 "int_divmod") (.ref 87):=bO.top V (by intro w;ac_rfl) (by ac_rfl) (by intro w;ac_rfl)
theorem Ft(V:sc.names.lookup (a6 "insort_right")=aa cj):bO sc (a6 "insort_right") (.ref 96):=bO.top V (by intro w;ac_rfl) (by ac_rfl) (by intro w;ac_rfl)
theorem we(V:sc.names.lookup (a6 "bisect_right")=aa cj):bO sc (a6 "bisect_right") (.ref 105):=bO.top V (by intro w;ac_rfl) (by ac_rfl) (by intro w;ac_rfl)
theorem FL(V:sc.names.lookup (a6 "bisect_left")=aa cj):bO sc (a6 "bisect_left") (.ref 114):=bO.top V (by intro w;ac_rfl) (by ac_rfl) (by intro w;ac_rfl)
theorem Q2(V:sc.names.lookup (a6 "_law_over")=aa cj):bO sc (a6 "_law_over") (.ref 269):=bO.top V (by intro w;ac_rfl) (by ac_rfl) (by intro w;ac_rfl)
theorem QI(V:sc.names.lookup (a6 "_law_apart")=aa cj):bO sc (a6 "_law_apart") (.ref 276):=bO.top V (by intro w;ac_rfl) (by ac_rfl) (by intro w;ac_rfl)
theorem F6(V:sc.names.lookup (a6 "_law_sticks")=aa cj):bO sc (a6 "_law_sticks") (.ref 281):=bO.top V (by intro w;ac_rfl) (by ac_rfl) (by intro w;ac_rfl)
theorem Q3(V:sc.names.lookup (a6 "_law_rows")=aa cj):bO sc (a6 "_law_rows") (.ref 286):=bO.top V (by intro w;ac_rfl) (by ac_rfl) (by intro w;ac_rfl)
theorem Qp(V:sc.names.lookup (a6 "_law_points")=aa cj):bO sc (a6 "_law_points") (.ref 291):=bO.top V (by intro w;ac_rfl) (by ac_rfl) (by intro w;ac_rfl)
theorem QJ(V:sc.names.lookup (a6 "_law_order")=aa cj):bO sc (a6 "_law_order") (.ref 296):=bO.top V (by intro w;ac_rfl) (by ac_rfl) (by intro w;ac_rfl)
theorem P8(V:sc.names.lookup (a6 "_law_painted")=aa cj):bO sc (a6 "_law_painted") (.ref 301):=bO.top V (by intro w;ac_rfl) (by ac_rfl) (by intro w;ac_rfl)
theorem QK(V:sc.names.lookup (a6 "_law_takes")=aa cj):bO sc (a6 "_law_takes") (.ref 308):=bO.top V (by intro w;ac_rfl) (by ac_rfl) (by intro w;ac_rfl)
theorem Q4(V:sc.names.lookup (a6 "_law_once")=aa cj):bO sc (a6 "_law_once") (.ref 315):=bO.top V (by intro w;ac_rfl) (by ac_rfl) (by intro w;ac_rfl)
theorem dD.clos(V:c8 w s g ab sc ρ)(Y:dD aF sc=ae):wT aF ab=pure (kn ab.cells aF.names)/\xQ aF ab.cells (kn ab.cells aF.names):=by
 refine(dR.of V Y).elim λW C=>?_
 exact⟨W,λx c h=>⟨((nQ ((dD.spec Y).1)).mp h).2,C.free x c h⟩,C.e8⟩
section
variable {n m:Nat} {sc scope:bf} {ρ bE:ay}
theorem Cj{name:Str}{body:rN}{fl:Nat}{t:ag×ag×Str}
 (S:St w s g)(V:c8 w s g ab sc ρ)(hl:d5 sc=aa (t.1,bI))(Z:t∈fy)(Y:∀w,codeHdIn (KH w) t.1 t.2.1=ae)(W:dD scope sc=ae):
 wpAny (model PG w) A (makeFunction name t.2.2 params body scope ab [] [] [] aM fl) (λv s'=>∃g',Nx [] s g s' g'/\St w s' g'/\cU w s' g' ab v [] (.lam name params body scope)) E s:=by
 refine(dD.clos V W).elim λH G=>?_
 refine bg (Ym S Z (Y w) H V.glob (V.lam _ _ hl).1) (λv s' ⟨f,g',doc,pm,ct,cv,e,_,N,C,B,q2⟩=>?_)
 exact⟨g',N,C,f,t.2.2,_,doc,pm,ct,cv,e,B,q2,G,rfl⟩
theorem cK.lambda{body:au}{t:ag×ag×Str}{k:Bd->Prop}(hl:d5 sc=aa (t.1,bI))(Z:t∈fy)(H:bI++("<lambda>":Str)=t.2.2)(Y:∀w,codeHdIn (KH w) t.1 t.2.1=ae)(W:dD scope sc=ae)(hd:∀ab,defaultsOf params ab=([],[]))
 (h:k (.lam "<lambda>" params (.expr body) scope)):cK n sc ρ (.Lambda params body scope aM) k:=.mk λw A ab s g S R V E=>by
 refine kla_eval (hd ab) ?_
 rw[(V.lam _ _ hl).2,H]
 exact bg (Cj S V hl Z Y W) (λv s' G=>by obtain⟨g',N,C,r⟩:=G;exact⟨g',_,[],N,C,r,rfl,fU,h⟩)
theorem aO.def{name:Str}{t:ag×ag×Str}{k:Fl->ay->Prop}(hl:d5 sc=aa (t.1,bI))(ht:t∈fy)(hq:bI++name=t.2.2)(Z:∀w,codeHdIn (KH w) t.1 t.2.1=ae)(G:dD scope sc=ae)(hx:mine sc name=ae)
 (C:params.defaults=[])(B:params.kw_defaults=[])(f:∀ab,annTrees params aU ab=[])
 (h:k .next ((name,.lam name params (gR body) scope)::ρ)):aO n sc ρ (.FunctionDef name params body [] aU [] scope aU name aM) k:=.mk λw A ab mu aw aE s g aB H R E=>by
 refine nestDef_K C B (f ab) ?_
 have e:qualnameIn ab name name=t.2.2:=by
  unfold qualnameIn
  have hk:(ab.kindOf name==aa NameKind.globalExplicit)=aH:=by
   rcases BW hx with q|q
   ·have:=H.ks name;rw[q] at this;rw[KS.local this];rfl
   ·have:=H.ks name;rw[q] at this;rw[KS.cell this];rfl
  rw[hk,(H.lam _ _ hl).2]
  exact hq
 rw[e]
 refine bg (Cj H.st H.cI hl ht Z G) (λv aA V=>V.elim λaN V=>V.elim λN V=>V.elim λY r=>?_)
 exact(H.step N Y).store (n:=0) hx r (λa f=>by simp at f) (λaT _ W=>⟨aN,_,.next,_,W,trivial,h⟩) E
noncomputable def sj(scope:bf):Bd->Bool
 |.dat _=>ae
 |.lam _ _ _ V=>V.names.all λp=>p.2 != .free||scope.names.lookup p.1==aa .free
 |_=>aH
noncomputable def cellIn(sc:bf)(x:Str):Bool:=sc.names.lookup x==aa .cell||sc.names.lookup x==aa .free
def mq(scope sc:bf)(ρ:ay):ay->Prop
 |[]=>True
 |(x,b)::r=>ρ.lookup x=aa b/\(scope.names.lookup x==aa .free&&cellIn sc x&&sj scope b)=ae/\mq scope sc ρ r
set_option tactic.hygienic true in
theorem mq.at:∀{bE:ay},mq scope sc ρ bE->∀x b,bE.lookup x=aa b->ρ.lookup x=aa b/\scope.names.lookup x=aa .free/\cellIn sc x=ae/\sj scope b=ae
 |[],_,x,b,h=>by simp at h
 |(y,c)::r,V,x,b,h=>by
  rw[j7] at h
  split at h
  ·rename_i e;obtain rfl:=aW h;subst e
   have:=V.2.1
   simp only[bB,beq_iff_eq] at this
   exact⟨V.1,this.1.1,this.1.2,this.2⟩
  ·exact mq.at V.2.2 x b h
theorem cellIn.spec(h:cellIn sc x=ae):sc.names.lookup x=aa .cell\/sc.names.lookup x=aa .free:=by simpa[cellIn] using h
theorem fG.cellOf(V:c8 w s g ab sc ρ)(Y:cellIn sc x=ae)(h:fG s g ab x v):∃c,ab.cells.lookup x=aa c/\s.heap.IsCell c (aa v):=by
 rcases h with ⟨W,_⟩|⟨_,c,Z,_,H⟩
 ·exfalso
  have:=V.ks x
  rw[W] at this
  rcases cellIn.spec Y with e|e<;>rw[e] at this<;>rcases this with q|q<;>simp at q
 ·exact⟨c,Z,H⟩
theorem cU.acv{V:Env}{br:List (Str×ag)}{ad:List ag}{b:Bd}(Z:xQ scope ab.cells br)(H:sj scope b=ae)(h:cU w s g ab v ad b)(he:∀y c,br.lookup y=aa c->V.cells.lookup y=aa c):cU w s g V v [] b:=by
 induction b with
 |dat d=>exact⟨h.1,rfl⟩
 |lam nm params body sc2=>
  obtain⟨f,q,Y,doc,pm,ct,cv,h2,h3,h4,G,h6⟩:=h
  refine⟨f,q,Y,doc,pm,ct,cv,h2,h3,h4,⟨λx c hx=>?_,G.2⟩,rfl⟩
  refine(G.1 x c hx).elim λe1 C=>?_
  refine⟨?_,C⟩
  have:=ef.mp H _ (eA C)
  simp at this
  obtain⟨c',W⟩:=Z.2 x this
  have B:=(Z.1 x c' W).1
  rw[e1] at B;obtain rfl:=aW B
  exact he x _ W
 |_=>exact ft H
theorem sj.nf{b:Bd}(h:sj scope b=ae):b.isFn=aH:=by induction b<;>first|rfl|exact ft h
theorem dR.cap{br:List (Str×ag)}(V:c8 w s g ab sc ρ)(Y:xQ scope ab.cells br)(h:mq scope sc ρ bE):dR w s g [] scope br bE (λ_=>[]):=by
 refine⟨λx c e=>V.cP x c (Y.1 x c e).1,λx y c f e2=>V.fg x y c (Y.1 x c f).1 (Y.1 y c e2).1,Y.2,λx c e=>(Y.1 x c e).2,λx b e=>?_,λx b e a Z=>by simp at Z,λx y b b' _ _ _ a Z=>by simp at Z⟩
 have h1:=(h.at x b e).1;have h2:=(h.at x b e).2.1;have h3:=(h.at x b e).2.2.1;have G:=(h.at x b e).2.2.2
 refine ba λH=>?_
 obtain⟨v,ad,q1,q2⟩:=V.var x b h1
 apply H
 refine ba λH=>?_
 obtain⟨c,c1,c2⟩:=q1.cellOf V h3
 obtain⟨c',W⟩:=Y.2 x h2
 apply H
 have C:=(Y.1 x c' W).1
 rw[c1] at C;obtain rfl:=aW C
 exact⟨c,v,W,c2,sj.nf G,λB he=>q2.acv Y G he⟩
theorem JG{M:om}{f:ag}(e:h.get? f=aa (mf fd)):∃k,(k=jE\/k=jC\/k=jz)/\jN M h (keeperOf (.ref f)) k:=⟨.frame,.inl rfl,(Uu (part:=ak) e).andThen .now⟩
theorem aj.BX{args:List au}(hx:ρ.lookup x=aa (.lam nm params (gR body) scope))(G:ce x=ae)(ha:args.all cu=ae)(C:mq scope sc ρ bE)(hm:m+2<=n)
 (hb:∀q br doc pm ct cv (s:av) vs,vs.length=aI.length->fQ s (jO nm q params (gR body) scope br doc pm ct cv) ⟨vs,[]⟩ (aI.zip vs))(Ee:g6 aI scope bE=ae)(nu:(d5 scope).isNone=ae)
 (h:cn n sc ρ args λds=>aI.length=ds.length/\aL m scope (bindR aI (ds.map Bd.dat)++bE) body (fM k)):aj n sc ρ (bU (aS x np) args [] aM) k:=.mk λw A ab s g S R V E=>by
 refine ba λN_=>?_
 obtain⟨v,ad,h1,f,q,br,doc,pm,ct,cv,rfl,h3,h4,h5,h6⟩:=V.var x _ hx
 apply N_
 refine lP (eQ (d3 V.kind h1 G ?_) (d4 G))
 refine j8 (P:=λhp=>∃k,(k=jE\/k=jC\/k=jz)/\jN (model PG w) hp (keeperOf (.ref f)) k) (by rw[(cE ha).2];rfl) (λ_ q=>q) ?_
 refine fk (cE ha).1 rfl (bg (cn.ok ha h w A ab s g aM S R V E) (λvs aA ⟨aN,ds,Y,W,Z,hl,B⟩=>?_))
 refine fB ⟨JG (W.sub _ _ (Y.gg _ _ h3)),?_⟩
 refine lY (mS (xb (n:=m) W (R.le hm) (cW.dat Z) (W.sub _ _ (Y.gg _ _ h3)) rfl (Y.code S h4 (by simp)) (dR.cap (V.step Y S) h5 C) (.inr λ_ _ q=>by simp at q) (hb _ _ _ _ _ _ aA vs (by simp only[Z.1,hl])) (by simpa using hl) (λc q e=>by rw[vK.mp nu] at e;exact ns e) Ee B E) λr s' hr=>?_)
 refine nY r hr (λv q_=>?_) λ_ h=>h
 refine ba λN_=>?_
 obtain⟨vi,g',aC,d,dX,H,R',hk⟩:=q_
 apply N_
 exact⟨g',d,Y.trans H.nx,H.st,R',hk⟩
theorem cW.Md{ds:List D}(M:dq w s g mu)(r:aP w g vs ds):cW w s g mu vs (ds.map Bd.dat) (λ_=>[]):=
 ⟨(cW.dat (s:=s) r).len,(cW.dat (s:=s) r).rep,λ_ _ _ a h=>by simp at h,(cW.dat (s:=s) r).e9,M⟩
set_option tactic.hygienic true in
theorem aO.AN{args:List au}{k:Fl->ay->Prop}(hx:ρ.lookup x=aa (.lam nm params (gR body) scope))(hO:ce x=ae)(hy:ρ.lookup y=aa (.own a l))(Ef:(scope.names.lookup y==aa .free&&cellIn sc y)=ae)
 (ha:args.all cu=ae)(adF:mq scope sc ρ bE)(hm:m+2<=n)(hV:∀ab,iA (bU (aS x np) args [] e6) aU aM.line ab=pure aH)
 (Z:∀q br doc pm ct cv (s:av) vs,vs.length=aI.length->fQ s (jO nm q params (gR body) scope br doc pm ct cv) ⟨vs,[]⟩ (aI.zip vs))(Ee:g6 aI scope ((y,.own a l)::bE)=ae)(nu:(d5 scope).isNone=ae)
 (h:cn n sc ρ args λds=>aI.length=ds.length/\∃l',aL m scope (bindR aI (ds.map Bd.dat)++(y,.own a l)::bE) body (ly λ_ aC=>aC.lookup y=aa (.own a l'))/\k .next ((y,.own a l')::ρ)):aO n sc ρ (.Expr (bU (aS x np) args [] e6) aM) k:=.mk λw A ab mu aw aE s g aB H R E=>by
 refine qW ?_ (by dsimp only[rj];rw[H.kind];rfl) (hV ab)
 obtain⟨v,h1,f,q,br,doc,pm,ct,cv,rfl,h3,h4,h5,h6⟩:=H.var x _ hx
 refine lP (eQ (d3 H.kind h1 hO ?_) (d4 hO))
 refine j8 (P:=λhp=>∃k,(k=jE\/k=jC\/k=jz)/\jN (model PG w) hp (keeperOf (.ref f)) k) (by rw[(cE ha).2];rfl) (λ_ q=>q) ?_
 refine fk (cE ha).1 rfl (bg (cn.ok ha h w A ab s g e6 H.st R H.cI E) (λvs aA ⟨aN,ds,V,Y,mr,hl,l',iZ,hk⟩=>?_))
 refine fB ⟨JG (Y.sub _ _ (V.gg _ _ h3)),?_⟩
 have H1:=H.step V Y
 refine ba λG=>?_
 obtain⟨u,u1,af,rfl,u3,u4,u5,u6⟩:=H1.var y _ hy
 apply G
 have am:a∈aB y:=by rw[u6];simp
 have M:dq w aA aN [a]:=λb Z=>by
  have:b=a:=a_.1 Z
  subst this
  exact H1.rebase.1.fz b (ua hy rfl am)
 rw[bB,beq_iff_eq] at Ef
 have C0:dR w aA aN [] scope br bE (λ_=>[]):=dR.cap H1.cI h5 adF
 have C:dR w aA aN [a] scope br ((y,.own a l)::bE) (λz=>if z=y then [a] else []):=by
  refine⟨C0.cP,C0.fg,C0.e8,C0.free,λz b e=>?_,λz b e b' sZ=>?_,λz z' b b' _ _ e_ c hc W=>?_⟩
  ·replace e:=j7▸e
   split at e
   ·rename_i e';obtain rfl:=aW e;subst e'
    refine ba λG=>?_
    obtain⟨c,c1,c2⟩:=u1.cellOf H1.cI Ef.2
    obtain⟨c',W⟩:=h5.2 z Ef.1
    apply G
    have e3:=(h5.1 z c' W).1
    rw[c1] at e3;obtain rfl:=aW e3
    exact⟨c,_,W,c2,rfl,λ_ _=>⟨af,rfl,u3,u4,u5,by simp⟩⟩
   ·rename_i e'
    refine ba λG=>?_
    obtain⟨c,v,q1,q2,q3,q4⟩:=C0.var z b e
    apply G
    exact⟨c,v,q1,q2,q3,λab he=>by simpa[be e'] using q4 ab he⟩
  ·split at sZ
   ·have:b'=a:=a_.1 sZ
    subst this
    exact⟨bi,λy' c hc=>((H1.dI y _ hy b' am).2.2 y' c (h5.1 y' c hc).1)⟩
   ·simp at sZ
  ·split at hc
   ·split at W
    ·rename_i e1 e2;exact e_ (e1.trans e2.symm)
    ·simp at W
   ·simp at hc
 refine lY (mS (xb (n:=m) Y (R.le hm) (cW.Md M mr) (Y.sub _ _ (V.gg _ _ h3)) rfl (V.code H.st h4 (by simp)) C (.inr λ_ _ q=>by simp at q) (Z _ _ _ _ _ _ aA vs (by simp only[mr.1,hl])) (by simpa using hl) (λc q e=>by rw[vK.mp nu] at e;exact ns e) Ee iZ E) λr s' hr=>?_)
 refine nY r hr (λv q_=>?_) λ_ h=>h
 refine ba λG=>?_
 obtain⟨vi,g',aC,d,dX,H2,R',jW⟩:=q_
 apply G
 refine ba λG=>?_
 obtain⟨u',_,B,rfl,w3,w4,w5,w6⟩:=H2.var y _ jW
 obtain⟨nn,en⟩:=u4
 apply G
 refine⟨g',_,.next,_,H1.change (mt:=[a]) (io:=[a]) hy rfl rfl H2.nx H2.st (λb Z=>by rw[u6];exact Z) (λb Z o e=>?_) (λv' _ r=>?_) (λb Z=>.inl (by rw[u6];exact Z)),trivial,hk⟩
 ·have:b=a:=a_.1 Z
  subst this;rw[en] at e;obtain rfl:=aW e;exact cV.of λvs q=>by cases q
 ·obtain⟨K7,rfl,_⟩:=r
  exact⟨B,rfl,w3,w4,w5,rfl⟩
end
theorem fitsIdx(h:j<=100000):vI (j:Int)=ae:=fitsIndex_of (dA _) (jy (b:=100000) (fX.mpr h) (dC tT))
theorem Q5{l:ag}{k:Int}{t:Tok}{Q:Unit->av->Prop}(hl:s.heap.PlainList l af)
 (H:0<=k)(V:vI k=ae)(B:k<af.size)
 (G:∀h',h'.PlainList l (af.setIfInBounds k.toNat v)->kI l s.heap h'->Q () {s with heap:=h'}):wpAny (model fS w) A (setItem (.ref l) (.int k t) v) Q E s:=by
 refine hl.elim λn Y=>?_
 have W:s.TypeIs (.ref l) "list":=⟨_,Y,rfl⟩
 unfold setItem
 try with_reducible refine eM ?_
 first|refine aJ (a8 ?_)|skip
 refine aJ (PE W (rfl) ?_)
 refine aJ (qA (name:=a6 "__setitem__") W zQ
  (j4 zQ W Po ?_ (PF _ _ _)))
 show wpAny _ _ (zi (.int k t)>>=_) _ _ s
 refine aJ (wpAny_listSubscript_int V ?_)
 clear V
 obtain⟨j,rfl⟩:=zq H
 have C:j<af.size:=by exact a_pos (by assumption) (by assumption)
 have Z:af[j]?=aa af[j]:=nw C
 refine aJ (aJ (wpAny_seqItemAt Y rfl (a8 ?_)))
 refine Z▸?_
 refine aJ (wpAny_setSeqItemAt Y rfl ?_)
 have dk:=G _ ⟨_,wU (n:=n) Y (·.setIfInBounds j v)⟩ (gH ..)
 first
  |exact fZ (a8 ⟨.none,rfl,a8 dk⟩)
  |exact a8 ⟨.none,rfl,a8 dk⟩
section
variable {n:Nat} {sc:bf} {ρ:ay}
theorem aP.set{ds:List D}(h:aP w g vs ds)(W:Rep w g v d)(j:Nat):aP w g (vs.set j v) (ds.set j d):=by
 refine⟨by simp[h.1],λi u e V Y=>?_⟩
 rw[List.getElem?_set] at V Y
 by_cases hi:j=i
 ·subst hi
  by_cases hl:j<vs.length
  ·simp[hl] at V;simp[(h.1▸hl:j<ds.length)] at Y;subst V Y;exact W
  ·simp[hl] at V
 ·simp[hi] at V Y;exact h.2 i u e V Y
set_option tactic.hygienic true in
theorem aP.eraseIdx{ds:List D}(h:aP w g vs ds)(j:Nat):aP w g (vs.eraseIdx j) (ds.eraseIdx j):=by
 refine⟨by simp[OO,h.1],λi u e Y V=>?_⟩
 rw[List.getElem?_eraseIdx] at Y V
 split at Y
 ·rename_i hi;rw[bo hi] at V;exact h.2 _ _ _ Y V
 ·rename_i hi;rw[be hi] at V;exact h.2 _ _ _ Y V
set_option tactic.hygienic true in
theorem aP.take{ds:List D}(h:aP w g vs ds)(j:Nat):aP w g (vs.take j) (ds.take j):=by
 refine⟨by simp[h.1],λi u e V Y=>?_⟩
 rw[E6] at V Y
 split at V
 ·rename_i hi;rw[bo hi] at Y;exact h.2 _ _ _ V Y
 ·exact ns V
theorem aP.drop{ds:List D}(h:aP w g vs ds)(j:Nat):aP w g (vs.drop j) (ds.drop j):=by
 refine⟨by simp[h.1],λi u e V Y=>?_⟩
 rw[zH] at V Y
 exact h.2 _ _ _ V Y
theorem aP.reverse{ds:List D}(h:aP w g vs ds):aP w g vs.reverse ds.reverse:=by
 refine⟨by simp[h.1],λi u e V Y=>?_⟩
 have hi:i<vs.length:=by have:=(ez.mp V).1;simpa using this
 rw[o9 hi] at V
 rw[o9 (h.1▸hi),<-h.1] at Y
 exact h.2 _ _ _ V Y
set_option tactic.hygienic true in
theorem aO.Yn{i:au}{k:Fl->ay->Prop}(hy:ρ.lookup y=aa (.own a l))(G:ce y=ae)(hl:l.length<=100000)(hs:∀ab,iA cX (aa (dN (aS y p) i oU)) aM.line ab=pure aH)
 (h:aj n sc ρ cX λd=>aj n sc ρ i λdi=>∃j:Nat,di=.int j/\j<l.length/\k .next ((y,.own a (l.set j d))::ρ)):aO n sc ρ (fe [dN (aS y p) i oU] cX aM) k:=.mk λw A ab mu aw aE s g aB H R E=>by
 refine zr (h.wp H.st R H.cI λv aA aN d C Y B f=>?_) (hs ab)
 have H1:=H.step C Y
 refine ba λN_=>?_
 obtain⟨u,u1,af,rfl,u3,u4,u5,u6⟩:=H1.var y _ hy
 apply N_
 refine eQ (d3 H1.kind u1 G ?_) (d4 G)
 refine f.wp Y R H1.cI λiv aT bb di V Z qd q_=>q_.elim λj q_=>q_.elim λEg q_=>q_.elim λhj hk=>?_
 subst Eg
 refine qd.b9 λt=>?_
 refine ba λN_=>?_
 obtain⟨_,_,W,e2,i3,i4,i5,i6⟩:=(H1.step V Z).var y _ hy
 have hs:W.size=l.length:=by have:=i5.1;exact this
 refine(V.plain Y u4 (ca)).elim λn1 q1=>?_
 obtain⟨n2,q2⟩:=id i4
 apply N_
 rename_i hyy _ _
 have hss:af.size=l.length:=by have:=u5.1;exact this
 refine Q5 (⟨n1,q1⟩:aT.heap.PlainList a af) (dA _) (fitsIdx (bd (cg hj hl))) (by omega) λh' q3 q4=>?_
 obtain⟨dX,H3⟩:=(H1.step V Z).own (tk:=aT.toks) (l':=l.set j d) hy q4 q3 (by
  have:=(u5.mono V.gg).set (B.mono V.gg) j
  simpa using this)
 exact⟨bb,_,.next,dX,H3,trivial,hk⟩
set_option tactic.hygienic true in
theorem aO.Ku{i:au}{k:Fl->ay->Prop}(hy:ρ.lookup y=aa (.own a l))(Z:ce y=ae)(hl:l.length<=100000)
 (h:aj n sc ρ i λdi=>∃(x:Int) (j:Nat),di=.int x/\vI x=ae/\lm x l.length=aa j/\k .next ((y,.own a (l.eraseIdx j))::ρ)):aO n sc ρ (.Delete [dN (aS y p) i oU] aM) k:=.mk λw A ab mu aw aE s g aB H R E=>by
 refine wpAny_Delete (Ox (Oh ?_))
 refine ba λN_=>?_
 obtain⟨u,u1,af,rfl,u3,u4,f,u6⟩:=H.var y _ hy
 apply N_
 refine eQ (d3 H.kind u1 Z ?_) (d4 Z)
 refine h.wp H.st R H.cI λiv aT bb di V G C Y=>Y.elim λx Y=>Y.elim λj Y=>Y.elim λEg Y=>Y.elim λhf Y=>Y.elim λhj hk=>?_
 subst Eg
 refine C.b9 λt=>?_
 have W:af.size=l.length:=by have:=f.1;exact this
 refine wpAny_delItem_plain (V.plain H.st u4 (ca)) hf (by exact W▸hj) (λh' q3 q4=>OP ?_) (by rw[W];have:sizeLine=2^24:=rfl;exact bd (aV hl (lT tT)))
 obtain⟨B,H3⟩:=(H.step V G).own (tk:=aT.toks) (l':=l.eraseIdx j) hy q4 q3 (by
  have:=(f.mono V.gg).eraseIdx j
  simp only[Array.eraseIdxIfInBounds]
  split
  ·simpa using this
  ·rename_i hn
   have:l.eraseIdx j=l:=List.eraseIdx_of_length_le (aD (bn W.symm) (de.mp hn))
   simp only[this];exact f.mono V.gg)
 exact⟨bb,_,.next,B,H3,trivial,hk⟩
theorem aO.Yo{i:Int}{k:Fl->ay->Prop}(hx:ρ.lookup x=aa (.dat (.int i)))(f:ce x=ae)(hm:mine sc x=ae)
 (h:aj n sc ρ e λd=>∃j:Int,d=.int j/\k .next ((x,.dat (.int (i+j)))::ρ)):aO n sc ρ (.AugAssign (aS x p) .Add e aM) k:=.mk λw A ab mu aw aE s g aB H R E=>by
 refine ba λN_=>?_
 obtain⟨v,u1,u2,_⟩:=H.var x _ hx
 obtain⟨t,rfl⟩:=u2.int_inv
 apply N_
 refine ET (d3 H.kind u1 f ?_)
 refine h.wp H.st R H.cI λv aA aN d W Y Z q_=>q_.elim λj q_=>q_.elim λhd hk=>?_
 subst hd
 refine Z.b9 λt'=>?_
 refine P.iadd_int ?_
 refine(Y.ext' (h':=aA.heap) (tk:=aA.toks+1) λ_ _ e=>e).elim λG C=>?_
 exact((H.step W Y).step G C).uy hm (.int _ _) (λaT V _ B=>⟨aN,_,.next,V,B,trivial,hk⟩) E
theorem aO.Yp{i:Int}{k:Fl->ay->Prop}(hx:ρ.lookup x=aa (.dat (.int i)))(f:ce x=ae)(hm:mine sc x=ae)
 (h:aj n sc ρ e λd=>∃j:Int,d=.int j/\k .next ((x,.dat (.int (i-j)))::ρ)):aO n sc ρ (.AugAssign (aS x p) .Sub e aM) k:=.mk λw A ab mu aw aE s g aB H R E=>by
 obtain⟨v,u1,u2,_⟩:=H.var x _ hx
 refine ba λN_=>?_
 obtain⟨t,rfl⟩:=u2.int_inv
 apply N_
 refine ET (d3 H.kind u1 f ?_)
 refine h.wp H.st R H.cI λv aA aN d W Y Z q_=>q_.elim λj q_=>q_.elim λhd hk=>?_
 subst hd
 refine Z.b9 λt'=>?_
 refine P.isub_int ?_
 refine(Y.ext' (h':=aA.heap) (tk:=aA.toks+1) λ_ _ e=>e).elim λG C=>?_
 exact((H.step W Y).step G C).uy hm (.int _ _) (λaT V _ B=>⟨aN,_,.next,V,B,trivial,hk⟩) E
theorem kP.insert(Z:j<=l.length)(hl:l.length<=100000):kP n "list.insert" l [.int j,d] (l.take j++d::l.drop j):=.mk λw A s g a af vs S R H hr G hg Q E C=>by
 obtain⟨v,u,rfl,B,f⟩:=G.two
 refine B.b9 λt=>?_
 refine H.elim λY V=>?_
 have hs:af.size=l.length:=by have:=hr.1;exact this
 have hz:af.size<=sizeLine:=by rw[hs];have:sizeLine=2^24:=rfl;exact bd (aV hl (lT tT))
 have W:¬(!vI (j:Int))=ae:=by rw[fitsIdx (aD Z hl)];decide
 have e:(if (j:Int)<0 then ((j:Int)+((af.size:Nat):Int)).toNat else min (j:Int).toNat af.size)=j:=by
  rw[be (dW.mpr (dA _))];simp;exact abA (by assumption) (by assumption)
 generalize (j:Int)=x at W e
 refine pB F.slot_list_insert ⟨_,V,rfl⟩ F.entry_list_insert (F.args_list_insert_3 _ _ _) (AutoListH.list_insert_list_int_val_1 a af Y x t u W hz) ⟨V,?_⟩
 refine C _ s.toks _ (gH ..) ⟨_,wU (n:=Y) V _⟩ ?_
 rw[e]
 have e2:((af.extract 0 j).push u++af.extract j).toList=af.toList.take j++u::af.toList.drop j:=by
  simp
  rw[la]
  simp
 exact e2▸((hr.take j).append (aP.cons f (hr.drop j)))
theorem kP.reverse(hl:l.length<=100000):kP n "list.reverse" l [] l.reverse:=.mk λw A s g a af vs S R W hr Z C Q E H=>by
 have:vs=[]:=lL.mp Z.1
 subst this
 obtain⟨Y,V⟩:=W
 have hs:af.size=l.length:=by have:=hr.1;exact this
 have G:af.size<=sizeLine:=by rw[hs];have:sizeLine=2^24:=rfl;exact bd (aV hl (lT tT))
 refine pB F.slot_list_reverse ⟨_,V,rfl⟩ F.entry_list_reverse (F.args_list_reverse_1 _) (AutoListH.list_reverse_list_0 a af Y G) ⟨V,?_⟩
 refine H _ s.toks _ (gH ..) ⟨_,wU (n:=Y) V _⟩ ?_
 simpa using hr.reverse
theorem cM.insert:cM "list" "insert" "list.insert":=⟨F.plainAttrs_list,F.slot_list_insert,F.type_list_insert⟩
theorem cM.reverse:cM "list" "reverse" "list.reverse":=⟨F.plainAttrs_list,F.slot_list_reverse,F.type_list_reverse⟩
end
theorem Q6{l b:ag}{V:Array ai}{n2:Nat}
 (hl:s.heap.get? l=aa {cls:=aK "list",data:=.seq af n})(H:s.heap.get? b=aa {cls:=aK "list",data:=.seq V n2})(Y:af.size+V.size<=100000)
 (h:Q (.ref l) {s with heap:=s.heap.update l (jc λx=>x++V)}):wpAny (model fS w) A (inplaceOp .Add (.ref l) (.ref b)) Q E s:=by
 have W:s.TypeIs (.ref l) "list":=⟨_,hl,rfl⟩
 have z:sizeLine=2^24:=rfl
 dsimp only[inplaceOp]
 refine eM ?_
 have Z:fillsInplaceSlot (aK "list") "add" (Operator.Add==.Add)=pure aH:=by
  show (mT (aK "list") (dunderI "add")>>=λG=>pure (G.isSome&&!HM G))=pure aH
  rw[F.slot_list_iadd.lookup]
  show (pure (ae&&!HM (aa (.builtin "list.__iadd__"))):Sem Bool)=pure aH
  rw[show HM (aa (.builtin "list.__iadd__"))=ae by decide+kernel];rfl
 refine pG W (rT Z ?_)
 refine aJ (wpAny_binaryOp1_none (nm:="add") W (⟨_,H,rfl⟩:s.TypeIs (.ref b) "list") noFill_list_add ?_)
 refine rT (PySem.seqSlot_of F.slot_list_iadd.lookup (by decide+kernel):seqSlot? (aK "list") (dunderI "add")=pure (aa (.builtin "list.__iadd__"))) ?_
 refine kg ?_
 exact(pB F.slot_list_iadd W F.entry_list_iadd (F.args_list_iadd_2 _ _) (AutoSeq1.list___iadd___list_list_0 l af n b V n2 (by simp[zj,sizeLine];omega) (z▸(bd (aV (aD (cy _ _) Y) (by simp)))) (by exact z▸(bd (aV Y (by simp))))) ⟨hl,H,h⟩)
section
variable {n:Nat} {sc:bf} {ρ:ay}
set_option tactic.hygienic true in
theorem bj.restore{aB:Str->List ag}(H:bj w mu aw aE s g ab sc ρ aB)(Y:ρ.lookup x=aa (.own a l))(B:mine sc x=ae)
 {Q:Unit->av->Prop}(f:∀s' V,bj w mu aw aE s' g ab sc ρ V->Q () s')(E:ai->av->Prop):wpAny (model PG w) A' (rC ab x (.ref a)) Q E s:=by
 obtain⟨v,h1,af,rfl,h3,h4,h5,h6⟩:=H.var x _ Y
 have G:a∈aB x:=by rw[h6];simp
 refine H.store (n:=0) (b:=.own a l) (ad:=[a]) B ⟨af,rfl,h3,h4,h5,rfl⟩ (λb hb=>?_) (λs' _ H'=>f s' _ (H'.weaken λy c C=>?_)) E
 ·have:b=a:=a_.1 hb
  subst this
  refine(H.dI x _ Y b G).elim λW q3=>W.elim λq1 q2=>?_
  exact⟨⟨q1,q2⟩,q3,λy b' hy _ Z q=>H.e9 x y _ _ Y hy rfl (Ne.symm Z) b G q⟩
 ·refine j7.trans ?_
  split
  ·rename_i e;subst e;exact(Y.symm.trans C)
  ·exact C
theorem aO.Ws{k:Fl->ay->Prop}(f:ρ.lookup x=aa (.own a l))(B:ce x=ae)(hm:mine sc x=ae)
 (h:aj n sc ρ e λd=>∃l',d=.lst l'/\l.length+l'.length<=100000/\k .next ((x,.own a (l++l'))::ρ)):aO n sc ρ (.AugAssign (aS x p) .Add e aM) k:=.mk λw A ab mu aw aE s g aB H R E=>by
 refine ba λN_=>?_
 obtain⟨v,u1,af,rfl,u3,u4,u5,u6⟩:=H.var x _ f
 apply N_
 refine ET (d3 H.kind u1 B ?_)
 refine h.wp H.st R H.cI λv aA aN d V W Z G=>G.elim λl' G=>G.elim λhd G=>G.elim λjt hk=>?_
 subst hd
 refine Z.ka λb nb ib hb rb=>?_
 refine(V.plain H.st u4 (ca)).elim λna ha=>?_
 have s1:af.size=l.length:=by have:=u5.1;exact this
 have s2:ib.size=l'.length:=by have:=rb.1;exact this
 refine Q6 ha (W.sub _ _ hb) (by exact LY (by assumption) (by assumption) (by assumption)) ?_
 obtain⟨dX,H3⟩:=(H.step V W).own (tk:=aA.toks) (l':=l++l') f (gH ..) ⟨_,wU (n:=na) ha (λx=>x++ib)⟩ (by
  rw[zy];exact(u5.mono V.gg).append rb)
 exact H3.restore (lookup_cons_self) hm (λaT Y C=>⟨aN,_,.next,Y,C,trivial,hk⟩) E
theorem St.big(S:St w s g):s.heap.objs.size≠gp:=λe=>by
 obtain⟨Y,V⟩:=S.gB
 have:=V.lt
 exact aZ (e▸this) (by decide)
theorem uA{k:Bd->Prop}(N:Nx [] s g aA aN)(V:St w aA aN)(r:aP w aN af.toList l)(W:∀a,k (.own a l)):
 Di w s g ab k (.ref aA.heap.objs.size) {aA with heap:=aA.heap.push {cls:=aK "list",data:=.seq af},toks:=tk}:=by
 refine(V.ext' (h':=aA.heap.push {cls:=aK "list",data:=.seq af}) (tk:=tk) λb o e=>bZ _ e).elim λZ H=>?_
 have Y:=h_ V (a:=aA.heap.objs.size) (bv _)
 refine⟨aN,.own aA.heap.objs.size l,[aA.heap.objs.size],N.trans Z,H,⟨af,rfl,Y.2,⟨0,cB _ rfl⟩,r,rfl⟩,rfl,λa G=>?_,W _⟩
 have:a=aA.heap.objs.size:=a_.1 G
 subst this
 induction q:s.heap.get? aA.heap.objs.size with
 |none=>rfl
 |some o=>obtain⟨B,C⟩:=N.there _ _ q (ca);exact ns (Y.1.symm.trans C)
theorem cK.lst{l:List au}{k:Bd->Prop}(C:l.all cu=ae)(hl:l.length<=1000)(h:cn n sc ρ l λds=>∀a,k (.own a ds)):cK n sc ρ (.List l aM) k:=.mk λw A ab s g S R V E=>by
 refine Pk (bg (cn.ok C h.len w A ab s g aM S R V E) (λvs aA ⟨aN,ds,W,Z,Y,H,G⟩=>⟨?_,?_⟩))
 ·rw[Y.1,H];have:sizeLine=2^24:=rfl;exact bd (aV hl (lT tT))
 ·exact uA (tk:=aA.toks) W Z (by exact Y) G
theorem cK.repl{l r:au}{k:Bd->Prop}(h:aj n sc ρ l λd=>∃ds,d=.lst ds/\aj n sc ρ r λd'=>∃j:Int,d'=.int j/\j<2^63∧-(2^63:Int)<=j/\ds.length*j.toNat<=2^24/\∀a,k (.own a (gL j.toNat ds).flatten)):cK n sc ρ (.BinOp l .Mult r aM) k:=.mk λw A ab s g S R V E=>by
 refine wpAny_BinOp (h.wp S R V λv aA aN d Y H G f=>f.elim λds f=>f.elim λhd C=>?_)
 subst hd
 refine C.wp H R (V.step Y S) λu aT bb d' W Z B ⟨j,hj,j1,j2,j3,hk⟩=>?_
 subst hj
 refine(G.mono W.gg).ka λa n1 i1 e1 r1=>?_
 refine B.b9 λt=>?_
 have hs:i1.size=ds.length:=by have:=r1.1;exact this
 refine GO (Z.sub _ _ e1) j2 j1 (by exact hs▸j3) (uA (tk:=aT.toks) (Y.trans W) Z ?_ hk)
 rw[FY]
 by_cases h0:i1.isEmpty=ae
 ·rw[bo h0]
  have:i1.toList=[]:=by simpa using h0
  have hl0:ds=[]:=by exact lL.mp (this▸r1).1.symm
  subst hl0
  have:(gL j.toNat ([]:List D)).flatten=[]:=by simp
  simp only[this];exact aP.nil
 ·rw[be h0];exact r1.replicate _
theorem cK.Dk{k:Bd->Prop}{R:a9->av->aY->ai->List ag->Prop}(W:p7 R)(Z:∀w s g a,g a=ak->a≠gp->s.heap.get? a=aa {cls:=aK "dict",data:=.dict #[]}->R w s g (.ref a) [a])(h:k (.obj R)):cK n sc ρ (.Dict [] [] aM) k:=.mk λw A ab s g S Rm V E=>by
 refine(S.ext' (h':=s.heap.push {cls:=aK "dict",data:=.dict #[]}) (tk:=s.toks) λb o e=>bZ _ e).elim λH G=>?_
 have Y:=h_ S (a:=s.heap.objs.size) (bv _)
 exact wpAny_Dict_empty ⟨g,.obj R,[s.heap.objs.size],H,G,⟨Z w _ g _ Y.2 S.big (cB _ rfl),W⟩,rfl,λa C=>a_.mp C▸Y.1,h⟩
theorem aP.numbered:∀(tk:Nat) (xs:List Str),aP w g (strsFrom tk xs) (xs.map D.str):=by
 intro tk Y
 induction Y generalizing tk with
 |nil=>
  exact aP.nil
 |cons x r V=>
  exact aP.cons (.str _ _) (V (tk+1))
theorem cK.split{o:au}{k:Bd->Prop}(hb:∀ab,mR o "split" ab (eval o ab)=eval o ab)(hl:(eT.endLine==aM.line)=ae)(he:cu e=ae)
 (h:aj n sc ρ o λd=>∃x:Str,d=.str x/\aj n sc ρ e λZ=>∃y:Str,Z=.str y/\(y.length==0)=aH/\x.length<=10000/\(vM x (ku x y 0 x.length (x.length+1)) y.length).length<=sizeLine/\∀a,k (.own a ((pC x y).map D.str))):
 cK n sc ρ (bU (cC o "split" eT) [e] [] aM) k:=.mk λw A ab s g S R V E=>by
 have ha:[e].all cu=ae:=by simp[he]
 refine ny (hb ab) ?_ hl rfl (h.wp S R V λv aA aN d W H G q_=>q_.elim λx q_=>q_.elim λhd C=>?_)
 ·rw[(cE ha).1]
  rfl
 subst hd
 refine G.dB λt=>?_
 refine⟨"str","str.split",F.plainAttrs_str,F.slot_str_split,F.type_str_split,nR _ _ _,λb e=>(nomatch e),?_⟩
 refine nN (cE ha).2 (fk (cE ha).1 rfl (bg (cn.ok (k:=λds=>∃Z,ds=[Z]/\∃y:Str,Z=.str y/\(y.length==0)=aH/\x.length<=10000/\(vM x (ku x y 0 x.length (x.length+1)) y.length).length<=sizeLine/\∀a,k (.own a ((pC x y).map D.str))) ha (ia (C.mono λZ q=>fR ⟨Z,rfl,q⟩)) w A ab aA aN aM H R (V.step W S) E) (λvs aT ⟨bb,ds,B,Y,f,Z,qv,y,qq,q1,q2,q3,q4⟩=>?_)))
 subst qv;subst qq
 obtain⟨u,rfl,hu⟩:=f.one
 refine hu.dB λt'=>?_
 refine fB ?_
 have N:=W.trans B
 cases c1:(decide (x.length<y.length)||decide (v0 x<v0 y))
 ·cases c2:(ku x y 0 x.length (x.length+1)).isEmpty
  ·refine pB F.slot_str_split (nR _ _ _) F.entry_str_split (F.args_str_split_2 _ _) (meets_str_split_sep x y t t' c1 q1 c2 (bd (aV q2 (lT tT))) q3) ?_
   have e:pC x y=vM x (ku x y 0 x.length (x.length+1)) y.length:=(be (ne_true_of_eq_false c1)).trans (be (ne_true_of_eq_false c2))
   exact uA N Y (by exact aP.numbered _ _) (e▸q4)
  ·refine pB F.slot_str_split (nR _ _ _) F.entry_str_split (F.args_str_split_2 _ _) (meets_str_split_not_found x y t t' c1 q1 c2) ?_
   have e:pC x y=[x]:=(be (ne_true_of_eq_false c1)).trans (bo c2)
   rw[e] at q4
   exact uA (tk:=aT.toks) N Y (aP.cons (.str _ _) aP.nil) q4
 ·refine pB F.slot_str_split (nR _ _ _) F.entry_str_split (F.args_str_split_2 _ _) (meets_str_split_cannot_occur x y t t' c1) ?_
  have e:pC x y=[x]:=bo c1
  rw[e] at q4
  exact uA (tk:=aT.toks) N Y (aP.cons (.str _ _) aP.nil) q4
theorem fO.reversed{t:au}{k:List D->Prop}(hl:l.length<=10000)(hk:k l.reverse):fO n (aK "reversed") [.lst l] t k:=.mk λw A s g vs S R r E=>by
 obtain⟨v,rfl,h1⟩:=r.one
 refine h1.ka λa f V Y rl=>?_
 have sz:V.size=l.length:=by have:=rl.1;exact this
 have Z:a≠s.heap.objs.size:=λe=>by have:=S.sub _ _ Y;rw[e,lj] at this;exact ns this
 refine call_reversed_list (⟨_,S.sub _ _ Y,rfl,f,rfl⟩:s.heap.IsList a V) ?_
 have W:=Walks.listRev (prog:=PG) (w:=w) R.2.2 s.heap.objs.size a Z V
 obtain⟨N,S'⟩:=S.ext' (h':=s.heap.push (revObj a ((V.size:Int)-1))) (tk:=s.toks) λb o e=>bZ _ e
 have hI:(s.heap.push (revObj a ((V.size:Int)-1))).IsRevIter s.heap.objs.size a ((V.size:Int)-1):=⟨_,cB _ rfl,rfl,rfl⟩
 have H:(λ(i:Nat) (h:dp)=>i<=V.size/\h.IsRevIter s.heap.objs.size a ((V.size:Int)-1-(i:Int))/\h.IsList a V) 0 (s.heap.push (revObj a ((V.size:Int)-1))):=⟨ck _,by simpa using hI,⟨_,S'.sub _ _ Y,rfl,f,rfl⟩⟩
 rw[show V.size=l.reverse.length by simp only[i'];exact sz] at W H⊢
 refine W.self 0 _ _ E H ?_
 refine iT.one (qr:=[a]) S (nofun) rfl (dz.of W (λi v d hi hv=>?_) (λi h ⟨_,⟨o,G,hc,hd⟩,_⟩ b C=>?_) λi h ⟨_,⟨o,G,hc,hd⟩,_⟩=>⟨o,"list_reverseiterator",_,G,hc,hd,rfl⟩) H (λb C=>?_) (by rw[i'];exact hl) hk
 ·have B:=(ez.mp hi).1
  exact rl.2 _ v d (by simpa using(i'▸hv)) ((o9 (i'▸B)).symm.trans hi)
 ·have:b=s.heap.objs.size:=a_.1 C
  subst this
  exact⟨o,G,λvs q t e e'=>by replace e:=hd▸e;cases e;cases e'⟩
 ·have:b=a:=a_.1 C
  subst this;exact⟨_,Y⟩
end
section
variable {n m:Nat} {sc scope:bf} {ρ bE:ay}
theorem Sj{f:ag}{q:Str}{br:List (Str×ag)}{ds:List D}
 (S:St w s g)(R:Rm (m+2) A)(r:aP w g vs ds)(G:s.heap.get? f=aa (mf (jO nm q params (.expr e) scope br doc pm ct cv)))(W:s.heap.CodeRec cv q)(C:dR w s g [] scope br bE jU)
 (B:fQ s (jO nm q params (.expr e) scope br doc pm ct cv) ⟨vs,[]⟩ (aI.zip vs))(V:aI.length=ds.length)(Y:g6 aI scope bE=ae)(Z:(d5 scope).isNone=ae)
 (h:aj m scope (bindR aI (ds.map Bd.dat)++bE) e k)(E:ai->av->Prop):wpAny (model PG w) A (call (.ref f) vs) (Out w s g k) E s:=by
 simp only[g6,bB,decide_eq_true_eq,beq_iff_eq,nH,ef] at Y
 refine ba λN_=>?_
 obtain⟨⟨⟨⟨⟨⟨h1,h3⟩,h4⟩,h5⟩,h6⟩,h7⟩,h8⟩:=Y
 apply N_
 refine lY (kla_callFunE R.room G rfl h5 h4 rfl W (B _ _ _ _ ?_))
 refine IL (aI:=aI) (vs:=vs) S (cW.dat (s:=s) r) C h7 h3 h1 (by simp only[V,r.1]) (λx hx hm=>by have:=h8 x hx;exact tf ((qD.mpr hm).symm.trans this)) h6 (.inr λ_ _ q=>by simp at q) (λc q e=>by have e:d5 scope=aa (c,q):=e;rw[vK.mp Z] at e;exact ns e) λab aA aB _ H=>?_
 refine⟨H.st.lim,kla_codeExpr ?_⟩
 exact Out.back H.nx (h.run w _ ab aA g H.st ((R.le (jF _)).deeper) H.cI _)
noncomputable def pP(ρ:ay):Bool:=ρ.all λp=>match p.2 with
 |.dat _=>ae
 |_=>aH
theorem pP.at(h:pP ρ=ae){b:Bd}(e:ρ.lookup x=aa b):∃d,b=.dat d:=by
 have:=ef.mp h _ (eA e)
 induction b<;>first|exact⟨_,rfl⟩|simp at this
theorem dR.Z3{br:List (Str×ag)}(C:dR w s g [] scope br bE (λ_=>[]))(hd:pP bE=ae)(S:St w s g)(N:Nx mu s g s' g')(W:∀x c,br.lookup x=aa c->c∉mu):dR w s' g' [] scope br bE (λ_=>[]):=by
 refine⟨λx c h=>?_,C.fg,C.e8,C.free,λx b h=>?_,C.MT,C.e9⟩
 ·obtain⟨V,v,Y⟩:=C.cP x c h
  obtain⟨o,e,_⟩:=id Y
  exact⟨N.old _ _ e V (W x c h),v,N.cell S Y (W x c h)⟩
 ·refine ba λZ=>?_
  obtain⟨c,v,V,Y,h3,H⟩:=C.var x b h
  obtain⟨d,rfl⟩:=pP.at hd h
  apply Z
  exact⟨c,v,V,N.cell S Y (W x c V),rfl,λab G=>⟨(H ab G).1.mono N.gg,rfl⟩⟩
noncomputable def yc(f c:ag)(br:List (Str×ag)):List ag:=f::c::((br.map (·.2)).filter λa=>br.any λp=>p.2==a&&br.lookup p.1==aa a)
theorem Tl{f c b:ag}{br:List (Str×ag)}(h:b∈yc f c br):b=f\/b=c\/∃x,br.lookup x=aa b:=by
 refine(bT.1 h).imp_right λh=>(bT.1 h).imp_right λh=>?_
 obtain⟨p,_,q⟩:=tz.1 (eg.1 h).2
 exact⟨p.1,eq_of_beq ((bB _ _).mp q).2⟩
theorem Sk{f c:ag}{br:List (Str×ag)}(h:br.lookup x=aa a):a∈yc f c br:=
 bM _ (bM _ (eg.mpr ⟨kE (f:=(·.2)) (eA h),tz.mpr ⟨(x,a),eA h,(bB _ _).mpr ⟨beq_self_eq_true _,beq_iff_eq.mpr h⟩⟩⟩))
structure yd(w:a9)(f:ag)(fo:Obj)(c:ai)(q:Str)(scope:bf)(br:List (Str×ag))(bE:ay)(s:av)(g:aY):Prop where
 off:g f=aa fo
 at_:s.heap.get? f=aa fo
 code:s.heap.CodeRec c q
 DU:dR w s g [] scope br bE (λ_=>[])
theorem yd.foot{f c:ag}{q:Str}{br:List (Str×ag)}(L:yd w f fo (.ref c) q scope br bE s g)(Y:fo.data=.func fd):∀b∈yc f c br,∃o,s.heap.get? b=aa o/\∀V n,o.data≠.seq V n:=λb W=>by
 refine(Tl W).elim (λe=>?_) λh=>h.elim (λe=>?_) λh=>h.elim λx h=>?_
 ·exact⟨fo,e▸L.at_,λ_ _ h=>zT (Y.symm.trans h)⟩
 ·obtain⟨c',o,vs,t,Z,H,G,_⟩:=L.code
  exact⟨o,e▸tH Z▸H,λ_ _ h=>zT (G.symm.trans h)⟩
 ·obtain⟨_,v,o,e,d⟩:=L.DU.cP x b h
  exact⟨o,e,λ_ _ h=>zT (d.symm.trans h)⟩
theorem Le{p:Str}(S:St w s g)(V:c8 w s g ab sc ρ)(h:cU w s g ab v [] (.lam nm params (.expr e) scope))(Z:mq scope sc ρ bE)(hd:pP bE=ae)
 (H:∀q br doc pm ct cv (s:av) vs,vs.length=1->fQ s (jO nm q params (.expr e) scope br doc pm ct cv) ⟨vs,[]⟩ ([p].zip vs))(G:g6 [p] scope bE=ae)(B:(d5 scope).isNone=ae)
 (iL:∀d r,φ d=aa r->aj 50 scope (bindR [p] [.dat d]++bE) e λx=>x=r):
 ∃bz,(∀W,cU w s g W v bz (.fn bz φ))/\∀b∈bz,∃o,s.heap.get? b=aa o/\∀iK n,o.data≠.seq iK n:=by
 refine ba λN_=>?_
 obtain⟨f,q,br,doc,pm,ct,cv,rfl,h3,h4,h5,_⟩:=h
 have C:=dR.cap V h5 Z
 obtain⟨c,o,vs,t,rfl,e2,e3,e4⟩:=id h4
 apply N_
 have fd:(mf (jO nm q params (.expr e) scope br doc pm ct (.ref c))).data=.func _:=rfl
 refine⟨yc f c br,λW=>⟨rfl,yd w f (mf (jO nm q params (.expr e) scope br doc pm ct (.ref c))) (.ref c) q scope br bE,⟨h3,S.sub _ _ h3,h4,C⟩,?_,?_,f,rfl,?_⟩,yd.foot (g:=g) ⟨h3,S.sub _ _ h3,h4,C⟩ fd⟩
 ·intro mu s g s' g' hm L S N
  exact⟨N.gg _ _ L.off,N.get S L.at_ (.inl nofun) λY=>hm _ Y bi,N.code S L.code λa ha Y=>hm _ Y (bM _ (tH ha▸bi)),L.DU.Z3 hd S N λx a ha Y=>hm _ Y (Sk ha)⟩
 ·intro A s g u d r L S R ru hr E
  exact Sj (m:=50) (ds:=[d]) (aI:=[p]) S (R.le (lB tT)) (aP.cons ru aP.nil) (S.sub _ _ L.off) L.code L.DU (H _ _ _ _ _ _ _ _ rfl) rfl G B (iL d r hr) E
 ·exact λs g L=>⟨⟨_,_,L.at_,fd⟩,λb H=>(L.foot fd b H).elim λo q=>⟨o,q.1⟩⟩
end
inductive acw(w:a9)(fa:ag)(name bI:Str)(params:iz)(body:List bw)(sc:bf):Prop
 |mk (T K:ag) (t:Tok) (nT:Nat) (es:Array dy) (nK:Nat) (oK:Obj) (doc pm bA ct:ai) (an:Option ag) (h0:(KH w).lookup fa=aa {cls:=aK "function",data:=.func (gr name bI params body sc (.ref T) (.ref K) doc pm bA ct an)})
  (h1:(KH w).lookup T=aa {cls:=aK "tuple",data:=.seq #[.int 0 t,.none] nT}) (h2:(KH w).lookup K=aa oK) (h3:oK.data=.dict es nK) (h4:um es) (h5:nsFind es "key"=aa .none) (h6:uI w bA bI)
structure r9(fa:ag)(name bI:Str)(params:iz)(body:List bw)(sc:bf):Prop where
 at_:∀w:a9,acw w fa name bI params body sc
theorem xR{args:Args}{binds:List (Str×ai)}{T:ag}{t:Tok}{k:Option (Array ai)->Sem (List (Str×ai))}(hd:fd.defaults=.ref T)(W:s.heap.get? T=aa {cls:=aK "tuple",data:=.seq #[.int 0 t,.none] n})
 (V:bindArgs fd args=w' fd.defaults>>=k)(Y:k (aa #[.int 0 t,.none])=pure binds):fQ s fd args binds:=.of_defaults hd W rfl V Y
section
variable {n m:Nat} {sc scope:bf} {ρ bE:ay}
theorem HX{f:ai}{bz:List ag}(h:cU w s g ab f bz (.fn bz φ)):∀b∈bz,∃o,s.heap.get? b=aa o:=by
 refine ba λV=>?_
 obtain⟨_,Z,Y,_,_,a,_,W⟩:=h
 apply V
 exact(W s g Y).2
theorem cW.app{ds:List D}{Y:List ai}{W:List Bd}(r:aP w g vs ds)(t:cW w s g mu Y W bX):∃V,cW w s g mu (vs++Y) (ds.map Bd.dat++W) V/\∀j c,c∈V j->∃i,c∈bX i:=by
 induction ds generalizing vs with
 |nil=>
  obtain rfl:=Ev r.1
  exact⟨bX,t,λj c h=>⟨j,h⟩⟩
 |cons d ds Z=>
  refine j_ (l:=vs) r.1 (λv vs _ r=>?_) r
  exact(Z r.ie.2).elim λV q=>⟨my [] V,.cons (λ_=>⟨r.ie.1,rfl⟩) (λ_ h=>aZ h ca) (λ_ _ _ _ _ h=>aZ h ca) q.1,λj c=>by
   induction j with
   |zero=>exact λh=>aZ h ca
   |succ j _=>exact q.2 j c⟩
structure iH(n:Nat)(fa:ag)(ds:List D)(φ:D->Option D)(k:D->Prop):Prop where
 run:∀(w:a9) (A:bN) (s:av) (g:aY) (vs:List ai) (f:ai) (bz:List ag),St w s g->Rm n A->aP w g vs ds->(∀ab,cU w s g ab f bz (.fn bz φ))->∀E,wpAny (model PG w) A (call (.ref fa) vs [("key",f)]) (Out w s g k) E s
theorem iH.intro{name:Str}{ds hA:List D}{pre:Tok->List ai->List ai}(hD:r9 fa name bI params body sc)
 (hb:∀T K t C doc pm bA ct an (s:av) vs f,vs.length=ds.length->s.heap.get? T=aa {cls:=aK "tuple",data:=.seq #[.int 0 t,.none] C}->fQ s (gr name bI params body sc (.ref T) (.ref K) doc pm bA ct an) ⟨vs,[("key",f)]⟩ (aI.zip (pre t vs++[f])))
 (Z:∀w g t vs,aP w g vs ds->aP w g (pre t vs) hA)(B:g6 aI sc []=ae)(G:aI.length=hA.length+1)(W:sc.names.all (λx=>!(x.2==.free))=ae)(nu:(d5 sc).isNone=ae)
 (h:∀bz,aL m sc (bindR aI (hA.map Bd.dat++[.fn bz φ])) body (fM k)):iH (m+2) fa ds φ k:=.mk λw A s g vs f bz S R r hf E=>by
 refine ba λN_=>?_
 obtain⟨T,K,t,C,es,nK,oK,doc,pm,bA,ct,an,hl,hT,hK,k1,k2,k3,i9⟩:=hD.at_ w
 apply N_
 obtain⟨bX,ra,_⟩:=cW.app (s:=s) (Z w g t vs r) (.cons hf (λa ha=>⟨HX (hf (newEnv {kind:=fu,names:=[],isGenerator:=aH,isCoroutine:=aH} 0 0 [] "" ak .none ak 0:Env)) a ha,ca⟩) (λ_ _ h=>aZ h.symm (lb _)) (.nil dq.nil))
 exact nU S R ra hl rfl i9 (hb T K t C doc pm bA ct an s vs f r.1 (S.df _ _ hT)) (G.trans (by rw[bR,aR];rfl)) B W nu (h bz) λv s' ab g' aC d dX H R' hk=>⟨g',d,H.nx,H.st,R',hk⟩
theorem bJ.introD{name:Str}{ds hA:List D}{pre:Tok->List ai->List ai}(hD:r9 fa name bI params body sc)
 (hb:∀T K t G es C Z doc pm bA ct an (s:av) vs,vs.length=ds.length->s.heap.get? T=aa {cls:=aK "tuple",data:=.seq #[.int 0 t,.none] G}->s.heap.get? K=aa Z->Z.data=.dict es C->um es->nsFind es "key"=aa .none->fQ s (gr name bI params body sc (.ref T) (.ref K) doc pm bA ct an) ⟨vs,[]⟩ (aI.zip (pre t vs)))
 (Y:∀w g t vs,aP w g vs ds->aP w g (pre t vs) hA)(B:g6 aI sc []=ae)(W:aI.length=hA.length)(V:sc.names.all (λx=>!(x.2==.free))=ae)(f:(d5 sc).isNone=ae)
 (h:aL m sc (bindR aI (hA.map Bd.dat)) body (fM k)):bJ (m+2) fa ds k:=.mk λw A s g vs S R r E=>by
 refine ba λN_=>?_
 obtain⟨T,K,t,G,es,C,Z,doc,pm,bA,ct,an,hl,hT,hK,k1,k2,k3,i9⟩:=hD.at_ w
 apply N_
 exact nU S R (cW.dat (Y w g t vs r)) hl rfl i9 (hb T K t G es C Z doc pm bA ct an s vs r.1 (S.df _ _ hT) (S.df _ _ hK) k1 k2 k3) (W.trans (aR ..).symm) B V f h λv s' ab g' aC d dX H R' hk=>⟨g',d,H.nx,H.st,R',hk⟩
inductive acy(w:a9)(s:av)(g:aY)(a:ag)(l':List D)(s':av):Prop
 |mk (g' me:_) (N:Nx [a] s g s' g') (S:St w s' g') (hg:g' a=ak) (hp:s'.heap.PlainList a me) (hr:aP w g' me.toList l')
structure mz(n:Nat)(fa:ag)(l:List D)(ds:List D)(φ:D->Option D)(l':List D):Prop where
 run:∀(w:a9) (A:bN) (s:av) (g:aY) (a:ag) (af:Array ai) (vs:List ai) (f:ai) (bz:List ag),St w s g->Rm n A->dq w s g [a]->s.heap.PlainList a af->aP w g af.toList l->g a=ak->aP w g vs ds->(∀ab,cU w s g ab f bz (.fn bz φ))->a∉bz->∀E,
  wpAny (model PG w) A (call (.ref fa) (.ref a::vs) [("key",f)]) (λ_=>acy w s g a l') E s
theorem mz.intro{name:Str}{ds hA:List D}{pre:Tok->List ai->List ai}(hD:r9 fa name bI params body sc)
 (B:∀T K t nT doc pm bA ct an (s:av) v vs f,vs.length=ds.length->s.heap.get? T=aa {cls:=aK "tuple",data:=.seq #[.int 0 t,.none] nT}->fQ s (gr name bI params body sc (.ref T) (.ref K) doc pm bA ct an) ⟨v::vs,[("key",f)]⟩ (aI.zip (v::pre t vs++[f])))
 (G:∀w g t vs,aP w g vs ds->aP w g (pre t vs) hA)(hO:g6 aI sc []=ae)(C:aI.length=hA.length+2)(Z:sc.names.all (λx=>!(x.2==.free))=ae)(nu:(d5 sc).isNone=ae)
 (h:∀a bz,a∉bz->aL m sc (bindR aI (.own a l::hA.map Bd.dat++[.fn bz φ])) body (ly λ_ aC=>aC.lookup x=aa (.own a l'))):mz (m+2) fa l ds φ l':=.mk λw A s g a af vs f bz S R M hp hr hg r hf ha E=>by
 refine ba λN_=>?_
 obtain⟨T,K,t,nT,es,nK,oK,doc,pm,bA,ct,an,hl,hT,hK,k1,k2,k3,i9⟩:=hD.at_ w
 apply N_
 obtain⟨bX,ra,hs⟩:=cW.app (s:=s) (G w g t vs r) (.cons hf (λb B=>⟨HX (hf (newEnv {kind:=fu,names:=[],isGenerator:=aH,isCoroutine:=aH} 0 0 [] "" ak .none ak 0:Env)) b B,λq=>ha ((show b=a from a_.mp q)▸B)⟩) (λ_ _ h=>aZ h.symm (lb _)) (.nil M))
 have rb:cW w s g [a] (.ref a::(pre t vs++[f])) (.own a l::(hA.map Bd.dat++[.fn bz φ])) (my [a] bX):=
  .cons (λ_=>⟨af,rfl,hg,hp,hr,rfl⟩) (λc hc=>hc) (λj _ _ _ c hc q=>(hs j c q).elim λi q=>ha ((show c=a from a_.mp hc)▸(show c∈bz by
   induction i with
   |zero=>exact q
   |succ i _=>exact aZ q ca))) ra
 refine nU S R rb hl rfl i9 (B T K t nT doc pm bA ct an s (.ref a) vs f r.1 (S.df _ _ hT)) (C.trans (by rw[gj,bR,aR];rfl)) hO Z nu (h a bz ha) λv s' ab g' aC d dX H R' hk=>?_
 refine ba λN_=>?_
 obtain⟨u',_,W,rfl,w3,w4,w5,w6⟩:=H.var x _ hk
 exact N_ ⟨g',W,H.nx,H.st,w3,w4,w5⟩
theorem aj.Ck{bz:List ag}(hx:ρ.lookup x=aa (.fn bz φ))(W:ce x=ae)(Z:cu e=ae)(hn:60<=n)
 (h:aj n sc ρ e λd=>∃r,φ d=aa r/\k r):aj n sc ρ (bU (aS x np) [e] [] aM) k:=.mk λw A ab s g S R V E=>by
 have Z:[e].all cu=ae:=by simp[Z]
 refine ba λC=>?_
 obtain⟨v,ad,h1,rfl,Lv,L0,L1,L2,f,rfl,L3⟩:=V.var x _ hx
 apply C
 refine lP (eQ (d3 V.kind h1 W ?_) (d4 W))
 refine j8 (P:=λhp=>∃k,(k=jE\/k=jC\/k=jz)/\jN (model PG w) hp (keeperOf (.ref f)) k) (by rw[(cE Z).2];rfl) (λ_ q=>q) ?_
 refine fk (cE Z).1 rfl (bg (cn.ok (k:=λds=>∃d,ds=[d]/\∃r,φ d=aa r/\k r) Z (ia (h.mono λd q=>fR ⟨d,rfl,q⟩)) w A ab s g aM S R V E) (λvs aA ⟨aN,ds,Y,H,G,d,hd,r,hr,hk⟩=>?_))
 subst hd
 obtain⟨u,rfl,hu⟩:=G.one
 have L':=L1 [] s g aA aN (fU) L0 S Y
 refine ba λC=>?_
 obtain⟨⟨o,fd,ho,hd⟩,_⟩:=L3 aA aN L'
 apply C
 refine fB ⟨⟨.frame,.inl rfl,?_⟩,?_⟩
 ·obtain⟨oc,od,B,sl⟩:=o
  subst hd
  exact(Uu (part:=aU) ho).andThen .now
 ·exact bg (L2 A aA aN u d r L' H (R.le hn) hu hr E) (λv s' o=>o.trans Y λ_ x=>x▸hk)
end
theorem Hk{a b:Int}{t u:Tok}(h:Q (.bool (decide (a<b))) s):wpAny (model fS w) A (richCompare .Lt (.int a t) (.int b u)) Q E s:=
 richCompare_gives (op:=.Lt) (wS s a t) (wS s b u) F.slot_int_lt F.entry_int_lt (F.args_int_lt_2 _ _) (gives_int_lt a b t u) (λx=>nomatch x) h
theorem Tm{x y:ag}{a b c d:Int}{t u C B:Tok}{f:Nat}(W:s.heap.get? x=aa {cls:=aK "tuple",data:=.seq #[.int a t,.int b u] n})(Z:s.heap.get? y=aa {cls:=aK "tuple",data:=.seq #[.int c C,.int d B] f})
 (hu:A.units<cLine)(h:Q (.bool (decide (a<c\/a=c/\b<d))) s):wpAny (model fS w) A (compareOp .Lt (.ref x) (.ref y)) Q E s:=by
 have H:s.TypeIs (.ref x) "tuple":=⟨_,W,rfl⟩
 have V:s.TypeIs (.ref y) "tuple":=⟨_,Z,rfl⟩
 refine wpAny_richCompare_same_room (op:=.Lt) H V F.slot_tuple_lt (j4 F.slot_tuple_lt H F.entry_tuple_lt ?_ (F.args_tuple_lt_2 _ _)) hu
 show wpAny _ _ (wR (.ref y) (aK "tuple")>>=_) _ _ s
 refine rh V isSubtype_tuple_tuple ?_
 refine aJ (Pp W rfl ?_)
 refine aJ (Pp Z rfl ?_)
 refine aJ ?_
 refine aJ (aJ (PS ?_))
 by_cases Y:a=c
 ·subst Y
  refine(show (a==a)=ae by simp).symm▸?_
  refine a8 ?_
  refine aJ (aJ (PS ?_))
  by_cases G:b=d
  ·subst G
   rw[show (b==b)=ae by simp]
   refine a8 (a8 (a8 ⟨_,rfl,λe=>(nomatch e),?_⟩))
   have e:decide (a<a\/a=a/\b<b)=aH:=by simp
   rw[e] at h;exact h
  ·rw[show (b==d)=aH by simpa using G]
   refine kg ?_
   refine aJ (Hk ?_)
   refine fZ (a8 (a8 (a8 ⟨_,rfl,λe=>(nomatch e),?_⟩)))
   have e:decide (a<a\/a=a/\b<d)=decide (b<d):=by simp
   rw[e] at h;exact h
 ·rw[show (a==c)=aH by simpa using Y]
  refine kg ?_
  refine aJ (Hk ?_)
  refine fZ (a8 (a8 (a8 ⟨_,rfl,λe=>(nomatch e),?_⟩)))
  have e:decide (a<c\/a=c/\b<d)=decide (a<c):=by simp[Y]
  rw[e] at h;exact h
noncomputable def D.one?:D->Option Int
 |.int i=>aa i
 |_=>aU
def D.Dl:D->Option (Int×Int)
 |.tup (x::y::[])=>x.one?.bind λi=>y.one?.map λj=>(i,j)
 |_=>aU
def gF(a b:D):Option Bool:=(a.one?.bind λi=>b.one?.map λj=>decide (i<j)).or (a.Dl.bind λp=>b.Dl.map λq=>decide (p.1<q.1\/p.1=q.1/\p.2<q.2))
theorem D.xS{a:D}{i:Int}(h:a.one?=aa i):a=.int i:=by
 cases a with
 |int j=>exact aQ D.int (aW h)
 |_=>exact ns h
theorem D.Kv{a:D}{p:Int×Int}(h:a.Dl=aa p):a=.tup [.int p.1,.int p.2]:=by
 cases a with
 |tup l=>
  match l with
  |[]=>exact ns h
  |[x]=>exact ns h
  |[x,y]=>
   refine(iq.mp h).elim λi V=>V.elim λhi h=>?_
   obtain⟨j,Y,h⟩:=kA.mp h
   rw[xS hi,xS Y,<-h]
  |x::y::z::r=>exact ns h
 |_=>exact ns h
theorem bq.gF{a b:D}{c:Bool}{k:Bool->Prop}(h:Mine.Internal.gF a b=aa c)(W:k c):bq n .Lt a b k:=by
 rcases Option.or_eq_some_iff.mp h with h|⟨_,h⟩
 ·obtain⟨i,hi,h⟩:=iq.mp h
  obtain⟨j,Z,h⟩:=kA.mp h
  rw[D.xS hi,D.xS Z]
  exact bq.lt (h▸W)
 ·obtain⟨p,H,h⟩:=iq.mp h
  obtain⟨q,G,h⟩:=kA.mp h
  rw[D.Kv H,D.Kv G]
  refine .mk λw A s g v u S R C B E=>?_
  refine C.uh λa1 n1 ⟨i1⟩ f q1=>?_
  refine B.uh λa2 n2 ⟨i2⟩ e2 q2=>?_
  obtain⟨x,y,rfl,hx,hy⟩:=q1.two
  refine ba λN_=>?_
  obtain⟨x',y',rfl,V,Y⟩:=q2.two
  obtain⟨_,rfl⟩:=hx.int_inv;obtain⟨_,rfl⟩:=hy.int_inv
  obtain⟨_,rfl⟩:=V.int_inv;obtain⟨_,rfl⟩:=Y.int_inv
  apply N_
  exact Tm (S.sub _ _ f) (S.sub _ _ e2) (aV (aD (cy _ _) R.2.1) (lT tT:9000<cLine)) ⟨_,g,rfl,Nx.refl _ _ _,S,h▸W⟩
theorem Bo{e:dy}{t:Tok}(h:e.key=.str x t):um #[e]:=λV Y=>by
 have:V=e:=by simpa using Y
 subst this;exact⟨x,t,h⟩
theorem Me{X Y:Prop}{c:Bool}(h:c=ae)(V:X):if c=ae then X else Y:=(bo h)▸V
theorem Mf{X Y:Prop}{c:Bool}(h:c=aH)(V:Y):if c=ae then X else Y:=by rw[be (by rw[h];simp)];exact V
theorem Bp{args:Args}{binds:List (Str×ai)}{T K:ag}{t:Tok}{H:Nat}{es:Array dy}{Z:Obj}{G C:Type}{k:Option (Array ai)->Sem (List (Str×ai))}{B:Option ai->Sem G}{f:G->Sem C}{k3:C->Sem (List (Str×ai))}(hd:fd.defaults=.ref T)(ho:s.heap.get? T=aa {cls:=aK "tuple",data:=.seq #[.int 0 t,.none] n})
 (hK:s.heap.get? K=aa Z)(h1:Z.data=.dict es H)(h2:um es)(h3:nsFind es "key"=aa .none)
 (Y:bindArgs fd args=w' fd.defaults>>=k)(W:k (aa #[.int 0 t,.none])=((nsGet K "key">>=B)>>=f)>>=k3)(V:(B (aa .none)>>=f)>>=k3=pure binds):fQ s fd args binds:=λ_ _ _ _ hq=>by
 rw[Y,hd]
 refine lZ ho rfl ?_
 rw[W,bind_assoc,bind_assoc]
 refine aJ (wpAny_nsGet (m:=nsFind es) ⟨Z,es,H,hK,h1,h2,λ_=>rfl⟩ ?_)
 rw[bind_assoc] at V;rw[h3,V]
 exact a8 hq
section
variable {n m:Nat} {sc:bf} {ρ:ay}
theorem aO.sub{b:bw}{k:Fl->ay->Prop}(h:aO n sc ρ b k)(hs:Sub ρ aC):aO n sc aC b k:=.mk λw A ab mu aw aE s g aB H R E=>h.run w A ab mu aw aE s g aB (H.weaken hs) R E
theorem aO.le{b:bw}{k:Fl->ay->Prop}(h:aO m sc ρ b k)(V:m<=n):aO n sc ρ b k:=.mk λw A ab mu aw aE s g aB H R E=>h.run w A ab mu aw aE s g aB H (R.le V) E
theorem aL.le{b:List bw}{k:Fl->ay->Prop}(h:aL m sc ρ b k)(V:m<=n):aL n sc ρ b k:=.mk λw A ab mu aw aE s g aB H R E=>h.run w A ab mu aw aE s g aB H (R.le V) E
theorem aj.le(h:aj m sc ρ e k)(Y:m<=n):aj n sc ρ e k:=.mk λw A ab s g S R V E=>h.run w A ab s g S (R.le Y) V E
theorem b8.oH(hl:l.length<=100000)(hd:l[i]?=aa d)(V:k d):b8 n (.lst l) (.int (i:Int)) k:=by
 have hi:i<l.length:=(ez.mp hd).1
 refine b8.lst (j:=i) (by exact dA _) (by exact Zg (by assumption) (by assumption)) ?_ hd V
 exact(Fk (dA _) (by omega)).trans (rfl)
theorem AO{J:ay->Prop}{k:Fl->ay->Prop}(aC:ay)(hs:Sub aC ρ)(h:J aC):uL J k .next ρ:=⟨aC,hs,h⟩
theorem bH.Bq{W:Pos}{bz:List ag}{k:Bool->Prop}(Z:ρ.lookup x=aa (.fn bz φ))(Y:ce x=ae)(H:k aH):bH n sc ρ (iQ (aS x p) [.Is] [jH .none c W] aM) k:=.mk λw A ab s g S R V E=>by
 refine ba λG=>?_
 obtain⟨v,ad,C,rfl,B,L0,L1,L2,f,rfl,L3⟩:=V.var x _ Z
 apply G
 refine vO (eQ (d3 V.kind C Y (EZ (is_none_gen ?_))) (d4 Y)) rfl
 exact nJ ⟨g,Nx.refl _ _ _,S,H⟩
end
section
variable {n m:Nat} {sc scope:bf} {ρ bE:ay}
structure vm(n:Nat)(sc:bf)(ρ:ay)(e:au)(φ:D->Option D):Prop where
 run:∀(w:a9) (A:bN) (ab:Env) (s:av) (g:aY),St w s g->Rm n A->c8 w s g ab sc ρ->∀E,wpAny (model PG w) A (eval e ab) (λv s'=>∃g' bz,Nx [] s g s' g'/\St w s' g'/\∀vi,cU w s' g' vi v bz (.fn bz φ)) E s
structure g_(n:Nat)(sc:bf)(ρ:ay)(e:au)(φ:D->Option D):Prop where
 run:∀(w:a9) (A:bN) (ab:Env) (s:av) (g:aY),St w s g->Rm n A->c8 w s g ab sc ρ->∀E,wpAny (model PG w) A (eval e ab) (λv s'=>∃g' bz,Nx [] s g s' g'/\St w s' g'/\(∀vi,cU w s' g' vi v bz (.fn bz φ))/\∀b∈bz,∃o,s'.heap.get? b=aa o/\∀iK n,o.data≠.seq iK n) E s
theorem g_.f(h:g_ n sc ρ e φ):vm n sc ρ e φ:=⟨λw A ab s g S R V E=>bg (h.run w A ab s g S R V E) (λv s' G=>by refine G.elim λg' Y=>Y.elim λbz W=>W.elim λa Z=>Z.elim λb H=>H.elim λc _=>?_;exact⟨g',bz,a,b,c⟩)⟩
theorem vm.fnName{bz:List ag}(H:ρ.lookup x=aa (.fn bz φ))(Y:ce x=ae):vm n sc ρ (aS x p) φ:=.mk λw A ab s g S R V E=>by
 refine ba λG=>?_
 obtain⟨v,ad,C,W⟩:=V.var x _ H
 have e:ad=bz:=W.1
 subst e
 apply G
 exact eQ (d3 V.kind C Y ⟨g,ad,Nx.refl _ _ _,S,λZ=>W⟩) (d4 Y)
theorem g_.BY{p:Str}(C:ρ.lookup x=aa (.lam nm params (.expr e) scope))(Y:ce x=ae)(W:mq scope sc ρ bE)(hd:pP bE=ae)
 (B:∀q br doc pm ct cv (s:av) vs,vs.length=1->fQ s (jO nm q params (.expr e) scope br doc pm ct cv) ⟨vs,[]⟩ ([p].zip vs))(Z:g6 [p] scope bE=ae)(H:(d5 scope).isNone=ae)
 (iL:∀d r,φ d=aa r->aj 50 scope (bindR [p] [.dat d]++bE) e λx=>x=r):g_ n sc ρ (aS x aM) φ:=.mk λw A ab s g S R V E=>by
 refine ba λf=>?_
 obtain⟨v,ad,h1,G⟩:=V.var x _ C
 have e:ad=[]:=by obtain⟨_,_,_,_,_,_,_,_,_,_,_,e⟩:=G;exact e
 subst e
 obtain⟨bz,q1,q2⟩:=Le S V G W hd B Z H iL
 apply f
 exact eQ (d3 V.kind h1 Y ⟨g,bz,Nx.refl _ _ _,S,q1,q2⟩) (d4 Y)
theorem g_.lambda{p:Str}{body:au}{t:ag×ag×Str}(hl:d5 sc=aa (t.1,bI))(ht:t∈fy)(hq:bI++("<lambda>":Str)=t.2.2)(Z:∀w,codeHdIn (KH w) t.1 t.2.1=ae)(H:dD scope sc=ae)(G:∀ab,defaultsOf params ab=([],[]))
 (Y:mq scope sc ρ bE)(hd:pP bE=ae)
 (hb:∀q br doc pm ct cv (s:av) vs,vs.length=1->fQ s (jO "<lambda>" q params (.expr body) scope br doc pm ct cv) ⟨vs,[]⟩ ([p].zip vs))(C:g6 [p] scope bE=ae)(B:(d5 scope).isNone=ae)
 (iL:∀d r,φ d=aa r->aj 50 scope (bindR [p] [.dat d]++bE) body λx=>x=r):g_ n sc ρ (.Lambda params body scope aM) φ:=.mk λw A ab s g S R V E=>by
 refine kla_eval (G ab) ?_
 rw[(V.lam _ _ hl).2,hq]
 refine bg (Cj S V hl ht Z H) (λv s' W=>W.elim λg' W=>W.elim λN W=>W.elim λS' r=>?_)
 refine(Le S' (V.step N S) r Y hd hb C B iL).elim λbz f=>f.elim λq1 q2=>?_
 exact⟨g',bz,N,S',q1,q2⟩
structure sD(n:Nat)(f:ai)(ds:List D)(φ:D->Option D)(k:D->Prop):Prop where
 run:∀(w:a9) (A:bN) (s:av) (g:aY) (vs:List ai) (kf:ai) (bz:List ag),St w s g->Rm n A->aP w g vs ds->(∀ab,cU w s g ab kf bz (.fn bz φ))->∀E,wpAny (model PG w) A (call f vs [("key",kf)]) (Out w s g k) E s
theorem iH.oW{ds:List D}(h:iH n fa ds φ k):sD n (.ref fa) ds φ k:=⟨λw A s g vs V bz S R r Y E=>h.run w A s g vs V bz S R r Y E⟩
theorem iH.le{ds:List D}(h:iH m fa ds φ k)(V:m<=n):iH n fa ds φ k:=⟨λw A s g vs Y bz S R r W E=>h.run w A s g vs Y bz S (R.le V) r W E⟩
theorem aj.sk{kp:Pos}{args:List au}{ke:au}{f:ai}(hf:bO sc x f)(ha:args.all cu=ae)(Eh:vm n sc ρ ke φ)(h:cn n sc ρ args λds=>sD n f ds φ k):aj n sc ρ (bU (aS x np) args [⟨aa "key",ke,kp⟩] aM) k:=.mk λw A ab s g S R V E=>by
 refine Pq (hf.run w A ab s g ρ S V np _ E ?_)
 refine j8 (P:=λhp=>∃k,(k=jE\/k=jC\/k=jz)/\jN (model PG w) hp (keeperOf f) k) (by rw[(cE ha).2];rfl) (λ_ q=>q) ?_
 refine fk (cE ha).1 rfl (bg (cn.ok ha h w A ab s g aM S R V E) (λvs aA ⟨aN,ds,Y,G,C,B⟩=>?_))
 show wpAny _ A (evalAll [do let v <-eval ke ab;standAt aM;pure v]) _ E aA
 refine E7 (aJ (bg (Eh.run w A ab aA aN G R (V.step Y S) E) (λkv aT H=>H.elim λbb H=>H.elim λbz H=>H.elim λW H=>H.elim λZ hr=>jd (a8 ?_))))
 refine fB ⟨hf.keep w aT bb Z,?_⟩
 exact Out.back (Y.trans W) (B.run w A aT bb vs kv bz Z R (C.mono W.gg) hr E)
theorem aO.Lf{yp kp:Pos}{args:List au}{ke:au}{k:Fl->ay->Prop}(hf:bO sc x (.ref fa))(hy:ρ.lookup y=aa (.own a l))(hO:ce y=ae)(ha:args.all cu=ae)(Eh:g_ n sc ρ ke φ)
 (hV:∀ab,iA (bU (aS x np) (aS y yp::args) [⟨aa "key",ke,kp⟩] e6) aU aM.line ab=pure aH)
 (h:cn n sc ρ args λds=>∃l',mz n fa l ds φ l'/\k .next ((y,.own a l')::ρ)):aO n sc ρ (.Expr (bU (aS x np) (aS y yp::args) [⟨aa "key",ke,kp⟩] e6) aM) k:=.mk λw A ab mu aw aE s g aB H R E=>by
 have sY:(S9 y yp::args).all cu=ae:=ha
 refine qW ?_ (by dsimp only[rj];rw[H.kind];rfl) (hV ab)
 refine ba λN_=>?_
 obtain⟨u,u1,af,rfl,u3,u4,u5,u6⟩:=H.var y _ hy
 apply N_
 have am:a∈aB y:=by rw[u6];simp
 refine Pq (hf.run w A ab s g ρ H.st H.cI np _ E ?_)
 refine j8 (P:=λhp=>∃k,(k=jE\/k=jC\/k=jz)/\jN (model PG w) hp (keeperOf (.ref fa)) k) (by rw[(cE sY).2];rfl) (λ_ q=>q) ?_
 refine fk (cE sY).1 rfl ?_
 refine qS (eQ (d3 H.kind u1 hO ?_) (d4 hO)) (nO (rfl))
 refine bg (cn.ok ha h w A ab s g e6 H.st R H.cI E) (λvs aA ⟨aN,ds,V,W,mr,l',iZ,hk⟩=>?_)
 show wpAny _ A (evalAll [do let v <-eval ke ab;standAt e6;pure v]) _ E aA
 refine E7 (aJ (bg (Eh.run w A ab aA aN W R (H.step V W).cI E) (λkv aT G=>G.elim λbb G=>G.elim λbz G=>G.elim λY G=>G.elim λZ G=>G.elim λhr hi=>jd (a8 ?_))))
 refine fB ⟨hf.keep w aT bb Z,?_⟩
 have H2:=(H.step V W).step Y Z
 have MZ:=(V.trans Y).plain H.st u4 (ca)
 refine(id MZ).elim λnn en=>?_
 have M:dq w aT bb [a]:=λb B=>by
  have:b=a:=a_.1 B
  subst this
  exact H2.rebase.1.fz b (ua hy rfl am)
 have f:a∉bz:=λq=>by
  obtain⟨o,e,d⟩:=hi a q
  rw[en] at e;obtain rfl:=aW e
  exact d _ _ rfl
 refine bg (iZ.run w A aT bb a af vs kv bz Z R M MZ (u5.mono (V.trans Y).gg) ((M a (bi)).1:bb a=ak) (mr.mono Y.gg) hr f E) (λr kX ⟨ii,C,gw,ij,w3,w4,w5⟩=>?_)
 refine⟨ii,_,.next,_,H2.change (mt:=[a]) (io:=[a]) hy rfl rfl gw ij (λb B=>by rw[u6];exact B) (λb B o e=>?_) (λv' _ r=>?_) (λb B=>.inl (by rw[u6];exact B)),trivial,hk⟩
 ·have:b=a:=a_.1 B
  subst this;rw[en] at e;obtain rfl:=aW e;exact cV.of λvs q=>by cases q
 ·obtain⟨K7,rfl,_⟩:=r
  exact⟨C,rfl,w3,w4,w5,rfl⟩
set_option tactic.hygienic true in
theorem aj.Z4{bz:List ag}(hx:ρ.lookup x=aa (.own a l))(hy:ρ.lookup y=aa (.fn bz φ))(hf:a∉bz)(h:aj n sc ((x,.dat (.lst l))::(y,.fn bz φ)::jg ρ) e λd=>d.scalar=ae/\k d):aj n sc ρ e k:=.mk λw A ab s g S R V E=>by
 obtain⟨aN,adG,Y,hg,ha,hs⟩:=Mine.Internal.mo S V hx
 have acz:c8 w s aN ab sc ((x,.dat (.lst l))::(y,.fn bz φ)::jg ρ):=by
  refine⟨Y.kind,Y.glob,Y.gv,Y.ks,Y.lam,Y.e8,Y.cP,Y.fg,λz b W=>?_⟩
  rw[j7] at W
  split at W
  ·rename_i e;obtain rfl:=aW W;subst e
   exact Y.var z _ lookup_cons_self
  ·rename_i Z
   rw[j7] at W
   split at W
   ·rename_i e;obtain rfl:=aW W;subst e
    obtain⟨c,hc⟩:∃c,(jg ρ).lookup z=aa c:=by
     clear Y V hx Z h
     induction ρ with
     |nil=>simp at hy
     |cons p r ih=>
      obtain⟨y',c⟩:=p
      unfold jg
      rw[d8,iu]
      rw[iu] at hy
      induction hb:z==y' with
      |true=>exact⟨_,rfl⟩
      |false=>rw[hb] at hy;exact ih hy
    refine(Y.var z c (by exact(fj Z).trans hc)).elim λv DT=>DT.elim λad vk=>vk.elim λq1 _=>?_
    refine ba λN_=>?_
    obtain⟨v',io,q1',h0,Lv,h1,h2⟩:=V.var z _ hy
    have h0:io=bz:=h0
    subst h0
    have nm:∀{u u'},fG s aN ab z u->fG s g ab z u'->u=u':=λa b=>by
     rcases a with ⟨H,a2,m,a3,a4⟩|⟨H,c,a2,a3,a4⟩<;>rcases b with ⟨G,b2,m',b3,b4⟩|⟨G,c',b2,b3,b4⟩
     ·obtain⟨o,es,ep,e,d,_,f⟩:=a3
      obtain⟨o',zb,sR,C,B,_,f'⟩:=b3
      rw[e] at C;obtain rfl:=aW C;replace B:=d▸B;cases B
      have:=(f z).symm.trans (f' z)
      rw[a4,b4] at this;obtain rfl:=aW this;rfl
     ·rw[H] at G;rcases G with G|G<;>cases G
     ·rw[G] at H;rcases H with H|H<;>cases H
     ·rw[a2] at b2;obtain rfl:=aW b2
      refine a4.elim λo Dm=>Dm.elim λe d=>?_
      obtain⟨o',C,B⟩:=b4
      rw[e] at C;obtain rfl:=aW C;replace B:=d▸B;cases B;rfl
    have ev:=nm q1 q1'
    subst ev
    apply N_
    refine⟨v,_,q1,rfl,Lv,h2.st [a] s g s aN (λb hb q=>?_) h1 S ⟨λb o e _ _=>e,λb o e _=>⟨o,e⟩,λb o e=>?_,λb o e C hm=>?_,rfl⟩,h2⟩
    ·have:b=a:=a_.1 hb
     subst this
     exact hf q
    ·have hb:b≠a:=λq=>by subst q;exact ns (ha.symm.trans e)
     exact(hg b hb).trans e
    ·exact(hg b (λq=>hm (by simp[q]):b≠a)).trans C
   ·exact Y.var z b (by exact(fj Z).trans W)
 refine h.wp adG R acz λv s' bb d N gf r q_=>q_.elim λhd hk=>?_
 obtain⟨g',N',S'⟩:=A4 hg ha hs N gf
 exact⟨g',d,N',S',r.scalar hd,hk⟩
end
section
variable {n m:Nat} {sc scope:bf} {ρ bE:ay}
theorem aO.Wt{k:Fl->ay->Prop}(h:k (.ret .none) ρ):aO n sc ρ (.Return aU aM) k:=.mk λw A ab mu aw aE s g aB H R E=>
 wpAny_Return_none ⟨g,ρ,.ret .none,aB,H,Rep.none,h⟩
theorem Tn{k:D->ay->Prop}(h:k .none ρ):ly k .next ρ:=h
theorem bF.Mg{x s:Nat}(V:k (.int ((x/2^s:Nat):Int))):bF n .RShift (.int (x:Int)) (.int (s:Int)) k:=bF.shr (dA _) (by
 rw[nv _ (by exact du (Int.pow_pos (by simp)))]
 exact V)
set_option tactic.hygienic true in
theorem v8{x:Nat}(h:x<2^b):fA (x:Int)<=b:=by
 unfold fA
 split
 ·exact ck _
 ·rename_i V
  have V:x≠0:=by simpa using V
  have:=(wM V).mpr h
  exact qL this
theorem bF.acA{x s:Nat}(V:x<2^b)(Y:b<=100000)(hs:s<=100000)(W:k (.int ((x*2^s:Nat):Int))):bF n .LShift (.int (x:Int)) (.int (s:Int)) k:=bF.ab6 (dA _) (ZL Y hs (v8 V)) (by
 exact W)
structure uB(fa c:ag)(name bI:Str)(params:iz)(body:List bw)(sc:bf):Prop where
 at_:∀w:a9,∃doc pm ct an,(KH w).lookup fa=aa {cls:=aK "function",data:=.func {name,qualname:=bI,params,body:=gR body,scope:=sc,globals:=eF,closure:=[],defaults:=.none,kwdefaults:=.none,doc,pyModule:=pm,annotations:=an,code:=.ref c,closureTuple:=ct,builtins:=iO}}/\
  ∃oc vs t,(KH w).lookup c=aa oc/\oc.data=bC vs/\vs[1]?=aa (.str bI t)
theorem bJ.xT{c:ag}{name:Str}{ds:List D}(hD:uB fa c name bI params body sc)
 (hb:∀doc pm bA ct an (s:av) vs,vs.length=ds.length->fQ s (gr name bI params body sc .none .none doc pm bA ct an) ⟨vs,[]⟩ (aI.zip vs))
 (W:g6 aI sc []=ae)(Y:aI.length=ds.length)(V:sc.names.all (λx=>!(x.2==.free))=ae)(hl:d5 sc=aa (c,bI++(".<locals>.":Str)))
 (h:aL n sc (bindR aI (ds.map Bd.dat)) body (fM k)):bJ (n+2) fa ds k:=.mk λw A s g vs S R r E=>by
 obtain⟨doc,pm,ct,an,Z,G⟩:=hD.at_ w
 have C:dR w s g [] sc [] [] (λ_=>[]):=dR.nil λx e=>by
  have:=ef.mp V _ (eA e)
  simp at this
 refine ba λB=>?_
 obtain⟨oc,f,t,h1,h2,h3⟩:=G
 apply B
 refine lY (mS (xb S R (cW.dat r) (S.df _ _ Z) rfl (CodeRec.of_K S ⟨c,oc,f,t,rfl,h1,h2,h3⟩) C (.inl rfl) (hb doc pm _ ct an s vs r.1) (by simpa using Y) (λc' q e=>by replace e:=hl▸e;cases e;exact⟨rfl,rfl⟩) W (by exact rE▸h) E) λr s' hr=>?_)
 refine nY r hr (λv q_=>?_) λ_ h=>h
 refine ba λB=>?_
 obtain⟨ab,g',aC,d,dX,H,R',Z⟩:=q_
 apply B
 exact⟨g',d,H.nx,H.st,R',Z⟩
theorem aO.Yq{k:Fl->ay->Prop}(W:ρ.lookup x=aa (.own a l))(Y:ce x=ae)(h:k (.ret (.lst l)) ((x,.dat (.lst l))::ρ)):aO n sc ρ (.Return (aa (aS x p)) aM) k:=.mk λw A ab mu aw aE s g aB H R E=>by
 obtain⟨g',V,Z,up⟩:=bj.freeze H W
 exact(aO.ret (aj.name (by simp) Y h)).run w A ab mu aw aE s g' V Z R E
theorem aO.xt{name:Str}{args:List au}{id:String}{k:Fl->ay->Prop}(hx:ρ.lookup x=aa (.own a l))(W:ce x=ae)(m:cM "list" name id)(f:args.all cu=ae)
 (hb:∀ab,mR (aS x p) name ab (eval (aS x p) ab)=eval (aS x p) ab)(hl:(args.length<30/\(eT.endLine==e6.line)=ae))(hV:∀ab,iA (bU (cC (aS x p) name eT) args [] e6) aU aM.line ab=pure aH)
 (h:cn n sc ρ args λds=>∃l',kP n id l ds l'/\k .next ((x,.own a l')::ρ)):aO n sc ρ (.Expr (bU (cC (aS x p) name eT) args [] e6) aM) k:=.mk λw A ab mu aw aE s g aB H R E=>by
 refine qW ?_ (by dsimp only[rj];rw[H.kind];rfl) (hV ab)
 refine ba λN_=>?_
 obtain⟨v,h1,af,rfl,h3,⟨nn,h4⟩,h5,h6⟩:=H.var x _ hx
 apply N_
 refine ny (hb ab) ?_ hl.2 rfl (eQ (d3 H.kind h1 W ?_) (d4 W))
 ·exact Kq (cE f).1 hl.1
 ·refine⟨"list",id,m.pa,m.slot,m.ty,⟨_,h4,rfl⟩,λb e=>?_,?_⟩
  ·cases e;exact⟨_,h4,rfl⟩
  refine nN (cE f).2 (fk (cE f).1 rfl (bg (cn.ok f h w A ab s g e6 H.st R H.cI E) (λvs aT ⟨bb,ds,Z,Y,G,l',C,hk⟩=>?_)))
  refine fB ?_
  have H2:=H.step Z Y
  obtain⟨_,_,V,e2,i3,i4,i5,i6⟩:=H2.var x _ hx
  exact C.run w A aT bb a V vs Y R i4 i5 G i3 _ E λh' tk me q1 q2 q3=>by
   obtain⟨B,H3⟩:=H2.own (tk:=tk) hx q1 q2 q3
   exact⟨bb,_,.next,B,H3,trivial,hk⟩
theorem pI{k:ay->Prop}(h:k ρ):kO n sc ρ [] [] k:=h
theorem jG{t:au}{ds:List D}{k:ay->Prop}(h:fK n sc ρ t d λaC=>kO n sc aC ts ds k):kO n sc ρ (t::ts) (d::ds) k:=h
theorem aj.UK{f:au}{r:List au}(V:ρ.lookup x=aa (.own a l))(h:aj n sc ((x,.dat (.lst l))::jg ρ) (bU f (aS x p::r) [] aM) λd=>d.scalar=ae/\k d):aj n sc ρ (bU f (aS x p::r) [] aM) k:=aj.mo V h
theorem A6(h:∀d,k d->k' d){fl:Fl}(e:fM k fl ρ):fM k' fl ρ:=by
 induction fl with
 |next=>exact h _ e
 |ret d=>exact h _ e
 |brk=>exact e
 |cont=>exact e
theorem Cm{i:Int}{k:Bool->Prop}(h:k (i != 0)):∃b,(D.int i).truth=aa b/\(∀x,D.int i=.str x->x.length<2^63)/\(∀x,D.int i=.lst x->x.length<2^63)/\k b:=⟨_,rfl,λx e=>D.no e rfl,λx e=>D.no e rfl,h⟩
theorem Kw{i:Bool}{k:Bool->Prop}(h:k i):∃b,(D.bool i).truth=aa b/\(∀x,D.bool i=.str x->x.length<2^63)/\(∀x,D.bool i=.lst x->x.length<2^63)/\k b:=⟨_,rfl,λx e=>D.no e rfl,λx e=>D.no e rfl,h⟩
theorem Yr{i:Str}{k:Bool->Prop}(hl:i.length<2^63)(h:k ((i.length:Int) != 0)):∃b,(D.str i).truth=aa b/\(∀x,D.str i=.str x->x.length<2^63)/\(∀x,D.str i=.lst x->x.length<2^63)/\k b:=⟨_,rfl,λx e=>(by cases e;exact hl),λx e=>D.no e rfl,h⟩
theorem Ys{i:List D}{k:Bool->Prop}(hl:i.length<2^63)(h:k (!i.isEmpty)):∃b,(D.lst i).truth=aa b/\(∀x,D.lst i=.str x->x.length<2^63)/\(∀x,D.lst i=.lst x->x.length<2^63)/\k b:=⟨_,rfl,λx e=>D.no e rfl,λx e=>(by cases e;exact hl),h⟩
end
noncomputable def f9{α:Type}(lt:Nat->Nat->Bool):sB α->α
 |.ret a=>a
 |.ask i j k=>f9 lt (k (lt i j))
theorem rH(lt:Nat->Nat->Bool)(f:α->sB β):∀t:sB α,f9 lt (t.bind f)=f9 lt (f (f9 lt t))
 |.ret a=>rfl
 |.ask i j k=>by
  exact rH lt f (k (lt i j))
structure gh(lt:Nat->Nat->Bool):Prop where
 sE:∀a b,lt a b=ae->lt b a=aH
 kQ:∀a b c,lt a b=aH->lt b c=aH->lt a c=aH
def i0(lt:Nat->Nat->Bool)(a b:Nat):Prop:=lt b a=aH/\(lt a b=ae\/a<b)
section
variable {lt:Nat->Nat->Bool}
theorem i0.trans(W:gh lt){a:Nat}(h:i0 lt a b)(h':i0 lt b c):i0 lt a c:=by
 refine⟨W.kQ _ _ _ h'.1 h.1,?_⟩
 rcases h.2 with q|q
 ·left
  induction e:lt a c with
  |true=>rfl
  |false=>have:=W.kQ _ _ _ e h'.1;exact tf (q.symm.trans this)
 ·rcases h'.2 with V|V
  ·left
   induction e:lt a c with
   |true=>rfl
   |false=>have:=W.kQ _ _ _ h.1 e;exact tf (V.symm.trans this)
  ·right;exact eO q V
section
variable {α:Type} {x y z:List α} {i k:Nat}
theorem xu(h:k<x.length):(x++y++z)[k]?=x[k]?:=by rw[c6,qy h]
theorem rW(h:i<y.length):(x++y++z)[x.length+i]?=y[i]?:=by
 rw[c6,o8 (cy _ _),k_,qy h]
theorem uc:(x++y++z)[x.length+(y.length+i)]?=z[i]?:=by
 rw[c6,o8 (cy _ _),k_,o8 (cy _ _),k_]
theorem Hl{P:Nat->Prop}{a:Nat}(Y:∀k,k<a->P k)(W:∀j,j<b->P (a+j))(h3:∀j,P (a+(b+j)))(k:Nat):P k:=by
 by_cases q:k<a
 ·exact Y k q
 ·obtain⟨j,rfl⟩:=qB (de.mp q)
  by_cases V:j<b
  ·exact W j V
  ·obtain⟨d,rfl⟩:=qB (de.mp V)
   exact h3 d
theorem Wu(a j d:Nat):a+(a+(j+d+1))-1-(a+j)=a+d:=Nat.sub_eq_of_eq_add (show a+(a+(j+d))=a+d+(a+j) by exact XY _ _ _)
end
theorem HY{x y z:List Nat}:xF (x++y++z).toArray x.length (x.length+y.length)=(x++y.reverse++z).toArray:=by
 unfold xF
 refine Pr λk=>?_
 rw[getElem?_mirror_all (by rw[PH,bR,bR];exact cy _ _),nz,nz,nz]
 revert k
 refine Hl (a:=x.length) (b:=y.length) (λk h=>?_) (λj h=>?_) (λj=>?_)
 ·rw[be λq=>aZ q.1 (kJ.mpr h),xu h,xu h]
 ·refine(Oc h).elim λd hd=>?_
  rw[bo ⟨cy _ _,vX h _⟩,rW (y:=y.reverse) (by rw[i'];exact h),o9 h]
  rw[(hd▸(Wu _ _ _):x.length+(x.length+y.length)-1-(x.length+j)=x.length+d),rW (by rw[hd];exact jY (jB _ _)),hd,zI,k_]
 ·rw[be λq=>aZ q.2 (de.mpr (fi (cy _ _) _)),uc]
  rw[<-i' (as:=y),uc]
theorem Rr{u v w:List Nat}{e:Nat}:bubble (u++v++e::w).toArray (u.length+v.length) (u.length+v.length-u.length)=(u++e::v++w).toArray:=by
 refine Pr λk=>?_
 rw[getElem?_bubble (by simp only[PH,bR,bR];exact s4 (eB _)) _ (rr _ _),Nat.sub_sub_self (cy _ _),nz,nz,nz,nz]
 revert k
 refine Hl (a:=u.length) (b:=v.length+1) (λk h=>?_) (λj h=>?_) (λj=>?_)
 ·rw[be (eC h),be λq=>aZ q.1 (de.mpr (bd h)),xu h,xu h]
 ·induction j with
  |zero=>
   rw[bo (Gw _),rW (y:=e::v) (eB _)]
   exact uc (i:=0)
  |succ j=>
   rw[be (jD (s4 (eB _))),bo ⟨s4 (eB _),fi (pf h) _⟩,rW (y:=e::v) h]
   exact rW (Oi h)
 ·rw[be (jD (s4 (cg (eB _) (cy _ _)))),be λq=>aZ q.2 (kJ.mpr (vX (cg (gY _) (cy _ _)) _))]
  refine Eq.trans ?_ (uc (y:=e::v) (i:=j)).symm
  rw[Nat.succ_add]
  exact uc (i:=j+1)
noncomputable def c9(N n:Nat)(a:List Nat):List Nat:=a++hZ n (N-n)
theorem Do{N:Nat}(h:n<N):N-n=N-(n+1)+1:=(v7 (Py h)).symm
theorem Br{l:List Nat}{k x:Nat}(h:l[k]?=aa x):l.toArray.getD k 0=x:=by simp only[NW,nz,h];rfl
theorem Bs{N:Nat}{a:List Nat}(hl:a.length=n){k:Nat}(Y:n<=k)(W:k<N):(c9 N n a).toArray.getD k 0=k:=by
 refine(qB Y).elim λj V=>?_;subst V
 subst hl
 refine Br ?_
 unfold c9
 rw[o8 Y,k_,List.getElem?_range' (Nat.lt_sub_of_add_lt (gP _ _▸W)),pu]
theorem Wv{N:Nat}{a:List Nat}{k:Nat}(h:k<a.length):(c9 N n a).toArray.getD k 0=a[k]:=Br ((qy h).trans (dt h))
theorem pD{N:Nat}{a:List Nat}(h:n<N):c9 N n a=c9 N (n+1) (a++[n]):=by
 unfold c9
 simp only[Do h,Fz,c6];rfl
theorem A7{N:Nat}{a:List Nat}{e:Nat}(hl:(a++[e]).length=n):(c9 N n (a++[e])).toArray.getD (n-1) 0=e:=by
 subst hl
 simp only[bR,Oy,zI]
 exact Br (rW (x:=a) (y:=[e]) (i:=0) tN)
structure dJ(lt:Nat->Nat->Bool)(n:Nat)(a:List Nat):Prop where
 len:a.length=n
 ju:∀x∈a,x<n
 pw:a.Pairwise (i0 lt)
 nd:a.Nodup
theorem Ww{a:List Nat}(h:a.Nodup)(hl:∀x∈a,x<n):(a++[n]).Nodup:=
 kG.mpr ⟨h,mE _ _,λx V y Y e=>eC (hl x V) (e.trans (a_.mp Y))⟩
theorem Wx{a:List Nat}(hl:∀x∈a,x<n):∀x∈a++[n],x<n+1:=λx V=>(cQ.mp V).elim (λh=>lU (hl x h)) λh=>a_.mp h▸gY _
theorem IR{a:List α}{x:α}(h:a.length=n):(a++[x]).length=n+1:=by simp only[bR,h];rfl
theorem dJ.snoc(W:gh lt){a:List Nat}{e:Nat}(h:dJ lt n (a++[e]))(Z:lt n e=aH):dJ lt (n+1) (a++[e]++[n]):=by
 refine⟨IR h.len,Wx h.ju,lM.mpr ⟨h.pw,mE _ _,λx V y H=>?_⟩,Ww h.nd h.ju⟩
 rw[a_.mp H]
 have Y:i0 lt e n:=⟨Z,.inr (h.ju e (o_ _ bi))⟩
 rcases cQ.mp V with V|V
 ·exact i0.trans W ((lM.mp h.pw).2.2 x V e bi) Y
 ·exact a_.mp V▸Y
theorem AP{c:List α}(h:c≠[]):∃c' l,c=c'++[l]:=⟨c.dropLast,c.getLast h,(zh h).symm⟩
structure qe(lt:Nat->Nat->Bool)(N n:Nat)(a:List Nat)(m:Nat):Prop where
 ge:n<=m
 le:m<=N
 M0:dJ lt m (a++hZ n (m-n))
 end_:m<N->∀x∈(a++hZ n (m-n)).getLast?,lt m x=ae
theorem qe.stop{N:Nat}{a:List Nat}(S:dJ lt n a)(h:n<=N)(V:n<N->∀x∈a.getLast?,lt n x=ae):qe lt N n a n:=by
 have e:a++hZ n (n-n)=a:=by rw[tL];exact cR a
 exact⟨bv _,h,by rw[e];exact S,by rw[e];exact V⟩
theorem qe.more{N:Nat}{a:List Nat}(h:qe lt N (n+1) (a++[n]) m):qe lt N n a m:=by
 have e:a++[n]++hZ (n+1) (m-(n+1))=a++hZ n (m-n):=by simp only[Do h.ge,Fz,c6];rfl
 exact⟨bd h.ge,h.le,e▸h.M0,e▸h.end_⟩
theorem rX{f N:Nat}(h:n+(f+1)=N):n<N:=h▸s4 (eB f)
theorem CP{f N:Nat}(h:n+(f+1)=N):n+1+f=N:=(Nat.succ_add_eq_add_succ n f).trans h
theorem JH(W:gh lt){N:Nat}(f n:Nat)(a:List Nat)(H:1<=n)(V:n+f=N)(S:dJ lt n a):qe lt N n a (f9 lt (BM (c9 N n a).toArray f n)):=by
 induction f generalizing n a with
 |zero=>exact .stop S (bn V) λh=>aZ V (eC h)
 |succ f G=>
  obtain⟨Z,e,rfl⟩:=AP (c:=a) λq=>aZ (S.len.symm.trans (aQ gm q)) (jD H)
  show qe lt N n _ (f9 lt (if lt ((c9 N n (Z++[e])).toArray.getD n 0) ((c9 N n (Z++[e])).toArray.getD (n-1) 0)=ae then _ else _))
  rw[Bs S.len (bv _) (rX V),A7 S.len]
  by_cases Y:lt n e=ae
  ·rw[bo Y]
   refine .stop S (bd (rX V)) λ_ x C=>?_
   exact aW (OQ.symm.trans C)▸Y
  ·rw[be Y,pD (rX V)]
   exact(G (n+1) _ (jB _ _) (CP V) (S.snoc W (qR _▸Y))).more
structure lH(lt:Nat->Nat->Bool)(n:Nat)(b c:List Nat):Prop where
 len:b.length+c.length=n
 ne:c≠[]
 bl:∀x∈b,x<n
 cl:∀x∈c,x<n
 bc:∀x∈b,∀y∈c,x<y
 yv:∀x∈c,∀y∈c,lt x y=aH
 pw:(c++b.reverse).Pairwise (i0 lt)
 nd:(c++b.reverse).Nodup
theorem lH.down(W:gh lt){b c:List Nat}(D:lH lt n b c){l:Nat}(hl:l∈c)(h:lt n l=ae):lH lt (n+1) (b++c.reverse) [n]:=by
 have Z:∀x∈c,lt n x=ae:=λx V=>by
  induction q:lt n x with
  |true=>rfl
  |false=>have:=W.kQ _ _ _ q (D.yv x V l hl);exact tf (h.symm.trans this)
 have H:∀x∈b,lt n x=ae:=λx V=>by
  induction q:lt n x with
  |true=>rfl
  |false=>
   have:=(lM.mp D.pw).2.2 l hl x (by simpa using V)
   have:=W.kQ _ _ _ q this.1;exact tf (h.symm.trans this)
 have all:∀x∈c++b.reverse,x<n:=λx V=>by
  rcases cQ.mp V with V|V
  ·exact D.cl x V
  ·exact D.bl x (by simpa using V)
 have e:[n]++(b++c.reverse).reverse=n::(c++b.reverse):=by simp
 refine⟨?_,by simp,λx V=>?_,by simp,λx V y Y=>?_,λx V y Y=>?_,?_,?_⟩
 ·have:=D.len;simp;exact lg (bn this) (bn this.symm)
 ·have:=all x (by simp at V⊢;exact V.symm);exact cg this (cy _ _)
 ·have:y=n:=a_.1 Y
  subst this
  exact all x (by simp at V⊢;exact V.symm)
 ·have G:x=n:=a_.1 V
  have C:y=n:=a_.1 Y
  simp only[G,C]
  induction q:lt n n with
  |false=>rfl
  |true=>have:=W.sE _ _ q;exact tf (q.symm.trans this)
 ·rw[e]
  refine fV.mpr ⟨λx V=>?_,D.pw⟩
  have q:lt n x=ae:=by
   rcases cQ.mp V with V|V
   ·exact Z x V
   ·exact H x (by simpa using V)
  exact⟨W.sE _ _ q,.inl q⟩
 ·rw[e]
  refine gK.mpr ⟨λV=>?_,D.nd⟩
  have:=all n V;exact gO _ this
theorem lH.same(W:gh lt){b c:List Nat}(D:lH lt n b c){l:Nat}(hl:l∈c)(h:lt n l=aH)(h':lt l n=aH):lH lt (n+1) b (c++[n]):=by
 have B:lt n n=aH:=by
  induction q:lt n n with
  |false=>rfl
  |true=>have:=W.sE _ _ q;exact tf (q.symm.trans this)
 have c1:∀x∈c,lt n x=aH:=λx V=>W.kQ _ _ _ h (D.yv l hl x V)
 have Z:=lM.mp D.pw
 refine⟨?_,by simp,λx V=>?_,λx V=>?_,λx V y Y=>?_,λx V y Y=>?_,?_,?_⟩
 ·have:=D.len;simp;exact X8 (by assumption)
 ·have:=D.bl x V;exact cg this (cy _ _)
 ·rcases cQ.mp V with V|V
  ·have:=D.cl x V;exact cg this (cy _ _)
  ·have:x=n:=a_.1 V
   exact aV (bn this) (gY _)
 ·rcases cQ.mp Y with Y|Y
  ·exact D.bc x V y Y
  ·have:y=n:=a_.1 Y
   subst this;exact D.bl x V
 ·rcases cQ.mp V with V|V<;>rcases cQ.mp Y with Y|Y
  ·exact D.yv x V y Y
  ·have e:y=n:=a_.1 Y
   rw[e];exact(λx V=>W.kQ _ _ _ (D.yv x V l hl) h':∀x∈c,lt x n=aH) x V
  ·have e:x=n:=by simpa using V
   rw[e];exact c1 y Y
  ·have C:x=n:=by simpa using V
   have f:y=n:=a_.1 Y
   simp only[C,f];exact B
 ·rw[c6,lM]
  refine⟨Z.1,?_,λx V y Y=>?_⟩
  ·rw[Oz,fV]
   refine⟨λx V=>?_,Z.2.1⟩
   have q:=Z.2.2 l hl x V
   have H:x∈b:=by simpa using V
   have lx:lt l x=ae:=by
    rcases q.2 with q|q
    ·exact q
    ·have:=D.bc x H l hl;omega
   refine⟨W.kQ _ _ _ q.1 h',.inl ?_⟩
   induction q2:lt n x with
   |true=>rfl
   |false=>have:=W.kQ _ _ _ h' q2;exact tf (lx.symm.trans this)
  ·rcases cQ.mp Y with Y|Y
   ·obtain rfl:=(a_.1 Y).symm
    exact⟨c1 x V,.inr (D.cl x V)⟩
   ·exact Z.2.2 x V y Y
 ·rw[c6,kG]
  have G:=kG.mp D.nd
  refine⟨G.1,?_,λx V y Y e=>?_⟩
  ·rw[Oz,gK]
   refine⟨λV=>?_,G.2.1⟩
   have:=D.bl n (by simpa using V);exact gO _ this
  ·rcases cQ.mp Y with Y|Y
   ·have C:y=n:=a_.1 Y
    have:=D.cl x V;omega
   ·exact G.2.2 x V y Y e
theorem IS{N:Nat}{b c:List Nat}(hl:b.length+c.length=n)(q:Nat)(V:c.length=q+1):xF (c9 N n (b++c)).toArray (n-(q+1)) n=(c9 N n (b++c.reverse)).toArray:=by
 subst hl
 rw[<-V,zI]
 exact HY
inductive sm(lt:Nat->Nat->Bool)(N n:Nat)(r:Array Nat×Nat×Nat):Prop
 |mk (n' q' b' c':_) (e:r=((c9 N n' (b'++c')).toArray,n',q')) (ge:n<=n') (le:n'<=N) (hq:c'.length=q'+1) (D:lH lt n' b' c')
theorem sm.more{N:Nat}{r:Array Nat×Nat×Nat}(h:sm lt N (n+1) r):sm lt N n r:=let ⟨V,Y,W,c',e,ge,le,Z,D⟩:=h;⟨V,Y,W,c',e,bd ge,le,Z,D⟩
theorem UL(W:gh lt){N:Nat}(f n q:Nat)(b c:List Nat)(G:n+f=N)(Z:c.length=q+1)(D:lH lt n b c):sm lt N n (f9 lt (kas_desc f (c9 N n (b++c)).toArray n q)):=by
 induction f generalizing n q b c with
 |zero=>exact⟨n,q,b,c,rfl,bv _,bn G,Z,D⟩
 |succ f ih=>
  have V:=rX G
  have next:=λq b c=>ih (n+1) q b c (CP G)
  obtain⟨c',l,rfl⟩:=AP D.ne
  have hl:l∈c'++[l]:=o_ _ bi
  have Y:(b++c'++[l]).length=n:=by rw[c6,bR];exact D.len
  have g1:=Bs (N:=N) Y (bv _) V
  have g2:=A7 (N:=N) Y
  rw[c6] at g1 g2
  show sm lt N n (f9 lt (if lt ((c9 N n (b++(c'++[l]))).toArray.getD n 0) ((c9 N n (b++(c'++[l]))).toArray.getD (n-1) 0)=ae then _ else .ask ((c9 N n (b++(c'++[l]))).toArray.getD (n-1) 0) ((c9 N n (b++(c'++[l]))).toArray.getD n 0) _))
  rw[g1,g2]
  by_cases H:lt n l=ae
  ·rw[bo H]
   by_cases C:q>0
   ·rw[bo C,IS D.len q Z,pD V]
    exact(next 0 _ [n] rfl (D.down W hl H)).more
   ·rw[be C]
    have B:c'=[]:=lL.mp (Oj λh=>C (by exact pp (bR.symm.trans Z)▸h))
    subst B
    exact(pD V)▸((next 0 _ [n] rfl (D.down W hl H)).more)
  ·rw[be H]
   show sm lt N n (f9 lt (if lt l n=ae then _ else _))
   by_cases h2:lt l n=ae
   ·rw[bo h2]
    exact⟨n,q,b,c'++[l],rfl,bv _,bd V,Z,D⟩
   ·rw[be h2,pD V,c6]
    exact(next (q+1) b _ (IR Z) (D.same W hl (qR _▸H) (qR _▸h2))).more
end
section
variable {lt:Nat->Nat->Bool}
inductive sF(lt:Nat->Nat->Bool)(N:Nat)(r:Nat×Array Nat):Prop
 |mk (m a:_) (e:r=(m,(c9 N m a:_).toArray)) (h1:1<=m) (h2:m<=N) (S:dJ lt m a)
theorem dJ.Yt{b c:List Nat}(D:lH lt n b c):dJ lt n (c++b.reverse):=
 ⟨by simp only[bR,i',gP];exact D.len,λx V=>(cQ.mp V).elim (D.cl x) λh=>D.bl x (iM.mp h),D.pw,D.nd⟩
theorem IT{N:Nat}{a:List Nat}(hl:a.length=n):xF (c9 N n a).toArray 0 n=(c9 N n a.reverse).toArray:=by
 subst hl
 have:=HY (x:=[]) (y:=a) (z:=hZ a.length (N-a.length))
 simp only[wv,fq] at this
 exact this
theorem HZ{N:Nat}{a:List Nat}(Y:n<=m)(W:m<=N):c9 N n a=c9 N m (a++hZ n (m-n)):=by
 refine(qB Y).elim λd V=>?_;subst V
 obtain⟨t,rfl⟩:=qB W
 unfold c9
 rw[c6,k_,k_,vR,eK,k_]
theorem H0(W:gh lt){N:Nat}{a:List Nat}(V:1<=n)(Y:n<=N)(S:dJ lt n a.reverse):sF lt N (f9 lt (HN n N (c9 N n a).toArray)):=by
 unfold HN
 rw[rH,IT (i'.symm.trans S.len)]
 have A:=JH W (N:=N) (N-n) n a.reverse V (lO Y) S
 generalize f9 lt (BM (c9 N n a.reverse).toArray (N-n) n)=m at A
 exact⟨m,_,aQ (λl:List Nat=>(m,l.toArray)) (HZ A.ge A.le),aD V A.ge,A.le,A.M0⟩
theorem GQ(W:gh lt){N:Nat}{b:List Nat}(C:n+1<=N)(D:lH lt (n+1) b [n]):sF lt N (f9 lt (Gz n N (c9 N (n+1) (b++[n])).toArray)):=by
 unfold Gz
 rw[rH]
 obtain⟨m,q,B,c',e,ge,le,Z,H⟩:=UL W (N:=N) (N-(n+1)) (n+1) 0 b [n] (lO C) rfl D
 refine e▸?_
 have S:dJ lt m (B++c'.reverse).reverse:=by
  rw[E0,vS]
  exact .Yt H
 have G:1<=m:=aD (jB _ _) ge
 by_cases V:q>0
 ·rw[bo V,IS H.len q Z]
  exact H0 W G le S
 ·rw[be V]
  refine(EI.mp (Z.trans (aQ (·+1) (Oj V)))).elim λl Y=>?_;subst Y
  exact H0 W G le S
theorem gh.yL(W:gh lt)(a:Nat):lt a a=aH:=by
 induction q:lt a a with
 |false=>rfl
 |true=>exact q.symm.trans (W.sE _ _ q)
theorem gh.up(W:gh lt){a:Nat}(h:lt a c=ae)(h':lt b c=aH):lt a b=ae:=by
 induction q:lt a b with
 |true=>rfl
 |false=>exact(W.kQ _ _ _ q h').symm.trans h
theorem dJ.below(W:gh lt){a:List Nat}(S:dJ lt m a)(h:∀x∈a,lt m x=ae):lH lt (m+1) a.reverse [m]:=
 ⟨by rw[i',S.len];rfl,mM _ _,λx V=>lU (S.ju x (iM.mp V)),λx V=>a_.mp V▸gY _,λx V y Y=>a_.mp Y▸S.ju x (iM.mp V),λx V y Y=>by rw[a_.mp V,a_.mp Y];exact W.yL m,
  by rw[vS];exact fV.mpr ⟨λx V=>⟨W.sE _ _ (h x V),.inl (h x V)⟩,S.pw⟩,by rw[vS];exact gK.mpr ⟨λq=>gO _ (S.ju m q),S.nd⟩⟩
theorem To(W:gh lt){N:Nat}(B:1<=N):sF lt N (f9 lt (HO N (Rc (dM N)))):=by
 rw[show dM N=c9 N 1 [0] from List.range_eq_range'.trans (pD (n:=0) (a:=[]) B)]
 unfold HO
 rw[rH]
 have A:=JH W (N:=N) (N-1) 1 [0] (bv _) (lO B) ⟨rfl,λx V=>a_.mp V▸tN,mE _ _,mE _ _⟩
 generalize f9 lt (BM (c9 N 1 [0]).toArray (N-1) 1)=m at A
 obtain⟨ge,le,S,en⟩:=A
 refine(HZ ge le)▸?_
 by_cases G:(m==N)=ae
 ·rw[bo G];exact(⟨m,_,rfl,ge,le,S⟩:sF lt N (m,(c9 N m ([0]++hZ 1 (m-1))).toArray))
 ·rw[be G]
  have Y:m<N:=Pb le λe=>G (beq_iff_eq.mpr e)
  obtain⟨f,z,Z⟩:=AP (c:=[0]++hZ 1 (m-1)) nofun
  have H:lt m z=ae:=en Y z (by rw[Z,OQ];rfl)
  by_cases C:m>1
  ·rw[bo C]
   have g1:(c9 N m ([0]++hZ 1 (m-1))).toArray.getD (m-1) 0=z:=by exact Z▸(A7 (by exact Z▸S.len))
   show sF lt N (f9 lt (if lt 0 ((c9 N m ([0]++hZ 1 (m-1))).toArray.getD (m-1) 0)=ae then _ else _))
   rw[g1]
   by_cases q:lt 0 z=ae
   ·rw[bo q];exact(⟨m,_,rfl,ge,le,S⟩:sF lt N (m,(c9 N m ([0]++hZ 1 (m-1))).toArray))
   ·rw[be q,IT S.len,pD Y]
    refine GQ W Y (S.below W λx V=>W.up H (W.kQ _ 0 _ ?_ (qR _▸q)))
    rcases bT.mp V with rfl|V
    ·exact W.yL 0
    ·exact((fV.mp S.pw).1 x V).1
  ·rw[be C]
   obtain rfl:=lg (de.mp C) ge
   have H:lt 1 0=ae:=by cases List.append_inj_right' (show []++[0]=f++[z] from Z) rfl;exact H
   exact(pD Y)▸(GQ W Y (S.below W λx V=>a_.mp V▸H))
theorem half(h:i<j):i<=(i+j)/2/\(i+j)/2<j:=⟨(Nat.le_div_iff_mul_le wI).mpr (Nat.mul_two i▸fi (bd h) i),vT (RB j▸ON h j)⟩
structure yM(lt:Nat->Nat->Bool)(k:Nat)(a:List Nat)(m:Nat):Prop where
 le:m<=k
 lo:∀x∈a.take m,lt k x=aH
 hi:∀x∈a.drop m,lt k x=ae
theorem Tp(W:gh lt){N k:Nat}{a:List Nat}(hk:k<N)(S:dJ lt k a)(f l r:Nat)(C:r-l<=f)(Z:l<=r)(hr:r<=k)(B:∀x∈a.take l,lt k x=aH)(h2:∀x∈a.drop r,lt k x=ae):
 yM lt k a (f9 lt (AX (c9 N k a).toArray k f l r)):=by
 induction f generalizing l r with
 |zero=>
  obtain rfl:=lg Z (Nat.sub_eq_zero_iff_le.mp (Nat.le_zero.mp C))
  exact⟨hr,B,h2⟩
 |succ f ih=>
  show yM lt k a (f9 lt (if l>=r then .ret l else .ask ((c9 N k a).toArray.getD k 0) ((c9 N k a).toArray.getD ((l+r)/2) 0) _))
  by_cases G:l>=r
  ·rw[bo G]
   obtain rfl:=lg Z G
   exact⟨hr,B,h2⟩
  ·rw[be G]
   refine(half (kJ.mp G)).elim λH Y=>?_
   generalize (l+r)/2=d at H Y
   have hd:d<a.length:=S.len▸cg Y hr
   rw[Bs S.len (bv _) hk,Wv hd]
   have pw:=S.pw
   rw[<-kC d a,qz hd] at pw
   show yM lt k a (f9 lt (if lt k a[d]=ae then _ else _))
   by_cases q:lt k a[d]=ae
   ·rw[bo q]
    refine ih l d (pf (cg (OR H Y) C)) H (aD (bd Y) hr) B λx V=>?_
    rw[qz hd] at V
    rcases bT.mp V with rfl|V
    ·exact q
    ·exact W.up q ((fV.mp (lM.mp pw).2.1).1 x V).1
   ·rw[be q]
    refine ih (d+1) r (pf (cg (zw (aV H Y) (jY H)) C)) Y hr (λx V=>?_) h2
    rw[List.take_succ_eq_append_getElem hd] at V
    rcases cQ.mp V with V|V
    ·exact W.kQ _ _ _ (qR _▸q) ((lM.mp pw).2.2 x V _ bi).1
    ·exact a_.mp V▸(qR _▸q)
theorem dJ.put(W:gh lt){k:Nat}{a:List Nat}(S:dJ lt k a)(P:yM lt k a m):dJ lt (k+1) (a.take m++k::a.drop m):=by
 have e:=kC m a
 have G:∀x∈a,x<k+1:=λx V=>lU (S.ju x V)
 have len:=aQ gm e
 rw[bR] at len
 have Z:=lM.mp (e.symm▸S.pw)
 have H:=kG.mp (e.symm▸S.nd)
 have C:∀x∈a,x≠k:=λx V=>eC (S.ju x V)
 refine⟨?_,λx V=>?_,lM.mpr ⟨Z.1,fV.mpr ⟨λy Y=>⟨W.sE _ _ (P.hi y Y),.inl (P.hi y Y)⟩,Z.2.1⟩,λx V y Y=>?_⟩,kG.mpr ⟨H.1,gK.mpr ⟨λh=>C k (vU h) rfl,H.2.1⟩,λx V y Y=>?_⟩⟩
 ·simp only[bR,gj,<-eK,len,S.len]
 ·rcases cQ.mp V with V|V
  ·exact G x (mF V)
  ·rcases bT.mp V with rfl|V
   ·exact gY _
   ·exact G x (vU V)
 ·rcases bT.mp Y with rfl|Y
  ·exact⟨P.lo x V,.inr (S.ju x (mF V))⟩
  ·exact Z.2.2 x V y Y
 ·rcases bT.mp Y with rfl|Y
  ·exact C x (mF V)
  ·exact H.2.2 x V y Y
theorem RN{N k:Nat}{a:List Nat}(Y:k<N)(hl:a.length=k)(V:m<=k):bubble (c9 N k a).toArray k (k-m)=(c9 N (k+1) (a.take m++k::a.drop m)).toArray:=by
 have h:=Rr (u:=a.take m) (v:=a.drop m) (e:=k) (w:=hZ (k+1) (N-(k+1)))
 simp only[EJ (hl▸V),qT,hl,lO V,kC] at h
 unfold c9
 rw[Do Y,Fz]
 exact h
theorem JI(W:gh lt){N:Nat}(f k:Nat)(a:List Nat)(V:k+f=N)(S:dJ lt k a):∃b,f9 lt (kas_bin f (c9 N k a).toArray k)=b.toArray/\dJ lt N b:=by
 induction f generalizing k a with
 |zero=>
  subst V
  exact⟨a,by show (a++hZ k (k-k)).toArray=_;rw[tL];exact aQ _ (cR a),S⟩
 |succ f Y=>
  have P:=Tp W (rX V) S k 0 k (rr _ _) (ck _) (bv _) nofun (by rw[Ol (bn S.len)];nofun)
  show ∃b,f9 lt ((AX (c9 N k a).toArray k k 0 k).bind _)=_/\_
  rw[rH,RN (rX V) S.len P.le]
  exact Y (k+1) _ (CP V) (S.put W P)
theorem IU(W:gh lt){N:Nat}(Y:1<=N):∃b,f9 lt (IH N)=b.toArray/\dJ lt N b:=by
 unfold IH
 rw[rH]
 obtain⟨m,a,e,Z,V,S⟩:=To W Y
 refine e▸?_
 by_cases h:m<N
 ·rw[bo h,P_ Z]
  exact JI W (N-m) m a (lO V) S
 ·rw[be h]
  obtain rfl:=lg V (de.mp h)
  exact JI W 0 _ a rfl S
theorem Tq{b l:List Nat}(h:b.Nodup)(hs:∀x∈b,x∈l):b.length<=l.length:=by
 induction b generalizing l with
 |nil=>exact ck _
 |cons x b W=>
  have h:=gK.mp h
  have V:=hs x bi
  exact aD (nM ((EH V)▸(W (l:=l.erase x) h.2 λy Y=>(EU (λe=>h.1 (by exact e▸Y))).mpr (hs y (bM _ Y))))) (bn (v7 (EK V)))
theorem dJ.perm{N:Nat}{b:List Nat}(S:dJ lt N b):b.Perm (dM N):=by
 refine(EC S.nd zV).mpr λx=>⟨λV=>gk.mpr (S.ju x V),λV=>ba λh=>?_⟩
 have W:=Tq (b:=x::b) (l:=dM N) (gK.mpr ⟨h,S.nd⟩) λy Y=>(bT.mp Y).elim (λe=>e▸V) λY=>gk.mpr (S.ju y Y)
 simp only[kF,gj,S.len] at W
 exact gO _ W
end
noncomputable def jv{α:Type}(N:Nat)(R:α->Prop):sB α->Prop
 |.ret a=>R a
 |.ask i j k=>i<N/\j<N/\∀b,jv N R (k b)
theorem jv.bind{N:Nat}{R:α->Prop}{R':β->Prop}{f:α->sB β}:∀{t:sB α},jv N R t->(∀a,R a->jv N R' (f a))->jv N R' (t.bind f)
 |.ret a,h,V=>V a h
 |.ask i j k,h,V=>⟨h.1,h.2.1,λb=>jv.bind (h.2.2 b) V⟩
def gX(N:Nat)(p:Array Nat):Prop:=∀x∈p.toList,x<N
section
variable {N:Nat} {p:Array Nat}
theorem gX.get(h:gX N p)(V:0<N)(k:Nat):p.getD k 0<N:=by
 rw[NW]
 induction q:p[k]? with
 |none=>exact V
 |some x=>exact h x (by simpa using Array.mem_of_getElem? q)
theorem gX.perm{q:Array Nat}(h:gX N p)(V:q.Perm p):gX N q:=λx Y=>h x ((Array.perm_iff_toList_perm.mp V).mem_iff.mp Y)
theorem gX.rev(h:gX N p)(i j:Nat):gX N (xF p i j):=h.perm (mirror_perm _ _ _ _)
theorem Co(V:0<N)(h:gX N p):∀f n,jv N (λ_=>True) (BM p f n)
 |0,n=>trivial
 |f+1,n=>⟨h.get V _,h.get V _,λb=>by
  induction b with
  |true=>exact trivial
  |false=>exact Co V h f (n+1)⟩
theorem xI(V:0<N):∀f (p:Array Nat) n q,gX N p->jv N (λr:Array Nat×Nat×Nat=>gX N r.1) (kas_desc f p n q)
 |0,p,n,q,h=>h
 |f+1,p,n,q,h=>⟨h.get V _,h.get V _,λb=>by
  induction b with
  |true=>
   split
   ·exact xI V f _ _ _ (h.rev _ _)
   ·exact xI V f _ _ _ h
  |false=>
   refine⟨h.get V _,h.get V _,λd=>?_⟩
   induction d with
   |true=>exact h
   |false=>exact xI V f _ _ _ h⟩
theorem IV(V:0<N)(h:gX N p)(n m:Nat):jv N (λr:Nat×Array Nat=>gX N r.2) (HN n m p):=(Co V (h.rev _ _) _ _).bind λ_ _=>h.rev _ _
theorem G7(V:0<N)(h:gX N p)(n m:Nat):jv N (λr:Nat×Array Nat=>gX N r.2) (Gz n m p):=(xI V _ p _ _ h).bind λr hr=>by
 split
 ·exact IV V (gX.rev hr _ _) _ _
 ·exact IV V hr _ _
theorem UM(V:0<N)(h:gX N p)(m:Nat):jv N (λr:Nat×Array Nat=>gX N r.2) (HO m p):=(Co V h _ _).bind λn _=>by
 split
 ·exact h
 ·split
  ·refine⟨h.get V _,h.get V _,λb=>?_⟩
   induction b with
   |true=>exact h
   |false=>exact G7 V (h.rev _ _) _ _
  ·exact G7 V h _ _
theorem Bt(V:0<N)(h:gX N p)(k:Nat):∀f l r,jv N (λ_=>True) (AX p k f l r)
 |0,l,r=>trivial
 |f+1,l,r=>by
  dsimp only[AX]
  split
  ·exact trivial
  ·refine⟨h.get V _,h.get V _,λb=>?_⟩
   induction b with
   |true=>exact Bt V h k f _ _
   |false=>exact Bt V h k f _ _
theorem Kx(V:0<N):∀f (p:Array Nat) k,gX N p->jv N (λ_=>True) (kas_bin f p k)
 |0,p,k,h=>trivial
 |f+1,p,k,h=>(Bt V h k _ _ _).bind λl _=>Kx V f _ _ (h.perm (bubble_perm _ _ _))
theorem JJ(V:0<N):jv N (λ_=>True) (IH N):=(UM V (p:=Rc (dM N)) (λx Y=>by simpa using Y) N).bind λr hr=>by
 split
 ·exact Kx V _ _ _ hr
 ·exact trivial
end
structure f4(aw:av)(a:ag)(af:List ai)(s:av)(g:aY):Prop where
 new:aw.heap.get? a=ak
 off:g a=ak
 at_:∃n,s.heap.get? a=aa (seqObj "list" af.toArray n)
structure SA(w:a9)(aw:av)(aE:aY)(s:av)(g:aY):Prop where
 gT:St w aw aE
 nx:Nx [] aw aE s g
 st:St w s g
section
variable {w:a9} {aw s s':av} {aE g g':aY}
theorem SA.step(X:SA w aw aE s g)(N:Nx [] s g s' g')(S:St w s' g'):SA w aw aE s' g':=⟨X.gT,X.nx.trans N,S⟩
theorem f4.step{af:List ai}(O:f4 aw a af s g)(S:St w s g)(N:Nx [] s g s' g'):f4 aw a af s' g':=by
 refine O.at_.elim λn e=>?_
 exact⟨O.new,N.old _ _ e O.off (by simp),n,N.get S e (.inl (by simp)) (by simp)⟩
theorem SA.set(X:SA w aw aE s g){af:List ai}(O:f4 aw a af s g)(f:Array ai->Array ai):
 SA w aw aE {s with heap:=s.heap.update a (jc f),toks:=tk} g/\f4 aw a (f af.toArray).toList {s with heap:=s.heap.update a (jc f),toks:=tk} g/\
  ∀b V,b≠a->f4 aw b V s g->f4 aw b V {s with heap:=s.heap.update a (jc f),toks:=tk} g:=by
 refine O.at_.elim λn e=>?_
 have H:=gH s.heap a (jc f)
 refine(St.changes (mt:=[a]) (h':=s.heap.update a (jc f)) (tk:=tk) X.gT X.st X.nx dq.nil (λb Y=>by
  have:b=a:=a_.1 Y
  subst this
  exact⟨.inl O.new,O.off,_,e,cV.of λvs q=>by cases q⟩) (λb o Y W=>(H.2 b (by simpa using Y)).trans W)).elim λN G=>?_
 refine⟨⟨X.gT,X.nx.over N λb Y=>?_,G⟩,⟨O.new,O.off,(if (f af.toArray).size==af.toArray.size then n else n+1),?_⟩,λb V Y Z=>?_⟩
 ·have:b=a:=a_.1 Y
  subst this;exact .inl O.new
 ·have:=FP e f
  exact this
 ·refine Z.at_.elim λC W=>?_
  exact⟨Z.new,Z.off,C,(H.2 b Y).trans W⟩
theorem SA.push(X:SA w aw aE s g)(o:Obj):SA w aw aE {s with heap:=s.heap.push o,toks:=tk} g/\∀b V,f4 aw b V s g->f4 aw b V {s with heap:=s.heap.push o,toks:=tk} g:=by
 refine(X.st.ext' (h':=s.heap.push o) (tk:=tk) λb W e=>bZ _ e).elim λN Y=>?_
 exact⟨X.step N Y,λb V O=>O.step X.st N⟩
theorem SA.newList(X:SA w aw aE s g)(af:List ai):f4 aw s.heap.objs.size af {s with heap:=s.heap.push (seqObj "list" af.toArray 0),toks:=tk} g:=by
 have V:=h_ X.st (a:=s.heap.objs.size) (bv _)
 refine⟨?_,V.2,0,cB _ rfl⟩
 induction q:aw.heap.get? s.heap.objs.size with
 |none=>rfl
 |some o=>obtain⟨W,Y⟩:=X.nx.there _ _ q (ca);exact ns (V.1.symm.trans Y)
theorem A8{N:Nat}{R:α->Prop}{Nz:Nat->Nat->(Bool->av->Prop)->av->Prop}{lt:Nat->Nat->Bool}(h:∀i j C,i<N->j<N->C (lt i j) s->Nz i j C s){Q:α->av->Prop}:∀t:sB α,jv N R t->Q (f9 lt t) s->t.kasWp Nz Q s
 |.ret a,_,V=>V
 |.ask i j k,Y,V=>h i j _ Y.1 Y.2.1 (A8 h (k (lt i j)) (Y.2.2 _) V)
end
noncomputable def ltZ(kz:List Int)(i j:Nat):Bool:=decide (kz.getD i 0<kz.getD j 0)
theorem Ky(kz:List Int):gh (ltZ kz):=⟨λa b h=>by simp[ltZ] at*;exact du h,λa b c h h'=>by simp[ltZ] at*;exact dh h' h⟩
theorem GR{ns:List Int}(h:IntsAre vs ns)(hi:i<vs.length):∃t,vs.getD i fD=.int (ns.getD i 0) t:=by
 induction h generalizing i with
 |nil=>exact aZ hi (z6 _)
 |cons n t h V=>
  induction i with
  |zero=>exact⟨t,rfl⟩
  |succ i _=>exact V (Oi hi)
section
variable {w:a9} {A:bN} {E:ai->av->Prop} {aw s:av} {aE g:aY}
theorem m8(h:n<64):n<=sizeLine:=py▸bd (eO h (by simp))
theorem H6{lt:Nat->Nat->Bool}(h:n<2):dJ lt n (dM n):=⟨kF,λ_=>gk.mp,by
 induction n with
 |zero=>exact .nil
 |succ n=>induction n with
  |zero=>exact mE _ _
  |succ n=>exact aZ h (de.mpr (jB 2 n)),zV⟩
theorem Ae:∀vs:List ai,((dM vs.length).map λi=>vs.getD i fD)=vs
 |[]=>rfl
 |v::vs=>by
  simp only[gj,List.range_succ_eq_map,d8,cJ]
  exact aQ (v::·) (Ae vs)
theorem H7{V:List ai}(hl:V.length=vs.length):(V.toArray.zip vs.toArray).map (·.2)=((dM vs.length).map λi=>vs.getD i fD).toArray:=by
 simp only[List.zip_toArray,List.map_toArray,FA (bn hl.symm),Ae]
theorem Wy{D f:ag}{e1:Nat}{V:List ai}{P:t0->av->Prop}(X:SA w aw aE s g)(hD:s.heap.get? D=aa (seqObj "list" #[] e1))(OD:f4 aw D [] s g)(OK:f4 aw f V s g)(e_:D≠f)
 (hk:IntsAre V kz)(hl:V.length=vs.length)(B:vs.length<64)
 (h:∀s' (b:List Nat),dJ (ltZ kz) vs.length b->SA w aw aE s' g->f4 aw D (b.map λi=>vs.getD i fD) s' g->P (.done (.ret .none)) s'):
 wpAny (model PG w) A (ksk_end D aH vs.toArray e1 (.ref f) V.toArray) P E s:=by
 have vj:∀(st:SortSt) (b:List Nat),dJ (ltZ kz) vs.length b->(arrOf st).map (·.2)=(b.map λi=>vs.getD i fD).toArray->failedOf st=ak->wpAny (model PG w) A (ksk_tail D aH e1 (.ref f) st) P E s:=λst b hS DM hf=>by
  refine OK.at_.elim λnk ek=>?_
  have Y:=X.set OK (λ_=>#[]) (tk:=s.toks)
  have Z:=Y.1.set (Y.2.2 D _ e_ OD) (λ_=>(b.map λi=>vs.getD i fD).toArray) (tk:=s.toks)
  have M1:=((gH s.heap f (jc λ_=>(#[]:Array ai))).2 D e_).trans hD
  delta ksk_tail
  rw[DM,hf]
  refine aJ (tI ek rfl (xG (aJ (AD M1 rfl (aJ (tI M1 rfl ?_ (ck _) (wb (m8 (aV (bn ((aR _).trans hS.len)) B)))))))) (m8 (aV (bn hl) B)) (ck _))
  rw[bne_self_eq_false]
  exact a8 (h _ b hS Z.1 Z.2.1)
 delta ksk_end
 by_cases h2:vs.length<2
 ·have W:vs.toArray.size<2:=h2
  rw[be nofun,bo W,bo W]
  exact fZ (fZ (vj _ _ (H6 h2) (H7 hl) rfl))
 ·have W:¬vs.toArray.size<2:=h2
  have n2:=de.mp h2
  rw[be nofun,be W,be W,ksk_kind hk (aD n2 (bn hl.symm))]
  obtain⟨b,hb,hS⟩:=IU (Ky kz) (qK n2)
  refine fZ (aJ (bg (kat_run (Q:=λH s'=>s'=s/\∃p:Array Nat,p=b.toArray/\arrOf H=p.map (kas_item (V.toArray.zip vs.toArray))/\failedOf H=ak) (G:=λp s'=>p=b.toArray/\s'=s) (ks:=V) (κ:=oneType')
   hl n2 B (λp' H s' a1 a2 a3 a4=>⟨a4.2,p',a4.1,a2,a3⟩) ?_) ?_))
  ·refine A8 (lt:=ltZ kz) (λi j C hi hj hC=>?_) _ (JJ (qK n2)) ⟨hb,rfl⟩
   obtain⟨ti,ei⟩:=GR hk (hl▸hi:i<V.length)
   obtain⟨tj,ej⟩:=GR hk (hl▸hj:j<V.length)
   show wpAny _ _ (keyLt' oneType' (V.getD i fD) (V.getD j fD)) C (λ_ _=>False) s
   exact ei▸ej▸kat_lt_int hC
  ·rintro⟨⟨⟩,H⟩ s' ⟨rfl,p,rfl,Ei,hf⟩
   exact vj H b hS (kat_snds hl Ei) hf
theorem SA.lv{bz:List ag}{V:av->aY->Prop}(X:SA w aw aE s g)(h:V aw aE)(Y:∀mu s g s' g',(∀a∈mu,a∉bz)->V s g->St w s g->Nx mu s g s' g'->V s' g'):V s g:=Y [] aw aE s g (fU) h X.gT X.nx
inductive KInv(w:a9)(aw:av)(aE g:aY)(Da kS:ag)(e1:Nat)(kz:List Int)(i:Nat)(s':av):Prop
 |mk (g' MM:_) (X:SA w aw aE s' g') (up:∀a o,g a=aa o->g' a=aa o) (hD:s'.heap.get? Da=aa (seqObj "list" #[] e1)) (O:f4 aw Da [] s' g') (OK:f4 aw kS MM s' g') (hk:IntsAre MM (kz.take i))
theorem Tr{Da q:ag}{ds:List D}{bz:List ag}{P:t0->av->Prop}(X:SA w aw aE s g)(OD:f4 aw Da vs s g)(R:Rm 60 A)(r:aP w g vs ds)(C:vs.length<64)
 (hf:∀ab,cU w aw aE ab (.ref q) bz (.fn bz φ))(kY:kz.length=ds.length)(hk:∀(i:Nat) (d:D) (k:Int),ds[i]?=aa d->kz[i]?=aa k->φ d=aa (.int k))
 (h:∀s' g' (b:List Nat),dJ (ltZ kz) vs.length b->SA w aw aE s' g'->(∀a o,g a=aa o->g' a=aa o)->f4 aw Da (b.map λi=>vs.getD i fD) s' g'->P (.done (.ret .none)) s'):
 wpAny (model PG w) A (ksk_tree Da (.ref q) aH) P E s:=by
 refine ba λNG=>?_
 refine(hf (newEnv {kind:=fu,names:=[],isGenerator:=aH,isCoroutine:=aH} 0 0 [] "" ak .none ak 0)).2.elim λLv F=>?_
 have kl:kz.length=vs.length:=kY.trans r.1.symm
 obtain⟨nD,eD⟩:=OD.at_
 have Y:=X.set OD (λ_=>#[]) (tk:=s.toks)
 obtain⟨e1,h1⟩:=Y.2.1.at_
 have Y2:=Y.1.push (seqObj "tuple" vs.toArray 0) (tk:=s.toks)
 have Y3:=Y2.1.push (seqObj "list" #[] 0) (tk:=s.toks)
 have h2:=bZ (seqObj "tuple" vs.toArray 0) h1
 refine NG ?_
 delta ksk_tree
 refine aJ (GA eD rfl (aJ (tI eD rfl (aJ (AD h1 rfl (wW (t_ (eM ?_) (ck _)) (m8 C)))) (m8 C) (ck _))))
 refine(?_:∀(kS:ag) (s3:av),Da≠kS->SA w aw aE s3 g->f4 aw Da [] s3 g->s3.heap.get? Da=aa (seqObj "list" #[] e1)->f4 aw kS [] s3 g->wpAny (model PG w) A (ksk_rest Da (.ref q) aH vs.toArray e1 (.ref kS)) P E s3) _ _ (eC (cq h2)) Y3.1 (Y3.2 _ _ (Y2.2 _ _ Y.2.1)) (bZ _ h2) (Y2.1.newList [])
 intro kS s3 e_ X3 O3 h3 OK3
 delta ksk_rest
 refine kg ?_
 rw[List.forIn_toArray]
 refine aJ (ksk_fold (KInv w aw aE g Da kS e1 kz) vs 0 _ ⟨g,[],X3,λ_ _ e=>e,h3,O3,OK3,.nil⟩ (λj x s' hx I=>?_) λs' I=>?_)
 ·rw[fq] at I⊢
  refine ba λNG=>?_
  obtain⟨g',W,G,up,DV,O',H,V⟩:=I
  obtain⟨d,hd,rd⟩:=r.get hx
  have hj:j<kz.length:=kY▸(ez.mp hd).1
  have NA:=dt hj
  have lk:W.length<64:=aV (aD (bn (V.length.trans (gJ ..))) (wm _ _)) (eO (kl▸hj) C)
  refine NG ?_
  refine aJ (wE (er (F.2.fv A s' g' x d (.int kz[j]) (F.2.st [] aw aE s' g' nofun F.1 G.gT G.nx) G.st R (rd.mono up) (hk j d _ hd NA) (λ_ _=>False)) (λv s0 o=>?_) λ_ _ hF=>hF.elim))
  refine ba λNG=>?_
  obtain⟨g'',d',N,S'',rv,rfl⟩:=o
  obtain⟨t,rfl⟩:=rv.int_inv
  obtain⟨nk,ek⟩:=(H.step G.st N).at_
  have Z:=(G.step N S'').set (H.step G.st N) (·.push (.int kz[j] t)) (tk:=s0.toks)
  refine NG ?_
  exact aJ (tI ek rfl (a8 ⟨rfl,g'',W++[.int kz[j] t],Z.1,λa o e=>N.gg _ _ (up _ _ e),((gH s0.heap kS (jc (·.push (.int kz[j] t)))).2 Da e_).trans (N.get G.st DV (.inl nofun) nofun),Z.2.2 _ _ e_ (O'.step G.st N),
   by simpa using Z.2.1,by simp only[lQ,NA];exact ksk_snoc V⟩) (m8 lk) (aD (bn (Qa ..)) (nM (m8 lk))))
 ·refine ba λNG=>?_
  obtain⟨g',W,G,up,DV,O',H,V⟩:=I
  rw[fq,la (bn kl)] at V
  obtain⟨nk,ek⟩:=H.at_
  refine NG ?_
  exact aJ (GA ek rfl (Wy G DV O' H e_ V (V.length.trans kl) C λs0 b hS Y OY=>h s0 g' b hS Y up OY))
end
section
variable {n:Nat} {k:D->Prop}
theorem sD.sorted{ds:List D}(C:ds.length<64)(hn:70<=n)(kY:kz.length=ds.length)(hk:∀(i:Nat) (d:D) (k:Int),ds[i]?=aa d->kz[i]?=aa k->φ d=aa (.int k))
 (h:∀b:List Nat,dJ (ltZ kz) ds.length b->k (.lst (b.map λi=>ds.getD i .none))):sD n (.builtin "sorted") [.lst ds] φ k:=.mk λw A s g vs kf bz S R r hf E=>by
 obtain⟨v,rfl,W⟩:=r.one
 obtain⟨l,nn,B,rfl,hg,rl⟩:=W.lst_inv
 have hL:s.heap.IsList l B.toList.toArray:=⟨_,S.sub _ _ hg,rfl,nn,by simp⟩
 have acB:Env:=newEnv {kind:=fu,names:=[],isGenerator:=aH,isCoroutine:=aH} 0 0 [] "" ak .none ak 0
 obtain⟨q,rfl⟩:∃q,kf=.ref q:=by
  obtain⟨_,Lv,_,_,_,f,e,_⟩:=hf acB
  exact⟨f,e⟩
 have V:=rl.1
 generalize B.toList=vs at hL rl V
 refine call_function_entry_kw GZ GB GC (ksk_s1 _ _) ?_
 unfold Builtin.«sorted»
 refine aJ (m:=Hf "sorted" 1 1 _) (a8 ?_)
 refine aJ (collect_list hL ?_ (by rw[py];exact bd (eO (aV (bn V) C) (lT tT))))
 refine t_ ?_ (by rw[py];exact bd (eO (aV (bn V) C) (lT tT)))
 have X0:SA w s g s g:=⟨S,Nx.refl _ _ _,S⟩
 obtain⟨X1,_⟩:=X0.push (seqObj "list" #[] 0) (tk:=s.toks)
 have O1:=X0.newList [] (tk:=s.toks)
 obtain⟨X2,_,_⟩:=X1.set O1 (·++vs.toArray) (tk:=s.toks)
 have eU:((s.heap.push (seqObj "list" #[] 0)).update s.heap.objs.size (jc (·++vs.toArray))).objs.size=s.heap.objs.size+1:=by rw[PT,size_push']
 refine(X2.push (seqObj "list" vs.toArray 0) (tk:=s.toks)).elim λX3 _=>?_
 have O3:=X2.newList vs (tk:=s.toks)
 rw[eU] at O3
 show wpAny _ _ _ _ _ {s with heap:=((s.heap.push (seqObj "list" #[] 0)).update s.heap.objs.size (jc (·++vs.toArray))).push (seqObj "list" vs.toArray 0)}
 refine eU▸?_
 refine O3.at_.elim λ_ sS=>?_
 refine aJ (eM (wpAny_call_entry_kw F9 ⟨_,sS,rfl⟩ FQ ?body (ksk_l1 _ _)))
 case body=>
  refine Tr X3 O3 (Rm.le (n:=60) ⟨by have:=R.1;simp;exact Zn (by assumption) (by assumption),by have:=R.2.1;simp;exact Zo (by assumption) (by assumption),R.2.2⟩ (bv _)) rl (aV (bn V) C) hf kY hk λs' g' b hS Y up OY=>?_
  refine⟨_,rfl,a8 ⟨_,rfl,?_⟩⟩
  refine OY.at_.elim λn' e'=>?_
  obtain⟨F1,F2⟩:=Y.st.freeze (n:=s.heap.objs.size+1) e' OY.off (Y.st.dQ (a:=s.heap.objs.size+1) e' (.inl (by simp)))
  have rb:aP w g' (b.map λi=>vs.getD i fD) (b.map λi=>ds.getD i .none):=by
   refine⟨by simp,λj v d W G=>?_⟩
   rw[ci] at W G
   induction hb:b[j]? with
   |none=>exact ns (hb▸W)
   |some i=>
    rw[hb] at W G
    have hi:i<vs.length:=hS.ju i (c5 hb)
    simp at W G
    rw[dt hi] at W
    rw[dt (cg hi (bn V):i<ds.length)] at G
    simp at W G
    exact(rl.2 i v d ((dt hi).trans (aQ _ W)) ((dt (cg hi (bn V):i<ds.length)).trans (aQ _ G))).mono up
  refine⟨_,_,⟨Y.nx.keep,Y.nx.there,λa o e=>F2 _ _ (Y.nx.gg _ _ e),λa o e e' _=>?_,Y.nx.os⟩,F1,.lst _ n' _ (b.map λi=>ds.getD i .none) (g5 _ _ _) (by simp) λj v d W G=>(rb.2 j v d (by exact W) G).mono F2,h b (by exact V▸hS)⟩
  exact(fE _ _ _ (λq=>by rw[q,OY.new] at e;exact ns e)).trans (Y.nx.old a o e e' (nofun))
end
section
variable {n:Nat} {sc:bf} {ρ:ay}
theorem bH.Yu{l m r:au}{o1 o2:oq}{k:Bool->Prop}(h:aj n sc ρ l λa=>aj n sc ρ m λb=>bq n o1 a b λc=>if c then aj n sc ρ r λd=>bq n o2 b d k else k aH)(hm:lastMarks [o1,o2] [m,r]=aH):bH n sc ρ (iQ l [o1,o2] [m,r] aM) k:=.mk λw A ab s g S R V E=>by
 refine isTrue_chain (h.wp S R V λa aA aN da Z H mr iZ=>test_link ?_) hm
 have V1:=V.step Z S
 refine iZ.wp H R V1 λb aT bb db Y G C gd=>?_
 refine bg (gd.run w A aT bb a b G R (mr.mono Y.gg) C E) (λc kX ⟨t,ii,e,W,B,hk⟩=>?_)
 subst e
 refine nJ ?_
 induction t with
 |false=>exact⟨ii,((Z.trans Y).trans W),B,hk⟩
 |true=>
  refine test_last ((hk:aj n sc ρ r λd=>bq n o2 db d k).wp B R ((V1.step Y H).step W G) λv oV m7 dd f m6 Dp MN=>?_)
  refine bg (MN.run w A oV m7 b v m6 R ((C.mono W.gg).mono f.gg) Dp E) (λc adD ⟨t,acC,e,qc,uU,hk⟩=>?_)
  subst e
  exact nJ ⟨acC,(((Z.trans Y).trans W).trans f).trans qc,uU,hk⟩
theorem Hm:∀{l:List (Str×D)} {es:List dy},es.length=l.length->(∀(i:Nat) (e:dy) (x:Str) (d:D),es[i]?=aa e->l[i]?=aa (x,d)->∃t,e.key=.str x t)->
 x9 (strKind PG w) es (GD (λ(p:Str×D) (e:dy)=>(p.1,e.val)) l es)/\(GD (λ(p:Str×D) (e:dy)=>(p.1,e.val)) l es).map (·.1)=l.map (·.1)/\(GD (λ(p:Str×D) (e:dy)=>(p.1,e.val)) l es).map (·.2)=es.map (·.val)
 |[],[],_,_=>⟨.nil,rfl,rfl⟩
 |p::l,e::es,hl,h=>by
  obtain⟨a,b,c⟩:=Hm (l:=l) (es:=es) (by simpa using hl) λi e x d V Y=>h (i+1) e x d V Y
  refine(h 0 e p.1 p.2 rfl rfl).elim λt W=>?_
  refine⟨.cons ?_ rfl a,aQ _ b,aQ _ c⟩
  show gl p.1 e.key=ae
  rw[W];simp[gl]
 |[],_::_,hl,_=>by simp at hl
 |_::_,[],hl,_=>by simp at hl
theorem uC{l:List (Str×D)}(S:St w s g)(h:Rep w g v (.cO l)):
 ∃a n es,v=.ref a/\g a=aa {cls:=aK "dict",data:=.dict es n}/\a≠gp/\(∃bh:List (Str×ai),s.heap.DictAt (strKind PG w) a bh n/\bh.map (·.1)=l.map (·.1)/\aP w g (bh.map (·.2)) (l.map (·.2))):=by
 obtain⟨a,n,es,rfl,B,W,h3,f,h5⟩:=h.JB
 obtain⟨p1,p2,p3⟩:=Hm (w:=w) W λi e x d V Y=>(f i e x d V Y).1
 refine⟨a,n,es,rfl,B,h3.2,_,⟨_,es,S.sub _ _ B,⟨rfl,rfl,rfl⟩,rfl,λe he=>?_,p1,p2▸h3.1⟩,p2,?_⟩
 ·obtain⟨i,hi,rfl⟩:=zs.mp he
  have Z:i<l.length:=by exact W▸hi
  refine(f i es[i] l[i].1 l[i].2 (by simp[hi]) (by simp[Z])).elim λH hh=>H.elim λt ht=>?_
  refine⟨l[i].1,?_,hh⟩
  show gl l[i].1 _=ae
  rw[ht];simp[gl]
 ·rw[p3]
  refine⟨by simpa using W,λi v d V Y=>?_⟩
  rw[ci] at V Y
  induction G:es.toList[i]? with
  |none=>rw[G] at V;exact ns V
  |some e=>
   induction C:l[i]? with
   |none=>rw[C] at Y;exact ns Y
   |some p=>
    rw[G] at V;rw[C] at Y;obtain rfl:=aW V;obtain rfl:=aW Y
    exact h5 i e p.1 p.2 G C
theorem bK.dictKeys{t:au}{k:List D->Prop}(h:aj n sc ρ e λd=>∃l:List (Str×D),d=.cO l/\l.length<=10000/\k (l.map λp=>.str p.1)):bK n sc ρ t e k:=.of λw A ab s g S R V E=>
 bg (h.run w A ab s g S R V E) (λv aA Z=>by
  refine ba λN_=>?_
  obtain⟨aN,d,H,Y,G,l,hd,hl,hk⟩:=Z
  subst hd
  obtain⟨a,nn,es,rfl,hg,C,bh,hD,e1,e2⟩:=uC Y G
  apply N_
  have hz:bh.length=(l.map λp=>D.str p.1).length:=by
   have:=aQ gm e1;simpa using this
  refine wpAny_pyIter_dict (beq_false_of_ne C) hD ?_
  have hI:a≠aA.heap.objs.size:=λe=>by have:=Y.sub _ _ hg;rw[e,lj] at this;exact ns this
  have W:=Walks.dictKeys (prog:=PG) (w:=w) (knd:=strKind PG w) R.2.2 aA.heap.objs.size a hI bh nn
  replace W:=hz▸W
  refine(iT.one (qr:=[a]) Y (by simp) rfl (dz.of W (λi v d hi Z=>Z.elim λx Z=>Z.elim λu Z=>Z.elim λhx hv=>?_) (λi h ⟨⟨o,B,hc,hd⟩,_⟩ b f=>?_) λi h ⟨⟨o,B,hc,hd⟩,_⟩=>⟨o,"dict_keyiterator",_,B,hc,hd,rfl⟩) ?_ (λb f=>?_) (by simpa using hl) hk).trans H
  ·obtain⟨tk,rfl⟩:=O5 hv
   have e3:(bh.map (·.1))[i]?=aa x:=by rw[ci,hx];rfl
   rw[e1,ci] at e3
   rw[ci] at hi
   induction q:l[i]? with
   |none=>rw[q] at hi;exact ns hi
   |some p=>
    rw[q] at hi e3;obtain rfl:=aW hi;obtain rfl:=aW e3
    exact .str _ _
  ·have:b=aA.heap.objs.size:=a_.1 f
   subst this
   exact⟨o,B,λvs q t e e'=>by replace e:=hd▸e;cases e;cases e'⟩
  ·refine⟨?_,hD.keep λb o e=>bZ _ e⟩
   rw[<-hz]
   exact⟨_,cB _ rfl,rfl,rfl⟩
  ·have:b=a:=a_.1 f
   subst this;exact⟨_,hg⟩)
end
set_option genInjectivity false in
structure c_ where
 x0:Int
 x1:Int
 h0:Int
 h1:Int
noncomputable def jQ(s:c_):D:=.tup [.int s.x0,.int s.x1,.int s.h0,.int s.h1]
noncomputable abbrev b0:=List (Str×c_)
variable {ss:b0}
def jh(ss:b0):D:=.cO (ss.map λp=>(p.1,jQ p.2))
noncomputable def dS(s:c_):List Int:=(dM (s.x1-s.x0+1).toNat).map λi:Nat=>s.x0+(i:Int)
noncomputable def pairD(p:Int×Int):D:=.tup [.int p.1,.int p.2]
def ic(ss:b0)(hs:Str->Int->Int×Int):D:=.cO (ss.map λp=>(p.1,.eu ((dS p.2).map λc=>(c,pairD (hs p.1 c)))))
noncomputable def iU(s:c_)(c:Int):Bool:=decide (s.x0<=c)&&decide (c<=s.x1)
def eW(ss:b0)(c:Int):List Str:=(ss.filter λp=>iU p.2 c).map (·.1)
noncomputable def bu(ss:b0)(x:Str):c_:=(ss.lookup x).getD ⟨0,0,0,0⟩
theorem pE(V:(ss.map (·.1)).Nodup){p:Str×c_}(h:p∈ss):bu ss p.1=p.2:=by
 unfold bu
 induction ss with
 |nil=>exact aZ h ca
 |cons q r Y=>
  rw[iu]
  rcases bT.mp h with e|h
  ·rw[e,beq_self_eq_true];rfl
  ·rw[(beq_eq_false_iff_ne (a:=p.1) (b:=q.1)).mpr λe=>(gK.mp V).1 (show q.1∈_ from e▸kE (f:=(·.1)) h)]
   exact Y (gK.mp V).2 h
theorem tW{c:Int}(Y:(ss.map (·.1)).Nodup):x∈eW ss c<->(x,bu ss x)∈ss/\iU (bu ss x) c=ae:=by
 refine bL.trans ?_
 constructor
 ·rintro⟨p,W,rfl⟩
  have:=eg.mp W
  exact(pE Y this.1)▸this
 ·intro V;refine V.elim λZ H=>?_
  exact⟨_,eg.mpr ⟨Z,H⟩,rfl⟩
theorem xd{s:c_}{c:Int}:c∈dS s<->iU s c=ae:=by
 delta dS iU
 simp only[bL,gk,bB,decide_eq_true_eq]
 constructor
 ·rintro⟨i,hi,rfl⟩;exact x_ (by assumption)
 ·intro V;refine V.elim λY W=>?_;exact⟨(c-s.x0).toNat,by exact abo (by assumption) (by assumption),by exact XW (by assumption)⟩
theorem Rs{c:Int}(V:(ss.map (·.1)).Nodup):(eW ss c).Nodup:=V.sublist (aek _ (v6))
noncomputable def iF(K:Str->Int)(x:Str):List Str->List Str
 |[]=>[x]
 |y::r=>if K x<K y then x::y::r else y::iF K x r
def eX(K:Str->Int)(l:List Str):List Str:=l.foldl (λV x=>iF K x V) []
def lC(K:Str->Int)(l:List Str):Prop:=l.Pairwise λa b=>K a<=K b
theorem xU{K:Str->Int}{r:List Str}(q:K x<K z):iF K x (z::r)=x::z::r:=bo q
theorem xV{K:Str->Int}{r:List Str}(q:¬K x<K z):iF K x (z::r)=z::iF K x r:=be q
theorem H8{K:Str->Int}{l:List Str}:(iF K x l).Perm (x::l):=by
 induction l with
 |nil=>exact qX _
 |cons z r V=>exact if q:K x<K z then xU q▸qX _ else xV q▸(Ab z V).trans (Qx x z r)
theorem UN{K:Str->Int}{l:List Str}:y∈iF K x l<->y=x\/y∈l:=H8.mem_iff.trans bT
theorem UO{K:Str->Int}{l:List Str}(h:lC K l):lC K (iF K x l):=by
 induction l with
 |nil=>exact mE _ _
 |cons z r W=>
  have V:=fV.mp h
  exact if q:K x<K z then xU q▸fV.mpr ⟨fm (du q) λy Y=>du (lc q (V.1 y Y)),h⟩
   else xV q▸fV.mpr ⟨λy Y=>(UN.mp Y).elim (λe=>e▸dW.mp q) (V.1 y),W V.2⟩
inductive Lg(K:Str->Int)(x:Str)(l:List Str):Prop where
 |mk (a b:List Str) (e:l=a++b) (i:iF K x l=a++x::b) (lo:∀y∈a,¬K x<K y) (hi:∀y∈b,K x<K y)
theorem Wz{K:Str->Int}{l:List Str}(h:lC K l):Lg K x l:=by
 induction l with
 |nil=>exact⟨[],[],rfl,rfl,fU,fU⟩
 |cons z r Y=>
  have V:=fV.mp h
  exact if q:K x<K z then ⟨[],z::r,rfl,xU q,fU,fm q λy W=>lc q (V.1 y W)⟩
   else Lg.casesOn (Y V.2) λa b e i lo hi=>⟨z::a,b,aQ (z::·) e,(xV q).trans (aQ (z::·) i),fm q lo,hi⟩
theorem wZ(K:Str->Int)(l:List Str)(x:Str):eX K (l++[x])=iF K x (eX K l):=by simp[eX]
theorem nW(K:Str->Int)(l:List Str):lC K (eX K l)/\(eX K l).Perm l:=by
 have:∀(l V:List Str),lC K V->lC K (l.foldl (λV x=>iF K x V) V)/\(l.foldl (λV x=>iF K x V) V).Perm (V++l):=by
  intro l
  induction l with
  |nil=>intro V h;simpa using h
  |cons x r Z=>
   intro V h
   obtain⟨H,G⟩:=Z _ (UO h)
   refine⟨H,G.trans ?_⟩
   exact(H8.append_right r).trans (by exact(FC (l₁:=V) (l₂:=r) (a:=x)).symm)
 exact(this l [] jZ)
theorem xJ:i0 (ltZ kz) i j<->kz.getD i 0<kz.getD j 0\/(kz.getD i 0=kz.getD j 0/\i<j):=by
 delta i0 ltZ
 rw[decide_eq_false_iff_not,decide_eq_true_eq]
 exact Zs
theorem Sl{R:Nat->Nat->Prop}(yL:∀a b,R a b->¬R b a):∀{a b:List Nat},a.Perm b->a.Pairwise R->b.Pairwise R->a=b:=by
 intro G
 induction G with
 |nil=>
  intro b h _ _
  exact(List.nil_perm.mp h).symm
 |cons x a Y=>
  intro b h V H
  induction b with
  |nil=>exact aZ h (by simp)
  |cons y b=>
   have V:=fV.mp V
   have e:x=y:=by
    have W:x∈y::b:=h.mem_iff.mp bi
    have Z:y∈x::a:=h.mem_iff.mpr bi
    rcases bT.mp W with e|W
    ·exact e
    ·rcases bT.mp Z with e|Z
     ·exact e.symm
     ·exact aZ ((fV.mp H).1 x W) (yL _ _ (V.1 y Z))
   subst e
   exact aQ _ (Y (List.Perm.cons_inv h) V.2 (fV.mp H).2)
noncomputable def qf(kz:List Int)(i:Nat):List Nat->List Nat
 |[]=>[i]
 |j::r=>if kz.getD i 0<kz.getD j 0 then i::j::r else j::qf kz i r
theorem Cp{x z:Nat}{r:List Nat}(q:kz.getD x 0<kz.getD z 0):qf kz x (z::r)=x::z::r:=bo q
theorem Cq{x z:Nat}{r:List Nat}(q:¬kz.getD x 0<kz.getD z 0):qf kz x (z::r)=z::qf kz x r:=be q
theorem H9{x:Nat}{l:List Nat}:(qf kz x l).Perm (x::l):=by
 induction l with
 |nil=>exact qX _
 |cons z r V=>exact if q:kz.getD x 0<kz.getD z 0 then Cp q▸qX _ else Cq q▸(Ab z V).trans (Qx x z r)
theorem WA{x:Nat}{l:List Nat}(hl:∀y∈l,y<x)(h:l.Pairwise (i0 (ltZ kz))):(qf kz x l).Pairwise (i0 (ltZ kz)):=by
 induction l with
 |nil=>exact mE _ _
 |cons z r Z=>
  have Y:=fV.mp h
  exact if q:kz.getD x 0<kz.getD z 0 then
   have W:i0 (ltZ kz) x z:=xJ.mpr (.inl q)
   Cp q▸fV.mpr ⟨fm W λy V=>i0.trans (Ky kz) W (Y.1 y V),h⟩
   else Cq q▸fV.mpr ⟨λy V=>(bT.mp (H9.mem_iff.mp V)).elim (λe=>e▸xJ.mpr (X5 q (hl z bi))) (Y.1 y),Z (λy V=>hl y (bM _ V)) Y.2⟩
theorem Rt{K:Str->Int}{l:List Str}{b:List Nat}(B:dJ (ltZ (l.map K)) l.length b):b.map (λi=>l.getD i default)=eX K l:=by
 have H:∀m,m<=l.length->∃a:List Nat,a.Perm (dM m)/\a.Pairwise (i0 (ltZ (l.map K)))/\a.map (λi=>l.getD i default)=eX K (l.take m):=by
  intro m
  induction m with
  |zero=>intro _;exact⟨[],by simp,by simp,rfl⟩
  |succ m W=>
   intro G
   obtain⟨a,Y,Z,h3⟩:=W (by exact Y_ (by assumption))
   have V:∀y∈a,y<m:=λy hy=>gk.mp (Y.mem_iff.mp hy)
   refine⟨qf (l.map K) m a,H9.trans ((Ab m Y).trans ?_),WA V Z,?_⟩
   ·simp only[Qb];exact(List.perm_append_singleton m (dM m)).symm
   ·have hx:l.take (m+1)=l.take m++[l.getD m default]:=by
     rw[lQ,dt (tu G)]
     simp[dt (show m<l.length by assumption)]
    simp only[hx,wZ,<-h3]
    have f:∀i,i<l.length->(l.map K).getD i 0=K (l.getD i default):=λi hi=>by
     simp[dt hi]
    clear Y Z h3 W
    induction a with
    |nil=>rfl
    |cons y a C=>
     have km:=f m (tu G)
     have ky:=f y (eO (V y bi) (tu G))
     have W:=C λz hz=>V z (bM _ hz)
     exact if q:K (l.getD m default)<K (l.getD y default) then (aQ (l5 _) (Cp (km.symm▸ky.symm▸q))).trans (xU q).symm
      else (aQ (l5 _) (Cq (km.symm▸ky.symm▸q))).trans ((aQ (_::·) W).trans (xV q).symm)
 obtain⟨a,Y,Z,h3⟩:=H l.length (bv _)
 rw[j0] at h3
 rw[<-h3]
 congr 1
 refine Sl (R:=i0 (ltZ (l.map K))) (λa b h h'=>?_) (B.perm.trans Y.symm) B.pw Z
 exact Zr (xJ.mp h) (xJ.mp h')
theorem Ru{f:α->Option β}{l:List α}(h:∃x∈l,f x=ak):(l.filterMap f).length<l.length:=by
 obtain⟨x,V,e⟩:=h
 obtain⟨a,b,rfl⟩:=zJ V
 rw[OA,N6 e,bR,bR]
 exact Nat.add_lt_add_of_le_of_lt (vL f a) (jY (vL f b))
noncomputable def UP(sc:bf)(e:au):Bool:=if h:e.ctorIdx=23 then mO e h λx _=>sc.names.lookup x==aa .cell else ae
theorem Z5{a b c:Bool}{X:Sem (Option (List Str))}(h:c=ae):(if a=ae then pure ak else if b=ae then pure ak else if c=ae then pure ak else X)=pure ak:=by
 rw[bo h];induction a<;>induction b<;>rfl
theorem xv{vs:List au}(V:∀x,KS (ab.kindOf x) (sc.names.lookup x))(h:ts.any (UP sc)=ae):mQ [b7 ts c p] (b7 vs c' p') ab=pure ak:=by
 refine Z5 ((ww _ _).mpr (.inl (bne_iff_ne.mpr (eC (Ru ?_)))))
 obtain⟨e,Y,W⟩:=tz.mp h
 refine⟨e,Y,cT W ?_⟩
 clear W Y h
 cases e with
 |Name x q=>
  have k:(sc.names.lookup x==aa .cell)=ae->ab.kindOf x=aa .cell:=λc=>KS.cell ((eq_of_beq c:sc.names.lookup x=aa .cell)▸V x)
  have n:aa lh≠aa .local:=dC tT
  show cond (sc.names.lookup x==aa .cell) _ True
  induction c:(sc.names.lookup x==aa lh) with
  |false=>trivial
  |true=>exact be λr=>n ((k c).symm.trans (eq_of_beq ((bB _ _).mp r).1))
 |_=>exact Eq.refl ak
section
variable {n:Nat} {sc:bf} {ρ:ay}
inductive mV:List au->List Str->Prop
 |nil:mV [] []
 |cons {x:Str} {p:Pos} {ts:List au} {ys:List Str} (h:mV ts ys):mV (aS x p::ts) (x::ys)
theorem mV.len(h:mV ts ys):ts.length=ys.length/\ts.all cu=ae:=by
 induction h with
 |nil=>exact⟨rfl,rfl⟩
 |cons _ V=>exact⟨aQ _ V.1,V.2⟩
theorem mV.at(h:mV ts ys):∀(i:Nat) f x,((rt ts ab).map (·.2))[i]?=aa f->ys[i]?=aa x->∃p,f=assign (aS x p) ab:=by
 induction h with
 |nil=>exact λi f x h=>BU (i:=i) h
 | @cons z p ts ys h W=>
  intro i f x V Y
  rw[z_ rfl] at V
  induction i with
  |zero=>exact⟨p,(aW Y)▸(aW V).symm⟩
  |succ i=>exact W i f x V Y
theorem aO.rA{es:List au}{k:Fl->ay->Prop}(C:mV ts aI)(hn:aI.length=es.length)(vB:es.all cu=ae)(B:aI.all (mine sc)=ae)(jt:es.length<=1000)
 (hV:∀ab,Ag [b7 ts c p] (b7 es c' p') aM.line ab=pure aH)(hw:∀ab:Env,ab.scope.kind=fu->(∀x,KS (ab.kindOf x) (sc.names.lookup x))->mQ [b7 ts c p] (b7 es c' p') ab=pure ak)
 (h:f8 n sc ρ es λbs=>k .next ((aI.zip bs).reverse++ρ)):aO n sc ρ (fe [b7 ts c p] (b7 es c' p') aM) k:=.mk λw A ab mu aw aE s g aB H R E=>by
 have tl:=C.len.1;have ta:=C.len.2
 refine Ao (zA (bg (f8.ok vB h.len w A ab s g p' H.st R H.cI E) (λvs aA ⟨aN,bs,bX,vg,W,V,fr,Y,iZ⟩=>⟨?_,?_⟩))) (hV ab) (hw ab H.kind H.ks)
 ·simp only[V.len,Y];have:sizeLine=2^24:=rfl;exact bd (aV jt (lT tT))
 ·have e1:=(tF (ab:=ab) ta).1;have e2:=(tF (ab:=ab) ta).2
  have hT:(aA.heap.push {cls:=aK "tuple",data:=.seq vs.toArray}).IsTuple aA.heap.objs.size vs.toArray:=⟨_,cB _ rfl,rfl,_,rfl⟩
  refine zG R.2.2 hT (by simp only[e1,tl,hn,<-Y,<-V.len];rfl) e2 λh' he=>?_
  have kp:∀b o,aA.heap.get? b=aa o->h'.get? b=aa o:=λb o e=>ExtBut.keeps he b o (bZ _ e)
  obtain⟨Z,gf⟩:=W.ext' (h':=h') (tk:=aA.toks) kp
  have G:oG w {aA with heap:=h'} aN ab vs bs bX:=⟨V.len,V.len',λi v b ad q1 q2 q3=>(V.rep i v b ad q1 q2 q3).step Z W (by simp) (by simp),V.nf,V.sQ⟩
  refine bg (storeAll (fs:=(rt ts ab).map (·.2)) G (by simp only[hn,V.len,Y]) (by simp[e1,tl,hn,V.len,Y]) _ ρ aB ((H.step vg W).step Z gf) G (λx hx=>ef.mp B x hx) (λi f x q1 q2 v Q s hq=>?_) (λad lI a ha=>Bn (s':=s) (g':=g) H (fr ad lI a ha)) (E:=E)) (λ_ kX q_=>q_.elim λdX H3=>?_)
  ·obtain⟨p,rfl⟩:=C.at i f x q1 q2
   exact Fh hq
  ·exact⟨aN,_,.next,dX,H3,trivial,iZ⟩
theorem mz.le{ds:List D}(h:mz m fa l ds φ l')(V:m<=n):mz n fa l ds φ l':=⟨λw A s g a af vs f bz S R M Y hr W r Z H E=>h.run w A s g a af vs f bz S (R.le V) M Y hr W r Z H E⟩
theorem JK{x:au}{r:List au}{k:Bool->Prop}(h:bH n sc ρ x λb=>if b then k ae else m5 n sc ρ .Or r k):m5 n sc ρ .Or (x::r) k:=h.mono λb V=>by
 induction b<;>exact V
theorem IW{x:au}{r:List au}{k:Bool->Prop}(h:bH n sc ρ x λb=>if b then m5 n sc ρ .And r k else k aH):m5 n sc ρ .And (x::r) k:=h.mono λb V=>by
 induction b<;>exact V
end
section
variable {n m:Nat} {sc:bf} {ρ:ay}
theorem WB{l:ag}{x y:ai}{Q:List ai->av->Prop}(hh:A.handled=ak)(hl:s.heap.IsList l af)(hi:af=#[x,y])
 (hQ:∀h',wJ s.heap.objs.size s.heap h'->Q [x,y] {s with heap:=h'}):wpAny (model PG w) A (unpackItems (.ref l) 2 aU) Q E s:=by
 have H:l≠s.heap.objs.size:=by refine hl.elim λo f=>f.elim λho _=>?_;exact eC (cq ho)
 subst hi
 dsimp only[unpackItems]
 refine aJ ?_
 ·unfold notIterableAtAll
  refine wO hl.typeIs slot_list_iter.lookup ?_
  refine a8 ?_
  refine aJ (eM (tq hl ?_))
  have G:=hl.push {cls:=aK "list_iterator",data:=bC #[.ref l,.int 0 0]}
  refine aJ (eM (aJ (Om ⟨_,cB _ rfl,rfl,rfl⟩ G (x:=x) rfl λiZ W V=>?_)))
  refine aJ (eM (aJ (Om W (G.extBut V.extBut H) (x:=y) rfl λgd Z Y=>?_)))
  refine aJ (eM (a8 (a8 (a8 ?_))))
  refine aJ (eM (OB hh Z ((G.extBut V.extBut H).extBut Y.extBut H) rfl λB C=>?_))
  exact a8 (hQ B λb o hb e=>C b o hb (Y.extBut b o hb (V.extBut b o hb (bZ _ e))))
theorem fK.acD{V Y:au}{a b:D}{k:ay->Prop}(W:[V,Y].all cu=ae)(h:kO n sc ρ [V,Y] [a,b] k):fK n sc ρ (b7 [V,Y] c p) (.lst [a,b]) k:=.mk λw A ab mu aw aE s g aB v H R r E=>by
 obtain⟨l,af,rfl,G,C⟩:=r.n_ H.st
 refine ba λB=>?_
 obtain⟨x,y,Z,f,ry⟩:=aP.two C
 obtain⟨e1,e2⟩:=tF (ab:=ab) W
 apply B
 refine jd ?_
 unfold unpack
 rw[e1,e2]
 refine aJ (eM (WB R.2.2 G (x:=x) (y:=y) (by induction af;simp at Z;exact aQ _ Z) λh' hx=>?_))
 refine(H.st.ext' (tk:=s.toks) (ExtBut.keeps hx)).elim λN S'=>?_
 exact h.ok W w A ab mu aw aE _ g aB (H.step N S') R (.cons f (.cons ry .nil)) E
theorem WC{i j:Int}(h:j.natAbs<2^60):Ey i j=aH:=by
 refine(Bool.and_eq_false_iff.mpr (.inl (eY ?_)):(decide ((if (j==0)=ae then 0 else j.natAbs.log2/30+1)>300)&&_)=aH)
 by_cases V:(j==0)=ae
 ·rw[bo V];decide
 ·rw[be V]
  exact Zz ((wM λe=>V (beq_iff_eq.mpr (Ph.mp e))).mpr h)
theorem bF.Z6{i j:Int}(h:(decide (0<j)&&decide (j.natAbs<2^60))=ae)(V:k (.int (i/j))):bF n .FloorDiv (.int i) (.int j) k:=by
 simp only[bB,decide_eq_true_eq] at h
 exact bF.fdiv (pq h.1) (WC h.2) ((nv _ (du h.1))▸V)
theorem bF.acE{i j:Int}(h:decide (0<j)=ae)(V:k (.int (i%j))):bF n .Mod (.int i) (.int j) k:=by
 have h:=cY h
 exact bF.mod (pq h) (by exact(qw _ (du h))▸V)
end
section
open PySem.Builtin PySem.Builtin.Str
noncomputable def cl(x:Str):List Nat:=x.cps.toList
theorem cD(x:Str):x.length=(cl x).length:=rfl
theorem Cr(h:cl x=cl y):x=y:=by
 obtain⟨a⟩:=x;have b:=y
 exact aQ _ (wf.mp h)
theorem fF(x y:Str):cl (x++y)=cl x++cl y:=by
 show (x.cps++y.cps).toList=_
 simp[cl]
theorem pJ:subAt x y i=ae<->((cl x).drop i).take (cl y).length=cl y:=by
 unfold subAt
 rw[beq_iff_eq,<-wf]
 simp[cl,Array.toList_extract,List.take_drop,List.extract,iy]
noncomputable def cG:List (List Nat)->List Nat->Prop
 |[],_=>True
 |p::ps,l=>∃a b,l=a++p++b/\cG ps b
theorem cG.more{b:List Nat}{ps:List (List Nat)}(a:List Nat)(h:cG ps b):cG ps (a++b):=by
 cases ps with
 |nil=>trivial
 |cons p ps=>exact h.elim λc q=>q.elim λd q=>⟨a++c,d,by rw[q.1,c6,c6,c6],q.2⟩
theorem cG.xw{ps:List (List Nat)}{l:List Nat}:cG ([]::ps) l<->cG ps l:=
 ⟨λq=>q.elim λa q=>q.elim λb q=>(q.1.trans (aQ (·++b) (cR a)))▸q.2.more a,λh=>⟨[],l,rfl,h⟩⟩
theorem cG.UQ{ps:List (List Nat)}{l:List Nat}:cG (ps++[[]]) l<->cG ps l:=by
 induction ps generalizing l with
 |nil=>exact⟨λ_=>trivial,λ_=>⟨l,[],by rw[cR,cR],trivial⟩⟩
 |cons p ps V=>exact⟨λq=>q.elim λa q=>q.elim λb q=>⟨a,b,q.1,V.mp q.2⟩,λq=>q.elim λa q=>q.elim λb q=>⟨a,b,q.1,V.mpr q.2⟩⟩
theorem cG.first{p a b:List Nat}{ps:List (List Nat)}(h:∀Y b',a++p++b=Y++p++b'->a.length<=Y.length):cG (p::ps) (a++p++b)<->cG ps b:=by
 refine⟨λV=>V.elim λY V=>V.elim λb' V=>V.elim λZ W=>?_,λq=>⟨a,b,rfl,q⟩⟩
 have hl:=h Y b' Z
 rcases EE.mp Z with ⟨c,_,e⟩|⟨c,e,H⟩
 ·exact e▸(W.more _)
 ·have G:=aQ gm e
  simp only[bR,bR,bR] at G
  have:c=[]:=lL.mp (by exact abB (by assumption) (by assumption))
  rw[H,this] at W
  exact W
noncomputable def win(g:List Nat)(lo hi:Nat):List Nat:=(g.take hi).drop lo
theorem IX{g:List Nat}{lo k:Nat}:win g (lo+k) hi=(win g lo hi).drop k:=F_.symm
theorem Ts{w a p b:List Nat}(h:w=a++p++b):b=w.drop (a.length+p.length):=by rw[h,<-bR,mP]
theorem Cs{lo:Nat}(hl:lo<=hi)(H:hi<=(cl x).length):tU x y hi (lo+i)<->∃a b,a.length=i/\win (cl x) lo hi=a++cl y++b:=by
 have Z:(win (cl x) lo hi).length=hi-lo:=by unfold win;simp only[qT,gJ,iN H]
 have sub:lo+i+(cl y).length<=hi->((win (cl x) lo hi).drop i).take (cl y).length=((cl x).drop (lo+i)).take (cl y).length:=λh=>by
  rw[<-IX]
  unfold win
  simp only[Qy,List.take_take,iN (EO h)]
 unfold tU
 rw[pJ,cD y]
 constructor
 ·intro W;refine W.elim λY G=>?_
  have e:=(sub Y).trans G
  refine⟨(win (cl x) lo hi).take i,((win (cl x) lo hi).drop i).drop (cl y).length,?_,?_⟩
  ·simp only[gJ,Z,iN (EO (aD (cy _ _) Y))]
  ·generalize (cl y).length=m at e
   simp only[<-e,c6,kC,kC]
 ·rintro⟨a,b,rfl,h⟩
  have V:=aQ gm h
  simp only[Z,bR,bR] at V
  have Y:lo+a.length+(cl y).length<=hi:=by
   rw[<-lO hl,V,eK]
   exact fi (cy _ _) _
  refine⟨Y,?_⟩
  simp only[<-sub Y,h,c6,mP,qY]
theorem Yv{V:Array Nat}(h:V[0]?=aa c):∃r,V.toList=c::r:=by
 obtain⟨l⟩:=V
 cases l with
 |nil=>exact ns h
 |cons q r=>exact⟨r,aQ (·::r) (aW h)⟩
inductive acF(x y:Str)(lo hi:Nat):Prop where
 |none (e:occurrences x y lo hi 1=[]) (n:∀i,lo<=i->¬tU x y hi i)
 |some (i:Nat) (r:List Nat) (e:occurrences x y lo hi 1=(lo+i)::r) (h:tU x y hi (lo+i)) (n:∀j,j<i->¬tU x y hi (lo+j))
theorem BZ(x y:Str)(lo hi:Nat):acF x y lo hi:=by
 have E:=Qz x y lo hi 1
 rcases StrLaws.occ_first x y hi 1 (bv _) (hZ lo (hi+1-lo)) lo (λi hi=>(qM.mp hi).1) with ⟨V,Y⟩|⟨pre,c,post,e,V,W,Y⟩
 ·refine .none (E.trans (aQ _ V)) λi Z h=>Y i (qM.mpr ⟨Z,?_⟩) h
  have H:=jY (aD (cy _ _) h.1)
  exact(lO (aD Z (bd H))).symm▸H
 ·obtain⟨r,G⟩:=Yv V
  obtain⟨i,_,rfl,C⟩:=List.range'_eq_append_iff.mp e
  obtain rfl:=(List.range'_eq_cons_iff.mp C.symm).1
  rw[RC] at G W
  exact .some i r (E.trans G) W λj h=>Y _ (qM.mpr ⟨cy _ _,vX h _⟩)
theorem Dq{lo:Nat}(hl:lo<=hi)(V:hi<=(cl x).length):(∃i r,occurrences x y lo hi 1=(lo+i)::r/\i+(cl y).length<=hi-lo/\∃a,a.length=i/\win (cl x) lo hi=a++cl y++win (cl x) (lo+i+(cl y).length) hi/\∀ps,cG (cl y::ps) (win (cl x) lo hi)<->cG ps (win (cl x) (lo+i+(cl y).length) hi))\/
 (occurrences x y lo hi 1=[]/\∀ps,¬cG (cl y::ps) (win (cl x) lo hi)):=by
 cases BZ x y lo hi with
 |none e Y=>exact .inr ⟨e,λps q=>q.elim λa q=>q.elim λb q=>Y _ (cy _ _) ((Cs hl V).mpr ⟨a,b,rfl,q.1⟩)⟩
 |some i r e Z Y=>
  refine .inl ⟨i,r,e,EO ((eK ..).symm▸Z.1),((Cs hl V).mp Z).elim λa q=>q.elim λb q=>⟨a,q.1,?_⟩⟩
  have H:=Ts q.2
  rw[q.1,<-IX,<-eK] at H
  exact H▸⟨q.2,λps=>q.2▸cG.first λG C h'=>de.mp λW=>Y _ (q.1▸W) ((Cs hl V).mpr ⟨G,C,rfl,q.2.trans h'⟩)⟩
def mB(ps:List (List Nat))(g:List Nat):Prop:=∃p V r m,ps=p::(V++[r])/\g=p++m++r/\cG V m
theorem pQ{p r g:List Nat}{qs:List (List Nat)}:mB (p::(qs++[r])) g<->∃m,g=p++m++r/\cG qs m:=by
 constructor
 ·rintro⟨p',Y,B,m,W,V,h3⟩
  refine(j6 W).elim λZ H=>?_
  obtain⟨G,C⟩:=List.append_inj' H rfl
  simp only[Z,G,(j6 C).1]
  exact⟨m,V,h3⟩
 ·rintro⟨m,V,h3⟩
  exact⟨p,qs,r,m,rfl,V,h3⟩
theorem JL{p r g Z V:List Nat}{qs:List (List Nat)}(H:g=p++Z)(Y:g=V++r):(p.length<=g.length-r.length/\cG qs (win g p.length (g.length-r.length)))<->mB (p::(qs++[r])) g:=by
 rw[pQ]
 have e:g.length-r.length=V.length:=by simp only[Y,bR,zI]
 have G:win g p.length V.length=V.drop p.length:=by unfold win;simp only[Y,qY]
 rw[e,G]
 constructor
 ·rintro⟨W,h3⟩
  have t:V.take p.length=p:=by
   have:=aQ (S_ p.length) (H.symm.trans Y)
   rw[qY,NU W] at this
   exact this.symm
  exact⟨V.drop p.length,Y.trans (aQ (·++r) ((kC p.length V).symm.trans (aQ (·++_) t))),h3⟩
 ·rintro⟨m,W,h3⟩
  simp only[(List.append_cancel_right (Y.symm.trans W):V=p++m),mP,bR]
  exact⟨cy _ _,h3⟩
end
section
variable {n m:Nat} {sc:bf} {ρ:ay}
def acG(J:ay->Prop)(k:Fl->ay->Prop):Fl->ay->Prop:=λfl ρ=>match fl with
 |.next=>∃aC,Sub aC ρ/\J aC
 |fl=>k fl ρ
theorem aL.cut(J:ay->Prop){b:bw}{r:List bw}{k:Fl->ay->Prop}(h:aO n sc ρ b (acG J k))(hr:∀aC,J aC->aL n sc aC r k):aL n sc ρ (b::r) k:=
 .cons (h.mono λfl aC q=>by
  induction fl with
  |next=>obtain⟨V,s,j⟩:=q;exact(hr _ j).sub s
  |brk=>exact q
  |cont=>exact q
  |ret d=>exact q)
theorem Tt{len:Nat}(h:j<=len):min (max 0 (if (j:Int)<0 then (j:Int)+len else (j:Int))).toNat len=j:=by
 exact(be (dW.mpr (dA _)))▸(Wl (by assumption))
theorem bk.Z7{lo:Nat}(hh:hi<=x.length)(V:k (.int (match ku x y lo hi 1 with|i::_=>(i:Int)|[]=>-1))):bk n (.builtin "str.find") [.str x,.str y,.int lo,.int hi] k:=.mk λw A s g vs S R r E=>by
 refine ba λY=>?_
 obtain⟨v,u,v1,C,rfl,W,Z,h3,H⟩:=r.four
 apply Y
 refine W.dB λt=>?_;refine Z.dB λB=>?_;refine h3.b9 λf=>?_;refine H.b9 λt2=>?_
 refine call_gives F.slot_str_find (nR _ _ _) F.entry_str_find (F.args_str_find_4 _ _ _ _) (m:=.int (match ku x y lo hi 1 with|i::_=>(i:Int)|[]=>-1)) ?_ (Out.toks S (.int _ _) V)
 have G:(max 0 (if (lo:Int)<0 then (lo:Int)+x.length else (lo:Int))).toNat=lo:=by exact(be (dW.mpr (dA _)))▸(Cd _)
 show Gives (match ku x y (max 0 (if (lo:Int)<0 then (lo:Int)+x.length else (lo:Int))).toNat (min (max 0 (if (hi:Int)<0 then (hi:Int)+x.length else (hi:Int))).toNat x.length) 1 with|k::_=>retInt k|[]=>(do rule "str.find.not-found";retInt (-1))) _
 rw[G,Tt hh]
 induction ku x y lo hi 1 with
 |nil=>exact .rule (.of_eq rfl)
 |cons k _=>exact .of_eq rfl
end
theorem Hn:wy x y=ae<->∃m,cl x=cl y++m:=by
 unfold wy
 rw[bB,decide_eq_true_eq,pJ,cD,cD]
 constructor
 ·rintro⟨Y,V⟩
  exact⟨(cl x).drop (cl y).length,by
   conv=>rhs;lhs;rw[<-V,tD]
   rw[kC]⟩
 ·rintro⟨m,h⟩
  rw[h];simp
theorem IY:wG x y=ae<->∃m,cl x=m++cl y:=by
 unfold wG
 rw[bB,decide_eq_true_eq,pJ,cD,cD]
 constructor
 ·rintro⟨Y,V⟩
  refine⟨(cl x).take ((cl x).length-(cl y).length),?_⟩
  rw[la (by simp;exact ZD (by assumption))] at V
  conv=>rhs;rhs;rw[<-V]
  rw[kC]
 ·rintro⟨m,h⟩
  rw[h];simp
noncomputable def Mh:Obj:=excClassObj (a6 "Headers") (a6 "Headers") 258 257 [aK "object"] [aK "object"] ae [] [] aH aU aU aU aU (aa (.str (a6 "Headers") 536)) (aa (.str (a6 "Headers") 544)) (aa (.bool ae)) "object.__new__"
def yO(P:bS)(x:Str):Option ai:=match (C8 P).data with
 |.dict es _=>nsFind es x
 |_=>aU
theorem p4(S:St w s g):s.heap.get? 258=aa Mh:=S.df 258 Mh rfl
noncomputable def B0(e:dy):Bool:=match e.key with
 |.str _ _=>ae
 |_=>aH
theorem Sm{e:dy}(h:B0 e=ae):∃x t,e.key=.str x t:=by
 unfold B0 at h
 generalize e.key=v at h
 induction v with
 |str x t=>exact⟨x,t,rfl⟩
 |_=>exact tx h
theorem WD{es:Array dy}(h:es.toList.all B0=ae):um es:=λe V=>Sm (ef.mp h e (s_.mpr V))
theorem uN(S:St w s g):s.heap.Ns 257 (yO w.params):=
 ⟨C8 w.params,_,_,S.df 257 _ rfl,rfl,WD rfl,λx=>rfl⟩
noncomputable def heads(hl:ag)(y:Str):Option ai:=if y="_headers" then aa (.ref hl) else aU
theorem jj.yP{x hl:ag}(S:St w s g)(P:jj w s g x dx hl af):s.heap.Inst x 258 (heads hl):=by
 refine ba λY=>?_
 obtain⟨⟨o,W,Z,h3,H,G⟩,⟨C,es,n,B,f,h8,h9,V⟩,_,_⟩:=P
 apply Y
 exact⟨o,S.sub _ _ W,Z,H,.inr ⟨dx,h3,G,C,es,n,S.sub _ _ B,f,h8,h9,V⟩⟩
theorem xe{x hl:ag}{expr:Bool}(S:St w s g)(P:jj w s g x dx hl af)(h:Q (.ref hl) {s with toks:=s.toks+1}):
 wpAny (model PG w) A (getAttr (.ref x) "_headers" expr) Q E s:=
 load_attr (p4 S) (uN S) (by ac_rfl) (by ac_rfl) (by rw[j5,jX];kernel_rfl) (P.yP S) (by ac_rfl) rfl h
structure m_(name:Str)(f:ag):Prop where
 ns:∀P:bS,yO P name=aa (.ref f)
 fn:∀w:a9,∃o,(KH w).lookup f=aa o/\o.cls=aK "function"
 lk:∃y,mT (aK "object") name=pure y
 ne:(name==("_headers":Str))=aH
 keep:∀w:a9,keepIn (KH w) (.ref f)=ae
theorem Tu{x:ag}{mA:Str->Option ai}{name:Str}{f:ag}{Y:Sem Bool}{Q:ai×List ai->av->Prop}(S:St w s g)(M:m_ name f)(I:s.heap.Inst x 258 mA)(W:mA name=aU)(h:Q (.ref f,[.ref x]) s):
 wpAny (model PG w) A (getMethod (.ref x) name Y) Q E s:=by
 refine(M.fn w).elim λo V=>V.elim λZ H=>?_
 obtain⟨y,h3⟩:=M.lk
 exact method_of (p4 S) (uN S) (by ac_rfl) (by ac_rfl) (M.ns _) (S.df _ _ Z) H h3 I W h
theorem AQ{hl:ag}{name:Str}{f:ag}(M:m_ name f):heads hl name=aU:=be λe=>by have:=M.ne;rw[e] at this;revert this;decide
section
open PySem.Builtin PySem.Builtin.Re
noncomputable def uq:Nat->sh->Option sh
 |0,_=>ak
 |n+1,m=>let m:=m.runFor 4;if m.outcome.isSome then aa m else uq n m
noncomputable def codeN:Array Nat:=#[14,10,4,1,1,22,0,31,16,127,0,13,7,22,0,31,16,127,0,1]
noncomputable def codeV:Array Nat:=#[14,14,4,1,1,9,4294966783,0,0,2147483648,0,0,0,0,0,13,11,9,4294966783,0,0,2147483648,0,0,0,0,0,1]
noncomputable def IZ(o:RD):Bool:=o.ctorIdx==1
theorem RO{o:RD}(h:IZ o=ae):o=.failed:=by
 cases o with
 |failed=>rfl
 |_=>exact ft h
def yQ(code:Array Nat)(x:Str):Bool:=((uq 100 (QT code x.cps 0 0 x.cps.size aH)).bind (·.outcome)).any IZ
def okN(x:Str):Bool:=yQ codeN x
def oY(x:Str):Bool:=yQ codeV x
section
variable {w:a9} {A:bN} {E:ai->av->Prop} {s:av}
theorem H_{V:sh}:∀{k turns:Nat} {m:sh} {Q:sh->av->Prop},uq k m=aa V->k<=turns->Q V s->wpAny (model PG w) A (reDrive turns m) Q E s
 |0,_,_,_,h,_,_=>by exact ns h
 |k+1,0,_,_,_,h,_=>aZ h (kJ.mpr (cg (bv _) (jB _ _)))
 |k+1,turns+1,m,Q,h,W,Y=>by
  show wpAny _ _ (if (m.runFor 4).outcome.isSome=ae then pure (m.runFor 4) else (do rule "sre.turn";reDrive turns (m.runFor 4))) _ _ _
  have h:(if (m.runFor 4).outcome.isSome=ae then aa (m.runFor 4) else uq k (m.runFor 4))=aa V:=h
  by_cases q:(m.runFor 4).outcome.isSome=ae
  ·rw[bo q] at h⊢
   obtain rfl:=aW h;exact a8 Y
  ·rw[be q] at h⊢
   exact kg (H_ h (by exact L4 (by assumption)) Y)
theorem WE{m V:sh}{Q:Option sh->av->Prop}(h:uq 100 m=aa V)(Y:V.outcome=aa .failed)(W:Q ak s):wpAny (model PG w) A (reRunToEnd m) Q E s:=by
 refine aJ (H_ h (lB tT) ?_)
 refine aJ (wpAny_forIn_list _ (λ_ _ s'=>s'=s) _ (λx bW b s' e=>?_) (λb s' e=>?_) _ _ rfl)
 ·split
  ·exact kg (a8 e)
  ·exact a8 e
 ·subst e
  exact Y▸(a8 W)
end
theorem Q7:PlainAttrs "re.Pattern":=
 ⟨⟨"object.__getattribute__",by rw[j5,jX];kernel_rfl,by decide+kernel⟩,by rw[j5,jX];kernel_rfl⟩
theorem Gj:Slot "re.Pattern" "search" "re.Pattern.search":=
 .of (owner:="re.Pattern") (n:="search") (by rw[j5,jX];kernel_rfl) (by decide+kernel) (by decide+kernel) (by decide+kernel)
  (by first|exact .inl (by decide+kernel)|exact .inr (by decide+kernel)) (by rw[qZ];kernel_rfl)
theorem QL:typeOf (.builtin "re.Pattern.search")=pure (aK "method_descriptor"):=by show builtinType _=_;rw[builtinType_eq_fast];kernel_rfl
theorem Qq:entryFor table "re.Pattern.search"=aa Builtin.«re.Pattern.search»:=PU (by kernel_rfl)
theorem QM(a b:ai):argsOk "re.Pattern.search" ⟨[a,b],[]⟩:=by kernel_rfl
theorem cM.search:cM "re.Pattern" "search" "re.Pattern.search":=⟨Q7,Gj,QL⟩
structure yw(a:ag)(code:Array Nat):Prop where
 at_:∀w:a9,∃T o NB fl af n,(KH w).lookup a=aa {cls:=aK "re.Pattern",data:=bC #[NB,fl,.int 0 0,.none,.none,.ref T,.int 0 0]}/\(KH w).lookup T=aa o/\o.data=.seq af n/\(af.map reRawOf).map (·.toNat)=code
theorem reN:yw 124 codeN:=⟨λw=>⟨123,_,_,_,_,_,rfl,rfl,rfl,by kernel_rfl⟩⟩
theorem reV:yw 129 codeV:=⟨λw=>⟨128,_,_,_,_,_,rfl,rfl,rfl,by kernel_rfl⟩⟩
theorem Tv{code:Array Nat}{t:Tok}(S:St w s g)(R:yw a code)(Y:yQ code x=ae)(hl:x.length<2^63)(H:Q .none s):
 wpAny (model PG w) A (call (.builtin "re.Pattern.search") [.ref a,.str x t]) Q E s:=by
 refine ba λG=>?_
 obtain⟨T,o,C,fl,af,n,Z,B,h3,f⟩:=R.at_ w
 apply G
 refine j4 Gj ⟨_,(S.df _ _ Z),rfl⟩ Qq ?_ (QM _ _)
 have V:reNamed "re.Pattern.search" "search" ["string","pos","endpos"] 1 [.str x t] []=pure [aa (.str x t),ak,ak]:=by
  kernel_rfl
 show wpAny _ _ (reTarget "re.Pattern.search" "search" ⟨[.ref a,.str x t],[]⟩>>=_) _ _ _
 refine aJ ?_
 show wpAny _ _ (reNamed "re.Pattern.search" "search" ["string","pos","endpos"] 1 [.str x t] []>>=_) _ _ _
 refine rT V ?_
 show wpAny _ _ (fieldsOf (.ref a)>>=_) _ _ _
 refine aJ (Ga (S.df _ _ Z) rfl ?_)
 show wpAny _ _ (reRawItems (.ref T)>>=_) _ _ _
 refine aJ (lZ (S.df _ _ B) h3 (a8 (a8 ?_)))
 have e5:min (2^63-1:Int).toNat x.cps.size=x.cps.size:=abF hl
 obtain⟨o,W,hf⟩:=(Option.any_eq_true _ _).mp Y
 obtain⟨m,hm,W⟩:=iq.mp W
 obtain rfl:=RO hf
 show wpAny _ _ (reAnswer _ (QT ((af.map reRawOf).map (·.toNat)) x.cps 0 (min (0:Int).toNat x.cps.size) (min (2^63-1:Int).toNat x.cps.size) aH)) _ _ _
 rw[f,e5]
 exact aJ (WE hm W (a8 ⟨_,rfl,H⟩))
end
section
variable {n m:Nat} {sc:bf} {ρ:ay}
theorem bH.Tw{k:Bool->Prop}(C:sc.names.lookup (a6 "type")=aa cj)(B:sc.names.lookup (a6 "str")=aa cj)(f:ρ.lookup x=aa (.dat (.str y)))(G:ce x=ae)(hk:k ae):
 bH n sc ρ (iQ (bU (aS (a6 "type") np) [aS x xp] [] cp) [.Is] [aS (a6 "str") sp] aM) k:=.mk λw A ab s g S R V E=>by
 refine vO ?_ rfl
 refine lP ((xc C).run w A ab s g ρ S V np _ E ?_)
 refine j8 (P:=λhp=>∃k,(k=jE\/k=jC\/k=jz)/\jN (model PG w) hp (keeperOf (aK "type")) k) (by rw[(cE (l:=[aS x xp]) rfl).2];rfl) (λ_ q=>q) ?_
 refine fk (cE (l:=[aS x xp]) rfl).1 rfl (bg (cn.ok (k:=λds=>ds=[.str y]) rfl (ia (aj.name f G (fR rfl))) w A ab s g cp S R V E) (λvs aA ⟨aN,ds,W,Y,Z,H⟩=>?_))
 subst H
 obtain⟨v,rfl,hv⟩:=Z.one
 refine hv.dB λt=>?_
 refine fB ⟨(xc C).keep w aA aN Y,call_type_of (nR _ _ _) (rfl) ?_⟩
 refine(IP B).run w A ab aA aN ρ Y (V.step W S) sp _ E ?_
 exact a8 (a:=eG (cF "str"==cF "str")) (by exact(rfl:(cF "str"==cF "str")=ae)▸(nJ ⟨aN,W,Y,hk⟩))
theorem cK.top{k:Bd->Prop}(Z:sc.names.lookup x=aa cj)(H:∀w,nsIn (KH w) eF x=aa (aa (.ref a)))(G:ce x=ae)(h:k (.re a)):cK n sc ρ (aS x p) k:=.mk λw A ab s g S R V E=>by
 obtain⟨W,Y⟩:=S.gB
 exact zu V.kind (KS.glob (Z▸V.ks x)) (Fj (mg:=W) (by exact V.glob▸Y) (mg_of S.df Y (H w)) ⟨g,.re a,[],Nx.refl _ _ _,S,⟨rfl,rfl⟩,rfl,λa h=>(by simp at h),h⟩) (d4 G)
theorem cK.CK{t b o:au}{k:Bd->Prop}(h:bH n sc ρ t λc=>if c then cK n sc ρ b k else cK n sc ρ o k):cK n sc ρ (.IfExp t b o aM) k:=.mk λw A ab s g S R V E=>
 GV (bg (h.run w A ab s g S R V E) (λc aA H=>by
  obtain⟨aN,W,Z,Y⟩:=H
  have qk:∀a,aA.heap.get? a=aU->s.heap.get? a=aU:=λa e=>by
   induction q:s.heap.get? a with
   |none=>rfl
   |some o=>refine(W.there _ _ q (ca)).elim λo' C=>?_;exact ns (e.symm.trans C)
  have dk:∀e,cK n sc ρ e k->wpAny (model PG w) A (eval e ab) (Di w s g ab k) E aA:=λe Y=>
   bg (Y.run w A ab aA aN Z R (V.step W S) E) (λr G H=>by obtain⟨g',b,ad,N,B,f,hf,ha,hk⟩:=H;exact⟨g',b,ad,W.trans N,B,f,hf,λa hm=>qk a (ha a hm),hk⟩)
  induction c with
  |true=>exact dk b Y
  |false=>exact dk o Y))
theorem aj.I0{r v:Str}{code:Array Nat}{rp B:Pos}(hr:ρ.lookup r=aa (.re a))(Z:ce r=ae)(hv:ρ.lookup v=aa (.dat (.str y)))(f:ce v=ae)(Re:yw a code)(hO:yQ code y=ae)(hl:y.length<2^63)
 (W:(eT.endLine==aM.line)=ae)(hk:k .none):aj n sc ρ (bU (cC (aS r rp) "search" eT) [aS v B] [] aM) k:=.mk λw A ab s g S R V E=>by
 refine ba λN_=>?_
 obtain⟨u,ad,h1,h2,h3⟩:=V.var r _ hr
 subst h2
 apply N_
 refine ny rfl ?_ W rfl (eQ (d3 V.kind h1 Z ?_) (d4 Z))
 ·rw[(cE (l:=[aS v B]) rfl).1]
  rfl
 ·refine ba λN_=>?_
  obtain⟨T,o,NB,fl,af,n',q1,q2,q3,q4⟩:=Re.at_ w
  apply N_
  refine⟨"re.Pattern","re.Pattern.search",cM.search.pa,cM.search.slot,cM.search.ty,⟨_,(S.df _ _ q1),rfl⟩,λb e=>by (cases e;exact⟨_,(S.df _ _ q1),rfl⟩),?_⟩
  refine nN (cE (l:=[aS v B]) rfl).2 (fk (cE (l:=[aS v B]) rfl).1 rfl (bg (cn.ok (k:=λds=>ds=[.str y]) rfl (ia (aj.name hv f (fR rfl))) w A ab s g aM S R V E) (λvs aT ⟨bb,ds,H,Y,G,C⟩=>?_)))
  subst C
  obtain⟨z,rfl,hz⟩:=G.one
  refine hz.dB λt=>?_
  exact fB (Tv Y Re hO hl ⟨bb,.none,H,Y,.none,hk⟩)
theorem Cu{k:Bool->Prop}(h:k aH):∃b,D.none.truth=aa b/\(∀x,D.none=.str x->x.length<2^63)/\(∀x,D.none=.lst x->x.length<2^63)/\k b:=⟨_,rfl,λx e=>D.no e rfl,λx e=>D.no e rfl,h⟩
structure nq(n:Nat)(fa:ag)(d:D)(b:Bool)(k:D->Prop):Prop where
 run:∀(w:a9) (A:bN) (s:av) (g:aY) (u v:ai),St w s g->Rm n A->Rep w g v d->∀E,wpAny (model PG w) A (call (.ref fa) [u,v] [("name",.bool b)]) (Out w s g k) E s
theorem nq.intro{name:Str}{b:Bool}(G:si fa name bI params body sc)
 (C:∀doc pm bA ct an (s:av) u v,fQ s (gr name bI params body sc .none .none doc pm bA ct an) ⟨[u,v],[("name",.bool b)]⟩ (([("self":Str),"value","name"]:List Str).zip [u,v,.bool b]))
 (Y:g6 [("self":Str),"value","name"] sc []=ae)(V:sc.names.all (λx=>!(x.2==.free))=ae)(W:(d5 sc).isNone=ae)
 (h:aL n sc ([("self",.any),("value",.dat d),("name",.dat (.bool b))]:List (Str×Bd)) body (fM k)):nq (n+2) fa d b k:=.mk λw A s g u v S R r E=>by
 have no:∀(P:ag->Prop),∀c∈([]:List ag),P c:=λ_ _ h=>aZ h ca
 have B:cW w s g [] [u,v,.bool b] [.any,.dat d,.dat (.bool b)] (my [] (my [] (my [] λ_=>[]))):=
  .cons (λ_=>rfl) (no _) (λ_ _ _ _=>no _) (.cons (λ_=>⟨r,rfl⟩) (no _) (λ_ _ _ _=>no _) (.cons (λ_=>⟨.bool _,rfl⟩) (no _) (λ_ _ _ _=>no _) (.nil dq.nil)))
 exact(G.at_ w).rec λdoc pm bA ct an f h1=>
  nU (aI:=[("self":Str),"value","name"]) S R B f rfl h1 (C doc pm bA ct an s u v) rfl Y V W (rE▸h) λv s' ab g' aC d Z H R' hk=>⟨g',d,H.nx,H.st,R',hk⟩
end
def sG(b:Bd)(x dx hl:ag)(l:List D):Prop:=b=.dU x dx hl l\/b=.hdr x dx hl l
theorem sG.rep{b:Bd}{x hl:ag}(h:sG b x dx hl l){ad:List ag}(r:cU w s g ab v ad b):CJ w s g v ad x dx hl l:=by
 rcases h with rfl|rfl<;>exact r
theorem jj.step{x hl:ag}(P:jj w s g x dx hl af)(N:Nx [] s g s' g')(S:St w s g):jj w s' g' x dx hl af:=by
 obtain⟨⟨o,V,Y⟩,⟨W,es,n,Z,H⟩,⟨G,e⟩,C⟩:=P
 exact⟨⟨o,N.gg _ _ V,Y⟩,⟨W,es,n,N.gg _ _ Z,H⟩,N.plain S ⟨G,e⟩ (by simp),N.old _ _ e C (by simp)⟩
section
variable {n m:Nat} {sc:bf} {ρ:ay}
theorem A9{x:ag}{mA:Str->Option ai}{o:au}{name:Str}{f:ag}{args:List au}{V:List Keyword}(M:m_ name f)(hm:mA name=aU)
 (hb:mR o name ab (eval o ab)=eval o ab)(ha:args.all cu=ae)(Y:(backToKw aM (AA V ab)).all (λx=>x.1.isSome)=ae)(hfew:args.length+V.length<29)(W:(eT.endLine==aM.line)=ae)
 (h:wpAny (model PG w) A (eval o ab) (λov aA=>ov=.ref x/\(∃aN,St w aA aN/\aA.heap.Inst x 258 mA)/\wpAny (model PG w) A (evalArgs (.ref f) ae (backTo aM (starEach args ab)) (backToKw aM (AA V ab))) (λa aT=>(∃bb,St w aT bb)/\wpAny (model PG w) A (call (.ref f) (.ref x::a.pos) a.kw) Q E aT) E aA) E s):
 wpAny (model PG w) A (eval (bU (cC o name eT) args V aM) ab) Q E s:=by
 have Z:F7 (args.length+V.length) (backTo aM (starEach args ab)) (backToKw aM (AA V ab))=ae:=by
  unfold F7
  rw[Y,(cE ha).1]
  split<;>simp<;>omega
 have H:QU ae o ab eT aM=pure aM:=by unfold QU;simp[W]
 simp only[arm_eval_Call,hb]
 refine aJ (er h (λov aA ⟨e,⟨aN,G,I⟩,C⟩=>?_) λ_ _ e=>e)
 subst e
 refine jd ?_
 unfold methodCall
 refine Z▸?_
 refine aJ (eM (Tu G M I hm ?_))
 refine rT H ?_
 refine j8 (P:=λhp=>(KH w).In hp) ?_ (λhp X=>?_) (er C (λa aT q_=>by obtain⟨⟨bb,B⟩,gd⟩:=q_;exact⟨B.df,gd⟩) λ_ _ e=>e)
 ·rw[(cE ha).2]
  rw[ef] at Y
  rw[Ah,Fm]
  intro y hy
  have:=Y y hy
  induction q:y.1 with
  |none=>replace this:=q▸this;exact ft this
  |some z=>simp
 ·obtain⟨o,h1,h2⟩:=M.fn w
  exact keeps_K (K:=KH w) (M.keep w) hp X
theorem Lh:m_ "_convert_string_type" 159:=⟨λP=>by ac_rfl,λw=>⟨_,rfl,rfl⟩,⟨aU,by rw[j5,jX];kernel_rfl⟩,rfl,λw=>by ac_rfl⟩
theorem WF:m_ "get_all" 197:=⟨λP=>by ac_rfl,λw=>⟨_,rfl,rfl⟩,⟨aU,by rw[j5,jX];kernel_rfl⟩,rfl,λw=>by ac_rfl⟩
theorem uD:m_ "items" 222:=⟨λP=>by ac_rfl,λw=>⟨_,rfl,rfl⟩,⟨aU,by rw[j5,jX];kernel_rfl⟩,rfl,λw=>by ac_rfl⟩
theorem acH:m_ "add_header" 255:=⟨λP=>by ac_rfl,λw=>⟨_,rfl,rfl⟩,⟨aU,by rw[j5,jX];kernel_rfl⟩,rfl,λw=>by ac_rfl⟩
theorem aj.conv{hl:ag}{b:Bool}{f:Pos}(hx:ρ.lookup x=aa bx)(hp:sG bx X dx hl l)(Z:ce x=ae)(he:cu e=ae)(W:(eT.endLine==aM.line)=ae)
 (h:aj n sc ρ e λd=>nq n 159 d b k):aj n sc ρ (bU (cC (aS x xp) "_convert_string_type" eT) [e] [⟨aa "name",jH (.bool b) c cp,f⟩] aM) k:=.mk λw A ab s g S R V E=>by
 have B:[e].all cu=ae:=by simp[he]
 refine ba λN_=>?_
 obtain⟨v,ad,h1,h2⟩:=V.var x _ hx
 obtain⟨af,rfl,P,rl,_⟩:=hp.rep h2
 apply N_
 refine A9 Lh (AQ Lh) rfl B rfl (by simp) W (eQ (d3 V.kind h1 Z ⟨rfl,⟨g,S,P.yP S⟩,?_⟩) (d4 Z))
 refine fk (cE B).1 rfl (bg (cn.ok (k:=λds=>∃d,ds=[d]/\nq n 159 d b k) B (ia (h.mono λd q=>fR ⟨d,rfl,q⟩)) w A ab s g aM S R V E) (λvs aA ⟨aN,ds,H,Y,G,d,e1,C⟩=>?_))
 subst e1
 obtain⟨u,rfl,hu⟩:=G.one
 show wpAny _ A (evalAll [do let v <-eval (jH (.bool b) c cp) ab;standAt aM;pure v]) _ E aA
 refine E7 (aJ (O2 (jd (a8 ?_))))
 exact fB ⟨⟨aN,Y⟩,Out.back H (C.run w A aA aN (.ref X) u Y R hu E)⟩
structure i7(n:Nat)(fa:ag)(l:List D)(ds:List D)(k:D->Prop):Prop where
 run:∀(w:a9) (A:bN) (s:av) (g:aY) (X dx hl:ag) (af:Array ai) (vs:List ai),St w s g->Rm n A->jj w s g X dx hl af->aP w g af.toList l->aP w g vs ds->∀E,wpAny (model PG w) A (call (.ref fa) (.ref X::vs)) (Out w s g k) E s
theorem i7.le{ds:List D}(h:i7 m fa l ds k)(V:m<=n):i7 n fa l ds k:=⟨λw A s g X dx hl af vs S R P r q E=>h.run w A s g X dx hl af vs S (R.le V) P r q E⟩
theorem cW.Cv{ds:List D}{hl:ag}{b:Bd}(M:dq w s g mu)(V:b=.dU X dx hl l/\mu=[hl]\/b=.hdr X dx hl l/\mu=[])(P:jj w s g X dx hl af)(hr:aP w g af.toList l)(r:aP w g vs ds):
 cW w s g mu (.ref X::vs) (b::ds.map Bd.dat) (my [hl] λ_=>[]):=
 .cons (λ_=>V.elim (λq=>q.1▸⟨af,rfl,P,hr,rfl⟩) (λq=>q.1▸⟨af,rfl,P,hr,rfl⟩)) (λc Y=>by
  refine P.list.elim λW e=>?_
  rcases V with ⟨rfl,rfl⟩|⟨rfl,rfl⟩
  ·exact Y
  ·exact⟨⟨_,(a_.mp Y).symm▸e⟩,ca⟩) (λ_ _ _ _ _ _ h=>ca h) (.Md M r)
theorem i7.intro{name:Str}{ds:List D}(C:si fa name bI params body sc)
 (B:∀doc pm bA ct an (s:av) vs,vs.length=ds.length+1->fQ s (gr name bI params body sc .none .none doc pm bA ct an) ⟨vs,[]⟩ (aI.zip vs))
 (W:g6 aI sc []=ae)(Y:aI.length=ds.length+1)(V:sc.names.all (λx=>!(x.2==.free))=ae)(Z:(d5 sc).isNone=ae)
 (h:∀X dx hl,aL n sc (bindR aI (.hdr X dx hl l::ds.map Bd.dat)) body (fM k)):i7 (n+2) fa l ds k:=.mk λw A s g X dx hl af vs S R P r q E=>
 (C.at_ w).rec λdoc pm bA ct an f h1=>
  nU S R (cW.Cv dq.nil (.inr ⟨rfl,rfl⟩) P r q) f rfl h1 (B doc pm bA ct an s (.ref X::vs) (aQ _ q.1)) (Y.trans (aQ (·+1) (aR ..).symm)) W V Z (h X dx hl) λv s' ab g' aC d G H R' hk=>⟨g',d,H.nx,H.st,R',hk⟩
theorem aj.rO{name:Str}{hl:ag}{args:List au}(M:m_ name fa)(hx:ρ.lookup x=aa bx)(hp:sG bx X dx hl l)(H:ce x=ae)(f:args.all cu=ae)(G:args.length<29)(Z:(eT.endLine==aM.line)=ae)
 (h:cn n sc ρ args λds=>i7 n fa l ds k):aj n sc ρ (bU (cC (aS x xp) name eT) args [] aM) k:=.mk λw A ab s g S R V E=>by
 refine ba λN_=>?_
 obtain⟨v,ad,h1,h2⟩:=V.var x _ hx
 obtain⟨af,rfl,P,rl,_⟩:=hp.rep h2
 apply N_
 refine A9 M (AQ M) rfl f rfl (by exact G) Z (eQ (d3 V.kind h1 H ⟨rfl,⟨g,S,P.yP S⟩,?_⟩) (d4 H))
 refine fk (cE f).1 rfl (bg (cn.ok f h w A ab s g aM S R V E) (λvs aA ⟨aN,ds,Y,W,C,B⟩=>?_))
 exact fB ⟨⟨aN,W⟩,Out.back Y (B.run w A aA aN X dx hl af vs W R (P.step Y S) (rl.mono Y.gg) C E)⟩
theorem Tz{LU V step:Option au}{T id:String}(hl:mT (aK T) "__getitem__"=pure (aa (.builtin id)))
 (h:wpAny (model PG w) A (eval cX ab) (λo aA=>wpAny (model PG w) A (eval (.Slice LU V step p) ab) (λi aT=>aT.TypeIs o T/\wpAny (model PG w) A (getItem o i) Q E aT) E aA) E s):
 wpAny (model PG w) A (eval (dN cX (.Slice LU V step p) aM) ab) Q E s:=by
 refine AJ (er h (λo aA W=>er W (λi aT G=>G.elim λH C=>?_) λ_ _ x=>x) λ_ _ x=>x)
 refine aJ ?_
 rw[getitemInPython_of_ne H.not_modules]
 refine wO H hl ?_
 have dk:∀l,wpAny (model PG w) A (operate l (getItem o i)) (λr Y=>wpAny (model PG w) A (F8 cX o r>>=λ_=>pure r) Q E Y) E aT:=λl=>
  wpAny_operating (er C (λr Y Z=>aJ (wpAny_letTemporaryGo (a8 Z))) λ_ _ x=>x)
 refine a8 (aJ ?_)
 induction step with
 |none=>exact dk [i,o]
 |some e=>exact dk [o,i]
theorem aj.WG{hl:ag}(hx:ρ.lookup x=aa bx)(hp:sG bx X dx hl l)(Z:ce x=ae)(H:l.length<=10000)(hk:k (.lst l)):
 aj n sc ρ (dN (cC (aS x xp) "_headers" ap) (.Slice aU aU aU sp) aM) k:=.mk λw A ab s g S R V E=>by
 refine ba λN_=>?_
 obtain⟨v,ad,h1,h2⟩:=V.var x _ hx
 apply N_
 refine ba λN_=>?_
 obtain⟨af,rfl,P,rl,_⟩:=hp.rep h2
 apply N_
 refine Tz Fe.lookup (Ac (eQ (d3 V.kind h1 Z (xe S P ?_)) (d4 Z)))
 obtain⟨G,C⟩:=S.ext' (h':=s.heap) (tk:=s.toks+1) λ_ _ e=>e
 refine GX (a8 (a8 (a8 ?_)))
 have Ny:({s with heap:=s.heap.push {cls:=aK "slice",data:=bC #[fY aU,fY aU,fY aU]},toks:=s.toks+1}:av).heap.IsSlice s.heap.objs.size aU aU aU:=⟨_,cB _ rfl,rfl,rfl⟩
 obtain⟨f,gf⟩:=C.ext' (h':=s.heap.push {cls:=aK "slice",data:=bC #[fY aU,fY aU,fY aU]}) (tk:=s.toks+1) λb o e=>bZ _ e
 refine P.list.elim λnn e1=>?_
 have e2:=bZ {cls:=aK "slice",data:=bC #[fY aU,fY aU,fY aU]} e1
 have hL:({s with heap:=s.heap.push {cls:=aK "slice",data:=bC #[fY aU,fY aU,fY aU]},toks:=s.toks+1}:av).heap.IsList hl af:=⟨_,e2,rfl,nn,rfl⟩
 have eU:af.size=l.length:=by have:=rl.1;exact this
 refine⟨hL.typeIs,?_⟩
 refine N8 hL ⟨_,cB _ rfl,rfl,rfl⟩ (rG aU) (rG aU) (rG aU) (dC tT) ?_ (by rw[eU];have:sizeLine=2^24:=rfl;exact bd (aV H (lT tT)))
 refine Out.trans (G.trans f) (Out.newList (tk:=s.toks+1) gf (l:=l) ?_ hk) λ_ x=>x
 show aP w g (slicePick af aU aU aU).toList l
 rw[slicePick_all];exact rl
theorem gx.dU{t:au}{hl:ag}{k:List D->Prop}(hx:ρ.lookup x=aa bx)(hp:sG bx X dx hl l)(Z:ce x=ae)(H:l.length<=10000)(hk:k l):
 gx n sc ρ t (cC (aS x xp) "_headers" ap) k:=.mk λw A ab s g S R V E=>by
 refine ba λN_=>?_
 obtain⟨v,ad,h1,h2⟩:=V.var x _ hx
 apply N_
 refine ba λN_=>?_
 obtain⟨af,rfl,P,rl,_⟩:=hp.rep h2
 apply N_
 refine Ac (eQ (d3 V.kind h1 Z (xe S P ?_)) (d4 Z))
 obtain⟨G,C⟩:=S.ext' (h':=s.heap) (tk:=s.toks+1) λ_ _ e=>e
 refine P.list.elim λnn e1=>?_
 have hL:({s with toks:=s.toks+1}:av).heap.IsList hl af:=⟨_,e1,rfl,nn,rfl⟩
 refine tq hL ?_
 refine(C.ext' (h':=s.heap.push {cls:=aK "list_iterator",data:=bC #[.ref hl,.int 0 0]}) (tk:=s.toks+1) λb o e=>bZ _ e).elim λf Y=>?_
 have hI:=cB s.heap (o:={cls:=aK "list_iterator",data:=bC #[.ref hl,.int 0 0]}) rfl
 have e_:hl≠s.heap.objs.size:=λe=>by simp only[e,lj] at e1;exact ns e1
 have eh:=bZ {cls:=aK "list_iterator",data:=bC #[.ref hl,.int 0 0]} e1
 refine⟨_,[s.heap.objs.size,hl],[s.heap.objs.size],_,l,g,rfl,G.trans f,Y,dz.list R.2.2 _ hl e_ t af l rl,⟨⟨_,hI,rfl,rfl⟩,⟨_,eh,rfl,nn,rfl⟩⟩,λb hb=>?_,λb hb=>?_,H,hk⟩
 ·have:b=s.heap.objs.size:=a_.1 hb
  subst this;exact(h_ S (a:=s.heap.objs.size) (bv _))
 ·rcases bT.mp hb with e|hb
  ·subst e;exact⟨Y.dQ hI (.inl (by simp)),cq hI,.inl (bi)⟩
  ·have:b=hl:=a_.1 hb
   subst this
   exact⟨Y.dQ eh (.inl (by simp)),cq eh,.inr (.inr ⟨af,nn,eh⟩)⟩
end
theorem UR{M:om}{c:Prop}[Decidable c]{m n:Sem α}{f:α->Sem β}{v:α}{Q:β->av->Prop}(V:∀{Q:α->av->Prop},Q v s->wpAny M A m Q E s)(Y:∀{Q:α->av->Prop},Q v s->wpAny M A n Q E s)(k:wpAny M A (f v) Q E s):wpAny M A (if c then m>>=f else n>>=f) Q E s:=by
 split
 ·exact aJ (V k)
 ·exact aJ (Y k)
theorem Yw{l Z nl:ag}{new:Array ai}{Q:Unit->av->Prop}(hl:s.heap.PlainList l af)(hs:s.heap.IsSliceOf Z .none .none .none)(hn:s.heap.IsList nl new)(B:af.size<=100000)(W:new.size<=100000)
 (hQ:∀h',h'.PlainList l new->kI l s.heap h'->Q () {s with heap:=h'}):wpAny (model PG w) A (setItem (.ref l) (.ref Z) (.ref nl)) Q E s:=by
 refine hl.elim λn ho=>?_
 refine ba λN_=>?_
 obtain⟨os,Y,hcs,H⟩:=id hs
 obtain⟨on,M2,hcn,nn,zc⟩:=id hn
 apply N_
 have hT:s.TypeIs (.ref l) "list":=⟨_,ho,rfl⟩
 have M3:s.TypeIs (.ref Z) "slice":=⟨os,Y,hcs⟩
 refine eM ?_
 refine aJ (PE hT (rfl) ?_)
 refine aJ (qA (name:=a6 "__setitem__") hT zQ
  (j4 zQ hT Po ?_ (PF _ _ _)))
 show wpAny _ _ (zi (.ref Z)>>=_) _ _ s
 have sub:∀{Q:Option Int->av->Prop},Q aU s->wpAny (model PG w) A.in1 (zi (.ref Z)) Q E s:=λ{Q} V=>by
  unfold zi
  exact wO M3 slice_no_index (a8 V)
 have G:∀{Q:ai×ai×ai->av->Prop},Q (.none,.none,.none) s->wpAny (model PG w) A.in1 (NX (.ref Z)) Q E s:=λ{Q} V=>by
  rw[listSliceParts_eq]
  refine aJ (Az Y H (x:=.none) rfl (aJ (Gb .none ?_)))
  refine w_field Y H (x:=.none) rfl (aJ (Gb .none ?_))
  exact w_field Y H (x:=.none) rfl (aJ (Gb .none (a8 V)))
 refine aJ (sub ?_)
 refine pG M3 ?_
 show wpAny _ _ (NX (.ref Z)>>=_) _ _ s
 refine aJ (G ?_)
 have li:∀{Q:Array ai->av->Prop},Q new s->wpAny (model PG w) A.in1 (On (.ref nl)) Q E s:=λ{Q} V=>by
  exact lZ M2 zc (a8 V)
 have lal:∀{Q:Array ai->av->Prop},Q new s->wpAny (model PG w) A.in1 (adV (.ref nl) "must assign iterable to extended slice") Q E s:=λ{Q} V=>by
  refine pG (T:="list") ⟨on,M2,hcn⟩ ?_
  exact li V
 have lx:∀{Q:Array ai->av->Prop},Q af s->wpAny (model PG w) A.in1 (On (.ref l)) Q E s:=λ{Q} V=>by
  exact lZ ho rfl (a8 V)
 have lu:∀{f:Array ai->Array ai} {Q:Unit->av->Prop},(∀h',h'.PlainList l (f af)->kI l s.heap h'->Q () {s with heap:=h'})->(f af).size<=100000->wpAny (model PG w) A.in1 (Od (.ref l) f) Q E s:=λ{f Q} V hz=>by
  exact FR ho rfl (V _ ⟨_,wU (n:=n) ho f⟩ (gH ..)) (bd (aV B (lT tT))) (bd (aV hz (lT tT)))
 have dk:∀h',h'.PlainList l (af.extract 0 (0:Int).toNat++new++af.extract (max (0:Int) (af.size:Int)).toNat af.size)->kI l s.heap h'->Q () {s with heap:=h'}:=λh' q1 q2=>hQ h' (by
  have e1:(max (0:Int) (af.size:Int)).toNat=af.size:=II
  rw[e1] at q1
  simpa using q1) q2
 have hz:(af.extract 0 (0:Int).toNat++new++af.extract (max (0:Int) (af.size:Int)).toNat af.size).size<=100000:=by
  have e1:(max (0:Int) (af.size:Int)).toNat=af.size:=II
  rw[e1];simpa using W
 have C:¬(zj (af.size+new.size)=ae):=by unfold zj;simp;exact aD (fW B W) (lB tT)
 refine UR (v:=new) li lal ?_
 refine aJ (lx ?_)
 refine aJ (tP (sliceIndices_raw aU aU aU af.size (dC tT)) ?_)
 show wpAny _ _ (if ((1:Int)==1)=ae then _ else _) _ _ _
 refine wpAny_ite_true rfl (kg (wpAny_ite_false (eY C) ?_))
 exact aJ (lu (λh' q1 q2=>xG (a8 ⟨_,rfl,a8 (dk h' q1 q2)⟩)) hz)
section
variable {n m:Nat} {sc:bf} {ρ:ay}
inductive mh(w:a9)(s:av)(g:aY)(X dx hl:ag)(l':List D)(s':av):Prop
 |mk (g' me:_) (N:Nx [hl] s g s' g') (S:St w s' g') (P:jj w s' g' X dx hl me) (hr:aP w g' me.toList l')
theorem mh.trans{hl:ag}(N:Nx [] s g aA aN)(o:mh w aA aN X dx hl l' aT):mh w s g X dx hl l' aT:=
 let ⟨g',V,Y,S,P,hr⟩:=o;⟨g',V,(N.more (fU)).trans Y,S,P,hr⟩
structure hH(n:Nat)(fa:ag)(l ds l':List D):Prop where
 run:∀(w:a9) (A:bN) (s:av) (g:aY) (X dx hl:ag) (af:Array ai) (vs:List ai),St w s g->Rm n A->dq w s g [hl]->jj w s g X dx hl af->aP w g af.toList l->aP w g vs ds->∀E,
  wpAny (model PG w) A (call (.ref fa) (.ref X::vs)) (λ_=>mh w s g X dx hl l') E s
theorem hH.le{ds:List D}(h:hH m fa l ds l')(V:m<=n):hH n fa l ds l':=⟨λw A s g X dx hl af vs S R M P r q E=>h.run w A s g X dx hl af vs S (R.le V) M P r q E⟩
theorem hH.intro{name:Str}{ds:List D}(B:si fa name bI params body sc)
 (f:∀doc pm bA ct an (s:av) vs,vs.length=ds.length+1->fQ s (gr name bI params body sc .none .none doc pm bA ct an) ⟨vs,[]⟩ (aI.zip vs))
 (Z:g6 aI sc []=ae)(W:aI.length=ds.length+1)(Y:sc.names.all (λx=>!(x.2==.free))=ae)(G:(d5 sc).isNone=ae)
 (h:∀X dx hl,aL n sc (bindR aI (.dU X dx hl l::ds.map Bd.dat)) body (ly λ_ aC=>aC.lookup (a6 "self")=aa (.dU X dx hl l'))):hH (n+2) fa l ds l':=.mk λw A s g X dx hl af vs S R M P r q E=>
 (B.at_ w).rec λdoc pm bA ct an h0 h1=>
  nU S R (cW.Cv M (.inl ⟨rfl,rfl⟩) P r q) h0 rfl h1 (f doc pm bA ct an s (.ref X::vs) (aQ _ q.1)) (W.trans (aQ (·+1) (aR ..).symm)) Z Y G (h X dx hl) λv s' ab g' aC d C H R' hk=>by
  refine ba λN_=>?_
  obtain⟨u',_,V,rfl,w3,w4,w5⟩:=H.var _ _ hk
  exact N_ ⟨g',V,H.nx,H.st,w3,w4⟩
section
variable {w:a9} {mu:List ag} {aw s s':av} {aE g g':aY} {ab:Env} {aB:Str->List ag} {x:Str} {X dx hl:ag} {l l':List D}
theorem bj.uX(H:bj w mu aw aE s g ab sc ρ aB)(V:ρ.lookup x=aa (.dU X dx hl l)):dq w s g [hl]:=λb Y=>by
 have:b=hl:=a_.1 Y
 subst this
 refine ba λW=>?_
 obtain⟨u,G,af,rfl,C,B,Z⟩:=H.var x _ V
 apply W
 exact H.rebase.1.fz b (ua V rfl (by rw[Z];simp))
theorem bj.pg(H:bj w mu aw aE s g ab sc ρ aB)(G:ρ.lookup x=aa (.dU X dx hl l))(o:mh w s g X dx hl l' s'):∃g' Y,bj w mu aw aE s' g' ab sc ((x,.dU X dx hl l')::ρ) Y:=by
 obtain⟨g',V,N,B,f,hr⟩:=o
 obtain⟨u,u1,af,rfl,u3,u4,C⟩:=H.var x _ G
 obtain⟨nn,en⟩:=u3.list
 refine⟨g',_,H.change (mt:=[hl]) (io:=[hl]) G rfl rfl N B (λb W=>by rw[C];exact W) (λb W o e=>?_) (λv' _ r=>?_) (λb W=>.inl (by rw[C];exact W))⟩
 ·have:b=hl:=a_.1 W
  subst this;rw[en] at e;obtain rfl:=aW e;exact cV.of λvs q=>by cases q
 ·obtain⟨Z,rfl,_⟩:=r
  exact⟨V,rfl,f,hr,rfl⟩
theorem mh.own{V:Array ai}(S:St w s g)(M:dq w s g [hl])(P:jj w s g X dx hl af)(hs:kI hl s.heap h')(W:h'.PlainList hl V)(hr:aP w g V.toList l'):mh w s g X dx hl l' {s with heap:=h',toks:=tk}:=by
 refine P.list.elim λH e=>?_
 obtain⟨N,Z⟩:=St.changes (mt:=[hl]) (h':=h') (tk:=tk) S S (Nx.refl [hl] s g) M (λb Y=>by
  have:b=hl:=a_.1 Y
  subst this;exact⟨.inr (bi),P.yr,_,e,cV.of λvs q=>by cases q⟩) (λb o Y e=>(hs.2 b (by simpa using Y)).trans e)
 exact⟨g,V,N,Z,⟨P.inst,P.dict,W,P.yr⟩,hr⟩
end
end
section
variable {n m:Nat} {sc:bf} {ρ:ay}
theorem aO.Yx{name:Str}{hl:ag}{args:List au}{k:Fl->ay->Prop}(M:m_ name fa)(hx:ρ.lookup x=aa (.dU X dx hl l))(Z:ce x=ae)(ha:args.all cu=ae)(G:args.length<29)(W:(eT.endLine==e6.line)=ae)
 (hV:∀ab,iA (bU (cC (aS x xp) name eT) args [] e6) aU aM.line ab=pure aH)
 (h:cn n sc ρ args λds=>∃l',hH n fa l ds l'/\k .next ((x,.dU X dx hl l')::ρ)):aO n sc ρ (.Expr (bU (cC (aS x xp) name eT) args [] e6) aM) k:=.mk λw A ab mu aw aE s g aB H R E=>by
 refine qW ?_ (by dsimp only[rj];rw[H.kind];rfl) (hV ab)
 refine ba λN_=>?_
 obtain⟨v,h1,af,rfl,P,rl,h6⟩:=H.var x _ hx
 apply N_
 refine A9 M (AQ M) rfl ha rfl (by exact G) W (eQ (d3 H.kind h1 Z ⟨rfl,⟨g,H.st,P.yP H.st⟩,?_⟩) (d4 Z))
 refine fk (cE ha).1 rfl (bg (cn.ok ha h w A ab s g e6 H.st R H.cI E) (λvs aA ⟨aN,ds,V,Y,C,l',B,hk⟩=>?_))
 have H1:=H.step V Y
 refine fB ⟨⟨aN,Y⟩,bg (B.run w A aA aN X dx hl af vs Y R (H1.uX hx) (P.step V H.st) (rl.mono V.gg) C E) (λr aT o=>?_)⟩
 refine(H1.pg hx o).elim λbb lG=>lG.elim λf H2=>?_
 exact⟨bb,_,.next,f,H2,trivial,hk⟩
theorem Mi{name:Str}{f:ag}(S:St w s g)(I:InstAt g X dx)(W:∀P:bS,yO P name=aa (.ref f))(Z:∀w:a9,∃o,(KH w).lookup f=aa o/\o.cls=aK "function")(hl:∃y,mT (aK "object") name=pure y):s.heap.OwnSpecial X 258 f "object" name:=by
 refine I.elim λo V=>V.elim λH Y=>Y.elim λG _=>?_
 obtain⟨of,h3,C⟩:=Z w
 obtain⟨y,B⟩:=hl
 exact⟨o,of,_,_,257,_,_,_,_,_,_,_,_,_,_,_,_,_,_,yO w.params,y,S.sub _ _ H,G,p4 S,uN S,W _,S.df _ _ h3,C,by kernel_rfl,B⟩
theorem Kz{k:ai}{name:Str}(S:St w s g)(I:InstAt g X dx)(W:Q k s):wpAny (model PG w) A (sequenceKey (.ref X) k name) Q E s:=by
 refine ba λZ=>?_
 refine I.elim λo V=>V.elim λH Y=>Y.elim λG _=>?_
 apply Z
 refine aJ (wpAny_typeOf_ref (S.sub _ _ H) ?_)
 refine G▸?_
 refine aJ ?_
 refine aJ (wpAny_isSubtype_exc (p4 S) ?_)
 exact a8 (a8 W)
theorem aO.JM{hl:ag}{i:au}{k:Fl->ay->Prop}(f:ρ.lookup x=aa (.dU X dx hl l))(Z:ce x=ae)
 (h:aj n sc ρ i λd=>∃l',hH n 178 l [d] l'/\k .next ((x,.dU X dx hl l')::ρ)):aO n sc ρ (.Delete [dN (aS x p) i oU] aM) k:=.mk λw A ab mu aw aE s g aB H R E=>by
 refine wpAny_Delete (Ox (Oh ?_))
 refine ba λN_=>?_
 obtain⟨v,h1,af,rfl,P,rl,h6⟩:=H.var x _ f
 apply N_
 refine eQ (d3 H.kind h1 Z ?_) (d4 Z)
 refine h.wp H.st R H.cI λiv aA aN d Y V G q_=>q_.elim λl' q_=>q_.elim λC hk=>?_
 have W:=P.step Y H.st
 refine eM (aJ (Kz V W.inst (aJ (Oo (Mi V W.inst (λP=>by ac_rfl) (λw=>⟨_,rfl,rfl⟩) ⟨aU,by rw[j5,jX];kernel_rfl⟩) ?_))))
 refine bg (C.run w A aA aN X dx hl af [iv] V R ((H.step Y V).uX f) W (rl.mono Y.gg) (.cons G .nil) E) (λr aT o=>a8 (OP ?_))
 obtain⟨bb,B,H2⟩:=(H.step Y V).pg f o
 exact⟨bb,_,.next,B,H2,trivial,hk⟩
theorem aO.WH{hl:ag}{i:au}{k:Fl->ay->Prop}(hx:ρ.lookup x=aa (.dU X dx hl l))(G:ce x=ae)(hs:∀ab,iA cX (aa (dN (aS x p) i oU)) aM.line ab=pure aH)
 (h:aj n sc ρ cX λdv=>aj n sc ρ i λd=>∃l',hH n 173 l [d,dv] l'/\k .next ((x,.dU X dx hl l')::ρ)):aO n sc ρ (fe [dN (aS x p) i oU] cX aM) k:=.mk λw A ab mu aw aE s g aB H R E=>by
 refine zr (h.wp H.st R H.cI λv aA aN dv C W B f=>?_) (hs ab)
 have H1:=H.step C W
 refine ba λN_=>?_
 obtain⟨_,u1,af,rfl,P,rl,h6⟩:=H1.var x _ hx
 apply N_
 refine eQ (d3 H1.kind u1 G ?_) (d4 G)
 refine f.wp W R H1.cI λiv aT bb d V Y qd q_=>q_.elim λl' q_=>q_.elim λgd hk=>?_
 have H2:=H1.step V Y
 have Z:=P.step V W
 refine eM (aJ (Kz Y Z.inst (aJ (Oo (Mi Y Z.inst (λP=>by ac_rfl) (λw=>⟨_,rfl,rfl⟩) ⟨aU,by rw[j5,jX];kernel_rfl⟩) ?_))))
 refine bg (gd.run w A aT bb X dx hl af [iv,v] Y R (H2.uX hx) Z (rl.mono V.gg) (.cons qd (.cons (B.mono V.gg) .nil)) E) (λr kX o=>a8 ?_)
 obtain⟨ii,dX,H3⟩:=H2.pg hx o
 exact⟨ii,_,.next,dX,H3,trivial,hk⟩
theorem aO.Ho{hl:ag}{k:Fl->ay->Prop}(hx:ρ.lookup x=aa (.dU X dx hl l))(hO:ce x=ae)(ha:cu e=ae)(f:(eT.endLine==e6.line)=ae)(jt:l.length<=10000)
 (hb:∀ab,mR (cC (aS x xp) "_headers" ap) "append" ab (eval (cC (aS x xp) "_headers" ap) ab)=eval (cC (aS x xp) "_headers" ap) ab)
 (hV:∀ab,iA (bU (cC (cC (aS x xp) "_headers" ap) "append" eT) [e] [] e6) aU aM.line ab=pure aH)
 (h:aj n sc ρ e λd=>k .next ((x,.dU X dx hl (l++[d]))::ρ)):aO n sc ρ (.Expr (bU (cC (cC (aS x xp) "_headers" ap) "append" eT) [e] [] e6) aM) k:=.mk λw A ab mu aw aE s g aB H R E=>by
 have G:[e].all cu=ae:=by simp[ha]
 refine qW ?_ (by dsimp only[rj];rw[H.kind];rfl) (hV ab)
 obtain⟨v,h1,af,rfl,P,rl,h6⟩:=H.var x _ hx
 refine ny (hb ab) ?_ f rfl (Ac (eQ (d3 H.kind h1 hO (xe H.st P ?_)) (d4 hO)))
 ·rw[(cE G).1]
  rfl
 ·refine(H.st.ext' (h':=s.heap) (tk:=s.toks+1) λ_ _ e=>e).elim λC W=>?_
  have H1:=H.step C W
  have B:=P.step C H.st
  refine B.list.elim λnn en=>?_
  refine⟨"list","list.append",cM.append.pa,cM.append.slot,cM.append.ty,⟨_,en,rfl⟩,λb e=>(by cases e;exact⟨_,en,rfl⟩),?_⟩
  refine nN (cE G).2 (fk (cE G).1 rfl (bg (cn.ok (k:=λds=>∃d,ds=[d]/\k .next ((x,.dU X dx hl (l++[d]))::ρ)) G (ia (h.mono λd q=>fR ⟨d,rfl,q⟩)) w A ab _ g e6 W R H1.cI E) (λvs aT ⟨bb,ds,V,Y,qd,d,e1,hk⟩=>?_)))
  subst e1
  have Z:=B.step V W
  refine fB ((kP.append (n:=n) (d:=d) (bd (aV jt (by simp)))).run w A aT bb hl af vs Y R Z.list (rl.mono V.gg) qd Z.yr _ E λh' tk me q1 q2 q3=>?_)
  refine((H1.step V Y).pg hx (mh.own (tk:=tk) Y ((H1.step V Y).uX hx) Z q1 q2 q3)).elim λii lG=>lG.elim λdX H3=>?_
  exact⟨ii,_,.next,dX,H3,trivial,hk⟩
theorem aO.TA{hl:ag}{k:Fl->ay->Prop}(hx:ρ.lookup x=aa (.dU X dx hl l))(Z:ce x=ae)(G:l.length<=10000)
 (hs:∀ab,iA cX (aa (dN (cC (aS x xp) "_headers" ap) (.Slice aU aU aU sp) oU)) aM.line ab=pure aH)
 (h:aj n sc ρ cX λd=>∃l',d=.lst l'/\l'.length<=10000/\k .next ((x,.dU X dx hl l')::ρ)):aO n sc ρ (fe [dN (cC (aS x xp) "_headers" ap) (.Slice aU aU aU sp) oU] cX aM) k:=.mk λw A ab mu aw aE s g aB H R E=>by
 refine zr (h.wp H.st R H.cI λv aA aN d C V B ⟨l',e1,lJ,hk⟩=>?_) (hs ab)
 subst e1
 have H1:=H.step C V
 refine ba λN_=>?_
 obtain⟨_,u1,af,rfl,P,rl,h6⟩:=H1.var x _ hx
 apply N_
 refine Ac (eQ (d3 H1.kind u1 Z (xe V P ?_)) (d4 Z))
 refine B.ka λnl nn iK hg rn=>?_
 refine GX (a8 (a8 (a8 ?_)))
 obtain⟨Y,W⟩:=V.ext' (h':=aA.heap.push {cls:=aK "slice",data:=bC #[.none,.none,.none]}) (tk:=aA.toks+1) λb o e=>bZ _ e
 have eU:af.size=l.length:=by have:=rl.1;exact this
 have f:iK.size=l'.length:=by have:=rn.1;exact this
 refine Yw (P.step Y V).list ⟨_,cB _ rfl,rfl,rfl⟩ ⟨_,W.sub _ _ hg,rfl,nn,rfl⟩ (bd (aV (aD (bn eU) G) (lT tT))) (bd (aV (aD (bn f) lJ) (lT tT))) λh' q1 q2=>?_
 refine((H1.step Y W).pg hx (mh.own (tk:=aA.toks+1) W ((H1.step Y W).uX hx) (P.step Y V) q2 q1 rn)).elim λii lG=>lG.elim λdX H3=>?_
 exact⟨ii,_,.next,dX,H3,trivial,hk⟩
end
section
variable {n m:Nat} {sc:bf} {ρ:ay}
theorem KC{aB:Str->List ag}{bp:au}{I:ag}{k:Fl->ay->Prop}(H:bj w mu aw aE s g ab sc ρ aB)(N:Nx [] s g aT bb)(S:St w aT bb)(W:s.heap.get? I=aU)(B:bb I=aU)(hc:∃o,aT.heap.get? I=aa o/\cV o)
 (V:∀Q:Option ai->av->Prop,(∀h',wJ I aT.heap h'->Q aU {aT with heap:=h'})->∀E,wpAny (model PG w) A (pyNext (.ref I)) Q E aT)(hk:k .next ρ):
 codeAny (model PG w) A (.forLoop bp (.ref I) body [] ab) (λr s'=>match r with|.ok f=>Fin w mu aw aE ab sc k f s'|.error e=>cameBackBy (model PG w) A ab E e s') aT:=by
 refine O4 (λ_ s'=>s'=aT) (λm s' e=>?_) 0 rfl
 subst e
 refine V _ (λh' hx=>?_) _
 have H3:bj w mu aw aE {s' with heap:=h'} bb ab sc ρ aB:=by
  refine(H.step N S).rV (wr:=[I]) (tk:=s'.toks) (λb o Z e=>hx b o (by simpa using Z) e) (λa G=>?_) (λq=>?_) (λx c C q=>?_) λx b Z a G q=>?_
  ·have:a=I:=a_.1 G
   subst this
   refine⟨?_,B,hc⟩
   by_cases q:a∈mu
   ·exact .inr q
   ·induction e':aw.heap.get? a with
    |none=>exact .inl rfl
    |some o=>obtain⟨o',Y⟩:=H.nx.there a o e' q;rw[W] at Y;exact ns Y
  ·have:ab.locals=I:=a_.1 q
   obtain⟨mL,o,_,_,e,_⟩:=H.gE
   rw[this,W] at e;exact ns e
  ·have:c=I:=a_.1 q
   obtain⟨_,⟨_,o,e,_⟩,_⟩:=H.cP x c C
   rw[this,W] at e;exact ns e
  ·have:a=I:=a_.1 q
   obtain⟨⟨_,o,e⟩,_⟩:=H.dI x b Z a G
   rw[this,W] at e;exact nomatch e
 exact wq ⟨bb,ρ,.next,aB,H3,trivial,hk⟩
theorem aO.RP{bp:au}{k:Fl->ay->Prop}(hx:ρ.lookup x=aa (.dat (.cO [])))(G:ce x=ae)(Z:(eT.endLine==e6.line)=ae)(hs:∀ab v,ir (bU (cC (aS x xp) "items" eT) [] [] e6) ab v=pure v)(hk:k .next ρ):
 aO n sc ρ (.For bp (bU (cC (aS x xp) "items" eT) [] [] e6) body [] aM) k:=.mk λw A ab mu aw aE s g aB H R E=>by
 refine HL ?_ (hs ab)
 refine ba λN_=>?_
 obtain⟨v,h1,r,_⟩:=H.var x _ hx
 apply N_
 refine ba λN_=>?_
 obtain⟨a,nn,es,rfl,hg,e_,bh,hD,e1,e2⟩:=uC H.st r
 have e0:bh=[]:=by simpa using e1
 subst e0
 apply N_
 refine ny rfl rfl Z rfl (eQ (d3 H.kind h1 G ?_) (d4 G))
 have hT:=(Rep.typeIs H.st r)
 refine⟨"dict","dict.items",F.plainAttrs_dict,F.slot_dict_items,F.type_dict_items,hT.1,hT.2,?_⟩
 refine nN rfl (fk rfl rfl (a8 (fB ?_)))
 have C:(a==gp)=aH:=beq_false_of_ne e_
 refine GF F.slot_dict_items hT.1 F.entry_dict_items (F.args_dict_items_1 _) (meets_dict_items (strKind PG w) a C) ⟨⟨[],hD.dictOf⟩,?_⟩
 refine(H.st.ext' (h':=s.heap.push {cls:=aK "dict_items",data:=bC #[.ref a]}) (tk:=s.toks) λb o e=>bZ _ e).elim λB W=>?_
 refine wpAny_pyIter_items (knd:=strKind PG w) (d:=a) (kvs:=[]) (ep:=nn) ⟨_,cB _ rfl,rfl,rfl⟩ (hD.push _) ?_
 obtain⟨f,gf⟩:=W.ext' (h':=(s.heap.push {cls:=aK "dict_items",data:=bC #[.ref a]}).push {cls:=aK "dict_itemiterator",data:=bC #[.none,.bool aH,.ref a,.int 0 0,.int 0 0,.int nn 0,.none,.none]}) (tk:=s.toks) λb o e=>bZ _ e
 have q:=h_ W (a:=(s.heap.push {cls:=aK "dict_items",data:=bC #[.ref a]}).objs.size) (bv _)
 have qs:=h_ H.st (a:=(s.heap.push {cls:=aK "dict_items",data:=bC #[.ref a]}).objs.size) (by rw[gZ];exact cy _ _)
 have eI:=cB (s.heap.push {cls:=aK "dict_items",data:=bC #[.ref a]}) (o:={cls:=aK "dict_itemiterator",data:=bC #[.none,.bool aH,.ref a,.int 0 0,.int 0 0,.int nn 0,.none,.none]}) rfl
 refine KC H (B.trans f) gf qs.1 qs.2 ⟨_,eI,λvs q t e e'=>by cases e;cases e'⟩ (λQ hQ E=>?_) hk
 exact wpAny_pyNext_items_end (knd:=strKind PG w) (kvs:=[]) R.2.2 eI ((hD.push _).push _) rfl hQ
theorem dq.step(M:dq w s g mu)(N:Nx [] s g s' g')(S:St w s g):dq w s' g' mu:=λa V=>
 have m:=M a V
 m.here.elim λo e=>.of S (N.more fU) M (.inr V) (N.old _ _ e m.off ca) (N.there _ _ e ca)
theorem hH.Yy{name:Str}{G B:D}{n1 n2 n3 n4:Str}(hD:si fa name bI params body sc)
 (hb:∀doc pm bA ct an (s:av) (u v1 Z:ai) (M:om) (A:bN) (E:ai->av->Prop) (Q:List (Str×ai)->av->Prop),Q ([n1,n2,n3,n4].zip [u,v1,Z,.ref s.heap.objs.size]) {s with heap:=s.heap.push {cls:=aK "dict",data:=.dict #[]}}->wpAny M A (bindArgs (gr name bI params body sc .none .none doc pm bA ct an) ⟨[u,v1,Z],[]⟩) Q E s)
 (f:g6 [n1,n2,n3,n4] sc []=ae)(Y:sc.names.all (λx=>!(x.2==.free))=ae)(nu:(d5 sc).isNone=ae)
 (h:∀X dx hl,aL n sc (bindR [n1,n2,n3,n4] [.dU X dx hl l,.dat G,.dat B,.dat (.cO [])]) body (ly λ_ aC=>aC.lookup n1=aa (.dU X dx hl l'))):hH (n+2) fa l [G,B] l':=.mk λw A s g X dx hl af vs S R M P r q E=>by
 refine ba λN_=>?_
 obtain⟨doc,pm,bA,ct,an,lJ,i9⟩:=hD.at_ w
 obtain⟨v1,Z,rfl,q1,q2⟩:=q.two
 have Ea:s.heap.objs.size≠gp:=λe=>by
  obtain⟨mg,o,_,_,e',_⟩:=S.gB
  have:=cq e'
  exact aZ (e▸this) (by decide)
 have e0:=cB s.heap (o:={cls:=aK "dict",data:=.dict #[]}) rfl
 obtain⟨N,W⟩:=S.alloc (o:={cls:=aK "dict",data:=.dict #[]}) (tk:=s.toks) rfl (by simp)
 apply N_
 have rd:Rep w (iB g s.heap.objs.size {cls:=aK "dict",data:=.dict #[]}) (.ref s.heap.objs.size) (.cO []):=
  .cO _ 0 #[] [] (g5 _ _ _) rfl ⟨by simp,Ea⟩ (λi e x d h1 h2=>by simp at h2) λi e x d h1 h2=>by simp at h2
 have C:dR w {s with heap:=s.heap.push {cls:=aK "dict",data:=.dict #[]}} (iB g s.heap.objs.size {cls:=aK "dict",data:=.dict #[]}) [hl] sc [] [] (λ_=>[]):=dR.nil λx e=>by
  have:=ef.mp Y _ (eA e)
  simp at this
 refine lY (mS (HU (aI:=[n1,n2,n3,n4]) W R (cW.Cv (ds:=[G,B,.cO []]) (M.step N S) (.inl ⟨rfl,rfl⟩) (P.step N S) (r.mono N.gg) (.cons (q1.mono N.gg) (.cons (q2.mono N.gg) (.cons rd .nil)))) (S.df _ _ lJ) rfl (CodeRec.of_K S i9) C (.inl rfl) (λM A E Q hq=>hb doc pm bA ct an s (.ref X) v1 Z M A E Q hq) rfl (λc q e=>by rw[vK.mp nu] at e;exact ns e) f (by exact h X dx hl) E) λr s' hr=>?_)
 refine nY r hr (λv q_=>?_) λ_ h=>h
 refine ba λN_=>?_
 obtain⟨ab,g',aC,d,dX,H,R',hk⟩:=q_
 obtain⟨u',_,V,rfl,w3,w4,w5⟩:=H.var _ _ hk
 apply N_
 exact mh.trans N ⟨g',V,H.nx,H.st,w3,w4⟩
end
section
variable {n m:Nat} {sc:bf} {ρ:ay}
theorem dq.new(V:St w aw aE)(N:Nx [] aw aE s g)(h:∀a∈mu,aw.heap.get? a=aU/\g a=aU/\a∉TB/\∃o,s.heap.get? a=aa o):dq w s g mu:=λa Y=>.of V N .nil (.inl (h a Y).1) (h a Y).2.1 (h a Y).2.2.2
theorem aO.WI{Y W f ip:Pos}{k:Fl->ay->Prop}(G:ρ.lookup x=aa (.own a l))(V:ce x=ae)(hm:mine sc x=ae)
 (hs:∀ab,iA (.IfExp (iQ (aS x Y) [.IsNot] [jH .none c np] cp) (aS x W) (.List [] f) ip) (aa (aS x p)) aM.line ab=pure aH)(hk:k .next ρ):
 aO n sc ρ (fe [aS x p] (.IfExp (iQ (aS x Y) [.IsNot] [jH .none c np] cp) (aS x W) (.List [] f) ip) aM) k:=.mk λw A ab mu aw aE s g aB H R E=>by
 obtain⟨v,h1,h2⟩:=H.var x _ G
 obtain⟨af,e0,h3⟩:=id h2
 refine zO (GV (vO (eQ (d3 H.kind h1 V (EZ (Qs ?_))) (d4 V)) rfl)) (hs ab)
 subst e0
 refine nJ ?_
 refine eQ (d3 H.kind h1 V ?_) (d4 V)
 refine H.store (n:=0) hm h2 (λb hb=>?_) (λaT _ Z=>⟨g,_,.next,_,Z.weaken λy c e=>?_,trivial,hk⟩) E
 ·refine(H.dI x _ G b hb).elim λq1 C=>C.elim λq2 q3=>?_
  exact⟨⟨λ_=>q1.1 rfl,q1.2⟩,⟨q2,q3⟩,λy b' hy hf B q=>H.e9 x y _ b' G hy rfl (Ne.symm B) b hb q⟩
 ·by_cases q:y=x
  ·subst q;rw[G] at e;obtain rfl:=aW e;exact EQ
  ·simp only[iu,beq_eq_false_iff_ne.mpr q];exact e
theorem aO.US{yp:Pos}{k:Fl->ay->Prop}(hx:ρ.lookup x=aa (.raw X dx aU))(hO:ce x=ae)(hy:ρ.lookup y=aa (.own a l))(Y:ce y=ae)
 (hs:∀ab,iA (aS y yp) (aa (cC (aS x xp) "_headers" ap)) aM.line ab=pure aH)(hk:k .next ((x,.raw X dx (aa a))::ρ)):
 aO n sc ρ (fe [cC (aS x xp) "_headers" ap] (aS y yp) aM) k:=.mk λw A ab mu aw aE s g aB H R E=>by
 obtain⟨v,h1,af,rfl,h3⟩:=H.var y _ hy
 refine ba λN_=>?_
 obtain⟨u,u1,rfl,⟨ox,i1,i2,B,i4,i5⟩,hd,NC,G⟩:=H.var x _ hx
 apply N_
 refine plainObj_wpAny_Assign_Attribute (eQ (d3 H.kind h1 Y (eQ (d3 H.kind u1 hO ?_) (d4 hO))) (d4 Y)) (hs ab)
 have f:=H.st.sub _ _ i1
 have xC:X≠258:=λe=>by
  rw[e,(p4 H.st)] at f
  have:=aW f
  replace i2:=this▸i2;cases i2
 refine store_attr (ns:=[]) PySem.F.store_object (p4 H.st) (uN H.st) (by ac_rfl) (by ac_rfl) (by rw[j5,jX];kernel_rfl) xC (mA:=qb aU) ⟨ox,f,i2,i4,.inr ⟨dx,B,i5,hd⟩⟩ (λh' Ej I' Ec C=>?_) (λy h=>aZ rfl h) (ck _)
 refine ba λN_=>?_
 obtain⟨W,q1,q2,q3,q4,q5⟩:=C ox f
 have eo:W=ox:=by
  have q6:=q5 dx B
  rw[<-B] at q6
  obtain⟨c1,d1,t1,s1⟩:=W
  obtain⟨c2,d2,t2,s2⟩:=ox
  simp only at q2 q3 q4 q6
  subst q2 q3 q4 q6;rfl
 subst eo
 apply N_
 have keep:∀b o,b∉[dx]->s.heap.get? b=aa o->h'.get? b=aa o:=λb o V e=>by
  by_cases q:b=X
  ·subst q;rw[f] at e;obtain rfl:=aW e;exact q1
  ·refine Ec b o q (λo₀ d' Z ed q'=>?_) e
   rw[f] at Z;obtain rfl:=aW Z;rw[B] at ed;obtain rfl:=aW ed
   exact V (by simp[q'])
 have qq:h'.Ns1 dx (qb (aa a)):=by
  obtain⟨o2,r1,r2,r3,r4⟩:=I'
  rw[q1] at r1;obtain rfl:=aW r1
  rcases r4 with ⟨r5,_⟩|⟨d2,r5,_,r6⟩
  ·exact sn (B.symm.trans r5)
  ·rw[B] at r5;obtain rfl:=aW r5
   obtain⟨oo,es,ep,z1,z2,z3,z4,z5⟩:=r6
   exact⟨oo,es,ep,z1,z2,z3,z4,λy=>(z5 y).trans (by rfl)⟩
 refine ba λN_=>?_
 obtain⟨od,es,ep,ed,dd,r⟩:=hd
 have nc:cV od:=cV.of λvs q=>by cases dd.symm.trans q
 have am:dx∈aB x:=by rw[G];simp
 have M:dq w s g [dx]:=λb V=>by
  have:b=dx:=a_.1 V
  subst this
  exact H.rebase.1.fz b (ua hx rfl am)
 obtain⟨N,S'⟩:=St.changes (mt:=[dx]) (h':=h') (tk:=Ej) H.st H.st (Nx.refl [dx] s g) M (λb V=>by
  have:b=dx:=a_.1 V
  subst this;exact⟨.inr (bi),NC,_,ed,nc⟩) keep
 apply N_
 refine⟨g,_,.next,_,H.change (mt:=[dx]) (io:=[dx]) hx rfl rfl N S' (λb V=>by rw[G];exact V) (λb V o e=>?_) (λv' _ r=>?_) (λb V=>.inl (by rw[G];exact V)),trivial,hk⟩
 ·have:b=dx:=a_.1 V
  subst this;rw[ed] at e;obtain rfl:=aW e;exact nc
 ·obtain⟨rfl,z1,_⟩:=r
  exact⟨rfl,z1,qq,NC,rfl⟩
theorem aO.TC{bp:au}{k:Fl->ay->Prop}(f:ρ.lookup x=aa (.own a []))(V:ce x=ae)(hs:∀ab v,ir (aS x xp) ab v=pure v)(hk:k .next ρ):
 aO n sc ρ (.For bp (aS x xp) body [] aM) k:=.mk λw A ab mu aw aE s g aB H R E=>by
 obtain⟨v,h1,af,rfl,h3,⟨nn,en⟩,h5,h6⟩:=H.var x _ f
 have e0:af=#[]:=by
  have:=h5.1
  induction af with
  |mk l=>simp at this;exact aQ _ this
 subst e0
 have C:s.heap.IsList a #[]:=⟨_,en,rfl,nn,rfl⟩
 refine HL (eQ (d3 H.kind h1 V (tq C ?_)) (d4 V)) (hs ab)
 obtain⟨Y,W⟩:=H.st.ext' (h':=s.heap.push {cls:=aK "list_iterator",data:=bC #[.ref a,.int 0 0]}) (tk:=s.toks) λb o e=>bZ _ e
 have q:=h_ H.st (a:=s.heap.objs.size) (bv _)
 have B:=cB s.heap (o:={cls:=aK "list_iterator",data:=bC #[.ref a,.int 0 0]}) rfl
 refine KC H Y W q.1 q.2 ⟨_,B,λvs q t e e'=>by cases e;simp at e'⟩ (λQ hQ E=>?_) hk
 exact OB R.2.2 ⟨_,B,rfl,rfl⟩ (C.push _) rfl hQ
theorem bH.Q8{k:Bool->Prop}(W:sc.names.lookup (a6 "type")=aa cj)(Z:sc.names.lookup (a6 "list")=aa cj)(H:ρ.lookup x=aa (.own a l))(Y:ce x=ae)(G:k aH):
 bH n sc ρ (iQ (bU (aS (a6 "type") np) [aS x xp] [] cp) [.IsNot] [aS (a6 "list") sp] aM) k:=.mk λw A ab s g S R V E=>by
 refine ba λC=>?_
 obtain⟨v,ad,B,af,rfl,u3,⟨nn,en⟩,u5,u6⟩:=V.var x _ H
 apply C
 refine vO ?_ rfl
 refine lP ((xc W).run w A ab s g ρ S V np _ E ?_)
 refine j8 (P:=λf=>∃k,(k=jE\/k=jC\/k=jz)/\jN (model PG w) f (keeperOf (aK "type")) k) (by rw[(cE (l:=[aS x xp]) rfl).2];rfl) (λ_ q=>q) ?_
 refine fk (cE (l:=[aS x xp]) rfl).1 rfl ?_
 refine qS (eQ (d3 V.kind B Y ?_) (d4 Y)) (nO (by rfl))
 refine a8 ?_
 refine fB ⟨(xc W).keep w s g S,call_type_of (Tx:="list") ⟨_,en,rfl⟩ (rfl) ?_⟩
 refine(bO.boot (v:=aK "list") Z (by intro w;ac_rfl) (by ac_rfl) Boot.«list» (dC tT) (by intro a e;cases e)).run w A ab s g ρ S V sp _ E ?_
 exact a8 (a:=eG (!(cF "list"==cF "list"))) (by exact(rfl:(!(cF "list"==cF "list"))=aH)▸(nJ ⟨g,Nx.refl _ _ _,S,G⟩))
end
section
variable {n m:Nat} {sc:bf} {ρ:ay}
inductive acI(w:a9)(fa:ag)(name bI:Str)(params:iz)(body:List bw)(sc:bf):Prop
 |mk (T:ag) (nT:Nat) (doc pm bA ct:ai) (an:Option ag) (h0:(KH w).lookup fa=aa {cls:=aK "function",data:=.func (gr name bI params body sc (.ref T) .none doc pm bA ct an)}) (h1:(KH w).lookup T=aa {cls:=aK "tuple",data:=.seq #[.none] nT}) (h2:uI w bA bI)
structure Yz(fa:ag)(name bI:Str)(params:iz)(body:List bw)(sc:bf):Prop where
 at_:∀w:a9,acI w fa name bI params body sc
inductive yx(w:a9)(s:av)(g:aY)(X dx a:ag)(r:ai)(s':av):Prop
 |mk (g':_) (N:Nx [dx,a] s g s' g') (S:St w s' g') (hr:r=.none) (hd:s'.heap.Ns1 dx (qb (aa a:_))) (hg:g' dx=aU) (hga:g' a=aU) (hp:s'.heap.PlainList a #[])
theorem yx.intro{name:Str}(hD:Yz 152 name bI params body sc)
 (hb:∀T doc pm bA ct an Z (s:av) u v,s.heap.get? T=aa {cls:=aK "tuple",data:=.seq #[.none] Z}->fQ s (gr name bI params body sc (.ref T) .none doc pm bA ct an) ⟨[u,v],[]⟩ ((["self","headers"]:List Str).zip [u,v]))
 (G:g6 ["self","headers"] sc []=ae)(V:sc.names.all (λx=>!(x.2==.free))=ae)(C:(d5 sc).isNone=ae)
 (h:aL n sc (bindR ["self","headers"] [.raw X dx aU,.own a []]) body (ly λd aC=>d=.none/\aC.lookup (a6 "self")=aa (.raw X dx (aa a))/\aC.lookup (a6 "headers")=aa (.own a [])))
 (S:St w s g)(R:Rm (n+2) A)(M:dq w s g [dx,a])(I:InstAt g X dx)(hd:s.heap.Ns1 dx (qb aU))(hg:g dx=aU)(B:g a=aU)(hp:s.heap.PlainList a #[])(ne:dx≠a)(E:ai->av->Prop):
 wpAny (model PG w) A (call (.ref 152) [.ref X,.ref a]) (yx w s g X dx a) E s:=by
 obtain⟨T,Z,doc,pm,bA,ct,an,f,hT,i9⟩:=hD.at_ w
 have ar:cW w s g [dx,a] [.ref X,.ref a] [.raw X dx aU,.own a []] (my [dx] (my [a] λ_=>[])):=
  .cons (λ_=>⟨rfl,I,hd,hg,rfl⟩) (λc Y=>a_.mp Y▸bi) (λj b' _ _ c Y W=>by
   have Y:=a_.mp Y
   induction j with
   |zero=>exact ne (Y.symm.trans (a_.mp W))
   |succ j _=>exact ca W) (.cons (λ_=>⟨#[],rfl,B,hp,aP.nil,rfl⟩) (λc Y=>.tail _ Y) (λ_ _ _ _ _ _ h=>ca h) (.nil M))
 refine nU S R ar f rfl i9 (hb T doc pm bA ct an Z s (.ref X) (.ref a) (S.df _ _ hT)) rfl G V C h λv s' ab g' aC d dX H R' q_=>?_
 have q0:=q_.1
 subst q0
 refine ba λN_=>?_
 obtain⟨u,_,_,_,v1,v2,_⟩:=H.var _ _ q_.2.1
 obtain⟨u',_,af,_,v3,v4,v5,_⟩:=H.var _ _ q_.2.2
 have e0:af=#[]:=Array.eq_empty_of_size_eq_zero v5.1
 subst e0
 exact N_ ⟨g',H.nx,H.st,R'.none_inv,v1,v2,v3,v4⟩
theorem UT(S:St w s g)(R:Rm 30 A)(M:dq w s g [dx,a])(I:InstAt g X dx)(hd:s.heap.Ns1 dx (qb aU))(Y:g dx=aU)(V:g a=aU)(W:s.heap.PlainList a #[])(Z:dx≠a)(E:ai->av->Prop):
 wpAny (model PG w) A (call (.ref 152) [.ref X,.ref a]) (yx w s g X dx a) E s:=by
 refine yx.intro (n:=28) ⟨λw=>⟨_,_,_,_,_,_,_,rfl,rfl,_,_,_,_,rfl,rfl,rfl,rfl⟩⟩ (λT doc pm bA ct an G s u v H=>.of_defaults rfl H rfl rfl rfl) (by ac_rfl) (by rfl) (by ac_rfl) ?_ S R M I hd Y V W Z E
 refine aL.cons (aO.WI (a:=a) (l:=[]) (by ac_rfl) (by ac_rfl) (by ac_rfl) (by intro;ac_rfl) (pr ?_))
 refine aL.cons (aO.iff (bH.Q8 (by ac_rfl) (by ac_rfl) (a:=a) (l:=[]) (by ac_rfl) (by ac_rfl) (Mf rfl (aL.nil (pr ?_)))))
 refine aL.cons (aO.US (X:=X) (dx:=dx) (a:=a) (l:=[]) (by ac_rfl) (by ac_rfl) (by ac_rfl) (by ac_rfl) (by intro;ac_rfl) (pr ?_))
 refine aL.cons (aO.iff (bH.val (e:=jH _ _ _) (aj.bool (Kw (Me rfl ?_))) (by intros;ac_rfl)))
 refine aL.cons (aO.TC (a:=a) (by ac_rfl) (by ac_rfl) (by intro _ _;ac_rfl) (pr (aL.nil (pr (aL.nil ?_)))))
 exact Tn ⟨rfl,by ac_rfl,by ac_rfl⟩
theorem Rm.made{C:ag}{bW:List ai}(h:Rm (n+1) A):Rm n (A.under (.builtin "type.__call__" ⟨.ref C::bW,[]⟩)):=by
 have Y:(Aq "type.__call__" ⟨.ref C::bW,[]⟩).weight=1:=by rfl
 have W:(Aq "type.__call__" ⟨.ref C::bW,[]⟩).cUnits<=12:=by
  have:(Aq "type.__call__" ⟨.ref C::bW,[]⟩).cUnits=(Aq "type.__call__" ⟨.ref 0::[],[]⟩).cUnits:=by rfl
  rw[this];decide+kernel
 refine h.elim λZ V=>V.elim λH h3=>?_
 exact⟨by show A.depth+_+n<=900;rw[Y];exact L6 (by assumption),by show A.units+_+12*n<=9000;exact Jv (by assumption),h3⟩
theorem GS(h:sc.names.lookup (a6 "Headers")=aa cj):bO sc (a6 "Headers") (.ref 258):=bO.top h (λw=>by ac_rfl) (by ac_rfl) λw=>by ac_rfl
theorem cK.Li{lp:Pos}{k:Bd->Prop}(hk:sc.names.lookup (a6 "Headers")=aa cj)(hn:31<=n)(h:∀X dx hl,k (.dU X dx hl [])):cK n sc ρ (bU (aS (a6 "Headers") np) [.List [] lp] [] aM) k:=.mk λw A ab s g S R V E=>by
 refine lP ((GS hk).run w A ab s g ρ S V np _ E ?_)
 refine j8 (P:=λhp=>∃k,(k=jE\/k=jC\/k=jz)/\jN (model PG w) hp (keeperOf (.ref 258)) k) (by rw[(cE (l:=[.List [] lp]) rfl).2];rfl) (λ_ q=>q) ?_
 refine fk (cE (l:=[.List [] lp]) rfl).1 rfl (qS (bg ((cK.lst (k:=λb=>∃a,b=.own a []) (l:=[]) rfl (ck _) (fR λa=>⟨a,rfl⟩)).run w A ab s g S R V E) (λv aA ⟨aN,b,ad,G,Y,mr,nf,fr,a,e⟩=>?_)) (nO (by rfl)))
 subst e
 obtain⟨af,rfl,ND,ha2,ha3,rfl⟩:=mr
 have e0:af=#[]:=by
  have:=ha3.1
  induction af with
  |mk l=>simp at this;exact aQ _ this
 subst e0
 refine a8 (fB ⟨(GS hk).keep w aA aN Y,?_⟩)
 refine wpAny_call_obj_init PySem.F.objNew (p4 Y) (uN Y) (fI:=152) (by ac_rfl) (Y.df 152 _ rfl) rfl λh' X dx H=>?_
 refine(Y.ext' (h':=h') (tk:=aA.toks) H.keeps).elim λB gf=>?_
 refine H.inst.elim λoX lG=>lG.elim λi1 nr=>nr.elim λi2 qm=>qm.elim λi3 i4=>?_
 have yR:=H.dict oX i1
 have i5:dx≠X/\h'.Ns1 dx (qb aU):=by
  rcases i4 with ⟨q,_⟩|⟨d,q1,q2,q3⟩
  ·replace q:=yR▸q;exact sn q
  ·rw[yR] at q1;obtain rfl:=aW q1;exact⟨q2,q3⟩
 have off:∀b,aA.heap.get? b=aU->aN b=aU/\b∉TB:=λb e=>by
  refine⟨?_,λhT=>?_⟩
  ·cases q:aN b with
   |none=>rfl
   |some o=>replace e:=(Y.sub _ _ q)▸e;cases e
  ·obtain⟨ps,q,e',_⟩:=Y.tb hT
   exact ns (e.symm.trans e')
 have f:∀b,aA.heap.get? b=aU->s.heap.get? b=aU:=λb e=>by
  induction q:s.heap.get? b with
  |none=>rfl
  |some o=>obtain⟨o',e'⟩:=G.there b o q (ca);exact ns (e.symm.trans e')
 have x1:=(off X H.newX).1;have x2:=(off X H.newX).2
 have d1:=(off dx H.newD).1;have d2:=(off dx H.newD).2
 refine(gf.freeze i1 x1 x2).elim λij up=>?_
 have W:∀b,b≠X->aN b=aU->iB aN X oX b=aU:=λb C e=>by exact(fE _ _ _ C).trans e
 obtain⟨nn,en⟩:=ha2
 have aX:a≠X:=λe=>by rw[e,H.newX] at en;exact ns en
 have io:dx≠a:=λe=>by rw[e] at d1;rw[<-e,H.newD] at en;exact ns en
 have gw:Nx [] aA aN {aA with heap:=h',toks:=aA.toks} (iB aN X oX):=⟨B.keep,B.there,up,λb o e e' C=>W b (λq=>by rw[q,H.newX] at e;exact nomatch e) e',B.os⟩
 have sA:s.heap.get? a=aU:=(fr a (bi))
 have gA:g a=aU:=by
  cases q:g a with
  |none=>rfl
  |some o=>replace sA:=(S.sub _ _ q)▸sA;cases sA
 have gD:g dx=aU:=by
  induction q:g dx with
  |none=>rfl
  |some o=>have:=G.gg _ _ q;exact ns (d1.symm.trans this)
 have tA:a∉TB:=λhT=>by
  obtain⟨ps,q,e',_⟩:=S.tb hT
  exact ns (sA.symm.trans e')
 obtain⟨od,es,ep,ed,dd,_⟩:=id i5.2
 have M:dq w {aA with heap:=h',toks:=aA.toks} (iB aN X oX) [dx,a]:=by
  refine dq.new (aw:=s) (aE:=g) S (G.trans gw) λb C=>?_
  simp only[bT,ca,or_false] at C
  rcases C with rfl|rfl
  ·exact⟨f _ H.newD,W _ i5.1 d1,d2,_,ed⟩
  ·exact⟨sA,W _ aX ND,tA,_,H.keeps _ _ en⟩
 refine bg (UT (s:={aA with heap:=h',toks:=aA.toks}) ij (Rm.made (R.le hn)) M ⟨oX,g5 _ _ _,i2,yR,i3,i5.1⟩ i5.2 (W _ i5.1 d1) (W _ aX ND) ⟨nn,H.keeps _ _ en⟩ io E) (λr oV ⟨m7,lA,m6,hr,hd4,hg4,acJ,hp4⟩=>⟨hr,?_⟩)
 refine ba λN_=>?_
 obtain⟨o4,es4,ep4,ed4,dd4,f1,f2,f3⟩:=hd4
 have Z:Nx [] s g oV m7:=Nx.over (G.trans gw) lA λb C=>by
  simp only[bT,ca,or_false] at C
  rcases C with rfl|rfl
  ·exact .inl (f _ H.newD)
  ·exact .inl sA
 obtain⟨uU,M4⟩:=m6.freeze ed4 hg4 d2
 apply N_
 refine⟨iB m7 dx o4,.dU X dx a [],[a],⟨Z.keep,Z.there,λb o e=>M4 _ _ (Z.gg _ _ e),λb o e e' C=>?_,Z.os⟩,uU,⟨#[],rfl,⟨⟨oX,M4 _ _ (lA.gg _ _ (g5 _ _ _)),i2,yR,i3,i5.1⟩,⟨o4,es4,ep4,g5 _ _ _,dd4,f1,f2,f3⟩,hp4,?_⟩,aP.nil,rfl⟩,rfl,λb C=>?_,h X dx a⟩
 ·rw[fE]
  ·exact Z.old b o e e' C
  ·intro q;rw[q,f _ H.newD] at e;exact nomatch e
 ·exact(fE _ _ _ (Ne.symm io)).trans acJ
 ·have:b=a:=a_.1 C
  subst this;exact sA
end
section
open PySem.Builtin PySem.Builtin.Str
noncomputable def chars(y:Str):List Str:=y.cps.toList.map λc=>⟨#[c]⟩
theorem join_tree_str(V y:Str)(t u:Tok):«str.join» ⟨[.str V t,.str y u],[]⟩=(do
 let ty <-typeOf (.str y u)
 if (ty==aK "list"||ty==aK "tuple")=ae then (do
  match <-w' (.str y u) with
  |some xs=>joinTail V xs.toList
  |none=>G0 "internal:str.join")
 else (do
  let Y <-(pyIter (.str y u)).tryCatch λe=>do
   if <-wR e (aK "TypeError") then rule "str.join.not-iterable";raiseError "TypeError" "can only join an iterable" else throw e
  let af <-collect Y
  joinTail V af)):=rfl
theorem Sn{V:Array ai}(h:ItemsOf (Cc y) V y.cps.size):∃l:List (Str×Tok),tZ l=V.toList/\l.map (·.1)=chars y:=by
 obtain⟨l,hl⟩:=exists_strValues V.toList λv W=>by
  obtain⟨j,Z,rfl⟩:=zs.mp (s_.mp W)
  obtain⟨c,u,_,e⟩:=h.2 j _ (nw Z)
  exact⟨_,u,e⟩
 refine⟨l,hl,qJ λi=>?_⟩
 have Y:l.length=y.cps.size:=by
  have:=aQ gm hl
  simp only[tZ,aR,zB] at this
  simp only[this,h.1]
 unfold chars
 simp only[ci,ci]
 by_cases hi:i<l.length
 ·have H:V[i]?=aa (.str l[i].1 l[i].2):=by
   rw[<-kB,<-hl];simp[tZ,dt hi]
  obtain⟨c,u,G,e⟩:=h.2 i _ H
  have:l[i].1=⟨#[c]⟩:=by injection e
  simp only[dt hi,kB,G]
  simp[this]
 ·rw[pb (de.mp hi),pb (by simp;exact aD (bn Y.symm) (de.mp hi))];rfl
section
variable {n:Nat} {sc:bf} {ρ:ay} {t:au}
theorem bk.Lj(hy:y.length<=10000)(H:n9 x (chars y)=ae)(hk:k (.str (jK x (chars y)))):bk n (.builtin "str.join") [.str x,.str y] k:=.mk λw A s g vs S R r E=>by
 obtain⟨v,u,rfl,h1,h2⟩:=r.two
 obtain⟨t,rfl⟩:=h1.str_inv
 refine h2.dB λG=>?_
 refine lY (OS OC.plain PySem.F.entry_str_join (OC.check _ _ _ _ _ _ _ _ (nR _ _ _) (PySem.F.args_str_join_2 _ _) ?_))
 rw[join_tree_str]
 refine pG (T:="str") rfl ?_
 have dk:∀ty,(ty="str_ascii_iterator"∨ty="str_iterator")->wpAny (model PG w) A.in1 (collect (.ref s.heap.objs.size)>>=λaf=>joinTail x af) (λdk s'=>match dk with|.done f=>wants (Out w s g k) E (.ok f) s'|.again c'=>c'.quiet=ae/\codeAny (model PG w) A c' (wants (Out w s g k) E) s') (λe s'=>wants (Out w s g k) E (.error e) s') {s with heap:=s.heap.push {cls:=aK ty,data:=bC #[.str y G,.int 0 0]}}:=λty B=>by
  have hit:(s.heap.push {cls:=aK ty,data:=bC #[.str y G,.int 0 0]}).IsStrIter s.heap.objs.size ty y G 0:=⟨_,cB _ rfl,rfl,rfl⟩
  refine aJ (wpAny_collect_strIter (show A.in1.handled=ak from R.2.2) B hit (λs' acc jW hg hd ho Z=>?_) (by have:sizeLine=2^24:=rfl;have:y.cps.size=y.length:=rfl;exact bd (aV (aD (bn this) hy) (lT tT))))
  obtain⟨l,hl,hm⟩:=Sn Z
  refine hl▸?_
  have V:=(hm▸H:n9 x (l.map (·.1))=ae)
  unfold n9 at V
  simp only[nH] at V
  have g0:=gives_joinTail x l V
  have gg:Gives (joinTail x (tZ l)) (joinMade x l):=by
   cases l with
   |nil=>exact g0
   |cons p r=>induction r with
    |nil=>exact g0
    |cons q r'=>exact g0
  refine gg PG w A (wants (Out w s g k) E) s' (post_join l ⟨joinFit_length V,λt'' k'=>?_⟩)
  refine hm▸?_
  refine(S.ext (h':=s'.heap) (tk:=k') (dr:=s'.drawn) λb o e=>jW b o (λq=>by rw[q,lj] at e;exact ns e) (bZ _ e)).elim λN S'=>?_
  have:({s' with toks:=k'}:av)={s with heap:=s'.heap,toks:=k',drawn:=s'.drawn}:=by
   obtain⟨a1,a2,a3,a4,a5⟩:=s'
   simp only at hg ho
   subst hg ho;rfl
  simp only[this]
  exact⟨g,_,N,S',.str _ _,hk⟩
 cases ha:y.cps.all (·<128)
 ·exact aJ (QA (PB ha (dk _ (.inr rfl))))
 ·exact aJ (QA (E5 ha (dk _ (.inl rfl))))
theorem bK.tup{k:List D->Prop}(h:aj n sc ρ e λd=>∃l,d=.tup l/\l.length<=10000/\k l):bK n sc ρ t e k:=.of λw A ab s g S R V E=>
 bg (h.run w A ab s g S R V E) (λv aA q_=>by
  obtain⟨aN,d,H,Y,G,l,hd,hl,hk⟩:=q_
  subst hd
  refine G.uh λa nn Z C rl=>?_
  have B:a≠aA.heap.objs.size:=λe=>by have:=Y.sub _ _ C;rw[e,lj] at this;exact ns this
  have sz:Z.size=l.length:=by have:=rl.1;exact this
  have W:=Walks.tuple (prog:=PG) (w:=w) R.2.2 aA.heap.objs.size a B Z
  replace W:=sz▸W
  refine E8 (⟨_,Y.sub _ _ C,rfl,nn,rfl⟩:aA.heap.IsTuple a Z) ((iT.one (qr:=[a]) Y (by simp) rfl (dz.of W (λi v d hi hv=>rl.2 i v d (by simpa using hv) hi) (λi h ⟨⟨o,f,hc,hd⟩,_⟩ b hb=>?_) λi h ⟨⟨o,f,hc,hd⟩,_⟩=>⟨o,_,_,f,hc,hd,rfl⟩) ⟨⟨_,cB _ rfl,rfl,rfl⟩,⟨_,bZ _ (Y.sub _ _ C),rfl,nn,rfl⟩⟩ (λb hb=>?_) hl hk).trans H)
  ·have:b=aA.heap.objs.size:=a_.1 hb
   subst this
   exact⟨o,f,λvs q t e e'=>by replace e:=hd▸e;cases e;simp at e'⟩
  ·have:b=a:=a_.1 hb
   subst this;exact⟨_,C⟩)
end
end
noncomputable def bY(p:Str×Str):D:=.tup [.str p.1,.str p.2]
noncomputable def ltQ(p q:Str×Str):Bool:=if p.1=q.1 then decide (p.2.cps.toList<q.2.cps.toList) else decide (p.1.cps.toList<q.1.cps.toList)
def qn(ps:List (Str×Str))(i j:Nat):Bool:=ltQ (ps.getD i default) (ps.getD j default)
theorem JN{a b:Str}(h:a.cps.toList=b.cps.toList):a=b:=by
 induction a;induction b;simp only[Str.mk.injEq];exact wf.mp h
theorem Hp(a:List Nat):¬a<a:=List.lt_irrefl a
set_option tactic.hygienic true in
theorem Cw:(∀p q,ltQ p q=ae->ltQ q p=aH)/\(∀p q r,ltQ p q=aH->ltQ q r=aH->ltQ p r=aH)/\∀p q,ltQ p q=aH->ltQ q p=aH->p=q:=by
 refine⟨λp q h=>?_,λp q r h h'=>?_,λp q h h'=>?_⟩
 ·unfold ltQ at*
  split at h<;>rename_i e
  ·rw[bo e.symm,eY];intro Y;exact Ai (cY h) Y
  ·rw[be (Ne.symm e),eY];intro Y;exact Ai (cY h) Y
 ·unfold ltQ at*
  have B:∀a b c:List Nat,¬a<b->¬b<c->¬a<c:=λa b c Z H h3=>by
   exact pz.mpr (QV (pz.mp H) (pz.mp Z)) h3
  have V:∀{a b:Str},a≠b->¬a.cps.toList<b.cps.toList->b.cps.toList<a.cps.toList:=λG f=>by
   rcases OT.mp (pz.mp f) with h|h
   ·exact h
   ·exact aZ (JN h.symm) G
  split at h<;>split at h'<;>rename_i e W
  ·exact(bo (e.trans W)).trans (eY (B _ _ _ (ig h) (ig h')))
  ·rw[be (λY=>W (e.symm.trans Y))];exact e▸h'
  ·rw[be (λY=>e (Y.trans W.symm))];exact W▸h
  ·have h3:=List.lt_trans (V W (ig h')) (V e (ig h))
   exact(be (λY=>by rw[Y] at h3;exact Hp _ h3)).trans (eY (Ai h3))
 ·unfold ltQ at*
  have C:∀{a b:Str},¬a.cps.toList<b.cps.toList->¬b.cps.toList<a.cps.toList->a=b:=λZ H=>by
   rcases OT.mp (pz.mp Z) with h|h
   ·exact aZ h H
   ·exact(JN h).symm
  obtain⟨p1,p2⟩:=p
  have q1:=q.1;have q2:=q.2
  simp only at*
  split at h<;>rename_i e
  ·rw[bo e.symm] at h'
   rw[e,C (ig h) (ig h')]
  ·rw[be (Ne.symm e)] at h'
   exact aZ (C (ig h) (ig h')) e
theorem YA(ps:List (Str×Str)):gh (qn ps):=⟨λa b h=>Cw.1 _ _ h,λa b c h h'=>Cw.2.1 _ _ _ h h'⟩
section
variable {w:a9} {A:bN} {E:ai->av->Prop} {aw s:av} {aE g:aY}
theorem Ia{Da:ag}{lt:Nat->Nat->Bool}{κ:SortKind}{P:t0->av->Prop}(X:SA w aw aE s g)(OD:f4 aw Da vs s g)(f:vs.length<64)(W:gh lt)
 (aaC:2<=vs.length->∀s',St w s' g->∀Q,Q κ s'->wpAny (model PG w) A (keyKind' vs.toArray) Q (λ_ _=>False) s')
 (acK:∀s',St w s' g->∀i j C,i<vs.length->j<vs.length->C (lt i j) s'->BN PG w A κ vs i j C s')
 (h:∀s' (b:List Nat),dJ lt vs.length b->SA w aw aE s' g->f4 aw Da (b.map λi=>vs.getD i fD) s' g->P (.done (.ret .none)) s'):
 wpAny (model PG w) A (Builtin.«list.sort» ⟨[.ref Da],[]⟩) P E s:=by
 refine OD.at_.elim λnD eD=>?_
 rw[list_sort_plain]
 have Y:=X.set OD (λ_=>#[]) (tk:=s.toks)
 obtain⟨e1,h1⟩:=Y.2.1.at_
 have Y2:=Y.1.push (seqObj "tuple" vs.toArray 0) (tk:=s.toks)
 have Y3:=Y2.1.push (seqObj "list" #[] 0) (tk:=s.toks)
 have O3:=Y3.2 _ _ (Y2.2 _ _ Y.2.1)
 have h3:=bZ (seqObj "list" #[] 0) (bZ (seqObj "tuple" vs.toArray 0) h1)
 refine aJ (GA eD rfl (aJ (tI eD rfl (aJ (AD h1 rfl (wW (t_ (eM ?_) (ck _)) (m8 f)))) (m8 f) (ck _))))
 refine(?_:∀s3:av,SA w aw aE s3 g->f4 aw Da [] s3 g->s3.heap.get? Da=aa (seqObj "list" #[] e1)->wpAny (model PG w) A _ P E s3) _ Y3.1 O3 h3
 intro s3 X3 O3 h3
 have vj:∀(st:SortSt) (b:List Nat),dJ lt vs.length b->(arrOf st).map (·.2)=(b.map λi=>vs.getD i fD).toArray->failedOf st=ak->wpAny (model PG w) A (do
  let sorted:=(arrOf st).map (·.2)
  let V:=(<-seqEpoch Da) != e1
  Od (.ref Da) λ_=>sorted
  if let aa e:=failedOf st then rule "list.sort.comparison-raised";throw e
  if V then rule "list.sort.modified";raiseError "ValueError" "list modified during sort"
  ret .none) P E s3:=λst b hS DM hf=>by
  have Z:=X3.set O3 (λ_=>(b.map λi=>vs.getD i fD).toArray) (tk:=s3.toks)
  rw[DM,hf]
  refine aJ (AD h3 rfl (aJ (tI h3 rfl ?_ (ck _) (wb (m8 (aV (bn ((aR _).trans hS.len)) f))))))
  rw[bne_self_eq_false]
  exact a8 (h _ b hS Z.1 Z.2.1)
 by_cases h2:vs.length<2
 ·have H:vs.toArray.size<2:=h2
  rw[bo H,bo H]
  exact fZ (fZ (vj _ _ (H6 h2) (H7 rfl) rfl))
 ·have H:¬vs.toArray.size<2:=h2
  have n2:=de.mp h2
  rw[be H,be H]
  refine aJ (er (aaC n2 _ X3.st (λEk s'=>Ek=κ/\s'=_) ⟨rfl,rfl⟩) ?_ λ_ _ e=>e.elim)
  rintro Ek s' ⟨rfl,rfl⟩
  obtain⟨b,hb,hS⟩:=IU W (qK n2)
  refine aJ (bg (kat_run (Q:=λB t=>t=s'/\∃p:Array Nat,p=b.toArray/\arrOf B=p.map (kas_item (vs.toArray.zip vs.toArray))/\failedOf B=ak) (G:=λp t=>p=b.toArray/\t=s') (ks:=vs) (κ:=Ek)
   rfl n2 f (λp' B s' a1 a2 a3 a4=>⟨a4.2,p',a4.1,a2,a3⟩) ?_) ?_)
  ·exact A8 (lt:=lt) (λi j C hi hj hC=>acK _ X3.st i j C hi hj hC) _ (JJ (qK n2)) ⟨hb,rfl⟩
  ·rintro⟨⟨⟩,B⟩ t ⟨rfl,p,rfl,Ei,hf⟩
   exact vj B b hS (kat_snds rfl Ei) hf
theorem Cx(S:St w s g)(r:aP w g vs (ps.map bY))(hi:i<vs.length):
 ∃a n Y W,vs.getD i fD=.ref a/\s.heap.get? a=aa {cls:=aK "tuple",data:=.seq #[.str (ps.getD i default).1 Y,.str (ps.getD i default).2 W] n}:=by
 have hl:=r.1
 rw[aR] at hl
 have hd:(ps.map bY)[i]?=aa (bY (ps.getD i default)):=by
  simp only[ci,dt (cg hi (bn hl)),k9,dt (cg hi (bn hl))];rfl
 have hr:=r.2 i _ _ (dt hi) hd
 refine ba λV=>?_
 obtain⟨a,n,af,Z,H,G⟩:=Rep.rU (l:=[.str (ps.getD i default).1,.str (ps.getD i default).2]) hr
 apply V
 refine ba λV=>?_
 obtain⟨u1,u2,C,B,f⟩:=G.two
 apply V
 refine ba λV=>?_
 obtain⟨Y,rfl⟩:=B.str_inv
 obtain⟨W,rfl⟩:=f.str_inv
 have:af=#[.str (ps.getD i default).1 Y,.str (ps.getD i default).2 W]:=wf.mp C
 subst this
 apply V
 exact⟨a,n,Y,W,by rw[k9,dt hi];exact Z,S.sub _ _ H⟩
theorem UU(S:St w s g)(r:aP w g vs (ps.map bY))(G:2<=vs.length){Q:SortKind->av->Prop}(C:Q (tuples' ae) s):wpAny (model PG w) A (keyKind' vs.toArray) Q E s:=by
 have hl:=r.1
 rw[aR] at hl
 have V:∀(vs:List ai) (ps:List (Str×Str)),aP w g vs (ps.map bY)->∃fs:List ai,KatTups s.heap vs fs/\fs.length=vs.length/\∀v∈fs,∃x t,v=.str x t:=by
  intro vs
  induction vs with
  |nil=>exact λps _=>⟨[],trivial,rfl,fU⟩
  |cons v vs B=>
   intro ps r
   induction ps with
   |nil=>exact aZ r.1 (by simp)
   |cons p ps=>
    refine ba λf=>?_
    obtain⟨fs,Y,W,Z⟩:=B ps r.ie.2
    obtain⟨a,n,t1,t2,e1,e2⟩:=Cx (i:=0) S r (by simp)
    apply f
    exact⟨.str p.1 t1::fs,⟨⟨a,_,_,n,(e1:v=.ref a),e2,rfl,rfl,rfl⟩,Y⟩,by simp[W],λu H=>by
     refine(bT.mp H).elim (λrfl=>?_) λH=>?_
     ·exact⟨_,_,rfl⟩
     ·exact Z u H⟩
 obtain⟨fs,Y,W,Z⟩:=V vs ps r
 refine kat_kind (T:=aK "str") Y (cg (cg (by simp) G) (bn W.symm)) (λv hv=>?_) (rfl) C
 obtain⟨x,t,rfl⟩:=Z v hv
 exact QQ rfl
theorem WJ(S:St w s g)(r:aP w g vs (ps.map bY))(hi:i<vs.length)(H:j<vs.length){C:Bool->av->Prop}(V:C (qn ps i j) s):BN PG w A (tuples' ae) vs i j C s:=by
 refine ba λG=>?_
 obtain⟨a,n,t1,t2,B,f⟩:=Cx S r hi
 obtain⟨a',n',t1',t2',Y,W⟩:=Cx S r H
 apply G
 unfold BN
 rw[B,Y]
 unfold qn at V
 refine kat_lt f rfl W rfl (kat_cons (PV (kat_go (λq=>kat_yes (kat_cons (PV (kat_go (λZ=>kat_yes (kat_nil ?_)) λZ=>?_)))) λq=>?_)))
 ·have e:ltQ (ps.getD i default) (ps.getD j default)=aH:=by
   exact(bo (cY q)).trans ((cY Z)▸(eY (Hp _)))
  rw[e] at V
  exact V
 ·refine kat_no (kat_one _ _ (lt_str ?_))
  exact((bo (cY q):ltQ (ps.getD i default) (ps.getD j default)=decide ((ps.getD i default).2.cps.toList<(ps.getD j default).2.cps.toList))▸V)
 ·have h1:=ig q
  refine kat_no (oneLt_str ?_)
  exact((be h1:ltQ (ps.getD i default) (ps.getD j default)=decide ((ps.getD i default).1.cps.toList<(ps.getD j default).1.cps.toList))▸V)
end
section
variable {n:Nat} {k:D->Prop}
theorem bk.JO(H:ps.length<64)(h:∀b:List Nat,dJ (qn ps) ps.length b->k (.lst (b.map λi=>bY (ps.getD i default)))):bk n (.builtin "sorted") [.lst (ps.map bY)] k:=.mk λw A s g vs S R r E=>by
 obtain⟨v,rfl,W⟩:=r.one
 refine W.ka λl nn G hg B=>?_
 have hL:s.heap.IsList l G.toList.toArray:=⟨_,S.sub _ _ hg,rfl,nn,rfl⟩
 have V:=B.1
 simp only[aR] at V
 generalize G.toList=vs at hL B V
 refine N2 GZ GB GC (args_sorted1 _) ?_
 unfold Builtin.«sorted»
 refine aJ (m:=Hf "sorted" 1 1 _) (a8 ?_)
 refine aJ (collect_list hL ?_ (by rw[py];exact bd (eO (aV (bn V) H) (lT tT))))
 refine t_ ?_ (by rw[py];exact bd (eO (aV (bn V) H) (lT tT)))
 have X2:=((((⟨S,Nx.refl _ _ _,S⟩:SA w s g s g).push (seqObj "list" #[] 0) (tk:=s.toks)).1).set ((⟨S,Nx.refl _ _ _,S⟩:SA w s g s g).newList [] (tk:=s.toks)) (·++vs.toArray) (tk:=s.toks)).1
 have f:((s.heap.push (seqObj "list" #[] 0)).update s.heap.objs.size (jc (·++vs.toArray))).objs.size=s.heap.objs.size+1:=by simp only[PT,size_push']
 have X3:=(X2.push (seqObj "list" vs.toArray 0) (tk:=s.toks)).1
 have O3:=X2.newList vs (tk:=s.toks)
 replace O3:=f▸O3
 refine f▸?_
 refine O3.at_.elim λ_ sS=>?_
 refine aJ (eM (j4 F9 ⟨_,sS,rfl⟩ FQ ?body (QB _)))
 case body=>
  refine Ia X3 O3 (aV (bn V) H) (YA ps) (λZ s' S' Q hq=>UU S' B Z hq) (λs' S' i j C hi hj hC=>WJ S' B hi hj hC) λs' b hS Y OY=>?_
  refine⟨_,rfl,a8 ⟨_,rfl,?_⟩⟩
  refine OY.at_.elim λn' e'=>?_
  obtain⟨F1,F2⟩:=Y.st.freeze (n:=s.heap.objs.size+1) e' OY.off (Y.st.dQ (a:=s.heap.objs.size+1) e' (.inl (by simp)))
  have rb:aP w g (b.map λi=>vs.getD i fD) (b.map λi=>bY (ps.getD i default)):=by
   refine⟨by simp,λj v d W Z=>?_⟩
   rw[ci] at W Z
   induction hb:b[j]? with
   |none=>exact ns (hb▸W)
   |some i=>
    rw[hb] at W Z
    have hi:i<vs.length:=hS.ju i (c5 hb)
    simp only[Qc,Fd] at W Z
    subst W Z
    have e1:vs.getD i fD=vs[i]:=by rw[k9,dt hi];rfl
    have e2:ps.getD i default=ps[i]'(cg hi (bn V)):=by rw[k9,dt (cg hi (bn V))];rfl
    simp only[e1,e2]
    exact B.2 i _ _ (dt hi) (by simp only[ci,dt (cg hi (bn V))];rfl)
  refine⟨_,_,⟨Y.nx.keep,Y.nx.there,λa o e=>F2 _ _ (Y.nx.gg _ _ e),λa o e e' _=>?_,Y.nx.os⟩,F1,.lst _ n' _ _ (g5 _ _ _) (by simp) λj v d W Z=>(rb.2 j v d (by exact W) Z).mono F2,h b (by exact V▸hS)⟩
  exact(fE _ _ _ (λq=>by rw[q,OY.new] at e;exact ns e)).trans (Y.nx.old a o e e' (ca))
end
noncomputable def ji(l:List (Str×D))(x:Str)(d:D):List (Str×D):=if l.any (λp=>p.1=x) then l.map (λp=>if p.1=x then (p.1,d) else p) else l++[(x,d)]
inductive ey{K:Type}(w:a9)(g:aY):List (K×ai)->List (K×D)->Prop
 |nil:ey w g [] []
 |cons (x v d bh l:_):Rep w g v d->ey w g bh l->ey w g ((x,v)::bh) ((x,d)::l)
inductive xW(w:a9)(g:aY)(o:Obj)(l:List (Str×D)):Prop
 |mk (hx:o.ExactDict) (es ep bh) (hd:o.data=.dict es ep) (hk:KeysOf (strKind PG w) es) (hp:x9 (strKind PG w) es.toList bh) (hn:(bh.map (·.1)).Nodup) (hv:ey w g bh l)
section
variable {K:Type} {w:a9} {g g':aY} {bh:List (K×ai)} {l:List (K×D)}
theorem ey.mono(h:∀a o,g a=aa o->g' a=aa o)(k:ey w g bh l):ey w g' bh l:=by
 induction k with
 |nil=>exact .nil
 |cons x v d bh l r _ V=>exact .cons x v d bh l (r.mono h) V
theorem ey.fst(k:ey w g bh l):bh.map (·.1)=l.map (·.1):=by
 induction k with
 |nil=>rfl
 |cons x v d bh l r _ V=>exact aQ (x::·) V
theorem ey.snoc{x:K}(r:Rep w g v d)(k:ey w g bh l):ey w g (bh++[(x,v)]) (l++[(x,d)]):=by
 induction k with
 |nil=>exact .cons _ _ _ _ _ r .nil
 |cons y u e bh l q _ V=>exact .cons _ _ _ _ _ q V
theorem ey.put[DecidableEq K]{x:K}{v:ai}{d:D}(r:Rep w g v d)(k:ey w g bh l):ey w g (bh.map λV=>if V.1=x then (V.1,v) else V) (l.map λp=>if p.1=x then (p.1,d) else p):=by
 induction k with
 |nil=>exact .nil
 |cons y u e bh l q _ Y=>
  show ey w g ((if y=x then (y,v) else (y,u))::_) ((if y=x then (y,d) else (y,e))::_)
  split
  ·exact .cons _ _ _ _ _ r Y
  ·exact .cons _ _ _ _ _ q Y
theorem pairs_at[DecidableEq K]{w:a9}{lK:KeyKind PG w K}{es:List dy}{bh:List (K×ai)}(p:x9 lK es bh):es.length=bh.length/\∀(i:Nat) (e:dy) (x:K) (v:ai),es[i]?=aa e->bh[i]?=aa (x,v)->lK.is x e.key=ae/\e.val=v:=by
 induction p with
 |nil=>exact⟨rfl,λi e x v h=>aZ (Fc.symm.trans h) (lb _).symm⟩
 | @cons e C es bh Z H _ V=>
  refine⟨aQ (·+1) V.1,λi G x v Y W=>?_⟩
  induction i with
  |zero=>
   obtain rfl:=aW Y
   obtain rfl:=aW W
   exact⟨Z,H⟩
  |succ i=>exact V.2 i G x v Y W
theorem ey.at(k:ey w g bh l):bh.length=l.length/\∀(i:Nat) (x:K) (d:D),l[i]?=aa (x,d)->∃v,bh[i]?=aa (x,v)/\Rep w g v d:=by
 induction k with
 |nil=>exact⟨rfl,λi x d h=>aZ (Fc.symm.trans h) (lb _).symm⟩
 |cons y u W bh l q _ V=>
  refine⟨aQ (·+1) V.1,λi x d Y=>?_⟩
  induction i with
  |zero=>
   obtain⟨rfl,rfl⟩:=wK (aW Y)
   exact⟨u,rfl,q⟩
  |succ i=>exact V.2 i x d Y
theorem ey.idx[DecidableEq K]{lK:KeyKind PG w K}{es:List dy}(p:x9 lK es bh)(k:ey w g bh l):es.length=l.length/\∀(i:Nat) (e:dy) (x:K) (d:D),es[i]?=aa e->l[i]?=aa (x,d)->lK.is x e.key=ae/\Rep w g e.val d:=
 ⟨(pairs_at p).1.trans k.at.1,λi e x d V Y=>(k.at.2 i x d Y).elim λv q=>⟨((pairs_at p).2 i e x v V q.1).1,((pairs_at p).2 i e x v V q.1).2▸q.2⟩⟩
end
section
variable {w:a9} {g g':aY}
theorem ey.stored{l:List (Str×D)}(k:ey w g bh l)(r:Rep w g v d):ey w g (stored bh x v) (ji l x d):=by
 have e:bh.any (λV=>decide (V.1=x))=l.any (λp=>decide (p.1=x)):=by
  have Y:bh.any (λV=>decide (V.1=x))=(bh.map (·.1)).any λy=>decide (y=x):=by rw[Ar];rfl
  have W:l.any (λp=>decide (p.1=x))=(l.map (·.1)).any λy=>decide (y=x):=by rw[Ar];rfl
  simp only[Y,W,k.fst]
 delta Rd ji
 refine e▸?_
 split
 ·exact k.put r
 ·exact k.snoc r
theorem RQ(l:List (Str×D))(x:Str)(d:D):(ji l x d).length<=l.length+1:=by
 unfold ji;split<;>simp
theorem Hq{es:Array dy}(h:o.ExactDict)(hd:o.data=.dict es ep):o={cls:=aK "dict",data:=.dict es ep}:=by
 obtain⟨c,d,t,s⟩:=o
 obtain⟨rfl,rfl,rfl⟩:=h
 subst hd;rfl
theorem xW.rep{D:ag}{l:List (Str×Mine.Internal.D)}(C:g D=aa o)(Y:D≠gp)(h:xW w g o l):Rep w g (.ref D) (.cO l):=by
 obtain⟨B,es,ep,bh,hd,f,hp,hn,H⟩:=h
 have W:=ey.idx hp H
 refine .cO D ep es l (C.trans (aQ _ (Hq B hd))) W.1 ⟨H.fst▸hn,Y⟩ (λi e x d V Z=>?_) λi e x d V Z=>(W.2 i e x d V Z).2
 obtain⟨k',q1,q2⟩:=f e (s_.mp (c5 V))
 refine(O5 (W.2 i e x d V Z).1).elim λt G=>?_
 exact⟨⟨t,G⟩,(rk.mp (G▸q1:gl k' (.str x t)=ae))▸q2⟩
theorem Z8{kx W bp:au}:kN 10000 (.DictComp kx W [⟨bp,iter,bV,0⟩] oF aM) bp iter bV newDict (xW w) w n aF (λF d aC=>aj n aF aC kx λa=>∃x,a=.str x/\aj n aF aC W λy=>∀l,F l d=ji l x y)
 (λD ab=>match D with
  |.ref D=>do
   let kv <-eval kx ab
   let vv <-holding [kv] (eval W ab)
   standAt {kx.pos with endLine:=W.pos.endLine,endCol:=W.pos.endCol}
   holding [kv,vv] (dictSet D kv vv)
  |_=>pure ()):=
 kN.of
  (⟨λg g' o l h ⟨a,es,ep,bh,b,c,d,e,k⟩=>⟨a,es,ep,bh,b,c,d,e,k.mono h⟩,λg o l ⟨a,_,_,_,_,_,_,_,_⟩=>by rw[a.1];simp,λg o l ⟨a,es,ep,bh,b,_,_,_,_⟩=>by rw[b];simp⟩)
  (rfl)
  (λ_ _ _=>rfl)
  (λ_ _ _ _=>rfl)
  (λ_ _ _=>rfl)
  (λ_ _ _=>rfl)
  (λ_ _ _ _=>rfl)
  (λA E s Q h=>lf (h _ (λg=>⟨⟨rfl,rfl,rfl⟩,#[],0,[],rfl,λe he=>by simp at he,.nil,dC tT,.nil⟩) rfl))
  (λF d ρ D A ab s g o l E hP S R V e ⟨h1,es,ep,bh,h4,h5,h6,h7,h8⟩ hg hT hl=>by
  refine aJ (hP.wp S R V λkv aA aN a Y Z H ⟨x,ex,G⟩=>?_)
  subst ex
  refine aJ (eM (G.wp Z R (V.step Y S) λvv aT bb y C B f hy=>?_))
  refine jd (eM ?_)
  have N:=Y.trans C
  refine H.dB λt=>?_
  have kY:bh.length=l.length:=by have:=aQ gm h8.fst;simpa using this
  refine wpAny_dictSet_pairs (knd:=strKind PG w) (k:=x) (kvs:=bh) (by show gl x (.str x t)=ae;simp[gl]) ⟨o,es,ep,N.get S e (.inl (by rw[h1.1];simp)) (ca),h1,h4,h5,h6,h7⟩ (λh' hd hs=>?_) (by rw[kY];have:sizeLine=2^24:=rfl;exact bd (aV hl (lT tT)))
  refine ba λN_=>?_
  obtain⟨o',zb,sR,q1,q2,q3,q4,q5,q6⟩:=hd
  apply N_
  refine⟨aT,bb,h',_,o',N,B,rfl,λb hb=>hs.2 b hb,q1,q2,zb,sR,_,q3,q4,q5,q6,?_⟩
  rw[hy]
  exact(h8.mono N.gg).stored f)
end
section
variable {n:Nat} {sc:bf} {ρ:ay}
def CQ(n:Nat)(sc:bf)(ρ:ay)(aF:bf)(bp iter V Y:au)(bV:List au)(k:D->Prop):Prop:=
 bK n sc ρ bp iter λaf=>∃f:D->Str×D,(∀d∈af,c0 n aF (cZ aF ρ) bp d λaC=>eH aC/\Sub (cZ aF ρ) aC/\fN n aF aC bV λb=>b=ae/\aj n aF aC V λa=>a=.str (f d).1/\aj n aF aC Y λy=>y=(f d).2)/\k (.cO (af.foldl (λl d=>ji l (f d).1 (f d).2) []))
theorem CQ.gg{bp W Z:au}(h:CQ n sc ρ aF bp iter W Z bV k):uK 10000 n sc ρ aF bp iter bV (λF d aC=>aj n aF aC W λa=>∃x,a=.str x/\aj n aF aC Z λy=>∀l,F l d=ji l x y) λl=>k (.cO l):=by
 refine gx.mono (bK.cc h).len λaf V=>V.elim λhl V=>V.elim λf V=>V.elim λH G=>⟨hl,λl d=>ji l (f d).1 (f d).2,λl d=>RQ _ _ _,λd hd=>?_,G⟩
 refine c0.mono (H d hd) λaC V=>V.elim λC V=>V.elim λB h3=>⟨C,B,fN.mono h3 λb V=>V.elim λhb Y=>?_⟩
 subst hb
 exact aj.mono Y λa V=>V.elim λha h4=>⟨_,ha,aj.mono h4 λy hy l=>by subst hy;rfl⟩
theorem aj.I1{W Z bp:au}(V:dD aF sc=ae)(hs:∀ab x,ir iter ab x=pure x)(h:CQ n sc ρ aF bp iter W Z bV k):
 aj n sc ρ (.DictComp W Z [⟨bp,iter,bV,0⟩] aF aM) k:=aj.CN (λw=>Z8) (λab=>rfl) V hs h.gg.hh λw g D o l H Y G C=>⟨_,G.rep H Y,C⟩
theorem aO.Hr{k:Fl->ay->Prop}(hx:sc.names.lookup x=aa .cell)
 (B:∀ab,iA e (aa (aS x p)) oT.line ab=pure (ab.blockKind==fu&&ab.kindOf x==aa .local&&(p.line==e.pos.line)&&!(aF.names.any λ(n,k)=>n==x&&(k==.local||k==.cell))))
 (h:aj n sc ρ e λd=>k .next ((x,.dat d)::ρ)):aO n sc ρ (fe [aS x p] e oT) k:=.mk λw A ab mu aw aE s g aB H R E=>by
 have f:ab.kindOf x=aa .cell:=by
  rcases hx▸H.ks x with q|q
  ·exact q
  ·exact q.1
 refine zO (bg (h.run w A ab s g H.st R H.cI E) (λv aA ⟨aN,d,Y,W,Z,G⟩=>
  (H.step Y W).uy (by unfold mine;rw[hx];rfl) Z (λaT V _ C=>⟨aN,_,.next,V,C,trivial,G⟩) E)) ?_
 rw[B,f]
 have:(aa lh==aa NameKind.local)=aH:=rfl
 refine this.symm▸?_
 simp
end
def CR(o:Obj):Prop:=o.cls=aK "list"∧∃xs n,o.data=.seq xs n
open Classical in
def g7(g:aY):aY:=λa=>match g a with
 |some o=>if CR o then aU else aa o
 |aU=>aU
section
variable {w:a9} {s:av} {g:aY}
theorem G8(h:g7 g a=aa o):g a=aa o/\¬CR o:=by
 unfold g7 at h
 induction q:g a with
 |none=>simp only[q] at h;exact ns h
 |some V=>
  rw[q] at h
  simp only at h
  split at h
  ·exact ns h
  ·obtain rfl:=aW h;exact⟨rfl,by assumption⟩
theorem A_(h:g a=aa o)(V:¬CR o):g7 g a=aa o:=by
 unfold g7
 rw[h];exact be V
theorem tR(h:g a=aU):g7 g a=aU:=by unfold g7;rw[h]
theorem St.g7(S:St w s g):St w s (g7 g):=⟨S.df,S.gB,S.blt,S.lim,S.bmain,S.tab,λa o h=>S.sub a o (G8 h).1,λP V=>tR (S.off P V),S.gens⟩
theorem jj.g7{hl:ag}(P:jj w s g X dx hl af):jj w s (g7 g) X dx hl af:=by
 refine ba λW=>?_
 obtain⟨⟨o,Z,V,H⟩,⟨G,es,n,C,Y,B⟩,f,q8⟩:=P
 apply W
 exact⟨⟨o,A_ Z (λh=>by have:=h.1;cases V.symm.trans this),V,H⟩,⟨G,es,n,A_ C (λq_=>by obtain⟨_,xs,m,h⟩:=q_;cases Y.symm.trans h),Y,B⟩,f,tR q8⟩
theorem Rep.B1{p:Str×Str}(r:Rep w g v (bY p)):Rep w (g7 g) v (bY p):=by
 refine ba λZ=>?_
 obtain⟨a,n,af,rfl,H,W⟩:=Rep.rU (l:=[.str p.1,.str p.2]) r
 obtain⟨f,u2,G,C,B⟩:=W.two
 obtain⟨t1,rfl⟩:=C.str_inv
 obtain⟨t2,rfl⟩:=B.str_inv
 apply Z
 refine .tup a n af _ (A_ H λh=>by have:=h.1;simp at this) W.1 λi v d V Y=>?_
 rw[G] at V
 match i,V,Y with
 |0,V,Y=>obtain rfl:=aW V;obtain rfl:=aW Y;exact .str _ _
 |1,V,Y=>obtain rfl:=aW V;obtain rfl:=aW Y;exact .str _ _
 |i+2,V,Y=>exact ns V
theorem aP.B1(r:aP w g vs (ps.map bY)):aP w (Mine.Internal.g7 g) vs (ps.map bY):=by
 refine⟨r.1,λi v d W Y=>?_⟩
 have V:=Y
 rw[ci] at V
 induction q:ps[i]? with
 |none=>rw[q] at V;exact ns V
 |some p=>rw[q] at V;obtain rfl:=aW V;exact(r.2 i v _ W Y).B1
theorem YB(N:Nx [] s (g7 g) s' g')(r:Rep w g' (.ref a) (.lst l)):s.heap.get? a=aU:=by
 obtain⟨b,n,af,e,V,_⟩:=r.lst_inv
 cases e
 induction q:s.heap.get? a with
 |none=>rfl
 |some o=>
  have W:g7 g a=aU:=by
   induction Y:g7 g a with
   |none=>rfl
   |some Z=>
    have:=N.gg _ _ Y
    rw[V] at this
    obtain rfl:=aW this
    exact aZ ⟨rfl,_,_,rfl⟩ (G8 Y).2
  have:=N.old _ _ q W (ca)
  replace this:=V▸this;exact sn this
end
section
variable {n:Nat} {sc:bf} {ρ:ay}
theorem aO.Rv{hl:ag}{k:Fl->ay->Prop}(hx:ρ.lookup x=aa (.dU X dx hl (ps.map bY)))(hO:ce x=ae)(ha:cu e=ae)(o0:(ap.endLine==cp.line)=ae)(f:(eT.endLine==e6.line)=ae)(jt:ps.length<=10000)
 (hF:i7 n 222 (ps.map bY) [] λd=>d=.lst (ps.map bY))
 (hb:∀ab,mR (bU (cC (aS x xp) "items" ap) [] [] cp) "append" ab (eval (bU (cC (aS x xp) "items" ap) [] [] cp) ab)=eval (bU (cC (aS x xp) "items" ap) [] [] cp) ab)
 (hV:∀ab,iA (bU (cC (bU (cC (aS x xp) "items" ap) [] [] cp) "append" eT) [e] [] e6) aU aM.line ab=pure aH)
 (h:aj n sc [] e λd=>True)(hk:k .next ρ):aO n sc ρ (.Expr (bU (cC (bU (cC (aS x xp) "items" ap) [] [] cp) "append" eT) [e] [] e6) aM) k:=.mk λw A ab mu aw aE s g aB H R E=>by
 have C:[e].all cu=ae:=by simp[ha]
 refine qW ?_ (by dsimp only[rj];rw[H.kind];rfl) (hV ab)
 obtain⟨v,h1,af,rfl,P,rl,h6⟩:=H.var x _ hx
 have V:=H.cI
 have Vn:c8 w s (g7 g) ab sc ([(x,.dU X dx hl (ps.map bY))]:ay):=by
  refine⟨V.kind,V.glob,V.gv,V.ks,V.lam,V.e8,λy c hc=>⟨tR (V.cP y c hc).1,(V.cP y c hc).2⟩,V.fg,λy b e=>?_⟩
  have:y=x/\b=.dU X dx hl (ps.map bY):=by
   by_cases q:y=x
   ·subst q;rw[EQ] at e;obtain rfl:=aW e;exact⟨rfl,rfl⟩
   ·simp only[iu,beq_eq_false_iff_ne.mpr q] at e;exact ns e
  obtain⟨rfl,rfl⟩:=this
  refine⟨.ref X,[hl],?_,af,rfl,P.g7,rl.B1,rfl⟩
  rcases h1 with ⟨q1,q2,m,q3,q4⟩|⟨q1,c,q2,q3,q4⟩
  ·exact .inl ⟨q1,tR q2,m,q3,q4⟩
  ·exact .inr ⟨q1,c,q2,tR q3,q4⟩
 refine ny (hb ab) ?_ f rfl ((aj.rO uD EQ (.inl rfl) hO rfl (eB _) o0 (fR hF):aj n sc ([(x,.dU X dx hl (ps.map bY))]:ay) (bU (cC (aS x xp) "items" ap) [] [] cp) λd=>d=.lst (ps.map bY)).wp H.st.g7 R Vn λlv aA aN d W Z B hd=>?_)
 ·rw[(cE C).1]
  rfl
 subst hd
 obtain⟨a,nn,iK,rfl,en,rn⟩:=B.lst_inv
 have fr:=YB W B
 refine⟨"list","list.append",cM.append.pa,cM.append.slot,cM.append.ty,⟨_,(Z.sub _ _ en),rfl⟩,λb e=>(by cases e;exact⟨_,(Z.sub _ _ en),rfl⟩),?_⟩
 refine nN (cE C).2 (fk (cE C).1 rfl (bg (cn.ok (k:=λds=>∃d,ds=[d]) C (ia (h.mono λd _=>fR ⟨d,rfl⟩)) w A ab aA aN e6 Z R ((λV=>⟨V.kind,V.glob,V.gv,V.ks,V.lam,V.e8,V.cP,V.fg,λy b e=>by exact ns e⟩:∀{s':av} {g':aY},c8 w s' g' ab sc ([(x,.dU X dx hl (ps.map bY))]:ay)->c8 w s' g' ab sc []) (Vn.step W H.st.g7)) E) (λvs aT ⟨bb,ds,G,Y,qd,d,e1⟩=>?_)))
 subst e1
 obtain⟨u,rfl,_⟩:=qd.one
 have N:=W.trans G
 refine fB ?_
 have eU:iK.size<=sizeLine:=by
  have:=rn.1
  simp at this
  exact bd (aV (aD (bn this) jt) (lT tT))
 refine zo (items:=iK) ⟨nn,(Y.sub _ _ (G.gg _ _ en))⟩ (λh' hp hs=>?_) (by have:=rn.1;simp at this;have h2:sizeLine=2^24:=rfl;exact eU)
 have gN:Nx [] s g aT g:=⟨N.keep,N.there,λ_ _ e=>e,λ_ _ _ e _=>e,N.os⟩
 have ga:g a=aU:=by
  induction q:g a with
  |none=>rfl
  |some o=>exact sn ((H.st.sub _ _ q).symm.trans fr)
 obtain⟨gw,ij⟩:=St.changes (mt:=[a]) (h':=h') (tk:=aT.toks) H.st (⟨Y.df,Y.gB,Y.blt,Y.lim,Y.bmain,Y.tab,λb o e=>N.keep b o (H.st.sub b o e) (λhT=>by rw[H.st.off b hT] at e;exact ns e) (ca),H.st.off,Y.gens⟩:St w aT g) gN dq.nil (λb hb=>by
  have:b=a:=a_.1 hb
  subst this
  exact⟨.inl fr,ga,_,(Y.sub _ _ (G.gg _ _ en)),cV.of λvs q=>by cases q⟩) (λb o hb e=>(hs.2 b (by simpa using hb)).trans e)
 have lA:=gN.over gw λb hb=>by
  have:b=a:=a_.1 hb
  subst this;exact .inl fr
 exact⟨g,_,.next,aB,H.step lA ij,trivial,hk⟩
end
noncomputable def mi(w:a9):Bool:=!(w.params.followText "set-order")
noncomputable def sv:ai->Str
 |.str x _=>x
 |_=>""
inductive acL(w:a9)(o:Obj)(xs:List Str):Prop
 |mk (hx:o.ExactSet) (es ep t) (hd:o.data=.set es ep t) (hf:t.fits es.size=ae) (hl:t.led=mi w) (hp:es.size≠0->t.plain=aH) (he:∀e∈es.toList,∃x u,e=(hashStr w x,.str x u)) (hm:(es.toList.map λe=>sv e.2).Perm xs) (hn:xs.Nodup)
abbrev iD(w:a9)(g:aY)(o:Obj)(xs:List Str):Prop:=acL w o xs
noncomputable def dH(xs:List Str)(x:Str):List Str:=if x∈xs then xs else xs++[x]
theorem Bu(xs:List Str)(x:Str):(dH xs x).length<=xs.length+1:=by unfold dH;split<;>simp
set_option tactic.hygienic true in
theorem I3:y∈dH xs x<->y∈xs\/y=x:=by
 unfold dH
 split
 ·rename_i h;exact⟨.inl,λq=>q.elim id λe=>e▸h⟩
 ·simp
set_option tactic.hygienic true in
theorem rY(h:xs.Nodup):(dH xs x).Nodup:=by
 unfold dH
 split
 ·exact h
 ·rename_i q
  exact kG.mpr ⟨h,by simp,λa V b Y e=>by
   have:b=x:=a_.1 Y
   subst this;subst e;exact q V⟩
theorem Q9(t:je)(n:Nat):(t.orStandIn n).led=t.led/\(t.plain=aH->(t.orStandIn n).plain=aH):=by
 unfold SetTable.orStandIn
 split
 ·exact⟨rfl,id⟩
 ·exact⟨rfl,λ_=>rfl⟩
theorem So(t:je)(es:Array (Int×ai))(h:Int)(x:ai):(layNew t es h x).2.1.led=t.led:=by
 unfold layNew
 split
 ·exact(Q9 _ _).1
 ·rfl
theorem UV{Y V W:Nat}{Z plain:Bool}{hs:Array Int}{r:je×Array Nat}(h:QW Y V W Z plain hs=aa r):r.1.led=Z/\r.1.plain=plain:=by
 unfold QW at h
 induction q:SetTable.layClean Y hs with
 |none=>replace h:=q▸h;exact ns h
 |some o=>rw[q] at h;obtain rfl:=aW h;exact⟨rfl,rfl⟩
theorem Rw(t:je)(es:Array (Int×ai))(n:Nat):(relayAll t es n).2.1.led=t.led/\(t.plain=aH->(relayAll t es n).2.1.plain=aH):=by
 unfold relayAll
 induction q:t.relaid (es.map (·.1)) n with
 |none=>exact⟨rfl,λ_=>rfl⟩
 |some r=>
  have V:=r.1;have aG:=r.2
  have:=UV q
  simp only
  split
  ·exact⟨this.1,λh=>this.2.trans h⟩
  ·exact⟨rfl,λ_=>rfl⟩
section
variable {w:a9} {A:bN} {E:ai->av->Prop} {s:av} {g:aY}
theorem KD{l:List (Int×ai)}(h:∀e∈l,∃x u,e=(hashStr w x,.str x u)):ElemsOf (ix PG w) l:=λe V=>by
 obtain⟨x,u,rfl⟩:=h e V
 exact⟨⟨x,by show gl x (.str x u)=ae;simp[gl],rfl⟩,rfl⟩
theorem JP{l:List (Int×ai)}(h:∀e∈l,∃x u,e=(hashStr w x,.str x u)):(l.findIdx? λe=>(ix PG w).is x e.2)=aU<->x∉l.map λe=>sv e.2:=by
 refine List.findIdx?_eq_none_iff.trans ?_
 constructor
 ·intro q W
  obtain⟨e,V,Y⟩:=bL.mp W
  have:=q e V
  obtain⟨y,u,rfl⟩:=h e V
  have Y:y=x:=Y
  subst Y
  have this:gl y (.str y u)=aH:=this
  simp[gl] at this
 ·intro q e V
  obtain⟨y,u,rfl⟩:=h e V
  refine qN.mpr λhh=>?_
  have hh:gl x (.str y u)=ae:=hh
  have:y=x:=by simpa[gl] using hh
  exact q (bL.mpr ⟨_,V,this⟩)
set_option tactic.hygienic true in
theorem Hs{u:Tok}{Q:Bool->av->Prop}(ho:s.heap.get? a=aa o)(h:iD w g o xs)(hl:xs.length<=1000)
 (hQ:∀b h' tk o',s.toks<=tk->(∀c,c≠a->h'.get? c=s.heap.get? c)->h'.get? a=aa o'->iD w g o' (dH xs x)->Q b {s with heap:=h',toks:=tk}):wpAny (model PG w) A (setAdd a (.str x u)) Q E s:=by
 obtain⟨hex,es,ep,t,hd,hf,B,El,H,f,iJ⟩:=h
 have MO:(ix PG w).is x (.str x u)=ae:=by show gl x (.str x u)=ae;simp[gl]
 have eU:es.size=xs.length:=by
  have:=f.length_eq
  simpa using this
 have hb:es.size<AY:=by have:AY=4096:=rfl;exact aV (aD (bn eU) hl) (lT tT)
 have Em:es.size+1<AY:=by have:AY=4096:=rfl;exact aV (fW (aD (bn eU) hl) (bv _)) (lT tT)
 refine eM (aJ ((ix PG w).pyHash MO ?_))
 refine eM (tJ (s:={s with toks:=s.toks+1}) ho hd hf ?_)
 dsimp only
 refine(byScan_of (rfl:(Value.str x u).scannable=ae) hb (KD H)).symm▸?_
 refine aJ ?_
 refine kg ?_
 refine aJ (wpAny_setScan_of (s:={s with toks:=s.toks+1}) MO ho hd hf (KD H) ?_)
 induction hr:List.findIdx? (λe=>(ix PG w).is x e.2) es.toList with
 |some j=>
  have hm:x∈xs:=by
   refine Decidable.byContradiction λq=>?_
   have:=(JP H (x:=x)).mpr λhm=>q (f.mem_iff.mp hm)
   replace this:=hr▸this;exact sn this
  have e:dH xs x=xs:=bo hm
  exact a8 (a8 (hQ aH s.heap (s.toks+1) o (jF _) (λ_ _=>rfl) ho (by rw[e];exact⟨hex,es,ep,t,hd,hf,B,El,H,f,iJ⟩)))
 |none=>
  have e:dH xs x=xs++[x]:=be (λq=>(JP H).mp hr (f.mem_iff.mpr q):x∉xs)
  have M5:∀(b:Bool) {aA:av} {Q':Unit->av->Prop},Q' () aA->wpAny (model PG w) A (match b with|true=>rule "set.scan.the-table-gave-way"|aH=>pure ()) Q' E aA:=
   λb aA Q' hq=>by induction b<;>first|exact a8 hq|exact wpAny_rule hq
  have Y:=layNew_perm t es ((ix PG w).hash x) (.str x u)
  have W:=layNew_fits t es ((ix PG w).hash x) (.str x u)
  have zd:=So t es ((ix PG w).hash x) (.str x u)
  generalize hL:layNew t es ((ix PG w).hash x) (.str x u)=L at Y W zd⊢
  have ⟨V,t1,G,aeq⟩:=L
  dsimp only at Y W zd⊢
  rw[tr] at Y
  have Mj:∀e∈V.toList,∃x u,e=(hashStr w x,.str x u):=λe he=>by
   rcases cQ.mp (Y.mem_iff.mp he) with he|he
   ·exact H e he
   ·exact⟨x,u,a_.mp he⟩
  have Mk:(V.toList.map λe=>sv e.2).Perm (dH xs x):=by
   rw[e]
   refine(Y.map λe=>sv e.2).trans ?_
   rw[dK]
   exact f.append_right _
  have MP:V.size<=sizeLine:=by
   have h1:=Y.length_eq
   simp at h1
   have:sizeLine=2^24:=rfl
   exact bd (eO (aV (bn h1) Em) (lT tT))
  have dk:∀(Z:je),Z.fits V.size=ae->Z.led=mi w->Z.plain=aH->wpAny (model PG w) A (do
   storeSet a V Z
   if (!G&&Z.tooFull)=ae then do
    (match (relayAll Z V (q7 V.size)).2.2 with|true=>rule "set.scan.the-table-gave-way"|aH=>pure ())
    storeSet a (relayAll Z V (q7 V.size)).1 (relayAll Z V (q7 V.size)).2.1
    pure (aa ae)
    else pure (aa ae)) (λr s'=>∃h' o',r=aa ae/\s'={s with heap:=h',toks:=s.toks+1}/\(∀c,c≠a->h'.get? c=s.heap.get? c)/\h'.get? a=aa o'/\iD w g o' (dH xs x)) E {s with toks:=s.toks+1}:=λZ f2 l2 p2=>by
   have st:∀(hp:dp) (o:Obj) (es:Array (Int×ai)) (ep:Nat) (t:je),hp.get? a=aa o->o.ExactSet->o.data=.set es ep t->∀C t',(hp.update a (Hg C t')).get? a=aa {o with data:=.set C (ep+1) t'}:=λhp o es ep t ho hex hd C t'=>by
    have:=s6 (Hg C t') ho (by rw[putSet_of C t' hd];rfl)
    exact((putSet_of C t' hd)▸this)
   refine aJ (PI (s:={s with toks:=s.toks+1}) ho hd ?_ MP)
   have DW:=st s.heap o es ep t ho hex hd V Z
   split
   ·have hp:=relayAll_perm Z V (q7 V.size)
    have jx:=relayAll_fits Z V (q7 V.size)
    have ze:=Rw Z V (q7 V.size)
    generalize hRl:relayAll Z V (q7 V.size)=Rl at hp jx ze⊢
    obtain⟨sO,t3,aeo⟩:=Rl
    dsimp only at hp jx ze⊢
    have adH:sO.size<=sizeLine:=by
     have h1:=hp.length_eq
     simp at h1
     exact aD (bn h1) MP
    refine aJ (M5 _ ?_)
    refine aJ (PI (s:={s with heap:=s.heap.update a (Hg V Z),toks:=s.toks+1}) DW rfl ?_ adH)
    refine a8 ⟨_,_,rfl,rfl,λc hc=>?_,st _ _ _ _ _ DW hex rfl sO t3,hex,sO,_,t3,rfl,jx,by refine ze.1.trans ?_;exact l2,λ_=>ze.2 p2,λe he=>Mj e (hp.mem_iff.mp he),(hp.map _).trans Mk,rY iJ⟩
    exact((gH _ a _).2 c hc).trans ((gH _ a _).2 c hc)
   ·exact a8 ⟨_,_,rfl,rfl,λc hc=>(gH _ a _).2 c hc,DW,hex,V,_,Z,rfl,f2,l2,λ_=>p2,Mj,Mk,rY iJ⟩
  refine aJ (M5 _ ?_)
  split
  ·refine aJ ?_
   refine a8 ?_
   refine bg (dk {t1 with plain:=aH} (SetTable.fits_plain_off W) (zd.trans B) rfl) (λr s' ⟨h',o',e1,e2,q1,q2,q3⟩=>?_)
   subst e1 e2
   exact a8 (hQ ae h' _ o' (jF _) q1 q2 q3)
  ·rename_i hp
   refine fZ ?_
   refine bg (dk t1 W (zd.trans B) (by simpa using hp)) (λr s' ⟨h',o',e1,e2,q1,q2,q3⟩=>?_)
   subst e1 e2
   exact a8 (hQ ae h' _ o' (jF _) q1 q2 q3)
theorem iD.isSet(h:iD w g o xs):o.cls=aK "set":=h.1.1
theorem Sp(h:∀o,(∀g,iD w g o [])->o.isFreed=aH->Q (.ref s.heap.objs.size) {s with heap:=s.heap.push o}):wpAny (model PG w) A (newSet (aK "set")) Q E s:=by
 dsimp only[newSet,Hh]
 refine aJ (aJ (pi (a8 ?_)))
 exact lf (h _ (λg=>⟨⟨rfl,rfl,rfl⟩,#[],0,_,rfl,by rfl,rfl,λq=>aZ rfl q,λe V=>by simp at V,dC tT,by simp⟩) rfl)
end
namespace FS
theorem slot_next:Slot "set_iterator" "__next__" "set_iterator.__next__":=
 .of (owner:="set_iterator") (n:="__next__") (by rw[j5,jX];kernel_rfl) (by decide+kernel) (by decide+kernel) (by decide+kernel)
  (by first|exact .inl (by decide+kernel)|exact .inr (by decide+kernel)) (by rw[qZ];kernel_rfl)
theorem entry_next:entryFor table "set_iterator.__next__"=aa Builtin.«set_iterator.__next__»:=PU (by kernel_rfl)
theorem args_next(a:ai):argsOk "set_iterator.__next__" ⟨[a],[]⟩:=by kernel_rfl
theorem Sq:entryFor table "set.__iter__"=aa Builtin.«frozenset.__iter__»:=QC (id':="frozenset.__iter__") (by kernel_rfl) rfl (by decide+kernel) (by kernel_rfl)
theorem TD(a:ai):argsOk "set.__iter__" ⟨[a],[]⟩:=by kernel_rfl
theorem WK:mT (aK "set") "__len__"=pure (aa (.builtin "set.__len__")):=by rw[j5,jX];kernel_rfl
end FS
section
variable {w:a9} {A:bN} {E:ai->av->Prop} {s:av} {g:aY}
theorem Rx{Q:Nat->av->Prop}(V:n≠0)(h:∀i,i<n->∀d,Q i {s with drawn:=d}):wpAny (model PG w) A (choose .order n) Q E s:=λW p Y=>⟨V,h _ (tV _ (Pj V)) _⟩
theorem Gr:∀(n:Nat) (xs:List α) (s:av) (Q:List α->av->Prop),xs.length=n->(∀ys d,ys.Perm xs->Q ys {s with drawn:=d})->wpAny (model PG w) A (drawOrder n xs) Q E s
 |0,xs,s,Q,hl,h=>by
  have:xs=[]:=lL.mp hl
  subst this
  exact a8 (h [] s.drawn (qX _))
 |n+1,[],s,Q,hl,h=>by simp at hl
 |n+1,x::r,s,Q,hl,h=>by
  show wpAny _ _ (do
   let i <-choose .order (x::r).length
   match (x::r)[i]? with
   |some V=>return V::(<-drawOrder n ((x::r).eraseIdx i))
   |none=>G0 "internal:drawOrder") Q E s
  refine aJ (Rx (by simp) λi hi d=>?_)
  refine(dt hi)▸?_
  refine aJ (Gr n _ _ _ (by exact OO.trans ((bo hi).trans (Km (by assumption)))) λys Y W=>a8 ?_)
  refine h _ Y ?_
  refine(Ab _ W).trans ?_
  rw[NR]
  have:(x::r).Perm ((x::r).take i++((x::r)[i]::(x::r).drop (i+1))):=by
   rw[<-qz hi,kC]
  exact FC.symm.trans this.symm
noncomputable def f5(f:ai)(i:Nat)(a:ag)(n ep:Nat):Obj:={cls:=aK "set_iterator",data:=bC #[f,.int i 0,.ref a,.int n 0,.int ep 0]}
section
variable {I a n i ep:Nat} {o:Obj} {es:Array (Int×ai)} {sR:Nat} {t:je}
theorem f5.typeIs{f:ai}(h:s.heap.get? I=aa (f5 f i a n ep)):s.TypeIs (.ref I) "set_iterator":=⟨_,h,rfl⟩
theorem JQ{slot:Nat}{r:Option (ai×Nat)}{Q:Option ai->av->Prop}(hh:A.handled=ak)(V:s.heap.get? I=aa (f5 (.int slot 0) i a n ep))(H:s.heap.get? a=aa o)(hd:o.data=.set es sR t)(G:t.fits es.size=ae)(C:es.size=n)
 (B:∀(A:bN) (E:ai->av->Prop) (Q:Option (ai×Nat)->av->Prop),Q r s->wpAny (model PG w) A (setNext a slot i ep) Q E s)
 (f:∀v next,r=aa (v,next)->∀h',h'.get? I=aa (f5 (.int next 0) (i+1) a n ep)->(∀b,b≠I->h'.get? b=s.heap.get? b)->Q (aa v) {s with heap:=h'})
 (h2:r=aU->∀h',(∀b o,b≠I->s.heap.get? b=aa o->h'.get? b=aa o)->Q aU {s with heap:=h'}):wpAny (model PG w) A (pyNext (.ref I)) Q E s:=by
 refine aJ (wE (qA (name:=a6 "__next__") (f5.typeIs V) FS.slot_next
  (j4 FS.slot_next (f5.typeIs V) FS.entry_next ?_ (FS.args_next _))))
 unfold Builtin.«set_iterator.__next__»
 refine aJ (m:=slotArgs "__next__" 0 _) (a8 ?_)
 refine aJ (Ga V rfl ?_)
 dsimp only[Hi]
 refine aJ (aJ (v9 H hd G (a8 ?_)))
 have W:((es.size:Int) != (n:Int))=aH:=by rw[C];simp
 rw[W,be (by simp)]
 rw[lV,lV,lV]
 refine aJ (B _ _ _ ?_)
 induction hr:r with
 |some p=>
  obtain⟨v,next⟩:=p
  have Z:(s.heap.update I (Aj (·.setIfInBounds 0 (rawInt next)))).get? I=aa (f5 (.int next 0) i a n ep):=s6 _ V (vP (th (o:=f5 (.int slot 0) i a n ep) rfl _))
  refine aJ (pk V rfl (eB _) ?_)
  refine aJ (pk (s:={s with heap:=s.heap.update I (Aj (·.setIfInBounds 0 (rawInt next)))}) Z rfl (by simp) ?_)
  refine a8 ⟨v,rfl,a8 (f v next hr _ ?_ λb Y=>?_)⟩
  ·exact s6 _ Z (vP (th (o:=f5 (.int next 0) i a n ep) rfl _))
  ·exact((gH _ I _).2 b Y).trans ((gH _ I _).2 b Y)
 |none=>
  refine aJ (pk V rfl (by simp) ?_)
  refine aJ ?_
  refine aJ (lf ?_ (by size_fits))
  refine aJ (m:=Gc _ _) (tP (a:=fD) (by first|rfl|(rfl)) ?_)
  refine lf ?_ (by size_fits)
  dsimp only[raiseNew]
  refine A0 ?_
  first|rw[show A.in1.handled=ak from hh]|rw[hh]
  refine fZ (G1 ?_)
  refine rh (T:="StopIteration") (b:=ae) ⟨_,cB _ rfl,rfl⟩ Gd ?_
  exact a8 (h2 hr _ λb ob Y e=>bZ _ (bZ _ (((gH _ I _).2 b Y).trans e)))
theorem JR{T:ag}{W:Array ai}{Q:Option ai->av->Prop}(hh:A.handled=ak)(V:s.heap.get? I=aa (f5 (.ref T) i a n ep))(H:s.heap.get? a=aa o)(hd:o.data=.set es ep t)(G:t.fits es.size=ae)(B:es.size=n)
 (f:s.heap.get? T=aa {cls:=aK "tuple",data:=.seq W m})
 (h1:∀j u e,W[i]?=aa (.int (j:Nat) u)->es[j]?=aa e->∀h',h'.get? I=aa (f5 (.ref T) (i+1) a n ep)->(∀b,b≠I->h'.get? b=s.heap.get? b)->Q (aa e.2) {s with heap:=h'})
 (hp:∀v,W[i]?=aa v->∃j u e,v=.int ((j:Nat):Int) u/\es[j]?=aa e)
 (h2:W[i]?=aU->∀h',(∀b o,b≠I->s.heap.get? b=aa o->h'.get? b=aa o)->Q aU {s with heap:=h'}):wpAny (model PG w) A (pyNext (.ref I)) Q E s:=by
 refine aJ (wE (qA (name:=a6 "__next__") (f5.typeIs V) FS.slot_next
  (j4 FS.slot_next (f5.typeIs V) FS.entry_next ?_ (FS.args_next _))))
 unfold Builtin.«set_iterator.__next__»
 refine aJ (m:=slotArgs "__next__" 0 _) (a8 ?_)
 refine aJ (Ga V rfl ?_)
 dsimp only[Hi]
 refine aJ (aJ (v9 H hd G (a8 ?_)))
 have Z:((es.size:Int) != (n:Int))=aH:=by rw[B];simp
 rw[Z,be (by simp)]
 refine lZ f rfl ?_
 dsimp only
 rw[lV]
 induction q:W[i]? with
 |some v=>
  refine ba λN_=>?_
  obtain⟨j,u,e,rfl,C⟩:=hp v q
  apply N_
  simp only[lV,lV]
  refine aJ (aJ (v9 H hd G ?_))
  dsimp only
  have Y:(ep != ep)=aH:=by simp
  rw[Y,be (by simp),C]
  refine a8 ?_
  refine aJ (pk V rfl (by simp) ?_)
  refine a8 ⟨_,rfl,a8 (h1 j u e q C _ ?_ λb Y=>(gH _ I _).2 b Y)⟩
  exact s6 _ V (vP (th (o:=f5 (.ref T) i a n ep) rfl _))
 |none=>
  have e1:(s.heap.update I (Aj (·.setIfInBounds 0 (rawInt 0)))).get? I=aa (f5 (.int 0 0) i a n ep):=s6 _ V (vP (th (o:=f5 (.ref T) i a n ep) rfl _))
  refine aJ (pk V rfl (eB _) ?_)
  refine aJ (pk (s:={s with heap:=s.heap.update I (Aj (·.setIfInBounds 0 (rawInt 0)))}) e1 rfl (by simp) ?_)
  refine aJ ?_
  refine aJ (lf ?_ (by size_fits))
  refine aJ (m:=Gc _ _) (tP (a:=fD) (by first|rfl|(rfl)) ?_)
  refine lf ?_ (by size_fits)
  dsimp only[raiseNew]
  refine A0 ?_
  first|rw[show A.in1.handled=ak from hh]|rw[hh]
  refine fZ (G1 ?_)
  refine rh (T:="StopIteration") (b:=ae) ⟨_,cB _ rfl,rfl⟩ Gd ?_
  exact a8 (h2 q _ λb ob Y e=>bZ _ (bZ _ (((gH _ I _).2 b Y).trans (((gH _ I _).2 b Y).trans e))))
end
end
namespace FS
theorem slot_self:Slot "set_iterator" "__iter__" "set_iterator.__iter__":=
 .of (owner:="set_iterator") (n:="__iter__") (by rw[j5,jX];kernel_rfl) (by decide+kernel) (by decide+kernel) (by decide+kernel)
  (by first|exact .inl (by decide+kernel)|exact .inr (by decide+kernel)) (by rw[qZ];kernel_rfl)
theorem entry_self:entryFor table "set_iterator.__iter__"=aa Builtin.«dict_keyiterator.__iter__»:=
 QC (id':="dict_keyiterator.__iter__") (by kernel_rfl) (by first|rfl|decide+kernel) (by decide+kernel) (by kernel_rfl)
theorem args_self(a:ai):argsOk "set_iterator.__iter__" ⟨[a],[]⟩:=by kernel_rfl
end FS
theorem WL(next:Nat->Nat):∀(f k:Nat) (left:List α) (V:Array α),left.length=f->(As next f k left V).toList.Perm (V.toList++left):=by
 intro Z
 induction Z with
 |zero=>
  intro k left V h
  obtain rfl:=Ev h
  simp only[cR];exact .refl _
 |succ f Y=>
  intro k left V h
  have hi:next k%left.length<left.length:=tV _ (h▸eB f)
  have e:As next (f+1) k left V=As next f (k+1) (left.eraseIdx (next k%left.length)) (V.push left[next k%left.length]):=by
   show (match left[next k%left.length]? with|some x=>As next f (k+1) (left.eraseIdx (next k%left.length)) (V.push x)|ak=>V)=_
   rw[dt hi]
  rw[e]
  refine(Y _ _ _ ((List.length_eraseIdx_of_lt hi).trans (h▸rfl))).trans ?_
  simp only[tr,c6,NR]
  refine .append_left _ (FC (l₁:=left.take (next k%left.length)) |>.symm.trans (.of_eq ?_))
  simp only[<-qz hi,kC]
theorem TE(next:Nat->Nat)(xs:Array α):(HP next xs).toList.Perm xs.toList:=WL next _ 0 xs.toList #[] rfl
section
variable {w:a9} {A:bN} {E:ai->av->Prop} {s:av} {g:aY}
theorem pyIter_self{I a:Nat}{f:ai}(h:s.heap.get? I=aa (f5 f i a n ep))(V:Q (.ref I) s):wpAny (model PG w) A (pyIter (.ref I)) Q E s:=by
 refine PJ (f5.typeIs h) FS.slot_self (j4 FS.slot_self (f5.typeIs h) FS.entry_self ?_ (FS.args_self _))
 exact a8 ⟨_,rfl,"set_iterator",_,f5.typeIs h,FS.slot_next.lookup,V⟩
inductive Z9(w:a9)(s:av)(a:ag)(xs:List Str)(I:ag)(aT:av):Prop
 |mk (L:List ai) (fp:List ag) (St:Nat->av->Prop) (hW:∀A:bN,A.handled=aU->xP PG w A I fp [I] (λa b=>b=a) L.length (λi v=>L[i]?=aa v) St) (h0:St 0 aT) (mD:∀b∈fp,b<aT.heap.objs.size/\(b=a\/s.heap.objs.size<=b)) (hs:∀v∈L,∃x u,v=.str x u) (hp:(L.map sv).Perm xs)
structure B2(w:a9)(s:av)(a:ag)(xs:List Str)(I:ag)(aT:av):Prop where
 walk:Z9 w s a xs I aT
 new:s.heap.get? I=aU
 keep:∀b o,s.heap.get? b=aa o->aT.heap.get? b=aa o
 same:∃h d,aT={s with heap:=h,drawn:=d}
 lt:s.heap.objs.size<=I
theorem UW{L:List ai}(V:∀e∈es.toList,∃x u,e=(hashStr w x,.str x u))(Y:(es.toList.map λe=>sv e.2).Perm xs)(W:L.Perm (es.toList.map (·.2))):(∀v∈L,∃x u,v=.str x u)/\(L.map sv).Perm xs:=
 ⟨λv Z=>by
  obtain⟨e,H,rfl⟩:=bL.mp (W.mem_iff.mp Z)
  obtain⟨x,u,rfl⟩:=V e H
  exact⟨x,u,rfl⟩,(W.map sv).trans (by rw[cJ];exact Y)⟩
theorem Ib{I:ag}(h:s.heap.objs.size<=I):s.heap.get? I=aU:=by
 induction q:s.heap.get? I with
 |none=>rfl
 |some V=>exact aZ (cq q) (de.mpr h)
structure ye(w:a9)(a:ag)(o:Obj)(ep:Nat)(L:List ai)(ok:Nat->Nat->Prop)(i slot:Nat)(r:Option (ai×Nat)):Prop where
 run:∀(s:av) (A:bN) (E:ai->av->Prop) (Q:Option (ai×Nat)->av->Prop),s.heap.get? a=aa o->Q r s->wpAny (model PG w) A (setNext a slot i ep) Q E s
 got:∀v next,r=aa (v,next)->L[i]?=aa v/\ok (i+1) next
 end_:r=aU->L.length<=i
 last:i=L.length->r=aU
inductive ISt(I a:ag)(o:Obj)(n ep N:Nat)(ok:Nat->Nat->Prop)(i:Nat)(s':av):Prop
 |mk (slot:_) (h1:ok i slot) (h2:i<=N) (h3:s'.heap.get? I=aa (f5 (.int (slot:Nat) 0) i a n ep)) (h4:s'.heap.get? a=aa o)
theorem TF{I:ag}{t:je}{L:List ai}{ok:Nat->Nat->Prop}(hd:o.data=.set es ep t)(hf:t.fits es.size=ae)(V:∀i slot,i<=L.length->ok i slot->∃r,ye w a o ep L ok i slot r)(f:a≠I)(hh:A.handled=aU):
 xP PG w A I [I,a] [I] (λa b=>b=a) L.length (λi v=>L[i]?=aa v) (ISt I a o es.size ep L.length ok):=
 ⟨λb C=>a_.mp C▸bi,λ_=>rfl,λa b c h1 h2=>h2.trans h1,λi s' h' tk st _ hk=>by
  obtain⟨slot,H,G,Z,Y⟩:=st
  exact⟨slot,H,G,hk _ bi _ Z,hk _ (bM _ bi) _ Y⟩,λi s' Q' E' hi st W=>by
  obtain⟨slot,H,G,Z,Y⟩:=st
  obtain⟨r,R⟩:=V i slot G H
  exact JQ hh Z Y hd hf rfl (λA E Q W=>R.run s' A E Q Y W) (λv next e h' q1 B=>W v _ (R.got v next e).1 ⟨next,(R.got v next e).2,hi,q1,(B a f).trans Y⟩ ⟨λb o' C e=>(B b λq=>C (a_.mpr q)).trans e,rfl,rfl,rfl,bv _⟩) λe=>aZ (R.end_ e) (kJ.mpr hi),λs' Q' E' st W=>by
  obtain⟨slot,H,G,Z,Y⟩:=st
  obtain⟨r,R⟩:=V L.length slot G H
  exact JQ hh Z Y hd hf rfl (λA E Q W=>R.run s' A E Q Y W) (λv next e=>ns ((R.last rfl).symm.trans e)) λe h' B=>W _ ⟨λb o' C e=>B b o' (λq=>C (a_.mpr q)) e,rfl,rfl,rfl,bv _⟩,λi s' Q' E' st W=>by
  obtain⟨slot,H,G,Z,Y⟩:=st
  exact pyIter_self Z W⟩
theorem Ic{t:je}{L:List ai}{ok:Nat->Nat->Prop}(Y:s.heap.get? a=aa o)(hd:o.data=.set es ep t)(H:t.fits es.size=ae)(W:(∀v∈L,∃x u,v=.str x u)/\(L.map sv).Perm xs)(G:ok 0 0)
 (V:∀i slot,i<=L.length->ok i slot->∃r,ye w a o ep L ok i slot r)(C:∀I aT,B2 w s a xs I aT->Q (.ref I) aT):
 wpAny (model PG w) A.in1 (newFields "set_iterator" [rawInt 0,rawInt 0,.ref a,rawInt es.size,rawInt ep]>>=ret) (λdk s'=>∃v,dk=.done (.ret v)/\∃Z r,s'.TypeIs v Z/\mT (aK Z) (a6 "__next__")=pure (aa r)/\Q v s') E s:=
 aJ (lf (a8 ⟨_,rfl,"set_iterator",_,⟨_,cB _ rfl,rfl⟩,FS.slot_next.lookup,C _ _ ⟨⟨L,_,_,λA' hh=>TF hd H V (eC (cq Y)) hh,⟨0,G,ck _,cB _ rfl,bZ _ Y⟩,
  List.forall_mem_cons.mpr ⟨⟨E9 (gY _) (gZ ..).symm,.inr (bv _)⟩,λb B=>by
  obtain rfl:=a_.mp B
  exact⟨E9 (lU (cq Y)) (gZ ..).symm,.inl rfl⟩⟩,W.1,W.2⟩,
  Ib (bv _),λb o e=>bZ _ e,⟨_,s.drawn,rfl⟩,bv _⟩⟩))
structure DX(es:Array (Int×ai))(ys:List Nat)(L:List ai):Prop where
 yl:ys.length=es.size
 len:L.length=es.size
 perm:L.Perm (es.toList.map (·.2))
 at_:∀i j:Nat,ys[i]?=aa j->∃e:Int×ai,es[j]?=aa e/\L[i]?=aa e.2
theorem WM{ys:List Nat}(V:ys.Perm (dM es.size)):DX es ys (ys.map λj=>(es.toList.map (·.2)).getD j fD):=by
 have Y:=V.length_eq.trans kF
 refine⟨Y,(aR _).trans Y,(V.map _).trans (.of_eq ?_),λi j h=>?_⟩
 ·have:=Ae (es.toList.map (·.2))
  simp only[aR,zB] at this
  exact this
 ·have W:=gk.mp (V.mem_iff.mp (c5 h))
  refine⟨_,nw W,?_⟩
  simp only[ci,h]
  refine aQ aa ((k9 ..).trans ?_)
  simp only[ci,kB,nw W];rfl
inductive TSt(I T a:ag)(o:Obj)(n ep:Nat)(pl:Array ai)(N i:Nat)(s':av):Prop
 |mk (h2:i<=N) (h3:s'.heap.get? I=aa (f5 (.ref T) i a n ep)) (h4:s'.heap.get? a=aa o) (h5:s'.heap.get? T=aa {cls:=aK "tuple",data:=.seq pl})
theorem Lk{ys:List Nat}(h:(ys.map λ(i:Nat)=>rawInt i).toArray[i]?=aa v):∃j:Nat,ys[i]?=aa j/\v=rawInt j:=by
 rw[nz,ci] at h
 obtain⟨j,V,Y⟩:=kA.mp h
 exact⟨j,V,Y.symm⟩
theorem UX{I T:ag}{t:je}{L:List ai}{ys:List Nat}(hd:o.data=.set es ep t)(hf:t.fits es.size=ae)(hD:DX es ys L)(e_:a≠I)(hnT:T≠I)(hh:A.handled=aU):
 xP PG w A I [I,a,T] [I] (λa b=>b=a) L.length (λi v=>L[i]?=aa v) (TSt I T a o es.size ep (ys.map λ(i:Nat)=>rawInt i).toArray L.length):=by
 have mI:∀{b},b∉[I]->b≠I:=λV q=>V (a_.mpr q)
 have H:∀(i:Nat) (v:ai),(ys.map λ(i:Nat)=>rawInt i).toArray[i]?=aa v->∃(j:Nat) (u:Tok) (e:Int×ai),v=Value.int ((j:Nat):Int) u/\es[j]?=aa e:=λi v hv=>by
  refine(Lk hv).elim λj nj=>nj.elim λG C=>?_
  obtain⟨e,h3,_⟩:=hD.at_ i j G
  exact⟨j,_,e,C,h3⟩
 have B:(ys.map λ(i:Nat)=>rawInt i).toArray.size=L.length:=(aR _).trans (hD.yl.trans hD.len.symm)
 refine⟨λb V=>a_.mp V▸bi,λ_=>rfl,λa b c G C=>C.trans G,λi s' h' tk st _ hk=>?_,λi s' Q' E' hi st f=>?_,λs' Q' E' st f=>?_,λi s' Q' E' st f=>?_⟩
 ·obtain⟨k2,Y,W,Z⟩:=st
  exact⟨k2,hk _ bi _ Y,hk _ (bM _ bi) _ W,hk _ (bM _ (bM _ bi)) _ Z⟩
 ·obtain⟨k2,Y,W,Z⟩:=st
  refine JR hh Y W hd hf rfl Z (λj u e q0 q1 h' q2 q3=>?_) (H i) λe=>aZ (B▸ED.mp e) (kJ.mpr hi)
  refine f _ _ ?_ ⟨hi,q2,(q3 a e_).trans W,(q3 T hnT).trans Z⟩ ⟨λb o' V e=>(q3 b (mI V)).trans e,rfl,rfl,rfl,bv _⟩
  obtain⟨j',G,C⟩:=Lk q0
  obtain rfl:j=j':=lW (QO C).1
  obtain⟨e',h3,h4⟩:=hD.at_ i j G
  exact(aW (q1.symm.trans h3))▸h4
 ·obtain⟨k2,Y,W,Z⟩:=st
  exact JR hh Y W hd hf rfl Z (λj u e q0=>aZ q0 (by rw[EL (bn B)];nofun)) (H _) λe h' q2=>f _ ⟨λb o' V e=>q2 b o' (mI V) e,rfl,rfl,rfl,bv _⟩
 ·obtain⟨k2,Y,W,Z⟩:=st
  exact pyIter_self Y f
theorem TG{t:je}(V:w.params.followText "set-order"=ae)(hd:o.data=.set es ep t)(W:t.fits es.size=ae)(i:Nat):
 ye w a o ep ((HP (w.params.setOrder a ep) es).toList.map (·.2)) (λ_ slot=>slot=0) i 0 (((HP (w.params.setOrder a ep) es)[i]?).map λe=>(e.2,0)):=by
 refine⟨λs' A E Q Y Z=>?_,λv next e=>?_,λe=>?_,λe=>?_⟩
 ·delta setNext setWalk Hh
  refine tJ Y hd W (aJ (aJ (pi (a8 ?_))))
  show wpAny _ _ (if w.params.followText "set-order"=ae then _ else _) _ _ _
  rw[bo V,be (by simp)]
  refine aJ (aJ (v9 Y hd W (aJ (aJ (pi (a8 ?_))))))
  exact(bo V)▸(aJ (pi (a8 (a8 Z))))
 ·obtain⟨u,q,H⟩:=kA.mp e
  obtain⟨rfl,rfl⟩:=wK H
  exact⟨by simp only[ci,kB,q];rfl,rfl⟩
 ·exact aD (bn ((aR _).trans zB)) (ED.mp (Op.mp e))
 ·exact Op.mpr (ED.mpr (bn (((aR _).trans zB).symm.trans e.symm)))
theorem Sr{slot:Nat}{t:je}{Q:Option (ai×Nat)->av->Prop}(V:w.params.followText "set-order"=aH)(hl:t.led=ae)(Y:¬es.size>1)(hd:o.data=.set es ep t)(W:t.fits es.size=ae)(Z:s.heap.get? a=aa o)
 (H:Q (match es[wz t.place slot]?,t.place[wz t.place slot]? with|some (_,x),aa j=>aa (x,j+1)|_,_=>ak) s):wpAny (model PG w) A (setNext a slot i ep) Q E s:=by
 delta setNext Hh
 refine tJ Z hd W (aJ (aJ (pi (a8 ?_))))
 show wpAny _ _ (if w.params.followText "set-order"=ae then _ else _) _ _ _
 rw[V,be (by simp)]
 show wpAny _ _ (if (!t.plain&&decide (es.size>1))=ae then _ else _) _ _ _
 rw[eY Y,QD,be (by simp)]
 show wpAny _ _ ((if (!t.led&&!es.isEmpty)=ae then G0 "set:maker-not-led" else pure ())>>=_) _ _ _
 rw[hl,be (by simp)]
 exact fZ (a8 H)
theorem Ie(p j:Nat):wz #[p] j=if p<j then 1 else 0:=by kernel_rfl
theorem RR{t:je}(W:w.params.followText "set-order"=aH)(hl:t.led=ae)(f:¬es.size>1)(hd:o.data=.set es ep t)(hf:t.fits es.size=ae):
 ∃ok:Nat->Nat->Prop,ok 0 0/\∀i slot,i<=(es.toList.map (·.2)).length->ok i slot->∃r,ye w a o ep (es.toList.map (·.2)) ok i slot r:=by
 have Z:=λ(slot i:Nat) (s:av) (A:bN) (E:ai->av->Prop) (Q:Option (ai×Nat)->av->Prop) (Y:s.heap.get? a=aa o)=>Sr (slot:=slot) (i:=i) (s:=s) (A:=A) (E:=E) (Q:=Q) W hl f hd hf Y
 obtain⟨le⟩:=es
 cases le with
 |nil=>exact⟨λ_ _=>True,trivial,λi slot hi _=>⟨aU,Z slot i,λ_ _ h=>aZ h.symm (lb _),λ_=>ck _,λ_=>rfl⟩⟩
 |cons e r=>
  induction r with
  |cons e2 r2=>exact aZ (PW (eB _)) f
  |nil=>
   have H:t.place.size=1:=by
    exact cY ((bB _ _).mp hf).1
   refine ba λN_=>?_
   obtain⟨tm,⟨lp⟩,td,tf,tl,tmv,tp⟩:=t
   obtain⟨V,rfl⟩:=EI.mp H
   apply N_
   refine⟨λi slot=>(i=0/\slot=0)\/(i=1/\slot=V+1),.inl ⟨rfl,rfl⟩,λi slot hi hs=>?_⟩
   rcases hs with ⟨rfl,rfl⟩|⟨rfl,rfl⟩
   ·refine⟨aa (e.2,V+1),λs A E Q Y G=>Z 0 0 s A E Q Y ?_,λv next h=>?_,λh=>aZ h (lb _),λh=>aZ h Nat.zero_ne_one⟩
    ·show Q (match (#[e]:Array (Int×ai))[wz #[V] 0]?,(#[V]:Array Nat)[wz #[V] 0]? with|some (_,x),aa j=>aa (x,j+1)|_,_=>ak) s
     rw[Ie,be (z6 _)];exact G
    ·refine(wK (aW h)).elim λC B=>?_;subst C;subst B
     exact⟨rfl,.inr ⟨rfl,rfl⟩⟩
   ·refine⟨aU,λs A E Q Y G=>Z (V+1) 1 s A E Q Y ?_,λ_ _ h=>aZ h.symm (lb _),λ_=>bv _,λ_=>rfl⟩
    rw[Ie,bo (gY _)];exact G
theorem Ss{t:je}{L:List ai}{ys:List Nat}{d:Drawn}(C:s.heap.get? a=aa o)(hd:o.data=.set es ep t)(B:t.fits es.size=ae)(f:DX es ys L)(Z:(∀v∈L,∃x u,v=.str x u)/\(L.map sv).Perm xs)
 (hQ:∀I aT,B2 w s a xs I aT->Q (.ref I) aT):
 wpAny (model PG w) A.in1 (newFields "set_iterator" [.ref s.heap.objs.size,rawInt 0,.ref a,rawInt es.size,rawInt ep]>>=ret) (λdk s'=>∃v,dk=.done (.ret v)/\∃H r,s'.TypeIs v H/\mT (aK H) (a6 "__next__")=pure (aa r)/\Q v s') E {s with heap:=s.heap.push {cls:=aK "tuple",data:=.seq (ys.map λ(i:Nat)=>rawInt i).toArray},drawn:=d}:=by
 have V:=bZ {cls:=aK "tuple",data:=.seq (ys.map λ(i:Nat)=>rawInt i).toArray} C
 have G:(s.heap.push {cls:=aK "tuple",data:=.seq (ys.map λ(i:Nat)=>rawInt i).toArray}).get? s.heap.objs.size=aa {cls:=aK "tuple",data:=.seq (ys.map λ(i:Nat)=>rawInt i).toArray}:=cB _ rfl
 have Y:=cq G
 refine aJ (lf (a8 ⟨_,rfl,"set_iterator",_,⟨_,cB _ rfl,rfl⟩,FS.slot_next.lookup,hQ _ _ ⟨⟨L,_,_,λA' hh=>UX hd B f (eC (cq V)) (eC Y) hh,⟨ck _,cB _ rfl,bZ _ V,bZ _ G⟩,λb W=>?_,Z.1,Z.2⟩,
  Ib (bd Y),λb o e=>bZ _ (bZ _ e),⟨_,d,rfl⟩,bd Y⟩⟩))
 refine And.imp_left (λh=>E9 (jY h) (gZ ..).symm) ?_
 rcases bT.mp W with rfl|W
 ·exact⟨bv _,.inr (bd Y)⟩
 ·rcases bT.mp W with rfl|W
  ·exact⟨bd (cq V),.inl rfl⟩
  ·obtain rfl:=a_.mp W
   exact⟨bd Y,.inr (bv _)⟩
theorem UY(V:s.heap.get? a=aa o)(h:iD w g o xs)(hl:xs.length<=1000)(f:∀I aT,B2 w s a xs I aT->Q (.ref I) aT):wpAny (model PG w) A (pyIter (.ref a)) Q E s:=by
 obtain⟨hex,es,ep,t,hd,Y,G,El,vB,C,iJ⟩:=h
 have hT:s.TypeIs (.ref a) "set":=⟨_,V,hex.1⟩
 have perm:=λ{L:List ai}=>UW (L:=L) vB C
 have Z:∀{α:Type} {s':av} {A:bN} {E:ai->av->Prop} {k:Nat->Sem α} {Q':α->av->Prop},s'.heap.get? a=aa o->wpAny (model PG w) A (k ep) Q' E s'->wpAny (model PG w) A (setEpoch a>>=k) Q' E s':=λho' hk=>aJ (wpAny_setEpoch_of ho' hd Y hk)
 refine PJ hT OE (j4 OE hT FS.Sq ?_ (FS.TD _))
 unfold Builtin.«frozenset.__iter__» ad7
 refine aJ (m:=slotArgs "__iter__" 0 _>>=λr=>adX r.1) (a8 ?_)
 delta adY Hi
 refine aJ (aJ (tJ V hd Y (a8 (a8 (aJ ?_)))))
 refine tJ V hd Y (aJ (aJ (pi (a8 (a8 ?_)))))
 show wpAny _ _ (if (!(w.params.followText "set-order")&&(!t.plain&&decide (es.size>1)))=ae then _ else _) _ _ _
 induction H:w.params.followText "set-order" with
 |true=>
  exact fZ (Z V (Ic (ok:=λ_ W=>W=0) V hd Y (perm ((TE (w.params.setOrder a ep) es).map _)) rfl (λi W _ hs=>by subst hs;exact⟨_,TG H hd Y i⟩) f))
 |false=>
  by_cases B:es.size>1
  ·rw[El (jD (eO Nat.zero_lt_one B)),eS B,bo (by decide)]
   refine aJ (Gr es.size (dM es.size) s _ kF λys d hy=>?_)
   have hD:=WM hy
   exact wW (Z (bZ _ V) (Ss (s:=s) (d:=d) V hd Y hD (perm hD.perm) f)) (py▸bd (aV (aD (bn ((aR _).trans (hD.yl.trans ((aR (as:=es.toList) _).symm.trans C.length_eq:es.size=xs.length)))) hl) (by simp)))
  ·rw[eY B,QD,be (by decide)]
   obtain⟨ok,h0,hs⟩:=RR H (G.trans (by unfold mi;rw[H];rfl)) B hd Y
   exact fZ (Z V (Ic V hd Y (perm (qX _)) h0 hs f))
end
section
variable {w:a9} {A:bN} {E:ai->av->Prop} {s:av} {g:aY}
theorem RS{Q:List ai->av->Prop}(S:St w s g)(hh:A.handled=aU)(ho:s.heap.get? a=aa o)(h:iD w g o xs)(hl:xs.length<=1000)
 (hQ:∀s' vs,Nx [] s g s' g->St w s' g->(∀v∈vs,∃x u,v=.str x u)->(vs.map sv).Perm xs->Q vs s'):wpAny (model PG w) A (collect (.ref a)) Q E s:=by
 unfold collect
 refine aJ (QE (tB PySem.F.entry_proto_collect ?_))
 refine(vV PySem.F.plain_proto_collect _)▸?_
 show wpAny _ A.in1 (newList []>>=λl=>again (.builtin "list.__iadd__" ⟨[l,.ref a],[]⟩)) _ _ s
 refine aJ (lf ?_)
 refine a8 ⟨Ak Oe _,tB PySem.F.entry_list_iadd ?_⟩
 refine(vV Oe _)▸?_
 have f:(s.heap.push {cls:=aK "list",data:=.seq ([]:List ai).toArray}).get? a=aa o:=bZ _ ho
 have o0:(s.heap.push {cls:=aK "list",data:=.seq ([]:List ai).toArray}).get? s.heap.objs.size=aa {cls:=aK "list",data:=.seq ([]:List ai).toArray}:=cB _ rfl
 have up:∀b o,s.heap.get? b=aa o->b<s.heap.objs.size/\(s.heap.push {cls:=aK "list",data:=.seq ([]:List ai).toArray}).get? b=aa o:=λb o e=>⟨cq e,bZ _ e⟩
 have eU:(s.heap.push {cls:=aK "list",data:=.seq ([]:List ai).toArray}).objs.size=s.heap.objs.size+1:=gZ ..
 have En:=(up _ _ ho).1
 generalize s.heap.push {cls:=aK "list",data:=.seq ([]:List ai).toArray}=NE at f o0 up eU
 generalize s.heap.objs.size=l at En o0 up eU
 have h1:adZ (.ref l) (.ref a)=aH:=beq_false_of_ne (jD En)
 show wpAny _ A.in1 (NY (.ref l) (.ref a) (.ref l)) _ _ _
 unfold NY
 have hT:Gn {s with heap:=NE} (.ref a) "set":=⟨_,f,h.isSet⟩
 refine pG hT ?_
 rw[h1]
 refine aJ (UY (s:={s with heap:=NE}) f h hl λI aT W=>?_)
 obtain⟨⟨L,fp,Sta,wk,DY,fpl,k6,M6⟩,new,keep,⟨Y,d2,sO⟩,Eo⟩:=W
 subst sO
 have Ep:Gn {s with heap:=Y,drawn:=d2} (.ref a) "set":=⟨_,keep _ _ f,h.isSet⟩
 have M7:=keep _ _ o0
 refine aJ (eM ?_)
 refine wO (s:={s with heap:=Y,drawn:=d2}) Ep FS.WK ?_
 show wpAny _ _ (wR (.ref a) (aK "set")>>=_) _ _ _
 refine rh (T:="set") (b:=ae) Ep (by rw[qZ];kernel_rfl) ?_
 refine pG (s:={s with heap:=Y,drawn:=d2}) Ep ?_
 refine a8 ?_
 refine kg ?_
 refine aJ ?_
 refine aJ (FR (s:={s with heap:=Y,drawn:=d2}) M7 rfl ?_)
 have M8:=FP (n:=0) M7 (·.push fD)
 refine FR (s:={s with heap:=Y.update l (jc (·.push fD)),drawn:=d2}) M8 rfl ?_
 have M9:=FP M8 (·.pop)
 have H:∀b o,b≠l->Y.get? b=aa o->((Y.update l (jc (·.push fD))).update l (jc (·.pop))).get? b=aa o:=λb o hb e=>
  ((gH _ _ _).2 b hb).trans (((gH _ _ _).2 b hb).trans e)
 generalize (Y.update l (jc (·.push fD))).update l (jc (·.pop))=hp3 at M9 H
 have M':l∉fp:=λhm=>(fpl _ hm).2.elim (jD En) λe=>OU _ (eU▸e)
 have Eo:l+1<=I:=eU▸Eo
 have WW:=wk A.in1 (show A.in1.handled=aU from hh)
 have hLl:L.length<=sizeLine:=by
  have:=M6.length_eq
  rw[aR] at this
  rw[py];exact aD (aD (bn this) hl) (lB tT)
 refine a8 ⟨Ak PySem.F.plain_extend_loop _,codeAny_extend_loopS WW hLl _ M' _ L.length 0 _ _ _ rfl (ck _) (WW.frame 0 {s with heap:=Y,drawn:=d2} hp3 s.toks DY (bv _) λb hb o e=>H b o (λq=>M' (q▸hb)) e) M9 ⟨rfl,λj v hj=>by exact ns hj⟩ λs' C c' hm Er B=>?_⟩
 refine aJ (wpAny_load Er (a8 ?_))
 have eL:C.toList=L:=by
  refine qJ λi=>?_
  refine kB.trans ?_
  by_cases q:i<L.length
  ·have hi:i<C.size:=by exact B.1▸q
   have:=B.2 i C[i] (nw hi)
   exact(nw hi).trans this.symm
  ·simp only[pb (de.mp q),EL (B.1▸(de.mp q))]
 obtain⟨N,S'⟩:=S.ext (h':=s'.heap) (tk:=s'.toks) (dr:=s'.drawn) λb o e=>by
  have u:=up b o e
  have hb:b≠l:=eC u.1
  exact hm.heap b o (λq=>(bT.1 q).elim hb λq=>eC (cg (lU u.1) Eo) (a_.1 q)) (H b o hb (keep _ _ u.2))
 have es:s'={s with heap:=s'.heap,toks:=s'.toks,drawn:=s'.drawn}:=by
  have e1:s'.gens=s.gens:=hm.gens
  have e2:s'.os=s.os:=hm.os
  exact e1▸e2▸rfl
 rw[es]
 exact hQ _ _ N S' (by exact eL▸k6) (eL▸M6)
end
noncomputable def yS(ss:List Str)(i j:Nat):Bool:=decide ((ss.getD i "").cps.toList<(ss.getD j "").cps.toList)
theorem YC(ss:List Str):gh (yS ss):=⟨λa b h=>by
 unfold yS at*
 exact eY λq=>Ai (cY h) q,λa b c h h'=>by
 unfold yS at*
 exact eY (pz.mpr (QV (pz.mp (ig h')) (pz.mp (ig h))))⟩
theorem CS(h:∀v∈vs,∃x u,v=.str x u)(hi:i<vs.length):∃u,vs.getD i .none=.str ((vs.map sv).getD i "") u:=by
 refine(h vs[i] (PX hi)).elim λx V=>V.elim λu e=>?_
 refine⟨u,?_⟩
 simp only[k9,k9,ci,dt hi,e];rfl
theorem UZ:∀{vs:List ai},2<=vs.length->(∀v∈vs,∃x u,v=.str x u)->keyKind' vs.toArray=pure oneType'
 |[],h,_=>by simp at h
 |[_],h,_=>by simp at h
 |v1::V::r,_,hs=>keyKind_strs (strsAre_map _ hs)
inductive YD(w:a9)(s:av)(g:aY)(k:List Str->Prop)(v:ai)(s':av):Prop
 |mk (g' a o xs:_) (N:Nx [] s g s' g') (S:St w s' g') (hv:v=.ref a) (ho:s'.heap.get? a=aa o) (ha:iD w g' o xs) (h:k xs)
structure qa(n:Nat)(sc:bf)(ρ:ay)(e:au)(k:List Str->Prop):Prop where
 run:∀(w:a9) (A:bN) (ab:Env) (s:av) (g:aY),St w s g->Rm n A->c8 w s g ab sc ρ->∀E,wpAny (model PG w) A (eval e ab) (YD w s g k) E s
section
variable {n:Nat} {sc:bf} {ρ:ay}
theorem aj.Ig(W:sc.names.lookup (a6 "sorted")=aa cj)(he:cu e=ae)
 (h:qa n sc ρ e λxs=>xs.length<60/\∀ys:List Str,ys.Perm xs->ys.Nodup->sortedS ys=ae->k (.lst (ys.map D.str))):
 aj n sc ρ (bU (aS (a6 "sorted") np) [e] [] aM) k:=.mk λw A ab aw aE H R V E=>by
 have ha:[e].all cu=ae:=by simp[he]
 refine lP ((tQ W).run w A ab aw aE ρ H V np _ E ?_)
 refine j8 (P:=λG=>∃k,(k=jE\/k=jC\/k=jz)/\jN (model PG w) G (keeperOf (.builtin "sorted")) k) (by rw[(cE ha).2];rfl) (λ_ q=>q) ?_
 refine fk (cE ha).1 rfl (qS (bg (h.run w A ab aw aE H R V E) (λv s ⟨g,a,o,xs,B,S,hv,ho,f,hx,hk⟩=>?_)) (nO he))
 subst hv
 refine a8 (fB ⟨(tQ W).keep w s g S,?_⟩)
 refine er (Q:=Out w s g k) ?_ (λr aT o=>o.trans B λ_ x=>x) λ_ _ x=>x
 refine N2 GZ GB GC (args_sorted1 _) ?_
 unfold Builtin.«sorted»
 refine aJ (m:=Hf "sorted" 1 1 _) (a8 ?_)
 refine aJ (RS S (show A.in1.handled=aU from R.2.2) ho f (bd (eO hx (by simp))) λs' vs N S' hs G=>?_)
 have iJ:(vs.map sv).Nodup:=by
  obtain⟨_,_,_,_,_,_,_,_,_,_,q⟩:=f
  exact G.nodup_iff.mpr q
 have NF:vs.length<60:=by
  have:=G.length_eq
  rw[aR] at this;exact aV (bn this) hx
 refine t_ ?_ (py▸(bd (eO NF (by simp))))
 have X0:SA w s g s' g:=⟨S,N,S'⟩
 have O3:=X0.newList vs (tk:=s'.toks)
 refine O3.at_.elim λ_ sS=>?_
 generalize hLD:s'.heap.objs.size=Da at O3 sS⊢
 refine aJ (eM (j4 F9 ⟨_,sS,rfl⟩ FQ ?body (QB _)))
 case body=>
  refine Ia (lt:=yS (vs.map sv)) (κ:=oneType') ((X0.push (seqObj "list" vs.toArray 0) (tk:=s'.toks)).1) O3 (eO NF (by simp)) (YC _) (λZ s' S' Q hq=>?_) (λs' S' i j C hi hj hC=>?_) λs' b hS Y OY=>?_
  ·exact tP (UZ Z hs) hq
  ·obtain⟨u,e1⟩:=CS hs hi
   obtain⟨u',e2⟩:=CS hs hj
   unfold BN
   rw[e1,e2]
   exact kas_lt_str hC
  refine⟨_,rfl,a8 ⟨_,rfl,?_⟩⟩
  refine OY.at_.elim λn' e'=>?_
  obtain⟨F1,F2⟩:=Y.st.freeze (n:=Da) e' OY.off (Y.st.dQ (a:=Da) e' (.inl (by simp)))
  have rb:∀g',aP w g' (b.map λi=>vs.getD i fD) ((b.map λi=>(vs.map sv).getD i "").map D.str):=λg'=>by
   refine⟨by simp,λj v d W Z=>?_⟩
   rw[ci] at W Z
   rw[ci] at Z
   induction hb:b[j]? with
   |none=>replace W:=hb▸W;exact ns W
   |some i=>
    rw[hb] at W Z
    simp only[Qc,Fd] at W Z
    subst W Z
    obtain⟨u,e1⟩:=CS hs (hS.ju i (c5 hb):i<vs.length)
    rw[e1];exact .str _ _
  have M_:(b.map λi=>(vs.map sv).getD i "").Perm (vs.map sv):=by
   refine(hS.perm.map _).trans ?_
   have:(dM vs.length).map (λi=>(vs.map sv).getD i "")=vs.map sv:=by
    refine qJ λi=>?_
    simp only[ci]
    by_cases q:i<vs.length
    ·rw[zC q];simp[k9,q]
    ·rw[pb (by simpa using q),pb (by simpa using q)];rfl
   rw[this]
  have hsS:sortedS (b.map λi=>(vs.map sv).getD i "")=ae:=by
   refine sortedS_of_pairwise _ ?_
   rw[qO]
   refine hS.pw.imp λ{i j} h=>?_
   rw[ltCps_eq]
   exact h.1
  refine⟨_,_,⟨Y.nx.keep,Y.nx.there,λa o e=>F2 _ _ (Y.nx.gg _ _ e),λa o e e' _=>?_,Y.nx.os⟩,F1,.lst _ n' _ _ (g5 _ _ _) (by simp) λj v d W Z=>((rb g).2 j v d (by exact W) Z).mono F2,hk _ (M_.trans G) (M_.nodup_iff.mpr iJ) hsS⟩
  exact(fE _ _ _ (λq=>by rw[q,OY.new] at e;exact ns e)).trans (Y.nx.old a o e e' (ca))
theorem acM{bp:au}:kN 900 (.SetComp co [⟨bp,iter,bV,0⟩] oF aM) bp iter bV (newSet (aK "set")) (iD w) w n aF (λF d aC=>aj n aF aC co λa=>∃x,a=.str x/\∀l,F l d=dH l x)
 (λD ab=>do let v <-eval co ab;standAt co.pos;let _ <-call (.builtin "set.add") [D,v]):=
 kN.of
  (⟨λg g' o l h a=>a,λg o l ⟨a,_,_,_,_,_,_,_,_,_,_⟩=>by rw[a.1];simp,λg o l ⟨_,es,ep,t,e,_,_,_,_,_,_⟩=>by rw[e];simp⟩)
  (rfl)
  (λ_ _ _=>rfl)
  (λ_ _ _ _=>rfl)
  (λ_ _ _=>rfl)
  (λ_ _ _=>rfl)
  (λ_ _ _ _=>rfl)
  (λA E s Q h=>Sp λo B f=>h o B f)
  (λF d ρ D A ab s g o l E hP S R V e H hg hT hl=>by
  refine aJ (hP.wp S R V λv aA aN a Y W Z G=>G.elim λx G=>G.elim λex hF=>?_)
  subst ex
  refine Z.dB λu=>?_
  have C:=Y.get S e (.inl (by rw[H.1.1];simp)) (ca)
  refine jd (aJ ?_)
  refine j4 PySem.F.slot_set_add ⟨_,C,H.1.1⟩ PySem.F.entry_set_add ?_ (PySem.F.args_set_add_2 _ _)
  unfold Builtin.«set.add» adR
  simp only[List.isEmpty_nil,bind_assoc]
  refine fZ ?_
  try dsimp only
  refine fZ ?_
  try dsimp only
  refine aJ (Hs C H (bd (aV hl (by simp))) λb h' tk o' _ q1 q2 q3=>?_)
  refine a8 ⟨_,rfl,a8 ⟨aA,aN,h',tk,o',Y,W,rfl,q1,q2,?_⟩⟩
  rw[hF];exact q3)
theorem qa.comp{k:List Str->Prop}{bp:au}(G:dD aF sc=ae)(hs:∀ab x,ir iter ab x=pure x)
 (h:uK 900 n sc ρ aF bp iter bV (λF d aC=>aj n aF aC co λa=>∃x,a=.str x/\∀l,F l d=dH l x) k):qa n sc ρ (.SetComp co [⟨bp,iter,bV,0⟩] aF aM) k:=.mk λw A ab s g S R V E=>by
 refine A2 acM G hs h.hh S R V (use:=aU) λs' g' D o l C N f Dn B Y hk Cn gC q_=>q_.elim λm hm=>⟨m,hm,λh' W=>?_⟩
 refine ba λN_=>?_
 obtain⟨oL,_,_,eL,dL,_⟩:=id hm
 have CD:D≠C:=λe=>by rw[e,gC] at B;exact ns B
 obtain⟨Z,H⟩:=St.changes (mt:=[C]) (h':=h') (tk:=s'.toks) S f N dq.nil (λa Y=>by
  have:a=C:=a_.1 Y
  subst this
  exact⟨.inl Cn,gC,oL,eL,cV.of λvs q=>by cases dL.symm.trans q⟩) (λb o hb e=>(W.2 b (by simpa using hb)).trans e)
 apply N_
 exact⟨g',D,o,l,N.over Z (λa Y=>by
  have:a=C:=a_.1 Y
  subst this;exact .inl Cn),H,rfl,(W.2 D CD).trans (f.sub _ _ B),Y,hk⟩
end
namespace FS
theorem Su:HI (aK "dict_values") (aK "set")=pure aH:=by rw[qZ];kernel_rfl
theorem P9:HI (aK "dict_values") (aK "frozenset")=pure aH:=by rw[qZ];kernel_rfl
end FS
section
variable {w:a9} {A:bN} {E:ai->av->Prop} {R:ux->av->Prop} {g:aY}
theorem setLoop{I S:ag}{fp:List ag}{L:List ai}{St:Nat->av->Prop}(W:xP PG w A.in1 I fp [I] (λa b=>b=a) L.length (λi v=>L[i]?=aa v) St)(Z:S∉fp)(k6:∀v∈L,∃x u,v=.str x u)(hL:L.length<=500):
 ∀(k i:Nat) (s:av) (o:Obj),L.length-i=k->i<=L.length->St i s->s.heap.get? S=aa o->iD w g o ((L.take i).foldl (λxs v=>dH xs (sv v)) [])->
  (∀s' o',Moved [S,I] (λa b=>b=a) s s'->s'.heap.get? S=aa o'->iD w g o' (L.foldl (λxs v=>dH xs (sv v)) [])->R (.ok (.ret .none)) s')->
  codeAny (model PG w) A (.builtin "set.update.loop" ⟨[.ref S,.ref I],[]⟩) R s:=by
 have H:S∉[I]:=λh=>Z (W.sub _ h)
 have V:∀b∈[I],b∈[S,I]:=λb G=>bM _ G
 have C:∀i,((L.take i).foldl (λxs v=>dH xs (sv v)) []).length<=i:=λi=>by
  have qp:∀(vs:List ai) (xs:List Str),(vs.foldl (λxs v=>dH xs (sv v)) xs).length<=xs.length+vs.length:=by
   intro vs
   induction vs with
   |nil=>intro xs;simp
   |cons v r ih=>
    intro xs
    have h1:=ih (dH xs (sv v))
    have h2:=Bu xs (sv v)
    simp only[iw,gj];exact BP (by assumption) (by assumption)
  have:=qp (L.take i) []
  simp only[gJ,wv] at this;exact abv (by assumption)
 intro k
 induction k with
 |zero=>
  intro i s o hk hi Y hS ha hR
  have nt:i=L.length:=by exact abw (by assumption) (by assumption)
  subst nt
  refine tB NP ?_
  refine(vV Eu _)▸?_
  refine aJ (W.done s _ _ Y λs' B=>?_)
  rw[j0] at ha
  exact a8 (hR s' o (B.mono V) (B.heap S _ H hS) ha)
 |succ k ih=>
  intro i s o hk hi Y hS ha hR
  have f:i<L.length:=by exact ZC (by assumption)
  refine tB NP ?_
  refine(vV Eu _)▸?_
  refine aJ (W.item i s _ _ f Y λv s' hP acN B=>?_)
  obtain⟨x,u,rfl⟩:=k6 v (c5 hP)
  have e1:L.take (i+1)=L.take i++[.str x u]:=by rw[lQ,hP];rfl
  refine aJ (eM (Hs (B.heap S _ H hS) ha (by have:=C i;exact abM (by assumption) (by assumption) (by assumption)) λb h' tk o' q0 q1 q2 q3=>?_))
  refine a8 ⟨Ak Eu _,ih (i+1) _ o' (by exact Km (by assumption)) f (W.frame _ s' _ tk acN q0 λb G o e=>?_) q2 ?_ λs0 o'' acO acP acQ=>?_⟩
  ·exact(q1 b (λq=>Z (q▸G))).trans e
  ·simp only[e1,lR];exact q3
  ·refine hR s0 o'' (Moved.trans W.gtrans ((B.mono V).then_heap q0 λb o G e=>?_) acO) acP acQ
   exact(q1 b (λq=>G (by exact q▸bi))).trans e
theorem TH:∀(vs:List ai) (xs:List Str),xs.Nodup->(vs.foldl (λxs v=>dH xs (sv v)) xs).Nodup/\∀y,y∈vs.foldl (λxs v=>dH xs (sv v)) xs<->y∈xs\/y∈vs.map sv:=by
 intro Y
 induction Y with
 |nil=>
  intro xs h
  exact⟨h,λy=>by simp⟩
 |cons v r V=>
  intro xs h
  obtain⟨W,Z⟩:=V (dH xs (sv v)) (rY h)
  refine⟨W,λy=>?_⟩
  rw[iw,Z,I3,d8,bT]
  constructor
  ·rintro((q|q)|q)
   ·exact .inl q
   ·exact .inr (.inl q)
   ·exact .inr (.inr q)
  ·rintro(q|q|q)
   ·exact .inl (.inl q)
   ·exact .inl (.inr q)
   ·exact .inr q
end
section
variable {w:a9} {A:bN} {E:ai->av->Prop} {s:av} {g:aY}
theorem code_set_new(a:ai){DN:ai->av->Prop}
 (h:DN (.ref s.heap.objs.size) {s with heap:=s.heap.push {cls:=aK "set",dict:=ak,data:=.set #[] 0 (.fresh 0 0 (mi w))}}):
 codeAny (model PG w) A (.call (.builtin "set.__new__") ⟨[aK "set",a],[]⟩) (wants DN E) s:=by
 refine FO ?_
 show wpAny _ A.in1 (do checkBuiltinCall "set.__new__" ⟨[aK "set",a],[]⟩;again (.builtin "set.__new__" ⟨[aK "set",a],[]⟩)) _ _ s
 refine rT (PySem.F.newCall_set_1 a) (a8 ⟨Ak OF _,tB PySem.F.entry_set_new ?_⟩)
 rw[vV OF _]
 unfold Builtin.«set.__new__» adS
 have V:=sub_set_self
 obtain⟨Y,g,d,tk,os⟩:=s
 wp_walk
 refine pi (a8 ?_)
 refine BS (a8 ?_)
 exact a8 h
theorem WN{S v d:ag}{R:Unit->av->Prop}(hh:A.handled=aU)(hS:s.heap.get? S=aa {cls:=aK "set",dict:=ak,data:=.set #[] 0 (.fresh 0 0 (mi w))})(Z:S≠d)(Y:s.heap.IsValuesView v d)(H:s.heap.DictAt (ix PG w) d bh ep)(k6:∀p∈bh,∃x u,p.2=.str x u)(G:bh.length<=500)
 (hR:∀h' tk o,(∀b o,b≠S->s.heap.get? b=aa o->h'.get? b=aa o)->h'.get? S=aa o->iD w g o ((bh.map (·.2)).foldl (λxs v=>dH xs (sv v)) [])->R () {s with heap:=h',toks:=tk}):
 wpAny (model PG w) A (Ez "set.__init__" S (.ref v)) R E s:=by
 have lS:=cq hS
 have ld:d<s.heap.objs.size:=H.elim λod q=>q.elim λes q=>cq q.1
 have nI:∀{b},b≠S->b<s.heap.objs.size->b∉[S,s.heap.objs.size]:=λh1 h2 q=>(bT.mp q).elim h1 λq=>eC h2 (a_.mp q)
 have W0:∀A':bN,A'.handled=aU->xP PG w A' s.heap.objs.size [s.heap.objs.size,d] [s.heap.objs.size] (λa b=>b=a) (bh.map (·.2)).length (λi v=>(bh.map (·.2))[i]?=aa v)
  (λi s'=>s'.heap.IsValIter s.heap.objs.size d i bh.length ep/\s'.heap.DictAt (ix PG w) d bh ep):=λA' C=>by
  have W:=(PY (prog:=PG) (w:=w) (knd:=ix PG w) C _ d (eC ld) bh ep).toS
  rw[aR]
  exact⟨W.sub,W.grefl,W.gtrans,W.frame,λi s' Q' E' hi st hq=>W.item i s' Q' E' hi st λv B q=>q.elim λk' f=>hq v B (by rw[ci,f];rfl),W.done,W.self⟩
 have hT:s.TypeIs (.ref v) "dict_values":=Y.elim λo q=>⟨o,q.1,q.2.1⟩
 show wpAny _ _ (adT (.ref v)>>=_) _ _ _
 refine aJ ?_
 show wpAny _ _ (wR (.ref v) (aK "set")>>=_) _ _ _
 refine rh hT FS.Su (PP hT FS.P9 ?_)
 show wpAny _ _ (typeOf (.ref v)>>=_) _ _ _
 refine pG hT ?_
 show wpAny _ _ (pyIter (.ref v)>>=_) _ _ _
 refine aJ ?_
 refine O6 Y H (aJ (QE ?_))
 refine setLoop (g:=g) (W0 _ hh) (λq=>(bT.mp q).elim (eC lS) λq=>Z (a_.mp q)) (λv Y=>?_) (by rw[aR];exact G) ((bh.map (·.2)).length-0) 0 _ _ rfl (ck _) ⟨⟨_,cB _ rfl,rfl,rfl⟩,H.push _⟩ (bZ _ hS) ⟨⟨rfl,rfl,rfl⟩,#[],0,_,rfl,by rfl,rfl,λq=>aZ rfl q,(λe he=>nomatch he),qX _,jZ⟩ λs' o' V Er sY=>?_
 ·obtain⟨p,hp,rfl⟩:=bL.mp Y
  exact k6 p hp
 ·obtain⟨h',g',d',Ej,os'⟩:=s'
  obtain rfl:g'=s.gens:=V.gens
  obtain rfl:d'=s.drawn:=V.drawn
  obtain rfl:os'=s.os:=V.os
  exact a8 (hR h' Ej o' (λb o hb e=>V.heap b o (nI hb (cq e)) (bZ _ e)) Er sY)
theorem U0{S v d:ag}{R:t0->av->Prop}(hh:A.handled=aU)(Z:s.heap.get? S=aa {cls:=aK "set",dict:=ak,data:=.set #[] 0 (.fresh 0 0 (mi w))})(V:S≠d)(H:s.heap.IsValuesView v d)(G:s.heap.DictAt (ix PG w) d bh ep)(k6:∀p∈bh,∃x u,p.2=.str x u)(Y:bh.length<=500)
 (W:∀h' tk o,(∀b o,b≠S->s.heap.get? b=aa o->h'.get? b=aa o)->h'.get? S=aa o->iD w g o ((bh.map (·.2)).foldl (λxs v=>dH xs (sv v)) [])->R (.done (.ret .none)) {s with heap:=h',toks:=tk}):
 wpAny (model PG w) A (Builtin.«set.__init__» ⟨[.ref S,.ref v],[]⟩) R E s:=by
 have lS:=cq Z
 have U:∀{R:Unit->av->Prop},(∀h' tk o,(∀b o,b≠S->s.heap.get? b=aa o->h'.get? b=aa o)->h'.get? S=aa o->iD w g o ((bh.map (·.2)).foldl (λxs v=>dH xs (sv v)) [])->R () {s with heap:=h',toks:=tk})->
  wpAny (model PG w) A (Ez "set.__init__" S (.ref v)) R E s:=λW=>WN (g:=g) hh Z V H G k6 Y W
 clear G k6 Y V H
 unfold Builtin.«set.__init__» noKeywords
 generalize Ez=UF at U
 wp_walk
 refine U λh' tk o C B f=>?_
 exact a8 (W h' tk o C B f)
theorem U1{v d:ag}(hh:A.handled=aU)(hv:s.heap.IsValuesView v d)(hm:s.heap.DictAt (ix PG w) d bh ep)(k6:∀p∈bh,∃x u,p.2=.str x u)(C:bh.length<=500)
 (hQ:∀h' tk o,(∀b o,s.heap.get? b=aa o->h'.get? b=aa o)->h'.get? s.heap.objs.size=aa o->iD w g o ((bh.map (·.2)).foldl (λxs v=>dH xs (sv v)) [])->Q (.ref s.heap.objs.size) {s with heap:=h',toks:=tk}):
 wpAny (model PG w) A (call (aK "set") [.ref v]) Q E s:=by
 refine pd.mro.elim λc B=>B.elim λtl aer=>?_
 have f:=pd.made
 have hsub:=pd.sub
 refine lY (FO ?_)
 show wpAny _ _ (callAny (aK "set") _) _ _ _
 refine a8 ⟨Code.quiet_builtin _ (by decide+kernel),tB PySem.F.entry_type_call ?_⟩
 refine(Around.under_plain (weight_type_call_type "set" [.ref v] []) rfl)▸?_
 have h1:=pd.notType
 have h2:=pd.canCreate
 have hct:=PySem.F.typeCall_set_1 (.ref v)
 repeat (any_goals (first|assumption|wp_step))
 refine mS (code_set_new (.ref v) (E:=E) (DN:=λobj aA=>obj=.ref s.heap.objs.size/\aA={s with heap:=s.heap.push {cls:=aK "set",dict:=ak,data:=.set #[] 0 (.fresh 0 0 (mi w))}}) ⟨rfl,rfl⟩) λr aA hr=>?_
 cases r with
 |error e=>exact hr
 |ok fl=>
  cases fl with
  |ret obj=>
   obtain⟨rfl,rfl⟩:=hr
   have hS:(s.heap.push {cls:=aK "set",dict:=ak,data:=.set #[] 0 (.fresh 0 0 (mi w))}).get? s.heap.objs.size=aa {cls:=aK "set",dict:=ak,data:=.set #[] 0 (.fresh 0 0 (mi w))}:=cB _ rfl
   have hT:Gn {s with heap:=s.heap.push {cls:=aK "set",dict:=ak,data:=.set #[] 0 (.fresh 0 0 (mi w))}} (.ref s.heap.objs.size) "set":=⟨_,hS,rfl⟩
   have hli:=pd.init.lookup
   have hbi:=pd.init.bind (.ref s.heap.objs.size)
   repeat (any_goals (first|assumption|wp_step))
   refine mS (OS (R:=wants (λr aT=>r=.none/\∃h' tk o,aT={s with heap:=h',toks:=tk}/\(∀b o,s.heap.get? b=aa o->h'.get? b=aa o)/\h'.get? s.heap.objs.size=aa o/\iD w g o ((bh.map (·.2)).foldl (λxs v=>dH xs (sv v)) [])) E) pd.init.plain PySem.F.entry_set_init (check_set_init_1 hT ?_)) λG aT V=>?_
   ·exact U0 (A:=A.in1.in1) hh hS (jD (hm.elim λod q=>q.elim λes q=>cq q.1:d<s.heap.objs.size)) (hv.elim λo q=>⟨o,bZ _ q.1,q.2⟩) (hm.push _) k6 C λh' tk o k1 k2 k3=>⟨rfl,h',tk,o,rfl,λb o hb=>k1 b o (eC (cq hb)) (bZ _ hb),k2,k3⟩
   ·induction G with
    |error e=>exact V
    |ok H=>
     induction H with
     |ret r=>
      obtain⟨rfl,h',tk,o,rfl,k1,k2,k3⟩:=V
      repeat (any_goals (first|assumption|wp_step))
      exact hQ _ _ o k1 k2 k3
     |_=>exact V.elim
  |_=>exact hr.elim
end
section
variable {n:Nat} {sc:bf} {ρ:ay}
noncomputable def n7(l:List (Str×Str)):List (Str×D):=l.map λp=>(p.1,.str p.2)
theorem qa.vals{k:List Str->Prop}(h2:sc.names.lookup (a6 "set")=aa cj)
 (hl:(ap.endLine==cp.line)=ae)(hb:∀ab,mR e "values" ab (eval e ab)=eval e ab)
 (h:aj n sc ρ e λa=>∃l:List (Str×Str),a=.cO (n7 l)/\l.length<=500/\∀xs:List Str,xs.Nodup->(∀x,x∈xs<->∃p∈l,p.2=x)->k xs):
 qa n sc ρ (bU (aS (a6 "set") sp) [bU (cC e "values" ap) [] [] cp] [] oT) k:=.mk λw A ab aw aE Z R V E=>by
 refine lP ((IQ h2).run w A ab aw aE ρ Z V sp _ E ?_)
 refine j8 (P:=λhp=>∃k,(k=jE\/k=jC\/k=jz)/\jN (model PG w) hp (keeperOf (aK "set")) k) (by rw[(cE (l:=[bU (cC e "values" ap) [] [] cp]) rfl).2];rfl) (λ_ q=>q) ?_
 refine fk (cE (l:=[bU (cC e "values" ap) [] [] cp]) rfl).1 rfl (qS ?_ (nO (by rfl)))
 refine ny (hb ab) rfl hl rfl (er (h.run w A ab aw aE Z R V E) (λv s ⟨g,a,N,S,Ra,l,ea,DZ,hk⟩=>?_) λ_ _ x=>x)
 subst ea
 obtain⟨ad,nn,es,rfl,hg,e_,bh,hD,e1,e2⟩:=uC S Ra
 have hT:=Rep.typeIs S Ra
 refine⟨"dict","dict.values",Of,zm,N9,hT.1,hT.2,?_⟩
 refine nN rfl (fk rfl rfl (a8 (fB ?_)))
 have G:(ad==gp)=aH:=beq_false_of_ne e_
 refine GF zm hT.1 N3 (NZ _) (PK (ix PG w) ad G) ⟨⟨bh,hD.dictOf⟩,?_⟩
 refine(S.ext' (h':=s.heap.push {cls:=aK "dict_values",data:=bC #[.ref ad]}) (tk:=s.toks) λb o e=>bZ _ e).elim λC H=>?_
 refine a8 (fB ⟨(IQ h2).keep w _ g H,?_⟩)
 have Y:bh.length=l.length:=by
  have:=aQ gm e1
  simpa[n7] using this
 have k6:∀p∈bh,∃x u,p.2=.str x u:=λp hp=>by
  refine(qC.mp hp).elim λi hi=>?_
  have W:=(ez.mp hi).1
  have:=e2.2 i p.2 (.str (l[i]'(Y▸W)).2) (by rw[ci,hi];rfl) (by simp[n7,show i<l.length from Y▸W])
  obtain⟨t,ht⟩:=this.str_inv
  exact⟨_,t,ht⟩
 have gW:(bh.map (·.2)).map sv=l.map (·.2):=by
  refine qJ λi=>?_
  simp only[ci,ci,ci]
  induction hi:bh[i]? with
  |none=>
   rw[pb (by exact Y▸(qx.mp hi))];rfl
  |some p=>
   have W:=(ez.mp hi).1
   have:=e2.2 i p.2 (.str (l[i]'(Y▸W)).2) (by rw[ci,hi];rfl) (by simp[n7,show i<l.length from Y▸W])
   obtain⟨t,ht⟩:=this.str_inv
   rw[dt (show i<l.length from Y▸W)]
   show aa (sv p.2)=aa _
   rw[ht];rfl
 refine U1 (g:=g) R.2.2 ⟨_,cB _ rfl,rfl,rfl⟩ (hD.push _) k6 (aD (bn Y) DZ) λh' tk o k1 k2 k3=>?_
 obtain⟨B,f⟩:=H.ext' (h':=h') (tk:=tk) k1
 have hf:=TH (bh.map (·.2)) [] (jZ)
 refine⟨g,_,o,_,(N.trans C).trans B,f,rfl,k2,k3,hk _ hf.1 λx=>?_⟩
 rw[hf.2,gW]
 simp
theorem aj.Sw(f:sc.names.lookup (a6 "sorted")=aa cj)(h2:sc.names.lookup (a6 "set")=aa cj)
 (hl:(ap.endLine==cp.line)=ae)(hb:∀ab,mR e "values" ab (eval e ab)=eval e ab)
 (h:aj n sc ρ e λa=>∃l:List (Str×Str),a=.cO (n7 l)/\l.length<60/\∀ys:List Str,ys.Nodup->sortedS ys=ae->(∀x,x∈ys<->∃p∈l,p.2=x)->k (.lst (ys.map D.str))):
 aj n sc ρ (bU (aS (a6 "sorted") np) [bU (aS (a6 "set") sp) [bU (cC e "values" ap) [] [] cp] [] oT] [] aM) k:=
 aj.Ig f rfl (qa.vals h2 hl hb (h.mono λa q_=>by obtain⟨l,ea,V,hk⟩:=q_;exact⟨l,ea,bd (eO V (by simp)),λxs n1 G=>⟨by
  have Z:xs.length<=l.length:=by
   have H:∀(b c:List Str),b.Nodup->(∀x∈b,x∈c)->b.length<=c.length:=by
    intro b
    induction b with
    |nil=>intro c _ _;simp
    |cons x r ih=>
     intro c Y C
     have W:=C x bi
     have Y:=gK.mp Y
     have:=ih (c.erase x) Y.2 λy B=>(EU (λe=>Y.1 (by exact e▸B))).mpr (C y (bM _ B))
     rw[EH W] at this
     have:0<c.length:=EK W
     simp only[gj];exact L8 (by assumption) (by assumption)
   have:=H xs (l.map (·.2)) n1 λx W=>by
    obtain⟨p,hp,e⟩:=(G x).mp W
    exact bL.mpr ⟨p,hp,e⟩
   rw[aR] at this;exact this
  exact aV Z V,λys p1 p2 p3=>hk ys p2 p3 λx=>(p1.mem_iff).trans (G x)⟩⟩))
end
section
open PySem.Builtin PySem.Builtin.Str
noncomputable def stp(s sub:Str)(hi jo:Nat)(st:Array Nat×Nat)(i:Nat):Array Nat×Nat:=
 if ((st.fst.size<jo/\st.snd<=i)/\i+sub.length<=hi)/\subAt s sub i=ae then (st.fst.push i,i+sub.length) else st
theorem U2(s sub:Str)(hi jo:Nat)(l:List Nat)(st:Array Nat×Nat):(forIn l st (Qd s sub hi jo)).run=l.foldl (stp s sub hi jo) st:=by
 induction l generalizing st with
 |nil=>rfl
 |cons i l V=>
  rw[wt,iw,<-V]
  dsimp only[Qd,stp]
  split<;>rfl
theorem Bv(s sub:Str)(hi jo:Nat)(l:List Nat)(st:Array Nat×Nat)(h:∀i∈l,st.snd<=i->subAt s sub i=aH):l.foldl (stp s sub hi jo) st=st:=by
 induction l with
 |nil=>rfl
 |cons i l V=>
  have e:stp s sub hi jo st i=st:=be λq=>ft ((h i bi q.1.1.2).symm.trans q.2)
  exact(aQ (rs _ · l) e).trans (V λj Y=>h j (bM _ Y))
noncomputable def dT:List Nat:=[46,46,46]
theorem JS:cl "..."=dT:=rfl
noncomputable def c7:List (List Nat)->List Nat
 |[]=>[]
 |[p]=>p
 |p::q::r=>p++dT++c7 (q::r)
noncomputable def yf:Nat->List (List Nat)->List Nat
 |_,[]=>[]
 |_,[_]=>[]
 |a,p::q::r=>(a+p.length)::yf (a+p.length+3) (q::r)
theorem WO{g pre p post:List Nat}(Y:g=pre++p++post)(W:46∉p)(V:pre.length<=i)(Z:i<pre.length+p.length):(g.drop i).take 3≠dT:=λe=>by
 have:g[i]?=aa 46:=by
  have:=aQ (λl=>l[0]?) e
  simpa[dT] using this
 rw[Y,c6,o8 V,qy (Nat.sub_lt_left_of_lt_add V Z)] at this
 exact W (c5 this)
theorem Hu(p q:List Nat)(r:List (List Nat))(pre:List Nat):pre++c7 (p::q::r)=(pre++p++dT)++c7 (q::r):=by
 show pre++(p++dT++c7 (q::r))=_
 rw[c6,c6,c6]
theorem xx(pre p:List Nat):(pre++p++dT).length=pre.length+p.length+3:=by rw[bR,bR];rfl
theorem I4(h:((cl x).drop i).take 3≠dT):subAt x "..." i=aH:=qN.mpr λq=>h (pJ.mp q)
theorem Hv{jo:Nat}{pre p post:List Nat}{V:Array Nat}(Y:cl x=pre++p++post)(W:46∉p):(hZ pre.length p.length).foldl (stp x "..." x.length jo) (V,pre.length)=(V,pre.length):=
 Bv _ _ _ _ _ _ λi hi _=>I4 (WO Y W (qM.mp hi).1 (qM.mp hi).2)
theorem U3{jo:Nat}(W:x.length<jo)(ps:List (List Nat))(p pre:List Nat)(V:Array Nat)(hd:∀q∈p::ps,46∉q)(Z:cl x=pre++c7 (p::ps))(G:V.size<=pre.length):
 ((hZ pre.length ((c7 (p::ps)).length+1)).foldl (stp x "..." x.length jo) (V,pre.length)).fst.toList=V.toList++yf pre.length (p::ps):=by
 induction ps generalizing p pre V with
 |nil=>
  have Z:cl x=pre++p++[]:=Z.trans (cR _).symm
  rw[show (c7 [p]).length+1=p.length+1 from rfl,<-vR,lR,Hv Z (hd p bi),Bv]
  ·exact(cR _).symm
  ·intro i hi _
   refine I4 ?_
   rw[EM]
   ·exact nofun
   ·simp only[Z,cR,bR];exact(qM.mp hi).1
 |cons q r C=>
  have Y:=Z.trans (Hu p q r pre)
  have hl:x.length=pre.length+p.length+3+(c7 (q::r)).length:=by rw[cD,Y,bR,xx]
  have e:(c7 (p::q::r)).length+1=p.length+(1+(2+((c7 (q::r)).length+1))):=by
   simp only[show c7 (p::q::r)=p++dT++c7 (q::r) from rfl,bR,bR,show dT.length=3 from rfl]
   exact abX
  have B:stp x "..." x.length jo (V,pre.length) (pre.length+p.length)=(V.push (pre.length+p.length),pre.length+p.length+3):=by
   refine bo ⟨⟨⟨aV G (aV (by rw[hl,eK,eK];exact cy _ _) W),cy _ _⟩,by rw[hl];exact cy _ _⟩,pJ.mpr ?_⟩
   rw[JS,Y,c6,<-bR,mP];rfl
  rw[e,<-vR,<-vR,<-vR,lR,lR,lR,Hv (post:=dT++c7 (q::r)) (Y.trans (by rw[c6])) (hd p bi)]
  show (rs _ (rs _ (stp x "..." x.length jo (V,pre.length) (pre.length+p.length)) _) _).fst.toList=_
  rw[B,Bv _ _ _ _ (hZ (pre.length+p.length+1) 2) _ λi hi f=>aZ (qM.mp hi).2 (de.mpr f)]
  have:=C q (pre++p++dT) (V.push (pre.length+p.length)) (λp' H=>hd p' (bM _ H)) Y (by simp only[xx,Qa];exact fW (aD G (cy _ _)) (eB _))
  rw[xx] at this
  refine this.trans ?_
  rw[tr,c6];rfl
theorem Sx(ps:List Str)(pre:List Nat)(h:ps≠[])(Y:cl x=pre++c7 (ps.map cl)):StrLaws.partsFrom x 3 pre.length (yf pre.length (ps.map cl))=ps:=by
 induction ps generalizing pre with
 |nil=>exact aZ rfl h
 |cons p r W=>
  cases r with
  |nil=>
   have Y:cl x=pre++cl p:=Y
   refine aQ (·::[]) (Cr ((OG ..).trans ?_))
   show ((cl x).drop pre.length).take (x.length-pre.length)=cl p
   rw[cD,Y,mP,bR,k_,j0]
  |cons q r=>
   have V:=Y.trans (Hu (cl p) (cl q) (r.map cl) pre)
   have g:=W (pre++cl p++dT) (mM _ _) V
   rw[xx] at g
   refine(aQ (strSub x pre.length (pre.length+(cl p).length)::·) g).trans (aQ (·::q::r) (Cr ((OG ..).trans ?_)))
   show ((cl x).drop pre.length).take (pre.length+(cl p).length-pre.length)=cl p
   rw[V,c6,c6,mP,k_,qY]
theorem B3:∀ps:List Str,cl (jK "..." ps)=c7 (ps.map cl):=by
 have:∀ps:List Str,cl (Bm "..." ps)=c7 (ps.map cl):=λps=>by
  induction ps with
  |nil=>rfl
  |cons p r V=>induction r with
   |nil=>rfl
   |cons q r=>
    show cl (p++"..."++Bm "..." (q::r))=_
    simp only[fF,fF,V];rfl
 intro ps
 show cl (glued "..." ps)=_
 rw[OH];exact this ps
theorem YE{l:List α}(h:2<=l.length):∃p q r,l=p::q::r:=by
 rcases l with _|⟨p,_|⟨q,r⟩⟩
 ·exact aZ h (OV 1)
 ·exact aZ h (gO 1)
 ·exact⟨p,q,r,rfl⟩
theorem TJ(x:Str):¬v0 x<1:=by
 unfold v0
 split
 ·exact gO 1
 ·split
  ·exact(dC tT)
  ·exact(dC tT)
theorem Sy{ps:List Str}(C:2<=ps.length)(hd:∀p∈ps,46∉cl p)(Y:cl x=c7 (ps.map cl)):
 jk "..." x=ae/\pC x "..."=ps/\(vM x (ku x "..." 0 x.length (x.length+1)) (iy "...")).length=ps.length:=by
 obtain⟨p,q,r,rfl⟩:=YE C
 have W:∀u∈(p::q::r).map cl,46∉u:=λu B=>(bL.mp B).elim λv e=>e.2▸hd v e.1
 have H:occurrences x "..." 0 x.length (x.length+1)=yf 0 ((p::q::r).map cl):=by
  rw[Qz,U2]
  have h:=U3 (x:=x) (jo:=x.length+1) (gY _) ((q::r).map cl) (cl p) [] #[] W Y (ck _)
  rw[show (c7 (cl p::(q::r).map cl)).length=x.length from ((cD x).trans (aQ gm Y)).symm] at h
  exact h
 have G:partsBetween x (occurrences x "..." 0 x.length (x.length+1)) (iy "...")=p::q::r:=by
  rw[H,StrLaws.partsBetween_eq]
  exact Sx _ [] (mM _ _) Y
 have V:cl x=cl p++(dT++c7 ((q::r).map cl)):=Y.trans (c6 ..)
 have hl:x.length=(cl p).length+(3+(c7 ((q::r).map cl)).length):=(cD x).trans ((aQ gm V).trans ((bR ..).trans (aQ ((cl p).length+·) (bR ..))))
 have h3:(cl p).length+3<=x.length:=hl▸fi (cy _ _) _
 have hs:subAt x "..." (cl p).length=ae:=pJ.mpr (by rw[V,mP];rfl)
 refine⟨?_,?_,aQ _ G⟩
 ·unfold jk
  cases BZ x "..." 0 x.length with
  |none e f=>exact aZ ⟨h3,hs⟩ (f _ (ck _))
  |some i r e _ _=>rw[e];rfl
 ·unfold pC
  rw[be,be,G]
  ·rw[H];exact nofun
  ·have hk:v0 "..."=1:=by decide+kernel
   exact λc=>((ww _ _).mp c).elim (λc=>de.mpr (aD (jB 3 _) h3) (cY c)) λc=>TJ x (hk▸cY c)
end
section
open PySem.Builtin PySem.Builtin.Str
noncomputable def ot(i:Int)(n:Nat):Nat:=(max 0 (min (if i<0 then i+n else i) n)).toNat
def fH(o:Option Int)(d n:Nat):Nat:=match o with
 |none=>d
 |some i=>ot i n
theorem U4{o:Option Int}{d:Nat}(h:d<=n):fH o d n<=n:=by
 induction o with
 |none=>exact h
 |some i=>exact nP.mpr (tS.mpr ⟨dA n,Fw _ _⟩)
theorem Bw(i:Int)(n:Nat):max 0 (min (if i<0 then i+(n:Int) else i) n)=(ot i n:Int):=(mG (zZ 0 _)).symm
theorem KE{A B:Nat}:rz (A:Int) (B:Int) 1=(dM (B-A)).map (A+·):=by
 unfold rz
 simp only[show ((1:Int)>0)=True from dC tT,if_true]
 have e:(if (A:Int)<B then ((B:Int)-A+1-1)/1 else 0).toNat=B-A:=by
  by_cases q:(A:Int)<B
  ·rw[bo q,Gy,mH,Gk]
  ·rw[be q]
   exact(Nat.sub_eq_zero_of_le (fX.mp (dW.mp q))).symm
 rw[e]
 refine lN λk _=>?_
 rw[GU];rfl
theorem Ml(lo hi:Option Int)(n:Nat):strSliceIndices lo hi 1 n=(dM (fH hi n n-fH lo 0 n)).map (fH lo 0 n+·):=by
 rw[<-KE]
 unfold strSliceIndices
 dsimp only[show ((1:Int)>0)=True from dC tT,if_true]
 congr 1
 ·induction lo with
  |none=>rfl
  |some i=>exact Bw i n
 ·induction hi with
  |none=>rfl
  |some i=>exact Bw i n
theorem U5{f g:α->Option β}{l:List α}(h:∀a∈l,f a=g a):l.filterMap f=l.filterMap g:=by
 induction l with
 |nil=>rfl
 |cons a r V=>rw[nF,nF,h a bi,V λb Y=>h b (bM _ Y)]
theorem I5(h:List α)(n:Nat):(dM n).filterMap (h[·]?)=h.take n:=by
 induction n with
 |zero=>rfl
 |succ n V=>
  rw[Qb,OA,V,lQ]
  have e:∀o:Option α,(match o with|none=>[]|aa b=>[b])=o.toList:=λo=>by cases o<;>rfl
  exact aQ (h.take n++·) (e h[n]?)
theorem Hw(g:List α)(A B:Nat):((dM (B-A)).map (A+·)).filterMap (g[·]?)=(g.take B).drop A:=
 zK.trans ((aQ (QF · _) (funext λ_=>zH.symm)).trans ((I5 (g.drop A) _).trans Qy.symm))
theorem JT(x:Str):(λi:Nat=>x.cps[i]?)=λi:Nat=>(cl x)[i]?:=funext λ_=>kB.symm
set_option tactic.hygienic true in
theorem nZ(x:Str)(lo hi:Option Int):cl (d6 x lo hi ak)=win (cl x) (fH lo 0 x.length) (fH hi x.length x.length):=by
 have Y:fH hi x.length x.length<=(cl x).length:=U4 (bv _)
 unfold d6
 split
 ·rename_i h
  have V:=(aQ gm (Ml lo hi x.length)).symm.trans (eq_of_beq ((bB _ _).mp h).2)
  rw[aR,kF] at V
  exact(((List.drop_sublist _ _).trans (PL _ _)).eq_of_length (by rw[qT,gJ,iN Y];exact V)).symm
 ·show (strSliceIndices lo hi 1 x.length).filterMap (λi=>x.cps[i]?)=_
  rw[Ml,JT]
  exact Hw ..
theorem AR(c:Nat){ps:List (List Nat)}{g:List Nat}(h:cG ps g):(ps.map (wV c)).sum<=g.count c:=by
 induction ps generalizing g with
 |nil=>exact ck _
 |cons p ps V=>
  refine h.elim λa q=>q.elim λb q=>?_
  rw[q.1,d8,pn,nL,nL]
  exact fW (jB _ _) (V q.2)
theorem YF{l:List α}{c:α}:l.take 1=[c]<->l[0]?=aa c:=by
 cases l with
 |nil=>exact⟨λh=>aZ h (mM _ _).symm,ns⟩
 |cons a r=>exact⟨λh=>aQ aa (j6 h).1,λh=>aQ (·::[]) (aW h)⟩
theorem KG{l:Str}(hl:cl l=[c]):subAt x l i=ae<->(cl x)[i]?=aa c:=by
 rw[pJ,hl]
 exact YF.trans (by rw[zH];rfl)
theorem rZ{l:Str}(hl:cl l=[c]):tU x l x.length i<->(cl x)[i]?=aa c:=
 ⟨λh=>(KG hl).mp h.2,λh=>⟨(cD l).trans (aQ gm hl)▸(ez.mp h).1,(KG hl).mpr h⟩⟩
theorem WP{a b:List α}{c:α}:(a++c::b)[a.length]?=aa c:=by rw[o8 (bv _),tL];rfl
theorem YG{a b:List α}{c:α}(h:i<a.length)(q:(a++b)[i]?=aa c):c∈a:=c5 ((qy h).symm.trans q)
theorem Bx{l:Str}(hl:cl l=[c]):(jJ x l=-1/\c∉cl x)\/∃a b,cl x=a++c::b/\c∉a/\jJ x l=a.length:=by
 unfold jJ
 cases BZ x l 0 x.length with
 |none e Y=>exact .inl ⟨by rw[e],λV=>(qC.mp V).elim λi hi=>Y i (ck _) ((rZ hl).mpr hi)⟩
 |some i r e W Y=>
  rw[fq] at e W
  have V:=(rZ hl).mp W
  refine .inr ((List.eq_append_cons_of_mem (c5 V)).elim λu q=>q.elim λb q=>⟨u,b,q.1,q.2,?_⟩)
  have Z:i=u.length:=lg (de.mp λh=>Y _ h ((fq _).symm▸(rZ hl).mpr (q.1▸WP))) (de.mp λh=>q.2 (YG h (q.1▸V)))
  rw[e,Z]
theorem xf{l:Str}(hl:cl l=[c]):(j9 x l=-1/\c∉cl x)\/∃a b,cl x=a++c::b/\c∉b/\j9 x l=a.length:=by
 unfold j9
 refine(StrLaws.last_spec x l).elim (λq=>.inl ⟨by rw[q.1],λV=>(qC.mp V).elim λi hi=>q.2 i ((rZ hl).mpr hi)⟩) λq=>q.elim λa q=>.inr ?_
 have V:=(rZ hl).mp q.2.1
 refine(ez.mp V).elim λhi Y=>⟨(cl x).take a,(cl x).drop (a+1),?_,λW=>(qC.mp W).elim λj Z=>q.2.2 _ (tu (cy _ _)) ((rZ hl).mpr (zH.symm.trans Z)),?_⟩
 ·rw[<-Y,<-qz hi,kC]
 ·rw[q.1,gJ,iN (bd hi)]
theorem rI{a:Nat}(h:a<=n):ot (a:Int) n=a:=by
 unfold ot
 rw[be (dW.mpr (dA _)),wo (fX.mpr h),qQ (dA a)];rfl
theorem WQ{a p b:List Nat}:win (a++p++b) a.length (a.length+p.length)=p:=by
 unfold win
 rw[<-bR,qY,mP]
structure uO(c:Nat)(g p h t:List Nat):Prop where
 mid:∃a b,g=a++p++b
 up:∃m,h=m++p
 fro:∃m,t=p++m
 c1:g.count c<=p.count c
 c2:h.count c<=p.count c
 c3:t.count c<=p.count c
theorem uO.none{g t:List Nat}(h:c∉g)(V:∀x∈t,x∈g):uO c g [] [] t:=
 ⟨⟨[],g,rfl⟩,⟨[],rfl⟩,⟨t,rfl⟩,bn (zL.mpr h),bv _,bn (zL.mpr λq=>h (V c q))⟩
theorem uO.some{a p b:List Nat}(W:c∉a)(Z:c∉b):uO c (a++p++b) p (a++p) (p++b):=by
 have V:=zL.mpr W
 have Y:=zL.mpr Z
 refine⟨⟨a,b,rfl⟩,⟨a,rfl⟩,⟨b,rfl⟩,?_,?_,?_⟩
 ·simp only[nL,nL,V,Y,fq];exact bv _
 ·simp only[nL,V,fq];exact bv _
 ·rw[nL,Y];exact bv _
theorem Sz{l:Str}(hl:cl l=[c]){f t:Int}(hf:jJ x l=f)(ht:j9 x l=t):
 uO c (cl x) (cl (d6 x (aa f) (aa (t+1)) ak)) (cl (d6 x ak (aa (t+1)) ak)) (cl (d6 x (aa f) ak ak)):=by
 simp only[nZ,nZ,nZ]
 subst hf ht
 rcases Bx (x:=x) hl with ⟨C,Z⟩|⟨a,b,C,Z,h3⟩
 ·rcases xf (x:=x) hl with ⟨V,H⟩|⟨W,Y,V,H,g3⟩
  ·simp only[C,V,show fH (G2 (-1+1:Int)) x.length x.length=0 from rI (a:=0) (ck _),show ∀A,win (cl x) A 0=[] from λA=>QX,show ∀A,win (cl x) A 0=[] from λA=>QX]
   exact .none Z λy hy=>mF (vU hy)
  ·exact aZ (V▸o_ _ bi) Z
 ·refine(xf (x:=x) hl).elim (λB=>B.elim λV H=>?_) λlG=>lG.elim λW nr=>nr.elim λY qm=>qm.elim λV G=>G.elim λH g3=>?_
  ·exact aZ (C▸o_ _ bi) H
  ·rw[h3,g3]
   obtain⟨P,e1,e2⟩:∃P,W++[c]=a++P/\cl x=a++P++Y:=by
    rcases EE.mp (show a++c::b=(W++[c])++Y by simp only[<-C,V,c6];rfl) with ⟨P,e,_⟩|⟨q,e,_⟩
    ·exact⟨P,e,by simp only[<-e,V,c6];rfl⟩
    ·exact aZ (e▸te _ (o_ _ bi)) Z
   have el:=aQ gm e1
   simp only[bR,bR] at el
   have xl:x.length=a.length+P.length+Y.length:=by simp only[(cD x),e2,bR,bR]
   have c1:fH (G2 (a.length:Int)) 0 x.length=a.length:=rI (xl▸aD (cy _ _) (cy _ _))
   have c2:fH (G2 ((W.length:Int)+1)) x.length x.length=a.length+P.length:=(rI (a:=W.length+1) (by simp only[show W.length+1=_ from el,xl];exact cy _ _)).trans el
   have w2:win (a++P++Y) 0 (a.length+P.length)=a++P:=by unfold win;rw[tD,<-bR,qY]
   have w3:win (a++P++Y) a.length x.length=P++Y:=by
    unfold win
    rw[xl,<-bR,<-bR,j0,c6,mP]
   simp only[c1,c2,show fH aU 0 x.length=0 from rfl,show fH aU x.length x.length=x.length from rfl,e2,WQ,w2,w3]
   exact .some Z H
theorem G9(l:List D)(lo hi:Option Int):kK l lo hi ak=(l.take (fH hi l.length l.length)).drop (fH lo 0 l.length):=by
 delta kK AB
 have e:∀(o:Option Int) (d:Nat),(match o with|none=>(d:Int)|aa i=>max 0 (min (if i<0 then i+(l.length:Int) else i) l.length))=((fH o d l.length:Nat):Int):=λo d=>by
  induction o with
  |none=>rfl
  |some i=>exact Bw i _
 have V:=e lo 0
 rw[show ((0:Nat):Int)=0 from rfl] at V
 refine(aQ (λr=>QF (l[·]?) r) (congrFun (congr (aQ rz V) (e hi l.length)) 1)).trans ?_
 rw[KE,Hw]
theorem Hx{lo hi st:Option Int}(h:d∈kK l lo hi st):d∈l:=by
 obtain⟨i,_,V⟩:=qI.mp h
 exact c5 V
set_option tactic.hygienic true in
theorem YH(x:Str):cl (d6 x ak ak (aa (-1)))=(cl x).reverse:=by
 have e:strSliceIndices ak ak (-1) x.length=(dM x.length).map (λk=>x.length-1-k):=by
  dsimp only[strSliceIndices,rz]
  simp only[show ((-1:Int)>0)=False from dC tT,if_false]
  generalize x.length=n
  have:(if (n:Int)-1>-1 then ((n:Int)-1- -1- -1-1)/ - -1 else 0).toNat=n:=by
   simp only[show-(-1:Int)=1 from rfl,Gy,Ay,Ay,zF,mH]
   induction n with
   |zero=>rfl
   |succ n=>rw[bo (show ((n+1:Nat):Int)-1>-1 from (mH (n:Int) 1).symm▸lc (by decide) (dA n))];rfl
  rw[this]
  refine lN λk V=>?_
  refine(Oc (gk.mp V)).elim λd Y=>?_;subst Y
  show (((k+d+1:Nat):Int)-1+-1*(k:Int)).toNat=k+d-k
  simp only[show ((k+d+1:Nat):Int)-1+-1*(k:Int)=d by exact abR,k_];rfl
 have W:∀y:Str,(strSliceIndices ak ak (-1) x.length).filterMap (x.cps[·]?)=(cl x).reverse:=λ_=>by
  rw[e,JT]
  refine zK.trans ((U5 λk V=>(o9 (gk.mp V)).symm).trans ((I5 (cl x).reverse _).trans ?_))
  exact la (bn i')
 unfold d6
 split
 ·rename_i h
  simp at h
 ·show ((strSliceIndices ak ak (-1) x.length).filterMap (x.cps[·]?)).toArray.toList=_
  exact W x
end
theorem bq.mono{op:oq}{a b:D}{k k':Bool->Prop}(h:bq n op a b k)(V:∀c,k c->k' c):bq n op a b k':=.mk λw A s g v u S R Y W E=>
 bg (h.run w A s g v u S R Y W E) (λv s' Z=>by obtain⟨g',c,N,H,e,x⟩:=Z;exact⟨g',c,N,H,e,V _ x⟩)
def cL(c:Bool)(P Q:Prop):Prop:=match c with
 |true=>P
 |false=>Q
theorem cL.mk{c:Bool}{P Q:Prop}(t:c=ae->P)(f:c=aH->Q):cL c P Q:=by
 induction c
 ·exact f rfl
 ·exact t rfl
theorem cL.t{c:Bool}{P Q:Prop}(h:cL c P Q)(e:c=ae):P:=by subst e;exact h
theorem cL.f{c:Bool}{P Q:Prop}(h:cL c P Q)(e:c=aH):Q:=by subst e;exact h
theorem cL.ite{c:Bool}{P Q V Y:Prop}(h:cL c P Q)(W:P->V)(Z:Q->Y):if c=ae then V else Y:=by
 induction c
 ·exact Z (h.f rfl)
 ·exact W (h.t rfl)
abbrev EP:=ay->au->(D->Prop)->Prop
abbrev TP:=ay->au->(Bool->Prop)->Prop
structure Ok(n:Nat)(sc:bf)(E:EP)(T:TP):Prop where
 e:∀{ρ e k},E ρ e k->aj n sc ρ e k
 t:∀{ρ e k},T ρ e k->bH n sc ρ e k
set_option genCtorIdx false in
set_option genInjectivity false in
inductive Fn where
 |max|min|abs|len|divmod|sum|sorted|str|iI (a:ag)
noncomputable def Fn.val:Fn->ai
 |.max=>.builtin "max"|.min=>.builtin "min"|.abs=>.builtin "abs"|.len=>.builtin "len"|.divmod=>.builtin "divmod"
 |.sum=>.builtin "sum"|.sorted=>.builtin "sorted"|.str=>aK "str"|.iI a=>.ref a
noncomputable def CT:List (Str×Fn):=[(a6 "len",.len),(a6 "max",.max),(a6 "min",.min),(a6 "abs",.abs),(a6 "divmod",.divmod),(a6 "sum",.sum),(a6 "sorted",.sorted),(a6 "str",.str),
 (a6 "_ellipsis_match",.iI 45),(a6 "_int2digits",.iI 66),(a6 "_digits2int",.iI 73),(a6 "int_divmod",.iI 87),(a6 "bisect_right",.iI 105),(a6 "bisect_left",.iI 114),
 (a6 "_law_over",.iI 269),(a6 "_law_apart",.iI 276),(a6 "_law_sticks",.iI 281),(a6 "_law_rows",.iI 286),(a6 "_law_points",.iI 291),(a6 "_law_order",.iI 296),(a6 "_law_painted",.iI 301),(a6 "_law_takes",.iI 308),(a6 "_law_once",.iI 315)]
noncomputable def AllP{α:Type}(P:α->Prop):List α->Prop
 |[]=>True
 |a::r=>P a/\AllP P r
theorem AllP.mem{P:α->Prop}:∀{l:List α},AllP P l->∀a∈l,P a
 |[],_,_,h=>aZ h ca
 |_::_,h,a,q=>(bT.1 q).elim (λe=>e▸h.1) (h.2.mem a)
def oP{α:Type}(o:Option α)(f:α->Prop)(F:Prop):Prop:=match o with
 |some a=>f a
 |none=>F
theorem dm{o:Option α}{f:α->Prop}{R:Prop}(h:oP o f F)(V:∀a,o=aa a->f a->R)(Y:F->R):R:=by
 induction o with
 |none=>exact Y h
 |some a=>exact V a rfl h
def bP(c:Bool)(P F:Prop):Prop:=match c with
 |true=>P
 |false=>F
theorem eJ{c:Bool}{P R:Prop}(h:bP c P F)(V:c=ae->P->R)(Y:F->R):R:=by
 induction c with
 |false=>exact Y h
 |true=>exact V rfl h
theorem bP.t{c:Bool}{P:Prop}(e:c=ae)(p:P):bP c P F:=by subst e;exact p
theorem bP.f{c:Bool}{P:Prop}(e:c=aH)(p:F):bP c P F:=by subst e;exact p
def jp{α:Type}(l:List α)(f:α->Prop)(F:Prop):Prop:=match l with
 |[]=>F
 |a::r=>match r with
  |[]=>f a
  |_::_=>F
theorem jL{P:List α->Prop}{l:List α}{f:α->Prop}(h:jp l f F)(Y:∀a,f a->P [a])(V:F->P l):P l:=by
 rcases l with _|⟨a,_|⟨b,r⟩⟩
 ·exact V h
 ·exact Y a h
 ·exact V h
def sH{α:Type}(l:List α)(f:α->α->Prop)(F:Prop):Prop:=match l with
 |[]=>F
 |a::r=>jp r (f a) F
theorem ur{P:List α->Prop}{l:List α}{f:α->α->Prop}(h:sH l f F)(Y:∀a b,f a b->P [a,b])(V:F->P l):P l:=by
 induction l with
 |nil=>exact V h
 |cons a r=>exact jL (P:=λr=>P (a::r)) h (λb h=>Y a b h) V
def Ds{α:Type}(l:List α)(A F:Prop):Prop:=match l with
 |[]=>A
 |_::_=>F
theorem JU{P:List α->Prop}{l:List α}{A:Prop}(h:Ds l A F)(V:A->P [])(Y:F->P l):P l:=by
 induction l with
 |nil=>exact V h
 |cons _ _=>exact Y h
def CU(e:au)(f:pW->List au->Pos->Prop)(F:Prop):Prop:=dP (c:=e.ctorIdx=0) (λh=>FD e h f) F
theorem I6{P:au->Prop}{f:pW->List au->Pos->Prop}(h:CU e f F)(Y:∀a b c,f a b c->P (.BoolOp a b c))(W:F->P e):P e:=
 gS h (λq=>FD (motive_1:=λe=>∀q,FD e q f->P e) e q (λa b c _=>Y a b c) q) W
def Ll(e:au)(f:au->l4->au->Pos->Prop)(F:Prop):Prop:=dP (c:=e.ctorIdx=2) (λh=>FT e h f) F
theorem U6{P:au->Prop}{f:au->l4->au->Pos->Prop}(h:Ll e f F)(Y:∀a b c d,f a b c d->P (.BinOp a b c d))(W:F->P e):P e:=
 gS h (λq=>FT (motive_1:=λe=>∀q,FT e q f->P e) e q (λa b c d _=>Y a b c d) q) W
def Du(e:au)(f:xE->au->Pos->Prop)(F:Prop):Prop:=dP (c:=e.ctorIdx=3) (λh=>Fo e h f) F
theorem JV{P:au->Prop}{f:xE->au->Pos->Prop}(h:Du e f F)(Y:∀a b c,f a b c->P (.UnaryOp a b c))(W:F->P e):P e:=
 gS h (λq=>Fo (motive_1:=λe=>∀q,Fo e q f->P e) e q (λa b c _=>Y a b c) q) W
def Mm(e:au)(f:au->au->au->Pos->Prop)(F:Prop):Prop:=dP (c:=e.ctorIdx=5) (λh=>FU e h f) F
theorem WR{P:au->Prop}{f:au->au->au->Pos->Prop}(h:Mm e f F)(Y:∀a b c d,f a b c d->P (.IfExp a b c d))(W:F->P e):P e:=
 gS h (λq=>FU (motive_1:=λe=>∀q,FU e q f->P e) e q (λa b c d _=>Y a b c d) q) W
def CV(e:au)(f:au->List oq->List au->Pos->Prop)(F:Prop):Prop:=dP (c:=e.ctorIdx=15) (λh=>Fp e h f) F
theorem I7{P:au->Prop}{f:au->List oq->List au->Pos->Prop}(h:CV e f F)(Y:∀a b c d,f a b c d->P (iQ a b c d))(W:F->P e):P e:=
 gS h (λq=>Fp (motive_1:=λe=>∀q,Fp e q f->P e) e q (λa b c d _=>Y a b c d) q) W
def xX(e:au)(f:au->List au->List Keyword->Pos->Prop)(F:Prop):Prop:=dP (c:=e.ctorIdx=16) (λh=>Ge e h f) F
theorem Ba{P:au->Prop}{f:au->List au->List Keyword->Pos->Prop}(h:xX e f F)(Y:∀a b c d,f a b c d->P (bU a b c d))(W:F->P e):P e:=
 gS h (λq=>Ge (motive_1:=λe=>∀q,Ge e q f->P e) e q (λa b c d _=>Y a b c d) q) W
def Lo(e:au)(f:Const->Nat->Pos->Prop)(F:Prop):Prop:=dP (c:=e.ctorIdx=19) (λh=>E_ e h f) F
theorem U7{P:au->Prop}{f:Const->Nat->Pos->Prop}(h:Lo e f F)(Y:∀a b c,f a b c->P (jH a b c))(W:F->P e):P e:=
 gS h (λq=>E_ (motive_1:=λe=>∀q,E_ e q f->P e) e q (λa b c _=>Y a b c) q) W
def Cy(e:au)(f:au->Str->Pos->Prop)(F:Prop):Prop:=dP (c:=e.ctorIdx=20) (λh=>E1 e h f) F
theorem Ih{P:au->Prop}{f:au->Str->Pos->Prop}(h:Cy e f F)(Y:∀a b c,f a b c->P (cC a b c))(W:F->P e):P e:=
 gS h (λq=>E1 (motive_1:=λe=>∀q,E1 e q f->P e) e q (λa b c _=>Y a b c) q) W
def CW(e:au)(f:au->au->Pos->Prop)(F:Prop):Prop:=dP (c:=e.ctorIdx=21) (λh=>E2 e h f) F
theorem I8{P:au->Prop}{f:au->au->Pos->Prop}(h:CW e f F)(Y:∀a b c,f a b c->P (dN a b c))(W:F->P e):P e:=
 gS h (λq=>E2 (motive_1:=λe=>∀q,E2 e q f->P e) e q (λa b c _=>Y a b c) q) W
def p5(e:au)(f:Str->Pos->Prop)(F:Prop):Prop:=dP (c:=e.ctorIdx=23) (λh=>mO e h f) F
theorem rJ{P:au->Prop}{f:Str->Pos->Prop}(h:p5 e f F)(Y:∀a b,f a b->P (aS a b))(W:F->P e):P e:=
 gS h (λq=>mO (motive_1:=λe=>∀q,mO e q f->P e) e q (λa b _=>Y a b) q) W
def KI(e:au)(f:List au->Pos->Prop)(F:Prop):Prop:=dP (c:=e.ctorIdx=24) (λh=>tE e h f) F
theorem TK{P:au->Prop}{f:List au->Pos->Prop}(h:KI e f F)(Y:∀a b,f a b->P (.List a b))(W:F->P e):P e:=
 gS h (λq=>tE (motive_1:=λe=>∀q,tE e q f->P e) e q (λa b _=>Y a b) q) W
def yg(e:au)(f:List au->Nat->Pos->Prop)(F:Prop):Prop:=dP (c:=e.ctorIdx=25) (λh=>FV e h f) F
theorem By{P:au->Prop}{f:List au->Nat->Pos->Prop}(h:yg e f F)(Y:∀a b c,f a b c->P (b7 a b c))(W:F->P e):P e:=
 gS h (λq=>FV (motive_1:=λe=>∀q,FV e q f->P e) e q (λa b c _=>Y a b c) q) W
def Lp(e:au)(f:Option au->Option au->Option au->Pos->Prop)(F:Prop):Prop:=dP (c:=e.ctorIdx=26) (λh=>FW e h f) F
theorem U8{P:au->Prop}{f:Option au->Option au->Option au->Pos->Prop}(h:Lp e f F)(Y:∀a b c d,f a b c d->P (.Slice a b c d))(W:F->P e):P e:=
 gS h (λq=>FW (motive_1:=λe=>∀q,FW e q f->P e) e q (λa b c d _=>Y a b c d) q) W
noncomputable def D.int?(d:D):Option Int:=match d with
 |.int i=>aa i
 |.none=>aU|.bool _=>aU|.str _=>aU|.tup _=>aU|.lst _=>aU|.cO _=>aU|.eu _=>aU
noncomputable def D.f_(d:D):Option Str:=match d with
 |.str i=>aa i
 |.none=>aU|.bool _=>aU|.int _=>aU|.tup _=>aU|.lst _=>aU|.cO _=>aU|.eu _=>aU
noncomputable def D.uY(d:D):Option (List D):=match d with
 |.lst i=>aa i
 |.none=>aU|.bool _=>aU|.int _=>aU|.tup _=>aU|.str _=>aU|.cO _=>aU|.eu _=>aU
noncomputable def D.oJ(d:D):Option (List D):=match d with
 |.tup i=>aa i
 |.none=>aU|.bool _=>aU|.int _=>aU|.lst _=>aU|.str _=>aU|.cO _=>aU|.eu _=>aU
noncomputable def D.bool?(d:D):Option Bool:=match d with
 |.bool i=>aa i
 |.none=>aU|.tup _=>aU|.int _=>aU|.lst _=>aU|.str _=>aU|.cO _=>aU|.eu _=>aU
def uP(d:D)(i:Nat):Int:=((d.oJ.getD [])[i]?.bind D.int?).getD 0
def f_(d:D)(i:Nat):Str:=((d.oJ.getD [])[i]?.bind D.f_).getD ""
def acR(d:D)(i:Nat):D:=((d.oJ.getD [])[i]?).getD .none
theorem D.kL{i:Int}(h:d.int?=aa i):d=.int i:=by
 cases d with
 |int j=>exact aQ D.int (aW h)
 |_=>exact ns h
theorem D.ma{i:Str}(h:d.f_=aa i):d=.str i:=by
 cases d with
 |str j=>exact aQ D.str (aW h)
 |_=>exact ns h
theorem D.xY{i:List D}(h:d.uY=aa i):d=.lst i:=by
 cases d with
 |lst j=>exact aQ D.lst (aW h)
 |_=>exact ns h
theorem D.KJ{i:List D}(h:d.oJ=aa i):d=.tup i:=by
 cases d with
 |tup j=>exact aQ D.tup (aW h)
 |_=>exact ns h
theorem D.WS{i:Bool}(h:d.bool?=aa i):d=.bool i:=by
 cases d with
 |bool j=>exact aQ D.bool (aW h)
 |_=>exact ns h
def iV(a b:D)(f:Int->Int->Prop)(F:Prop):Prop:=oP a.int? (λi=>oP b.int? (f i) F) F
def so(a b:D)(f:Str->Str->Prop)(F:Prop):Prop:=oP a.f_ (λi=>oP b.f_ (f i) F) F
def Lq(a b:D)(f:List D->List D->Prop)(F:Prop):Prop:=oP a.uY (λi=>oP b.uY (f i) F) F
theorem kc{a b:D}{f:Int->Int->Prop}{R:D->D->Prop}(h:iV a b f F)(Y:∀i j,f i j->R (.int i) (.int j))(V:F->R a b):R a b:=
 dm h (λi e h=>dm h (λj W h=>D.kL e▸D.kL W▸Y i j h) V) V
theorem ui{a b:D}{f:Str->Str->Prop}{R:D->D->Prop}(h:so a b f F)(Y:∀i j,f i j->R (.str i) (.str j))(V:F->R a b):R a b:=
 dm h (λi e h=>dm h (λj W h=>D.ma e▸D.ma W▸Y i j h) V) V
theorem U9{a b:D}{f:List D->List D->Prop}{R:D->D->Prop}(h:Lq a b f F)(Y:∀i j,f i j->R (.lst i) (.lst j))(V:F->R a b):R a b:=
 dm h (λi e h=>dm h (λj W h=>D.xY e▸D.xY W▸Y i j h) V) V
set_option tactic.hygienic true in
theorem lookup_mem{a:α}:∀{l:List (Str×α)},l.lookup x=aa a->(x,a)∈l
 |[],h=>by exact ns h
 |(y,b)::r,h=>by
  simp only[iu] at h
  split at h
  ·rename_i q;obtain rfl:=aW h;exact eq_of_beq q▸bi
  ·exact bM _ (lookup_mem h)
theorem U'{f:Fn}(h:CT.lookup x=aa f)(V:sc.names.lookup x=aa cj):bO sc x f.val:=by
 have H:AllP (λp:Str×Fn=>sc.names.lookup p.1=aa cj->bO sc p.1 p.2.val) CT:=
  ⟨UH,UD,UE,UG,RM,UI,tQ,IP,O_,Qm,Qn,F5,we,FL,Q2,QI,F6,Q3,Qp,QJ,P8,QK,Q4,trivial⟩
 exact H.mem _ (lookup_mem h) V
section
variable (n:Nat)
def Mn(op:l4)(a b:D)(k:D->Prop):Prop:=match op with
 |.Add=>iV a b (λi j=>k (.int (i+j))) (so a b (λx y=>x.length+y.length<=sizeLine/\k (.str (x++y))) (Lq a b (λl m=>l.length+m.length<=sizeLine/\k (.lst (l++m))) (bF n .Add a b k)))
 |.Sub=>iV a b (λi j=>k (.int (i-j))) (bF n .Sub a b k)
 |.Mult=>iV a b (λi j=>xm i j/\k (.int (i*j))) (bF n .Mult a b k)
 |.FloorDiv=>iV a b (λi j=>bP (decide (0<j)&&decide (j.natAbs<2^60)) (k (.int (i/j))) (bF n .FloorDiv (.int i) (.int j) k)) (bF n .FloorDiv a b k)
 |.Mod=>iV a b (λi j=>bP (decide (0<j)) (k (.int (i%j))) (bF n .Mod (.int i) (.int j) k)) (bF n .Mod a b k)
 |op=>bF n op a b k
def sI(op:oq)(a b:D)(k:Bool->Prop):Prop:=match op with
 |.Eq=>iV a b (λi j=>k (i==j)) (so a b (λi j=>k (i==j)) (bq n .Eq a b k))
 |.NotEq=>iV a b (λi j=>k (i != j)) (so a b (λi j=>k (i != j)) (bq n .NotEq a b k))
 |.Lt=>iV a b (λi j=>k (decide (i<j))) (bq n .Lt a b k)
 |.LtE=>iV a b (λi j=>k (decide (i<=j))) (bq n .LtE a b k)
 |.Gt=>iV a b (λi j=>k (decide (j<i))) (bq n .Gt a b k)
 |.GtE=>iV a b (λi j=>k (decide (j<=i))) (bq n .GtE a b k)
 |.In=>so a b (λi j=>k (jk i j)) (bq n .In a b k)
 |.NotIn=>so a b (λi j=>k (!jk i j)) (bq n .NotIn a b k)
 |.Is=>bP b.isNone (k a.isNone) (bq n .Is a b k)
 |.IsNot=>bP b.isNone (k (!a.isNone)) (bq n .IsNot a b k)
def Mo(f:Fn)(ds:List D)(k:D->Prop):Prop:=match f with
 |.max=>sH ds (λa b=>iV a b (λi j=>k (.int (max i j))) (bk n (.builtin "max") [a,b] k)) (bk n (.builtin "max") ds k)
 |.min=>sH ds (λa b=>iV a b (λi j=>k (.int (min i j))) (bk n (.builtin "min") [a,b] k)) (bk n (.builtin "min") ds k)
 |.abs=>jp ds (λa=>oP a.int? (λi=>k (.int (if i<0 then-i else i))) (bk n (.builtin "abs") [a] k)) (bk n (.builtin "abs") ds k)
 |.len=>jp ds (λa=>oP a.uY (λl=>l.length<2^63/\k (.int l.length)) (oP a.f_ (λx=>x.length<2^63/\k (.int x.length)) (bk n (.builtin "len") [a] k))) (bk n (.builtin "len") ds k)
 |.str=>jp ds (λa=>oP a.int? (λi=>i.natAbs.log2<1920/\k (.str (toString i))) (bk n (aK "str") [a] k)) (bk n (aK "str") ds k)
 |.iI a=>bJ n a ds k
 |.divmod=>bk n (.builtin "divmod") ds k
 |.sum=>bk n (.builtin "sum") ds k
 |.sorted=>bk n (.builtin "sorted") ds k
theorem WT{n:Nat}{a b:D}(h:Mn n op a b k):bF n op a b k:=by
 induction op<;>first
  |exact h
  |exact kc (R:=λa b=>bF n _ a b k) h (λ_ _ h=>bF.add h) λh=>ui (R:=λa b=>bF n _ a b k) h (λ_ _ h=>bF.ab7 h.1 h.2) λh=>U9 (R:=λa b=>bF n _ a b k) h (λ_ _ h=>bF.ab8 h.1 h.2) id
  |exact kc (R:=λa b=>bF n _ a b k) h (λ_ _ h=>bF.sub h) id
  |exact kc (R:=λa b=>bF n _ a b k) h (λ_ _ h=>bF.mul h.1 h.2) id
  |exact kc (R:=λa b=>bF n _ a b k) h (λ_ _ h=>eJ h (λc h=>bF.Z6 c h) id) id
  |exact kc (R:=λa b=>bF n _ a b k) h (λ_ _ h=>eJ h (λc h=>bF.acE c h) id) id
theorem D.none_of(h:d.isNone=ae):d=.none:=by
 cases d with
 |none=>rfl
 |_=>exact tx h
theorem xK{n:Nat}{op:oq}{a b:D}{k:Bool->Prop}(h:sI n op a b k):bq n op a b k:=by
 induction op<;>first
  |exact kc (R:=λa b=>bq n _ a b k) h (λ_ _ h=>bq.eqI h) λh=>ui (R:=λa b=>bq n _ a b k) h (λ_ _ h=>bq.eqX h) id
  |exact kc (R:=λa b=>bq n _ a b k) h (λ_ _ h=>bq.neI h) λh=>ui (R:=λa b=>bq n _ a b k) h (λ_ _ h=>bq.neX h) id
  |exact kc (R:=λa b=>bq n _ a b k) h (λ_ _ h=>bq.lt h) id
  |exact kc (R:=λa b=>bq n _ a b k) h (λ_ _ h=>bq.le h) id
  |exact kc (R:=λa b=>bq n _ a b k) h (λ_ _ h=>bq.gt h) id
  |exact kc (R:=λa b=>bq n _ a b k) h (λ_ _ h=>bq.ge h) id
  |exact ui (R:=λa b=>bq n _ a b k) h (λ_ _ h=>bq.inX h) id
  |exact ui (R:=λa b=>bq n _ a b k) h (λ_ _ h=>bq.Yi h) id
  |exact eJ h (λe h=>by obtain rfl:=D.none_of e;exact bq.isNone h) id
  |exact eJ h (λe h=>by obtain rfl:=D.none_of e;exact bq.isNotNone h) id
theorem WU{n:Nat}{f:Fn}{ds:List D}(h:Mo n f ds k):bk n f.val ds k:=by
 induction f<;>first
  |exact h
  |exact bJ.oW h
  |exact ur (P:=λds=>bk n _ ds k) h (λa b h=>kc (R:=λa b=>bk n _ [a,b] k) h (λ_ _ h=>bk.max2 h) id) id
  |exact ur (P:=λds=>bk n _ ds k) h (λa b h=>kc (R:=λa b=>bk n _ [a,b] k) h (λ_ _ h=>bk.min2 h) id) id
  |exact jL (P:=λds=>bk n _ ds k) h (λa h=>dm h (λi q h=>D.kL q▸bk.abs h) id) id
  |exact jL (P:=λds=>bk n _ ds k) h (λa h=>dm h (λi q h=>D.kL q▸bk.acn h.1 h.2) id) id
  |exact jL (P:=λds=>bk n _ ds k) h (λa h=>dm h (λi q h=>D.xY q▸bk.ack h.1 h.2) λh=>dm h (λi q h=>D.ma q▸bk.acm h.1 h.2) id) id
def TrP(d:D)(k:Bool->Prop):Prop:=∃b,d.truth=aa b/\(∀x,d=.str x->x.length<2^63)/\(∀x,d=.lst x->x.length<2^63)/\k b
def vn(d:D)(k:Bool->Prop):Prop:=match d with
 |.bool b=>k b
 |.int i=>k (i != 0)
 |.none=>k aH
 |.str x=>x.length<2^63/\k ((x.length:Int) != 0)
 |.lst l=>l.length<2^63/\k (!l.isEmpty)
 |.tup _=>False|.cO _=>False|.eu _=>False
theorem xZ{k:Bool->Prop}(h:vn d k):TrP d k:=by
 cases d<;>first|exact h.elim|exact Kw h|exact Cm h|exact Cu h|exact Yr h.1 h.2|exact Ys h.1 h.2
noncomputable def Cz(n:Nat):List (Str×String×(Str->List D->(D->Prop)->Prop)):=[
 ("lower","str.lower",λx ds k=>bP ds.isEmpty (vZ (cf x).length=aH/\k (.str (cf x))) False),
 ("find","str.find",λx ds k=>jp ds (λa=>oP a.f_ (λy=>k (.int (jJ x y))) False) (bk n (.builtin "str.find") (.str x::ds) k)),
 ("rfind","str.rfind",λx ds k=>jp ds (λa=>oP a.f_ (λy=>k (.int (j9 x y))) False) False),
 ("index","str.index",λx ds k=>bk n (.builtin "str.index") (.str x::ds) k),
 ("join","str.join",λx ds k=>bk n (.builtin "str.join") (.str x::ds) k),
 ("startswith","str.startswith",λx ds k=>jp ds (λa=>oP a.f_ (λy=>k (.bool (wy x y))) False) False),
 ("endswith","str.endswith",λx ds k=>jp ds (λa=>oP a.f_ (λy=>k (.bool (wG x y))) False) False)]
theorem Ii{n:Nat}{m:String×(Str->List D->(D->Prop)->Prop)}(h:(Cz n).lookup x=aa m):cM "str" x m.1/\∀{y ds k},m.2 y ds k->bk n (.builtin m.1) (.str y::ds) k:=by
 have H:AllP (λp:Str×String×(Str->List D->(D->Prop)->Prop)=>cM "str" p.1 p.2.1/\∀{y ds k},p.2.2 y ds k->bk n (.builtin p.2.1) (.str y::ds) k) (Cz n):=
  ⟨⟨.lower,λh=>eJ h (λe h=>PR.1 e▸bk.lower h.1 h.2) dw⟩,
   ⟨.find,λ{y _ k} h=>jL (P:=λds=>bk n _ (.str y::ds) k) h (λa h=>dm h (λy q h=>D.ma q▸bk.find h) dw) id⟩,
   ⟨.rfind,λ{y _ k} h=>jL (P:=λds=>bk n _ (.str y::ds) k) h (λa h=>dm h (λy q h=>D.ma q▸bk.rfind h) dw) dw⟩,
   ⟨.index,id⟩,⟨.join,id⟩,
   ⟨.startswith,λ{y _ k} h=>jL (P:=λds=>bk n _ (.str y::ds) k) h (λa h=>dm h (λy q h=>D.ma q▸bk.startswith h) dw) dw⟩,
   ⟨.endswith,λ{y _ k} h=>jL (P:=λds=>bk n _ (.str y::ds) k) h (λa h=>dm h (λy q h=>D.ma q▸bk.endswith h) dw) dw⟩,trivial⟩
 exact H.mem _ (lookup_mem h)
end
def pL(E:EP)(ρ:ay):List au->(List D->Prop)->Prop
 |[],k=>k []
 |e::r,k=>E ρ e λd=>pL E ρ r λds=>k (d::ds)
def yy(T:TP)(ρ:ay)(o:Bool):List au->(Bool->Prop)->Prop
 |[],k=>k (!o)
 |x::r,k=>match r with
  |[]=>T ρ x k
  |_::_=>T ρ x λb=>match o with
   |true=>cL b (k ae) (yy T ρ o r k)
   |false=>cL b (yy T ρ o r k) (k aH)
def Bd.own?(b:Bd):Option (ag×List D):=Bd.rec (motive:=λ_=>Option (ag×List D)) (λ_=>ak) (λa l=>aa (a,l)) (λ_ _ _ _=>ak) (λ_ _ _ _=>ak) (λ_=>ak) (λ_ _=>ak) (λ_ _ _ _=>ak) (λ_ _ _=>ak) (λ_=>ak) ak b
theorem Bd.YI{b:Bd}{q:ag×List D}(h:b.own?=aa q):b=.own q.1 q.2:=by
 induction b with
 |own a l=>exact aW h▸rfl
 |_=>exact ns h
def ownAt(ρ:ay)(x:Str):Option (ag×List D):=(ρ.lookup x).bind Bd.own?
def ownOf(ρ:ay)(x:Str):Option (List D):=(ownAt ρ x).map (·.2)
def ou(ρ:ay)(x:Str):Option D:=(ρ.lookup x).bind Bd.Dh
def nameOf(e:au):Option Str:=dO (c:=e.ctorIdx=23) λh=>mO e h λx _=>aa x
noncomputable def r_(e:au):Bool:=!([8,9,10,11,22,25,26].any (e.ctorIdx==·))
noncomputable def B4(e:au):Bool:=!(e.ctorIdx==16)
noncomputable def keepR(x:Str)(l:List D)(ρ:ay):ay:=(x,.dat (.lst l))::jg ρ
section
variable {n:Nat} {sc:bf} {ρ:ay}
theorem Bz{q:ag×List D}(h:ownAt ρ x=aa q):ρ.lookup x=aa (.own q.1 q.2):=(iq.mp h).elim λb h=>Bd.YI h.2▸h.1
theorem U_(h:ownOf ρ x=aa l):∃a,ρ.lookup x=aa (.own a l):=(kA.mp h).elim λq h=>⟨q.1,h.2▸Bz h.1⟩
theorem BA(h:ou ρ x=aa d):ρ.lookup x=aa (.dat d):=(iq.mp h).elim λb h=>Bd.Kr h.2▸h.1
theorem Ij(h:nameOf e=aa x):∃p,e=aS x p:=
 CH h λq=>mO (motive_1:=λe=>∀q,mO e q (λx _=>aa x)=aa x->∃p,e=aS x p) e q (λy p _ h=>⟨p,aQ (S9 · p) (aW h)⟩) q
theorem mU{o:au}(h:B4 o=ae)(name:Str)(ab:Env)(x:Sem ai):mR o name ab x=x:=
 cT h (by cases o<;>first|exact Eq.refl x|exact trivial)
theorem plainGet{s:au}(h:r_ s=ae)(o i:ai):GW s aH o i=operate [o,i] (getItem o i):=
 congrFun (congrFun (cT h (by cases s<;>first|exact Eq.refl (λo i=>operate [o,i] (getItem o i))|exact trivial):GW s aH=λo i=>operate [o,i] (getItem o i)) o) i
theorem gu.mono{p:Option au}{k k':Option Int->Prop}(h:gu n sc ρ p k)(Y:∀d,k d->k' d):gu n sc ρ p k':=by
 induction p with
 |none=>exact Y _ h
 |some e=>exact aj.mono h λd V=>V.elim λi V=>V.elim λe q=>⟨i,e,Y _ q⟩
end
section
variable (n:Nat) (sc:bf) (E:EP) (T:TP) (ρ:ay)
def yh(p:Option au)(k:Option Int->Prop):Prop:=match p with
 |none=>k ak
 |some e=>E ρ e λd=>oP d.int? (λi=>k (aa i)) False
def Mp(a b:D)(k:D->Prop):Prop:=oP a.oJ (λl=>oP b.int? (λi=>bP (decide (0<=i)&&decide (i<1000)) (oP l[i.toNat]? k False) False) False) (b8 n a b k)
def Mq(a:D)(l u t:Option Int)(k:D->Prop):Prop:=oP a.f_ (λx=>bP (!(t.getD 1==0)) (x.length<=10000/\k (.str (d6 x l u t))) False) (oP a.uY (λx=>bP (!(t==aa 0)) (x.length<=10000/\k (.lst (kK x l u t))) False) False)
def Mr(v:au)(lo hi st:Option au)(k:D->Prop)(F:Prop):Prop:=oP ((nameOf v).bind (ownOf ρ)) (λ_=>F) (E ρ v λa=>yh E ρ lo λl=>yh E ρ hi λu=>yh E ρ st λt=>Mq a l u t k)
def Ms(v s:au)(e:au)(k:D->Prop):Prop:=oP ((nameOf v).bind λx=>(ownOf ρ x).map (x,·)) (λx=>E (keepR x.1 x.2 ρ) e λd=>d.scalar=ae/\k d)
 (bP (r_ s) (E ρ v λa=>E ρ s λb=>Mp n a b k) (aj n sc ρ e k))
def Lr(fn:Str)(args:List au)(e:au)(k:D->Prop):Prop:=oP ((args.head?.bind nameOf).bind λx=>(ownOf ρ x).map (x,·)) (λx=>E (keepR x.1 x.2 ρ) e λd=>d.scalar=ae/\k d)
 (oP (CT.lookup fn) (λf=>bP (args.all cu&&sc.names.lookup fn==aa cj) (pL E ρ args λds=>Mo n f ds k) (aj n sc ρ e k)) (aj n sc ρ e k))
def Ls(o:au)(name:Str)(ap:Pos)(args:List au)(aM:Pos)(k:D->Prop)(F:Prop):Prop:=
 oP ((Cz n).lookup name) (λm=>bP (args.all cu&&(B4 o&&(decide (args.length<30)&&(ap.endLine==aM.line)))) (E ρ o λa=>oP a.f_ (λx=>pL E ρ args λds=>m.2 x ds k) False) F) F
def acS(c:Const)(k:D->Prop)(F:Prop):Prop:=match c with
 |.int i=>k (.int i)
 |.str x=>k (.str x)
 |.bool b=>k (.bool b)
 |.none=>k .none
 |.float _=>F|.complex _ _=>F|.bytes _=>F|.ellipsis=>F
def pUn(op:xE)(e:au)(k:D->Prop)(F:Prop):Prop:=match op with
 |.USub=>E ρ e λd=>oP d.int? (λi=>k (.int (-i))) False
 |.Not=>F|.UAdd=>F|.Invert=>F
noncomputable def Mt(op:pW):Bool:=match op with
 |.Or=>ae
 |.And=>aH
def acT(op:pW)(l:List au)(k:D->Prop)(F:Prop):Prop:=sH l (λx y=>match op with
 |.Or=>E ρ x λd=>vn d λb=>cL b (k d) (E ρ y k)
 |.And=>E ρ x λd=>oP d.bool? (λb=>cL b (E ρ y k) (k (.bool aH))) False) F
def KL(e:au)(k:D->Prop):Prop:=
 CU e (λop l p=>acT E ρ op l k (aj n sc ρ (.BoolOp op l p) k))
  (Du e (λop x p=>pUn E ρ op x k (aj n sc ρ (.UnaryOp op x p) k))
   (yg e (λl c p=>bP (l.all cu&&decide (l.length<=1000)) (pL E ρ l λds=>k (.tup ds)) (aj n sc ρ (b7 l c p) k))
    (KI e (λl p=>bP (l.all cu&&decide (l.length<=1000)) (pL E ρ l λds=>k (.lst ds)) (aj n sc ρ (.List l p) k)) (aj n sc ρ e k))))
def KN(e:au)(k:D->Prop):Prop:=
 Ll e (λl op r _=>E ρ l λa=>E ρ r λb=>Mn n op a b k)
  (CV e (λl V Y p=>jp V (λop=>jp Y (λr=>bP (!Af op r) (E ρ l λa=>E ρ r λb=>sI n op a b λc=>k (.bool c)) False) False) (aj n sc ρ (iQ l V Y p) k))
   (Mm e (λt b o _=>T ρ t λc=>cL c (E ρ b k) (E ρ o k)) (KL n sc E ρ e k)))
def Lu(e:au)(k:D->Prop):Prop:=
 p5 e (λx p=>oP (ou ρ x) (λd=>bP (ce x) (k d) False) (aj n sc ρ (aS x p) k))
  (Lo e (λc i p=>acS c k (aj n sc ρ (jH c i p) k))
   (xX e (λf args V p=>Ds V (p5 f (λfn np=>Lr n sc E ρ fn args (bU (aS fn np) args [] p) k)
    (Cy f (λo name ap=>Ls n E ρ o name ap args p k (aj n sc ρ (bU (cC o name ap) args [] p) k)) (aj n sc ρ (bU f args [] p) k))) (aj n sc ρ (bU f args V p) k))
    (CW e (λv s p=>Lp s (λlo hi st q=>Mr E ρ v lo hi st k (aj n sc ρ (dN v (.Slice lo hi st q) p) k)) (Ms n sc E ρ v s (dN v s p) k)) (KN n sc E T ρ e k))))
def KO(e:au)(k:Bool->Prop):Prop:=
 p5 e (λx p=>E ρ (aS x p) λd=>vn d k) (xX e (λf a w p=>E ρ (bU f a w p) λd=>vn d k) (CW e (λv s p=>E ρ (dN v s p) λd=>vn d k) (bH n sc ρ e k)))
def stepT(e:au)(k:Bool->Prop):Prop:=
 CV e (λl V Y p=>jp V (λop=>jp Y (λr=>bP (!Af op r) (E ρ l λa=>E ρ r λb=>sI n op a b k) False) False)
  (sH V (λW Z=>sH Y (λm r=>bP (!lastMarks [W,Z] [m,r]) (E ρ l λa=>E ρ m λb=>sI n W a b λc=>cL c (E ρ r λd=>sI n Z b d k) (k aH)) False) False) False))
  (Du e (λop x p=>match op with
   |.Not=>T ρ x λb=>k (!b)
   |.USub=>bH n sc ρ (.UnaryOp .USub x p) k|.UAdd=>bH n sc ρ (.UnaryOp .UAdd x p) k|.Invert=>bH n sc ρ (.UnaryOp .Invert x p) k)
   (CU e (λop l _=>yy T ρ (Mt op) l k) (KO n sc E ρ e k)))
noncomputable def kZ(n:Nat)(sc:bf):Nat->EP×TP
 |0=>(λρ e k=>aj n sc ρ e k,λρ e k=>bH n sc ρ e k)
 |f+1=>(Lu n sc (kZ n sc f).1 (kZ n sc f).2,stepT n sc (kZ n sc f).1 (kZ n sc f).2)
end
section
variable {n:Nat} {sc:bf} {E:EP} {T:TP} (O:Ok n sc E T) {ρ:ay}
include O
theorem ee:∀{l:List au} {k:List D->Prop},pL E ρ l k->cn n sc ρ l k:=by
 intro Y
 induction Y with
 |nil=>
  intro _ h
  exact h
 |cons e r V=>
  intro _ h
  exact(O.e h).mono λ_ h=>V h
theorem B5{op:pW}:∀{l:List au} {k:Bool->Prop},yy T ρ (Mt op) l k->m5 n sc ρ op l k
 |[],k,h=>by induction op<;>exact h
 |[x],k,h=>by
  induction op
  ·exact IW ((O.t h).mono λb q=>by induction b<;>exact q)
  ·exact JK ((O.t h).mono λb q=>by induction b<;>exact q)
 |x::y::r,k,h=>by
  induction op
  ·exact IW ((O.t h).mono λb q=>q.ite (λq=>B5 q) id)
  ·exact JK ((O.t h).mono λb q=>q.ite id λq=>B5 q)
theorem BB{p:Option au}{k:Option Int->Prop}(h:yh E ρ p k):gu n sc ρ p k:=by
 induction p with
 |none=>exact h
 |some e=>exact(O.e h).mono λd q=>dm q (λi e q=>⟨i,D.kL e,q⟩) dw
omit O in
theorem Va{o:Option Str}{x:Str×List D}(h:(o.bind λx=>(ownOf ρ x).map (x,·))=aa x):∃a,ρ.lookup x.1=aa (.own a x.2):=by
 obtain⟨y,V,h⟩:=iq.mp h
 obtain⟨l,hl,rfl⟩:=kA.mp h
 exact U_ hl
theorem JW{o:Option Str}{x:Str×List D}(h:(o.bind λx=>(ownOf ρ x).map (x,·))=aa x)(q:E (keepR x.1 x.2 ρ) e λd=>d.scalar=ae/\k d):aj n sc ρ e k:=
 (Va h).elim λ_ r=>aj.mo r (O.e q)
omit O in
theorem WV{a b:D}(h:Mp n a b k):b8 n a b k:=
 dm h (λl Y h=>dm h (λi W h=>eJ h (λc h=>dm h (λd hd r=>by
  have q:=(bB _ _).mp c
  have V:=cY q.1;have Z:=cY q.2
  have hl:=(ez.1 hd).1
  simp only[D.KJ Y,D.kL W]
  exact b8.tup (ZG V) (GG Z (dC tT)) (Fk V (abP V hl)) hd r) dw) dw) dw) id
omit O in
theorem not_of{c:Bool}(h:(!c)=ae):c=aH:=by induction c;rfl;exact ft h
omit O in
theorem WX{a:D}{l u t:Option Int}(h:Mq a l u t k):uV a l u t k:=
 dm h (λx e h=>eJ h (λc h=>D.ma e▸⟨not_of c,h⟩) dw) λh=>dm h (λx e h=>eJ h (λc h=>D.xY e▸⟨(λq=>by subst q;exact ft c),h⟩) dw) dw
theorem WY{v:au}{lo hi st:Option au}(h:Mr E ρ v lo hi st k (aj n sc ρ (dN v (.Slice lo hi st sp) aM) k)):aj n sc ρ (dN v (.Slice lo hi st sp) aM) k:=
 dm h (λ_ _ h=>h) λh=>aj.slc ((O.e h).mono λa q=>(BB O q).mono λl q=>(BB O q).mono λu q=>(BB O q).mono λt q=>WX q)
theorem WZ{v s:au}(h:Ms n sc E ρ v s (dN v s aM) k):aj n sc ρ (dN v s aM) k:=
 dm h (λ_ e h=>JW O e h) λh=>eJ h (λe h=>aj.sub ((O.e h).mono λa q=>(O.e q).mono λb q=>WV q) (plainGet e)) id
theorem Vb{fn:Str}{args:List au}(h:Lr n sc E ρ fn args (bU (aS fn np) args [] aM) k):aj n sc ρ (bU (aS fn np) args [] aM) k:=
 dm h (λ_ e h=>JW O e h) λh=>dm h (λf V h=>eJ h (λq h=>
  have q:=(bB _ _).mp q
  aj.call (U' V (eq_of_beq q.2)) q.1 ((ee O h).mono λ_=>WU)) id) id
theorem Vc{o:au}{name:Str}{args:List au}(h:Ls n E ρ o name ap args aM k (aj n sc ρ (bU (cC o name ap) args [] aM) k)):aj n sc ρ (bU (cC o name ap) args [] aM) k:=
 dm h (λm em h=>eJ h (λq h=>
  have q:=(bB _ _).mp q
  have V:=(bB _ _).mp q.2
  have Y:=(bB _ _).mp V.2
  aj.yt (Ii em).1 q.1 (λab=>mU V.1 _ _ _) ⟨cY Y.1,Y.2⟩ ((O.e h).mono λa r=>dm r (λx e r=>by obtain rfl:=D.ma e;exact⟨rfl,(ee O r).mono λ_=>(Ii em).2⟩) dw)) id) id
theorem TL(h:KL n sc E ρ e k):aj n sc ρ e k:=
 I6 (P:=λe=>aj n sc ρ e k) h (λop l p h=>ur (P:=λl=>aj n sc ρ (.BoolOp op l p) k) h (λx y h=>by
  induction op
  ·exact aj.ab9 ((O.e h).mono λd q=>dm q (λb e q=>⟨b,D.WS e,q.ite O.e id⟩) dw)
  ·exact aj.or2 ((O.e h).mono λd q=>(xZ q).elim λb V=>V.elim λY V=>V.elim λW V=>V.elim λh3 Z=>⟨b,Y,W,h3,Z.ite id O.e⟩)) id) λh=>
 JV (P:=λe=>aj n sc ρ e k) h (λop x p h=>by
  induction op<;>first|exact h|exact aj.un ((O.e h).mono λd q=>dm q (λi e q=>D.kL e▸mw.neg q) dw)) λh=>
 By (P:=λe=>aj n sc ρ e k) h (λl c p h=>eJ h (λq h=>have q:=(bB _ _).mp q;aj.tup q.1 (cY q.2) (ee O h)) id) λh=>
 TK (P:=λe=>aj n sc ρ e k) h (λl p h=>eJ h (λq h=>have q:=(bB _ _).mp q;aj.lst q.1 (cY q.2) (ee O h)) id) id
theorem TM(h:KN n sc E T ρ e k):aj n sc ρ e k:=
 U6 (P:=λe=>aj n sc ρ e k) h (λ_ _ _ _ h=>aj.bin ((O.e h).mono λa q=>(O.e q).mono λb=>WT)) λh=>
 I7 (P:=λe=>aj n sc ρ e k) h (λl V Y p h=>jL (P:=λV=>aj n sc ρ (iQ l V Y p) k) h (λop h=>jL (P:=λY=>aj n sc ρ (iQ l [op] Y p) k) h (λr h=>eJ h (λq h=>
  aj.cmp ((O.e h).mono λa q=>(O.e q).mono λb=>xK) (not_of q)) dw) dw) id) λh=>
 WR (P:=λe=>aj n sc ρ e k) h (λ_ _ _ _ h=>aj.CK ((O.t h).mono λc q=>q.ite O.e O.e)) (TL O)
theorem Vd(h:Lu n sc E T ρ e k):aj n sc ρ e k:=
 rJ (P:=λe=>aj n sc ρ e k) h (λx p h=>dm h (λd e h=>eJ h (λok h=>aj.name (BA e) ok h) dw) id) λh=>
 U7 (P:=λe=>aj n sc ρ e k) h (λc i p h=>by induction c<;>first|exact h|exact aj.int h|exact aj.str h|exact aj.bool h|exact aj.none h) λh=>
 Ba (P:=λe=>aj n sc ρ e k) h (λf args V p h=>JU (P:=λV=>aj n sc ρ (bU f args V p) k) h (λh=>
  rJ (P:=λf=>aj n sc ρ (bU f args [] p) k) h (λfn np h=>Vb O h) λh=>Ih (P:=λf=>aj n sc ρ (bU f args [] p) k) h (λo nm ap h=>Vc O h) id) id) λh=>
 I8 (P:=λe=>aj n sc ρ e k) h (λv s p h=>U8 (P:=λs=>aj n sc ρ (dN v s p) k) h (λlo hi st q h=>WY O h) (WZ O)) (TM O)
theorem TN{k:Bool->Prop}(h:KO n sc E ρ e k):bH n sc ρ e k:=
 rJ (P:=λe=>bH n sc ρ e k) h (λ_ _ h=>bH.val ((O.e h).mono λd q=>xZ q) (λ_ _=>rfl)) λh=>
 Ba (P:=λe=>bH n sc ρ e k) h (λ_ _ _ _ h=>bH.val ((O.e h).mono λd q=>xZ q) (λ_ _=>rfl)) λh=>
 I8 (P:=λe=>bH n sc ρ e k) h (λ_ _ _ h=>bH.val ((O.e h).mono λd q=>xZ q) (λ_ _=>rfl)) id
theorem Ve{k:Bool->Prop}(h:stepT n sc E T ρ e k):bH n sc ρ e k:=
 I7 (P:=λe=>bH n sc ρ e k) h (λl V Y p h=>jL (P:=λV=>bH n sc ρ (iQ l V Y p) k) h
  (λop h=>jL (P:=λY=>bH n sc ρ (iQ l [op] Y p) k) h (λr h=>eJ h (λq W=>bH.cmp ((O.e W).mono λa q=>(O.e q).mono λb=>xK) (not_of q)) dw) dw) λh=>
  ur (P:=λV=>bH n sc ρ (iQ l V Y p) k) h (λZ H h=>ur (P:=λY=>bH n sc ρ (iQ l [Z,H] Y p) k) h (λm r h=>eJ h (λq W=>
   bH.Yu ((O.e W).mono λa q=>(O.e q).mono λb q=>(xK q).mono λc q=>q.ite (λq=>(O.e q).mono λ_=>xK) id) (not_of q)) dw) dw) dw) λh=>
 JV (P:=λe=>bH n sc ρ e k) h (λop x p h=>by induction op<;>first|exact h|exact bH.not (O.t h)) λh=>
 I6 (P:=λe=>bH n sc ρ e k) h (λop l p h=>bH.Yj (B5 O h)) (TN O)
end
theorem dF:∀f,Ok n sc (kZ n sc f).1 (kZ n sc f).2
 |0=>⟨λh=>h,λh=>h⟩
 |f+1=>⟨Vd (dF f),Ve (dF f)⟩
def Dw(sc:bf)(line:Nat)(e:au):Option Str:=dO (c:=e.ctorIdx=23) λh=>mO e h λx p=>bif (sc.names.lookup x==aa .local&&p.line==line) then aa x else ak
theorem cS{c:Bool}{y x:α}(h:(bif c then aa y else ak)=aa x):y=x/\c=ae:=by
 induction c with
 |false=>exact ns h
 |true=>exact⟨aW h,rfl⟩
theorem W1{line:Nat}(h:Dw sc line e=aa x):∃p,e=aS x p/\(sc.names.lookup x==aa .local&&p.line==line)=ae:=
 CH h λq=>mO (motive_1:=λe=>∀q,(mO e q λx p=>bif (sc.names.lookup x==aa .local&&p.line==line) then aa x else ak)=aa x->∃p,e=aS x p/\(sc.names.lookup x==aa .local&&p.line==line)=ae) e q (λy p _ h=>by
  obtain⟨rfl,c⟩:=cS h
  exact⟨p,rfl,c⟩) q
noncomputable def yT(sc:bf)(line:Nat):List au->Option (List Str)
 |[]=>aa []
 |e::r=>(Dw sc line e).bind λx=>(yT sc line r).map (x::·)
noncomputable def uE(ts:List au):Nat:=(ts.head?.map (·.pos.line)).getD 0
theorem KS.isLocal{a b:Option fP}(h:KS a b):(a==aa .local)=(b==aa .local):=by
 rcases h with rfl|⟨rfl,rfl⟩<;>rfl
theorem KP{line:Nat}{F:au->Option Str}(Y:∀x p,F (aS x p)=if (sc.names.lookup x==aa .local&&p.line==line)=ae then aa x else ak):∀{aI:List Str},yT sc line ts=aa aI->ts.filterMap F=aI/\mV ts aI/\aI.all (mine sc)=ae:=by
 induction ts with
 |nil=>intro aI h;obtain rfl:=aW h;exact⟨rfl,.nil,rfl⟩
 |cons e r V=>
  intro aI h
  obtain⟨x,W,h⟩:=iq.mp h
  obtain⟨l,q,rfl⟩:=kA.mp h
  obtain⟨p,rfl,c⟩:=W1 W
  have V:=V q
  exact⟨(N7 ((Y x p).trans (bo c))).trans (aQ _ V.1),.cons V.2.1,(bB _ _).mpr ⟨(ww _ _).mpr (.inl ((bB _ _).mp c).1),V.2.2⟩⟩
def B6(ts es:List au)(aI:List Str):Bool:=decide (aI.length=es.length)&&(decide (aI.length=ts.length)&&(es.all cu&&(decide (es.length<=1000)&&decide aI.Nodup)))
noncomputable def JX(ts es:List au)(aI:List Str):Bool:=(ts.length==2||ts.length==3)&&(decide (aI.eraseDups.length=aI.length)&&(!es.all (Al 8)&&!es.all (constantsAlone 8)))
theorem W4{es:List au}{F:au->Bool}(V:∀e,F e=!cu e)(h:es.all cu=ae):es.any F=aH:=
 Fm.mpr λe Y q=>ft ((aQ (!·) (ef.1 h e Y)).symm.trans ((V e).symm.trans q))
theorem yi[BEq α][LawfulBEq α]{a b:α}(h:a=b):(a != b)=aH:=by subst h;exact aQ (!·) (beq_self_eq_true a)
theorem Dx{a b:Bool}(h:a=aH)(q:b=aH):(a||b)=aH:=by subst h;exact q
theorem Z'{a b d e:Bool}{N:List Str}{Y:Sem (Option (List Str))}(V:N=aI)(W:a=aH)(Z:b=aH)(H:aI.length=n)(G:aI.eraseDups.length=aI.length)(hd:d=aH)(C:e=aH):
 (if a=ae then pure ak else if b=ae then pure ak else if (N.length != n||N.eraseDups.length != N.length)=ae then pure ak else if d=ae then pure ak else if e=ae then Y else pure (aa N))=(pure (aa aI):Sem (Option (List Str))):=by
 subst W Z hd C V;exact be λq=>ft ((Dx (yi H) (yi G)).symm.trans q)
theorem BC{es:List au}(B:ab.scope.kind=fu)(V:∀x,KS (ab.kindOf x) (sc.names.lookup x))(f:yT sc (uE ts) ts=aa aI)
 (h1:B6 ts es aI=ae)(h2:JX ts es aI=ae):mQ [b7 ts c p] (b7 es c' p') ab=pure (aa aI):=by
 have Y:=(bB _ _).mp h1;have W:=(bB _ _).mp Y.2;have q3:=(bB _ _).mp W.2
 have Z:=(bB _ _).mp h2;have H:=(bB _ _).mp Z.2;have G:=(bB _ _).mp H.2
 have e1:aI.length=es.length:=cY Y.1
 have C:aI.length=ts.length:=cY W.1
 have e3:ab.blockKind=fu:=by unfold QS;rw[B];rfl
 refine Z' ?_ (Dx (Dx (aQ (!·) Z.1) (yi (e1.symm.trans C))) (yi e3)) (W4 (λe=>?_) q3.1) C (cY H.1) (not_of G.1) (not_of G.2)
 ·exact(KP (λx p=>by rw[<-KS.isLocal (V x)];rfl) f).1
 ·cases e<;>first|exact Eq.refl aH|exact Eq.refl ae
theorem I9{es:List au}(V:(ts.length==2||ts.length==3)=aH):mQ [b7 ts c p] (b7 es c' p') ab=pure ak:=
 have g:∀{a b c:Bool} {X:Sem (Option (List Str))},a=aH->(if (!a||b||c)=ae then pure ak else X)=pure ak:=λe=>by subst e;rfl
 g V
theorem Vf{es:List au}(h:es.all (Al 8)=ae):mQ [b7 ts c p] (b7 es c' p') ab=pure ak:=
 have g:∀{a b c:Bool} {X:Sem (Option (List Str))},(if a=ae then pure ak else if b=ae then pure ak else if c=ae then pure ak else if es.all (Al 8)=ae then pure ak else X)=pure ak:=λ{a b c X}=>by
  rw[bo h];induction a<;>induction b<;>induction c<;>rfl
 g
def Z_(e:au):Option Pos:=dO (c:=e.ctorIdx=24) λh=>tE e h λl p=>bif l.isEmpty then aa p else ak
def isNil(e:au):Bool:=(Z_ e).isSome
theorem I_(h:isNil e=ae):∃p,e=.List [] p:=
 (Option.isSome_iff_exists.mp h).elim λp h=>CH h λq=>tE (motive_1:=λe=>∀q,(tE e q λl p=>bif l.isEmpty then aa p else ak)=aa p->∃p,e=.List [] p) e q (λl p _ h=>by
  induction l with
  |nil=>exact⟨p,rfl⟩
  |cons _ _=>exact ns h) q
def vo(E:EP)(ρ:ay):List au->(List Bd->Prop)->Prop
 |[],k=>k []
 |e::r,k=>bP (isNil e) (∀a,vo E ρ r λbs=>k (.own a []::bs)) (E ρ e λd=>vo E ρ r λbs=>k (.dat d::bs))
def Mu(sc:bf)(E:EP)(ρ:ay)(ts es:List au)(k:ay->Prop)(F:Prop):Prop:=oP (yT sc (uE ts) ts) (λaI=>bP (B6 ts es aI)
 (bP (JX ts es aI) (vo E ρ es λbs=>k (aI.zip bs++ρ)) (bP (es.all (Al 8)||!(ts.length==2||ts.length==3)) (vo E ρ es λbs=>k ((aI.zip bs).reverse++ρ)) F)) F) F
abbrev SP:=ay->List bw->(Fl->ay->Prop)->Prop
structure yU(n:Nat)(sc:bf)(S:SP):Prop where
 s:∀{ρ b k},S ρ b k->aL n sc ρ b k
def kj(S:SP)(r:List bw)(k:Fl->ay->Prop):Fl->ay->Prop:=λfl ρ=>match fl with
 |.next=>S ρ r k
 |.brk=>k .brk ρ
 |.cont=>k .cont ρ
 |.ret d=>k (.ret d) ρ
section
variable (n:Nat) (sc:bf) (E:EP) (T:TP) (S:SP) (ρ:ay)
def pNames(ρ:ay):List au->List D->(ay->Prop)->Prop
 |[],ds,k=>match ds with
  |[]=>k ρ
  |_::_=>False
 |t::ts,ds,k=>match ds with
  |[]=>False
  |d::ds=>oP (nameOf t) (λx=>bP (mine sc x) (pNames ((x,.dat d)::ρ) ts ds k) False) False
def KQ(t cX:au)(k:ay->Prop)(F:au->au->Prop):Prop:=p5 t (λx p=>bP (isNil cX) (bP (mine sc x) (∀a,k ((x,.own a [])::ρ)) (F (aS x p) cX)) (bP (r_ cX&&mine sc x) (E ρ cX λd=>k ((x,.dat d)::ρ)) (F (aS x p) cX)))
 (yg t (λts c p=>yg cX (λes c' p'=>Mu sc E ρ ts es k (F (b7 ts c p) (b7 es c' p'))) (bP (r_ cX&&ts.all cu) (E ρ cX λd=>oP d.oJ (λds=>pNames sc ρ ts ds k) False) (F (b7 ts c p) cX))) (F t cX))
def Mv(op:l4)(A S F:Prop):Prop:=match op with
 |.Add=>A
 |.Sub=>S
 |.Mult=>F|.MatMult=>F|.Div=>F|.Mod=>F|.Pow=>F|.LShift=>F|.RShift=>F|.BitOr=>F|.BitXor=>F|.BitAnd=>F|.FloorDiv=>F
theorem W5{P:l4->Prop}{A S:Prop}(h:Mv op A S F)(V:A->P .Add)(Y:S->P .Sub)(h3:F->P op):P op:=by
 cases op<;>first|exact V h|exact Y h|exact h3 h
def Mw(t:au)(op:l4)(e:au)(k:ay->Prop)(F:au->l4->Prop):Prop:=p5 t (λx p=>bP (ce x&&mine sc x) (Mv op
 (oP ((ou ρ x).bind D.int?) (λi=>E ρ e λd=>oP d.int? (λj=>k ((x,.dat (.int (i+j)))::ρ)) False) (F (aS x p) .Add))
 (oP ((ou ρ x).bind D.int?) (λi=>E ρ e λd=>oP d.int? (λj=>k ((x,.dat (.int (i-j)))::ρ)) False) (F (aS x p) .Sub))
 (F (aS x p) op)) (F (aS x p) op)) (F t op)
def Lw(e:au)(k:ay->Prop)(F:au->Prop):Prop:=xX e (λf args V cp=>Cy f (λo m ap=>p5 o (λx np=>Ds V (jp args (λa=>oP (ownAt ρ x) (λq=>bP (ce x&&((m==("append":Str))&&(cu a&&(ap.endLine==cp.line))))
 (E ρ a λd=>q.2.length<=100000/\k ((x,.own q.1 (q.2++[d]))::ρ)) (F (bU (cC (aS x np) m ap) [a] [] cp))) (F (bU (cC (aS x np) m ap) [a] [] cp))) (F (bU (cC (aS x np) m ap) args [] cp)))
 (F (bU (cC (aS x np) m ap) args V cp))) (F (bU (cC o m ap) args V cp))) (F (bU f args V cp))) (F e)
def Ly(e:bw)(f:List au->au->Pos->Prop)(F:Prop):Prop:=dP (c:=e.ctorIdx=5) (λh=>FE e h f) F
theorem Vg{P:bw->Prop}{e:bw}{f:List au->au->Pos->Prop}(h:Ly e f F)(Y:∀a b c,f a b c->P (fe a b c))(W:F->P e):P e:=
 gS h (λq=>FE (motive_2:=λe=>∀q,FE e q f->P e) e q (λa b c _=>Y a b c) q) W
def Lz(e:bw)(f:au->l4->au->Pos->Prop)(F:Prop):Prop:=dP (c:=e.ctorIdx=7) (λh=>E3 e h f) F
theorem Vh{P:bw->Prop}{e:bw}{f:au->l4->au->Pos->Prop}(h:Lz e f F)(Y:∀a b c d,f a b c d->P (.AugAssign a b c d))(W:F->P e):P e:=
 gS h (λq=>E3 (motive_2:=λe=>∀q,E3 e q f->P e) e q (λa b c d _=>Y a b c d) q) W
def LA(e:bw)(f:au->List bw->List bw->Pos->Prop)(F:Prop):Prop:=dP (c:=e.ctorIdx=12) (λh=>GH e h f) F
theorem Vi{P:bw->Prop}{e:bw}{f:au->List bw->List bw->Pos->Prop}(h:LA e f F)(Y:∀a b c d,f a b c d->P (.If a b c d))(W:F->P e):P e:=
 gS h (λq=>GH (motive_2:=λe=>∀q,GH e q f->P e) e q (λa b c d _=>Y a b c d) q) W
def LB(e:bw)(f:Option au->Pos->Prop)(F:Prop):Prop:=dP (c:=e.ctorIdx=3) (λh=>FG e h f) F
theorem Vj{P:bw->Prop}{e:bw}{f:Option au->Pos->Prop}(h:LB e f F)(Y:∀a b,f a b->P (.Return a b))(W:F->P e):P e:=
 gS h (λq=>FG (motive_2:=λe=>∀q,FG e q f->P e) e q (λa b _=>Y a b) q) W
def LC(e:bw)(f:au->Pos->Prop)(F:Prop):Prop:=dP (c:=e.ctorIdx=24) (λh=>Gf e h f) F
theorem Vk{P:bw->Prop}{e:bw}{f:au->Pos->Prop}(h:LC e f F)(Y:∀a b,f a b->P (.Expr a b))(W:F->P e):P e:=
 gS h (λq=>Gf (motive_2:=λe=>∀q,Gf e q f->P e) e q (λa b _=>Y a b) q) W
def KR(e:bw)(f:Pos->Prop)(F:Prop):Prop:=dP (c:=e.ctorIdx=27) (λh=>Fa e h f) F
theorem TQ{P:bw->Prop}{e:bw}{f:Pos->Prop}(h:KR e f F)(Y:∀a,f a->P (.Continue a))(W:F->P e):P e:=
 gS h (λq=>Fa (motive_2:=λe=>∀q,Fa e q f->P e) e q (λa _=>Y a) q) W
def LD(e:bw)(f:au->Option au->Pos->Prop)(F:Prop):Prop:=dP (c:=e.ctorIdx=19) (λh=>FH e h f) F
theorem Vl{P:bw->Prop}{e:bw}{f:au->Option au->Pos->Prop}(h:LD e f F)(Y:∀a b c,f a b c->P (.Assert a b c))(W:F->P e):P e:=
 gS h (λq=>FH (motive_2:=λe=>∀q,FH e q f->P e) e q (λa b c _=>Y a b c) q) W
def KU(st:bw)(bW:List bw)(k:Fl->ay->Prop):Prop:=
 LA st (λt b o _=>T ρ t λc=>cL c (S ρ b (kj S bW k)) (S ρ o (kj S bW k)))
  (KR st (λ_=>k .cont ρ) (LD st (λt _ _=>T ρ t λc=>c=ae/\S ρ bW k) (aO n sc ρ st (kj S bW k))))
def LF(b:List bw)(k:Fl->ay->Prop):Prop:=match b with
 |[]=>k .next ρ
 |st::bW=>Ly st (λts v p=>jp ts (λt=>KQ sc E ρ t v (λaC=>S aC bW k) λt v=>aO n sc ρ (fe [t] v p) (kj S bW k)) (aO n sc ρ (fe ts v p) (kj S bW k)))
  (LB st (λv p=>oP v (λe=>oP ((nameOf e).bind λx=>(ownAt ρ x).map (x,·)) (λq=>bP (ce q.1) (k (.ret (.lst q.2.2)) ((q.1,.dat (.lst q.2.2))::ρ)) False) (E ρ e λd=>k (.ret d) ρ)) (k (.ret .none) ρ))
   (LC st (λe p=>Lw E ρ e (λaC=>S aC bW k) λe=>aO n sc ρ (.Expr e p) (kj S bW k))
    (Lz st (λt op e p=>Mw sc E ρ t op e (λaC=>S aC bW k) λt op=>aO n sc ρ (.AugAssign t op e p) (kj S bW k)) (KU n sc T S ρ st bW k))))
def pS:Nat->SP
 |0=>λρ b k=>aL n sc ρ b k
 |f+1=>λρ b k=>LF n sc (kZ n sc 40).1 (kZ n sc 40).2 (pS f) ρ b k
end
section
variable {n:Nat} {sc:bf} {E:EP} {T:TP} {S:SP} (O:Ok n sc E T) (P:yU n sc S) {ρ:ay} {k:Fl->ay->Prop} {bW:List bw}
theorem B7(P:yU n sc S){fl:Fl}(h:kj S bW k fl ρ):pO n sc bW k fl ρ:=by
 induction fl<;>first|exact h|exact P.s h
theorem gq(P:yU n sc S){st:bw}(h:aO n sc ρ st (kj S bW k)):aL n sc ρ (st::bW) k:=.cons (h.mono λ_ _=>B7 P)
theorem CA{v:au}(h:r_ v=ae)(t:Option au)(l:Nat)(ab:Env):iA v t l ab=pure aH:=
 cT h (by cases v<;>first|exact Eq.refl (pure aH)|exact trivial)
theorem JY{v:au}(h:r_ v=ae)(ts:List au)(c:Nat)(p:Pos)(ab:Env):mQ [b7 ts c p] v ab=pure ak:=
 cT h (by cases v<;>first|exact Eq.refl (pure ak)|exact trivial)
theorem Bb{k k':ay->Prop}(V:∀ρ,k ρ->k' ρ):∀{ts:List au} {ds:List D} {ρ:ay},pNames sc ρ ts ds k->ds.length=ts.length/\kO n sc ρ ts ds k'
 |[],[],_,h=>⟨rfl,V _ h⟩
 |[],_::_,_,h=>h.elim
 |_::_,[],_,h=>h.elim
 |t::ts,d::ds,ρ,h=>dm h (λx e h=>eJ h (λm r=>
  ⟨aQ (·+1) (Bb V r).1,by
   refine(Ij e).elim λp Y=>?_;subst Y
   exact fK.name m (Bb V r).2⟩) dw) dw
theorem aj.acU{q:ag×List D}{o:Option Str}(h:(o.bind λx=>(ownAt ρ x).map (x,·))=aa (x,q)):o=aa x/\ρ.lookup x=aa (.own q.1 q.2):=by
 obtain⟨y,V,h⟩:=iq.mp h
 obtain⟨l,hl,h⟩:=kA.mp h
 obtain⟨rfl,rfl⟩:=wK h
 exact⟨V,Bz hl⟩
theorem KV{i:Int}(q:(ou ρ x).bind D.int?=aa i):ρ.lookup x=aa (.dat (.int i)):=by
 obtain⟨d,hd,h⟩:=iq.mp q
 exact D.kL h▸BA hd
include O in
theorem oh{k k':List Bd->Prop}(V:∀b,k b->k' b):∀{es:List au},vo E ρ es k->f8 n sc ρ es k'
 |[],h=>V _ h
 |e::r,h=>eJ h (λq h=>by
  obtain⟨p,rfl⟩:=I_ q
  exact cK.lst (l:=[]) rfl (ck _) (fR λa=>oh (λ_=>V _) (h a))) λh=>cK.dat ((O.e h).mono λd q=>oh (λ_=>V _) q)
include O P
theorem W6{es:List au}{tp ep:Pos}(h:Mu sc E ρ ts es (λaC=>S aC bW k) (aO n sc ρ (fe [b7 ts c tp] (b7 es c' ep) p) (kj S bW k))):aL n sc ρ (fe [b7 ts c tp] (b7 es c' ep) p::bW) k:=by
 refine dm h (λaI en h=>eJ h (λY h=>?_) (gq P)) (gq P)
 have q:=Y
 unfold B6 at q
 simp only[bB,decide_eq_true_eq] at q
 have a:=KP (F:=Dw sc (uE ts)) (λx p=>by
  show (bif (sc.names.lookup x==aa .local&&p.line==uE ts) then aa x else ak)=_
  cases (sc.names.lookup x==aa .local&&p.line==uE ts)<;>rfl) en
 refine eJ h (λV h=>.cons (aO.AL q.1 q.2.2.1 a.2.2 q.2.2.2.2 q.2.2.2.1 (λ_=>rfl) (λab W Z=>BC W Z en Y V) (oh O (λ_ r=>P.s r) h))) λh=>eJ h (λV h=>.cons (aO.rA a.2.1 q.1 q.2.2.1 a.2.2 q.2.2.2.1 (λ_=>rfl) (λab _ _=>?_) (oh O (λ_ r=>P.s r) h))) (gq P)
 rcases(ww _ _).mp V with r|r
 ·exact Vf r
 ·exact I9 (not_of r)
theorem TR{t v:au}(h:KQ sc E ρ t v (λaC=>S aC bW k) λt v=>aO n sc ρ (fe [t] v p) (kj S bW k)):aL n sc ρ (fe [t] v p::bW) k:=
 rJ (P:=λt=>aL n sc ρ (fe [t] v p::bW) k) h (λx np h=>eJ h (λq h=>eJ h (λm Y=>by
  refine(I_ q).elim λW V=>?_;subst V
  exact .cons (aO.uo m (CA rfl _ _) (cK.lst (l:=[]) rfl (lB tT) (fR λa=>P.s (Y a))))) (gq P)) λh=>eJ h (λm h=>
  have m:=(bB _ _).mp m
  .cons (aO.assign m.2 (CA m.1 _ _) ((O.e h).mono λd q=>P.s q))) (gq P)) λh=>
 By (P:=λt=>aL n sc ρ (fe [t] v p::bW) k) h (λts c tp h=>By (P:=λv=>aL n sc ρ (fe [b7 ts c tp] v p::bW) k) h (λes c' ep h=>W6 O P h) λh=>eJ h (λm h=>
  have q:=(bB _ _).mp m
  .cons (aO.HS (λab=>CA q.1 (aa (b7 ts c tp)) p.line ab) (λab _ _=>JY q.1 _ _ _ ab) ((O.e h).mono λd r=>dm r (λds e r=>D.KJ e▸
   have u:=Bb (n:=n) (k':=λaC=>pO n sc bW k .next aC) (λ_ r=>P.s r) r
   fK.tup q.2 u.1 u.2) dw))) (gq P)) (gq P)
theorem W7{t:au}(h:Mw sc E ρ t op e (λaC=>S aC bW k) λt op=>aO n sc ρ (.AugAssign t op e p) (kj S bW k)):aL n sc ρ (.AugAssign t op e p::bW) k:=
 rJ (P:=λt=>aL n sc ρ (.AugAssign t op e p::bW) k) h (λx np h=>eJ h (λm h=>
  have m:=(bB _ _).mp m
  W5 (P:=λop=>aL n sc ρ (.AugAssign (aS x np) op e p::bW) k) h
   (λh=>dm h (λi V h=>.cons (aO.Yo (KV V) m.1 m.2 ((O.e h).mono λd q=>dm q (λj e q=>⟨j,D.kL e,P.s q⟩) dw))) (gq P))
   (λh=>dm h (λi V h=>.cons (aO.Yp (KV V) m.1 m.2 ((O.e h).mono λd q=>dm q (λj e q=>⟨j,D.kL e,P.s q⟩) dw))) (gq P))
   (gq P)) (gq P)) (gq P)
theorem Vm(h:Lw E ρ e (λaC=>S aC bW k) λe=>aO n sc ρ (.Expr e p) (kj S bW k)):aL n sc ρ (.Expr e p::bW) k:=
 Ba (P:=λe=>aL n sc ρ (.Expr e p::bW) k) h (λf args V cp h=>Ih (P:=λf=>aL n sc ρ (.Expr (bU f args V cp) p::bW) k) h (λo m ap h=>
  rJ (P:=λo=>aL n sc ρ (.Expr (bU (cC o m ap) args V cp) p::bW) k) h (λx np h=>JU (P:=λV=>aL n sc ρ (.Expr (bU (cC (aS x np) m ap) args V cp) p::bW) k) h (λh=>
   jL (P:=λargs=>aL n sc ρ (.Expr (bU (cC (aS x np) m ap) args [] cp) p::bW) k) h (λa h=>dm h (λq H h=>eJ h (λb G=>by
    have Y:=(bB _ _).mp b
    have W:=(bB _ _).mp Y.2
    have Z:=(bB _ _).mp W.2
    obtain rfl:=eq_of_beq W.1
    exact .cons (aO.xt (m:=cM.append) (Bz H) Y.1 ((bB _ _).mpr ⟨Z.1,rfl⟩) (λab=>mU rfl _ _ _) ⟨(lT tT:1<30),Z.2⟩ (λab=>rfl)
     (ia ((O.e G).mono λd r=>fR ⟨_,kP.append r.1,P.s r.2⟩)))) (gq P)) (gq P)) (gq P)) (gq P)) (gq P)) (gq P)) (gq P)
theorem TS{st:bw}(h:KU n sc T S ρ st bW k):aL n sc ρ (st::bW) k:=
 Vi (P:=λst=>aL n sc ρ (st::bW) k) h (λt b o p h=>.cons (aO.iff ((O.t h).mono λc q=>q.ite (λq=>(P.s q).mono λ_ _=>B7 P) (λq=>(P.s q).mono λ_ _=>B7 P)))) λh=>
 TQ (P:=λst=>aL n sc ρ (st::bW) k) h (λp h=>.cons (aO.cont h)) λh=>
 Vl (P:=λst=>aL n sc ρ (st::bW) k) h (λt m p h=>.cons (aO.assert ((O.t h).mono λc q=>⟨q.1,P.s q.2⟩))) (gq P)
theorem Vo{b:List bw}(h:LF n sc E T S ρ b k):aL n sc ρ b k:=by
 induction b with
 |nil=>exact aL.nil h
 |cons st bW=>
  exact Vg (P:=λst=>aL n sc ρ (st::bW) k) h (λts v p h=>jL (P:=λts=>aL n sc ρ (fe ts v p::bW) k) h (λt h=>TR O P h) (gq P)) λh=>
   Vj (P:=λst=>aL n sc ρ (st::bW) k) h (λv p h=>by
    induction v with
    |none=>exact .cons (aO.Wt h)
    |some e=>
     have h:oP ((nameOf e).bind _) _ _:=h
     refine dm h (λq V h=>eJ h (λm Y=>?_) dw) λh=>.cons (aO.ret (O.e h))
     have r:=aj.acU V
     obtain⟨np,rfl⟩:=Ij r.1
     exact .cons (aO.Yq r.2 m Y)) λh=>
   Vk (P:=λst=>aL n sc ρ (st::bW) k) h (λe p h=>Vm O P h) λh=>
   Vh (P:=λst=>aL n sc ρ (st::bW) k) h (λt op e p h=>W7 O P h) (TS O P)
end
theorem LG:∀f,yU n sc (pS n sc f)
 |0=>⟨λh=>h⟩
 |f+1=>⟨Vo (dF 40) (LG f)⟩
theorem cw(f:Nat){b:List bw}{k:Fl->ay->Prop}(h:pS n sc f ρ b k):aL n sc ρ b k:=(LG f).s h
theorem bD(h:(kZ n sc 40).1 ρ e k):aj n sc ρ e k:=(dF 40).e h
theorem b_{k:Bool->Prop}(h:(kZ n sc 40).2 ρ e k):bH n sc ρ e k:=(dF 40).t h
def fp(i:Nat):iz:=match tp i with
 |some (.FunctionDef _ a _ _ _ _ _ _ _ _)=>a
 |_=>⟨[],[],ak,[],[],ak,[]⟩
def fb(i:Nat):List bw:=match tp i with
 |some (.FunctionDef _ _ b _ _ _ _ _ _ _)=>b
 |_=>[]
def fs(i:Nat):bf:=match tp i with
 |some (.FunctionDef _ _ _ _ _ _ s _ _ _)=>s
 |_=>{kind:=.module,names:=[],isGenerator:=aH,isCoroutine:=aH}
structure FnAt(fa i:Nat)(nm:Str)(aI:List Str):Prop where
 def_:si fa nm nm (fp i) (fb i) (fs i)
 binds:∀doc pm bA ct an (s:av) vs,vs.length=aI.length->fQ s (gr nm nm (fp i) (fb i) (fs i) .none .none doc pm bA ct an) ⟨vs,[]⟩ (aI.zip vs)
 ok:(g6 aI (fs i) []&&((fs i).names.all (λx=>!(x.2==.free))&&(d5 (fs i)).isNone))=ae
 nm:aI=(fp i).args.map (·.arg)
theorem bJ.of{fa:Nat}(F:FnAt fa i nm aI){ds:List D}(hl:aI.length=ds.length)(h:pS n (fs i) 300 (bindR aI (ds.map Bd.dat)) (fb i) (fM k)):bJ (n+2) fa ds k:=
 have q:=(bB _ _).mp F.ok
 have V:=(bB _ _).mp q.2
 bJ.intro F.def_ F.nm (λdoc pm bA ct an s vs e=>F.binds doc pm bA ct an s vs (e.trans hl.symm)) q.1 hl V.1 V.2 (cw _ h)
theorem aaa:FnAt 269 24 "_law_over" ["one","other","column"]:=⟨⟨λw=>⟨_,_,_,_,_,rfl,_,_,_,_,rfl,rfl,rfl,rfl⟩⟩,λ_ _ _ _ _ _ vs h=>pH (λ_ _ _=>by rfl) vs h,by rfl,by rfl⟩
theorem aab:FnAt 276 25 "_law_apart" ["one","other"]:=⟨⟨λw=>⟨_,_,_,_,_,rfl,_,_,_,_,rfl,rfl,rfl,rfl⟩⟩,λ_ _ _ _ _ _ vs h=>jf (λ_ _=>by rfl) vs h,by rfl,by rfl⟩
theorem qg:FnAt 87 12 "int_divmod" ["a","b"]:=⟨⟨λw=>⟨_,_,_,_,_,rfl,_,_,_,_,rfl,rfl,rfl,rfl⟩⟩,λ_ _ _ _ _ _ vs h=>jf (λ_ _=>by rfl) vs h,by rfl,by rfl⟩
theorem dz.acV{I:ag}{t:au}{af:List D}{fp V:List ag}{K:dp->Prop}(W:dz w A g I t af fp wr J)(G:∀h h',K h->(∀b∈V,∀o,h.get? b=aa o->h'.get? b=aa o)->K h')(hd:∀b∈wr,b∉V):
 dz w A g I t af (fp++V) wr (λi h=>J i h/\K h) where
 sub:=λb C=>cQ.mpr (.inl (W.sub b C))
 frame:=λi h h' ⟨a,b⟩ Y=>⟨W.frame i h h' a λc Z=>Y c (cQ.mpr (.inl Z)),G h h' b λc Z=>Y c (cQ.mpr (.inr Z))⟩
 nc:=λi h ⟨a,_⟩=>W.nc i h a
 item:=λi d s Q E hi ⟨a,b⟩ H=>W.item i d s Q E hi a λv h' tk B f Y=>H v h' tk B ⟨f,G _ _ b λc Z o e=>Y c o (λq=>hd c q Z) e⟩ Y
 done:=λs Q E ⟨a,_⟩ H=>W.done s Q E a H
 self:=λi s Q E ⟨a,_⟩ H=>W.self i s Q E a H
section
variable {n:Nat} {sc:bf} {ρ:ay}
def Inner(n:Nat)(aF:bf)(Z W co:au)(Y:List au)(F:List D->D->List D)(d:D)(aC:ay):Prop:=
 bK n aF aC Z W λaf=>∃f:D->Option D,af.length<=100/\(∀a∈af,c0 n aF aC Z a λV=>eH V/\Sub aC V/\fN n aF V Y λb=>if b then aj n aF V co (λy=>f a=aa y) else f a=ak)/\∀l,F l d=l++af.filterMap f
theorem Ik(f:D->Option D):∀(Y l:List D),Y.foldl (λl d=>l++(f d).toList) l=l++Y.filterMap f:=by
 intro W
 induction W with
 |nil=>
  intro l
  exact(cR l).symm
 |cons d r V=>
  intro l
  rw[iw,V,nF]
  cases f d<;>simp
theorem YJ{t1 sT t2 V:au}{B Z:List au}(hs:∀ab x,ir V ab x=pure x):kN 900 (.ListComp co [⟨t1,sT,B,0⟩,⟨t2,V,Z,0⟩] oF aM) t1 sT B (newList []) (pZ w) w n aF (Inner n aF t2 V co Z)
 (λD ab=>do
  let x <-eval V ab
  standAt V.pos
  let x <-ir V ab x
  let _ <-runOwn (.compStart (.ListComp co [⟨t1,sT,B,0⟩,⟨t2,V,Z,0⟩] oF aM) 1 (<-holding [x] (pyIter x)) D ab) ab
  pure ()) where
 ok:=rF
 cls:=⟨_,rfl⟩
 Mb:=λ_ _ _=>rfl
 Ks:=λ_ _ _ _=>rfl
 turn:=λit D ab=>by
  refine aQ (bind (standAt sT.pos)) (funext λ_=>aQ (bind (pyNext it)) (funext λr=>?_))
  induction r with
  |none=>rfl
  |some v=>
   refine aQ (bind (wu t1 it v)) (funext λ_=>aQ (bind (Ap t1 ab v)) (funext λ_=>aQ (bind _) (funext λok=>?_)))
   cases ok with
   |false=>rfl
   |true=>simp only[if_true,bind_assoc,pure_bind];rfl
 den:=λ_ _ _=>rfl
 under:=λ_ _ _ _=>rfl
 make:=(CM (n:=n) (co:=co) (bp:=t1) (iter:=sT) (bV:=B) (aF:=aF) (oF:=oF) (aM:=aM) (w:=w)).make
 add:=λF d aC D A cenv sa ga fp wr wc J i l s g g0 I t af E hP hd R Fx W hex C hT hl=>by
  obtain⟨aB,H⟩:=C.act
  refine aJ (bg (hP.run w A cenv s g H.st R H.cI E) (λx aA iZ=>jd (rT (hs _ _) (aJ (eM (er iZ (λit aT P=>?_) λ_ _ x=>x))))))
  refine ba λN_=>?_
  obtain⟨I2,D0,sU,J2,K7,bb,rfl,lz,gf,W2,D1,vp,Mx,hlen2,f,hl2,hf,hF⟩:=P
  apply N_
  have C2:=C.pure (rF (w:=w)) Fx W lz gf
  have off:∀{a:ag} {o:Obj},s.heap.get? a=aa o->bb a=ak->a∉D0:=λ{a o} e1 e2 q=>by
   rcases(Mx a q).2.2 with q|⟨o',q⟩
   ·exact nomatch e1.symm.trans (vp a q).1
   ·exact nomatch e2.symm.trans q
  refine H.gE.elim λmL sN=>?_
  refine ba λN_=>?_
  obtain⟨oL,_,_,eL,_⟩:=id sN
  obtain⟨oD,eD,_⟩:=C.acc
  apply N_
  have cl:∀x c,cenv.cells.lookup x=aa c->(∃o,s.heap.get? c=aa o)/\c∉D0:=λx c hc=>by
   refine(H.cP x c hc).elim λh1 Dm=>Dm.elim λacW _=>acW.elim λv acX=>acX.elim λo acY=>acY.elim λe d=>?_
   exact⟨⟨o,e⟩,off e (lz.old _ _ e h1 nofun)⟩
  have C7:∀b∈sU,b∉fp:=λb Y q=>by
   obtain⟨o,e⟩:=hex _ _ C.it b q
   exact nomatch e.symm.trans (vp b Y).1
  have qk:∀a,s.heap.get? a=ak->sa.heap.get? a=ak:=λa e=>by
   induction q:sa.heap.get? a with
   |none=>rfl
   |some o=>obtain⟨o',e'⟩:=H.nx.there a o q nofun;exact nomatch e.symm.trans e'
  have oZ:n6 sa cenv aF D (D0++fp) sU (sU++wc):=by
   refine⟨Fx.Dn,Fx.DL,Fx.DC,λq=>?_,λb Y=>qk b (vp b Y).1,λq=>?_,λx c hc hk q=>?_,λx c hc q=>?_,λb Y=>?_,λb Y=>cQ.mpr (.inl Y),λb Y=>cQ.mpr ((cQ.mp Y).imp (W2.sub b) (Fx.s2 b))⟩
   ·exact(cQ.mp q).elim (off eD C2.off) Fx.Df
   ·exact(cQ.mp q).elim (off eL (lz.old _ _ eL H.ik nofun)) Fx.fL
   ·exact(cQ.mp q).elim (cl x c hc).2 (Fx.fC x c hc hk)
   ·obtain⟨⟨o,e⟩,_⟩:=cl x c hc
    exact nomatch e.symm.trans (vp c q).1
   ·exact(cQ.mp Y).elim (λq=>(Mx b q).1) (Fx.fT b)
  have W3:=W2.acV (K:=λh=>J i h) (W.frame i) C7
  have vf:∀R':ux->av->Prop,(∀s' g',d9 w sa ga cenv aF aC D g0 wc J (pZ w) i (F l d) s' g'->R' (.ok .next) s')->codeAny (model PG w) A (jI (.ListComp co [⟨t1,sT,B,0⟩,⟨t2,V,Z,0⟩] oF aM) 1 (.ref I2) (.ref D) cenv) R' aT:=λR' hR'=>by
   refine HV (N:=10000) (lv:=1) (t:=t2) (iter:=V) (bV:=Z) (F:=λl d=>l++(f d).toList) (T:=λd D3=>aj n aF D3 co λy=>f d=aa y) (l0:=l) rfl rfl rfl (rF (w:=w)) oZ W3 hd R (⟨C2.act,⟨D1,C2.it⟩,C2.acc,C2.off,λ_ _ e=>e,λb Y=>(cQ.mp Y).elim (λq=>⟨(vp b q).2,(W2.nc _ _ D1 b q).elim λo q_=>q_.elim λe _=>⟨o,e⟩⟩) (C2.wn b)⟩:d9 w sa ga cenv aF aC D bb (sU++wc) (λk h=>J2 k h/\J i h) (pZ w) 0 l aT bb) (λj=>?_) (λa ha=>c0.mono (hf a ha) λD3 ⟨h1,h2,h3⟩=>⟨h1,h2,fN.mono h3 λb Y=>?_⟩) (λj a D3 l' s' g' E' ha hT o3 lJ G=>?_) λs' g' j G h' tk jW=>?_
   ·rw[Ik,bR]
    exact aD (fW hl (aD (vL f _) (aD (OW ..) hl2))) (lB tT)
   ·induction b with
    |true=>exact Y
    |false=>
     intro l';rw[(Y:f a=ak)];exact cR l'
   ·refine ba λN_=>?_
    obtain⟨o,e1,ys,nn,eo,hr⟩:=G.acc
    subst eo
    apply N_
    refine aJ (bg (hT.run w A cenv s' g' G.st R G.cI E') (λx oV ⟨m7,y,lA,m6,Dp,hy⟩=>?_))
    have hs:ys.size=l'.length:=by have:=hr.1;exact this
    refine aJ (zo (items:=ys) ⟨nn,lA.get G.st e1 (.inl (by simp)) nofun⟩ (λh' ⟨n',hp⟩ hs'=>a8 ⟨m7,(G.pure (rF (w:=w)) oZ W3 lA m6).stored (tk:=oV.toks) (rF (w:=w)) oZ W3 o3 (λb Y=>hs'.2 b Y) hp ⟨_,_,rfl,?_⟩⟩) (by rw[hs];have:sizeLine=2^24:=rfl;exact bd (aV lJ (lT tT))))
    rw[hy,tr]
    exact(hr.mono lA.gg).append (aP.cons Dp aP.nil)
   ·obtain⟨dX,H'⟩:=G.act
    refine G.acc.elim λNa acZ=>acZ.elim λeD' aD'=>?_
    refine hR' _ g' ⟨⟨dX,H'.rV (wr:=sU) jW (λa ha=>⟨.inl (oZ.wn a ha),(G.wn a (oZ.s1 a ha)).1,W2.nc j _ G.it.1 a ha⟩) (λq=>oZ.fL (cQ.mpr (.inl (W2.sub _ q)))) oZ.wC λx b e a ha=>?_⟩,W.frame i _ _ G.it.2 λb Y o e=>jW b o (λq=>C7 b q Y) e,⟨Na,jW D Na (λq=>oZ.Df (cQ.mpr (.inl (W2.sub D q))):D∉sU) eD',?_⟩,G.off,λa o e=>G.up a o (lz.gg a o (C.up a o e)),λb Y=>?_⟩
    ·rw[(hd.aB H' x b e).2.2] at ha;exact nomatch ha
    ·rw[hF l,<-Ik];exact aD'
    ·obtain⟨q,o,e⟩:=G.wn b (cQ.mpr (.inr Y))
     exact⟨q,o,jW b o (λq'=>C7 b q' (Fx.s2 b Y)) e⟩
  refine aJ (wpAny_runOwn (env:=cenv) ?_)
  rw[mark_none]
  exact Fb (g:=⟨t2,V,Z,0⟩) rfl rfl rfl rfl (vf _ λs' g' G=>a8 ⟨g',G⟩) (W2.self 0 aT _ _ D1 (vf _ λs' g' G=>a8 ⟨g',G⟩))
theorem aj.TU{B Z t2 H:au}{Y W:List au}(nt:dD aF sc=ae)(sX:∀ab x,ir Z ab x=pure x)(D_:∀ab x,ir H ab x=pure x)
 (h:bK n sc ρ B Z λaf=>af.length<=9/\∃f:D->List D,(∀d∈af,(f d).length<=100/\c0 n aF (cZ aF ρ) B d λaC=>eH aC/\Sub (cZ aF ρ) aC/\fN n aF aC Y λb=>if b then Inner n aF t2 H co W (λl d=>l++f d) d aC else f d=[])/\k (.lst (af.flatMap f))):
 aj n sc ρ (.ListComp co [⟨B,Z,Y,0⟩,⟨t2,H,W,0⟩] aF aM) k:=by
 refine aj.CN (λw=>YJ D_) (λab=>QR ..) nt sX (kl:=λl=>k (.lst l)) (gx.mono (bK.cc h) λaf ⟨hl,f,hf,hk⟩=>⟨λl d=>l++f d,λi=>?_,λd hd=>c0.mono (hf d hd).2 λaC ⟨C,h2,h3⟩=>⟨C,h2,fN.mono h3 λb hb=>?_⟩,?_⟩) λw g D o l gD _ ha hk=>⟨_,ha.rep gD,hk⟩
 ·have G:∀(V l:List D),(∀d∈V,(f d).length<=100)->(V.foldl (λl d=>l++f d) l).length<=l.length+100*V.length:=λV=>by
   induction V with
   |nil=>intro l _;exact bv _
   |cons d r ih=>
    intro l h
    have C:=ih (l++f d) λd hd=>h d (bM _ hd)
    have h2:=h d bi
    rw[bR] at C
    simp only[iw,gj];exact X4 (by assumption) (by assumption)
  have C:=G (af.take i) [] λd hd=>(hf d (mF hd)).1
  simp only[gJ,wv] at C
  omega
 ·induction b with
  |true=>exact hb
  |false=>
   intro l;show l++f d=l;rw[(hb:f d=[])];exact cR l
 ·have G:∀(V l:List D),V.foldl (λl d=>l++f d) l=l++V.flatMap f:=λV=>by
   induction V with
   |nil=>intro l;exact(cR l).symm
   |cons d r ih=>intro l;simp only[iw,ih,Fq,c6]
  rw[G];exact hk
end
def Inj{α:Type}(c:α->D):Prop:=∀x y,c x=c y->x=y
theorem Inj.int:Inj D.int:=λ_ _ h=>by injection h
theorem Inj.str:Inj D.str:=λ_ _ h=>by injection h
noncomputable def oM{α:Type}(c:α->D)(f:α->Option D)(d:D):Option D:=open Classical in if h:∃x,c x=d then f (PZ h) else .none
theorem r7{c:α->D}(V:Inj c){f:α->Option D}(x:α):oM c f (c x)=f x:=by
 have h:∃y,c y=c x:=⟨x,rfl⟩
 exact(dif_pos h).trans (aQ f (V _ _ (OI h)))
section
variable {n:Nat} {sc:bf} {ρ:ay} {k:D->Prop}
theorem rP:eH ((x,.dat d)::cZ aF ρ):=eH.cap.cons
theorem uj(h:(ρ.lookup x).isNone=ae):Sub ρ ((x,.dat d)::ρ):=λy b e=>by
 by_cases q:y=x
 ·subst q;replace h:=e▸h;exact ft h
 ·exact(fj q).trans e
def jP(aF:bf)(ρ:ay)(x:Str):Bool:=mine aF x&&((cZ aF ρ).lookup x).isNone
def YK(aF sc:bf)(ρ:ay)(x:Str):Bool:=dD aF sc&&jP aF ρ x
theorem dj.of{c:α->D}(V:Inj c){r:α->ay}{t:au}(Y:∀a (k:ay->Prop),k (r a)->c0 n aF (cZ aF ρ) t (c a) k)(hd:∀a,eH (r a)/\Sub (cZ aF ρ) (r a))
 (h:bK n sc ρ t iter λaf=>∃(xs:List α) (g:α->Option D),af=xs.map c/\(∀a∈xs,fN n aF (r a) bV λb=>if b then aj n aF (r a) co (λy=>g a=aa y) else g a=ak)/\k (.lst (xs.filterMap g))):dj n sc ρ aF t iter co bV k:=
 h.mono λaf W=>by obtain⟨xs,g,e,Z,H⟩:=W;exact⟨oM c g,λd G=>by
  subst e
  obtain⟨a,C,rfl⟩:=bL.mp G
  rw[r7 V]
  exact Y a _ ⟨(hd a).1,(hd a).2,Z a C⟩,by
  simp only[e,zK,show (oM c g∘c)=g from funext λa=>r7 V a];exact H⟩
def vq(n:Nat)(aF:bf)(ρ:ay)(t co:au)(b:Bool)(f:D):Prop:=bH n aF ρ t λq=>q=b/\(b=ae->aj n aF ρ co λy=>y=f)
theorem vq.all{t:au}{b:Bool}{f:D}(h:vq n aF ρ t co b f):fN n aF ρ [t] λq=>if q then aj n aF ρ co (λy=>(if b=ae then aa f else aU)=aa y) else (if b=ae then aa f else aU)=aU:=
 bH.mono h λq V=>by
  obtain⟨e,h⟩:=V
  subst e
  induction q with
  |true=>exact(h rfl).mono λy e=>e▸rfl
  |false=>exact rfl
theorem yz(b:α->Bool)(f:α->D):∀xs:List α,xs.filterMap (λa=>if b a=ae then aa (f a) else aU)=(xs.filter b).map f
 |[]=>rfl
 |a::r=>by cases V:b a<;>simp[V,yz b f r]
section
variable {α:Type} {c c1 c2:α->D} {co iter t:au} {x y:Str} {p p1 p2:Pos} {m:Nat} {aF:bf}
theorem ms(V:jP aF ρ x=ae)(a:D):(∀k:ay->Prop,k ((x,.dat a)::cZ aF ρ)->c0 n aF (cZ aF ρ) (aS x p) a k)/\eH ((x,.dat a)::cZ aF ρ)/\Sub (cZ aF ρ) ((x,.dat a)::cZ aF ρ):=
 have q:=(bB _ _).mp V;⟨λk h=>.name q.1 h,rP,uj q.2⟩
theorem sJ(Z:(jP aF ρ x&&(jP aF ρ y&&!(y==x)))=ae)(a b:D):(∀k:ay->Prop,k ((y,.dat b)::(x,.dat a)::cZ aF ρ)->c0 n aF (cZ aF ρ) (b7 [aS x p1,aS y p2] m p) (.tup [a,b]) k)/\eH ((y,.dat b)::(x,.dat a)::cZ aF ρ)/\Sub (cZ aF ρ) ((y,.dat b)::(x,.dat a)::cZ aF ρ):=
 have q:=(bB _ _).mp Z
 have V:=(bB _ _).mp q.1
 have Y:=(bB _ _).mp q.2
 have W:=(bB _ _).mp Y.1
 ⟨λk h=>.tup rfl rfl (jG (.name V.1 (jG (.name W.1 (pI h))))),rP.cons,(uj V.2).trans (uj (by
  rw[fj (λe=>by have:=Y.2;rw[e,beq_self_eq_true] at this;exact ft this)];exact W.2))⟩
inductive Nb(c:α->D)(E:α->(D->Prop)->Prop)(k:D->Prop)(af:List D):Prop
 |mk (xs:List α) (f:α->D) (e:af=xs.map c) (h:∀a∈xs,E a λy=>y=f a) (hk:k (.lst (xs.map f)))
inductive Nc(c:α->D)(E:α->Bool->D->Prop)(k:D->Prop)(af:List D):Prop
 |mk (xs:List α) (b:α->Bool) (f:α->D) (e:af=xs.map c) (h:∀a∈xs,E a (b a) (f a)) (hk:k (.lst ((xs.filter b).map f)))
theorem dj.mx(Y:Inj c)(V:jP aF ρ x=ae)(h:bK n sc ρ (aS x p) iter (Nb c (λa=>aj n aF ((x,.dat (c a))::cZ aF ρ) co) k)):dj n sc ρ aF (aS x p) iter co [] k:=
 .of Y (λa k=>(ms V (c a)).1 k) (λa=>(ms (n:=n) (p:=p) V (c a)).2) (h.mono λaf W=>by obtain⟨xs,f,e,Z,H⟩:=W;exact⟨xs,aa∘f,e,λa G=>(Z a G).mono λy e=>e▸rfl,OJ▸H⟩)
theorem dj.fx(Y:Inj c)(V:jP aF ρ x=ae)(h:bK n sc ρ (aS x p) iter (Nc c (λa=>vq n aF ((x,.dat (c a))::cZ aF ρ) t co) k)):dj n sc ρ aF (aS x p) iter co [t] k:=
 .of Y (λa k=>(ms V (c a)).1 k) (λa=>(ms (n:=n) (p:=p) V (c a)).2) (h.mono λaf W=>by obtain⟨xs,b,f,e,Z,H⟩:=W;exact⟨xs,_,e,λa G=>(Z a G).all,by rw[yz];exact H⟩)
theorem dj.mt(Y:Inj λa=>D.tup [c1 a,c2 a])(V:(jP aF ρ x&&(jP aF ρ y&&!(y==x)))=ae)(h:bK n sc ρ (b7 [aS x p1,aS y p2] m p) iter (Nb (λa=>D.tup [c1 a,c2 a]) (λa=>aj n aF ((y,.dat (c2 a))::(x,.dat (c1 a))::cZ aF ρ) co) k)):dj n sc ρ aF (b7 [aS x p1,aS y p2] m p) iter co [] k:=
 .of Y (λa k=>(sJ V (c1 a) (c2 a)).1 k) (λa=>(sJ (n:=n) (p:=p) (p1:=p1) (p2:=p2) (m:=m) V (c1 a) (c2 a)).2) (h.mono λaf W=>by obtain⟨xs,f,e,Z,H⟩:=W;exact⟨xs,aa∘f,e,λa G=>(Z a G).mono λy e=>e▸rfl,OJ▸H⟩)
theorem dj.ft(Y:Inj λa=>D.tup [c1 a,c2 a])(V:(jP aF ρ x&&(jP aF ρ y&&!(y==x)))=ae)(h:bK n sc ρ (b7 [aS x p1,aS y p2] m p) iter (Nc (λa=>D.tup [c1 a,c2 a]) (λa=>vq n aF ((y,.dat (c2 a))::(x,.dat (c1 a))::cZ aF ρ) t co) k)):dj n sc ρ aF (b7 [aS x p1,aS y p2] m p) iter co [t] k:=
 .of Y (λa k=>(sJ V (c1 a) (c2 a)).1 k) (λa=>(sJ (n:=n) (p:=p) (p1:=p1) (p2:=p2) (m:=m) V (c1 a) (c2 a)).2) (h.mono λaf W=>by obtain⟨xs,b,f,e,Z,H⟩:=W;exact⟨xs,_,e,λa G=>(Z a G).all,by rw[yz];exact H⟩)
end
theorem aj.comp{bp:au}(V:dD aF sc=ae)(hs:∀ab x,ir iter ab x=pure x)(h:dj n sc ρ aF bp iter co bV k):aj n sc ρ (.ListComp co [⟨bp,iter,bV,0⟩] aF aM) k:=.Uz V hs h
theorem bK.chars{t:au}{k:List D->Prop}(h:aj n sc ρ e λd=>∃x:Str,d=.str x/\x.length<=10000/\k ((chars x).map D.str)):bK n sc ρ t e k:=bK.str (h.mono λd V=>by obtain⟨x,e,hl,Y⟩:=V;exact⟨x,e,hl,by
 have:(x.cps.toList.map λc=>D.str ⟨#[c]⟩)=(Mine.Internal.chars x).map D.str:=by unfold Mine.Internal.chars;rw[cJ];rfl
 rw[this];exact Y⟩)
theorem xg(c:β->D):∀(l:List β),jl (l.map c)=l.zipIdx.map λp=>.tup [.int p.2,c p.1]:=λl=>by
 unfold jl
 simp only[List.zipIdx_map,cJ];rfl
theorem aj.SD{c:α->D}(B:Inj c)(Z:sc.names.lookup (a6 "sorted")=aa cj)(hx:YK aF sc ρ x=ae)(hs:∀ab v,ir iter ab v=pure v)
 (h:bK n sc ρ (aS x p) iter λaf=>∃(xs:List α) (f:α->Str),af=xs.map c/\xs.length<60/\(∀a∈xs,aj n aF ((x,.dat (c a))::cZ aF ρ) co λy=>y=.str (f a))/\∀ys:List Str,ys.Nodup->sortedS ys=ae->(∀y,y∈ys<->∃a∈xs,f a=y)->k (.lst (ys.map D.str))):
 aj n sc ρ (bU (aS (a6 "sorted") np) [.SetComp co [⟨aS x p,iter,[],0⟩] aF e6] [] aM) k:=by
 have q:=(bB _ _).mp hx
 refine aj.Ig Z rfl (qa.comp q.1 hs (gx.mono (bK.cc h) λaf ⟨xs,f,e,hl,hf,hk⟩=>⟨?_,λl d=>dH l (((oM c (λa=>aa (.str (f a))) d).bind D.f_).getD ""),λl d=>Bu _ _,λd hd=>?_,?_⟩))
 ·subst e;rw[aR];exact bd (eO hl (by simp))
 ·subst e
  obtain⟨a,ha,rfl⟩:=bL.mp hd
  exact(ms q.2 (c a)).1 _ ⟨(ms (n:=n) (p:=p) q.2 (c a)).2.1,(ms (n:=n) (p:=p) q.2 (c a)).2.2,(hf a ha).mono λy e=>⟨f a,e,λl=>by
   show dH l (((oM c (λa=>aa (D.str (f a))) (c a)).bind D.f_).getD "")=_
   rw[r7 B];rfl⟩⟩
 ·subst e
  have e1:∀(xs:List α) (l:List Str),(xs.map c).foldl (λl d=>dH l (((oM c (λa=>aa (.str (f a))) d).bind D.f_).getD "")) l=xs.foldl (λl a=>dH l (f a)) l:=λxs=>by
   induction xs with
   |nil=>intro l;rfl
   |cons a r V=>intro l;simp only[d8,iw,iw,r7 B];exact V _
  have e2:∀(xs:List α) (l:List Str),l.Nodup->(xs.foldl (λl a=>dH l (f a)) l).Nodup/\(∀y,y∈xs.foldl (λl a=>dH l (f a)) l<->y∈l\/∃a∈xs,f a=y)/\(xs.foldl (λl a=>dH l (f a)) l).length<=l.length+xs.length:=λxs=>by
   induction xs with
   |nil=>intro l h;exact⟨h,λy=>by simp,bv _⟩
   |cons a r V=>
    intro l h
    have Z:=(V (dH l (f a)) (rY h)).1;have G:=(V (dH l (f a)) (rY h)).2.1;have h3:=(V (dH l (f a)) (rY h)).2.2
    refine⟨Z,λy=>?_,?_⟩
    ·rw[iw,G,I3]
     constructor
     ·rintro((q|q)|⟨b,Y,H⟩)
      ·exact .inl q
      ·exact .inr ⟨a,bi,q.symm⟩
      ·exact .inr ⟨b,bM _ Y,H⟩
     ·rintro(q|⟨b,Y,H⟩)
      ·exact .inl (.inl q)
      ·rcases bT.mp Y with rfl|Y
       ·exact .inl (.inr H.symm)
       ·exact .inr ⟨b,Y,H⟩
    ·have:=Bu l (f a)
     exact BP (by assumption) (by assumption)
  rw[e1]
  refine(e2 xs [] jZ).elim λZ C=>C.elim λG h3=>?_
  refine⟨by simp only[wv] at h3;exact abL (by assumption) (by assumption),λys hp hn W=>hk ys hn W λy=>?_⟩
  rw[hp.mem_iff,G];simp
end
theorem x3{a b:D}{c:Bool}{k:Bool->Prop}(h:gF a b=aa c)(V:k c):sI n .Lt a b k:=by
 show iV a b (λi j=>k (decide (i<j))) (bq n .Lt a b k)
 unfold iV
 induction Y:a.int? with
 |none=>exact bq.gF h V
 |some i=>
  show oP b.int? _ _
  induction W:b.int? with
  |none=>exact bq.gF h V
  |some j=>
   obtain rfl:=D.kL Y;obtain rfl:=D.kL W
   have h:aa (decide (i<j))=aa c:=h
   show k (decide (i<j))
   rw[aW h];exact V
theorem LH{f:Nat}(h:ou ρ x=aa d)(V:ce x=ae)(Y:k d):(kZ n sc (f+1)).1 ρ (aS x p) k:=by
 show oP (ou ρ x) (λd=>bP (ce x) (k d) False) (aj n sc ρ (aS x p) k)
 exact h▸(bP.t V Y)
section
variable {n:Nat} {sc:bf} {ρ:ay} {t:au} {b o r:List bw} {aM:Pos} {k:Fl->ay->Prop}
theorem aL.take(h:bH n sc ρ t λc=>c=ae)(hr:aL n sc ρ b (pO n sc r k)):aL n sc ρ (.If t b o aM::r) k:=.cons (aO.iff (h.mono λc e=>by subst e;exact hr))
theorem aL.els(h:bH n sc ρ t λc=>c=aH)(hr:aL n sc ρ o (pO n sc r k)):aL n sc ρ (.If t b o aM::r) k:=.cons (aO.iff (h.mono λc e=>by subst e;exact hr))
theorem aL.skip(h:bH n sc ρ t λc=>c=aH)(hr:aL n sc ρ r k):aL n sc ρ (.If t b [] aM::r) k:=.els h (.nil hr)
end
theorem bJ.vr{fa:Nat}(F:FnAt fa i nm aI){ds:List D}(hl:aI.length=ds.length)(h:aL n (fs i) (bindR aI (ds.map Bd.dat)) (fb i) (fM k)):bJ (n+2) fa ds k:=
 have q:=(bB _ _).mp F.ok
 bJ.intro F.def_ F.nm (λdoc pm bA ct an s vs e=>F.binds doc pm bA ct an s vs (e.trans hl.symm)) q.1 hl ((bB _ _).mp q.2).1 ((bB _ _).mp q.2).2 h
theorem yj(i j:Nat):((i:Int)+j)/2=(((i+j)/2:Nat):Int):=rfl
structure jm(up:Nat->Bool)(lo hi i j:Nat):Prop where
 a:lo<=i
 b:i<=j
 c:j<=hi
 u:∀q,lo<=q->q<i->up q=ae
 d:∀q,j<=q->q<hi->up q=aH
section
variable {n:Nat} {sc:bf}
theorem yA{t:au}{B:List bw}{K:Fl->ay->Prop}{W:Nat->Nat->ay}{up:Nat->Bool}{lo:Nat}(H:lo<=hi)(hT:∀i j,bH n sc (W i j) t λb=>b=decide (i<j))(mono:∀i j,i<=j->j<hi->up j=ae->up i=ae)
 (hB:∀i j m,(i+j)/2=m->m<j->j<=hi->∀K:Fl->ay->Prop,(∀ρ,cL (up m) (Sub (W (m+1) j) ρ) (Sub (W i m) ρ)->K .next ρ)->aL n sc (W i j) B K)
 (hk:∀r,jm up lo hi r r->K .next (W r r)):aO n sc (W lo hi) (.While t B [] aM) K:=by
 refine aO.while (λm aC=>∃i j,aC=W i j/\jm up lo hi i j/\m=j-i) (hi-lo) ⟨lo,hi,rfl,⟨bv _,H,bv _,λq G C=>aZ G (kJ.mpr C),λq G C=>aZ G (kJ.mpr C)⟩,rfl⟩ λm aC ⟨i,j,e1,V,e2⟩=>?_
 subst e1 e2
 refine(hT i j).mono λb e=>?_
 subst e
 by_cases h:i<j
 ·have Y:=half h
  rw[bo (eS h)]
  refine hB i j _ rfl Y.2 V.c _ λρ hs=>?_
  generalize (i+j)/2=m at Y hs
  have Z:=cg Y.2 V.c
  cases e:up m<;>rw[e] at hs
  ·exact⟨_,hs,_,OR Y.1 Y.2,i,_,rfl,⟨V.a,Y.1,bd Z,V.u,λq q1 f=>qN.mpr λr=>tx (e.symm.trans (mono _ q q1 f r))⟩,rfl⟩
  ·exact⟨_,hs,_,zw h (jY Y.1),_,j,rfl,⟨wb (aD V.a Y.1),Y.2,V.c,λq q1 f=>mono q _ (pf f) Z e,V.d⟩,rfl⟩
 ·rw[be (by rw[eY h];nofun)]
  obtain rfl:=lg V.b (de.mp h)
  exact hk i V
end
noncomputable def yB(l:List D)(x:D)(V:Bd)(i j:Nat):ay:=([("a",.dat (.lst l)),("x",.dat x),("lo",.dat (.int i)),("hi",.dat (.int j)),("key",V)]:List (Str×Bd))
theorem yV{a:Nat}(h:a<=1000):a<=100000:=aD h (by simp)
theorem TV{x hd:D}{up:Nat->Bool}{lo:Nat}(hl:l.length<=1000)(V:lo<=hi)(Z:hi<=l.length)(hh:hd=.int hi\/hd=.none/\hi=l.length)(H:∀q d,l[q]?=aa d->gF x d=aa (!up q))(mono:∀i j,i<=j->j<hi->up j=ae->up i=ae)
 (C:∀r:Nat,jm up lo hi r r->k (.int r)):aL 78 (fs 15) ([("a",.dat (.lst l)),("x",.dat x),("lo",.dat (.int lo)),("hi",.dat hd),("key",(.dat .none))]:List (Str×Bd)) (fb 15) (fM k):=by
 refine aL.skip (b_ (eY (dW.mpr (dA _)))) ?_
 have G:aL 78 (fs 15) (yB l x (.dat .none) lo hi) ((fb 15).drop 2) (fM k):=aL.take (b_ rfl) (.cons (yA V (λi j=>b_ (decide_eq_decide.mpr eN)) mono (λi j m f h2 h3 K Y=>by
  have W:=cg h2 (aD h3 Z)
  refine cw 1 ?_
  show aL _ _ _ _ _
  rw[yj,f]
  refine cw 3 (b8.oH (yV hl) (dt W) (x3 (H m _ (dt W)) ?_))
  cases e:up m<;>rw[e] at Y
  ·exact Y _ (cA.sub ⟨rfl,rfl,rfl,rfl,rfl,trivial⟩)
  ·exact Y _ (cA.sub ⟨rfl,rfl,rfl,rfl,rfl,trivial⟩)
  ) λr B=>aL.nil (cw 1 (C r B))))
 rcases hh with rfl|⟨rfl,rfl⟩
 ·exact aL.skip (b_ rfl) G
 ·exact aL.take (b_ rfl) (cw 1 (bQ (aV hl (by simp)) (aL.nil (aL.sub G (cA.sub ⟨rfl,rfl,rfl,rfl,rfl,trivial⟩)))))
theorem Hy{x hd:D}{bz:List ag}{up:Nat->Bool}{lo:Nat}(hl:l.length<=1000)(V:lo<=hi)(C:hi<=l.length)(hh:hd=.int hi\/hd=.none/\hi=l.length)(Y:∀q d,l[q]?=aa d->∃r,φ d=aa r/\gF x r=aa (!up q))(mono:∀i j,i<=j->j<hi->up j=ae->up i=ae)
 (f:∀r:Nat,jm up lo hi r r->k (.int r)):aL 78 (fs 15) ([("a",.dat (.lst l)),("x",.dat x),("lo",.dat (.int lo)),("hi",.dat hd),("key",(.fn bz φ))]:List (Str×Bd)) (fb 15) (fM k):=by
 refine aL.skip (b_ (eY (dW.mpr (dA _)))) ?_
 have G:aL 78 (fs 15) (yB l x (.fn bz φ) lo hi) ((fb 15).drop 2) (fM k):=aL.els (bH.Bq rfl rfl rfl) (.cons (yA V (λi j=>b_ (decide_eq_decide.mpr eN)) mono (λi j m h1 h2 h3 K W=>by
  have H:=cg h2 (aD h3 C)
  refine cw 1 ?_
  show aL _ _ _ _ _
  rw[yj,h1]
  refine(Y m _ (dt H)).elim λr Z=>Z.elim λhr Y=>?_
  refine cw 3 (aj.Ck rfl rfl rfl (by simp) (bD (b8.oH (yV hl) (dt H) ⟨r,hr,x3 Y ?_⟩)))
  cases e:up m<;>rw[e] at W
  ·exact W _ (cA.sub ⟨rfl,rfl,rfl,rfl,rfl,trivial⟩)
  ·exact W _ (cA.sub ⟨rfl,rfl,rfl,rfl,rfl,trivial⟩)
  ) λr B=>aL.nil (cw 1 (f r B))))
 rcases hh with rfl|⟨rfl,rfl⟩
 ·exact aL.skip (b_ rfl) G
 ·exact aL.take (b_ rfl) (cw 1 (bQ (aV hl (by simp)) (aL.nil (aL.sub G (cA.sub ⟨rfl,rfl,rfl,rfl,rfl,trivial⟩)))))
theorem Il{x hd:D}{up:Nat->Bool}{lo:Nat}(hl:l.length<=1000)(V:lo<=hi)(Z:hi<=l.length)(hh:hd=.int hi\/hd=.none/\hi=l.length)(H:∀q d,l[q]?=aa d->gF d x=aa (up q))(mono:∀i j,i<=j->j<hi->up j=ae->up i=ae)
 (C:∀r:Nat,jm up lo hi r r->k (.int r)):aL 78 (fs 16) ([("a",.dat (.lst l)),("x",.dat x),("lo",.dat (.int lo)),("hi",.dat hd),("key",(.dat .none))]:List (Str×Bd)) (fb 16) (fM k):=by
 refine aL.skip (b_ (eY (dW.mpr (dA _)))) ?_
 have G:aL 78 (fs 16) (yB l x (.dat .none) lo hi) ((fb 16).drop 2) (fM k):=aL.take (b_ rfl) (.cons (yA V (λi j=>b_ (decide_eq_decide.mpr eN)) mono (λi j m f h2 h3 K Y=>by
  have W:=cg h2 (aD h3 Z)
  refine cw 1 ?_
  show aL _ _ _ _ _
  rw[yj,f]
  refine cw 3 (b8.oH (yV hl) (dt W) ?_)
  refine LH rfl rfl (x3 (H m _ (dt W)) ?_)
  cases e:up m<;>rw[e] at Y
  ·exact Y _ (cA.sub ⟨rfl,rfl,rfl,rfl,rfl,trivial⟩)
  ·exact Y _ (cA.sub ⟨rfl,rfl,rfl,rfl,rfl,trivial⟩)
  ) λr B=>aL.nil (cw 1 (C r B))))
 rcases hh with rfl|⟨rfl,rfl⟩
 ·exact aL.skip (b_ rfl) G
 ·exact aL.take (b_ rfl) (cw 1 (bQ (aV hl (by simp)) (aL.nil (aL.sub G (cA.sub ⟨rfl,rfl,rfl,rfl,rfl,trivial⟩)))))
theorem SE{x hd:D}{bz:List ag}{up:Nat->Bool}{lo:Nat}(hl:l.length<=1000)(V:lo<=hi)(C:hi<=l.length)(hh:hd=.int hi\/hd=.none/\hi=l.length)(Y:∀q d,l[q]?=aa d->∃r,φ d=aa r/\gF r x=aa (up q))(mono:∀i j,i<=j->j<hi->up j=ae->up i=ae)
 (f:∀r:Nat,jm up lo hi r r->k (.int r)):aL 78 (fs 16) ([("a",.dat (.lst l)),("x",.dat x),("lo",.dat (.int lo)),("hi",.dat hd),("key",(.fn bz φ))]:List (Str×Bd)) (fb 16) (fM k):=by
 refine aL.skip (b_ (eY (dW.mpr (dA _)))) ?_
 have G:aL 78 (fs 16) (yB l x (.fn bz φ) lo hi) ((fb 16).drop 2) (fM k):=aL.els (bH.Bq rfl rfl rfl) (.cons (yA V (λi j=>b_ (decide_eq_decide.mpr eN)) mono (λi j m h1 h2 h3 K W=>by
  have H:=cg h2 (aD h3 C)
  refine cw 1 ?_
  show aL _ _ _ _ _
  rw[yj,h1]
  refine(Y m _ (dt H)).elim λr Z=>Z.elim λhr Y=>?_
  refine cw 3 (aj.Ck rfl rfl rfl (by simp) (bD (b8.oH (yV hl) (dt H) ⟨r,hr,LH rfl rfl (x3 Y ?_)⟩)))
  cases e:up m<;>rw[e] at W
  ·exact W _ (cA.sub ⟨rfl,rfl,rfl,rfl,rfl,trivial⟩)
  ·exact W _ (cA.sub ⟨rfl,rfl,rfl,rfl,rfl,trivial⟩)
  ) λr B=>aL.nil (cw 1 (f r B))))
 rcases hh with rfl|⟨rfl,rfl⟩
 ·exact aL.skip (b_ rfl) G
 ·exact aL.take (b_ rfl) (cw 1 (bQ (aV hl (by simp)) (aL.nil (aL.sub G (cA.sub ⟨rfl,rfl,rfl,rfl,rfl,trivial⟩)))))
noncomputable def pK:List Str:=["a","x","lo","hi","key"]
theorem CX:r9 105 "bisect_right" "bisect_right" (fp 15) (fb 15) (fs 15):=⟨λw=>⟨_,_,_,_,_,_,_,_,_,_,_,_,rfl,rfl,rfl,rfl,Bo rfl,by ac_rfl,_,_,_,_,rfl,rfl,rfl,rfl⟩⟩
theorem CY:r9 114 "bisect_left" "bisect_left" (fp 16) (fb 16) (fs 16):=⟨λw=>⟨_,_,_,_,_,_,_,_,_,_,_,_,rfl,rfl,rfl,rfl,Bo rfl,by ac_rfl,_,_,_,_,rfl,rfl,rfl,rfl⟩⟩
theorem yC{l:List α}(h:l.length=2):∃a b,l=[a,b]:=by
 cases l with
 |nil=>cases h
 |cons a r=>cases r with
  |nil=>cases h
  |cons b r=>induction r with
   |nil=>exact⟨a,b,rfl⟩
   |cons _ _=>cases h
theorem yD{l:List α}(h:l.length=4):∃a b c d,l=[a,b,c,d]:=by
 cases l with
 |nil=>cases h
 |cons a r=>cases r with
  |nil=>cases h
  |cons b r=>
   obtain⟨c,d,rfl⟩:=yC (pp (pp h))
   exact⟨a,b,c,d,rfl⟩
section
variable {l:List D} {x hd:D} {lo hi:Nat} {φ:D->Option D} {up:Nat->Bool} {k:D->Prop}
theorem Ja(hl:l.length<=1000)(V:lo<=hi)(Y:hi<=l.length)(hh:hd=.int hi\/hd=.none/\hi=l.length)(W:∀q d,l[q]?=aa d->∃r,φ d=aa r/\gF x r=aa (!up q))(mono:∀i j,i<=j->j<hi->up j=ae->up i=ae)
 (Z:∀r:Nat,jm up lo hi r r->k (.int r)):iH 80 105 [.lst l,x,.int lo,hd] φ k:=
 iH.intro (m:=78) (pre:=λt vs=>vs) (hA:=[.lst l,x,.int lo,hd]) (aI:=pK) CX (λT K t B doc pm bA ct an s vs f G C=>by
  obtain⟨a,b,c,d,rfl⟩:=yD G
  exact xR rfl C rfl rfl) (λw g t vs h=>h) (by ac_rfl) rfl (by rfl) (by rfl) λbz=>Hy hl V Y hh W mono Z
theorem Vp(hl:l.length<=1000)(V:lo<=hi)(Y:hi<=l.length)(hh:hd=.int hi\/hd=.none/\hi=l.length)(W:∀q d,l[q]?=aa d->∃r,φ d=aa r/\gF r x=aa (up q))(mono:∀i j,i<=j->j<hi->up j=ae->up i=ae)
 (Z:∀r:Nat,jm up lo hi r r->k (.int r)):iH 80 114 [.lst l,x,.int lo,hd] φ k:=
 iH.intro (m:=78) (pre:=λt vs=>vs) (hA:=[.lst l,x,.int lo,hd]) (aI:=pK) CY (λT K t B doc pm bA ct an s vs f G C=>by
  obtain⟨a,b,c,d,rfl⟩:=yD G
  exact xR rfl C rfl rfl) (λw g t vs h=>h) (by ac_rfl) rfl (by rfl) (by rfl) λbz=>SE hl V Y hh W mono Z
theorem TW(hl:l.length<=1000)(V:∀q d,l[q]?=aa d->∃r,φ d=aa r/\gF x r=aa (!up q))(mono:∀i j,i<=j->j<l.length->up j=ae->up i=ae)
 (Y:∀r:Nat,jm up 0 l.length r r->k (.int r)):iH 80 105 [.lst l,x] φ k:=
 iH.intro (m:=78) (pre:=λt vs=>vs++[.int 0 t,.none]) (hA:=[.lst l,x,.int 0,.none]) (aI:=pK) CX (λT K t G doc pm bA ct an s vs f Z H=>by
  obtain⟨a,b,rfl⟩:=yC Z
  exact xR rfl H rfl rfl) (λw g t vs h=>h.append (aP.cons (.int _ _) (aP.cons .none aP.nil))) (by ac_rfl) rfl (by rfl) (by rfl) λbz=>Hy (lo:=0) hl (ck _) (bv _) (.inr ⟨rfl,rfl⟩) V mono Y
theorem Vq(hl:l.length<=1000)(V:lo<=hi)(Y:hi<=l.length)(hh:hd=.int hi\/hd=.none/\hi=l.length)(W:∀q d,l[q]?=aa d->gF x d=aa (!up q))(mono:∀i j,i<=j->j<hi->up j=ae->up i=ae)
 (Z:∀r:Nat,jm up lo hi r r->k (.int r)):bJ 80 105 [.lst l,x,.int lo,hd] k:=
 bJ.introD (m:=78) (pre:=λt vs=>vs++[.none]) (hA:=[.lst l,x,.int lo,hd,.none]) (aI:=pK) CX (λT K t nT es nK oK doc pm bA ct an s vs G C B f k2 k3=>by
  obtain⟨a,b,c,d,rfl⟩:=yD G
  exact Bp rfl C B f k2 k3 rfl (by ac_rfl) (by ac_rfl)) (λw g t vs h=>h.append (aP.cons .none aP.nil)) (by ac_rfl) rfl (by rfl) (by rfl) (TV hl V Y hh W mono Z)
theorem Vr(hl:l.length<=1000)(V:lo<=hi)(Y:hi<=l.length)(hh:hd=.int hi\/hd=.none/\hi=l.length)(W:∀q d,l[q]?=aa d->gF d x=aa (up q))(mono:∀i j,i<=j->j<hi->up j=ae->up i=ae)
 (Z:∀r:Nat,jm up lo hi r r->k (.int r)):bJ 80 114 [.lst l,x,.int lo,hd] k:=
 bJ.introD (m:=78) (pre:=λt vs=>vs++[.none]) (hA:=[.lst l,x,.int lo,hd,.none]) (aI:=pK) CY (λT K t nT es nK oK doc pm bA ct an s vs G C B f k2 k3=>by
  obtain⟨a,b,c,d,rfl⟩:=yD G
  exact Bp rfl C B f k2 k3 rfl (by ac_rfl) (by ac_rfl)) (λw g t vs h=>h.append (aP.cons .none aP.nil)) (by ac_rfl) rfl (by rfl) (by rfl) (Il hl V Y hh W mono Z)
theorem TX(hl:l.length<=1000)(V:∀q d,l[q]?=aa d->gF d x=aa (up q))(mono:∀i j,i<=j->j<l.length->up j=ae->up i=ae)
 (Y:∀r:Nat,jm up 0 l.length r r->k (.int r)):bJ 80 114 [.lst l,x] k:=
 bJ.introD (m:=78) (pre:=λt vs=>vs++[.int 0 t,.none,.none]) (hA:=[.lst l,x,.int 0,.none,.none]) (aI:=pK) CY (λT K t nT es nK oK doc pm bA ct an s vs Z H G C B f=>by
  obtain⟨a,b,rfl⟩:=yC Z
  exact Bp rfl H G C B f rfl (by ac_rfl) (by ac_rfl)) (λw g t vs h=>h.append (aP.cons (.int _ _) (aP.cons .none (aP.cons .none aP.nil)))) (by ac_rfl) rfl (by rfl) (by rfl) (Il (lo:=0) hl (ck _) (bv _) (.inr ⟨rfl,rfl⟩) V mono Y)
end
theorem ac0:r9 96 "insort_right" "insort_right" (fp 14) (fb 14) (fs 14):=⟨λw=>⟨_,_,_,_,_,_,_,_,_,_,_,_,rfl,rfl,rfl,rfl,Bo rfl,by ac_rfl,_,_,_,_,rfl,rfl,rfl,rfl⟩⟩
theorem SF{x Y:D}{up:Nat->Bool}(r:Nat)(hl:l.length<=1000)(H:φ x=aa Y)
 (G:∀q d,l[q]?=aa d->∃r,φ d=aa r/\gF Y r=aa (!up q))(mono:∀i j,i<=j->j<l.length->up j=ae->up i=ae)
 (hr:∀V,jm up 0 l.length V V->V=r)(W:r<=l.length):mz 90 96 l [x] φ (l.take r++x::l.drop r):=
 mz.intro (m:=88) (x:="a") (pre:=λt vs=>vs++[.int 0 t,.none]) (hA:=[x,.int 0,.none]) (aI:=pK) ac0 (λT K t nT doc pm bA ct an s v vs f hv hT=>by
  obtain⟨b,rfl⟩:=EI.mp hv
  exact xR rfl hT rfl rfl) (λw g t vs h=>h.append (aP.cons (.int _ _) (aP.cons .none aP.nil))) (by ac_rfl) rfl (by rfl) (by rfl) λa bz Z=>by
  refine aL.els (bH.Bq rfl rfl rfl) (.cons (aO.assign rfl (λ_=>rfl) (aj.Z4 (x:="a") (y:="key") rfl rfl Z (aj.sk (we rfl) rfl (vm.fnName rfl rfl) (ee (dF 40) (aj.Ck rfl rfl rfl (by simp) (bD ⟨Y,H,iH.oW ((Ja (lo:=0) (hi:=l.length) hl (ck _) (bv _) (.inr ⟨rfl,rfl⟩) G mono λV B=>⟨rfl,?_⟩).le (by simp))⟩)))))))
  obtain rfl:=hr V B
  exact aL.nil (.cons (aO.xt (m:=cM.insert) rfl rfl rfl (λab=>mU rfl _ _ _) ⟨show 2<30 by simp,rfl⟩ (λab=>rfl) (ee (dF 40) ⟨_,kP.insert W (aD hl (by simp)),aL.nil rfl⟩)))
noncomputable def dY(n:Nat):Nat->Nat->List Nat
 |0,_=>[]
 |m+1,x=>x%2^n::dY n m (x/2^n)
noncomputable def d_(n:Nat):List Nat->Nat
 |[]=>0
 |d::r=>d+2^n*d_ n r
theorem uZ(n m:Nat):2^(n*(m+1))=2^n*2^(n*m):=by rw[rf,gP,AE]
theorem xy(n m x:Nat):(dY n m x).length=m:=by
 induction m generalizing x with
 |zero=>rfl
 |succ m V=>exact aQ (·+1) (V _)
theorem BD(n p q x:Nat):dY n (p+q) x=dY n p x++dY n q (x/2^(n*p)):=by
 induction p generalizing x with
 |zero=>rw[fq,Rf,Rg,RA];rfl
 |succ p V=>exact(aQ (dY n · x) (tg p 1 q)).trans (aQ (x%2^n::·) ((V _).trans (aQ (dY n p (x/2^n)++dY n q ·) (by rw[Oq,uZ]))))
theorem Vs(n p m x:Nat)(h:p<=m):dY n p (x%2^(n*m))=dY n p x:=by
 induction p generalizing m x with
 |zero=>rfl
 |succ p V=>
  induction m with
  |zero=>exact aZ h (OV p)
  |succ m=>
   show x%2^(n*(m+1))%2^n::dY n p (x%2^(n*(m+1))/2^n)=x%2^n::dY n p (x/2^n)
   rw[uZ,Nat.mod_mul_right_mod,Nat.mod_mul_right_div_self,V _ _ (Nat.le_of_succ_le_succ h)]
theorem SG(n:Nat)(a b:List Nat):d_ n (a++b)=d_ n a+2^(n*a.length)*d_ n b:=by
 induction a with
 |nil=>exact(pu _).symm.trans (fq _).symm
 |cons d r V=>
  show d+2^n*d_ n (r++b)=d+2^n*d_ n r+2^(n*(r.length+1))*d_ n b
  rw[V,uZ,ri,Go,eK]
theorem RT(n m x:Nat)(h:x<2^(n*m)):d_ n (dY n m x)=x:=by
 induction m generalizing x with
 |zero=>exact(QG.mp (show x<1 from h)).symm
 |succ m V=>
  show x%2^n+2^n*d_ n (dY n m (x/2^n))=x
  rw[V _ (vT (uZ n m▸h))]
  exact Nat.mod_add_div x (2^n)
theorem RU(n:Nat)(l:List Nat)(h:∀d∈l,d<2^n):dY n l.length (d_ n l)=l:=by
 induction l with
 |nil=>rfl
 |cons d r V=>
  have hd:=h d bi
  show (d+2^n*d_ n r)%2^n::dY n r.length ((d+2^n*d_ n r)/2^n)=d::r
  rw[N0,wg hd,OL _ _ (wx n),wh hd,fq,V λd hd=>h d (bM _ hd)]
theorem Im(n:Nat)(l:List Nat)(h:∀d∈l,d<2^n):d_ n l<2^(n*l.length):=by
 induction l with
 |nil=>exact wx _
 |cons d r V=>exact(uZ n r.length).symm▸ZM (h d bi) (rf (2^n) (d_ n r)▸nC (2^n) (V λd hd=>h d (bM _ hd)))
theorem W8(n m x:Nat):∀d∈dY n m x,d<2^n:=by
 induction m generalizing x with
 |zero=>exact fU
 |succ m V=>exact fm (tV _ (wx n)) (V _)
theorem Vt(x s:Nat):x&&& (x/2^s*2^s)=x/2^s*2^s:=by
 rw[<-Nat.shiftRight_eq_div_pow,<-Nat.shiftLeft_eq]
 apply Nat.eq_of_testBit_eq
 intro i
 simp only[Nat.testBit_and,Nat.testBit_shiftLeft,Nat.testBit_shiftRight]
 by_cases h:i>=s
 ·rw[show s+(i-s)=i by exact LZ (by assumption)];simp[h]
 ·simp[h]
theorem Vu(x s:Nat):Qu (x:Int) (((x/2^s*2^s:Nat)):Int)=((x%2^s:Nat):Int):=by
 rw[bitXor_and]
 have e:Qt (x:Int) (((x/2^s*2^s:Nat)):Int)=(((x/2^s*2^s:Nat)):Int):=by
  rw[bitAnd_pp (dA _) (dA _)]
  simp only[lV]
  rw[Vt]
 refine e.symm▸?_
 have:=Qe x (2^s)
 rw[kH] at this
 exact ZB (by assumption)
section
variable {n:Nat} {k:D->Prop}
theorem bF.Dy{i j:Int}(x s y:Nat)(hi:i=x)(V:j=s)(Y:x/2^s=y)(W:k (.int y)):bF n .RShift (.int i) (.int j) k:=by
 subst hi V Y;exact bF.Mg W
theorem bF.Dz{i j:Int}(x s y:Nat)(hi:i=x)(V:j=s)(Y:x<2^b)(W:b<=100000)(hs:s<=100000)(Z:x*2^s=y)(H:k (.int y)):bF n .LShift (.int i) (.int j) k:=by
 subst hi V Z;exact bF.acA Y W hs H
end
structure YL(L sz h:Nat):Prop where
 lo:1<=h
 hi:h<sz
 mid:(L+(L+sz))/2^1=L+h
theorem KW(L:Nat){V:Nat}(h:2<=V):YL L V (V/2):=⟨RE h wI,Nat.div_lt_self (cg wI h) (gY 1),by
 rw[<-eK,<-RB,Nat.pow_one,Qf wI]⟩
theorem yW{h:Nat}(hr:0<r):3*h+10+2<=3*(h+r)+10:=by
 simp only[ri,eK,eK]
 exact fi (aD (by decide) (gG (nC 3 hr) 10)) _
theorem CB(L h N:Nat):(((L+h:Nat):Int)-(L:Int))*(N:Int)=((N*h:Nat):Int):=by
 rw[zX,g4,mH,<-Int.natCast_mul,kH]
theorem x4{L V:Nat}(Y:1<=V):(((L:Int)+1==((L+V:Nat):Int))=ae->V=1)/\(((L:Int)+1==((L+V:Nat):Int))=aH->2<=V):=by
 rw[beq_iff_eq,beq_eq_false_iff_ne];exact Zl (by assumption)
theorem ac1:uB 73 72 "_digits2int" "_digits2int" (fp 10) (fb 10) (fs 10):=⟨λw=>⟨_,_,_,_,rfl,_,_,_,rfl,rfl,rfl⟩⟩
def vt(N:Nat)(nm:Str)(P:iz)(B:List bw)(S:bf)(ds:List Nat)(V L:Nat):Prop:=
 aL (3*V+10) S ([("L",.dat (.int L)),("R",.dat (.int ((L+V:Nat):Int))),("digits",.dat (.lst (ds.map λd:Nat=>D.int d))),("n",.dat (.int (N:Nat))),("inner",.lam nm P (gR B) S)]:List (Str×Bd)) B
  (fM λd=>d=.int (d_ N ((ds.drop L).take V):Nat))
theorem YM{P:iz}{B:List bw}{S:bf}{bW:List bw}{k:Fl->ay->Prop}(N:Nat)(ds:List Nat)
 (step:∀(Y L:Nat),1<=Y->L+Y<=ds.length->(∀V,V<Y->∀(L:Nat),1<=V->L+V<=ds.length->vt N nm P B S ds V L)->vt N nm P B S ds Y L)
 (dk:(∀(Y L:Nat),1<=Y->L+Y<=ds.length->vt N nm P B S ds Y L)->aL n sc (("inner",.lam nm P (gR B) S)::ρ) bW k):aL n sc (("inner",.lam nm P (gR B) S)::ρ) bW k:=by
 refine dk λY L W Z=>?_
 induction Y using Qg generalizing L with
 |_ Y H=>exact step Y L W Z λV hs L G C=>H V hs L G C
theorem Jb{L h:Nat}{ds:List Nat}(hl:L+h<=ds.length):((ds.drop L).take h).length=h:=EJ (qT▸(OX (gP L h▸hl)))
theorem SH{N L h r:Nat}{ds:List Nat}(hl:L+(h+r)<=ds.length):d_ N ((ds.drop L).take (h+r))=d_ N ((ds.drop (L+h)).take r)*2^(N*h)+d_ N ((ds.drop L).take h):=by
 simp only[List.take_add,F_,SG,(Jb (aD (fi (cy h r) L) hl):((ds.drop L).take h).length=h),kH,gP]
theorem yk{a:Nat}(V:a<=6)(Y:b<=20):a*b<=120:=Gg V Y
set_option maxHeartbeats 1000000 in
theorem JZ{ds:List Nat}{N:Nat}(hN:1<=N)(Z:N<=6)(V:ds.length<=20)(qv:∀d∈ds,d<2^N)(hk:k (.int (d_ N ds:Nat))):bJ 80 73 [.lst (ds.map λd:Nat=>D.int d),.int N] k:=by
 refine bJ.xT (n:=78) (aI:=["digits","n"]) ac1 (λ_ _ _ _ _ _ vs hl=>jf (λ_ _=>by rfl) vs hl) (by ac_rfl) (by rfl) (by rfl) (by ac_rfl) (.cons (aO.def (t:=(72,68,"_digits2int.<locals>.inner")) (by ac_rfl) (dC tT) (by ac_rfl) (λw=>by ac_rfl) (by ac_rfl) (by ac_rfl) rfl rfl (λab=>by ac_rfl) (pr (YM N ds ?_ ?_))))
 ·intro sz L h1 H ih
  have C:sz<=20:=aD (jB _ _) (aD H V)
  refine cw 6 (cL.mk (λY=>?_) λY=>?_)
  ·obtain rfl:=(x4 h1).1 Y
   refine b8.oH (d:=.int (ds[L]:Nat)) (by rw[aR];exact bd (aV V (by simp))) (by simp only[ci,dt H];rfl) ?_
   refine aQ (λa:Nat=>D.int a) ?_
   rw[qz H]
   exact(Gw _).symm
  ·have W:=KW L ((x4 h1).2 Y)
   clear Y
   generalize sz/2=h at W
   refine(qB (bd W.hi)).elim λr nj=>?_;subst nj
   have hr:0<r:=Oa.mp W.hi
   have e3:L+(h+r)=L+h+r:=(eK _ _ _).symm
   refine bF.Dy (L+(L+(h+r))) 1 (L+h) rfl rfl W.mid (bQ (mulR (show ((N:Int)).natAbs<2^60 from aV Z (lT tT))) ?_)
   refine aj.BX (bE:=([("digits",.dat (.lst (ds.map λd:Nat=>D.int d))),("n",.dat (.int (N:Nat))),("inner",.lam _ _ (gR _) _)]:List (Str×Bd))) (m:=3*r+10) (aI:=["L","R"]) rfl rfl rfl ⟨rfl,rfl,rfl,rfl,rfl,rfl,trivial⟩ (gP r h▸yW W.lo) (λ_ _ _ _ _ _ _ vs hl=>jf (λ_ _=>by rfl) vs hl) rfl rfl (ee (dF 40) ⟨rfl,?_⟩)
   have G:=ih r (Ot W.lo) (L+h) hr (aD (bn e3.symm) H)
   unfold vt at G
   rw[<-e3] at G
   refine G.mono λfl ρ=>A6 λd hd=>?_
   subst hd
   have B:=Im N ((ds.drop (L+h)).take r) λd hd=>qv d (vU (mF hd))
   rw[Jb (L:=L+h) (h:=r) ((eK L h r).symm▸H)] at B
   refine bF.Dz _ (N*h) _ rfl (CB L h N) B (aD (yk Z (aD (jB _ _) C)) (lB tT)) (aD (yk Z (aD (cy _ _) C)) (lB tT)) rfl ?_
   refine aj.BX (bE:=([("digits",.dat (.lst (ds.map λd:Nat=>D.int d))),("n",.dat (.int (N:Nat))),("inner",.lam _ _ (gR _) _)]:List (Str×Bd))) (m:=3*h+10) (aI:=["L","R"]) rfl rfl rfl ⟨rfl,rfl,rfl,rfl,rfl,rfl,trivial⟩ (yW hr) (λ_ _ _ _ _ _ _ vs hl=>jf (λ_ _=>by rfl) vs hl) rfl rfl (ee (dF 40) ⟨rfl,?_⟩)
   refine(ih h W.hi L W.lo (aD (aD (cy _ _) (bn e3.symm)) H)).mono λfl ρ=>A6 λd hd=>?_
   subst hd
   exact aQ (λa:Nat=>D.int a) (SH H).symm
 ·intro run
  have hm:(ds.map λd:Nat=>D.int d).length=ds.length:=aR ..
  have f:(ds.map λd:Nat=>D.int d).length<2^63:=hm▸(aV V (lT tT))
  refine cw 2 (bQ f (cL.mk (λY=>?_) λY=>?_))
  ·refine aj.BX (bE:=([("digits",.dat (.lst (ds.map λd:Nat=>D.int d))),("n",.dat (.int (N:Nat))),("inner",.lam _ _ (gR _) _)]:List (Str×Bd))) (m:=3*ds.length+10) (aI:=["L","R"]) rfl rfl rfl ⟨rfl,rfl,rfl,rfl,rfl,rfl,trivial⟩ (aD (gG (nC 3 V) 12) (by simp)) (λ_ _ _ _ _ _ _ vs hl=>jf (λ_ _=>by rfl) vs hl) rfl rfl (ee (dF 40) (bQ f ⟨rfl,?_⟩))
   have h1:1<=ds.length:=by
    cases ds with
    |nil=>exact ft Y
    |cons _ _=>exact eB _
   have G:=run ds.length 0 h1 (bn (fq _))
   unfold vt at G
   rw[fq] at G
   refine hm.symm▸?_
   refine G.mono λfl ρ=>A6 λd hd=>?_
   subst hd
   rw[tD,j0]
   exact hk
  ·cases ds with
   |nil=>exact hk
   |cons _ _=>exact tf Y
noncomputable def gy(l:List Nat):List D:=l.map λd:Nat=>D.int d
def yX(N:Nat)(nm:Str)(P:iz)(B:List bw)(S:bf)(V x L:Nat)(a:ag)(l:List D):Prop:=
 aL (3*V+10) S ([("x",.dat (.int x)),("L",.dat (.int L)),("R",.dat (.int ((L+V:Nat):Int))),("a_digits",.own a l),("n",.dat (.int (N:Nat))),("inner",.lam nm P (gR B) S)]:List (Str×Bd)) B
  (ly λ_ aC=>aC.lookup ("a_digits":Str)=aa (.own a (l.take L++gy (dY N V x)++l.drop (L+V))))
theorem YN{P:iz}{B:List bw}{S:bf}{bW:List bw}{k:Fl->ay->Prop}(N:Nat)
 (step:∀(Y:Nat) (x L:Nat) (a:ag) (l:List D),1<=Y->x<2^(N*Y)->L+Y<=l.length->l.length<=20->
  (∀V,V<Y->∀(x L:Nat) (l:List D),1<=V->x<2^(N*V)->L+V<=l.length->l.length<=20->yX N nm P B S V x L a l)->yX N nm P B S Y x L a l)
 (dk:(∀(Y:Nat) (x L:Nat) (a:ag) (l:List D),1<=Y->x<2^(N*Y)->L+Y<=l.length->l.length<=20->yX N nm P B S Y x L a l)->aL n sc (("inner",.lam nm P (gR B) S)::ρ) bW k):aL n sc (("inner",.lam nm P (gR B) S)::ρ) bW k:=by
 refine dk λY x L a l W Z h3 H=>?_
 induction Y using Qg generalizing x L l with
 |_ Y G=>exact step Y x L a l W Z h3 H λV hs x L l C f q3 q4=>G V hs x L l C f q3 q4
theorem Vv{N x L:Nat}(V:x<2^(N*1))(h:L<l.length):l.set L (.int x)=l.take L++gy (dY N 1 x)++l.drop (L+1):=by
 rw[List.set_eq_take_append_cons_drop,bo h,c6]
 show _=l.take L++(D.int (x%2^N:Nat)::l.drop (L+1))
 rw[wg (RC N▸V)]
theorem Vw{N x L h:Nat}(hl:L+h<=l.length):(l.take L++gy (dY N h x)++l.drop (L+h)).length=l.length:=by
 unfold gy
 simp only[bR,bR,gJ,aR,xy,qT];exact XT (by assumption)
theorem Vx{N x L h:Nat}(hl:L+(h+r)<=l.length):(l.take L++gy (dY N h (x%2^(N*h)))++l.drop (L+h)).take (L+h)++gy (dY N r (x/2^(N*h)))++(l.take L++gy (dY N h (x%2^(N*h)))++l.drop (L+h)).drop (L+h+r)=l.take L++gy (dY N (h+r) x)++l.drop (L+(h+r)):=by
 have V:(l.take L++gy (dY N h (x%2^(N*h)))).length=L+h:=by unfold gy;simp only[bR,gJ,aR,xy];exact Wm (by assumption)
 rw[NU (bn V.symm),la (bn V),List.drop_append,V,Ol (by rw[V];exact cy _ _),z0,F_,Vs N h h x (bv _),BD N h r,k_,eK]
 unfold gy
 rw[dK,c6 (l.take L)]
theorem ac2:uB 66 65 "_int2digits" "_int2digits" (fp 9) (fb 9) (fs 9):=⟨λw=>⟨_,_,_,_,rfl,_,_,_,rfl,rfl,rfl⟩⟩
theorem YO{x N V:Nat}(Y:x<2^(N*V))(h:x≠0):1<=V:=by
 induction V with
 |zero=>exact aZ (QG.mp Y) h
 |succ _=>exact eB _
theorem bits_le{x N:Nat}(V:1<=N):x<2^(N*((fA (x:Int)+N-1)/N)):=by
 refine(EV (x:=(x:Int))).mp ?_
 have:=O7 (fA (x:Int)+N-1) V
 exact LW (by assumption) (by assumption)
theorem J0{x N:Nat}(hN:1<=N)(Y:N<=6)(V:(fA (x:Int)+N-1)/N<=20)
 (hk:k (.lst ((dY N ((fA (x:Int)+N-1)/N) x).map λd:Nat=>D.int d))):bJ 80 66 [.int x,.int N] k:=by
 have f:((fA (x:Int):Int)+N-1)/N=(((fA (x:Int)+N-1)/N:Nat):Int):=by
  rw[Int.natCast_ediv,Int.natCast_sub (Nat.le_add_left_of_le hN),zX];rfl
 have C:=bits_le (x:=x) hN
 have h0:x=0->(fA (x:Int)+N-1)/N=0:=λe=>by
  subst e
  exact wh (by rw[show fA ((0:Nat):Int)=0 from rfl,fq];exact He hN tN)
 refine bJ.xT (n:=78) (aI:=["a","n"]) ac2 (λ_ _ _ _ _ _ vs hl=>jf (λ_ _=>by rfl) vs hl) (by ac_rfl) (by rfl) (by rfl) (by ac_rfl) (.cons (aO.uo rfl (λ_=>rfl) (cK.repl (bD ⟨_,rfl,bD (aj.yt cM.oa rfl (λab=>mU rfl _ _ _) ⟨show 0<30 by decide,rfl⟩ (bD ⟨rfl,bk.oa (bP.t ?_ ?_)⟩))⟩))))
 ·rw[eS (Qh.mpr hN),eS (show ((N:Int)).natAbs<2^60 from aV Y (lT tT))];rfl
 rw[f]
 generalize (fA (x:Int)+N-1)/N=W at C hk V h0
 clear f
 have H:(gL (W:Int).toNat [D.int 0]).flatten.length=W:=by rw[NQ,List.length_replicate];rfl
 refine⟨_,rfl,eN.mpr (aV V (lT tT)),dh (by decide) (dA W),aD (bn (pu W)) (aD V (lB tT)),λa=>?_⟩
 generalize (gL (W:Int).toNat [D.int 0]).flatten=l at H
 refine .cons (aO.def (t:=(65,61,"_int2digits.<locals>.inner")) (by ac_rfl) (dC tT) (by ac_rfl) (λw=>by ac_rfl) (by ac_rfl) (by ac_rfl) rfl rfl (λab=>by ac_rfl) (pr (YN N ?_ ?_)))
 ·intro sz x L a l h1 h2 h3 h4 ih
  have eU:sz<=20:=aD (jB _ _) (aD h3 h4)
  refine cw 8 (cL.mk (λG=>?_) λG=>?_)
  ·obtain rfl:=(x4 h1).1 G
   refine aO.Yn (y:="a_digits") rfl rfl (bd (aV h4 (by simp))) (λ_=>rfl) (bD (bD ⟨L,rfl,h3,?_⟩))
   rw[<-Vv h2 h3];rfl
  ·have Z:=KW L ((x4 h1).2 G)
   clear G
   generalize sz/2=h at Z
   obtain⟨r,rfl⟩:=qB (bd Z.hi)
   have hr:0<r:=Oa.mp Z.hi
   have e3:L+(h+r)=L+h+r:=(eK _ _ _).symm
   have Nd:L+h<=l.length:=aD (fi (cy _ _) _) h3
   refine bF.Dy (L+(L+(h+r))) 1 (L+h) rfl rfl Z.mid (bQ (mulR (show ((N:Int)).natAbs<2^60 from aV Y (lT tT))) ?_)
   refine bF.Dy x (N*h) _ rfl (CB L h N) rfl (bF.Dz _ (N*h) _ rfl (CB L h N) (aV (Nat.div_le_self _ _) (cg h2 (zv (by decide) (yk Y eU)):x<2^120)) (lB tT) (aD (yk Y (aD (bd Z.hi) eU)) (lB tT):N*h<=100000) rfl (bF.bxor ?_))
   rw[Vu]
   refine aO.AN (y:="a_digits") (bE:=([("n",.dat (.int (N:Nat))),("inner",.lam _ _ (gR _) _)]:List (Str×Bd))) (m:=3*h+10) (aI:=["x","L","R"]) rfl rfl rfl rfl rfl ⟨rfl,rfl,rfl,rfl,trivial⟩ (yW (h:=h) hr) (λ_=>rfl) (λ_ _ _ _ _ _ _ vs hl=>pH (λ_ _ _=>by rfl) vs hl) rfl rfl (ee (dF 40) ?_)
   refine⟨rfl,_,ih h Z.hi _ L l Z.lo (tV _ (wx _)) Nd h4,?_⟩
   have o0:=Vw (N:=N) (x:=x%2^(N*h)) (h:=h) (L:=L) (l:=l) Nd
   refine aO.AN (y:="a_digits") (bE:=([("n",.dat (.int (N:Nat))),("inner",.lam _ _ (gR _) _)]:List (Str×Bd))) (m:=3*r+10) (aI:=["x","L","R"]) rfl rfl rfl rfl rfl ⟨rfl,rfl,rfl,rfl,trivial⟩ (gP r h▸yW Z.lo:3*r+10+2<=3*(h+r)+10) (λ_=>rfl) (λ_ _ _ _ _ _ _ vs hl=>pH (λ_ _ _=>by rfl) vs hl) rfl rfl (ee (dF 40) ?_)
   refine e3▸?_
   refine⟨rfl,_,ih r (Ot Z.lo) _ (L+h) _ hr ?_ (by simp only[o0,<-e3];exact h3) (o0▸h4),?_⟩
   ·refine vT ?_
    rw[<-AE,<-ri];exact h2
   ·show jb _ _=_
    rw[<-e3,<-Vx h3,<-e3];rfl
 ·intro run
  refine cw 4 (cL.mk (λG=>?_) λG=>?_)
  ·have B:x≠0:=λe=>by subst e;exact ft G
   refine aO.AN (y:="a_digits") (bE:=([("n",.dat (.int (N:Nat))),("inner",.lam _ _ (gR _) _)]:List (Str×Bd))) (m:=3*W+10) (aI:=["x","L","R"]) rfl rfl rfl rfl rfl ⟨rfl,rfl,rfl,rfl,trivial⟩ (aD (gG (nC 3 V) 12) (by simp):3*W+10+2<=78) (λ_=>rfl) (λ_ _ _ _ _ _ _ vs hl=>pH (λ_ _ _=>by rfl) vs hl) rfl rfl (ee (dF 40) (bQ (aV (aD (bn H) V) (lT tT):l.length<2^63) ⟨rfl,rfl,?_⟩))
   have r0:=run W x 0 a l (YO C B) C (bn ((fq W).trans H.symm)) (aD (bn H) V)
   unfold yX at r0
   rw[fq] at r0
   refine H.symm▸?_
   refine⟨_,r0,?_⟩
   simp only[<-H,List.take_zero,z0,zW,cR];exact H▸hk
  ·have B:x=0:=ba λe=>by
    have:((x:Int) != 0)=ae:=bne_iff_ne.mpr λq=>e (lW q)
    exact tx (this.symm.trans G)
   obtain rfl:=h0 B
   obtain rfl:=lL.mp H
   exact hk
theorem ac3:FnAt 52 7 "_div2n1n" ["a","b","n"]:=⟨⟨λw=>⟨_,_,_,_,_,rfl,_,_,_,_,rfl,rfl,rfl,rfl⟩⟩,λ_ _ _ _ _ _ vs h=>pH (λ_ _ _=>by rfl) vs h,by rfl,by rfl⟩
theorem ac4:FnAt 80 11 "_divmod_pos" ["a","b"]:=⟨⟨λw=>⟨_,_,_,_,_,rfl,_,_,_,_,rfl,rfl,rfl,rfl⟩⟩,λ_ _ _ _ _ _ vs h=>jf (λ_ _=>by rfl) vs h,by rfl,by rfl⟩
theorem aj.oa{o:au}(V:B4 o=ae)(hl:(ap.endLine==aM.line)=ae)(h:aj n sc ρ o λd=>∃i,d=.int i/\k (.int (fA i))):aj n sc ρ (bU (cC o "bit_length" ap) [] [] aM) k:=
 aj.yt cM.oa rfl (λab=>mU V _ _ _) ⟨show 0<30 by simp,hl⟩ (h.mono λd Y=>by obtain⟨i,e,q⟩:=Y;subst e;exact⟨rfl,bk.oa q⟩)
theorem W9{a:Nat}(H:0<b)(V:a<2^100)(Y:b<2^20)(W:k (.tup [.int (a/b:Nat),.int (a%b:Nat)])):bJ 10 52 [.int a,.int b,.int m] k:=by
 have Z:=v8 V
 refine bJ.of ac3 rfl (aj.oa rfl rfl (bD ⟨_,rfl,aj.top (v:=.int 4000 _) (d:=.int 4000) rfl (λw=>by ac_rfl) rfl (λw g=>.int _ _) (cL.mk (λ_=>bk.divmod (by exact K9 (by assumption)) (Ou (by exact cg (by assumption) (by decide))) ?_) λh=>aZ (ig h) (by omega))⟩))
 rw[nv _ (dA _),qw _ (dA _)]
 exact W
structure ow(N b:Nat)(dl:List Nat)(i r:Nat)(qs:List Nat):Prop where
 len:qs.length=i
 lt:∀q∈qs,q<2^N
 yY:r<b
 eq:d_ N qs.reverse*b+r=d_ N (dl.reverse.take i).reverse
theorem ow.step{N:Nat}{dl:List Nat}{e:Nat}{qs:List Nat}(D:ow N b dl i r qs)(W:dl.reverse[i]?=aa e)(Z:e<2^N)(H:0<b):r*2^N+e<b*2^N/\ow N b dl (i+1) ((r*2^N+e)%b) (qs++[(r*2^N+e)/b]):=by
 have V:r*2^N+e<b*2^N:=by
  have:=qF (2^N) (qL D.yY)
  rw[Gu] at this;exact Yb (by assumption) (by assumption)
 refine⟨V,by rw[bR,D.len];rfl,λq Y=>?_,tV _ H,?_⟩
 ·rcases cQ.mp Y with Y|Y
  ·exact D.lt q Y
  ·rw[a_.mp Y];exact vT V
 ·have G:=Qe (r*2^N+e) b
  simp only[lQ,W,E0,E0]
  show (_+2^N*d_ N qs.reverse)*b+_=e+2^N*d_ N (dl.reverse.take i).reverse
  rw[<-D.eq,G3,ri,Go,kH _ b]
  rw[kH r] at G
  rw[kH r]
  omega
theorem ow.fin{N:Nat}{dl:List Nat}{qs:List Nat}(D:ow N b dl dl.length r qs)(V:0<b):d_ N qs.reverse=d_ N dl/b/\r=d_ N dl%b:=by
 have h:=D.eq
 rw[la (by rw[i'];exact bv _),vS] at h
 rw[<-h,kH,Qf V,wh D.yY,Nat.mul_add_mod,wg D.yY]
 exact⟨rfl,rfl⟩
def DA(N b:Nat)(dl:List Nat)(V:ag)(r:Nat)(qs:List Nat):ay:=([("q_digits",.own V (gy qs)),("r",.dat (.int (r:Nat))),("a_digits",.dat (.lst (gy dl))),("n",.dat (.int (N:Nat))),("b",.dat (.int (b:Nat)))]:List (Str×Bd))
theorem Vy{l:List Nat}(h:(gy l)[i]?=aa d):∃e:Nat,l[i]?=aa e/\d=.int e:=by
 unfold gy at h
 rw[ci] at h
 induction q:l[i]? with
 |none=>rw[q] at h;exact ns h
 |some e=>rw[q] at h;exact⟨e,rfl,(aW h).symm⟩
theorem xz(l:List Nat):(gy l).length=l.length:=aR ..
theorem ow.zero{N:Nat}(dl:List Nat)(V:0<b):ow N b dl 0 0 []:=⟨rfl,nofun,V,by show 0*b+0=0;rw[Nat.zero_mul]⟩
theorem Vz{x:Nat}(hb:0<b)(W:b<2^6)(hx:x<2^19)(hk:k (.tup [.int (x/b:Nat),.int (x%b:Nat)])):bJ 90 80 [.int x,.int b] k:=by
 refine bJ.of ac4 rfl (aj.oa rfl rfl (bD ⟨_,rfl,?_⟩))
 have G:=(EV (x:=(b:Int))).mp (bv _)
 have Y:fA (b:Int)<=6:=v8 W
 generalize fA (b:Int)=N at G Y
 have G:b<2^N:=G
 have Z:1<=N:=by
  cases N with
  |zero=>exact aZ (by assumption) (de.mpr (by assumption))
  |succ _=>exact eB _
 have aes:=v8 hx
 have V:(fA (x:Int)+N-1)/N<=20:=Nat.div_le_of_le_mul (by have:=Nat.le_mul_of_pos_left 19 Z;simp only[rf N 19];exact XZ (by assumption) (by assumption))
 have C:=bits_le (x:=x) Z
 refine(J0 Z Y V ?_).le (lB tT)
 generalize (fA (x:Int)+N-1)/N=nd at C V
 have B:=RT N nd x C
 have f:=W8 N nd x
 have zc:=xy N nd x
 generalize dY N nd x=dl at B f zc
 subst B zc
 intro aq
 refine aO.sub (ρ:=DA N b dl aq 0 []) (aO.for (λ_ _=>rfl) (bK.call (Q1 rfl) rfl (ee (dF 40) (fO.reversed (by rw[xz];exact bd (aV V (by simp))) ⟨λi aC=>∃r H,aC=DA N b dl aq r H/\ow N b dl i r H,⟨0,[],rfl,.zero dl hb⟩,?_,?_,?_⟩)))) (cA.sub ⟨rfl,rfl,rfl,rfl,rfl,trivial⟩)
 ·rintro i _ ⟨r,H,rfl,_⟩;rfl
 ·rintro i d _ hd ⟨r,H,rfl,Dv⟩
  rw[show (gy dl).reverse=gy dl.reverse from wj.symm] at hd
  obtain⟨e,he,rfl⟩:=Vy hd
  refine(Dv.step he (f e (iM.mp (c5 he))) hb).elim λzf Dv'=>?_
  refine c0.name rfl (cw 3 (aj.call (Rq rfl) rfl (ee (dF 40) (bF.Dz r N _ rfl rfl (eO Dv.yY W) (lB tT) (aD Y (lB tT)) rfl ((W9 (a:=r*2^N+e) hb (cg zf (aD (Gg (bd W) (zv (by decide) Y):b*2^N<=2^6*2^6) (lB tT))) (eO W (lT tT)) ⟨?_,?_⟩).le (by simp)).oW))))
  ·have hi:=(ez.mp he).1
   rw[i'] at hi
   rw[xz,Dv.len];exact bd (eO (cg hi V) (lT tT))
  ·refine⟨DA N b dl aq _ _,cA.sub ⟨?_,rfl,rfl,rfl,rfl,trivial⟩,_,_,rfl,Dv'⟩
   dsimp only[gy]
   rw[dK];rfl
 ·rintro _ ⟨r,H,rfl,Dv⟩
  rw[i',xz] at Dv
  refine(Dv.fin hb).elim λf1 f2=>?_
  refine aO.xt (m:=cM.reverse) rfl rfl rfl (λab=>mU rfl _ _ _) ⟨show 0<30 by simp,rfl⟩ (λab=>rfl) ⟨_,kP.reverse (by rw[xz];exact bd (aV (Dv.len▸V:H.length<=20) (lT tT))),?_⟩
  rw[show (gy H).reverse=gy H.reverse from wj.symm]
  refine(JZ Z Y (by rw[i'];exact(Dv.len▸V:H.length<=20)) (λd hd=>Dv.lt d (iM.mp hd)) ⟨rfl,?_⟩).le (lB tT)
  rw[f1]
  subst f2
  exact hk
theorem J1{a b:Int}(V:0<b)(Y:b<64)(H:0<=a)(W:a<2^19)(G:k (.tup [.int (a/b),.int (a%b)])):bJ 95 87 [.int a,.int b] k:=by
 refine bJ.of qg rfl (cL.mk (λh=>aZ (eq_of_beq h) (pq V)) λ_=>cL.mk (λh=>aZ (cY h) (dW.mpr (du V))) λ_=>cL.mk (λh=>aZ (cY h) (dW.mpr H)) λ_=>?_)
 refine(zq H).elim λx Z=>?_;subst Z
 obtain⟨y,rfl⟩:=zq (du V)
 exact aj.call (Qo rfl) rfl (ee (dF 40) (((Vz (eN.mp V) (eN.mp Y) (eN.mp W) G).le (by simp)).oW))
theorem W'{r b:Int}{K:Fl->ay->Prop}(h:aj n (fs 12) ρ e λd=>d=.tup [.int (-q-1),.int (b+(-r-1))])(V:K (.ret (.tup [.int (-q-1),.int (b+(-r-1))])) ρ):aL n (fs 12) ρ [.Return (aa e) p] K:=
 .cons (aO.ret (h.mono λd e=>by subst e;exact V))
theorem J3{a b:Int}(V:0<b)(Y:b<64)(W:a.natAbs<2^19)(Z:k (.tup [.int (a/b),.int (a%b)])):bJ 100 87 [.int a,.int b] k:=by
 by_cases H:0<=a
 ·exact(J1 V Y H (Db W) Z).le (by simp)
 have G:Qv a=-a-1:=rfl
 refine bJ.vr qg rfl (.els (b_ (beq_eq_false_iff_ne.mpr (pq V))) (.els (b_ (eY (dW.mpr (du V)))) (.take (b_ (eS (pA.mp H))) (cw 1 (aj.un (bD (mw.inv ((J1 V Y ?_ ?_ ?_).le (by simp)))))))))
 ·exact G▸ZF H
 ·exact G▸abN W
 refine W' (q:=(-a-1)/b) (r:=(-a-1)%b) (b:=b) (bD (aj.un (bD (mw.inv ?_)))) ?_
 ·exact aj.un (bD (mw.inv rfl))
 rw[(kbt_below a V).1,(kbt_below a V).2] at Z
 rw[show b+(-((-a-1)%b)-1)=b-1-(-a-1)%b by exact ZP _ _]
 exact Z
theorem W_{a b:Int}(H:b≠0)(Y:b.natAbs<64)(W:a.natAbs<2^19)(Z:k (.tup [.int (a.fdiv b),.int (a.fmod b)])):bJ 110 87 [.int a,.int b] k:=by
 by_cases V:0<=b
 ·rw[nv _ V,qw _ V] at Z
  exact(J3 (abO H V) (Db Y) W Z).le (lB tT)
 have G:a.fdiv b=-a/ -b:=by
  rw[<-nv _ (du (Dc V)),FI]
 have C:a.fmod b=-(-a%-b):=by
  rw[<-qw _ (du (Dc V)),Rh,Rh,FI,tO];exact abT _ _
 rw[G,C] at Z
 exact bJ.of qg rfl (cL.mk (λh=>aZ (eq_of_beq h) H) λ_=>cL.mk (λ_=>(J3 (a:=-a) (b:=-b) (Dc V) (ZE Y) (a_neg W) Z).le (by simp)) λh=>aZ (ig h) (λq=>q (pA.mp V)))
noncomputable abbrev yE:String:="ZeroDivisionError"
theorem Io(V:sc.names.lookup (a6 "ZeroDivisionError")=aa cj):bO sc (a6 "ZeroDivisionError") (aK yE):=
 bO.boot V (by intro w;ac_rfl) (by ac_rfl) vJ.boot (dC tT) (by intro a e;cases e)
theorem bj.slots{mt:List ag}{aB:Str->List ag}(H:bj w mu aw aE s g ab sc ρ aB)(hk:∀b o,b∉mt->s.heap.get? b=aa o->h'.get? b=aa o)(Y:s.heap.UpToSlots h')
 (W:∀a∈mt,(aw.heap.get? a=ak\/a∈mu)/\g a=ak/\(∃o,s.heap.get? a=aa o/\∀vs,o.data≠bC vs)/\∀x c,ab.cells.lookup x=aa c->c≠a)
 (hv:∀x b,ρ.lookup x=aa b->(∀a∈mt,a∉aB x)\/∀v,cU w s g ab v (aB x) b->cU w {s with heap:=h',toks:=tk} g ab v (aB x) b):
 bj w mu aw aE {s with heap:=h',toks:=tk} g ab sc ρ aB:=by
 have nc:∀a∈mt,∀o,s.heap.get? a=aa o->cV o:=λa V o e=>by
  obtain⟨_,_,⟨f,e',d⟩,_⟩:=W a V
  obtain rfl:=aW (e.symm.trans e')
  exact cV.of d
 obtain⟨N,S'⟩:=St.changes (tk:=tk) H.gT H.st H.nx H.fz (λa V=>⟨(W a V).1,(W a V).2.1,((W a V).2.2.1).elim λo G=>G.elim λe _=>⟨o,e,nc a V o e⟩⟩) hk
 have MQ:∀x c,ab.cells.lookup x=aa c->∀v,s.heap.IsCell c v->h'.IsCell c v:=λx c hc v G=>G.elim λo G=>G.elim λe d=>⟨o,hk c o (λq=>(W c q).2.2.2 x c hc rfl) e,d⟩
 refine H.gE.elim λm hL=>?_
 have up:∀b o,s.heap.get? b=aa o->∃f,h'.get? b=aa f:=λb o e=>by
  by_cases q:b∈mt
  ·obtain⟨_,_,⟨f,e',d⟩,_⟩:=W b q
   refine(Y b f e' d).elim λsl h=>?_
   exact⟨_,h⟩
  ·exact⟨o,hk b o q e⟩
 refine⟨H.gT,H.fz,S',H.nx.over N λa V=>(W a V).1,H.kind,H.glob,H.gv,H.ks,H.lam,H.ik,⟨m,Y.ns hL⟩,H.iY,λx c h=>?_,H.lw,H.fg,H.e8,λx b h=>?_,λx b h a V=>?_,H.e9⟩
 ·obtain⟨h1,⟨v,h2⟩,h3⟩:=H.cP x c h
  exact⟨h1,⟨v,MQ x c h v h2⟩,h3⟩
 ·obtain⟨v,h1,h2⟩:=H.var x b h
  refine⟨v,?_,(hv x b h).elim (λq=>h2.step N H.st (λa V q'=>q a q' V) λ_ a V o e=>nc a V o e) λq=>q v h2⟩
  rcases h1 with ⟨C,Z,m',B,q4⟩|⟨C,c,Z,B,q4⟩
  ·exact .inl ⟨C,Z,m',Y.ns B,q4⟩
  ·exact .inr ⟨C,c,Z,B,MQ x c Z v q4⟩
 ·refine ba λN_=>?_
  obtain⟨⟨C,o,Z⟩,B⟩:=H.dI x b h a V
  apply N_
  exact⟨⟨C,up a o Z⟩,B⟩
def x5(h:dp)(l:List Env):Prop:=∀e∈l,e.scope.kind≠.module/\∃L o,e.frame=aa L/\h.get? L=aa o/\∀vs,o.data≠bC vs
noncomputable def frs(l:List Env):List ag:=l.filterMap (·.frame)
theorem x5.ac5:∀{l:List Env} {as:List ag},x5 h l->(∀e∈l,∀L,e.frame=aa L->L∈as)->h.FunFrames (hideAll h as) l:=by
 intro G
 induction G with
 |nil=>
  intro _ _ _
  exact trivial
 |cons e r V=>
  intro as H W
  obtain⟨C,L,o,Z,h3,B⟩:=H e bi
  exact⟨C,⟨L,o,Z,hideAll_none _ (W e bi L Z),h3,B⟩,V (λe Y=>H e (bM _ Y)) λe Y=>W e (bM _ Y)⟩
theorem J4{l:List Env}{e:Env}(V:e∈l)(h:e.frame=aa L):L∈frs l:=qI.mpr ⟨e,V,h⟩
theorem Jc{args:List au}{f:ai}{k:List D->Prop}(C:bO sc x f)(G:args.all cu=ae)(h:cn n sc ρ args k)(S:St w s g)(R:Rm n A)(V:c8 w s g ab sc ρ)
 (B:∀vs s' g' ds,Nx [] s g s' g'->St w s' g'->aP w g' vs ds->k ds->wpAny (model PG w) A (call f vs) Q E s'):wpAny (model PG w) A (eval (bU (aS x np) args [] aM) ab) Q E s:=by
 refine lP (C.run w A ab s g ρ S V np _ E ?_)
 refine j8 (P:=λhp=>∃k,(k=jE\/k=jC\/k=jz)/\jN (model PG w) hp (keeperOf f) k) (by rw[(cE G).2];rfl) (λ_ q=>q) ?_
 refine fk (cE G).1 rfl (bg (cn.ok G h w A ab s g aM S R V E) (λvs aA ⟨aN,ds,W,Y,Z,H⟩=>?_))
 exact fB ⟨C.keep w aA aN Y,B vs aA aN ds W Y Z H⟩
theorem TY{a:Int}{l:List Env}(S:St w s g)(R:Rm (n+2) A)(r:aP w g vs [.int a,.int 0])(jx:A.frames=aa l)(hl:x5 s.heap l)(hT:∀L∈frs l,L∉TB)
 (hE:∀e aA aN L h' a0,St w aA aN->Nx [] s g aA aN->s.heap.get? L=ak->aN L=ak->(∃o,aA.heap.get? L=aa o/\∀vs,o.data≠bC vs)->Heap.FlyingW (hideAll aA.heap (L::frs l)) l e (aK yE) a0 h'->aA.heap.UpToSlots h'->E (.ref e) {aA with heap:=h'}):
 wpAny (model PG w) A (call (.ref 87) vs) Q E s:=by
 obtain⟨doc,pm,bA,ct,an,hk,i9⟩:=qg.def_.at_ w
 have C:dR w s g [] (fs 12) [] [] (λ_=>[]):=dR.nil λx e=>by
  have:=ef.mp ((bB _ _).mp ((bB _ _).mp qg.ok).2).1 _ (eA e)
  simp at this
 refine lY (mS (xa (n:=n) (Q:=λ_ _=>False) S R (cW.dat r) (S.df _ _ hk) rfl (CodeRec.of_K S i9) C (.inl rfl) (qg.binds doc pm bA ct an s vs r.1) rfl (λc q e=>ns e) ((bB _ _).mp qg.ok).1 E λab aA aB Z H=>?_) λr s' hr=>?_)
 ·have H:=rE▸H
  have R1:Rm n (A.deeper ab):=(R.le (jF _)).deeper
  have T:bH n (fs 12) (bindR ["a","b"] ([.int a,.int 0].map Bd.dat)) (iQ (aS "b" {line:=100,col:=7,endLine:=100,endCol:=8}) [.Eq] [jH (.int 0) 0 {line:=100,col:=12,endLine:=100,endCol:=13}] {line:=100,col:=7,endLine:=100,endCol:=13}) λc=>c=ae:=b_ rfl
  refine mK (Bl (bg (T.run w _ ab aA g H.st R1 H.cI _) (λc aT ⟨bb,lz,G,hc⟩=>?_)))
  subst hc
  have H2:=H.step lz G
  refine H2.gE.elim λm hm=>?_
  obtain⟨oL,_,_,eL,dL,_⟩:=id hm
  have F:x5 aT.heap (ab::l):=λe W=>by
   rcases bT.mp W with rfl|W
   ·exact⟨by rw[H.kind];decide,_,oL,Z,eL,λvs q=>nomatch dL.symm.trans q⟩
   ·obtain⟨h1,L,o,h2,h3,h4⟩:=hl e W
    exact⟨h1,L,o,h2,(λe W L o q1 q2=>H2.nx.keep L o q2 (hT L (J4 W q1)) (λq=>nomatch q):∀e∈l,∀L o,e.frame=aa L->s.heap.get? L=aa o->aT.heap.get? L=aa o) e W L o h2 h3,h4⟩
  have FF:aT.heap.FunFrames (hideAll aT.heap (ab.locals::frs l)) (ab::l):=F.ac5 λe W L q=>by
   rcases bT.mp W with rfl|W
   ·rw[Z] at q;obtain rfl:=aW q;exact bi
   ·exact bM _ (J4 W q)
  refine mK (Raise_classB R1.2.2 vJ vJ.self ((Io (sc:=fs 12) rfl).run w _ ab aT bb _ G H2.cI _ _ _ ⟨rfl,rfl⟩) λh' e hx=>?_)
  refine ba λN_=>?_
  obtain⟨ob,tp,W,adI,hd⟩:=hx.there
  apply N_
  have NH:(hideAll aT.heap (ab.locals::frs l)).get? e=ak:=by
   induction q:(hideAll aT.heap (ab.locals::frs l)).get? e with
   |none=>rfl
   |some o=>exact ns (hx.new.symm.trans (of_hideAll _ q))
  refine wpAny_leaving_firstW (a0:=tp) (EW jx) (FF.of_keeps λb o hb _=>⟨o,hx.keeps b o hb,rfl⟩) Z W (λb o hb=>hx.keeps b o (of_hideAll _ hb)) NH hd rfl rfl λgd hL=>?_
  refine hL.elim λk1 ac6=>ac6.elim λac7 ac8=>ac8.elim λk3 k4=>ac7.elim λ_ Dd=>Dd.elim λ_ k2=>?_
  exact hE e aT bb ab.locals gd tp G H2.nx (H.iY.resolve_right (λq=>nomatch q):s.heap.get? ab.locals=ak) H2.ik ⟨oL,eL,λvs q=>nomatch dL.symm.trans q⟩ ⟨k1,NH,k2,by exact adI▸k3⟩ ((ad8 hx.keeps).trans k4)
 ·exact nY r hr (λ_ h=>dw h) λ_ h=>h
structure mY(L:ag)(o:Obj)(s:av)(g:aY):Prop where
 at_:∃sl,s.heap.get? L=aa {o with slots:=sl}
 off:g L=ak
 tb:L∉TB
 nf:∀vs,o.data≠bC vs
theorem mY.step(h:mY L o s g)(N:Nx mu s g s' g')(V:L∉mu):mY L o s' g':=
 h.at_.elim λY e=>⟨⟨Y,N.keep L _ e h.tb V⟩,N.old L _ e h.off V,h.tb,h.nf⟩
def mj(d:D)(L:ag)(o:Obj):a9->av->aY->ai->List ag->Prop:=λw s g v ad=>ad=[L]/\Rep w g v d/\mY L o s g
theorem mj.ok:p7 (mj d L o):=λw s g v ad S V=>by
 have Y:=V.1;have W:=V.2.1;have h3:=V.2.2
 subst Y
 exact⟨λa Z=>a_.mp Z▸⟨h3.off,h3.at_.elim λG e=>⟨_,e,h3.nf⟩⟩,λmu s' g' H N=>⟨rfl,W.mono N.gg,h3.step N (H L (a_.mpr rfl))⟩⟩
theorem VA{aB:Str->List ag}{xn:Str}{d0:D}{ep zp hp NI:Pos}{args:List au}{ret:List bw}
 (H:bj w mu aw aE s g ab sc ρ aB)(R:Rm (n+2) A)(jx:A.frames=aa [ab,eL])(he:ab.frame=aa ab.locals)(hL:eL.frame=aa L)(D4:eL.scope.kind≠.module)(hx:ρ.lookup xn=aa (.obj (mj d0 L o)))
 (h1:sc.names.lookup (a6 "int_divmod")=aa cj)(h2:sc.names.lookup (a6 "ZeroDivisionError")=aa cj)(ha:args.all cu=ae)(h:cn (n+2) sc ρ args λds=>∃a:Int,ds=[.int a,.int 0]):
 wpAny (model PG w) A (exec (.Try (.Expr (bU (aS (a6 "int_divmod") np) args [] cp) ep::ret) [.ExceptHandler (aa (aS (a6 "ZeroDivisionError") zp)) ak [.Continue NI] hp] [] [] aM) ab)
  (λf s'=>f=.cont/\∃g',bj w mu aw aE s' g' ab sc ρ aB) E s:=by
 refine ba λN_=>?_
 obtain⟨vx,_,⟨e9,_,K⟩,_⟩:=H.var xn _ hx
 apply N_
 have Lx:L∈aB xn:=by exact e9▸bi
 have Ln:=H.dI xn _ hx L Lx
 have hap:∀x b,ρ.lookup x=aa b->x≠xn->L∉aB x:=λx b e q q'=>H.e9 xn x _ b hx e rfl q.symm L Lx q'
 refine wpAny_Try_except (mK (qW (Jc (F5 h1) ha h H.st R H.cI λvs aA aN ds Z G r qv=>?_) ?_ rfl))
 rotate_left
 ·dsimp only[rj];rw[H.kind];rfl
 refine ba λN_=>?_
 obtain⟨a,rfl⟩:=qv
 have H1:=H.step Z G
 have K1:=K.step Z (λq=>nomatch q)
 have ⟨m,oE,_,_,eE,dE,_⟩:=H1.gE
 have nE:∀vs,oE.data≠bC vs:=λvs q=>nomatch dE.symm.trans q
 refine K1.at_.elim λsl1 eL1=>?_
 apply N_
 have new:∀{s:av} {g:aY} {a:ag},bj w mu aw aE s g ab sc ρ aB->s.heap.get? a=ak->aw.heap.get? a=ak\/a∈mu:=λ{s g a} H e=>by
  by_cases q:a∈mu
  ·exact .inr q
  ·induction e':aw.heap.get? a with
   |none=>exact .inl rfl
   |some o=>refine(H.nx.there a o e' q).elim λo' vA=>?_;exact ns (e.symm.trans vA)
 refine TY G R r jx ?_ ?_ λe aT bb I gd a0 gf C eI gI ⟨oI,eI2,nI⟩ o6 aac=>?_
 ·intro e Es
  rcases bT.mp Es with rfl|Es
  ·exact⟨by rw[H.kind];decide,_,oE,he,eE,nE⟩
  ·obtain rfl:=a_.mp Es
   exact⟨D4,L,_,hL,eL1,K.nf⟩
 ·intro b hb
  have:b=ab.locals\/b=L:=by
   simpa[frs,he,hL] using hb
  rcases this with rfl|rfl
  ·exact H1.st.dQ eE (.inr nE)
  ·exact K.tb
 have H2:=H1.step C gf
 have K2:=K1.step C (λq=>nomatch q)
 refine K2.at_.elim λsl2 Nf=>?_
 have fr:frs [ab,eL]=[ab.locals,L]:=by simp[frs,he,hL]
 replace o6:=fr▸o6
 have Y:∀h',Heap.StaysIn (hideAll aT.heap [I,ab.locals,L]) h'->aT.heap.UpToSlots h'->bj w mu aw aE {aT with heap:=h'} bb ab sc ρ aB:=λh' st up=>by
  refine H2.slots (mt:=[I,ab.locals,L]) (tk:=aT.toks) (λb o q e=>st b o (hideAll_get _ e q)) up (λa ha=>?_) λx b hb=>?_
  ·simp only[bT,ca,or_false] at ha
   rcases ha with rfl|rfl|rfl
   ·refine⟨new H1 eI,gI,⟨oI,eI2,nI⟩,λx c hc q=>?_⟩
    obtain⟨_,⟨v,o',e',_⟩,_⟩:=H1.cP x c hc
    exact sn ((q▸e').symm.trans eI)
   ·exact⟨H2.iY,H2.ik,(H2.gE.elim λm W=>W.elim λo' W=>W.elim λ_ W=>W.elim λ_ W=>W.elim λe' W=>W.elim λd' _=>⟨o',e',λvs q=>nomatch d'.symm.trans q⟩),λx c hc=>(H2.cP x c hc).2.2⟩
   ·exact⟨Ln.1.1 rfl,K2.off,⟨_,Nf,K.nf⟩,Ln.2.2⟩
  ·by_cases q:x=xn
   ·subst q
    obtain rfl:=aW (hx.symm.trans hb)
    exact .inr λv W=>by refine W.elim λac9 r4=>ac9.elim λr1 ada=>ada.elim λr2 r3=>?_;exact⟨⟨r1,r2,((up L _ Nf K.nf).elim λsl e=>⟨sl,e⟩),r3.off,r3.tb,r3.nf⟩,r4⟩
   ·refine .inl λa ha=>?_
    simp only[bT,ca,or_false] at ha
    rcases ha with rfl|rfl|rfl
    ·intro q'
     obtain⟨⟨_,o',e'⟩,_⟩:=H1.dI x b hb a q'
     exact nomatch e'.symm.trans eI
    ·exact λq'=>(H2.dI x b hb _ q').2.1 rfl
    ·exact hap x b hb q
 refine wpAny_looks_onW jx he o6 λjS aad aae=>?_
 refine wpAny_landsW aad λB V aaf=>?_
 have D5:=(aac.trans aae).trans aaf
 refine ba λN_=>?_
 obtain⟨ob,hob,adb⟩:=V.there
 apply N_
 refine wpAny_handleBy_builtin (X:=yE) (T:=yE) (b:=ae) vJ.base (by rw[qZ];kernel_rfl) vJ.self ((Io h2).run w _ ab _ bb _ (Y B V.1 D5).st (Y B V.1 D5).cI _ _ _ ⟨rfl,⟨ob,hob,adb⟩,?_⟩)
 refine lands_againW V λyK aag aah=>?_
 have A5:=Y yK aag.1 (D5.trans aah)
 refine mK ?_
 show wpAny _ _ (do standAt NI;pure S7) _ _ _
 exact jd (a8 ⟨rfl,bb,A5⟩)
noncomputable abbrev Ng:String:="str_ascii_iterator"
structure ZS(z TI TO i1 i2 l:ag)(xs:Array ai)(x:Str)(t:Tok)(f0:ai)(i j:Nat)(h:dp):Prop where
 z:IsZip h z TI TO f0
 ti:l9 h TI (.ref i1) (.ref i2)
 to:∃a b,l9 h TO a b
 i1:h.IsListIter i1 l i
 i2:h.IsStrIter i2 Ng x t j
 l:h.IsList l xs
theorem ZS.but{z TI TO i1 i2 l:ag}{xs:Array ai}{t:Tok}{Y:ai}(Z:ZS z TI TO i1 i2 l xs x t Y i j h)(k:∀b∈[z,TI,TO,i1,i2,l],∀o,h.get? b=aa o->h'.get? b=aa o):ZS z TI TO i1 i2 l xs x t Y i j h':=
 ⟨k _ (bi) _ Z.z,k _ ((bM _ bi)) _ Z.ti,Z.to.elim λa V=>V.elim λb e=>⟨a,b,k _ (bM _ (bM _ bi)) _ e⟩,Z.i1.at λo e=>k i1 (bM _ (bM _ (bM _ bi))) o e,(Z.i2.elim λo V=>V.elim λe r=>⟨o,k _ (by simp) _ e,r⟩),Z.l.at λo e=>k l (by simp) o e⟩
section
variable {fS:l8} {w:a9} {A:bN} {E:ai->av->Prop} {s:av} {z TI TO i1 i2 l:ag} {xs:Array ai} {x:Str} {t:Tok} {i:Nat}
theorem Xa(D:ug z TI TO i1 i2 l l)(Z:ZS z TI TO i1 i2 l xs x t .none i i s.heap)(hv:xs[i]?=aa v)(hc:x.cps[i]?=aa c)
 (hQ:∀h' tk,ZS z TI TO i1 i2 l xs x t (rawInt s.heap.objs.size) (i+1) (i+1) h'->l9 h' s.heap.objs.size v (.str ⟨#[c]⟩ s.toks)->(∀b o,b≠z->b≠TO->b≠i1->b≠i2->s.heap.get? b=aa o->h'.get? b=aa o)->Q (.ref s.heap.objs.size) {s with heap:=h',toks:=tk}):
 wpAny (model fS w) A (Builtin.«zip.__next__» ⟨[.ref z],[]⟩) (λdk s'=>∃v,dk=.done (.ret v)/\Q v s') E s:=by
 refine ba λN_=>?_
 obtain⟨G,C,⟨a,b,NJ⟩,h1,h2,hl⟩:=Z
 apply N_
 show wpAny _ _ (field (.ref z) 2>>=_) _ _ _
 refine w_field G rfl (x:=.bool aH) rfl ?_
 refine w_field G rfl (x:=.ref TI) rfl ?_
 refine lZ C rfl ?_
 refine aJ ?_
 refine w_field G rfl (x:=.none) rfl (a8 ?_)
 dsimp only[if_true]
 refine kg ?_
 refine w_field G rfl (x:=.ref TO) rfl ?_
 refine Ad G (eB _) λk1 z1 V=>?_
 refine aJ ?_
 refine aJ (aJ (Gp ?_))
 refine aJ (wpAny_nextOf_list_item (h1.extBut V.extBut D.i1z) (hl.extBut V.extBut D.l1z) hv λk2 j1 B=>a8 ?_)
 have t2:l9 k2 TO a b:=B.extBut _ _ D.TOi1 (V.extBut _ _ D.TOz NJ)
 refine lZ t2 rfl ?_
 refine FK t2 λk3 t3 f=>?_
 replace t3:l9 k3 TO v b:=t3
 refine xG (a8 ?_)
 refine aJ (aJ (Gp ?_))
 refine aJ (wpAny_nextOf_ascii_item (((h2.extBut V.extBut D.i2z).extBut B.extBut D.i12.symm).extBut f.extBut D.TOi2.symm) hc λk4 j2 Y=>a8 ?_)
 refine lZ (Y.extBut _ _ D.TOi2 t3:l9 k4 TO v b) rfl ?_
 refine FK (Y.extBut _ _ D.TOi2 t3:l9 k4 TO v b) λW t5 s5=>?_
 replace t5:l9 W TO v (.str ⟨#[c]⟩ s.toks):=t5
 refine xG (a8 (a8 ?_))
 refine lZ t5 rfl ?_
 refine wW ?_ (by simp[sizeLine])
 have sz:W.objs.size=s.heap.objs.size:=by simp only[s5.1,Y.1,f.1,B.1,V.1]
 have up:∀b o,b≠z->b≠TO->b≠i1->b≠i2->s.heap.get? b=aa o->W.get? b=aa o:=λb o c1 c2 c3 c4 e=>s5.extBut _ _ c2 (Y.extBut _ _ c4 (f.extBut _ _ c2 (B.extBut _ _ c3 (V.extBut _ _ c1 e))))
 have z5:=s5.extBut _ _ D.TOz.symm (Y.extBut _ _ D.i2z.symm (f.extBut _ _ D.TOz.symm (B.extBut _ _ D.i1z.symm z1)))
 have Nh:z<W.objs.size:=cq z5
 refine aJ ?_
 dsimp only[adN]
 refine Ad (bZ _ z5) (eB _) λk7 z7 s7=>?_
 refine E4 z7 (by simp) λk8 z8 s8=>?_
 have H:∀b o,b≠z->W.get? b=aa o->k8.get? b=aa o:=λb o c1 e=>s8.extBut _ _ c1 (s7.extBut _ _ c1 (bZ _ e))
 have p8:l9 k8 W.objs.size v (.str ⟨#[c]⟩ s.toks):=s8.extBut _ _ (jD Nh) (s7.extBut _ _ (jD Nh) (cB _ rfl))
 refine a8 ⟨_,rfl,?_⟩
 rw[sz] at p8 z8
 rw[sz]
 exact hQ k8 _ ⟨z8,H _ _ D.TIz (up _ _ D.TIz D.TITO D.TIi1 D.TIi2 C),⟨_,_,H _ _ D.TOz t5⟩,(((j1.extBut f.extBut D.TOi1.symm).extBut Y.extBut D.i12).extBut s5.extBut D.TOi1.symm).at λo e=>H _ o D.i1z e,
  ((j2.extBut s5.extBut D.TOi2.symm).elim λo q_=>q_.elim λe r=>⟨o,H _ _ D.i2z e,r⟩),hl.at λo e=>(λe=>H _ _ D.l1z (up _ _ D.l1z D.l1TO D.l1i1 D.l1i2 e):∀{o},s.heap.get? l=aa o->k8.get? l=aa o) e⟩ p8 λb o c1 c2 c3 c4 e=>H b o c1 (up b o c1 c2 c3 c4 e)
theorem YQ{Q:t0->av->Prop}(hh:A.handled=ak)(D:ug z TI TO i1 i2 l l)(Z:ZS z TI TO i1 i2 l xs x t .none i i s.heap)(hv:xs[i]?=ak)
 (hE:∀h' e,(∀b o,b≠z->b≠i1->s.heap.get? b=aa o->h'.get? b=aa o)->(∃o,h'.get? e=aa o/\o.cls=aK "StopIteration")->E (.ref e) {s with heap:=h'}):
 wpAny (model fS w) A (Builtin.«zip.__next__» ⟨[.ref z],[]⟩) Q E s:=by
 refine ba λN_=>?_
 obtain⟨V,H,⟨a,b,NJ⟩,h1,h2,hl⟩:=Z
 apply N_
 show wpAny _ _ (field (.ref z) 2>>=_) _ _ _
 refine w_field V rfl (x:=.bool aH) rfl ?_
 refine w_field V rfl (x:=.ref TI) rfl ?_
 refine lZ H rfl ?_
 refine aJ ?_
 refine w_field V rfl (x:=.none) rfl (a8 ?_)
 dsimp only[if_true]
 refine kg ?_
 refine w_field V rfl (x:=.ref TO) rfl ?_
 refine Ad V (eB _) λk1 f G=>?_
 refine aJ ?_
 refine aJ (aJ (Gp ?_))
 refine aJ (wpAny_nextOf_list_end hh (h1.extBut G.extBut D.i1z) (hl.extBut G.extBut D.l1z) hv λk2 e C he=>?_)
 obtain⟨oe,Y,W⟩:=he
 have B:e≠z:=λq=>by subst q;obtain rfl:=aW (Y.symm.trans (C _ _ D.i1z.symm f));simp at W
 exact E4 (C _ _ D.i1z.symm f) (eB _) λk3 _ s3=>hE k3 e (λb o c1 c3 q=>s3.extBut _ _ c1 (C _ _ c3 (G.extBut _ _ c1 q))) ⟨oe,s3.extBut _ _ B Y,W⟩
theorem Xb{Q:Option ai->av->Prop}(D:ug z TI TO i1 i2 l l)(Z:ZS z TI TO i1 i2 l xs x t .none i i s.heap)(Y:xs[i]?=aa v)(W:x.cps[i]?=aa c)
 (H:∀h' tk,ZS z TI TO i1 i2 l xs x t (rawInt s.heap.objs.size) (i+1) (i+1) h'->l9 h' s.heap.objs.size v (.str ⟨#[c]⟩ s.toks)->(∀b o,b≠z->b≠TO->b≠i1->b≠i2->s.heap.get? b=aa o->h'.get? b=aa o)->Q (aa (.ref s.heap.objs.size)) {s with heap:=h',toks:=tk}):
 wpAny (model fS w) A (pyNext (.ref z)) Q E s:=by
 have V:s.TypeIs (.ref z) "zip":=⟨_,Z.z,rfl⟩
 exact aJ (wE (qA (name:=a6 "__next__") V F.slot_zip_next (j4 F.slot_zip_next V F.entry_zip_next (Xa D Z Y W λh' tk G C B=>a8 (H h' tk G C B)) (F.args_zip_next_1 _))))
theorem Xc{Q:Option ai->av->Prop}(hh:A.handled=ak)(D:ug z TI TO i1 i2 l l)(Z:ZS z TI TO i1 i2 l xs x t .none i i s.heap)(W:xs[i]?=ak)
 (H:∀h',(∀b o,b≠z->b≠i1->s.heap.get? b=aa o->h'.get? b=aa o)->Q ak {s with heap:=h'}):wpAny (model fS w) A (pyNext (.ref z)) Q E s:=by
 have Y:s.TypeIs (.ref z) "zip":=⟨_,Z.z,rfl⟩
 refine aJ (wE (qA (name:=a6 "__next__") Y F.slot_zip_next (j4 F.slot_zip_next Y F.entry_zip_next (YQ hh D Z W λh' e G V=>V.elim λo V=>V.elim λC B=>?_) (F.args_zip_next_1 _))))
 refine rh (T:="StopIteration") (b:=ae) ⟨o,C,B⟩ Gd ?_
 exact a8 (H _ G)
end
noncomputable abbrev yZ(h:dp)(l:ag):dp:=h.push {cls:=aK "list_iterator",data:=bC #[.ref l,.int 0 0]}
abbrev y0(h:dp)(l:ag)(x:Str)(t:Tok):dp:=(yZ h l).push {cls:=aK Ng,data:=bC #[.str x t,.int 0 0]}
abbrev y4(h:dp)(l:ag)(x:Str)(t:Tok):dp:=(y0 h l x t).push {cls:=aK "tuple",data:=.seq #[.ref h.objs.size,.ref (yZ h l).objs.size]}
abbrev vu(h:dp)(l:ag)(x:Str)(t:Tok):dp:=(y4 h l x t).push {cls:=aK "tuple",data:=.seq #[.none,.none]}
abbrev y5(h:dp)(l:ag)(x:Str)(t:Tok):dp:=(vu h l x t).push {cls:=aK "zip",data:=bC #[.none,.bool aH,.bool aH,.ref (y0 h l x t).objs.size,.ref (y4 h l x t).objs.size]}
set_option maxHeartbeats 4000000 in
theorem VB(l:ag)(xs:Array ai)(x:Str)(t:Tok)(W:x.cps.all (·<128)=ae):
 Meets (Builtin.«zip.__new__» ⟨[aK "zip",.ref l,.str x t],[]⟩) (λ_ R s=>s.heap.IsList l xs/\R (.ok (.ret (.ref (vu s.heap l x t).objs.size))) {s with heap:=y5 s.heap l x t}):=
 .of_wp λfS w A R s h=>by
  obtain⟨Z,g,d,tk,os⟩:=s;have V:=h.1;have h:=h.2
  have Y:=sub_zip
  wp_walk using tq (V:Heap.IsList (RF ⟨Z,g,d,tk,os⟩) l xs),E5 W
  exact⟨_,rfl,h⟩
noncomputable def oy(l:List D)(x:Str):List D:=(l.zip (x.cps.toList.map λc=>D.str ⟨#[c]⟩)).map λp=>.tup [p.1,p.2]
theorem Bc(h:l.length<=x.length):(oy l x).length=l.length:=by
 unfold oy
 simp only[aR,Qi,aR]
 exact iN h
theorem Ip(h:(oy l x)[i]?=aa d):∃a c,l[i]?=aa a/\x.cps[i]?=aa c/\d=.tup [a,.str ⟨#[c]⟩]:=by
 unfold oy at h
 rw[ci] at h
 induction q:(l.zip (x.cps.toList.map λc=>D.str ⟨#[c]⟩))[i]? with
 |none=>rw[q] at h;exact ns h
 |some p=>
  rw[q] at h;obtain rfl:=aW h
  have z:=N4.1 q
  induction r:x.cps.toList[i]? with
  |none=>rw[ci,r] at z;exact ns z.2
  |some c=>rw[ci,r] at z;exact⟨_,c,z.1,by simpa using r,by show D.tup [p.1,p.2]=_;rw[<-aW z.2]⟩
theorem cV.f{vs:Array ai}(hd:o.data=bC vs)(h:∀q t,vs[1]?≠aa (.str q t)):cV o:=λ_ q t e V=>h q t (Data.fields.inj (hd.symm.trans e)▸V)
theorem ZS.ob{z TI TO i1 i2 l:ag}{xs:Array ai}{t:Tok}{V:ai}(Z:ZS z TI TO i1 i2 l xs x t V i j h):∀b∈[z,TI,TO,i1,i2],∃o,h.get? b=aa o/\cV o/\o.cls≠.none:=
 fm ⟨_,Z.z,cV.f rfl λ_ _ e=>Fs (aW e),nofun⟩ (fm ⟨_,Z.ti,cV.of λ_=>sf,nofun⟩ (fm (Z.to.elim λa q=>q.elim λb e=>⟨_,e,cV.of λ_=>sf,nofun⟩)
  (fm (Z.i1.elim λo q=>⟨o,q.1,cV.f q.2.2 λ_ _ e=>Fs (aW e),q.2.1▸nofun⟩) (sL (Z.i2.elim λo q=>⟨o,q.1,cV.f q.2.2 λ_ _ e=>Fs (aW e),q.2.1▸nofun⟩)))))
structure DB(h:dp)(a:ag)(iK:Array ai)(x:Str)(t:Tok)(h':dp)(z TI TO i1 i2:ag):Prop where
 za:ug z TI TO i1 i2 a a
 Z:ZS z TI TO i1 i2 a iK x t .none 0 0 h'
 lo:∀b∈[z,TI,TO,i1,i2],h.objs.size<=b
 keep:∀b o,h.get? b=aa o->h'.get? b=aa o
theorem DB.of{V:Array ai}{t:Tok}(C:h.IsList a V)(Y:a<h.objs.size):∃TI TO i1 i2,DB h a V x t (y5 h a x t) (vu h a x t).objs.size TI TO i1 i2:=by
 have W:(yZ h a).objs.size=h.objs.size+1:=gZ ..
 have Z:(y0 h a x t).objs.size=h.objs.size+2:=(gZ ..).trans (aQ (·+1) W)
 have H:(y4 h a x t).objs.size=h.objs.size+3:=(gZ ..).trans (aQ (·+1) Z)
 have G:(vu h a x t).objs.size=h.objs.size+4:=(gZ ..).trans (aQ (·+1) H)
 have p:∀{b o B} {h:dp},h.get? b=aa o->(h.push B).get? b=aa o:=λe=>bZ _ e
 have keep:∀b o,h.get? b=aa o->(y5 h a x t).get? b=aa o:=λb o e=>p (p (p (p (p e))))
 refine⟨(y0 h a x t).objs.size,(y4 h a x t).objs.size,h.objs.size,(yZ h a).objs.size,?_,⟨cB _ rfl,p (p (cB _ rfl)),⟨_,_,p (cB _ rfl)⟩,⟨_,p (p (p (p (cB _ rfl)))),rfl,rfl⟩,⟨_,p (p (p (cB _ rfl))),rfl,rfl⟩,C.at λo e=>keep _ o e⟩,?_,keep⟩
 ·rw[W,Z,H,G];exact zipApart_new Y Y
 ·rw[W,Z,H,G];exact fm (cy _ _) (fm (cy _ _) (fm (cy _ _) (fm (bv _) (sL (cy _ _)))))
theorem D6{b z c d e f:α}(h:b∉[z,c,d,e,f]):b≠z/\b≠d/\b≠e/\b≠f:=
 ⟨λq=>h (q▸bi),λq=>h (q▸bM _ (bM _ bi)),λq=>h (q▸bM _ (bM _ (bM _ bi))),λq=>h (q▸bM _ (bM _ (bM _ (bM _ bi))))⟩
theorem YR{z TI TO i1 i2:ag}{V:Array ai}{t:Tok}(hh:A.handled=aU)(D:ug z TI TO i1 i2 a a)(G:aP w g V.toList l)(hl:l.length<=x.length):
 dz w A g z (b7 ts c p) (oy l x) [z,TI,TO,i1,i2,a] [z,TI,TO,i1,i2] λi h=>ZS z TI TO i1 i2 a V x t .none i i h where
 sub _ Y:=te [a] Y
 frame _ _ _ Z hk:=Z.but hk
 nc _ _ Z b Y:=(Z.ob b Y).elim λo q=>⟨o,q.1,q.2.1⟩
 item i d C Q E hd Z H:=by
  obtain⟨y,ch,hy,hc,rfl⟩:=Ip hd
  have hi:i<V.size:=cg (ez.1 hy).1 (bn G.1.symm)
  have hv:V[i]?=aa V[i]:=nw hi
  refine Xb D Z hv hc λk1 B W P1 f=>⟨_,rfl,?_⟩
  refine wpAny_letOwnedTupleGo_zip W.z λk2 y2 s2=>?_
  exact H _ k2 B (.inr ⟨_,#[V[i],.str ⟨#[ch]⟩ C.toks],_,rfl,⟨_,s2.extBut _ _ (jD (cq Z.z)) P1,rfl,_,rfl⟩,aP.cons (G.2 i _ _ (kB.trans hv) hy) (aP.cons (.str _ _) aP.nil),rfl,_,_,_,rfl⟩)
   ⟨y2,s2.extBut _ _ D.TIz W.ti,(W.to.elim λa q_=>q_.elim λb e=>⟨a,b,s2.extBut _ _ D.TOz e⟩),W.i1.extBut s2.extBut D.i1z,W.i2.extBut s2.extBut D.i2z,W.l.extBut s2.extBut D.l1z⟩ λb o Y e=>
    have n:=D6 Y
    s2.extBut _ _ n.1 (f b o n.1 n.2.1 n.2.2.1 n.2.2.2 e)
 done C Q E Z H:=Xc hh D Z (EL (bn ((Bc hl).trans G.1.symm).symm)) λk1 f=>H k1 C.toks λb o Y e=>f b o (D6 Y).1 (D6 Y).2.2.1 e
 self _ _ _ _ Z H:=P0 Z.z H
theorem fO.ade{k:List D->Prop}(hl:l.length<=x.length)(B:x.length<=10000)(f:x.cps.all (·<128)=ae)(hk:k (oy l x)):fO n (aK "zip") [.lst l,.str x] (b7 ts c p) k:=.mk λw A s g vs S R r E=>by
 obtain⟨v,u,rfl,h1,h2⟩:=r.two
 obtain⟨a,nn,Y,rfl,Z,rl⟩:=h1.lst_inv
 obtain⟨t,rfl⟩:=h2.str_inv
 have C:s.heap.IsList a Y:=⟨_,S.sub _ _ Z,rfl,nn,rfl⟩
 have G:=cq (S.sub _ _ Z)
 refine callType_new F.called_zip (dC tT) (F.typeCall_zip_2 _ _) (F.newCall_zip_2 _ _) (λobj=>F.args_object_init_3 obj _ _) F.entry_zip_new (VB a Y x t f) ⟨C,?_⟩
 refine(DB.of (x:=x) (t:=t) C G).elim λTI q=>q.elim λTO q=>q.elim λi1 q=>q.elim λi2 W=>?_
 generalize (vu s.heap a x t).objs.size=z at W
 generalize y5 s.heap a x t=h' at W
 obtain⟨N,H⟩:=S.ext' (h':=h') (tk:=s.toks) W.keep
 refine⟨⟨_,W.Z.z,rfl⟩,P0 W.Z.z ⟨z,_,_,_,oy l x,g,rfl,N,H,YR R.2.2 W.za rl hl,W.Z,λb V=>h_ S (W.lo b V),λb V=>(cQ (s:=[z,TI,TO,i1,i2]) (t:=[a]).1 V).elim (λV=>(W.Z.ob b V).elim λo q=>⟨H.dQ q.1 (.inl q.2.2),cq q.1,.inl V⟩) λV=>a_.1 V▸⟨H.dQ (H.sub _ _ Z) (.inl nofun),cq (H.sub _ _ Z),.inr ⟨_,Z⟩⟩,aD (bn (Bc hl)) (aD hl B),hk⟩⟩
abbrev oN:=a9->av->aY->ai->List ag->Prop
def sr(R:oN)(b':Bd):Prop:=∀w s g v ad,St w s g->R w s g v ad->∃g' V,St w s g'/\(∀b o,g b=aa o->g' b=aa o)/\(∀b,b∉ad->g' b=g b)/\(∀a∈V,a∈ad)/\∀Y ab,R w s g Y ad->cU w s g' ab Y V b'
section
variable {n:Nat} {sc:bf} {ρ:ay}
theorem bj.turn{aB:Str->List ag}{R:oN}{b':Bd}(H:bj w mu aw aE s g ab sc ρ aB)(f:ρ.lookup x=aa (.obj R))(hf:b'.isFn=aH)(T:sr R b'):
 ∃g' V,bj w mu aw aE s g' ab sc ((x,b')::ρ) V/\(∀b o,g b=aa o->g' b=aa o):=by
 refine ba λW=>?_
 refine(H.var x _ f).elim λv Z=>Z.elim λh1 G=>G.elim λr O=>?_
 apply W
 refine ba λW=>?_
 obtain⟨g',Y,S',up,same,sub,rep⟩:=T w s g v _ H.st r
 apply W
 refine⟨g',_,H.change (mt:=aB x) (io:=Y) f rfl hf ⟨λb o e _ _=>e,λb o e _=>⟨o,e⟩,up,λb o e C hm=>(same b hm).trans C,rfl⟩ S' (λa h=>h) (λa B o e=>?_) (λv' _ q=>rep v' ab q.1) (λa B=>.inl (sub a B)),up⟩
 obtain⟨_,o',C,d⟩:=(O w s g v _ H.st r).1 a B
 obtain rfl:=aW (e.symm.trans C)
 exact cV.of d
theorem aL.turn{R:oN}{b':Bd}{b:List bw}{k:Fl->ay->Prop}(Y:ρ.lookup x=aa (.obj R))(W:b'.isFn=aH)(T:sr R b')(h:aL n sc ((x,b')::ρ) b k):aL n sc ρ b k:=.mk λw A ab mu aw aE s g aB H R E=>by
 obtain⟨g',V,Z,up⟩:=H.turn Y W T
 exact h.run w A ab mu aw aE s g' V Z R E
theorem SI{ad:List ag}(W:∀b,b∉ad->aN b=g b)(Z:∀a∈ad,g a=ak)(N:Nx [] s aN s' bb)(Y:St w s' bb):∃g',Nx [] s g s' g'/\St w s' g':=by
 refine⟨λb=>if b∈ad then ak else bb b,⟨N.keep,N.there,λb o e=>?_,λb o e H G=>?_,N.os⟩,⟨Y.df,Y.gB,Y.blt,Y.lim,Y.bmain,Y.tab,λb o e=>?_,λP C=>?_,Y.gens⟩⟩
 ·have V:b∉ad:=λq=>ns ((Z b q).symm.trans e)
  simp only[be V]
  exact N.gg b o ((W b V).trans e)
 ·by_cases V:b∈ad
  ·simp[V]
  ·rw[be V];exact N.old b o e ((W b V).trans H) G
 ·by_cases V:b∈ad
  ·simp[V] at e
  ·simp only[be V] at e;exact Y.sub b o e
 ·by_cases V:P∈ad
  ·simp[V]
  ·rw[be V];exact Y.off P C
set_option tactic.hygienic true in
theorem bj.mo{aB:Str->List ag}{R:oN}(H:bj w mu aw aE s g ab sc ρ aB)(B:ρ.lookup x=aa (.obj R))(T:sr R (.dat d)):
 ∃aN,St w s aN/\c8 w s aN ab sc ((x,.dat d)::jg ρ)/\(∀b,b∉aB x->aN b=g b)/\∀a∈aB x,g a=ak:=by
 obtain⟨v,h1,r,O⟩:=H.var x _ B
 refine ba λN_=>?_
 obtain⟨aN,f,Z,up,same,sub,rep⟩:=T w s g v _ H.st r
 apply N_
 have cx:∀y c,ab.cells.lookup y=aa c->c∉aB x:=λy c V q=>(H.dI x _ B _ q).2.2 y c V rfl
 have vs:∀y u,fG s g ab y u->fG s aN ab y u:=λy u h=>by
  rcases h with ⟨Y,W,m,q3,q4⟩|⟨Y,c,W,q3,q4⟩
  ·exact .inl ⟨Y,(same _ (λq=>(H.dI x _ B _ q).2.1 rfl:ab.locals∉aB x)).trans W,m,q3,q4⟩
  ·exact .inr ⟨Y,c,W,(same _ (cx _ _ W)).trans q3,q4⟩
 refine⟨aN,Z,⟨H.kind,H.glob,H.gv,H.ks,H.lam,H.e8,λy c V=>⟨(same _ (cx y c V)).trans (H.cP y c V).1,(H.cP y c V).2.1⟩,H.fg,λy b G=>?_⟩,same,λa ha=>(((O w s g v _ H.st r).1) a ha).1⟩
 rw[j7] at G
 split at G
 ·rename_i e
  obtain rfl:=aW G;subst e
  exact⟨v,f,vs _ _ h1,rep v ab r⟩
 ·rcases Gi G with rfl|⟨d,rfl,hd⟩
  ·obtain⟨c,V⟩:=Aw G
   refine(H.var y _ V).elim λu nr=>nr.elim λY _=>?_
   exact⟨u,[],vs _ _ Y,rfl⟩
  ·refine(H.var y _ hd).elim λu qm=>qm.elim λY C=>C.elim λW _=>?_
   exact⟨u,[],vs _ _ Y,W.mono up,rfl⟩
theorem aO.Xd{R:oN}{t:au}{b o:List bw}{k:Fl->ay->Prop}(f:ρ.lookup x=aa (.obj R))(T:sr R (.dat d))(h:bH n sc ((x,.dat d)::jg ρ) t λc=>cL c (aL n sc ρ b k) (aL n sc ρ o k)):aO n sc ρ (.If t b o aM) k:=.mk λw A ab mu aw aE s g aB H R E=>by
 obtain⟨aN,V,Y,same,Z⟩:=H.mo f T
 refine Bl (h.wp V R Y λc s' bb N W G=>?_)
 obtain⟨g',C,B⟩:=SI same Z N W
 induction c with
 |true=>exact(G.t rfl).run w A ab mu aw aE s' g' aB (H.step C B) R E
 |false=>exact(G.f rfl).run w A ab mu aw aE s' g' aB (H.step C B) R E
theorem bj.put{aB:Str->List ag}{R R':oN}(H:bj w mu aw aE s g ab sc ρ aB)(W:ρ.lookup x=aa (.obj R))(f:p7 R')(Z:a∈aB x)(hs:kI a s.heap h')
 (hr:∀v,R w s g v (aB x)->R' w {s with heap:=h',toks:=tk} g v (aB x)):∃Y,bj w mu aw aE {s with heap:=h',toks:=tk} g ab sc ((x,.obj R')::ρ) Y:=by
 refine ba λG=>?_
 refine(H.var x _ W).elim λv C=>C.elim λh1 B=>B.elim λr O=>?_
 apply G
 refine ba λG=>?_
 obtain⟨h3,o,e,d⟩:=(O w s g v _ H.st r).1 a Z
 obtain⟨⟨q1,_⟩,_⟩:=H.dI x _ W a Z
 obtain⟨N,S'⟩:=St.changes (mt:=[a]) (h':=h') (tk:=tk) H.gT H.st H.nx H.fz (λb V=>by
  cases a_.mp V;exact⟨q1 rfl,h3,_,e,cV.of d⟩) (λb o V e=>(hs.2 b (λq=>V (a_.mpr q))).trans e)
 apply G
 refine⟨_,H.change (io:=aB x) W rfl rfl N S' (λb V=>a_.mp V▸Z) (λb V o' e'=>?_) (λv' _ r=>⟨hr v' r.1,f⟩) (λb V=>.inl V)⟩
 cases a_.mp V
 obtain rfl:=aW (e.symm.trans e')
 exact cV.of d
end
section
variable {K:Type} [DecidableEq K] {w:a9} {lK:KeyKind PG w K} {s s':av} {g g':aY} {a:ag} {bh:List (K×ai)}
theorem rB(X:s.heap.DictOf lK a bh):∃o,s.heap.get? a=aa o/\∀vs,o.data≠bC vs:=
 X.elim λo q=>q.elim λes q=>q.elim λep q=>⟨o,q.1,λvs e=>nomatch q.2.2.1.symm.trans e⟩
theorem wP(X:s.heap.DictOf lK a bh)(N:Nx mu s g s' g')(S:St w s g)(V:a∉mu):s'.heap.DictOf lK a bh:=
 (rB X).elim λo q=>X.at λY e=>N.get S e (.inr λvs=>(aW (q.1.symm.trans e))▸q.2 vs) V
end
inductive eZ(l:List (Str×D))(w:a9)(s:av)(g:aY)(v:ai)(ad:List ag):Prop
 |mk (a bh:_) (hv:v=.ref a) (lI:ad=[a]) (hg:g a=ak) (adJ:a≠gp) (hd:s.heap.DictOf (strKind PG w:_) a bh) (hk:ey w g bh l)
theorem eZ.ok{l:List (Str×D)}:p7 (eZ l):=λw s g v ad S R=>by
 obtain⟨a,bh,H,rfl,Y,V,hd,G⟩:=R
 obtain⟨o,W,C⟩:=rB hd
 exact⟨λb B=>a_.mp B▸⟨Y,o,W,C⟩,λmu s' g' Z N=>⟨a,bh,H,rfl,N.old a o W Y (Z a bi),V,wP hd N S (Z a bi),G.mono N.gg⟩⟩
theorem eZ.nil(w:a9)(s:av)(g:aY)(a:ag)(Y:g a=ak)(V:a≠gp)(W:s.heap.get? a=aa {cls:=aK "dict",data:=.dict #[]}):eZ [] w s g (.ref a) [a]:=
 ⟨a,[],rfl,rfl,Y,V,⟨_,#[],0,W,⟨rfl,rfl,rfl⟩,rfl,(λe Z=>nomatch s_.mpr Z),Ta,jZ⟩,ey.nil⟩
theorem eZ.turn{l:List (Str×D)}:sr (eZ l) (.dat (.cO l)):=λw s g v ad S R=>by
 refine ba λC=>?_
 obtain⟨a,bh,hv,rfl,B,V,⟨o,es,ep,G,f,hd,hk,hp,hn⟩,Z⟩:=R
 obtain⟨Y,up⟩:=S.freeze (n:=a) G B (S.dQ G (.inr λvs q=>nomatch hd.symm.trans q))
 apply C
 refine⟨_,[],Y,up,λb hb=>fE _ _ _ λq=>hb (a_.mpr q),nofun,λv' ab r=>⟨?_,rfl⟩⟩
 obtain⟨a',_,H,W,_,_,_,_⟩:=r
 exact(H.trans (aQ _ (j6 W).1.symm))▸xW.rep (g5 _ _ _) V ⟨f,es,ep,bh,hd,hk,hp,hn,Z.mono up⟩
section
variable {n:Nat} {sc:bf} {ρ:ay}
theorem bK.values{t o:au}{k:List D->Prop}(hl:(ap.endLine==aM.line)=ae)(G:∀ab,mR o "values" ab (eval o ab)=eval o ab)
 (h:aj n sc ρ o λa=>∃l:List (Str×D),a=.cO l/\l.length<=10000/\k (l.map (·.2))):bK n sc ρ t (bU (cC o "values" ap) [] [] aM) k:=.mk λw A ab aw aE B R V E=>by
 refine ny (G ab) rfl hl rfl (er (h.run w A ab aw aE B R V E) (λv s ⟨g,a,N,S,Ra,l,ea,DZ,hk⟩=>?_) λ_ _ x=>x)
 subst ea
 obtain⟨ad,C,es,rfl,hg,e_,bh,hD,e1,e2⟩:=uC S Ra
 have hT:=Rep.typeIs S Ra
 refine⟨"dict","dict.values",Of,zm,N9,hT.1,hT.2,?_⟩
 refine nN rfl (fk rfl rfl (a8 (fB ?_)))
 refine GF zm hT.1 N3 (NZ _) (PK (ix PG w) ad (beq_false_of_ne e_)) ⟨⟨bh,hD.dictOf⟩,?_⟩
 refine O6 ⟨_,cB _ rfl,rfl,rfl⟩ (hD.push _) ?_
 rw[gZ]
 have keep:∀b o,s.heap.get? b=aa o->((s.heap.push {cls:=aK "dict_values",data:=bC #[.ref ad]}).push {cls:=aK "dict_valueiterator",data:=bC #[.ref ad,.int 0 0,.int bh.length 0,.int C 0]}).get? b=aa o:=λb o e=>bZ _ (bZ _ e)
 have gI:((s.heap.push {cls:=aK "dict_values",data:=bC #[.ref ad]}).push {cls:=aK "dict_valueiterator",data:=bC #[.ref ad,.int 0 0,.int bh.length 0,.int C 0]}).get? (s.heap.objs.size+1)=aa {cls:=aK "dict_valueiterator",data:=bC #[.ref ad,.int 0 0,.int bh.length 0,.int C 0]}:=by
  have:=cB (s.heap.push {cls:=aK "dict_values",data:=bC #[.ref ad]}) (o:={cls:=aK "dict_valueiterator",data:=bC #[.ref ad,.int 0 0,.int bh.length 0,.int C 0]}) rfl
  rwa [gZ] at this
 generalize (s.heap.push {cls:=aK "dict_values",data:=bC #[.ref ad]}).push {cls:=aK "dict_valueiterator",data:=bC #[.ref ad,.int 0 0,.int bh.length 0,.int C 0]}=h' at*
 refine(S.ext' (h':=h') (tk:=s.toks) keep).elim λf H=>?_
 have bX:=cq (S.sub _ _ hg)
 have adK:ad≠s.heap.objs.size+1:=eC (lU bX)
 have W:=PY (prog:=PG) (w:=w) (knd:=ix PG w) R.2.2 (s.heap.objs.size+1) ad adK bh C
 have kY:bh.length=(l.map (·.2)).length:=by
  have:=aQ gm e1
  rw[aR] at this⊢;rw[this,aR]
 rw[kY] at W
 have gn:∀a,s.heap.objs.size<=a->s.heap.get? a=ak/\g a=ak:=λa ha=>h_ S ha
 have qk:∀a,s.heap.get? a=ak->aw.heap.get? a=ak:=λa e=>by
  cases q:aw.heap.get? a with
  |none=>rfl
  |some o=>refine(N.there a o q nofun).elim λo' e'=>?_;exact ns (e.symm.trans e')
 refine⟨_,[s.heap.objs.size+1,ad],[s.heap.objs.size+1],_,l.map (·.2),g,rfl,N.trans f,H,dz.of W (λi v d hi hv=>let ⟨k,hv⟩:=hv;e2.2 i v d (by rw[ci,hv];rfl) hi) (λi h hJ b G=>?_) (λi h hJ=>?_),⟨⟨_,gI,rfl,by rw[<-kY];rfl⟩,hD.at' λo e=>keep _ _ e⟩,λb G=>?_,λb G=>?_,by rw[aR];exact DZ,hk⟩
 ·obtain⟨o,ho,hc,hd⟩:=hJ.1
  obtain rfl:=a_.mp G
  exact⟨o,ho,λvs q t e e'=>by replace e:=hd▸e;cases e;cases e'⟩
 ·obtain⟨o,ho,hc,hd⟩:=hJ.1
  exact⟨o,_,_,ho,hc,hd,rfl⟩
 ·obtain rfl:=a_.mp G
  have:=gn (s.heap.objs.size+1) (jF _)
  exact⟨qk _ this.1,this.2⟩
 ·rcases bT.mp G with rfl|G
  ·exact⟨H.dQ gI (.inl (by simp)),cq gI,.inl bi⟩
  ·cases a_.mp G
   exact⟨H.dQ (H.sub _ _ hg) (.inl (by simp)),cq (H.sub _ _ hg),.inr ⟨_,hg⟩⟩
end
theorem stored_new{K:Type}[DecidableEq K]{bh:List (K×ai)}{x:K}{v:ai}(h:x∉bh.map (·.1)):stored bh x v=bh++[(x,v)]:=by
 unfold Rd
 rw[be]
 rw[tz]
 rintro⟨p,V,e⟩
 exact h (bL.mpr ⟨p,V,cY e⟩)
theorem Xe{D:ag}{es:Array dy}{bh:List (Int×ai)}{l:List (Int×Mine.Internal.D)}(C:g D=aa o)(Y:D≠gp)(B:o.ExactDict)(hd:o.data=.dict es ep)(f:KeysOf (intKind PG w) es)(hp:x9 (intKind PG w) es.toList bh)(hn:(bh.map (·.1)).Nodup)(H:ey w g bh l):Rep w g (.ref D) (.eu l):=by
 have W:=ey.idx hp H
 refine .eu D ep es l (C.trans (aQ _ (Hq B hd))) W.1 ⟨H.fst▸hn,Y⟩ (λi e x d V Z=>?_) λi e x d V Z=>(W.2 i e x d V Z).2
 obtain⟨k',q1,q2⟩:=f e (s_.mp (c5 V))
 refine(Ff (W.2 i e x d V Z).1).elim λt G=>?_
 exact⟨⟨t,G⟩,(isInt_iff.mp (G▸q1:px k' (.int x t)=ae))▸q2⟩
inductive il(x:Option Str)(b:ag)(l:List (Str×D))(m:List (Int×D))(w:a9)(s:av)(g:aY)(v:ai)(ad:List ag):Prop
 |mk (a bh ks) (hv:v=.ref a) (lI:ad=[a,b]) (e_:a≠b) (hga:g a=ak) (hgb:g b=ak) (ha:a≠gp) (hb:b≠gp) (hd:s.heap.DictOf (strKind PG w) a (bh++(x.toList.map λy=>(y,.ref b)))) (hk:ey w g bh l) (hi:s.heap.DictOf (intKind PG w) b ks) (hik:ey w g ks m)
theorem il.ok{x:Option Str}{b:ag}{l:List (Str×D)}{m:List (Int×D)}:p7 (il x b l m):=λw s g v ad S R=>by
 obtain⟨a,bh,ks,hv,rfl,H,V,Y,ha,hb,hd,hk,hi,G⟩:=R
 refine ba λN_=>?_
 obtain⟨o,B,hf⟩:=rB hd
 obtain⟨f,W,C⟩:=rB hi
 apply N_
 have m1:a∈[a,b]:=bi
 have m2:b∈[a,b]:=bM _ bi
 exact⟨λc hc=>(bT.mp hc).elim (λe=>e▸⟨V,o,B,hf⟩) λh=>a_.mp h▸⟨Y,f,W,C⟩,λmu s' g' Z N=>⟨a,bh,ks,hv,rfl,H,N.old a o B V (Z a m1),N.old b f W Y (Z b m2),ha,hb,wP hd N S (Z a m1),hk.mono N.gg,wP hi N S (Z b m2),G.mono N.gg⟩⟩
theorem il.turn{b:ag}{l:List (Str×D)}{m:List (Int×D)}:sr (il (aa x) b l m) (.obj (eZ (l++[(x,.eu m)]))):=λw s g v ad S R=>by
 refine ba λN_=>?_
 obtain⟨a,bh,ks,hv,rfl,Z,H,G,ha,hb,hd,hk,⟨o,es,ep,ho,hx,V,C,hp,hn⟩,B⟩:=R
 obtain⟨Y,up⟩:=S.freeze (n:=b) ho G (S.dQ ho (.inr λvs q=>nomatch V.symm.trans q))
 apply N_
 refine⟨_,[a],Y,up,λc f=>fE _ _ _ λq=>f (q▸bM _ bi),λc f=>a_.mp f▸bi,λv' ab r=>⟨?_,eZ.ok⟩⟩
 obtain⟨a',_,_,hv2,W,_,_,_,_,_,o3,vC,_,_⟩:=r
 obtain rfl:=(j6 W).1
 exact⟨a,_,hv2,rfl,(fE _ _ _ Z).trans H,ha,o3,(vC.mono up).snoc (Xe (g5 _ _ _) hb hx V C hp hn (B.mono up))⟩
theorem SJ{K Y:Type}[DecidableEq K][DecidableEq Y]{w:a9}{lK:KeyKind PG w K}{V:KeyKind PG w Y}{h:dp}{a:ag}(X:h.DictOf lK a []):h.DictOf V a []:=by
 refine ba λZ=>?_
 obtain⟨o,es,ep,H,G,hd,_,W,_⟩:=X
 have e:es=#[]:=by
  generalize C:es.toList=q at W
  cases W
  exact Array.toList_eq_nil_iff.mp C
 subst e
 apply Z
 exact⟨o,#[],ep,H,G,hd,(λe B=>nomatch s_.mpr B),Ta,jZ⟩
section
variable {n:Nat} {sc:bf} {ρ:ay}
theorem bj.us{aB:Str->List ag}{R:oN}(H:bj w mu aw aE s g ab sc ρ aB)(Y:ρ.lookup x=aa (.obj R)):∃v,fG s g ab x v/\R w s g v (aB x):=(H.var x _ Y).elim λv V=>V.elim λh V=>V.elim λr _=>⟨v,h,r⟩
theorem ut{aB:Str->List ag}(H:bj w mu aw aE s g ab sc ρ aB)(h:fG s g ab x v)(V:ce x=ae)(Y:Q v s):wpAny (model PG w) A (eval (aS x p) ab) Q E s:=
 eQ (d3 H.kind h V Y) (d4 V)
theorem RV{p q:Str}{B C Y:Bd}{u:Str}{c:Bd}(h:jb u ((p,B)::(q,C)::ρ)=aa c):jb u ((p,B)::(q,C)::(p,Y)::ρ)=aa c:=by
 by_cases e:u=p
 ·subst e;rw[lookup_cons_self] at h⊢;exact h
 ·rw[fj e] at h⊢
  by_cases V:u=q
  ·subst V;rw[lookup_cons_self] at h⊢;exact h
  ·rw[fj V] at h⊢;exact(fj e).trans h
theorem J5{aB:Str->List ag}{t1 t2 t3:Pos}{R R':oN}{Q:Unit->av->Prop}(H:bj w mu aw aE s g ab sc ρ aB)(hx:ρ.lookup x=aa (.obj R))(hy:ρ.lookup y=aa (.dat (.str z)))(G:ce x=ae)(C:ce y=ae)
 (O':p7 R')(ea:a∈aB x)(Y:∀Z,R w s g Z (aB x)->Z=.ref a)(hd:s.heap.DictOf (strKind PG w) a bh)(hz:z∉bh.map (·.1))(hl:bh.length<=10000)
 (hr:∀h',h'.DictOf (strKind PG w) a (bh++[(z,v)])->kI a s.heap h'->R' w {s with heap:=h',toks:=s.toks+1} g (.ref a) (aB x))
 (hQ:∀h' V,bj w mu aw aE {s with heap:=h',toks:=s.toks+1} g ab sc ((x,.obj R')::ρ) V->Q () {s with heap:=h',toks:=s.toks+1}):
 wpAny (model PG w) A (Ap (dN (aS x t1) (aS y t2) t3) ab v) Q E s:=by
 refine ba λN_=>?_
 obtain⟨vx,B,rx⟩:=H.us hx
 obtain⟨vy,f,ry⟩:=H.var y _ hy
 obtain rfl:=Y vx rx
 obtain⟨ty,rfl⟩:=ry.1.str_inv
 apply N_
 simp only[arm_assign_Subscript]
 refine aJ (eM (ut H B G ?_))
 refine aJ (eM (ut H f C ?_))
 refine jd ?_
 refine aJ (eM (O8 (knd:=strKind PG w) (k:=z) (kvs:=bh) (rk.mpr rfl:gl z (.str z ty)=ae) hd (λh' W hs=>?_) (aD hl (lB tT))))
 rw[stored_new hz] at W
 obtain⟨V,H'⟩:=H.put (tk:=s.toks+1) hx O' ea hs λZ r=>Y Z r▸hr h' W hs
 exact wpAny_release (hQ h' V H')
theorem aO.Xf{xs G:Str}{t1 t2 t3 t4 t5 t6 tp ep:Pos}{e1 e2:au}{l m:List (Str×D)}{k:Fl->ay->Prop}(h1:ρ.lookup xs=aa (.obj (eZ l)))(h2:ρ.lookup G=aa (.obj (eZ m)))(h3:ρ.lookup y=aa (.dat (.str z)))(e_:xs≠G)(hy1:y≠xs)(Ni:y≠G)
 (ok:(ce xs&&(ce G&&ce y))=ae)(hz1:z∉l.map (·.1))(hz2:z∉m.map (·.1))(hl:l.length<=10000/\m.length<=10000)(he:[e1,e2].all cu=ae)(hV:∀ab,Ag [b7 [dN (aS xs t1) (aS y t2) t3,dN (aS G t4) (aS y t5) t6] c tp] (b7 [e1,e2] c' ep) aM.line ab=pure aH)
 (hw:∀ab,mQ [b7 [dN (aS xs t1) (aS y t2) t3,dN (aS G t4) (aS y t5) t6] c tp] (b7 [e1,e2] c' ep) ab=pure aU)
 (h:f8 n sc ρ [e1,e2] λbs=>∃d,bs=[.dat d,.obj (eZ [])]/\∀b,k .next ((G,.obj (il (aa z) b m []))::(xs,.obj (eZ (l++[(z,d)])))::ρ)):
 aO n sc ρ (fe [b7 [dN (aS xs t1) (aS y t2) t3,dN (aS G t4) (aS y t5) t6] c tp] (b7 [e1,e2] c' ep) aM) k:=.mk λw A ab mu aw aE s g aB H R E=>by
 have ok:=(bB _ _).mp ok
 have sV:=(bB _ _).mp ok.2
 refine Ao (zA (bg (f8.ok he h w A ab s g ep H.st R H.cI E) λvs aA o=>?_)) (hV ab) (hw ab)
 refine ba λB=>?_
 obtain⟨aN,bs,bX,Y,f,W,fr,d,rfl,hk⟩:=o
 obtain⟨v1,v2,rfl⟩:=Kk W.len
 obtain⟨ad1,ad2,rfl⟩:=Kk W.len'
 apply B
 refine⟨by show 2<=2^24;decide,?_⟩
 obtain⟨b,kb,rfl,rfl,gb,adf,hdb,hkb⟩:=(W.rep 1 v2 _ ad2 rfl rfl rfl).1
 refine ba λB=>?_
 cases hkb
 apply B
 have My:s.heap.get? b=ak:=fr [b] (bM _ bi) b bi
 refine ba λB=>?_
 obtain⟨vh,Nj,ah,kh,rfl,Nk,ga,aet,NK,hka⟩:=H.us h2
 apply B
 have H1:=H.change (mt:=[]) (io:=[ah,b]) (b':=.obj (il aU b m [])) h2 rfl rfl Y f nofun nofun (λv _ r=>by
  obtain⟨⟨a',k',C,V,ga',sa',Z,jW⟩,_⟩:=r
  obtain rfl:=(j6 (Nk.symm.trans V)).1
  exact⟨⟨ah,k',[],C,rfl,(λq=>(rB NK).elim λo q2=>nomatch (q▸My:s.heap.get? ah=ak).symm.trans q2.1:ah≠b),ga'|>λq=>(rB Z).elim λo q2=>Y.old _ _ q2.1 q nofun,gb,sa',adf,(cR k').symm▸wP Z Y H.st nofun,jW.mono Y.gg,SJ hdb,.nil⟩,il.ok⟩) (λa ha=>by
  rcases bT.mp ha with rfl|ha
  ·exact .inl (Nk▸bi)
  ·exact .inr (a_.mp ha▸My))
 have hT:(aA.heap.push {cls:=aK "tuple",data:=.seq [v1,.ref b].toArray}).IsTuple aA.heap.objs.size #[v1,.ref b]:=⟨_,cB _ rfl,rfl,_,rfl⟩
 refine zG R.2.2 hT rfl rfl λjS aai=>?_
 refine(f.ext' (h':=jS) (tk:=aA.toks) λb o e=>ExtBut.keeps aai b o (bZ _ e)).elim λgw ij=>?_
 have H3:=H1.step gw ij
 generalize (λy=>if y=G then [ah,b] else aB y)=aeu at H3
 have l1:jb xs ((G,.obj (il aU b m []))::ρ)=aa (.obj (eZ l)):=(fj e_).trans h1
 refine ba λB=>?_
 obtain⟨_,_,as,ks,_,D7,gs,ss,qv,jV⟩:=H3.us l1
 apply B
 refine zl (J5 H3 l1 ((fj Ni).trans h3) ok.1 sV.2 eZ.ok (D7▸bi) (λv' r=>?_) qv (jV.fst▸hz1) (by rw[<-aR,jV.fst,aR];exact hl.1) (λh' Z hs=>⟨as,_,rfl,D7,gs,ss,Z,jV.snoc ((W.rep 0 v1 _ ad1 rfl rfl rfl).1:Rep w aN v1 d)⟩) λMN aev H4=>?_)
 ·obtain⟨a',_,C,V,_,_,_,_⟩:=r
  exact C.trans (aQ _ (j6 (V.symm.trans D7)).1)
 have l2:jb G ((xs,Bd.obj (eZ (l++[(z,d)])))::(G,.obj (il aU b m []))::ρ)=aa (.obj (il aU b m [])):=(fj e_.symm).trans lookup_cons_self
 refine ba λB=>?_
 obtain⟨_,_,a2,k2,i2,_,D8,Mz,ga2,gb2,sa2,sb2,o3,vC,Et,adg⟩:=H4.us l2
 apply B
 refine zl (J5 (R':=il (aa z) b m []) H4 l2 ((fj hy1).trans ((fj Ni).trans h3)) sV.1 sV.2 il.ok (D8▸bi) (λv' r=>?_) (cR k2▸o3) (vC.fst▸hz2) (by rw[<-aR,vC.fst,aR];exact hl.2) (λh' Z hs=>⟨a2,k2,i2,rfl,D8,Mz,ga2,gb2,sa2,sb2,Z,vC,Et.sameBut hs Mz.symm,adg⟩) λyK adh H5=>EG ⟨aN,_,.next,adh,H5.weaken λu c hu=>RV hu,trivial,hk b⟩)
 obtain⟨a',_,_,C,V,_,_,_,_,_,_,_,_,_⟩:=r
 exact C.trans (aQ _ (j6 (V.symm.trans D8)).1)
theorem Ry(h:((bh++[(x,v)]).map (·.1)).Nodup):valueAt (bh++[(x,v)]) x=aa v:=by
 have V:bh.find? (λY=>decide (Y.1=x))=aU:=List.find?_eq_none.mpr λp W q=>by
  rw[dK] at h
  exact(kG.mp h).2.2 p.1 (bL.mpr ⟨p,W,rfl⟩) x (bi) (cY q)
 unfold valueAt
 simp only[List.find?_append,V]
 simp
theorem aO.putIn{B f:Str}{t1 t2 t3 t4 t5:Pos}{b:ag}{l:List (Str×D)}{m:List (Int×D)}{c:Int}{k:Fl->ay->Prop}(h1:ρ.lookup B=aa (.obj (il (aa z) b l m)))(h2:ρ.lookup y=aa (.dat (.str z)))(h3:ρ.lookup f=aa (.dat (.int c)))
 (ok:(ce B&&(ce y&&ce f))=ae)(hc:c∉m.map (·.1))(hm:m.length<=10000)(hV:∀ab,iA e (aa (dN (dN (aS B t1) (aS y t2) t3) (aS f t4) t5)) aM.line ab=pure aH)
 (h:aj n sc ρ e λd=>k .next ((B,.obj (il (aa z) b l (m++[(c,d)])))::ρ)):aO n sc ρ (fe [dN (dN (aS B t1) (aS y t2) t3) (aS f t4) t5] e aM) k:=.mk λw A ab mu aw aE s g aB H R E=>by
 have ok:=(bB _ _).mp ok
 have sV:=(bB _ _).mp ok.2
 refine zr (h.wp H.st R H.cI λv aA aN d vg W mr hk=>?_) (hV ab)
 have H1:=H.step vg W
 refine ba λZ=>?_
 obtain⟨vh,Nj,a,bh,ks,rfl,G,zf,ga,gb,sa,sb,hd,hkv,hi,C⟩:=H1.us h1
 obtain⟨vy,hvy,ry⟩:=H1.var y _ h2
 apply Z
 refine ba λZ=>?_
 obtain⟨ty,rfl⟩:=ry.1.str_inv
 have X:=W.ext' (h':=aA.heap) (tk:=aA.toks+1) λ_ _ e=>e
 have H2:=H1.step X.1 X.2
 obtain⟨vc,hvc,rc⟩:=H2.var f _ h3
 apply Z
 refine ba λZ=>?_
 obtain⟨tc,rfl⟩:=rc.1.int_inv
 apply Z
 refine ba λZ=>?_
 obtain⟨o,es,ep,ho,hx,hdt,hky,hp,hn⟩:=id hd
 apply Z
 refine AJ (ut H1 Nj ok.1 (ut H1 hvy sV.1 (Bk ⟨o,ho,hx.1⟩ Fg.lookup (Fv (knd:=strKind PG w) (v:=.ref b) (rk.mpr rfl:gl z (.str z ty)=ae) hd.mapOf (Ry hn) ?_) rfl)))
 refine ut H2 hvc sV.2 (O8 (knd:=intKind PG w) (k:=c) (kvs:=ks) (isInt_iff.mpr rfl:px c (.int c tc)=ae) hi (λjS V Y=>?_) (by rw[<-aR,C.fst,aR];exact aD hm (lB tT)))
 rw[stored_new (C.fst▸hc)] at V
 obtain⟨adi,H3⟩:=H2.put (tk:=aA.toks+1+1) (R':=il (aa z) b l (m++[(c,d)])) h1 il.ok (a:=b) (G▸bM _ bi) Y λv r=>by
  obtain⟨a',_,_,hv',adj,_,_,_,_,_,_,_,_,_⟩:=r
  exact⟨a,bh,_,hv'.trans (aQ _ (j6 (adj.symm.trans G)).1),G,zf,ga,gb,sa,sb,hd.sameBut Y zf,hkv,V,C.snoc mr⟩
 exact⟨aN,_,.next,adi,H3,trivial,hk⟩
end
open SeqAt in
theorem bq.LI{k:Bool->Prop}(Z:k (!l.isEmpty)):bq n .NotEq (.lst l) (.lst []) k:=.mk λw A s g v u S R C B E=>by
 have H:A.units<cLine:=by have:=R.2.1;show _<9900;exact aV (aD (cy _ _) this) (by simp)
 obtain⟨a,af,rfl,G,f⟩:=C.n_ S
 obtain⟨a',V,rfl,Y,W⟩:=B.n_ S
 have z:V.size=0:=by have:=W.1;exact this
 have y:af.size=l.length:=by have:=f.1;exact this
 induction l with
 |nil=>
  have:=RcNeAt.lists (A:=A) G Y (y.trans z.symm) H (e:=λ_=>ae) λj h1 h2=>by exact aZ (z▸h2) (z6 _)
  exact this _ _ _ _ ⟨!(dM af.size).all λ_=>ae,g,rfl,Nx.refl _ _ _,S,by exact y▸Z⟩
 |cons x l=>
  exact RcNeAt.lists_lengths (A:=A) G Y (by rw[y,z];rfl) H _ _ _ _ ⟨ae,g,rfl,Nx.refl _ _ _,S,Z⟩
def jR(w:a9)(A:bN)(ab:Env)(mu:List ag)(aw:av)(aE:aY)(sc:bf)(ρ:ay)(b:List bw)(k:Fl->ay->Prop):Prop:=
 ∀s g aB,bj w mu aw aE s g ab sc ρ aB->∀E,wpAny (model PG w) A (execs b ab) (Fin w mu aw aE ab sc k) E s
section
variable {n:Nat} {sc:bf} {ρ:ay} {w:a9} {A:bN} {ab:Env} {mu:List ag} {aw:av} {aE:aY} {k:Fl->ay->Prop}
theorem aL.Xg{b:List bw}(R:Rm n A)(h:aL n sc ρ b k):jR w A ab mu aw aE sc ρ b k:=λs g aB H E=>h.run w A ab mu aw aE s g aB H R E
def aaj(w:a9)(A:bN)(ab:Env)(mu:List ag)(aw:av)(aE:aY)(sc:bf)(r:List bw)(k:Fl->ay->Prop):Fl->ay->Prop:=λfl ρ=>match fl with
 |.next=>jR w A ab mu aw aE sc ρ r k
 |.brk=>k .brk ρ
 |.cont=>k .cont ρ
 |.ret d=>k (.ret d) ρ
theorem jR.cons{st:bw}{r:List bw}(R:Rm n A)(h:aO n sc ρ st (aaj w A ab mu aw aE sc r k)):jR w A ab mu aw aE sc ρ (st::r) k:=λs g aB H E=>by
 refine mK (bg (h.run w A ab mu aw aE s g aB H R E) (λf aA ⟨aN,G,fl,V,Y,W,Z⟩=>?_))
 induction f<;>induction fl<;>first|exact W.elim|exact Z _ _ _ Y E|exact⟨aN,G,_,V,Y,W,Z⟩
theorem jR.YS{t:au}{st:bw}{r:List bw}(R:Rm n A)(h:bH n sc ρ t λc=>cL c (∀s g aB,bj w mu aw aE s g ab sc ρ aB->∀E,wpAny (model PG w) A (exec st ab) (λf s'=>f=.cont/\k .cont ρ/\∃g',bj w mu aw aE s' g' ab sc ρ aB) E s) (jR w A ab mu aw aE sc ρ r k)):
 jR w A ab mu aw aE sc ρ (.If t [st] [] aM::r) k:=λs g aB H E=>by
 refine mK (Bl (h.wp H.st R H.cI λc aA aN V Y W=>?_))
 induction c with
 |true=>
  refine mK (bg (W.t rfl _ _ _ (H.step V Y) E) (λf aT Z=>Z.elim λG Z=>Z.elim λC Z=>Z.elim λbb B=>?_))
  subst G
  exact⟨bb,ρ,.cont,aB,B,trivial,C⟩
 |false=>exact wq (W.f rfl _ _ _ (H.step V Y) E)
set_option tactic.hygienic true in
theorem bj.adk{aB:Str->List ag}(H:bj w mu aw aE s g ab sc ρ aB)(B:ρ.lookup x=aa (.obj (mj d L o))):c8 w s g ab sc ((x,.dat d)::ρ):=by
 have V:=H.cI
 refine⟨V.kind,V.glob,V.gv,V.ks,V.lam,V.e8,V.cP,V.fg,λy b Y=>?_⟩
 rw[j7] at Y
 split at Y
 ·rename_i e
  obtain rfl:=aW Y;subst e
  refine ba λf=>?_
  refine(H.var y _ B).elim λv W=>W.elim λh1 Z=>Z.elim λG _=>G.elim λ_ C=>C.elim λh2 _=>?_
  apply f
  exact⟨v,[],h1,h2,rfl⟩
 ·exact V.var y b Y
end
noncomputable def su(a0 Y W G V Z H C c:Int):Int:=(W*(Y-a0)+(G-W)*(c-a0))*(Z-V)-(H*(Z-V)+(C-H)*(c-V))*(Y-a0)
theorem kR{x y:Int}{X Y:Nat}(V:x.natAbs<=X)(W:y.natAbs<=Y):(x*y).natAbs<=X*Y:=by
 rw[Int.natAbs_mul];exact Gg V W
theorem nab{x:Int}{B:Nat}(h:-(B:Int)<=x/\x<=B):x.natAbs<=B:=(Int.natAbs_eq x).elim (λe=>fX.mp (dh (ja e.symm) h.2))
 λe=>fX.mp (dh (ja ((aQ Neg.neg e).trans (pv _)).symm) (ES h.1))
theorem kT{x a b:Int}{B:Nat}(h:a<=x)(V:x<=b)(k:-(B:Int)<=a/\b<=B):x.natAbs<=B:=nab ⟨dh k.1 h,dh V k.2⟩
theorem u0{p:Int}{P Q:Nat}(V:p.natAbs<=P)(Y:q.natAbs<=Q):(p+q).natAbs<=P+Q:=aD (wa p q) (fW V Y)
theorem gU{p:Int}{P Q:Nat}(V:p.natAbs<=P)(Y:q.natAbs<=Q):(p-q).natAbs<=P+Q:=aD (PC p q) (fW V Y)
theorem lq{x y:Int}{X:Nat}(h:X<2^60)(V:x.natAbs<=X):xm x y:=mulL (aV V h)
set_option maxHeartbeats 8000000 in
theorem xA{a0 W Z H G C B f c:Int}(h0:a0.natAbs<=1000)(h1:W.natAbs<=1000)(V:Z.natAbs<=1000)(h3:H.natAbs<=1000)(g0:G.natAbs<=1000)(g1:C.natAbs<=1000)(Y:B.natAbs<=1000)(g3:f.natAbs<=1000)(gc:c.natAbs<=1000)
 {k:D->Prop}(hk:k (.int (su a0 W Z H G C B f c))):bJ 5 269 [.tup [.int a0,.int W,.int Z,.int H],.tup [.int G,.int C,.int B,.int f],.int c] k:=by
 refine bJ.of aaa rfl ?_
 exact .intro (lq (by decide) V)<|.intro (lq (by decide) (gU h3 V))<|.intro (lq (by decide) Y)<|.intro (lq (by decide) (gU g3 Y))<|.intro (lq (by decide) (u0 (kR V (gU h1 h0)) (kR (gU h3 V) (gU gc h0))))<|.intro (lq (by decide) (u0 (kR Y (gU g1 g0)) (kR (gU g3 Y) (gU gc g0)))) hk
theorem RW{a0 Y W Z H G C B c:Int}(V:a0.natAbs<=1000)(f:Y.natAbs<=1000)(h2:W.natAbs<=1000)(h3:Z.natAbs<=1000)(g0:H.natAbs<=1000)(g1:G.natAbs<=1000)(g2:C.natAbs<=1000)(g3:B.natAbs<=1000)(gc:c.natAbs<=1000):
 (su a0 Y W Z H G C B c).natAbs<2^60:=
 aV (gU (kR (u0 (kR h2 (gU f V)) (kR (gU h3 h2) (gU gc V))) (gU g1 g0)) (kR (u0 (kR g2 (gU g1 g0)) (kR (gU g3 g2) (gU gc g0))) (gU f V))) (lT tT)
def x6(a0 V Z H Y W G C:Int):Bool:=decide (min V W<max a0 Y)||decide (0<su a0 V Z H Y W G C (max a0 Y)*su a0 V Z H Y W G C (min V W))
theorem CZ{a b:Int}{X:Nat}(h:a.natAbs<=X)(g:b.natAbs<=X):(max a b).natAbs<=X/\(min a b).natAbs<=X:=by
 rcases Ri a b with q|q
 ·rw[qQ q,wo q];exact⟨g,h⟩
 ·rw[FM q,zS q];exact⟨h,g⟩
set_option maxHeartbeats 8000000 in
theorem TZ{a0 W B f Z H b2 b3:Int}(Y:a0.natAbs<=1000)(G:W.natAbs<=1000)(h2:B.natAbs<=1000)(h3:f.natAbs<=1000)(g0:Z.natAbs<=1000)(C:H.natAbs<=1000)(g2:b2.natAbs<=1000)(g3:b3.natAbs<=1000)
 {k:D->Prop}(V:k (.bool (x6 a0 W B f Z H b2 b3))):bJ 8 276 [.tup [.int a0,.int W,.int B,.int f],.tup [.int Z,.int H,.int b2,.int b3]] k:=by
 refine bJ.of aab rfl ?_
 refine cL.mk (λh=>?_) (λh=>?_)
 ·show k (.bool (decide (min W H<max a0 Z)))
  unfold x6 at V;rw[h] at V⊢;exact V
 ·refine(xA Y G h2 h3 g0 C g2 g3 ((CZ Y g0).1) ?_).le (lB tT)
  refine(xA Y G h2 h3 g0 C g2 g3 ((CZ G C).2) ?_).le (lB tT)
  refine bQ (mulL (RW Y G h2 h3 g0 C g2 g3 ((CZ Y g0).1))) ?_
  unfold x6 at V
  rw[h,Ah] at V
  exact V
noncomputable def xN(n:Int):Int:=n%8
noncomputable def wN(n:Int):Int:=n/8%9-4
noncomputable def yN(n:Int):Int:=n/72%9-4
noncomputable def zN(n:Int):Int:=n/648%9-4
def fh(n:Int):c_:=if 0<wN n then ⟨xN n,xN n+wN n,yN n,zN n⟩ else ⟨xN n+wN n,xN n,zN n,yN n⟩
noncomputable def hgt(s:c_)(c:Int):Int:=(s.h0*(s.x1-s.x0)+(s.h1-s.h0)*(c-s.x0))*(60/(s.x1-s.x0))
def oO(s:c_)(c:Int):Int×Int:=(hgt s c/60,hgt s c%60)
def oj(a b:c_):Bool:=x6 a.x0 a.x1 a.h0 a.h1 b.x0 b.x1 b.h0 b.h1
def ml(ss:b0)(p:Int×HQ):b0:=if wN p.1=0 then ss else if ss.all (λq=>oj (fh p.1) q.2) then ss++[(p.2,fh p.1)] else ss
def eV(ps:List (Int×HQ)):b0:=ps.foldl ml []
theorem m9(a:Int):-4<=a%9-4/\a%9-4<=4:=⟨qE (pj a (by decide)) 4,qE (nA (show a%9<8+1 from pe a (by simp))) 4⟩
theorem yF(n:Int):0<=xN n/\xN n<=7:=⟨pj n (dC tT),nA (show n%8<7+1 from pe n (by simp))⟩
theorem qh(n:Int):-4<=wN n/\wN n<=4:=m9 _
theorem u7(n:Int):-4<=yN n/\yN n<=4:=m9 _
theorem u8(n:Int):-4<=zN n/\zN n<=4:=m9 _
structure fJ(s:c_):Prop where
 lo:-4<=s.x0
 hi:s.x1<=11
 lt:s.x0<s.x1
 wd:s.x1-s.x0<=4
 a0:-4<=s.h0/\s.h0<=4
 a1:-4<=s.h1/\s.h1<=4
theorem fJ.nb{s:c_}(h:fJ s):s.x0.natAbs<=1000/\s.x1.natAbs<=1000/\s.h0.natAbs<=1000/\s.h1.natAbs<=1000:=
 ⟨kT h.lo (dh (du h.lt) h.hi) (dC tT),kT (dh h.lo (du h.lt)) h.hi (dC tT),kT h.a0.1 h.a0.2 (dC tT),kT h.a1.1 h.a1.2 (dC tT)⟩
theorem KX(a b:Int):a+b-a=b:=by rw[g4,mH]
theorem xL{n:Int}(h:wN n≠0):fJ (fh n):=by
 have V:=yF n;have Y:=qh n
 unfold fh
 by_cases p:0<wN n
 ·rw[bo p]
  exact⟨dh (by simp) V.1,QH V.2 Y.2,Og _ p,dh (ja (KX ..)) Y.2,u7 n,u8 n⟩
 ·rw[be p]
  exact⟨QH V.1 Y.1,dh V.2 (by simp),lc (zx (EX.mpr ⟨dW.mp p,h⟩:wN n<0) _) (ja (tM _)),dh (ja (by rw[<-AF,Au,GI])) (ES Y.1),u8 n,u7 n⟩
theorem LJ{w:Int}(h:0<w)(Y:w<=4):w*(60/w)=60/\0<60/w:=by
 refine(zq (du h)).elim λm V=>?_;subst V
 have:=(dC tT:∀m<5,0<m->m*(60/m)=60/\0<60/m) m (jY (fX.mp Y)) (eN.mp h)
 exact⟨aQ S6 this.1,eN.mpr this.2⟩
theorem J6{T w:Int}(h:0<w)(V:w<=4):(T*(60/w)/60,T*(60/w)%60)=(T/w,T%w*(60/w)):=by
 refine(LJ h V).elim λe p=>?_
 generalize 60/w=k at e p
 rw[<-e,Int.mul_ediv_mul_of_pos_left _ _ p,wH T,wH w,Int.mul_emod_mul_of_pos _ _ p,wH k]
theorem x7{T W:Int}(h:0<W):T.fdiv (-W)=-T/W/\T.fmod (-W)=-(-T%W):=by
 have e:=FI (-T) W
 have V:=Int.neg_fmod_neg (-T) W
 rw[pv] at e V
 rw[e,V,nv _ (du h),qw _ (du h)]
 exact⟨rfl,rfl⟩
theorem YT{n c:Int}(h:wN n≠0):oO (fh n) c=((yN n*wN n+(zN n-yN n)*(c-xN n)).fdiv (wN n),(yN n*wN n+(zN n-yN n)*(c-xN n)).fmod (wN n)*(60:Int).fdiv (wN n)):=by
 have V:=qh n
 delta oO hgt fh
 generalize wN n=w at h V
 generalize xN n=x
 generalize yN n=y
 generalize zN n=z
 by_cases p:0<w
 ·rw[bo p]
  simp only[KX,J6 p V.2,nv _ (du p),qw _ (du p),nv _ (du p)]
 ·rw[be p]
  obtain⟨W,rfl⟩:∃W,w=-W:=⟨-w,(pv w).symm⟩
  have q:0<W:=Ps (EX.mpr ⟨dW.mp p,h⟩)
  have Y:W<=4:=Pd.mp V.1
  have e:z*(x-(x+-W))+(y-z)*(c-(x+-W))=-(y*-W+(z-y)*(c-x)):=by
   rw[<-AF x,Au,GI,pv,<-AF c,Ay,RG,RH y z W,RI,Int.neg_add,pv,<-tO,Ax]
   generalize (y-z)*(c-x)=A
   generalize z*W=B
   generalize y*W=C
   exact abE
  have H:x-(x+-W)=W:=by rw[<-AF,Au,GI,pv]
  rw[e,H,J6 q Y,(x7 q).1,(x7 q).2,(x7 q).1]
  have k:-60/W=-(60/W):=by
   have Z:=LJ q Y
   generalize 60/W=K at Z
   rw[<-Z.1,<-RI,Int.mul_ediv_cancel_left _ (pq q)]
  simp only[k,Qj]
theorem Hz{T w:Int}(Z:w≠0):0<=T.fmod w*w/\(T.fmod w).natAbs<w.natAbs:=by
 have V:∀{W T:Int},0<W->0<=T%W*W/\(T%W).natAbs<W.natAbs:=λ{W T} h=>by
  have Y:=pj T (pq h)
  refine⟨Int.mul_nonneg Y (du h),eN.mp ?_⟩
  simp only[ER Y,ER (du h)]
  exact pe T h
 by_cases h:0<w
 ·exact(qw _ (du h))▸(V h)
 ·obtain⟨W,rfl⟩:∃W,w=-W:=⟨-w,(pv w).symm⟩
  have q:0<W:=Ps (EX.mpr ⟨dW.mp h,Z⟩)
  simp only[(x7 q).2,Qj,tC,tC]
  exact V q
theorem AH{s:c_}:p0 s.x0 (s.x1+1)=(dS s).map D.int:=by
 delta p0 dS
 rw[cJ,nG (a:=s.x1+1),Pe,<-nG];rfl
theorem ym{s:c_}(S:fJ s){c:Int}(h:c∈dS s):-4<=c/\c<=11:=by
 obtain⟨j,V,rfl⟩:=bL.mp h
 have:=S.lo;have:=S.hi;have:=gk.mp V
 exact XX (by assumption) (by assumption) (by assumption)
theorem yn{s:c_}(S:fJ s):s.x0.natAbs<=1000/\(s.x1+1).natAbs<=1000:=
 ⟨S.nb.1,kT (dh S.lo (dh (du S.lt) (vH (by simp)))) (nB S.hi 1) (dC tT)⟩
theorem ints_get{l:List Int}(h:(l.map D.int)[i]?=aa d):∃c,l[i]?=aa c/\d=.int c:=by
 rw[ci] at h
 induction q:l[i]? with
 |none=>rw[q] at h;exact ns h
 |some c=>rw[q] at h;exact⟨c,rfl,(aW h).symm⟩
theorem snocInd{P:List α->Prop}(V:P [])(h:∀l a,P l->P (l++[a]))(l:List α):P l:=by
 refine(vS l)▸?_
 induction l.reverse with
 |nil=>exact V
 |cons a r Y=>rw[Fi];exact h _ _ Y
def gz(ss:b0)(x:HQ)(c:Int):Int×Int:=oO (bu ss x) c
theorem C1:FnAt 281 26 "_law_sticks" ["numbers"]:=⟨⟨λw=>⟨_,_,_,_,_,rfl,_,_,_,_,rfl,rfl,rfl,rfl⟩⟩,λ_ _ _ _ _ _ vs h=>l6 (λ_=>by rfl) vs h,by rfl,by rfl⟩
def kU(ss:b0):List (Str×D):=ss.map λp=>(p.1,jQ p.2)
def kW(s:c_)(m:Nat):List (Int×D):=((dS s).take m).map λc=>(c,pairD (oO s c))
def lD(ss:b0):List (Str×D):=ss.map λp=>(p.1,.eu (kW p.2 16))
noncomputable def oQ(d0:D)(L:ag)(o:Obj)(ss:b0):ay:=([("sticks",.obj (eZ (kU ss))),("heights",.obj (eZ (lD ss))),("numbers",.obj (mj d0 L o))]:List (Str×Bd))
def Nl:List bw:=match fb 26 with
 |_::.For _ _ b _ _::_=>b
 |_=>[]
theorem VC:Inj jQ:=λ_ _ h=>aQ (λd=>c_.mk (uP d 0) (uP d 1) (uP d 2) (uP d 3)) h
theorem J7{s:c_}:(!(((ss.map (·.2)).filter λq=>!oj s q).map jQ).isEmpty)=!ss.all λq=>oj s q.2:=by
 congr 1
 induction ss with
 |nil=>rfl
 |cons p r V=>
  simp only[d8,jA,wB,<-V]
  cases oj s p.2<;>rfl
theorem Xh{a b c d f:au}{q r s:Pos}{l:Nat}:mQ [b7 [dN a b p,dN c d q] m r] (b7 [e,f] l s) ab=pure ak:=by
 have g:∀{a b:Bool} {X:Sem (Option (List Str))},(if a=ae then pure ak else if b=ae then pure ak else if ae=ae then pure ak else X)=pure ak:=λ{a b X}=>by induction a<;>induction b<;>rfl
 exact g
def qi(d0:D)(L:ag)(o:Obj)(ss:b0)(n:Int)(z:Str)(b:ag)(m:Nat):ay:=([("heights",.obj (il (aa z) b (lD ss) (kW (fh n) m))),("sticks",.obj (eZ (kU ss++[(z,jQ (fh n))]))),("stick",.dat (jQ (fh n))),("letter",.dat (.str z)),("z",.dat (.int (zN n))),("y",.dat (.int (yN n))),("w",.dat (.int (wN n))),("x",.dat (.int (xN n))),("numbers",.obj (mj d0 L o))]:List (Str×Bd))
theorem Be{s:c_}(h:fJ s):(dS s).length<=5:=by
 unfold dS
 rw[aR,kF]
 exact nP.mpr (nB h.wd 1)
theorem Iq{s:c_}{c:Int}(h:(dS s)[i]?=aa c):c=s.x0+i:=by
 unfold dS at h
 refine(ez.mp h).elim λhi e=>?_
 rw[List.getElem_map,List.getElem_range] at e
 exact e.symm
set_option tactic.hygienic true in
theorem VD{s:c_}{c:Int}(h:(dS s)[i]?=aa c):c∉(kW s i).map (·.1):=by
 unfold kW
 rw[cJ]
 intro q
 obtain⟨c',Y,e⟩:=bL.mp q
 subst e
 obtain⟨j,V⟩:=qC.mp Y
 rw[E6] at V
 split at V
 ·rename_i W
  exact eC W (lW (EY ((Iq V).symm.trans (Iq h):_=_)))
 ·exact ns V
theorem T0{s:c_}{c:Int}(h:(dS s)[i]?=aa c):kW s (i+1)=kW s i++[(c,pairD (oO s c))]:=by
 unfold kW
 simp only[lQ,h,dK];rfl
theorem BE{s:c_}(h:(dS s).length<=m):kW s m=(dS s).map λc=>(c,pairD (oO s c)):=by
 exact aQ _ (la h)
theorem MA(x:Int):(if x<0 then-x else x)=(x.natAbs:Int):=Yg x
structure Dv(w T q r:Int):Prop where
 eq:q*w+r=T
 sg:0<=r*w
 lt:r.natAbs<w.natAbs
theorem Dv.of{w T:Int}(V:w≠0):Dv w T (T.fdiv w) (T.fmod w):=by
 refine⟨?_,(Hz V).1,(Hz V).2⟩
 rw[wH,g4]
 exact Int.fmod_add_mul_fdiv T w
section
variable {d0:D} {L:ag} {o:Obj} {ss:b0} {n:Int} {z:Str} {k:Fl->ay->Prop}
def LK:List bw:=match Nl.drop 5 with
 |.For _ _ b _ _::_=>b
 |_=>[]
theorem VE{b:ag}{c r T:Int}(H:wN n≠0)(G:fJ (fh n))(Z:(dS (fh n))[i]?=aa c)(V:Dv (wN n) T q r)(C:oO (fh n) c=(q,r*(60:Int).fdiv (wN n)))(B:∀ρ,Sub (qi d0 L o ss n z b (i+1)) ρ->k .next ρ):
 aL 150 (fs 26) (("rest",.dat (.int r))::("floor",.dat (.int q))::("top",.dat (.int T))::("column",.dat (.int c))::qi d0 L o ss n z b i:List (Str×Bd)) (LK.drop 2) k:=by
 have Y:(wN n).natAbs<=4:=kT (qh n).1 (qh n).2 (dC tT)
 have W:r.natAbs<=4:=bd (cg V.lt Y)
 refine aL.skip (b_ (bQ (mulR (aV Y (lT tT))) (cL.mk (λh=>aZ V.eq (bne_iff_ne.mp h)) λ_=>bQ (lq (by decide) W) (cL.mk (λh=>aZ V.sg (pA.mpr (cY h))) λ_=>?_)))) ?_
 ·show decide ((if wN n<0 then-wN n else wN n)<=(if r<0 then-r else r))=aH
  simp only[MA,MA]
  exact eY λh=>aZ (fX.mp h) (kJ.mpr V.lt)
 refine .cons (aO.putIn (c:=c) (m:=kW (fh n) i) rfl rfl rfl (rfl) (VD Z) ?_ (λ_=>rfl) (aj.mono (k:=λd=>d=pairD (oO (fh n) c)) (bD ?_) λd e=>?_))
 ·unfold kW
  rw[aR,gJ]
  exact aD (ph _ _) (aD (Be G) (by simp))
 ·rw[C]
  by_cases h:0<wN n
  ·refine bP.t (by rw[eS h,eS (aV Y (by decide))];rfl) (bQ (lq (by decide) W) ?_)
   rw[nv _ (du h)];rfl
  ·exact bP.f (by rw[eY h];rfl) (bF.fdiv H (Ou (aV Y (by simp))) (bQ (lq (by decide) W) rfl))
 ·subst e
  refine .nil (B _ ?_)
  unfold qi
  simp only[T0 Z]
  exact cA.sub ⟨rfl,rfl,rfl,rfl,rfl,rfl,rfl,rfl,rfl,trivial⟩
theorem VF{b:ag}{c:Int}(V:wN n≠0)(W:(dS (fh n))[i]?=aa c)(B:∀ρ,Sub (qi d0 L o ss n z b (i+1)) ρ->k .next ρ):
 aL 150 (fs 26) (("column",.dat (.int c))::qi d0 L o ss n z b i:List (Str×Bd)) LK k:=by
 have Z:=xL V
 have H:=ym Z (c5 W)
 have f:c.natAbs<=11:=kT H.1 H.2 (dC tT)
 have G:(wN n).natAbs<=4:=kT (qh n).1 (qh n).2 (dC tT)
 have Y:(yN n).natAbs<=4:=kT (u7 n).1 (u7 n).2 (dC tT)
 have C:(zN n).natAbs<=4:=kT (u8 n).1 (u8 n).2 (dC tT)
 exact cw 2 (bQ (lq (by decide) Y) (bQ (lq (by decide) (gU C Y)) ((W_ V (aV G (by simp)) (aV (u0 (kR Y G) (kR (gU C Y) (gU f (kT (yF n).1 (yF n).2 (dC tT):(xN n).natAbs<=7)))) (lT tT)) (VE V Z W (Dv.of V) (YT V) B)).le (by simp))))
end
theorem RX{d0:D}{n:Int}{k:Fl->ay->Prop}(R:Rm 150 A)(Z:A.frames=aa [ab,eL])(he:ab.frame=aa ab.locals)(hL:eL.frame=aa L)(G:eL.scope.kind≠.module)
 (C:∀p∈ss,fJ p.2)(hz:z∉ss.map (·.1))(hl:ss.length<=6)(B:∀fl ρ,(fl=.next\/fl=.cont)->Sub (oQ d0 L o (ml ss (n,z))) ρ->k fl ρ):
 jR w A ab mu aw aE (fs 26) ((("letter",.dat (.str z))::("number",.dat (.int n))::oQ d0 L o ss:List (Str×Bd))) Nl k:=by
 refine jR.cons R (aO.rA (aI:=["x","w","y","z"]) (.cons (.cons (.cons (.cons .nil)))) (by rfl) (by rfl) (by rfl) (lB tT) (λ_=>rfl) (λab _ _=>I9 rfl) ?_)
 refine oh (E:=(kZ 150 (fs 26) 40).1) (dF 40) (λ_ h=>h) ?_
 have b1:=yF n;have b2:=qh n;have b3:=u7 n;have b4:=u8 n
 refine jR.YS (ρ:=([("z",.dat (.int (zN n))),("y",.dat (.int (yN n))),("w",.dat (.int (wN n))),("x",.dat (.int (xN n))),("letter",.dat (.str z)),("number",.dat (.int n))]:List (Str×Bd))++oQ d0 L o ss) R (b_ (cL.mk (λh=>?_) (λh=>?_)))
 ·intro s g aB H E
  refine er (VA (n:=148) H R Z he hL G (xn:="numbers") rfl rfl rfl rfl (ee (dF 40) (k:=λds=>∃a:Int,ds=[.int a,.int 0]) ⟨yN n,by rw[eq_of_beq h]⟩)) (λf s' q=>⟨q.1,B _ _ (.inr rfl) ?_,q.2⟩) λ_ _ x=>x
  rw[show ml ss (n,z)=ss from bo (eq_of_beq h)]
  exact cA.sub ⟨rfl,rfl,rfl,trivial⟩
 have Y:wN n≠0:=λe=>by rw[e] at h;exact tf h
 have V:=xL Y
 refine aL.Xg R (.cons (aO.assign (by rfl) (λ_=>rfl) (aj.mono (k:=λd=>d=jQ (fh n)) (bD (cL.mk (λh=>?_) λh=>?_)) λd e=>?_)))
 ·unfold fh;rw[bo (cY h)];rfl
 ·unfold fh;rw[be (ig h)];rfl
 subst e
 refine aL.cons (aO.Xd (x:="sticks") rfl eZ.turn (b_ (aj.comp rfl (λ_ _=>rfl) (dj.fx (c:=jQ) VC rfl (bK.values rfl (λ_=>rfl) (aj.name rfl rfl ⟨_,rfl,?_,?_⟩))))))
 ·unfold kU;rw[aR];exact bd (aV hl (lT tT))
 refine⟨ss.map (·.2),λs=>!oj (fh n) s,jQ,by unfold kU;rw[cJ,cJ];rfl,λs hs=>?_,?_⟩
 ·obtain⟨p,hp,rfl⟩:=bL.mp hs
  have W:=C p hp
  exact b_ ((TZ V.nb.1 V.nb.2.1 V.nb.2.2.1 V.nb.2.2.2 W.nb.1 W.nb.2.1 W.nb.2.2.1 W.nb.2.2.2 ⟨rfl,λ_=>bD rfl⟩).le (by simp))
 refine bq.LI (cL.mk (λh=>?_) λh=>?_)
 ·rw[J7] at h
  refine cw 5 (B _ _ (.inr rfl) ?_)
  rw[show ml ss (n,z)=ss from (be Y).trans (be (by intro q;rw[q] at h;exact ft h))]
  exact cA.sub ⟨rfl,rfl,rfl,trivial⟩
 rw[J7] at h
 refine aL.nil ?_
 have zk:z∉(kU ss).map (·.1):=by unfold kU;rw[cJ];exact hz
 have zk2:z∉(lD ss).map (·.1):=by unfold lD;rw[cJ];exact hz
 refine aL.cons (aO.Xf (l:=kU ss) (m:=lD ss) (z:=z) rfl rfl rfl (dC tT) (dC tT) (dC tT) rfl zk zk2 ⟨by unfold kU;rw[aR];exact bd (aV hl (lT tT)),by unfold lD;rw[aR];exact bd (aV hl (lT tT))⟩ rfl (λ_=>rfl) (λ_=>?_) ?_)
 ·exact Xh
 refine cK.dat (bD (cK.Dk eZ.ok eZ.nil ⟨_,rfl,λb=>?_⟩))
 refine aL.cons (aO.sub (ρ:=qi d0 L o ss n z b 0) ?_ (cA.sub ⟨rfl,rfl,rfl,rfl,rfl,rfl,rfl,rfl,rfl,trivial⟩))
 refine aO.for (λ_ _=>rfl) (bK.call (AM rfl) rfl (ee (dF 40) (fO.Ci (yn V).1 (yn V).2 ⟨λi aC=>aC=qi d0 L o ss n z b i,rfl,?_,?_,?_⟩)))
 ·rintro i _ rfl;rfl
 ·rintro i d _ hd rfl
  rw[AH] at hd
  obtain⟨c,hc,rfl⟩:=ints_get hd
  exact c0.name rfl (VF Y hc λρ hs=>⟨_,hs,rfl⟩)
 ·rintro _ rfl
  refine aL.turn (x:="heights") rfl rfl il.turn (aL.nil (B _ _ (.inl rfl) ?_))
  simp only[AH,aR,show ml ss (n,z)=ss++[(z,fh n)] from (be Y).trans (bo (by simpa using h)),BE (bv _)]
  unfold oQ
  simp only[show kU (ss++[(z,fh n)])=kU ss++[(z,jQ (fh n))] from dK,show lD (ss++[(z,fh n)])=lD ss++[(z,.eu (kW (fh n) 16))] from dK,BE (m:=16) (aD (Be V) (by simp))]
  exact cA.sub ⟨rfl,rfl,rfl,trivial⟩
noncomputable def lets:Str:="ABCDEF"
theorem Am(l:List (Int×Str))(p:Int×Str):eV (l++[p])=ml (eV l) p:=lR
set_option tactic.hygienic true in
theorem Jd(ss:b0)(p:Int×Str):ml ss p=ss\/(wN p.1≠0/\(ss.all λq=>oj (fh p.1) q.2)=ae/\ml ss p=ss++[(p.2,fh p.1)]):=by
 unfold ml
 split
 ·exact .inl rfl
 ·split
  ·rename_i V Y;exact .inr ⟨V,Y,rfl⟩
  ·exact .inl rfl
theorem tG(l:List (Int×Str)):(∀p∈eV l,fJ p.2)/\((eV l).map (·.1)).Sublist (l.map (·.2)):=by
 refine snocInd (P:=λl=>(∀p∈eV l,fJ p.2)/\((eV l).map (·.1)).Sublist (l.map (·.2))) ⟨λ_ h=>aZ h ca,.slnil⟩ (λl a Y=>?_) l
 rw[Am,dK]
 refine(Jd (eV l) a).elim (λe=>?_) λW=>W.elim λH Z=>Z.elim λ_ e=>?_
 ·rw[e];exact⟨Y.1,Y.2.trans (List.sublist_append_left _ _)⟩
 ·rw[e,dK]
  refine⟨λp V=>?_,Y.2.append (PA _)⟩
  rcases cQ.mp V with V|V
  ·exact Y.1 p V
  ·obtain rfl:=a_.mp V;exact xL H
def u9(ss:b0):D:=.tup [jh ss,ic ss (gz ss)]
theorem Xi(Y:(ss.map (·.1)).Nodup)(W:∀p∈ss,fJ p.2):D.tup [.cO (kU ss),.cO (lD ss)]=u9 ss:=by
 delta u9 jh ic lD
 refine(show (ss.map λp=>(p.1,D.eu (kW p.2 16)))=ss.map λp=>(p.1,.eu ((dS p.2).map λc=>(c,pairD (gz ss p.1 c)))) from lN λp V=>by
  rw[BE (aD (Be (W p V)) (by simp))];unfold gz;rw[pE Y V])▸?_
 rfl
def DD(d0:D)(L:ag)(o:Obj)(r:D)(fl:Fl)(ρ:ay):Prop:=fl=.ret r/\jb (a6 "numbers") ρ=aa (Bd.obj (mj d0 L o))
def stR:List bw:=(fb 26).drop 2
set_option tactic.hygienic true in
theorem RY{ns:List Int}(R:Rm 150 A)(jx:A.frames=aa [ab,eL])(he:ab.frame=aa ab.locals)(hL:eL.frame=aa L)(D4:eL.scope.kind≠.module)
 (hl:ns.length=6):
 jR w A ab mu aw aE (fs 26) ([("numbers",.obj (mj (.lst (ns.map D.int)) L o))]:List (Str×Bd)) (fb 26) (DD (.lst (ns.map D.int)) L o (u9 (eV (ns.zip (chars lets))))):=by
 refine jR.cons R (aO.AL (aI:=["sticks","heights"]) rfl rfl rfl (dC tT) (lB tT) (λ_=>rfl) (λab e1 e2=>BC e1 e2 rfl (rfl) (rfl)) (cK.Dk eZ.ok eZ.nil (cK.Dk eZ.ok eZ.nil ?_)))
 obtain⟨V,Y⟩:∃V,V=ns.zip (chars lets):=⟨_,rfl⟩
 have ado:V.map (·.2)=chars lets:=by rw[Y,FA];rw[hl];exact bv 6
 have iJ:(V.map (·.2)).Nodup:=by rw[ado];decide
 have pl:V.length=6:=by rw[Y,Qi,hl];rfl
 intro s g aB H E
 refine mK (bg (IM (k:=pO 150 (fs 26) stR (DD (.lst (ns.map D.int)) L o (u9 (eV (ns.zip (chars lets)))))) (λ_ _=>rfl) (H.weaken (aC:=oQ (.lst (ns.map D.int)) L o (eV (V.take 0))) (cA.sub ⟨rfl,rfl,rfl,trivial⟩)) λE=>?_) ?_)
 ·refine bK.run (n:=150) (sc:=fs 26) ?_ w A ab s g H.st R (H.adk (x:="numbers") rfl) E
  refine bK.call (UJ rfl) rfl (ee (dF 40) ?_)
  refine fO.ade (l:=ns.map D.int) (x:=lets) (by rw[aR,hl];decide) (lB tT) (by decide+kernel) ⟨λi aC=>aC=oQ (.lst (ns.map D.int)) L o (eV (V.take i)),rfl,?_,?_,?_⟩
  ·rintro i _ rfl;rfl
  ·rintro i d _ s g dX v hd rfl H hv E E'
   refine ba λN_=>?_
   obtain⟨a,c,h1,h2,rfl⟩:=Ip hd
   obtain⟨n,hni,rfl⟩:∃n,ns[i]?=aa n/\a=.int n:=by
    replace h1:=ci▸h1
    induction q:ns[i]? with
    |none=>exact nomatch (q▸h1)
    |some n=>replace h1:=q▸h1;obtain rfl:=aW h1;exact⟨n,rfl,rfl⟩
   apply N_
   have hz:V[i]?=aa (n,⟨#[c]⟩):=by
    rw[Y,N4]
    refine⟨hni,?_⟩
    unfold chars
    simp only[ci,kB,h2];rfl
   have fc:=tG (V.take i)
   have e1:eV (V.take (i+1))=ml (eV (V.take i)) (n,⟨#[c]⟩):=by
    simp only[lQ,hz];exact Am _ _
   refine bg (((λ_ _ _ _=>c0.tup rfl rfl (jG (fK.name rfl (jG (fK.name rfl (pI (Sub.refl _)))))):∀cc p p1 p2,c0 150 (fs 26) (oQ (.lst (ns.map D.int)) L o (eV (V.take i))) (b7 [aS (a6 "number") p1,aS (a6 "letter") p2] cc p) (.tup [.int n,.str ⟨#[c]⟩]) λaC=>Sub ((("letter",.dat (.str ⟨#[c]⟩))::("number",.dat (.int n))::oQ (.lst (ns.map D.int)) L o (eV (V.take i)):List (Str×Bd))) aC) _ _ _ _).run w A ab _ _ _ s g dX v H R hv E') (λ_ kX ⟨ii,aak,aem,H3,m₃,jS⟩=>?_)
   refine bg (RX (z:=⟨#[c]⟩) R jx he hL D4 fc.1 (λq=>?_) ?_ (λfl ρ o6 hs=>?_) _ _ _ (H3.weaken jS) E) (λ_ _ x=>x)
   ·have q:=fc.2.subset q
    rw[Gq] at q
    obtain⟨j,hj⟩:=qC.mp q
    rw[E6] at hj
    split at hj
    ·rename_i hji
     have hi:(V.map (·.2))[i]?=aa ⟨#[c]⟩:=by rw[ci,hz];rfl
     obtain⟨hj1,hj2⟩:=ez.mp hj
     obtain⟨hi1,Et⟩:=ez.mp hi
     exact N1.mp iJ j i hj1 hi1 hji (hj2.trans Et.symm)
    ·exact nomatch hj
   ·have:=fc.2.length_le
    simp only[aR,aR,gJ] at this
    exact aD (aD this (ph _ _)) (bn pl)
   ·rw[<-e1] at hs
    rcases o6 with rfl|rfl
    ·exact⟨_,hs,rfl⟩
    ·exact⟨_,hs,rfl⟩
  ·rintro _ rfl
   have jt:(oy (ns.map D.int) lets).length=6:=by rw[Bc (by rw[aR,hl];decide),aR,hl]
   rw[jt,la (bn pl)]
   refine aL.turn (x:="sticks") rfl rfl eZ.turn (aL.turn (x:="heights") rfl rfl eZ.turn (cw 3 ?_))
   show DD _ L o _ (.ret (.tup [.cO (kU (eV V)),.cO (lD (eV V))])) _
   exact(Xi (by have:=(λi=>(tG (V.take i)).2.nodup (by rw[Gq];exact iJ.sublist (PL ..)):∀i,((eV (V.take i)).map (·.1)).Nodup) 6;rwa [la (bn pl)] at this) (tG V).1)▸(Y▸⟨rfl,rfl⟩)
 ·rintro f aA ⟨aN,B,fl,W,Z,G,C⟩
  induction f<;>induction fl<;>first|exact G.elim|exact C.run w A ab _ _ _ _ _ _ Z R E|exact⟨aN,B,_,W,Z,G,C⟩
theorem RZ{ns:List Int}(S:St w s g)(R:Rm 152 A)(Y:A.frames=aa [eL])(hL:eL.frame=aa L)(W:eL.scope.kind≠.module)(K:mY L o s g)(M:dq w s g [L])(r:aP w g vs [.lst (ns.map D.int)])
 (hl:ns.length=6)(hQ:∀v s' g',Nx [L] s g s' g'->St w s' g'->Rep w g' v (u9 (eV (ns.zip (chars lets))))->mY L o s' g'->Q v s'):wpAny (model PG w) A (call (.ref 281) vs) Q E s:=by
 obtain⟨doc,pm,bA,ct,an,hk,Z⟩:=C1.def_.at_ w
 have q:=(bB _ _).mp C1.ok
 have C:dR w s g [L] (fs 26) [] [] (λ_=>[]):=dR.nil λx e=>by
  have:=ef.mp ((bB _ _).mp q.2).1 _ (eA e)
  simp at this
 obtain⟨v,rfl,h1⟩:=r.one
 have ar:cW w s g [L] [v] [.obj (mj (.lst (ns.map D.int)) L o)] (my [L] λ_=>[]):=
  .cons (λ_=>⟨⟨rfl,h1,K⟩,mj.ok⟩) (λc hc=>hc) (λ_ _ _ _ _ _ h=>ca h) (.nil M)
 refine lY (mS (xa (Q:=Q) S R ar (S.df _ _ hk) rfl (CodeRec.of_K S Z) C (.inl rfl) (C1.binds doc pm bA ct an s _ r.1) rfl (λc q e=>nomatch e) q.1 E λab aA aB V H=>?_) λr s' hr=>?_)
 ·refine bg (RY ((R.le (jF _)).deeper:Rm 150 (A.deeper ab)) (EW Y) V hL W hl _ _ _ (rE▸H) _) (λf s' ⟨g',aC,fl,B,G,F',e1,e2⟩=>?_)
  subst e1
  obtain⟨v,_,⟨_,_,k⟩,_⟩:=G.var _ _ e2
  induction f<;>first|exact F'.elim|skip
  exact hQ _ _ _ G.nx G.st F' k
 ·exact nY r hr (λ_ h=>h) λ_ h=>h
theorem bj.aal{aB:Str->List ag}(A:bj w mu aw aE s g ab sc ρ aB)(K:mY ab.locals o s g)(N:Nx [ab.locals] s g s' g')(S':St w s' g')(K':mY ab.locals o s' g'):bj w mu aw aE s' g' ab sc ρ aB:=by
 refine K.at_.elim λsl e=>?_
 refine K'.at_.elim λsl' e'=>?_
 have ns:∀m,s.heap.Ns ab.locals m->s'.heap.Ns ab.locals m:=λm q_=>by
  obtain⟨G,es,ep,Y,d1,r1⟩:=q_
  obtain rfl:=aW (e.symm.trans Y)
  exact⟨_,es,ep,e',d1,r1⟩
 refine A.gE.elim λm hm=>?_
 have V:∀x c,ab.cells.lookup x=aa c->c∉[ab.locals]:=λx c h q=>(A.cP x c h).2.2 (a_.mp q)
 refine⟨A.gT,A.fz,S',A.nx.over N λa W=>a_.mp W▸A.iY,A.kind,A.glob,A.gv,A.ks,A.lam,K'.off,⟨m,ns m hm⟩,A.iY,λx c h=>?_,A.lw,A.fg,A.e8,λx b h=>?_,λx b h a W=>?_,A.e9⟩
 ·obtain⟨h1,⟨v,h2⟩,h3⟩:=A.cP x c h
  obtain⟨G,Y,d⟩:=id h2
  exact⟨N.old _ _ Y h1 (V x c h),⟨v,N.cell A.st h2 (V x c h)⟩,h3⟩
 ·obtain⟨v,h1,h2⟩:=A.var x b h
  refine⟨v,?_,h2.step N A.st (λa W q=>(A.dI x b h a W).2.1 (a_.mp q)) λ_ a W G Y=>?_⟩
  ·rcases h1 with ⟨C,Z,m',H,q4⟩|⟨C,c,Z,H,q4⟩
   ·exact .inl ⟨C,K'.off,m',ns m' H,q4⟩
   ·obtain⟨G,Y,d⟩:=id q4
    exact .inr ⟨C,c,Z,N.old _ _ Y H (V _ _ Z),N.cell A.st q4 (V _ _ Z)⟩
  ·obtain rfl:=a_.mp W
   obtain rfl:=aW (e.symm.trans Y)
   exact cV.of K.nf
 ·refine(A.dI x b h a W).elim λB H=>B.elim λC f=>f.elim λG Z=>?_
  exact⟨⟨C,N.there a G Z λq=>H.1 (a_.mp q)⟩,H⟩
theorem R0{ns:List Int}{aB:Str->List ag}{p1 p2 tp:Pos}(H:bj w mu aw aE s g ab sc ρ aB)(R:Rm 152 A)(jx:A.frames=aa [ab])(he:ab.frame=aa ab.locals)
 (hf:sc.names.lookup (a6 "_law_sticks")=aa cj)(hx:ρ.lookup (a6 "numbers")=aa (.dat (.lst (ns.map D.int))))(hm:mine sc (a6 "sticks")=ae/\mine sc (a6 "heights")=ae)(hl:ns.length=6):
 wpAny (model PG w) A (exec (fe [b7 [aS (a6 "sticks") p1,aS (a6 "heights") p2] c tp] (bU (aS (a6 "_law_sticks") np) [aS (a6 "numbers") xp] [] cp) aM) ab)
  (Fin w mu aw aE ab sc λfl aC=>fl=.next/\aC=(a6 "heights",.dat (ic (eV (ns.zip (chars lets))) (gz (eV (ns.zip (chars lets))))))::(a6 "sticks",.dat (jh (eV (ns.zip (chars lets)))))::ρ) E s:=by
 refine Ao (Jc (n:=152) (k:=λds=>ds=[.lst (ns.map D.int)]) (F6 hf) rfl (ia (aj.name hx rfl (fR rfl))) H.st R H.cI λvs aA aN ds Z V G e=>?_) rfl rfl
 subst e
 have W:=H.step Z V
 refine ba λN_=>?_
 obtain⟨m,oL,es,ep,eL,dL,_⟩:=W.gE
 apply N_
 have nf:∀vs,oL.data≠bC vs:=λvs q=>nomatch dL.symm.trans q
 have K:mY ab.locals oL aA aN:=⟨⟨_,eL⟩,W.ik,V.dQ eL (.inr nf),nf⟩
 refine RZ V R jx he (by rw[H.kind];nofun) K (λa ha=>?_) G hl λv aT bb C B f adL=>?_
 ·obtain rfl:=a_.mp ha
  exact W.L_ W.iY W.ik eL
 refine bg ((fK.tup (n:=152) rfl rfl (jG (fK.name hm.1 (jG (fK.name hm.2 (pI (Eq.refl _))))))).run w A ab mu aw aE aT bb aB v (W.aal K C B adL) R f E) (λ_ kX q_=>by obtain⟨ii,aak,Y,H3,_,e⟩:=q_;exact⟨ii,_,.next,Y,H3,trivial,rfl,e.symm⟩)
section
variable {fS:l8} {w:a9} {A:bN} {E:ai->av->Prop} {s:av}
theorem Je{V t:ag}(Y:s.heap.IsTupleIter V t i)(C:s.heap.IsTuple t af)(hh:A.handled=ak)
 (B:∀x h',af[i]?=aa x->h'.IsTupleIter V t (i+1)->kI V s.heap h'->Q x {s with heap:=h'})
 (f:af[i]?=ak->∀h' e,wJ V s.heap h'->(∃o,h'.get? e=aa o/\o.cls=aK "StopIteration")->E (.ref e) {s with heap:=h'}):wpAny (model fS w) A (adW (.ref V)) Q E s:=by
 refine ba λN_=>?_
 obtain⟨o,W,hc,hd⟩:=id Y
 obtain⟨_,Z,_,_,H⟩:=C
 apply N_
 refine aJ (qA (name:=a6 "__next__") Y.typeIs F.slot_tuple_iterator_next (j4 F.slot_tuple_iterator_next Y.typeIs F.entry_tuple_iterator_next ?_ (F.args_tuple_iterator_next_1 _)))
 refine aJ (m:=field (.ref V) 0) (Az W hd (x:=.ref t) rfl ?_)
 refine aJ (m:=field (.ref V) 1) (Az W hd (x:=.int i 0) rfl ?_)
 refine aJ (m:=w' (.ref t)) (Qr Z H ?_)
 dsimp only[lV]
 induction G:af[i]? with
 |some x=>
  refine aJ (pk W hd (bv _) (a8 ⟨x,rfl,a8 (B x _ G ?_ (gH ..))⟩))
  exact⟨_,s6 _ W (vP (th hd _)),(Obj.cls_mapFields ..).trans hc,by rw[th hd];rfl⟩
 |none=>
  refine kg (aJ (pk W hd (eB _) ?_))
  refine aJ (m:=newExc (aK "StopIteration") []) ?_
  refine aJ (lf ?_ (by size_fits))
  refine aJ (m:=Gc _ _) (tP (a:=fD) (by first|rfl|(rfl)) ?_)
  refine lf ?_ (by size_fits)
  dsimp only[raiseNew]
  refine A0 ?_
  rw[show A.in1.handled=ak from hh]
  refine fZ (G1 ?_)
  exact f G _ _ (((gH ..).extBut.push _).push _) ⟨_,cB _ rfl,rfl⟩
theorem T1(hh:A.handled=ak)(V l:ag)(Y:l≠V)(af:Array ai):
 Draws fS w A V [V,l] af.size (λi v=>af[i]?=aa v) (λi h=>h.IsTupleIter V l i/\h.IsTuple l af) where
 live:=λ_ _ st=>st.1.elim λo G=>G.elim λC _=>⟨o,C⟩
 frame:=λ_ _ _ st H=>⟨st.1.at λo e=>H V (bi) o e,st.2.at λo e=>H l ((bM _ bi)) o e⟩
 item:=λi s Q E hi st B=>Je st.1 st.2 hh (λx h' W Z hs=>B x h' s.toks W ⟨Z,st.2.extBut hs.extBut Y⟩ hs) λf=>aZ f (by simp[hi])
 done:=λs Q E st hE=>Je st.1 st.2 hh (λx h' W=>aZ W (by simp)) λ_=>hE
end
theorem VG{w:om}{Q:α->av->Prop}{a:α}(h:∀a,Q a s):wpAny w A (pure a) Q E s:=a8 (h a)
open AutoSeq1 (wpAny_loadPart') in
theorem R2(l:ag)(af:Array ai)(n:Nat):
 Meets (Builtin.«enumerate.__new__» ⟨[aK "enumerate",.ref l],[]⟩) (λ_ R s=>s.heap.get? l=aa {cls:=aK "tuple",data:=.seq af n}/\
  R (.ok (.ret (.ref (s.heap.push {cls:=aK "tuple_iterator",data:=bC #[.ref l,.int 0 0]}).objs.size)))
   {s with heap:=(s.heap.push {cls:=aK "tuple_iterator",data:=bC #[.ref l,.int 0 0]}).push {cls:=aK "enumerate",data:=bC #[.none,.bool aH,.ref s.heap.objs.size,rawInt 0,.none,.none]}}):=
 .of_wp λfS w A R s h=>by
  obtain⟨W,g,d,tk,os⟩:=s;have hl:=h.1;have h:=h.2
  have V:=sub_enumerate
  have Y:Heap.IsTuple (RF ⟨W,g,d,tk,os⟩) l af:=⟨_,hl,rfl,n,rfl⟩
  wp_walk using z9 hl
  refine wpAny_stack_any λst=>VG λb=>?_
  induction b
  ·wp_walk using z9 hl,E8 Y
   exact⟨_,rfl,h⟩
  ·wp_walk using z9 hl,E8 Y
   exact⟨_,rfl,h⟩
theorem fO.aam{k:List D->Prop}(hl:l.length<=10000)(hk:k (jl l)):fO n (aK "enumerate") [.tup l] (b7 ts c p) k:=.mk λw A s g vs S R r E=>by
 obtain⟨v,rfl,h1⟩:=r.one
 refine h1.uh λa nn Z H rl=>?_
 have sz:Z.size=(jl l).length:=by have:=rl.1;rw[nV];exact this
 have C:=cq (S.sub _ _ H)
 refine callType_new F.called_enumerate (rfl) (F.typeCall_enumerate_1 _) (F.newCall_enumerate_1 _) (λobj=>F.args_object_init_2 obj _) F.entry_enumerate_new (R2 a Z nn) ⟨S.sub _ _ H,?_⟩
 have hz:(s.heap.push {cls:=aK "tuple_iterator",data:=bC #[.ref a,.int 0 0]}).objs.size=s.heap.objs.size+1:=gZ ..
 have B:=cB (s.heap.push {cls:=aK "tuple_iterator",data:=bC #[.ref a,.int 0 0]}) (o:={cls:=aK "enumerate",data:=bC #[.none,.bool aH,.ref s.heap.objs.size,rawInt 0,.none,.none]}) rfl
 have hi:((s.heap.push {cls:=aK "tuple_iterator",data:=bC #[.ref a,.int 0 0]}).push {cls:=aK "enumerate",data:=bC #[.none,.bool aH,.ref s.heap.objs.size,rawInt 0,.none,.none]}).get? s.heap.objs.size=aa {cls:=aK "tuple_iterator",data:=bC #[.ref a,.int 0 0]}:=bZ _ (cB _ rfl)
 have keep:∀b o,s.heap.get? b=aa o->((s.heap.push {cls:=aK "tuple_iterator",data:=bC #[.ref a,.int 0 0]}).push {cls:=aK "enumerate",data:=bC #[.none,.bool aH,.ref s.heap.objs.size,rawInt 0,.none,.none]}).get? b=aa o:=λb o e=>bZ _ (bZ _ e)
 rw[hz] at B⊢
 generalize (s.heap.push {cls:=aK "tuple_iterator",data:=bC #[.ref a,.int 0 0]}).push {cls:=aK "enumerate",data:=bC #[.none,.bool aH,.ref s.heap.objs.size,rawInt 0,.none,.none]}=h' at*
 refine⟨⟨_,B,rfl⟩,?_⟩
 refine(S.ext' (h':=h') (tk:=s.toks) keep).elim λN G=>?_
 have W:=PD (T1 (fS:=PG) (w:=w) (A:=A.in1) R.2.2 s.heap.objs.size a (eC C) Z) (s.heap.objs.size+1) (Fy _) (by simp;exact jD (lU C)) (bi)
 simp only[sz] at W
 have hJ:(λ(i:Nat) (h:dp)=>(∃f,IsEnum h (s.heap.objs.size+1) s.heap.objs.size i f)/\h.IsTupleIter s.heap.objs.size a i/\h.IsTuple a Z) 0 h':=⟨⟨_,B⟩,⟨_,hi,rfl,rfl⟩,⟨_,keep _ _ (S.sub _ _ H),rfl,nn,rfl⟩⟩
 refine W.self 0 _ _ E hJ ⟨_,_,_,_,jl l,g,rfl,N,G,dz.ofT W.toU (λi gW d hi q_=>q_.elim λt q_=>q_.elim λx q_=>q_.elim λhx hv=>?_) (λi h ⟨⟨f,e1⟩,⟨o,e2,e3,e4⟩,_⟩ b hb=>?_),hJ,λb hb=>?_,λb hb=>?_,by rw[nV];exact hl,hk⟩
 ·obtain⟨y,hy,rfl⟩:=ub hi
  subst hv
  exact⟨_,rfl,aP.cons (.int _ _) (aP.cons (rl.2 i x y (by simpa using hx) hy) aP.nil)⟩
 ·rcases bT.mp hb with rfl|q
  ·exact⟨_,e1,λvs q t e e'=>by cases e;simp at e'⟩
  ·obtain rfl:=a_.mp q
   exact⟨o,e2,λvs q t e e'=>by replace e:=e4▸e;cases e;simp at e'⟩
 ·rcases bT.mp hb with rfl|q
  ·exact h_ S (jF _)
  ·obtain rfl:=a_.mp q
   exact h_ S (bv _)
 ·rcases bT.mp hb with rfl|q
  ·exact⟨G.dQ B (.inl (by simp)),cq B,.inl (bi)⟩
  ·refine(bT.mp q).elim (λnr=>?_) λq=>?_
   ·subst nr;exact⟨G.dQ hi (.inl (by simp)),cq hi,.inl ((bM _ bi))⟩
   ·cases a_.mp q
    exact⟨G.dQ (G.sub _ _ H) (.inl (by simp)),cq (G.sub _ _ H),.inr ⟨_,H⟩⟩
theorem bk.adp{l:List (Str×D)}(hl:l.length<=10000)(Y:k (.int l.length)):bk n (.builtin "len") [.cO l] k:=.mk λw A s g vs S R r E=>by
 obtain⟨v,rfl,h⟩:=r.one
 refine ba λW=>?_
 obtain⟨a,G,es,rfl,C,V,bh,Z,H,_⟩:=uC S h
 apply W
 have e:bh.length=l.length:=by have:=aQ gm H;simpa using this
 exact call_len_dict (knd:=ix PG w) (beq_false_of_ne V) Z.dictOf (by exact Zh (by assumption) (by assumption)) (Out.toks S (.int _ _) (e▸Y))
theorem MB:FnAt 45 4 "_ellipsis_match" ["want","got"]:=⟨⟨λw=>⟨_,_,_,_,_,rfl,_,_,_,_,rfl,rfl,rfl,rfl⟩⟩,λ_ _ _ _ _ _ vs h=>jf (λ_ _=>by rfl) vs h,by rfl,by rfl⟩
theorem aj.marks(h:k (.str "...")):aj n (fs 4) ρ (aS "ELLIPSIS_MARKER" p) k:=aj.top (v:=.str "..." 291) (by ac_rfl) (by intro w;ac_rfl) (by ac_rfl) (λw g=>.str _ _) h
theorem T2{V got:Str}(Y:jk "..." V=aH)(W:k (.bool (V==got))):bJ 30 45 [.str V,.str got] k:=
 bJ.of MB rfl (aj.marks (cL.mk (λ_=>W) λh=>by replace h:=Y▸h;exact tf h))
section
variable {got:Str} {k:D->Prop}
noncomputable def DE(L:List Str)(s e:Nat)(got:Str):ay:=([("ws",.dat (.lst (L.map D.str))),("startpos",.dat (.int s)),("endpos",.dat (.int e)),("got",.dat (.str got))]:List (Str×Bd))
theorem mW{L:List Str}(h:(L.map D.str)[i]?=aa d):∃x,L[i]?=aa x/\d=.str x:=by
 rw[ci] at h
 induction q:L[i]? with
 |none=>rw[q] at h;exact ns h
 |some x=>rw[q] at h;exact⟨x,rfl,(aW h).symm⟩
theorem xB{P:Prop}(h:¬P):(aH=ae<->P):=⟨tx,λq=>aZ q h⟩
theorem VH{L:List Str}{s e:Nat}(f:got.length<=10000)(hL:L.length<=1001)(Z:e<=(cl got).length)(H:s<=e)(B:∀b:Bool,(b=ae<->cG (L.map cl) (win (cl got) s e))->k (.bool b)):aL 28 (fs 4) (DE L s e got) ((fb 4).drop 9) (fM k):=by
 refine .cons (aO.for (λ_ _=>rfl) (bK.list (aj.name rfl rfl ⟨_,rfl,by rw[aR];exact bd (aV hL (by simp)),λi aC=>∃s':Nat,aC=DE L s' e got/\s'<=e/\(cG ((L.drop i).map cl) (win (cl got) s' e)<->cG (L.map cl) (win (cl got) s e)),⟨s,rfl,H,Ju⟩,?_,?_,?_⟩)))
 ·rintro i _ ⟨s',rfl,_⟩;rfl
 ·rintro i d _ hd ⟨s',rfl,Y,V⟩
  obtain⟨x,hx,rfl⟩:=mW hd
  have hi:=ez.mp hx
  rw[qz hi.1,hi.2,d8] at V
  refine c0.name rfl (cw 4 (bk.Z7 (by simp only[cD];exact Z) ?_))
  rcases Dq (x:=got) (y:=x) Y Z with ⟨j,r',G,hj,a,ha,hw1,W⟩|⟨G,W⟩
  ·rw[G]
   have C:x.length<2^63:=Zb f Z Y hj
   refine bQ C ?_
   refine⟨DE L (s'+j+(cl x).length) e got,cA.sub ⟨rfl,?_,rfl,rfl,trivial⟩,_,rfl,by exact abp (by assumption) (by assumption),(W _).symm.trans V⟩
   simp only[<-cD x];rfl
  ·exact G▸(B aH (xB λq=>W _ (V.mpr q)))
 ·rintro _ ⟨s',rfl,Y,V⟩
  rw[aR,zW] at V
  exact cw 1 (B ae ⟨λ_=>V.mp trivial,λ_=>rfl⟩)
noncomputable def u_(a:ag)(L:List Str)(s e:Nat)(got:Str):ay:=([("ws",.own a (L.map D.str)),("startpos",.dat (.int s)),("endpos",.dat (.int e)),("got",.dat (.str got))]:List (Str×Bd))
theorem J8{L:List Str}{s e:Nat}(Y:got.length<=10000)(W:L.length<=1001)(Z:e<=(cl got).length)(V:∀b:Bool,(b=ae<->s<=e/\cG (L.map cl) (win (cl got) s e))->k (.bool b)):aL 28 (fs 4) (u_ a L s e got) ((fb 4).drop 8) (fM k):=by
 by_cases h:s<=e
 ·exact aL.skip (b_ (eY (by exact abW (by assumption)))) (aL.freeze (x:="ws") rfl (aL.sub (VH Y W Z h λb H=>V b (H.trans ⟨λq=>⟨h,q⟩,λq=>q.2⟩)) (cA.sub ⟨rfl,rfl,rfl,rfl,trivial⟩)))
 ·exact aL.take (b_ (eS (by omega))) (cw 1 (V aH (xB λq=>h q.1)))
theorem Nm{r:Str}:((r.length:Int) != 0)=ae<->cl r≠[]:=by
 refine bne_iff_ne.trans ?_;simp only[cD]
 exact⟨λh e=>h (by rw[e];rfl),λh e=>h (lL.mp (lW e))⟩
theorem Nn{r:Str}(h:cl r=[]):((r.length:Int) != 0)=aH:=by rw[cD,h];rfl
theorem Ir{l:List α}{r:α}(h:(l++[r]).length<=100000):lm (-1) (l++[r]).length=aa l.length:=by
 have e:lm (-1) (l++[r]).length=if (decide (0<=(-1:Int)+(l++[r]).length)&&decide ((-1:Int)+(l++[r]).length<(l++[r]).length))=ae then aa ((-1:Int)+(l++[r]).length).toNat else ak:=rfl
 refine e.trans ?_;rw[bR,Oy,eS (by omega),eS (by omega)]
 show aa _=_
 congr 1;exact Kl _
theorem b8.LL{r:D}(h:(l++[r]).length<=100000)(V:k r):b8 n (.lst (l++[r])) (.int (-1)) k:=
 b8.lst (j:=l.length) (by simp) (by simp) (Ir h) (by rw[o8 (bv _),tL];rfl) V
theorem b8.LM(hd:l.getLast?=aa d)(hl:l.length<=10000)(V:k d):b8 n (.lst l) (.int (-1)) k:=by
 obtain⟨s,rfl⟩:=EF.mp hd
 exact b8.LL (aD hl (by simp)) V
theorem bk.vw{f:ai}{ds sW:List D}(e:ds=sW)(h:bk n f sW k):bk n f ds k:=e▸h
structure aan(got p r:Str)(qs l:List Str):Prop where
 hg:got.length<=10000
 hr:r.length<=10000
 hl:l.length<=1000
 hm:∃m,cl got=cl p++m
 sc:∀x w,(cG (l.map cl++x) w<->cG (qs.map cl++x) w)
theorem Jf{p r:Str}{qs l:List Str}(H:aan got p r qs l)(B:∀b:Bool,(b=ae<->mB (cl p::(qs.map cl++[cl r])) (cl got))->k (.bool b)):aL 28 (fs 4) (u_ a (l++[r]) (cl p).length got.length got) ((fb 4).drop 6) (fM k):=by
 refine H.hm.elim λm0 W=>?_
 have V:r.length<2^63:=aV H.hr (by simp)
 have Y:(l.map D.str++[D.str r]).length<=100000:=by rw[bR,aR];have:=H.hl;exact qL (aV this (by simp))
 refine aL.sub (ρ:=u_ a (l++[r]) (cl p).length got.length got) ?_ (cA.sub ⟨rfl,rfl,rfl,rfl,trivial⟩)
 have em:(l++[r]).map D.str=l.map D.str++[D.str r]:=dK
 unfold u_
 refine em▸?_
 refine cw 1 (b8.LL Y ⟨rfl,?_⟩)
 by_cases h:cl r=[]
 ·refine aL.skip (b_ (bQ V (Nn h))) (aL.sub (J8 (a:=a) (L:=l++[r]) (s:=(cl p).length) (e:=got.length) H.hg (by rw[bR];have:=H.hl;exact qL (aV this (bv _))) (bn (cD got)) λb f=>B b (f.trans ?_)) (cA.sub ⟨?_,rfl,rfl,rfl,trivial⟩))
  ·rw[dK,H.sc,d8,GJ,h,cG.UQ]
   have:=JL (qs:=qs.map cl) W (cR (cl got)).symm
   simp only[cD];exact this
  ·rw[em];rfl
 refine aL.take (b_ (bQ V (Nm.mpr h))) ?_
 cases Z:wG got r
 ·refine aL.els (b_ Z) (cw 1 (B aH (xB λq=>?_)))
  obtain⟨m,q,_⟩:=pQ.mp q
  rw[IY.mpr ⟨cl p++m,q⟩] at Z;exact tf Z
 ·obtain⟨m1,G⟩:=IY.mp Z
  have hrl:(cl r).length<=(cl got).length:=by rw[G,bR];exact jB _ _
  refine aL.take (b_ Z) (cw 1 (bQ V (.cons (aO.Ku rfl rfl Y (bD ⟨-1,l.length,rfl,rfl,?_,aL.nil (aL.nil ?_)⟩)))))
  ·exact(aQ (lm (-1)) (by simp only[bR,bR,aR];rfl)).trans (Ir (l:=l) (r:=r) (by rw[bR] at Y⊢;rw[aR] at Y;exact Y))
  refine aL.sub (J8 (a:=a) (L:=l) (s:=(cl p).length) (e:=(cl got).length-(cl r).length) H.hg (wb H.hl) (rr _ _) λb f=>B b (f.trans ?_)) (cA.sub ⟨?_,rfl,?_,rfl,trivial⟩)
  ·have C:=H.sc [] (win (cl got) (cl p).length ((cl got).length-(cl r).length))
   rw[cR,cR] at C
   rw[C]
   exact JL W G
  ·show aa (Bd.own a ((l.map D.str++[D.str r]).eraseIdx l.length))=_
   rw[List.eraseIdx_append_of_length_le (by rw[aR];exact bv _),aR,tL]
   show aa (Bd.own a (l.map D.str++[]))=_
   rw[cR]
  ·show aa (Bd.dat (.int ((got.length:Int)-r.length)))=_
   simp only[cD got,cD r,<-Int.ofNat_sub hrl]
theorem T3{p r:Str}{qs:List Str}(H:got.length<=10000)(G:p.length<=10000)(hr:r.length<=10000)(hl:qs.length<=998)(Z:∀b:Bool,(b=ae<->mB (cl p::(qs.map cl++[cl r])) (cl got))->k (.bool b)):aL 28 (fs 4) (u_ a (p::(qs++[r])) 0 got.length got) ((fb 4).drop 4) (fM k):=by
 have V:p.length<2^63:=aV G (by simp)
 have Y:(p::(qs++[r])).length<=1000:=by simp only[gj,bR];show _+1+1<=_;exact ZW (by assumption)
 refine cw 1 (b8.oH (i:=0) (d:=.str p) (by rw[aR];exact bd (aV Y (lT tT))) rfl ⟨rfl,?_⟩)
 by_cases h:cl p=[]
 ·refine aL.skip (b_ (bQ V (Nn h))) (aL.sub (Jf (a:=a) (p:=p) (r:=r) (qs:=qs) (l:=p::qs) ⟨H,hr,by exact qL (aV hl (lT tT)),⟨cl got,by rw[h];rfl⟩,λx w=>by rw[d8,h];exact cG.xw⟩ Z) (cA.sub ⟨rfl,?_,rfl,rfl,trivial⟩))
  rw[h];rfl
 refine aL.take (b_ (bQ V (Nm.mpr h))) ?_
 cases W:wy got p
 ·refine aL.els (b_ W) (cw 1 (Z aH (xB λq=>?_)))
  obtain⟨m,q,_⟩:=pQ.mp q
  rw[Hn.mpr ⟨m++cl r,by rw[q,c6]⟩] at W;exact tf W
 ·refine aL.take (b_ W) (cw 1 (bQ V (.cons (aO.Ku rfl rfl (by rw[aR];exact bd (aV Y (lT tT))) (bD ⟨0,0,rfl,rfl,?_,aL.nil (aL.nil ?_)⟩)))))
  ·rw[aR]
   show (if (decide ((0:Int)<=0)&&decide ((0:Int)<((p::(qs++[r])).length:Nat)))=ae then aa (0:Int).toNat else _)=_
   rw[gj,eS (by omega:(0:Int)<((_+1:Nat):Int))];rfl
  ·refine aL.sub (Jf (a:=a) (p:=p) (r:=r) (qs:=qs) (l:=qs) ⟨H,hr,bd (aV hl (lT tT)),Hn.mp W,λ_ _=>Ju⟩ Z) (cA.sub ⟨rfl,?_,rfl,rfl,trivial⟩)
   simp only[<-cD];rfl
theorem Xj{V:Str}{ps:List Str}(hw:V.length<=10000)(B:got.length<=10000)(G:jk "..." V=ae)(C:pC V "..."=ps)
 (Z:(vM V (ku V "..." 0 V.length (V.length+1)) (iy "...")).length<=sizeLine)(h2:2<=ps.length)(H:∀x∈ps,x.length<=10000)(Y:ps.length<=1000)
 (f:∀b:Bool,(b=ae<->mB (ps.map cl) (cl got))->k (.bool b)):bJ 30 45 [.str V,.str got] k:=by
 obtain⟨p,W,r,rfl⟩:∃p W r,ps=p::(W++[r]):=by
  match ps,h2 with
  |p::q::l,_=>exact⟨p,(q::l).dropLast,(q::l).getLast (by simp),by rw[zh]⟩
 have hn:(!jk "..." V)=aH:=by rw[G];rfl
 refine bJ.vr MB rfl (aL.skip (b_ (aj.marks hn)) (.cons (aO.uo rfl (λ_=>rfl) (cK.split (λ_=>mU rfl _ _ _) rfl rfl (bD ⟨V,rfl,aj.marks ⟨"...",rfl,rfl,hw,Z,λa=>?_⟩⟩)))))
 rw[C]
 simp only[gj,bR] at Y
 have hl:((p::(W++[r])).map D.str).length=W.length+2:=by simp only[aR,gj,bR];rfl
 have Y:W.length+2<=1000:=Y
 refine cw 2 (bQ ?_ (bQ rfl (bQ ?_ (bQ (aV B (by simp)) (aL.sub (T3 (a:=a) (p:=p) (qs:=W) (r:=r) B (H p bi) (H r (bM _ (o_ _ bi))) (by exact OX (by assumption)) ?_) (cA.sub ⟨rfl,rfl,rfl,rfl,trivial⟩))))))
 ·rw[hl];exact aV Y (by simp)
 ·exact eS (by rw[hl];omega)
 ·rw[d8,dK] at f
  exact f
end
theorem filterMap_some{T:List α}{f V:α->D}{g:D->Option D}{p:α->Bool}(h:∀x∈T,g (f x)=if p x then aa (V x) else ak):(T.map f).filterMap g=(T.filter p).map V:=by
 induction T with
 |nil=>rfl
 |cons x r Y=>
  rw[d8,nF,Y λy W=>h y (bM _ W),h x bi,jA]
  cases p x<;>rfl
noncomputable def d7:List Int:=(dM 16).map λi:Nat=>-4+(i:Int)
noncomputable def K1(hs:Str->Int->Int×Int)(c:Int)(x:Str):Int:=60*(hs x c).1+(hs x c).2
noncomputable def K2(hs:Str->Int->Int×Int)(c:Int)(x:Str):Int:=(hs x c).1
def et(a b:c_)(c:Int):Int:=su a.x0 a.x1 a.h0 a.h1 b.x0 b.x1 b.h0 b.h1 c
def qj(ss:b0)(c:Int)(x:Str):Int:=(((eW ss c).filter λy=>decide (0<et (bu ss x) (bu ss y) c)).length:Nat)
def gV(ss:b0)(hs:Str->Int->Int×Int)(c:Int):List Str:=eX (K1 hs c) (eW ss c)
noncomputable def cz(l:List Str):D:=.lst (l.map D.str)
def kk(T:List Str)(f:Str->D)(d:D):Option D:=d.f_.bind λy=>if y∈T then aa (f y) else ak
theorem rQ{f:Str->D}(h:y∈T):kk T f (.str y)=aa (f y):=bo h
set_option tactic.hygienic true in
theorem Iu{f:Str->D}{r:D}(h:kk T f d=aa r):∃y,d=.str y/\y∈T/\r=f y:=
 (iq.mp h).elim λy h=>have q:=NT.mp h.2
  ⟨y,D.ma h.1,q.1,(aW q.2).symm⟩
theorem MC{a b x y:Int}(h:a<b)(V:x<60)(Y:0<=y):60*a+x<60*b+y:=
 lc (zx V _) (dh (dh (ja (RG 60 a 1).symm) (Ew h (by simp))) (vH Y))
theorem BF{p q:Int×Int}(V:0<=p.2/\p.2<60)(Y:0<=q.2/\q.2<60):gF (pairD p) (pairD q)=aa (decide (60*p.1+p.2<60*q.1+q.2)):=
 aQ aa (decide_eq_decide.mpr ⟨λh=>h.elim (λh=>MC h V.2 Y.1) λh=>h.1▸zx h.2 _,λh=>(zR p.1 q.1).elim .inl λe=>e.elim (λe=>.inr ⟨e,Int.lt_of_add_lt_add_left (a:=60*q.1) (e▸h)⟩) λe=>aZ (MC e Y.2 V.1) (rg h)⟩)
theorem aao{K:Str->Int}{b:List Nat}(V:dJ (ltZ (T.map K)) (T.map D.str).length b):(b.map λi=>(T.map D.str).getD i .none)=(eX K T).map D.str:=by
 rw[aR] at V
 simp only[<-Rt V,cJ]
 refine lN λi hi=>?_
 have:=V.ju i hi
 simp[dt this]
theorem ki(l:List Str):iC (.lst .str) (.lst (l.map D.str)):=⟨_,rfl,λd hd=>by obtain⟨x,_,rfl⟩:=bL.mp hd;exact⟨x,rfl⟩⟩
noncomputable def cnt(K:Str->Int)(X:Int)(l:List Str):Nat:=(l.filter λy=>decide (K y<X)).length
theorem CC{K:Str->Int}{X:Int}{l:List Str}:cnt K X l<=l.length:=kD _ _
theorem YU{K:Str->Int}{X:Int}{l:List Str}(hs:lC K l)(j:Nat)(y:Str)(h:l[j]?=aa y):K y<X<->j<cnt K X l:=by
 induction l generalizing j with
 |nil=>exact ns h
 |cons z r Y=>
  have hs:=fV.mp hs
  by_cases V:K z<X
  ·have e:cnt K X (z::r)=cnt K X r+1:=aQ gm (List.filter_cons_of_pos (p:=λy=>decide (K y<X)) (eS V))
   rw[e]
   cases j with
   |zero=>exact⟨λ_=>eB _,λ_=>aW h▸V⟩
   |succ j=>exact(Y hs.2 j h).trans Nat.succ_lt_succ_iff.symm
  ·have no:∀u∈z::r,¬K u<X:=fm V λa W q=>V (jy (hs.1 a W) q)
   have e:cnt K X (z::r)=0:=aQ gm (vN.mpr λu Z q=>no u Z (cY q))
   rw[e]
   exact⟨λq=>aZ q (no y (c5 h)),λq=>aZ q (z6 _)⟩
noncomputable def clamp(lo hi c:Nat):Nat:=min (max lo c) hi
def kr(K:Str->Int)(X:Int)(a7:List Str)(j:Nat):Bool:=decide (j<cnt K X a7)
theorem VI{K:Str->Int}{X:Int}{a7:List Str}{lo:Nat}(V:lo<=r)(Y:r<=hi)(hh:hi<=a7.length)(h3:∀j,lo<=j->j<r->kr K X a7 j=ae)(W:∀j,r<=j->j<hi->kr K X a7 j=aH):r=clamp lo hi (cnt K X a7):=
 lg (Nat.le_min.mpr ⟨(Nat.eq_or_lt_of_le V).elim (λe=>e▸P' ..) λh=>aD (Pz (cY (h3 (r-1) (OM h) (He (Nat.zero_lt_of_lt h) tN)))) (PQ ..),Y⟩)
  ((Nat.lt_or_ge r hi).elim (λhr=>aD (wm ..) (Nat.max_le.mpr ⟨V,de.mp (ig (W r (bv _) hr))⟩)) λhr=>aD (ph ..) hr)
theorem Iv{len:Nat}(h:c<=len):clamp 0 len c=c:=(aQ (min · len) (Nat.zero_max c)).trans (iN h)
noncomputable def iW(c s:Int):c_:=⟨c,c+1,s,s⟩
def oz(hs:Str->Int->Int×Int)(c:Int)(a7:List Str):List D:=a7.map λy=>pairD (hs y c)
theorem KY(l:List Int):iC (.lst .int) (.lst (l.map D.int)):=⟨_,rfl,λd hd=>by obtain⟨x,_,rfl⟩:=bL.mp hd;exact⟨x,rfl⟩⟩
theorem T4{l:List (List Nat)}(h:∀p∈l,p.length<=b):(c7 l).length<=l.length*(b+3):=by
 induction l with
 |nil=>exact ck _
 |cons p r V=>cases r with
  |nil=>exact aD (h p bi) (aD (cy b 3) (bn (pu _).symm))
  |cons q r=>
   rw[show c7 (p::q::r)=p++dT++c7 (q::r) from rfl,bR,bR,gj (a:=p),G3]
   exact abD (V λx Y=>h x (bM _ Y)) (h p bi)
theorem SK{l:List (List Nat)}(h:l≠[]):c7 (l++[[]])=c7 l++dT:=by
 induction l with
 |nil=>exact aZ rfl h
 |cons p r V=>cases r with
  |nil=>exact cR _
  |cons q r=>
   show p++dT++c7 ((q::r)++[[]])=p++dT++c7 (q::r)++dT
   rw[V (mM _ _),<-c6]
theorem SM{l:List (List Nat)}(h:l≠[]):c7 ([]::(l++[[]]))=dT++c7 l++dT:=by
 simp only[show dT++c7 l++dT=dT++(c7 l++dT) by simp,<-SK h]
 induction l with
 |nil=>exact aZ rfl h
 |cons p r=>rfl
theorem G'(Y:∀x∈xs,x.length<=b)(h:xs.length*(b+3)<=9000):n9 "..." xs=ae:=by
 have V:∀(l:List Str) (a:Nat),(∀x∈l,x.length<=b)->l.foldl (λa x=>a+x.length+iy "...") a<=a+l.length*(b+3):=by
  intro l
  induction l with
  |nil=>exact λa _=>cy _ _
  |cons x l W=>
   intro a hl
   have Z:rs _ (a+x.length+3) l<=a+x.length+3+l.length*(b+3):=W (a+x.length+iy "...") λy H=>hl y (bM _ H)
   rw[iw,gj,G3]
   exact abC Z (hl x bi)
 have:=X_ h (V xs 0 Y)
 unfold n9
 rw[List.foldl_toArray' _ _ _ rfl]
 exact aQ (!·) (eY (de.mpr this))
noncomputable def mC:Str:=""
theorem B8(x:Str)(lo hi:Option Int):(d6 x lo hi aU).length<=x.length:=by
 simp only[cD,nZ,cD x]
 simp only[win,qT,gJ];exact aD (rr _ _) (ph _ _)
theorem J9(l:List Bool):iC (.lst .bool) (.lst (l.map D.bool)):=⟨_,rfl,λd hd=>by obtain⟨x,_,rfl⟩:=bL.mp hd;exact⟨x,rfl⟩⟩
theorem T5{g P a b H T:List Nat}(V:g=a++P++b)(G:∃m,H=m++P)(C:∃m,T=P++m)(Y:g.count c<=P.count c)(W:H.count c<=P.count c)(Z:T.count c<=P.count c){X:List Nat}(B:X=[]\/X=[c]):
 (cG [P++X] g<->X=[])/\(cG [P,X] g<->X=[])/\((∃m,H=[]++m++P/\cG [X] m)<->X=[])/\((∃m,T=P++m++[]/\cG [X] m)<->X=[]):=by
 have k:∀{A:Prop},(X=[]->A)->(X=[c]->¬A)->(A<->X=[]):=λp n=>⟨λa=>B.elim id λe=>aZ a (n e),p⟩
 have c1:wV c [c]=1:=by rw[List.count_singleton_self]
 have no:∀{n:Nat},P.count c+1<=n->n<=P.count c->False:=λh q=>OU _ (aD h q)
 have NL:∀{m:List Nat},X=[c]->cG [X] m->1<=m.count c:=λe h=>c1▸AR c (e▸h:cG [[c]] _)
 refine⟨k (λe=>⟨a,b,by rw[e,cR];exact V,trivial⟩) λe h=>?_,k (λe=>⟨a,b,V,b,[],by rw[e,cR,cR],trivial⟩) λe h=>?_,k (λe=>G.elim λm h=>⟨m,h,e▸cG.xw.mpr trivial⟩) λe h=>?_,k (λe=>C.elim λm h=>⟨m,h.trans (cR _).symm,e▸cG.xw.mpr trivial⟩) λe h=>?_⟩
 ·have q:wV c (P++[c])<=_:=AR c (e▸h)
  rw[nL,c1] at q
  exact no q Y
 ·have q:wV c P+wV c [c]<=_:=AR c (e▸h)
  rw[c1] at q
  exact no q Y
 ·refine h.elim λm h=>?_
  rw[show H=m++P from h.1,nL] at W
  exact no (gP _ _▸gG (NL e h.2) _) W
 ·refine h.elim λm h=>?_
  rw[h.1,cR,nL] at Z
  exact no (fi (NL e h.2) _) Z
noncomputable def sx(i:Nat):List Bool:=gL (4*min i 1) ae++gL (4*(i-1)) aH
noncomputable def ln(pg:List (Str×Str))(p:Str×Str):List (Str×Str):=pg.filter (λq=>cf q.1 != cf p.1)++[p]
noncomputable def iX(t:Nat)(c:Int):Str:=⟨#[if t%2=0 then 67 else 99]⟩++(toString c:Str)
noncomputable def dZ(c:Int):Str:="c"++(toString c:Str)
theorem VJ:((dM 2).all λt=>(dM 20).all λc=>okN (iX t ((c:Int)-4))&&okN (cf (iX t ((c:Int)-4)))&&decide (cf (iX t ((c:Int)-4))=dZ ((c:Int)-4))&&decide ((iX t ((c:Int)-4)).length<=10)&&decide ((dZ ((c:Int)-4)).length<=10))=ae:=by decide+kernel
theorem xM{t:Nat}{c:Int}(V:-4<=c)(Y:c<=15):okN (iX t c)=ae/\okN (cf (iX t c))=ae/\cf (iX t c)=dZ c/\(iX t c).length<=10/\(dZ c).length<=10:=by
 have h:=ef.mp (ef.mp VJ (t%2) (gk.mpr (tV _ (lT tT)))) (c+4).toNat (gk.mpr (Zx Y))
 have W:iX (t%2)=iX t:=by unfold iX;rw[Nat.mod_mod]
 rw[abq V,W] at h
 have h:=(bB _ _).mp h;have u:=(bB _ _).mp h.1;have v:=(bB _ _).mp u.1;have w:=(bB _ _).mp v.1
 exact⟨w.1,w.2,cY v.2,cY u.2,cY h.2⟩
def jq(ss:b0)(t:Nat)(x:Str):List (Str×Str):=(dS (bu ss x)).map λc=>(iX t c,x)
def uF(ss:b0)(aG:List Str):List (Str×Str):=(aG.zipIdx.map λp=>jq ss p.2 p.1).flatten
def jM(ss:b0)(aG:List Str):List (Str×Str):=(uF ss aG).foldl ln []
def oR(rows:List (List Str)):List (Str×Str):=(rows.zipIdx.filter λp=>!p.1.isEmpty).map λp=>(dZ ((p.2:Int)-4),p.1.getLastD default)
noncomputable def ff(x:Str):Bool:=(["A","B","C","D","E","F"]:List Str).contains x
noncomputable def caps:List Str:=["A","B","C","D","E","F"]
theorem Bf(h:ff x=ae):x∈caps:=qD.mp h
theorem VK:(caps.all λx=>okN x&&okN (cf x)&&oY x&&decide (x.length=1)&&decide ((cf x).length=1)&&decide (cf (cf x)=cf x)&&caps.all λy=>(cf x==cf y)==(x==y))=ae:=by decide+kernel
theorem md(h:ff x=ae):(okN x=ae/\okN (cf x)=ae/\oY x=ae/\x.length=1/\(cf x).length=1/\cf (cf x)=cf x)/\∀y,ff y=ae->((cf x==cf y)=(x==y)):=
 have a:=(bB _ _).mp (ef.mp VK x (Bf h))
 have b:=(bB _ _).mp a.1;have c:=(bB _ _).mp b.1;have d:=(bB _ _).mp c.1;have e:=(bB _ _).mp d.1;have f:=(bB _ _).mp e.1
 ⟨⟨f.1,f.2,e.2,cY d.2,cY c.2,cY b.2⟩,λy V=>eq_of_beq (ef.mp a.2 y (Bf V))⟩
theorem VL:((dM 16).all λc=>oY (toString (c:Int))&&decide ((toString (c:Int):Str).length<=2))=ae:=by decide+kernel
theorem YV(h:c<16):oY (toString (c:Int))=ae/\(toString (c:Int):Str).length<=2:=
 have a:=(bB _ _).mp (ef.mp VL c (gk.mpr h))
 ⟨a.1,cY a.2⟩
noncomputable def f6(c:Nat)(a7:List Str):List (Str×Str):=a7.map λl=>(l,(toString (c:Int):Str))
def kt(rows:List (List Str)):List (Str×Str):=(rows.zipIdx.map λp=>f6 p.2 p.1).flatten
noncomputable def jr{α:Type}(l:List (Str×α))(x:Str)(a:α):List (Str×α):=if l.any (λp=>p.1=x) then l.map (λp=>if p.1=x then (p.1,a) else p) else l++[(x,a)]
theorem VM(f:α->β)(l:List (Str×α))(x:Str)(a:α):(jr l x a).map (λp=>(p.1,f p.2))=jr (l.map λp=>(p.1,f p.2)) x (f a):=by
 unfold jr
 have e:(l.map λp=>(p.1,f p.2)).any (λp=>p.1=x)=l.any λp=>p.1=x:=Ar
 rw[e]
 by_cases q:l.any (λp=>p.1=x)=ae
 ·rw[bo q,bo q,cJ,cJ]
  exact lN λp _=>apply_ite (λp:Str×α=>(p.1,f p.2)) (p.1=x) (p.1,a) p
 ·rw[be q,be q,dK];rfl
def f7(pg:List (Str×Str)):List (Str×Str):=pg.foldl (λl p=>jr l p.2 p.1) []
noncomputable def g8(pg:List (Str×Str))(y:Str):List Str:=(pg.filter λp=>p.1==y).map (·.2)
def va(d:D):Str×D:=((((d.oJ.getD [])[1]?.bind D.f_).getD ""),((d.oJ.getD [])[0]?.getD .none))
def uQ(pg:List (Str×Str))(d:D):Str×D:=(d.f_.map λy=>(y,cz (g8 pg y))).getD ("",.none)
theorem Xk(pg:List (Str×Str)):(pg.map bY).foldl (λl d=>ji l (va d).1 (va d).2) []=n7 (f7 pg):=by
 have V:∀(pg l:List (Str×Str)),(pg.map bY).foldl (λl d=>ji l (va d).1 (va d).2) (n7 l)=n7 (pg.foldl (λl p=>jr l p.2 p.1) l):=by
  intro pg
  induction pg with
  |nil=>intro l;rfl
  |cons p r Y=>
   intro l
   simp only[d8,iw,iw,<-Y]
   congr 1
   exact(VM D.str l p.2 p.1).symm
 exact V pg []
theorem YW(pg:List (Str×Str))(W:ys.Nodup):(ys.map D.str).foldl (λl d=>ji l (uQ pg d).1 (uQ pg d).2) []=ys.map λy=>(y,cz (g8 pg y)):=by
 have Y:∀(ys V:List Str),(V++ys).Nodup->(ys.map D.str).foldl (λl d=>ji l (uQ pg d).1 (uQ pg d).2) (V.map λy=>(y,cz (g8 pg y)))=(V++ys).map λy=>(y,cz (g8 pg y)):=by
  intro ys
  induction ys with
  |nil=>intro V _;simp
  |cons y r Z=>
   intro V h
   have e:ji (V.map λy=>(y,cz (g8 pg y))) y (cz (g8 pg y))=(V++[y]).map λy=>(y,cz (g8 pg y)):=by
    unfold ji
    rw[be,dK]
    ·rfl
    ·rw[Ar,tz]
     rintro⟨z,H,e⟩
     have e:z=y:=eq_of_beq e
     subst e
     have:=(kG.mp h).2.2 z H z bi
     exact this rfl
   show (r.map D.str).foldl _ (ji (V.map λy=>(y,cz (g8 pg y))) y (cz (g8 pg y)))=_
   simp only[e,Z (V++[y]) (by simpa using h)]
   simp
 exact Y ys [] (by exact W)
set_option tactic.hygienic true in
theorem T6{l:List (Str×α)}{a:α}(h:(l.map (·.1)).Nodup):((jr l x a).map (·.1)).Nodup/\∀y,y∈(jr l x a).map (·.1)<->y=x\/y∈l.map (·.1):=by
 have V:l.any (λp=>p.1=x)=ae<->x∈l.map (·.1):=tz.trans ⟨λq=>q.elim λp q=>(cY q.2:p.1=x)▸kE q.1,λq=>(bL.mp q).elim λp q=>⟨p,q.1,eS q.2⟩⟩
 unfold jr
 by_cases q:l.any (λp=>p.1=x)=ae
 ·have e:(l.map λp=>if p.1=x then (p.1,a) else p).map (·.1)=l.map (·.1):=cJ.trans (lN λp _=>(apply_ite Uv (p.1=x) (p.1,a) p).trans (ite_self _))
  rw[bo q,e]
  exact⟨h,λy=>⟨.inr,λr=>r.elim (λe=>e▸V.mp q) id⟩⟩
 ·rw[be q,dK]
  exact⟨kG.mpr ⟨h,mE _ _,λy Y z W e=>q (V.mpr ((a_.mp W:z=x)▸e▸Y))⟩,λy=>cQ.trans (or_comm.trans (or_congr_left a_))⟩
theorem AI(pg:List (Str×Str)):((f7 pg).map (·.1)).Nodup:=by
 have V:∀(pg l:List (Str×Str)),(l.map (·.1)).Nodup->((pg.foldl (λl p=>jr l p.2 p.1) l).map (·.1)).Nodup:=by
  intro pg
  induction pg with
  |nil=>exact λl h=>h
  |cons p r Y=>exact λl h=>Y _ (T6 h).1
 exact V pg [] (jZ)
theorem pM[DecidableEq α]{b l:List α}(V:b.Nodup)(h:∀x∈b,x∈l):b.length<=l.length:=by
 induction b generalizing l with
 |nil=>exact ck _
 |cons x r Z=>
  have V:=gK.mp V
  have Y:=h x bi
  exact L8 (EH Y▸Z (l:=l.erase x) V.2 λy W=>(EU λe:y=x=>V.1 (e▸W)).mpr (h y (bM _ W))) (EK Y)
theorem T7{pg:List (Str×Str)}{p:Str×Str}(h:p∈f7 pg):∃q∈pg,q.1=p.2:=by
 have V:∀(pg l:List (Str×Str)) (p:Str×Str),p∈pg.foldl (λl p=>jr l p.2 p.1) l->p∈l\/∃q∈pg,q.1=p.2:=by
  intro pg
  induction pg with
  |nil=>exact λl p h=>.inl h
  |cons q r W=>
   intro l p h
   rcases W _ _ h with h|⟨Z,H,G⟩
   ·have h:p∈jr l q.2 q.1:=h
    unfold jr at h
    split at h
    ·refine(bL.mp h).elim λu Y=>Y.elim λC e=>?_
     split at e
     ·exact .inr ⟨q,bi,e▸rfl⟩
     ·exact .inl (e▸C)
    ·rcases cQ.mp h with h|h
     ·exact .inl h
     ·exact .inr ⟨q,bi,by rw[a_.mp h]⟩
   ·exact .inr ⟨Z,bM _ H,G⟩
 rcases V pg [] p h with h|h
 ·simp at h
 ·exact h
def mm(pg:List (Str×Str))(ys:List Str):List Str:=ys.filter λy=>(g8 pg y).all λc=>(f7 pg).lookup c==aa y
def gi(m:Nat)(xs:List Str):Prop:=xs.length<=m/\∀x∈xs,x.length<=90/\46∉cl x
theorem gi.join(h:gi m xs):(c7 (xs.map cl)).length<=m*93:=by
 have:=T4 (b:=90) (l:=xs.map cl) λp V=>by
  obtain⟨x,Y,rfl⟩:=bL.mp V
  rw[<-cD];exact(h.2 x Y).1
 rw[aR] at this
 exact aD this (qF 93 h.1)
theorem gi.nil:gi 0 []:=⟨bv _,nofun⟩
theorem gi.cons(V:x.length<=90)(Y:46∉cl x)(h:gi m xs):gi (m+1) (x::xs):=⟨nM h.1,λy W=>(bT.mp W).elim (λe=>e▸⟨V,Y⟩) (h.2 y)⟩
theorem gi.snoc(h:gi m xs):gi (m+1) (xs++[mC]):=⟨by rw[bR];exact nM h.1,λy V=>(cQ.mp V).elim (h.2 y) λe=>(a_.mp e).symm▸⟨ck _,nofun⟩⟩
theorem uG{Y got:Str}{ps:List Str}(H:cl Y=c7 (ps.map cl))(G:2<=ps.length)(V:gi 100 ps)(C:got.length<=10000)(B:∀b:Bool,(b=ae<->mB (ps.map cl) (cl got))->k (.bool b)):bJ 30 45 [.str Y,.str got] k:=by
 refine(Sy G (λx W=>(V.2 x W).2) H).elim λf Z=>Z.elim λq2 q3=>?_
 refine Xj ?_ C f q2 ?_ G (λx W=>aD (V.2 x W).1 (by simp)) (aD V.1 (by simp)) B
 ·simp only[cD,H];exact aD V.join (lB tT)
 ·rw[q3];exact aD V.1 (lB tT)
theorem Xl(V:ys≠[])(Y:c7 (ys.map cl)=c7 (xs.map cl)):cl ("..."++jK "..." xs++"...")=c7 ((mC::(ys++[mC])).map cl):=by
 simp only[fF,fF,B3,JS,d8,dK,d8,GJ]
 show _=c7 ([]::(ys.map cl++[[]]))
 rw[SM λe=>V (zD.mp e),Y]
theorem VN{ps:List (List Nat)}{g:List Nat}:mB ([]::(ps++[[]])) g<->cG ps g:=by
 exact pQ.trans ⟨λV=>by obtain⟨m,e,q⟩:=V;rw[cR] at e;exact e▸q,λq=>⟨g,(cR g).symm,q⟩⟩
theorem T8{V:Str}(Z:gi 50 xs)(H:V.length<=10000)(G:∀b:Bool,(b=ae<->cG (xs.map cl) (cl V))->k (.bool b)):bJ 30 45 [.str ("..."++jK "..." xs++"..."),.str V] k:=by
 have Y:∀ys:List Str,ys≠[]->c7 (ys.map cl)=c7 (xs.map cl)->gi 50 ys->(cG (ys.map cl) (cl V)<->cG (xs.map cl) (cl V))->bJ 30 45 [.str ("..."++jK "..." xs++"..."),.str V] k:=λys C B h3 f=>by
  have W:gi 52 (mC::(ys++[mC])):=.cons (ck _) nofun h3.snoc
  refine uG (Xl C B) (by simp only[gj,bR];exact nM (jB 1 _)) ⟨aD W.1 (by simp),W.2⟩ H λb hb=>G b (hb.trans ?_)
  simp only[d8,dK,<-f]
  exact VN
 induction xs with
 |nil=>exact Y [mC] nofun rfl ⟨lB tT,λy hy=>(a_.mp hy).symm▸⟨ck _,nofun⟩⟩ cG.xw
 |cons x r=>exact Y (x::r) nofun rfl Z Ju
theorem aap:FnAt 308 31 "_law_takes" ["letters","text"]:=⟨⟨λw=>⟨_,_,_,_,_,rfl,_,_,_,_,rfl,rfl,rfl,rfl⟩⟩,λ_ _ _ _ _ _ vs h=>jf (λ_ _=>by rfl) vs h,by rfl,by rfl⟩
theorem ud{G:D}{V:Str}(C:G=.lst (xs.map D.str)\/∃y:Str,G=.str y/\y.length<=10000/\xs=chars y)(H:gi 50 xs)(f:V.length<=10000)
 (hk:∀b:Bool,(b=ae<->cG (xs.map cl) (cl V))->k (.bool b)):bJ 40 308 [G,.str V] k:=by
 have Y:(jK "..." xs).length<=4650:=by simp only[cD,B3];exact H.join
 have W:("..."++jK "..." xs:Str).length<=4653:=by rw[cD,fF,bR,gP,<-cD];exact gG Y 3
 have Z:=G' (b:=90) (λx B=>(H.2 x B).1) (aD (qF 93 H.1) (by simp))
 refine bJ.of aap rfl ?_
 refine bk.mono (k:=λd=>d=.str (jK "..." xs)) ?_ λd e=>?_
 ·rcases C with rfl|⟨y,rfl,hy,rfl⟩
  ·exact bk.join Z rfl
  ·exact bk.Lj hy Z rfl
 ·subst e
  exact bQ (aD (fi Y 3) (lB tT)) (bQ (aD (gG W 3) (lB tT)) ((T8 H f hk).le (by simp)))
theorem aaq:FnAt 315 32 "_law_once" ["letter","seen"]:=⟨⟨λw=>⟨_,_,_,_,_,rfl,_,_,_,_,rfl,rfl,rfl,rfl⟩⟩,λ_ _ _ _ _ _ vs h=>jf (λ_ _=>by rfl) vs h,by rfl,by rfl⟩
noncomputable def DF(a:ag)(V:List Bool)(iG l seen:Str)(f t:Int):ay:=([("told",.own a (V.map D.bool)),("part",.dat (.str iG)),("first",.dat (.int f)),("last",.dat (.int t)),("letter",.dat (.str l)),("seen",.dat (.str seen))]:List (Str×Bd))
structure LO(c:Nat)(seen iG:Str)(f t:Int):Prop where
 hs:seen.length<=40
 dot:46∉cl iG
 len:iG.length<=40
 ok:∀X,X=[]\/X=[c]->(cG [cl iG++X] (cl seen)<->X=[])/\(cG [cl iG,X] (cl seen)<->X=[])/\((∃m,cl (d6 seen ak (aa t) ak)=[]++m++cl iG/\cG [X] m)<->X=[])/\((∃m,cl (d6 seen (aa f) ak ak)=cl iG++m++[]/\cG [X] m)<->X=[])
theorem yo{p:Prop}[Decidable p]{b:Bool}(h:b=ae<->p):b=decide p:=by
 rw[hY,h,decide_eq_true_eq]
theorem len_app(x y:Str):(x++y).length=x.length+y.length:=by simp only[cD,cD,cD,fF,bR]
theorem pR{a:Nat}(V:a<=100)(Y:b<=100):a+b<=sizeLine:=aD (fW V Y) (lB tT)
theorem MD{p q r g:List Nat}:mB [p,q,r] g<->∃m,g=p++m++r/\cG [q] m:=pQ (qs:=[q])
theorem ME{p q:Str}:cl ("..."++p++"..."++q)=c7 ([mC,p,q].map cl)/\cl (p++"..."++q++"...")=c7 ([p,q,mC].map cl):=by
 constructor
 ·rw[fF,fF,fF]
  show dT++cl p++dT++cl q=dT++(cl p++dT++cl q)
  rw[c6 dT,c6 dT]
 ·rw[fF,fF,fF]
  show cl p++dT++cl q++dT=cl p++dT++(cl q++dT++[])
  rw[cR,c6 _ (cl q)]
theorem w0{seen iG:Str}{f t:Int}(W:LO c seen iG f t)(C:cl x=[]\/cl x=[c])(hc:c≠46):
 (∀k:D->Prop,k (.bool (decide (cl x=[])))->bJ 58 308 [.lst [.str (iG++x)],.str seen] k)/\(∀k:D->Prop,k (.bool (decide (cl x=[])))->bJ 58 308 [.lst [.str iG,.str x],.str seen] k)/\
 (∀k:D->Prop,k (.bool (decide (cl x=[])))->bJ 58 45 [.str ("..."++x++"..."++iG),.str (d6 seen ak (aa t) ak)] k)/\(∀k:D->Prop,k (.bool (decide (cl x=[])))->bJ 58 45 [.str (iG++"..."++x++"..."),.str (d6 seen (aa f) ak ak)] k):=by
 have e1:=(W.ok (cl x) C).1;have e2:=(W.ok (cl x) C).2.1;have e3:=(W.ok (cl x) C).2.2.1;have e4:=(W.ok (cl x) C).2.2.2
 have B:x.length<=1:=by simp only[cD];rcases C with e|e<;>rw[e];exact ck _;exact bv 1
 have Z:46∉cl x:=λh=>by rcases C with e|e<;>rw[e] at h;exact nomatch h;exact hc (a_.mp h).symm
 have hs:∀lo hi,(d6 seen lo hi ak).length<=10000:=λlo hi=>aD (B8 _ _ _) (aD W.hs (lB tT))
 have V:=aD W.len (by simp:40<=90)
 have Y:=aD B (by simp:1<=90)
 have No:=aD W.hs (lB tT:40<=10000)
 refine⟨λk H=>(ud (xs:=[iG++x]) (.inl rfl) ⟨show 1<=50 by simp,λy hy=>?_⟩ No λb G=>?_).le (by decide),λk H=>(ud (xs:=[iG,x]) (.inl rfl) ⟨show 2<=50 by simp,(.cons V W.dot (.cons Y Z .nil):gi 2 [iG,x]).2⟩ No λb G=>?_).le (by decide),λk H=>(uG ME.1 (show 2<=3 by decide) ⟨show 3<=100 by decide,(gi.cons (x:=mC) (m:=2) (ck _) nofun (gi.cons Y Z (.cons V W.dot .nil))).2⟩ (hs _ _) λb G=>?_).le (by decide),λk H=>(uG ME.2 (show 2<=3 by decide) ⟨show 3<=100 by decide,(gi.cons (m:=2) V W.dot (.cons Y Z (.cons (x:=mC) (ck _) nofun .nil))).2⟩ (hs _ _) λb G=>?_).le (by decide)⟩
 ·simp only[a_.mp hy,len_app,fF]
  exact⟨aD (fW W.len B) (lB tT),λh=>(cQ.mp h).elim W.dot Z⟩
 ·rw[yo (p:=cl x=[]) (G.trans (by simp only[d8,GJ,fF];exact e1))];exact H
 ·rw[yo (p:=cl x=[]) (G.trans e2)];exact H
 ·rw[yo (p:=cl x=[]) (G.trans (MD.trans e3))];exact H
 ·rw[yo (p:=cl x=[]) (G.trans (MD.trans e4))];exact H
theorem Xm{l:Str}(hl:cl l=[c])(h:[D.str "",D.str l][i]?=aa d):∃x:Str,d=.str x/\(cl x=[]\/cl x=[c])/\sx (i+1)=sx i++gL 4 (decide (cl x=[]))/\(sx i).length<=4:=by
 cases i with
 |zero=>obtain rfl:=aW h;exact⟨_,rfl,.inl rfl,rfl,lB tT⟩
 |succ i=>induction i with
  |zero=>obtain rfl:=aW h;exact⟨_,rfl,.inr hl,by rw[eY (show cl l≠[] by rw[hl];nofun)];rfl,bv _⟩
  |succ i=>exact ns h
theorem VO{l seen:Str}(hl:cl l=[c])(B:c≠46)(hs:seen.length<=40)(hss:46∉cl seen)(hk:k (.bool ae)):bJ 60 315 [.str l,.str seen] k:=by
 have F:=Sz (x:=seen) hl rfl rfl
 have W:LO c seen (d6 seen (aa (jJ seen l)) (aa (j9 seen l+1)) ak) (jJ seen l) (j9 seen l+1):=by
  refine⟨hs,λh=>hss ?_,aD (B8 _ _ _) hs,λX hX=>?_⟩
  ·obtain⟨a,b,e⟩:=F.mid
   rw[e];exact te _ (o_ _ h)
  ·obtain⟨a,b,e⟩:=F.mid
   exact T5 e F.up F.fro F.c1 F.c2 F.c3 hX
 clear F
 refine bJ.vr aaq rfl (cw 2 (bQ (aD hs (lB tT)) λa=>aL.sub (ρ:=DF a [] (d6 seen (aa (jJ seen l)) (aa (j9 seen l+1)) ak) l seen (jJ seen l) (j9 seen l+1)) ?_ (cA.sub ⟨rfl,rfl,rfl,rfl,rfl,rfl,trivial⟩)))
 generalize d6 seen (aa (jJ seen l)) (aa (j9 seen l+1)) ak=V at W
 generalize jJ seen l=f at W
 generalize j9 seen l+1=t at W
 refine .cons (aO.for (λ_ _=>rfl) (bK.tup (bD ⟨_,rfl,show 2<=10000 by simp,λi aC=>aC=DF a (sx i) V l seen f t,rfl,?_,?_,?_⟩)))
 ·rintro i _ rfl;rfl
 ·rintro i d _ hd rfl
  obtain⟨x,rfl,G,ht,hn⟩:=Xm hl hd
  have c1:=(w0 W G B).1;have c2:=(w0 W G B).2.1;have c3:=(w0 W G B).2.2.1;have c4:=(w0 W G B).2.2.2
  have C:x.length<=1:=by simp only[cD];rcases G with e|e<;>rw[e];exact ck _;exact bv 1
  refine c0.name rfl (.cons (aO.Ws rfl rfl rfl (bD ?_)))
  have lx:=len_app
  have l3:iy "..."=3:=rfl
  have Y:=aD hs (lB tT:40<=10000)
  have Z:=aD W.len (by simp:40<=100)
  have H:=aD C (by simp:1<=100)
  have n3:iy "..."≤100:=lB tT
  refine bQ (pR Z H) (c1 _ ?_)
  refine c2 _ ?_
  have m1:("..."++x:Str).length<=4:=by rw[lx,l3];exact aD (fW (bv _) C) (bv _)
  have m2:("..."++x++"...":Str).length<=100:=by rw[lx,l3];exact ZV (by assumption)
  have m3:(V++"...":Str).length<=43:=by rw[lx,l3];exact aD (fW W.len (bv _)) (bv _)
  have m4:(V++"..."++x:Str).length<=100:=by rw[lx];exact abZ (by assumption) (by assumption)
  refine bQ (pR n3 H) (bQ (pR (aD m1 (by simp)) n3) (bQ (pR m2 Z) (bQ Y (c3 _ ?_))))
  refine bQ (pR Z n3) (bQ (pR (aD m3 (by simp)) H) (bQ (pR m4 n3) (bQ Y (c4 _ ⟨_,rfl,?_,aL.nil ⟨DF a (sx (i+1)) V l seen f t,cA.sub ⟨?_,rfl,rfl,rfl,rfl,rfl,trivial⟩,rfl⟩⟩))))
  ·rw[aR];show _+4<=_;exact aD (fW hn (bv _)) (by simp)
  ·rw[ht,dK];rfl
 ·rintro _ rfl
  refine .cons (aO.ret (aj.mo (x:="told") rfl (bD (bF.mulL (dC tT) (dC tT) (lB tT) (bF.mulL (dC tT) (dC tT) (lB tT) (bQ (lB tT) ?_))))))
  refine bq.eqT (.lst .bool) (lB tT) (J9 _) (J9 (sx 2)) λcb o7=>?_
  obtain rfl:=o7.mpr rfl
  exact⟨rfl,hk⟩
section
open PySem.Builtin PySem.Builtin.Str
noncomputable def mk1(c:Nat):Str:=⟨#[c]⟩
def let1(x:Str):Prop:=∃c,x=mk1 c
theorem uu{a:Nat}(h:mk1 a=mk1 b):a=b:=by have:=aQ cl h;exact(j6 this).1
theorem l7(x:Str):chars x=(cl x).map mk1:=rfl
theorem iP(x:Str):(chars x).length=x.length:=by simp only[l7,aR,cD]
theorem T9(x y:Str):chars (x++y)=chars x++chars y:=by rw[l7,fF,dK];rfl
theorem rK(h:y∈chars x):let1 y:=(bL.mp h).elim λc V=>V.elim λ_ e=>⟨c,e.symm⟩
theorem SN{a b:List Nat}(h:a.map mk1=b.map mk1):a=b:=(Pt λ_ _=>uu).mp h
theorem Iw(h:chars x=chars y):x=y:=Cr (SN h)
theorem AS:∀{xs:List Str},(∀x∈xs,let1 x)->∃V:List Nat,xs=V.map mk1:=by
 intro W
 induction W with
 |nil=>
  intro _
  exact⟨[],rfl⟩
 |cons x r Y=>
  intro h
  obtain⟨c,rfl⟩:=h x bi
  obtain⟨V,rfl⟩:=Y λy Z=>h y (bM _ Z)
  exact⟨c::V,rfl⟩
theorem VP:∀ps:List Str,cl (jK "" ps)=(ps.map cl).flatten:=by
 have:∀ps:List Str,cl (Bm "" ps)=(ps.map cl).flatten:=λps=>by
  induction ps with
  |nil=>rfl
  |cons p r V=>induction r with
   |nil=>exact(cR _).symm
   |cons q r=>
    show cl (p++""++Bm "" (q::r))=_
    simp only[fF,fF,V,show cl ""=[] from rfl,cR];rfl
 intro ps
 show cl (glued "" ps)=_
 rw[OH];exact this ps
theorem HA(h:∀x∈xs,let1 x):chars (jK "" xs)=xs:=by
 obtain⟨V,rfl⟩:=AS h
 simp only[l7,VP,cJ]
 congr 1
 induction V with
 |nil=>rfl
 |cons c r Y=>simp only[d8,v_,Y λy W=>h y (bM _ W)];rfl
theorem w7:∀{V g:List Nat},cG (V.map λc=>[c]) g<->V.Sublist g
 |[],g=>⟨λ_=>List.nil_sublist _,λ_=>trivial⟩
 |c::V,g=>by
  constructor
  ·rintro⟨a,b,rfl,h⟩
   rw[c6]
   exact((w7.mp h).cons₂ c).trans (List.sublist_append_right _ _)
  ·intro h
   obtain⟨H,Y,rfl,W,Z⟩:=List.cons_sublist_iff.mp h
   obtain⟨s,t,rfl⟩:=zJ W
   exact⟨s,t++Y,by simp,(w7.mpr Z).more t⟩
theorem C4:∀{a b:List Nat},(a.map mk1).Sublist (b.map mk1)<->a.Sublist b:=λ{a b}=>by
 constructor
 ·intro h
  have:=h.map λx=>(cl x).headD 0
  simp only[cJ,cJ] at this
  have e:∀l:List Nat,l.map ((λx=>(cl x).headD 0)∘mk1)=l:=λl=>by
   rw[show ((λx=>(cl x).headD 0)∘mk1)=_root_.id from rfl,RJ]
  rwa [e,e] at this
 ·exact λh=>h.map _
theorem BG(h:∀x∈xs,let1 x):cG (xs.map cl) (cl y)<->xs.Sublist (chars y):=by
 refine(AS h).elim λY V=>?_;subst V
 simp only[cJ,l7,C4]
 exact w7
theorem Ix(x:Str):chars (d6 x ak ak (aa (-1)))=(chars x).reverse:=by rw[l7,YH,wj];rfl
theorem HB[BEq α][LawfulBEq α]{s l:List α}(h:s.Sublist l)(V:l.Nodup):s=l.filter λx=>s.contains x:=by
 induction h with
 |slnil=>rfl
 | @cons s l a h Y=>
  have V:=gK.mp V
  rw[jA,be]
  ·exact(Y V.2)
  ·intro q
   exact V.1 (h.subset (qD.mp q))
 | @cons_cons s l a h Y=>
  have V:=gK.mp V
  rw[jA,bo (by simp)]
  congr 1
  refine(Y V.2).trans (mJ λx W=>?_)
  have:(x==a)=aH:=by
   induction q:x==a with
   |false=>rfl
   |true=>exact aZ (eq_of_beq q▸W) V.1
  simp only[Pu,this,Ah]
theorem VQ[BEq α][LawfulBEq α]{s t l:List α}(Y:s.Sublist l)(W:t.Sublist l)(V:l.Nodup)(h:∀x,x∈s<->x∈t):s=t:=by
 rw[HB Y V,HB W V]
 refine mJ λx _=>?_
 rw[hY,qD,qD]
 exact h x
theorem Xn[BEq α][LawfulBEq α]{s l:List α}(hs:s.Sublist l)(V:l.Nodup):s.reverse.Sublist l<->s.length<2:=by
 constructor
 ·intro h
  have e:=VQ h hs V λx=>iM
  have W:=hs.nodup V
  clear h hs V
  rcases s with _|⟨a,_|⟨b,r⟩⟩
  ·exact eB 1
  ·exact gY 1
  ·rw[Fi] at e
   have Z:=(qy (l₂:=[a]) (List.length_pos_iff.mpr (List.reverse_ne_nil_iff.mpr (mM b r)))).symm.trans (aQ (·[0]?) e)
   exact aZ (iM.mp (c5 Z)) (gK.mp W).1
 ·intro h
  rcases s with _|⟨a,_|⟨b,r⟩⟩
  ·exact hs
  ·exact hs
  ·exact aZ h (de.mpr (jB 2 r.length))
theorem Xo(h:∀x∈xs,let1 x)(Y:2<=xs.length)(hs:xs.Sublist (chars y)):mB (xs.map cl) (cl y)<->((chars y).head?=xs.head?∧(chars y).getLast?=xs.getLast?):=by
 refine(AS h).elim λH W=>?_;subst W
 simp only[l7,C4] at hs
 rw[aR] at Y
 simp only[cJ,l7]
 obtain⟨a,r,rfl⟩:∃a r,H=a::r:=by
  induction H with
  |nil=>exact aZ Y (dC tT)
  |cons a r=>exact⟨a,r,rfl⟩
 obtain⟨m,b,rfl⟩:∃m b,r=m++[b]:=by
  induction r with
  |nil=>exact aZ Y (by simp)
  |cons x r=>exact⟨_,_,(zh (by simp:x::r≠[])).symm⟩
 have B:(a::(m++[b])).map (cl∘mk1)=[a]::(m.map (λc=>[c])++[[b]]):=by
  rw[d8,dK];rfl
 have hl:∀l:List Nat,(l.map mk1).getLast?=l.getLast?.map mk1:=λl=>qP
 simp only[B,pQ,hl,hl,Gh,Gh]
 have Z:(a::(m++[b])).getLast?=aa b:=by rw[<-wl,qG];rfl
 refine Z▸?_
 constructor
 ·rintro⟨g,e,_⟩
  refine e▸?_
  refine⟨rfl,?_⟩
  rw[qG];rfl
 ·rintro⟨G,h3⟩
  generalize cl y=g at*
  cases g with
  |nil=>exact ns G
  |cons C g=>
   have f:C=a:=uu (aW G)
   subst f
   obtain⟨g',V,rfl⟩:∃g' V,g=g'++[V]:=by
    induction g with
    |nil=>exact aZ (EN.mp hs).length_le (by simp)
    |cons x r=>exact⟨_,_,(zh (by simp:x::r≠[])).symm⟩
   have:(C::(g'++[V])).getLast?=aa V:=by rw[<-wl,qG];rfl
   replace h3:=this▸h3
   have Z:V=b:=uu (aW h3)
   subst Z
   exact⟨g',rfl,w7.mpr ((List.append_sublist_append_right _).mp (EN.mp hs))⟩
end
theorem C6:FnAt 320 33 "law" ["script"]:=⟨⟨λw=>⟨_,_,_,_,_,rfl,_,_,_,_,rfl,rfl,rfl,rfl⟩⟩,λ_ _ _ _ _ _ vs h=>l6 (λ_=>by rfl) vs h,by rfl,by rfl⟩
def ng:List bw:=(fb 33).drop 2
structure fw(ss:b0)(aG:Str):Prop where
 perm:(chars aG).Perm (ss.map (·.1))
 rows:∀c∈d7,gV ss (gz ss) c=(chars aG).filter λx=>iU (bu ss x) c
def dn(ss:b0):List (List Str):=d7.map (gV ss (gz ss))
theorem VR(ss:b0):(d7.map λc=>cz (gV ss (gz ss) c))=(dn ss).map cz:=cJ.symm
structure jn(ss:b0):Prop where
 hss:∀p∈ss,fJ p.2
 hn:(ss.map (·.1)).Nodup
 len:ss.length<=6
 cap:∀p∈ss,ff p.1=ae
 cnt:∀c∈d7,eX (K1 (gz ss) c) (eW ss c)=eX (qj ss c) (eW ss c)
 fl:∀c∈d7,∀y∈eW ss c,∀s:Int,s.natAbs<=5->(0<et (iW c s) (bu ss y) c<->K1 (gz ss) c y<60*s)/\(0<=et (iW c s) (bu ss y) c<->K1 (gz ss) c y<60*s+1)
 ord:∀(cs:List Int) (k:D->Prop),cs.length=ss.length->(∀aG,fw ss aG->k (.str aG))->bJ 100 296 [.lst ((dn ss).map cz),.lst (cs.map D.int)] k
 aar:∀aG (k:D->Prop),fw ss aG->k (.bool ae)->bJ 80 301 [.str aG,jh ss,.lst ((dn ss).map cz)] k
def nh(ns:List Int)(ss:b0)(aG:Str):ay:=([("order",.dat (.str aG)),("rows",.dat (.lst ((dn ss).map cz))),("heights",.dat (ic ss (gz ss))),("sticks",.dat (jh ss)),("numbers",.dat (.lst (ns.map D.int)))]:List (Str×Bd))
def oS(i:Nat):bw:=match ng.drop i with
 |s::_=>s
 |[]=>.Pass {line:=0,col:=0,endLine:=0,endCol:=0}
structure lr(aG:Str):Prop where
 nd:(chars aG).Nodup
 len:aG.length<=6
 cap:∀x∈chars aG,ff x=ae
theorem fw.ok(L:jn ss)(G:fw ss aG):lr aG:=
 ⟨G.perm.nodup_iff.mpr L.hn,by rw[<-iP,G.perm.length_eq,aR];exact L.len,λx V=>by
  obtain⟨p,Y,rfl⟩:=bL.mp (G.perm.mem_iff.mp V)
  exact L.cap p Y⟩
theorem fw.row(G:fw ss aG){a7:List Str}(h:a7∈dn ss):a7.Sublist (chars aG):=by
 obtain⟨c,V,rfl⟩:=bL.mp h
 rw[G.rows c V];exact v6
theorem pN(h:ff x=ae):∃c,x=mk1 c/\65<=c/\c<=70:=by
 have:=Bf h
 simp only[caps,bT,ca,or_false] at this
 rcases this with rfl|rfl|rfl|rfl|rfl|rfl
 ·exact⟨65,rfl,bv _,lB tT⟩
 ·exact⟨66,rfl,(jF _),by simp⟩
 ·exact⟨67,rfl,by simp,by simp⟩
 ·exact⟨68,rfl,by simp,by simp⟩
 ·exact⟨69,rfl,by simp,(jF _)⟩
 ·exact⟨70,rfl,lB tT,bv _⟩
theorem pF(h:ff x=ae):x.length<=1/\46∉cl x:=by
 obtain⟨c,rfl,V,Y⟩:=pN h
 exact⟨bv _,λq=>by have:46=c:=a_.mp q;exact gO _ (aV V (aV (bn this.symm) (by simp)))⟩
theorem xh:Inj cz:=λ_ _ h=>(Pt λ_ _ h=>D.str.inj h).mp (D.lst.inj h)
theorem xD{c:α->D}(V:Inj c):Inj λa:α×Nat=>D.tup [.int (a.2:Nat),c a.1]:=λx y h=>
 have Y:((x.2:Nat):Int)=(y.2:Nat):=aQ (uP · 0) h
 have W:c x.1=c y.1:=aQ (acR · 1) h
 xo (V _ _ W) (lW Y)
theorem Inj.nat:Inj λd:Nat=>D.int d:=λ_ _ h=>by injection h with h;exact lW h
theorem b8.head(hd:(chars x).head?=aa y)(hl:x.length<=10000)(Y:k (.str y)):b8 n (.str x) (.int 0) k:=by
 simp only[l7,Gh] at hd
 induction q:(cl x).head? with
 |none=>rw[q] at hd;exact ns hd
 |some c=>
  rw[q] at hd;obtain rfl:=aW hd
  have V:x.cps[0]?=aa c:=by exact kB.symm.trans (List.head?_eq_getElem?.symm.trans q)
  exact b8.str (j:=0) (dC tT) (dC tT) (Fk (dC tT) (by have:=(EB.mp V).1;exact eN.mpr this)) V Y
theorem b8.last(hd:(chars x).getLast?=aa y)(hl:x.length<=10000)(Y:k (.str y)):b8 n (.str x) (.int (-1)) k:=by
 simp only[l7,qP] at hd
 induction q:(cl x).getLast? with
 |none=>rw[q] at hd;exact ns hd
 |some c=>
  rw[q] at hd;obtain rfl:=aW hd
  have V:x.cps[x.cps.size-1]?=aa c:=by exact kB.symm.trans (List.getLast?_eq_getElem?.symm.trans q)
  have W:=(EB.mp V).1
  refine b8.str (j:=x.cps.size-1) (dC tT) (dC tT) ?_ V Y
  show lm (-1) x.cps.size=_
  have e:lm (-1) x.cps.size=if (decide (0<=(-1:Int)+x.cps.size)&&decide ((-1:Int)+x.cps.size<x.cps.size))=ae then aa ((-1:Int)+x.cps.size).toNat else ak:=rfl
  rw[e,bo (by simp;exact Ye (by assumption))]
  congr 1;exact Kl _
def oB(aG V:Str):Bool:=if 1<V.length then ((chars aG).head?==(chars V).head?&&(chars aG).getLast?==(chars V).getLast?) else aG==V
def aas:List bw:=match oS 4 with
 |.For _ _ b _ _=>b
 |_=>[]
theorem VS(V:gi 50 xs)(Y:2<=xs.length)(W:y.length<=10000)(Z:∀b:Bool,(b=ae<->mB (xs.map cl) (cl y))->k (.bool b)):bJ 30 45 [.str (jK "..." xs),.str y] k:=
 uG (B3 xs) Y ⟨aD V.1 (by simp),V.2⟩ W Z
theorem R3(h:x.length<3):jk "..." x=aH:=by
 unfold jk
 rcases Dq (x:=x) (y:="...") (lo:=0) (hi:=x.length) (ck _) (bn (cD x)) with ⟨i,r,_,hl,_⟩|⟨e,_⟩
 ·have:(cl "...").length=3:=rfl
  omega
 ·rw[e];rfl
theorem KZ(h:0<xs.length):∃a b,xs.head?=aa a/\xs.getLast?=aa b:=by
 induction xs with
 |nil=>cases h
 |cons a r=>exact⟨a,(a::r).getLast (by simp),rfl,vD (by simp)⟩
theorem T'{ns:List Int}{V:Str}(O:lr aG)(hs:(chars V).Sublist (chars aG)){k:Fl->ay->Prop}(hk:∀ρ,Sub (nh ns ss aG) ρ->k .next ρ):
 aL 210 (fs 33) ((("word",.dat (.str V))::nh ns ss aG:List (Str×Bd))) aas k:=by
 have Z:V.length<=aG.length:=by rw[<-iP,<-iP];exact hs.length_le
 have Y:=O.len
 have f:∀x∈chars V,x.length<=1/\46∉cl x:=λx W=>pF (O.cap x (hs.subset W))
 have G:=iP V
 refine .cons (aO.assign (by rfl) (λ_=>rfl) (aj.mono (k:=λd=>d=.bool (oB aG V)) (bD (bQ (aV (aD Z Y) (lT tT)) (cL.mk (λh=>?_) λh=>?_))) λd e=>?_))
 ·have h:=cY h
  obtain⟨w1,w2,e1,e2⟩:=KZ (xs:=chars V) (by omega)
  obtain⟨o1,o2,e3,e4⟩:=KZ (xs:=chars aG) (by rw[iP];omega)
  have e:oB aG V=(o1==w1&&o2==w2):=by unfold oB;rw[bo (by exact Zi (by assumption)),e1,e2,e3,e4];rfl
  rw[e]
  refine b8.head e3 (bd (aV Y (lT tT))) (b8.head e1 (bd (aV (aD Z Y) (lT tT))) (cL.mk (λh1=>?_) λh1=>?_))
  ·rw[h1];exact b8.last e4 (bd (aV Y (lT tT))) (b8.last e2 (bd (aV (aD Z Y) (lT tT))) rfl)
  ·rw[h1];rfl
 ·have h:=ig h
  unfold oB
  rw[be (by omega)];rfl
 subst e
 have B:gi 50 (chars V):=⟨bd (aV (aD (aD (bn G) Z) Y) (lT tT)),λx W=>⟨aD (f x W).1 (lB tT),(f x W).2⟩⟩
 refine cw 5 ((ud (xs:=chars V) (.inr ⟨V,rfl,bd (aV (aD Z Y) (lT tT)),rfl⟩) B (bd (aV Y (lT tT))) λb C=>?_).le (lB tT))
 obtain rfl:=(C.mpr ((BG λx W=>rK W).mpr hs):b=ae)
 refine bq.pX (bQ (bd (aV (aD Z Y) (lT tT))) ((ud (xs:=(chars V).reverse) (.inr ⟨_,rfl,?_,(Ix V).symm⟩) ⟨by rw[i'];exact B.1,λx W=>B.2 x (iM.mp W)⟩ (bd (aV Y (lT tT))) λb C=>?_).le (lB tT)))
 ·rw[<-iP,Ix,i',G];exact bd (aV (aD Z Y) (lT tT))
 have eb:b=decide ((V.length:Int)<2):=by
  rw[hY,C,BG (λx W=>rK (iM.mp W)),Xn hs O.nd,G,decide_eq_true_eq];exact ZU
 subst eb
 refine bQ (aV (aD Z Y) (lT tT)) (bq.pX (cL.mk (λh=>aZ h (by simp)) λ_=>?_))
 refine bk.Lj (bd (aV (aD Z Y) (lT tT))) (G' (b:=1) (λx W=>(f x W).1) (by rw[G];exact abK (by assumption) (by assumption))) ?_
 have dk:∀b:Bool,b=oB aG V->∀(T F:Prop),F->bq 210 .IsNot (.bool b) (.bool (oB aG V)) λc=>cL c T F:=λb e T F h=>bq.pX (cL.mk (λq=>aZ q (by rw[e];simp)) λ_=>h)
 refine bJ.le (m:=30) ?_ (by simp)
 by_cases H:2<=(chars V).length
 ·refine VS B H (bd (aV Y (lT tT))) λb C=>dk b ?_ _ _ (hk _ ?_)
  ·rw[Xo (λx W=>rK W) H hs] at C
   unfold oB
   rw[bo (cg (cg (bv _) H) (bn G)),hY,C,bB,beq_iff_eq,beq_iff_eq]
  ·exact cA.sub ⟨rfl,rfl,rfl,rfl,rfl,trivial⟩
 ·have e:jK "..." (chars V)=V:=by
   match hc:chars V,H with
   |[],_=>exact Iw (by rw[hc];rfl)
   |[x],_=>
    refine Iw (y:=V) ?_
    rw[hc]
    obtain⟨c,rfl⟩:=rK (x:=V) (y:=x) (hc▸bi)
    rfl
   |_::_::_,H=>exact aZ (by simp) H
  refine e.symm▸?_
  refine T2 (R3 (eO (aV (bn G.symm) (kJ.mp H)) (bv _))) (dk _ ?_ _ _ (hk _ ?_))
  ·unfold oB
   rw[be (by omega),hY,beq_iff_eq,beq_iff_eq]
   exact eq_comm
  ·exact cA.sub ⟨rfl,rfl,rfl,rfl,rfl,trivial⟩
theorem J'(Y:∀x∈xs,x.length<=1)(h:xs.length<=100):n9 "" xs=ae:=by
 have V:∀(l:List Str) (a:Nat),(∀x∈l,x.length<=1)->l.foldl (λa x=>a+x.length+iy "") a<=a+l.length:=by
  intro l
  induction l with
  |nil=>intro a _;exact bv _
  |cons x r W=>
   intro a hl
   simp only[iw,gj]
   have H:=W (a+x.length+iy "") λy Z=>hl y (bM _ Z)
   have G:=hl x bi
   have:iy ""=0:=rfl
   exact abY (by assumption) (by assumption)
 unfold n9
 rw[List.foldl_toArray]
 have:=V xs 0 Y
 unfold vZ
 rw[nH,decide_eq_false_iff_not]
 have:sizeLine=2^24:=rfl
 omega
theorem uk(O:lr aG)(G:fw ss aG){a7:List Str}(h:a7∈dn ss):(∀x∈a7,ff x=ae)/\a7.length<=6:=
 ⟨λx V=>O.cap x ((G.row h).subset V),by have:=(G.row h).length_le;rw[iP] at this;have:=O.len;exact aD (by assumption) (by assumption)⟩
theorem J_(h:ff x=ae):let1 x:=(pN h).elim λc V=>V.elim λe _=>⟨c,e⟩
theorem nX(ss:b0):(dn ss).length=16:=by delta dn d7;rw[aR,aR,kF]
theorem T_{ns:List Int}(L:jn ss)(G:fw ss aG){k:Fl->ay->Prop}(B:k .next (nh ns ss aG)):aO 210 (fs 33) (nh ns ss aG) (oS 4) k:=by
 have O:=G.ok L
 refine aO.for (λ_ _=>rfl) (bK.list (aj.SD xh rfl rfl (λ_ _=>rfl) (bK.list (bD ⟨_,rfl,?_,dn ss,jK "",rfl,?_,λa7 hr=>?_,λys f H C=>?_⟩))))
 ·rw[aR,nX];decide
 ·rw[nX];decide
 ·refine(uk O G hr).elim λW Z=>?_
  exact bD (bk.join (xs:=a7) (J' (λx V=>(pF (W x V)).1) (bd (aV Z (by simp)))) rfl)
 ·refine⟨_,rfl,?_,λi aC=>aC=nh ns ss aG,rfl,?_,?_,?_⟩
  ·rw[aR]
   have:=pM f λx V=>((C x).mp V).elim λa7 q_=>q_.elim λW Z=>bL.mpr ⟨a7,W,Z⟩
   rw[aR,nX] at this
   exact bd (aV this (by simp))
  ·rintro i _ rfl;rfl
  ·rintro i d _ hd rfl
   rw[ci] at hd
   induction q:ys[i]? with
   |none=>rw[q] at hd;exact nomatch hd
   |some Y=>
    rw[q] at hd;obtain rfl:=aW hd
    obtain⟨a7,hr,rfl⟩:=(C Y).mp (c5 q)
    refine c0.name rfl (T' O (by rw[(HA λx V=>J_ ((uk O G hr).1 x V))];exact G.row hr) λρ hs=>⟨_,hs,rfl⟩)
  ·rintro _ rfl;exact B
noncomputable def seenOf(a7:List Str):Str:=a7.getLast?.getD "-"
def mZ(ss:b0):Str:=jK "" ((dn ss).map seenOf)
theorem Bg(O:lr aG)(G:fw ss aG){a7:List Str}(hr:a7∈dn ss):(seenOf a7).length<=1/\46∉cl (seenOf a7)/\let1 (seenOf a7):=by
 unfold seenOf
 induction q:a7.getLast? with
 |none=>exact⟨bv _,dC tT,45,rfl⟩
 |some x=>
  have:=(uk O G hr).1 x (qH q)
  exact⟨(pF this).1,(pF this).2,J_ this⟩
theorem VT{ns:List Int}(L:jn ss)(G:fw ss aG){k:Fl->ay->Prop}(Y:k .next (("seen",.dat (.str (mZ ss)))::nh ns ss aG:List (Str×Bd))):aO 210 (fs 33) (nh ns ss aG) (oS 5) k:=by
 have O:=G.ok L
 refine aO.assign (by rfl) (λ_=>rfl) (bD (aj.comp rfl (λ_ _=>rfl) (dj.mx xh rfl (bK.list (bD ⟨_,rfl,?_,dn ss,λa7=>.str (seenOf a7),rfl,λa7 hr=>?_,?_⟩)))))
 ·rw[aR,nX];decide
 ·refine(uk O G hr).elim λZ V=>?_
  refine bD (bQ (by rw[aR];exact aV V (lT tT)) (cL.mk (λh=>?_) λh=>?_))
  ·induction a7 with
   |nil=>exact ft h
   |cons x r=>exact b8.LM (d:=.str (seenOf (x::r))) (by rw[qP,vD (by simp:x::r≠[])];rfl) (by rw[aR];exact bd (aV V (by simp))) rfl
  ·induction a7 with
   |nil=>exact b8.last (y:="-") rfl (lB tT) rfl
   |cons x r=>exact tf h
 ·refine bk.vw (aQ (λl=>[D.str "",D.lst l]) (show (dn ss).map (λa7=>D.str (seenOf a7))=((dn ss).map seenOf).map D.str by rw[cJ];rfl)) (bk.join (J' (λx W=>?_) (by rw[aR,nX];decide)) Y)
  obtain⟨a7,hr,rfl⟩:=bL.mp W
  exact(Bg O G hr).1
def ko(ns:List Int)(ss:b0)(aG:Str):ay:=(("seen",.dat (.str (mZ ss)))::nh ns ss aG:List (Str×Bd))
theorem Ka{p r:Str}(Y:p.length<=90/\46∉cl p)(hr:r.length<=90/\46∉cl r)(W:y.length<=10000)(Z:∀b:Bool,(b=ae<->∃m,cl y=cl p++m++cl r)->k (.bool b)):bJ 30 45 [.str (p++"..."++r),.str y] k:=
 uG (ps:=[p,r]) (by rw[fF,fF];rfl) (show 2<=2 by decide) ⟨show 2<=100 by simp,(gi.cons Y.1 Y.2 (.cons hr.1 hr.2 .nil)).2⟩ W λb H=>Z b (H.trans ((pQ (qs:=[])).trans ⟨λV=>V.elim λm V=>V.elim λe _=>⟨m,e⟩,λV=>V.elim λm e=>⟨m,e,trivial⟩⟩))
theorem AT(O:lr aG)(G:fw ss aG):chars (mZ ss)=(dn ss).map seenOf:=HA λx V=>by
 obtain⟨a7,hr,rfl⟩:=bL.mp V
 exact(Bg O G hr).2.2
theorem Jg(O:lr aG)(G:fw ss aG):(mZ ss).length=16:=by rw[<-iP,AT O G,aR,nX]
theorem G_(h:∀y∈chars x,46∉cl y):46∉cl x:=λq=>h (mk1 46) (bL.mpr ⟨46,q,rfl⟩) (dC tT)
theorem SO(O:lr aG)(G:fw ss aG):46∉cl (mZ ss):=G_ λy V=>by
 rw[AT O G] at V
 obtain⟨a7,hr,rfl⟩:=bL.mp V
 exact(Bg O G hr).2.1
theorem Jh(j n:Nat):ot (j:Int) n=min j n:=by
 unfold ot
 rw[be (dW.mpr (dA _)),((GK j n).elim (λh=>(wo (fX.mpr h)).trans (aQ _ (iN h).symm)) λh=>(zS (fX.mpr h)).trans (aQ _ (Fu h).symm):min (j:Int) n=(min j n:Nat)),qQ (dA _)]
 exact lV _
theorem Kb(x:Str)(j:Nat):cl (d6 x ak (aa (j:Int)) ak)=(cl x).take j:=by
 rw[nZ]
 show ((cl x).take (ot j x.length)).drop 0=_
 rw[tD,Jh,cD,<-List.take_eq_take_min]
theorem Ji(x:Str):cl (d6 x (aa 1) ak ak)=(cl x).drop 1:=by
 rw[nZ]
 show ((cl x).take x.length).drop (ot (1:Nat) x.length)=_
 simp only[Jh,cD,j0]
 induction cl x with
 |nil=>rfl
 |cons a l=>exact aQ (HR · (a::l)) (iN (nM (ck _)))
theorem Xp{l:List Nat}:(∃m,l=l.take 2++m++l.drop 1)<->l.length<2:=
 ⟨λV=>V.elim λm e=>Nat.lt_of_not_le λh=>by
  have q:=aQ gm e
  simp only[bR,bR,EJ h,qT] at q
  exact aZ q (eC (cg ((v7 (qK h)).symm▸gP 2 (l.length-1)▸gY (l.length-1+1):l.length<2+(l.length-1)) (gG (cy 2 _) _))),
  λh=>⟨[],by simp only[la (bd h),EM (pf h),cR,cR]⟩⟩
theorem VU{ns:List Int}(L:jn ss)(G:fw ss aG){k:Fl->ay->Prop}(Z:k .next (ko ns ss aG)):aO 210 (fs 33) (ko ns ss aG) (oS 6) k:=by
 have O:=G.ok L
 have V:=O.len
 refine aO.iff (bH.mono (k:=λc=>c=aH) (b_ ?_) λc e=>by subst e;exact aL.nil Z)
 have H:iy "..."=3:=rfl
 have len:∀lo hi,(d6 aG lo hi ak).length<=6:=λlo hi=>aD (B8 _ _ _) V
 have Y:∀lo hi,(d6 aG lo hi ak).length<=90/\46∉cl (d6 aG lo hi ak):=λlo hi=>⟨aD (len lo hi) (by simp),λq=>(G_ λy C=>(pF (O.cap y C)).2) (by
  rw[nZ] at q
  exact mF (vU q))⟩
 have dl:∀lo hi,(d6 aG lo hi ak++"...").length=(d6 aG lo hi ak).length+3:=λlo hi=>by rw[cD,fF,bR,<-cD,<-cD,H]
 refine bQ (bd (aV V (lT tT))) (bQ (by have:=len ak (aa 2);exact aD (fW this (bv _)) (lB tT)) (bQ (bd (aV V (lT tT))) (bQ (by rw[dl];exact aD (fW (gG (len ak (aa 2)) 3) (len (aa 1) ak)) (lB tT)) ((Ka (Y _ _) (Y _ _) (bd (aV V (lT tT))) λb W=>?_).le (lB tT)))))
 have B:b=decide ((aG.length:Int)<2):=by
  rw[hY,W,decide_eq_true_eq,Ji,show cl (d6 aG ak (aa 2) ak)=(cl aG).take 2 from Kb _ 2,Xp];exact(cD aG)▸((eN (n:=aG.length) (m:=2)).symm)
 subst B
 refine bQ (aV V (lT tT)) (bq.pX (cL.mk (λh=>aZ h (by simp)) λ_=>?_))
 refine bQ (bd (aV V (lT tT))) (bQ (by have:=len ak (aa 1);exact aD (fW this (bv _)) (lB tT)) (bQ (bd (aV V (lT tT))) (bQ (by rw[dl];exact aD (fW (gG (len ak (aa 1)) 3) (len (aa 1) ak)) (lB tT)) ((Ka (Y _ _) (Y _ _) (bd (aV V (lT tT))) λb W=>?_).le (lB tT)))))
 obtain rfl:=(W.mpr ⟨[],by simp only[Ji,show cl (d6 aG ak (aa 1) ak)=(cl aG).take 1 from Kb _ 1,cR,kC]⟩:b=ae)
 refine bq.pX ?_
 refine aj.comp rfl (λ_ _=>rfl) (dj.fx Inj.str rfl (bK.chars (bD ⟨_,rfl,bd (aV V (lT tT)),chars aG,λ_=>aH,D.str,rfl,λx f=>b_ ?_,?_⟩)))
 ·obtain⟨c,rfl,h1,h2⟩:=pN (O.cap x f)
  exact(VO (c:=c) rfl (jD (cg (by simp) h1)) (by rw[Jg O G];decide) (SO O G) ⟨rfl,nofun⟩).le (by simp)
 ·exact(show (chars aG).filter (λ_=>aH)=[] from vN.mpr (by simp))▸(bq.LI rfl)
noncomputable def lE(V:List Str)(a:Str):List (Str×Str):=(V.filter λb=>a != b).map λb=>(a,b)
def aat:List bw:=match oS 7 with
 |.For _ _ b _ _=>b
 |_=>[]
theorem aew{f:Str->List D}(x:Str):(match (D.str x).f_ with|some a=>f a|ak=>[])=f x:=rfl
def onStr(f:Str->List D)(d:D):List D:=match d.f_ with
 |some a=>f a
 |none=>[]
set_option tactic.hygienic true in
theorem SQ{ns:List Int}(O:lr aG){bp:au}{K:List D->Prop}(G:K (((chars aG).flatMap (lE (chars aG))).map bY)):bK 210 (fs 33) (ko ns ss aG) bp (match oS 7 with|.For _ i _ _ _=>i|_=>jH .none 0 {line:=0,col:=0,endLine:=0,endCol:=0}) K:=by
 have Y:=O.len
 have V:(chars aG).length<=6:=by rw[iP];exact Y
 refine bK.list (aj.TU rfl (λ_ _=>rfl) (λ_ _=>rfl) (bK.chars (bD ⟨_,rfl,bd (aV Y (lT tT)),by rw[aR];exact bd (aV V (by simp)),onStr λa=>(lE (chars aG) a).map bY,?_,?_⟩)))
 ·intro d hd
  refine(bL.mp hd).elim λa W=>W.elim λC Z=>?_;subst Z
  refine⟨?_,c0.name rfl ⟨rP,uj rfl,bK.chars (bD ⟨_,rfl,bd (aV Y (lT tT)),λd=>match d with|.str b=>if (a != b)=ae then aa (bY (a,b)) else ak|_=>ak,by rw[aR];exact bd (aV V (lT tT)),?_,?_⟩)⟩⟩
  ·show ((lE (chars aG) a).map bY).length<=100
   unfold lE
   have:=kD (λb=>a != b) (chars aG)
   simp only[aR,aR];exact bd (aV (aD this V) (lT tT))
  ·intro B H
   obtain⟨b,hb,rfl⟩:=bL.mp H
   refine c0.name rfl ⟨rP.cons,uj rfl,b_ ?_⟩
   show if (a != b)=ae then _ else _
   split
   ·rename_i h
    exact bD (bo h)
   ·rename_i h
    exact be h
  ·intro l
   exact aQ (l++·) ((show onStr (λa=>(lE (chars aG) a).map bY) (.str a)=((chars aG).filter λb=>a != b).map λb=>bY (a,b) by
    refine cJ.trans ?_;rfl).trans (filterMap_some (f:=D.str) (p:=λb=>a != b) λb _=>rfl).symm)
 ·have e:((chars aG).map D.str).flatMap (onStr λa=>(lE (chars aG) a).map bY)=((chars aG).flatMap (lE (chars aG))).map bY:=by
   simp only[List.flatMap_map,List.map_flatMap];rfl
  refine⟨_,rfl,?_,?_⟩
  ·simp only[e,aR,List.length_flatMap]
   have:∀l:List Str,(l.map λa=>(lE (chars aG) a).length).sum<=l.length*6:=λl=>by
    induction l with
    |nil=>exact ck _
    |cons a r ih=>
     have h1:=kD (λb=>a != b) (chars aG)
     simp only[d8,pn,gj,show (lE (chars aG) a).length=_ from aR ..];exact Zp (by assumption) (by assumption) (by assumption)
   have:=this (chars aG)
   exact abJ (by assumption) (by assumption)
  ·rw[e];exact G
theorem VV{K:Str->Int}{a7:List Str}(hl:a7.length<=1000)(hs:lC K a7)(iL:∀y,(y=x\/y∈a7)->∃r,φ (.str y)=aa r)(W:∀y∈a7,∀H Y,φ (.str x)=aa H->φ (.str y)=aa Y->gF H Y=aa (decide (K x<K y))):
 mz 90 96 (a7.map D.str) [.str x] φ ((iF K x a7).map D.str):=by
 obtain⟨a,b,rfl,e,C,h3⟩:=Wz (K:=K) (x:=x) hs
 obtain⟨f,G⟩:=iL x (.inl rfl)
 have V:((a++b).map D.str).length=a.length+b.length:=(aR ..).trans (bR ..)
 have g:=SF (l:=(a++b).map D.str) (x:=.str x) (up:=λj=>decide (j<a.length)) a.length (aD (bn (aR ..)) hl) G (λj d hd=>by
  obtain⟨y,q,rfl⟩:=mW hd
  obtain⟨Y,hr⟩:=iL y (.inr (c5 q))
  refine⟨Y,hr,(W y (c5 q) f Y G hr).trans (aQ aa ?_)⟩
  by_cases c:j<a.length
  ·rw[eS c,eY (C y (c5 ((qy c).symm.trans q)))];rfl
  ·rw[eY c,eS (h3 y (c5 ((o8 (de.mp c)).symm.trans q)))];rfl)
  (λi j Z _ hj=>eS (aV Z (cY hj)))
  (λr' B=>lg (de.mp λh=>gO _ (cY (B.u a.length (ck _) h))) (de.mp λh=>ig (B.d r' (bv _) (V▸cg h (cy _ _))) h)) (V▸cy _ _)
 rw[dK,List.take_left' (aR ..),List.drop_left' (aR ..)] at g
 have e2:(iF K x (a++b)).map D.str=a.map D.str++D.str x::b.map D.str:=(aQ (l5 D.str) e).trans (dK ..)
 rw[e2,dK]
 exact g
section
variable {n:Nat} {ss:b0} {hs:Str->Int->Int×Int} {c:Int} {y:Str} {k:D->Prop}
theorem pT(W:(ss.map (·.1)).Nodup)(h:y∈ss.map (·.1))(V:k (jQ (bu ss y))):b8 n (jh ss) (.str y) k:=by
 obtain⟨p,Y,rfl⟩:=bL.mp h
 rw[pE W Y] at V
 exact b8.cO (kE (f:=λp:Str×c_=>(p.1,jQ p.2)) Y) V
def LP(ss:b0)(hs:Str->Int->Int×Int)(y:Str):D:=.eu ((dS (bu ss y)).map λc=>(c,pairD (hs y c)))
theorem pU(Y:(ss.map (·.1)).Nodup)(h:y∈ss.map (·.1))(W:k (LP ss hs y)):b8 n (ic ss hs) (.str y) k:=by
 obtain⟨p,V,rfl⟩:=bL.mp h
 exact b8.cO (kE (f:=λp:Str×c_=>(p.1,D.eu ((dS p.2).map λc=>(c,pairD (hs p.1 c))))) V) ((pE Y V)▸W)
theorem pV(h:iU (bu ss y) c=ae)(V:k (pairD (hs y c))):b8 n (LP ss hs y) (.int c) k:=
 b8.eu (kE (f:=λc=>(c,pairD (hs y c))) (xd.mpr h)) V
end
theorem aau:uB 286 285 "_law_rows" "_law_rows" (fp 27) (fb 27) (fs 27):=⟨λw=>⟨_,_,_,_,rfl,_,_,_,rfl,rfl,rfl⟩⟩
def yG(ss:b0)(hs:Str->Int->Int×Int)(a:ag)(rows:List (List Str)):ay:=([("rows",.own a (rows.map cz)),("sticks",.dat (jh ss)),("heights",.dat (ic ss hs))]:List (Str×Bd))
def DG(ss:b0)(hs:Str->Int->Int×Int)(a V Y:ag)(rows:List (List Str))(W Z T:List Str)(c:Int):ay:=([("row",.own V (W.map D.str)),("flat",.own Y (Z.map D.str)),("there",.dat (cz T)),("column",.dat (.int c))]:List (Str×Bd))++yG ss hs a rows
structure LQ(ss:b0)(c:Int)(T:List Str):Prop where
 len:T.length<=6
 nm:∀y∈T,y∈ss.map (·.1)
 col:∀y∈T,iU (bu ss y) c=ae
theorem Jj(Y:(ss.map (·.1)).Nodup)(hl:ss.length<=6)(c:Int):LQ ss c (eW ss c):=by
 refine⟨?_,λy V=>kE (f:=(·.1)) ((tW Y).mp V).1,λy V=>((tW Y).mp V).2⟩
 unfold eW
 rw[aR]
 exact aD (kD _ _) hl
theorem Rz(V:(ss.map (·.1)).Nodup)(c:Int):(ss.map (·.1)).filter (λy=>iU (bu ss y) c)=eW ss c:=by
 refine qV.trans ?_
 congr 1
 exact mJ λp Y=>by show iU (bu ss p.1) c=_;rw[pE V Y]
theorem AU:d7.length=16:=by unfold d7;rw[aR,kF]
theorem HC{c:Int}(h:c∈d7):c.natAbs<=1000:=by
 obtain⟨i,hi,rfl⟩:=bL.mp h
 exact aD (wa _ _) (aD (fi (bd (gk.mp hi)) 4) (lB tT))
theorem R4{c:Int}(h:c∈d7):(c+1).natAbs<=1000:=by
 obtain⟨i,hi,rfl⟩:=bL.mp h
 exact aD (wa _ _) (aD (gG (aD (wa _ _) (fi (bd (gk.mp hi)) 4)) 1) (by decide))
theorem B9(Y:(ss.map (·.1)).Nodup)(h:x∈ss.map (·.1)):(x,bu ss x)∈ss:=by
 obtain⟨p,V,rfl⟩:=bL.mp h
 rw[pE Y V];exact V
theorem ue{T:List α}{x:α}(h:T[j]?=aa x):T.take (j+1)=T.take j++[x]:=by simp only[lQ,h];rfl
theorem Jk{K:Str->Int}{f:Str->D}(B:T.length<=6)(Z:T[j]?=aa x)(W:∀y,gF (f x) (f y)=aa (decide (K x<K y))):
 mz 90 96 ((eX K (T.take j)).map D.str) [.str x] (kk T f) ((eX K (T.take (j+1))).map D.str):=by
 simp only[ue Z,wZ]
 have H:∀y,y∈eX K (T.take j)->y∈T:=λy V=>mF ((nW K _).2.mem_iff.mp V)
 have Y:=c5 Z
 refine VV ?_ (nW _ _).1 (λy V=>?_) (λy V rx ry G C=>?_)
 ·rw[(nW K _).2.length_eq]
  exact aD (OW _ _) (aD B (by simp))
 ·rcases V with rfl|V
  ·exact⟨_,rQ Y⟩
  ·exact⟨_,rQ (H y V)⟩
 ·rw[rQ Y] at G;rw[rQ (H y V)] at C
  obtain rfl:=aW G;obtain rfl:=aW C
  exact W y
section
variable {ss:b0} {hs:Str->Int->Int×Int} {c:Int} {n:Nat} {k:D->Prop}
theorem Ha{K:Str->Int}(Y:T.length<=6)(W:70<=n)(Z:k (cz (eX K T))):sD n (.builtin "sorted") [cz T] (kk T λy=>.int (K y)) k:=by
 have hl:(T.map D.str).length=T.length:=aR ..
 refine sD.sorted (kz:=T.map K) (hl▸(aV Y (by simp))) W (by rw[hl,aR]) (λi d k H V=>?_) (λb G=>?_)
 ·obtain⟨y,q,rfl⟩:=mW H
  rw[ci,q] at V
  obtain rfl:=aW V
  exact rQ (c5 q)
 ·rw[aao G];exact Z
theorem Jl{a b:List Str}{k:Bool->Prop}(Y:5<=n)(h:a=b)(W:k aH):bq n .NotEq (cz a) (cz b) k:=
 bq.neT (.lst .str) (aD (by decide) Y) (ki _) (ki _) λcc V=>by
  induction cc with
  |false=>exact W
  |true=>exact aZ (aQ cz h) (V.mp rfl)
theorem sd(Y:(ss.map (·.1)).Nodup)(W:LQ ss c T)(g:Str->D)(h:∀y,y∈T->aj 50 aF (bindR ["one"] [.dat (.str y)]++([("heights",.dat (ic ss hs)),("column",.dat (.int c))]:List (Str×Bd))) e λx=>x=g y)(d r:D)(hd:kk T g d=aa r):
 aj 50 aF (bindR ["one"] [.dat d]++([("heights",.dat (ic ss hs)),("column",.dat (.int c))]:List (Str×Bd))) e λx=>x=r:=by
 obtain⟨y,rfl,V,rfl⟩:=Iu hd
 exact h y V
set_option maxHeartbeats 1000000 in
theorem VW(W:(ss.map (·.1)).Nodup)(Z:ss.length<=6)(hb:∀p∈ss,p.2.x0.natAbs<=1000/\p.2.x1.natAbs<=1000/\p.2.h0.natAbs<=1000/\p.2.h1.natAbs<=1000)
 (hr:∀x c,0<=(hs x c).2/\(hs x c).2<60)(C:∀c∈d7,eX (K1 hs c) (eW ss c)=eX (qj ss c) (eW ss c))
 (hk:k (.lst (d7.map λc=>cz (gV ss hs c)))):bJ 200 286 [jh ss,ic ss hs] k:=by
 refine bJ.xT (n:=198) (aI:=["sticks","heights"]) aau (λ_ _ _ _ _ _ vs hl=>jf (λ_ _=>by rfl) vs hl) (by ac_rfl) (by rfl) (by rfl) (by ac_rfl) (cw 1 λa=>aL.sub (ρ:=yG ss hs a []) (.cons (aO.for (λ_ _=>rfl) (bK.call (AM rfl) rfl (ee (dF 40) (fO.Ci (lB tT) (lB tT) ⟨λi aC=>aC=yG ss hs a ((d7.take i).map (gV ss hs)),rfl,?_,?_,?_⟩))))) (cA.sub ⟨rfl,rfl,rfl,trivial⟩))
 ·rintro i _ rfl;rfl
 ·rintro i d _ hd rfl
  obtain⟨c,hc,rfl⟩:∃c,d7[i]?=aa c/\d=.int c:=by
   have hd:(d7.map D.int)[i]?=aa d:=hd
   rw[ci] at hd
   cases q:d7[i]? with
   |none=>rw[q] at hd;exact ns hd
   |some c=>rw[q] at hd;exact⟨c,rfl,(aW hd).symm⟩
  have V:=Jj W Z c
  refine c0.name rfl (.cons (aO.rA (aI:=["row","flat","there"]) (.cons (.cons (.cons .nil))) rfl rfl rfl (lB tT) (λ_=>rfl) (λab _ jV=>xv jV rfl) (oh (dF 40) (λ_ h=>h) λa1 a2=>?_)))
  refine aj.comp rfl (λ_ _=>rfl) (dj.fx Inj.str rfl (bK.dictKeys (aj.name rfl rfl ⟨_,rfl,?_,ss.map (·.1),λy=>iU (bu ss y) c,D.str,?_,λy Y=>b_ ?_,?_⟩)))
  ·rw[aR];exact bd (aV Z (lT tT))
  ·rw[cJ,cJ];rfl
  ·refine pT W Y (cL.mk (λB=>pT W Y ⟨?_,λ_=>bD rfl⟩) λB=>⟨?_,λf=>?_⟩)
   ·show _=(decide _&&decide _)
    rw[B];rfl
   ·show _=(decide _&&decide _)
    rw[B];rfl
   ·have f:(decide _&&decide _)=ae:=f
    rw[B] at f;exact ft f
  rw[Rz W]
  generalize H:eW ss c=T at V
  refine .cons (aO.sub (ρ:=DG ss hs a a1 a2 ((d7.take i).map (gV ss hs)) [] [] T c) (aO.for (λ_ _=>rfl) (bK.list (aj.name rfl rfl ⟨_,rfl,by rw[aR];have:=V.len;exact bd (aV this (lT tT)),λj aC=>aC=DG ss hs a a1 a2 ((d7.take i).map (gV ss hs)) (eX (K1 hs c) (T.take j)) (eX (K2 hs c) (T.take j)) T c,rfl,?_,?_,?_⟩))) (cA.sub ⟨rfl,rfl,rfl,rfl,rfl,rfl,rfl,trivial⟩))
  ·rintro j _ rfl;rfl
  ·rintro j d _ hd rfl
   obtain⟨x,hx,rfl⟩:=mW hd
   refine c0.name rfl (.cons (aO.Lf (Ft rfl) rfl rfl rfl (g_.lambda (p:="one") (bE:=([("heights",.dat (ic ss hs)),("column",.dat (.int c))]:List (Str×Bd))) (φ:=kk T λy=>pairD (hs y c)) (t:=(285,283,"_law_rows.<locals>.<lambda>")) rfl (by simp[fy]) rfl (λw=>by ac_rfl) rfl (λab=>rfl) ⟨rfl,rfl,rfl,rfl,trivial⟩ rfl (λ_ _ _ _ _ _ _ vs hl=>l6 (λ_=>by rfl) vs hl) rfl rfl (sd W V _ λy Y=>bD (pU W (V.nm y Y) (pV (V.col y Y) rfl)))) (λ_=>rfl) (bD ⟨_,(Jk V.len hx λy=>BF (hr x c) (hr y c)).le (lB tT),?_⟩)))
   refine .cons (aO.Lf (Ft rfl) rfl rfl rfl (g_.lambda (p:="one") (bE:=([("heights",.dat (ic ss hs)),("column",.dat (.int c))]:List (Str×Bd))) (φ:=kk T λy=>.int (K2 hs c y)) (t:=(285,283,"_law_rows.<locals>.<lambda>")) rfl (by simp[fy]) rfl (λw=>by ac_rfl) rfl (λab=>rfl) ⟨rfl,rfl,rfl,rfl,trivial⟩ rfl (λ_ _ _ _ _ _ _ vs hl=>l6 (λ_=>by rfl) vs hl) rfl rfl (sd W V _ λy Y=>bD (pU W (V.nm y Y) (pV (V.col y Y) rfl)))) (λ_=>rfl) (bD ⟨_,(Jk V.len hx λy=>rfl).le (lB tT),aL.nil ?_⟩))
   exact⟨DG ss hs a a1 a2 ((d7.take i).map (gV ss hs)) (eX (K1 hs c) (T.take (j+1))) (eX (K2 hs c) (T.take (j+1))) T c,cA.sub ⟨rfl,rfl,rfl,rfl,rfl,rfl,rfl,trivial⟩,rfl⟩
  ·rintro _ rfl
   rw[aR,j0]
   refine aL.freeze (x:="row") rfl (aL.freeze (x:="flat") rfl (aL.skip (b_ (aj.sk (tQ rfl) rfl (g_.f (g_.lambda (p:="one") (bE:=([("there",.dat (cz T)),("sticks",.dat (jh ss)),("column",.dat (.int c))]:List (Str×Bd))) (φ:=kk T λy=>.int (qj ss c y)) (t:=(285,283,"_law_rows.<locals>.<lambda>")) rfl (by simp[fy]) rfl (λw=>by ac_rfl) rfl (λab=>rfl) ⟨rfl,rfl,rfl,rfl,rfl,rfl,trivial⟩ rfl (λ_ _ _ _ _ _ _ vs hl=>l6 (λ_=>by rfl) vs hl) rfl rfl λd r hd=>?_)) (ee (dF 40) (Ha V.len (lB tT) (Jl (lB tT) ?_ ?_))))) ?_))
   ·obtain⟨y,rfl,Y,rfl⟩:=Iu hd
    have o7:=HC (c5 hc)
    have st:=λz G=>hb _ (B9 W (V.nm z G))
    refine bD (aj.comp rfl (λ_ _=>rfl) (dj.fx Inj.str rfl (bK.list (aj.name rfl rfl ⟨_,rfl,by rw[aR];have:=V.len;exact bd (aV this (lT tT)),T,λz=>decide (0<et (bu ss y) (bu ss z) c),D.str,rfl,λz G=>b_ (pT W (V.nm y Y) (pT W (V.nm z G) ?_)),?_⟩))))
    ·exact(xA (st y Y).1 (st y Y).2.1 (st y Y).2.2.1 (st y Y).2.2.2 (st z G).1 (st z G).2.1 (st z G).2.2.1 (st z G).2.2.2 o7 ⟨rfl,λ_=>bD rfl⟩).le (by simp)
    ·refine bQ ?_ ?_
     ·rw[aR];exact aV (kD _ _) (aV V.len (lT tT))
     ·show D.int _=D.int _
      unfold qj
      rw[H,aR]
   ·subst H;exact C c (c5 hc)
   ·refine aj.sk (tQ rfl) rfl (g_.f (g_.lambda (p:="one") (bE:=([("heights",.dat (ic ss hs)),("column",.dat (.int c))]:List (Str×Bd))) (φ:=kk T λy=>.int (K2 hs c y)) (t:=(285,283,"_law_rows.<locals>.<lambda>")) rfl (by simp[fy]) rfl (λw=>by ac_rfl) rfl (λab=>rfl) ⟨rfl,rfl,rfl,rfl,trivial⟩ rfl (λ_ _ _ _ _ _ _ vs hl=>l6 (λ_=>by rfl) vs hl) rfl rfl (sd W V _ λy Y=>bD (pU W (V.nm y Y) (pV (V.col y Y) rfl))))) (ee (dF 40) (Ha V.len (lB tT) (Jl (lB tT) rfl rfl)))
   ·refine .cons (aO.xt (m:=cM.append) rfl rfl rfl (λab=>mU rfl _ _ _) ⟨show 1<30 by simp,rfl⟩ (λab=>rfl) (bD ⟨_,kP.append ?_,aL.nil ⟨yG ss hs a ((d7.take (i+1)).map (gV ss hs)),cA.sub ⟨?_,rfl,rfl,trivial⟩,rfl⟩⟩))
    ·simp only[aR,aR,gJ];exact aD (ph _ _) (by rw[AU];decide)
    ·simp only[ue hc,dK,dK]
     subst H;rfl
 ·rintro _ rfl
  rw[show (p0 (-4) 12).length=d7.length by rw[AU];rfl,j0]
  refine cw 1 ?_
  rw[show (d7.map λc=>cz (gV ss hs c))=(d7.map (gV ss hs)).map cz from cJ.symm] at hk
  exact hk
end
section
variable {a7:List Str} {hs:Str->Int->Int×Int} {c s X:Int} {k:D->Prop} {lo hi:Nat} {K:Str->Int}
theorem jm.clamp(B:jm (kr K X a7) lo hi r r)(hh:hi<=a7.length):r=clamp lo hi (cnt K X a7):=VI B.a B.c hh B.u B.d
theorem B'(h:(oz hs c a7)[j]?=aa d):∃y,a7[j]?=aa y/\d=pairD (hs y c):=by
 unfold oz at h
 rw[ci] at h
 induction q:a7[j]? with
 |none=>replace h:=q▸h;exact ns h
 |some y=>rw[q] at h;exact⟨y,rfl,(aW h).symm⟩
theorem se(hs:lC K a7)(h:a7[j]?=aa y):decide (K y<X)=kr K X a7 j:=by
 unfold kr;rw[decide_eq_decide];exact YU hs j y h
theorem rR:∀i j,i<=j->j<m->kr K X a7 j=ae->kr K X a7 i=ae:=λi j V _ Y=>eS (aV V (cY Y))
theorem CE(hr:∀x c,0<=(hs x c).2/\(hs x c).2<60):gF (pairD (hs y c)) (pairD (s,0))=aa (decide (K1 hs c y<60*s)):=by
 rw[BF (hr y c) ⟨pt 0,(by simp:(0:Int)<60)⟩,tM];rfl
theorem CF(hr:∀x c,0<=(hs x c).2/\(hs x c).2<60):gF (pairD (s,0)) (pairD (hs y c))=aa (!decide (K1 hs c y<60*s+1)):=by
 rw[BF ⟨pt 0,(by simp:(0:Int)<60)⟩ (hr y c),<-decide_not,tM]
 congr 1
 rw[decide_eq_decide,dW];rfl
section
variable (hr:∀x c,0<=(hs x c).2/\(hs x c).2<60) (jw:lC (K1 hs c) a7) (hl:a7.length<=6)
include hr jw hl
theorem bL2(V:k (.int (cnt (K1 hs c) (60*s) a7))):bJ 80 114 [.lst (oz hs c a7),pairD (s,0)] k:=by
 have e:(oz hs c a7).length=a7.length:=aR ..
 refine TX (up:=kr (K1 hs c) (60*s) a7) (e▸(bd (aV hl (by simp)))) (λj d h=>?_) rR λr B=>?_
 ·obtain⟨y,Y,rfl⟩:=B' h;rw[CE hr,se jw Y]
 ·rw[e] at B
  rw[B.clamp (bv _),Iv CC];exact V
theorem bL4(Y:lo<=hi)(V:hi<=a7.length)(W:k (.int (clamp lo hi (cnt (K1 hs c) (60*s) a7)))):bJ 80 114 [.lst (oz hs c a7),pairD (s,0),.int lo,.int hi] k:=by
 have e:(oz hs c a7).length=a7.length:=aR ..
 refine Vr (up:=kr (K1 hs c) (60*s) a7) (by exact e▸(bd (aV hl (by simp)))) Y (e▸V) (.inl rfl) (λj d h=>?_) rR λr B=>?_
 ·obtain⟨y,Z,rfl⟩:=B' h;rw[CE hr,se jw Z]
 ·rw[B.clamp V];exact W
theorem bR4(Y:lo<=hi)(V:hi<=a7.length)(W:k (.int (clamp lo hi (cnt (K1 hs c) (60*s+1) a7)))):bJ 80 105 [.lst (oz hs c a7),pairD (s,0),.int lo,.int hi] k:=by
 have e:(oz hs c a7).length=a7.length:=aR ..
 refine Vq (up:=kr (K1 hs c) (60*s+1) a7) (by exact e▸(bd (aV hl (by simp)))) Y (by exact e▸V) (.inl rfl) (λj d h=>?_) rR λr B=>?_
 ·obtain⟨y,Z,rfl⟩:=B' h;rw[CF hr,se jw Z]
 ·rw[B.clamp V];exact W
variable {φ:D->Option D} (iL:∀y∈a7,φ (.str y)=aa (pairD (hs y c)))
include iL
theorem bLk(W:lo<=hi)(V:hi<=a7.length)(Z:k (.int (clamp lo hi (cnt (K1 hs c) (60*s) a7)))):iH 80 114 [cz a7,pairD (s,0),.int lo,.int hi] φ k:=by
 have e:(a7.map D.str).length=a7.length:=aR ..
 refine Vp (up:=kr (K1 hs c) (60*s) a7) (by exact e▸(bd (aV hl (by simp)))) W (e▸V) (.inl rfl) (λj d h=>?_) rR λr B=>?_
 ·obtain⟨y,Y,rfl⟩:=mW h;exact⟨_,iL y (c5 Y),by rw[CE hr,se jw Y]⟩
 ·rw[B.clamp V];exact Z
theorem bRk(W:lo<=hi)(V:hi<=a7.length)(Z:k (.int (clamp lo hi (cnt (K1 hs c) (60*s+1) a7)))):iH 80 105 [cz a7,pairD (s,0),.int lo,.int hi] φ k:=by
 have e:(a7.map D.str).length=a7.length:=aR ..
 refine Ja (up:=kr (K1 hs c) (60*s+1) a7) (by exact e▸(bd (aV hl (by simp)))) W (by exact e▸V) (.inl rfl) (λj d h=>?_) rR λr B=>?_
 ·obtain⟨y,Y,rfl⟩:=mW h;exact⟨_,iL y (c5 Y),by rw[CF hr,se jw Y]⟩
 ·rw[B.clamp V];exact Z
theorem adq(Y:k (.int (cnt (K1 hs c) (60*s+1) a7))):iH 80 105 [cz a7,pairD (s,0)] φ k:=by
 have e:(a7.map D.str).length=a7.length:=aR ..
 refine TW (up:=kr (K1 hs c) (60*s+1) a7) (by exact e▸(bd (aV hl (by simp)))) (λj d h=>?_) rR λr B=>?_
 ·obtain⟨y,V,rfl⟩:=mW h;exact⟨_,iL y (c5 V),by rw[CF hr,se jw V]⟩
 ·rw[e] at B
  rw[B.clamp (bv _),Iv CC];exact Y
end
end
theorem aav:uB 291 290 "_law_points" "_law_points" (fp 28) (fb 28) (fs 28):=⟨λw=>⟨_,_,_,_,rfl,_,_,_,rfl,rfl,rfl⟩⟩
section
variable {ss:b0} {hs:Str->Int->Int×Int} {c:Int} {n:Nat} {k:D->Prop}
def aaw(ss:b0)(hs:Str->Int->Int×Int):D:=.lst (d7.map λc=>cz (gV ss hs c))
def yH(ns:List Int)(ss:b0)(hs:Str->Int->Int×Int):ay:=([("numbers",.dat (.lst (ns.map D.int))),("sticks",.dat (jh ss)),("heights",.dat (ic ss hs)),("rows",.dat (aaw ss hs))]:List (Str×Bd))
theorem VX:lC (K1 hs c) (gV ss hs c)/\(gV ss hs c).Perm (eW ss c):=nW _ _
def adt(ns:List Int)(ss:b0)(hs:Str->Int->Int×Int)(x c s:Int):ay:=([("spot",.dat (.tup [.int s,.int 0])),("column",.dat (.int c)),("number",.dat (.int x))]:List (Str×Bd))++yH ns ss hs
theorem b8.adu{i:Int}(e:i=(j:Int))(hl:l.length<=100000)(hd:l[j]?=aa d)(V:k d):b8 n (.lst l) (.int i) k:=e▸b8.oH hl hd V
theorem MF(m:Nat):decide (0<(m:Int)+1)=ae:=eS (vQ (dA m))
theorem LR(i:Int)(m:Nat):0<=i%((m:Int)+1)/\i%((m:Int)+1)<(m:Int)+1:=⟨pj _ (pq (vQ (dA _))),pe _ (vQ (dA _))⟩
theorem Xq(x:Int):(x/93312%11-5).natAbs<=5/\∃j:Nat,j<16/\x/5832%16-4=-4+(j:Int):=
 have V:=pj (x/5832) (dC tT:(16:Int)≠0)
 ⟨kT (qE (pj _ (by decide)) 5) (qE (nA (b:=10) (pe _ (by simp:(0:Int)<11))) 5) (dC tT),(x/5832%16).toNat,(Gv V).mpr (pe _ (by simp)),(g4 _ _).trans (aQ _ (mG V).symm)⟩
theorem Ua(h:j<16):d7[j]?=aa (-4+(j:Int)):=by unfold d7;rw[ci,zC h];rfl
theorem SR{u v:Int}{ys:List Int}(Z:0<=u/\u<m+1)(H:0<=v/\v<m+1)(V:ys.Perm [u,v])(G:ys.Pairwise (·≤·)):∃lo hi:Nat,lo<=hi/\hi<=m/\ys=[(lo:Int),(hi:Int)]:=by
 have Y:∀a∈ys,0<=a/\a<m+1:=λa h=>(bT.mp (V.mem_iff.mp h)).elim (λe=>e▸Z) λh=>a_.mp h▸H
 obtain⟨a,b,rfl⟩:=yC V.length_eq
 have W:=Y b (bM a bi)
 exact⟨a.toNat,b.toNat,Int.toNat_le_toNat ((fV.mp G).1 b bi),nP.mpr (nA W.2),by rw[mG (Y a bi).1,mG W.1]⟩
theorem Kc{a7:List Str}{f:Str->Int}{p:Int->Bool}{K:Str->Int}{X:Int}(h:∀y∈a7,p (f y)=decide (K y<X)):(((a7.map f).filter p).map D.int).length=cnt K X a7:=by
 simp only[aR,qV,aR]
 exact aQ _ (mJ h)
theorem Ub(lo hi d:Nat):min (max (lo:Int) d) hi=(clamp lo hi d:Nat):=by
 rw[(λa b=>(GK a b).elim (λh=>(qQ (fX.mpr h)).trans (aQ _ (Nat.max_eq_right h).symm)) λh=>(FM (fX.mpr h)).trans (aQ _ (P_ h).symm):∀a b:Nat,max (a:Int) b=(max a b:Nat))]
 exact(GK (max lo d) hi).elim (λh=>(wo (fX.mpr h)).trans (aQ _ (iN h).symm)) λh=>(zS (fX.mpr h)).trans (aQ _ (Fu h).symm)
set_option maxHeartbeats 2000000 in
theorem SS{ns:List Int}(hns:ns.length<=10)(C:(ss.map (·.1)).Nodup)(jt:ss.length<=6)(hb:∀p∈ss,p.2.x0.natAbs<=1000/\p.2.x1.natAbs<=1000/\p.2.h0.natAbs<=1000/\p.2.h1.natAbs<=1000)
 (hr:∀x c,0<=(hs x c).2/\(hs x c).2<60)(o6:∀c∈d7,∀y∈eW ss c,∀s:Int,s.natAbs<=5->(0<et (iW c s) (bu ss y) c<->K1 hs c y<60*s)/\(0<=et (iW c s) (bu ss y) c<->K1 hs c y<60*s+1))
 (hk:k (.bool ae)):bJ 200 291 [.lst (ns.map D.int),jh ss,ic ss hs,.lst (d7.map λc=>cz (gV ss hs c))] k:=by
 refine bJ.xT (n:=198) (aI:=["numbers","sticks","heights","rows"]) aav (λ_ _ _ _ _ _ vs hl=>UB (λ_ _ _ _=>by rfl) vs hl) (by ac_rfl) (by rfl) (by rfl) (by ac_rfl) (.cons (aO.sub (ρ:=yH ns ss hs) (aO.for (λ_ _=>rfl) (bK.list (aj.name rfl rfl ⟨_,rfl,by rw[aR];exact bd (aV hns (lT tT)),λi aC=>aC=yH ns ss hs,rfl,?_,?_,?_⟩))) (cA.sub ⟨rfl,rfl,rfl,rfl,trivial⟩)))
 ·rintro i _ rfl;rfl
 ·rintro i d _ hd rfl
  obtain⟨x,hx,rfl⟩:∃x,ns[i]?=aa x/\d=.int x:=by
   rw[ci] at hd
   cases q:ns[i]? with
   |none=>rw[q] at hd;cases hd
   |some c=>rw[q] at hd;exact⟨c,rfl,(aW hd).symm⟩
  refine c0.name rfl (.cons (aO.rA (aI:=["column","spot"]) (.cons (.cons .nil)) rfl rfl rfl (lB tT) (λ_=>rfl) (λab _ jV=>xv jV rfl) (oh (dF 40) (λ_ h=>h) ?_)))
  refine(Xq x).elim λB nj=>nj.elim λj q2_=>q2_.elim λhj ej=>?_
  have D9:=Ua hj
  refine aL.sub (ρ:=adt ns ss hs x (x/5832%16-4) (x/93312%11-5)) ?_ (cA.sub ⟨rfl,rfl,rfl,rfl,rfl,rfl,rfl,trivial⟩)
  refine ej▸?_
  have NM:-4+(j:Int)+4=(j:Int):=(aQ (·+4) (g4 _ _)).trans (Int.neg_add_cancel_right _ 4)
  generalize x/93312%11-5=s at B
  generalize-4+(j:Int)=c at D9 NM
  have Z:=Jj C jt c
  have f:=c5 D9
  have o7:=HC f
  obtain⟨jw,H⟩:=VX (ss:=ss) (hs:=hs) (c:=c)
  refine .cons (aO.rA (aI:=["row","flat"]) (.cons (.cons .nil)) rfl rfl rfl (lB tT) (λ_=>rfl) (λab _ jV=>xv jV rfl) (oh (dF 40) (λ_ h=>h) ?_))
  have W:(gV ss hs c).length<=6:=by rw[H.length_eq];exact Z.len
  have V:∀y∈gV ss hs c,y∈eW ss c:=λy Y=>H.mem_iff.mp Y
  refine b8.adu (d:=cz (gV ss hs c)) NM (by rw[aR,AU];decide) (by rw[ci,D9];rfl) ?_
  generalize gV ss hs c=a7 at jw W V
  have st:=λy Y=>hb _ (B9 C (Z.nm y (V y Y)))
  have hc1:=R4 f
  have sX:s.natAbs<=1000:=aD B (lB tT)
  have ov:∀y∈a7,bJ 198 269 [.tup [.int c,.int (c+1),.int s,.int s],jQ (bu ss y),.int c] λd=>d=.int (et (iW c s) (bu ss y) c):=λy Y=>bJ.le (n:=198) (m:=5) (xA o7 hc1 sX sX (st y Y).1 (st y Y).2.1 (st y Y).2.2.1 (st y Y).2.2.2 o7 rfl) (lB tT)
  have zg:(a7.map D.str).length=a7.length:=aR ..
  have NN:(a7.map D.str).length<2^63:=by rw[zg];exact aV W (lT tT)
  refine .cons (aO.HS (λab=>rfl) (λab _ _=>JY rfl _ _ _ ab) (bD (bQ NN (bP.t (MF _) (bQ NN (bP.t (MF _) ?_))))))
  refine bk.Wr (xs:=[x%(((a7.map D.str).length:Int)+1),x/8%(((a7.map D.str).length:Int)+1)]) (show 2<64 by decide) λys hp hw=>?_
  obtain⟨lo,hi,y6,G,rfl⟩:=SR (LR _ _) (LR _ _) hp hw
  clear hp hw
  rw[zg] at G
  refine fK.acD rfl (jG (fK.name rfl (jG (fK.name rfl (pI (.cons (aO.AL (aI:=["tops","over","by"]) rfl rfl rfl (dC tT) (lB tT) (λ_=>rfl) (λab e1 e2=>BC e1 e2 rfl (dC tT) (dC tT)) (cK.dat (aj.comp rfl (λ_ _=>rfl) (dj.mx Inj.str rfl (bK.list (aj.name rfl rfl ⟨_,rfl,by rw[zg];exact bd (aV W (lT tT)),a7,λy=>pairD (hs y c),rfl,λy Y=>bD (pU C (Z.nm y (V y Y)) (pV (Z.col y (V y Y)) rfl)),cK.dat (aj.comp rfl (λ_ _=>rfl) (dj.mx Inj.str rfl (bK.list (aj.name rfl rfl ⟨_,rfl,by rw[zg];exact bd (aV W (lT tT)),a7,λy=>.int (et (iW c s) (bu ss y) c),rfl,λy Y=>bD (pT C (Z.nm y (V y Y)) (ov y Y)),?_⟩))))⟩))))))))))))
  refine cK.lambda (t:=(290,288,"_law_points.<locals>.<lambda>")) rfl (by simp[fy]) rfl (λw=>by ac_rfl) rfl (λab=>rfl) ?_
  have Np:(a7.map λy=>D.int (et (iW c s) (bu ss y) c)).length<=10000:=by rw[aR];exact bd (aV W (lT tT))
  refine .cons (aO.assign rfl (λ_=>rfl) (bD (aj.comp rfl (λ_ _=>rfl) (dj.fx Inj.int rfl (bK.list (aj.name rfl rfl ⟨_,rfl,Np,a7.map λy=>et (iW c s) (bu ss y) c,λz=>decide (0<z),D.int,cJ.symm,λz _=>b_ ⟨rfl,λ_=>bD rfl⟩,?_⟩))))))
  have iL:∀y∈a7,kk a7 (λy=>pairD (hs y c)) (.str y)=aa (pairD (hs y c)):=λy Y=>rQ Y
  have NO:(((a7.map λy=>et (iW c s) (bu ss y) c).filter λz=>decide (0<z)).map D.int).length=cnt (K1 hs c) (60*s) a7:=Kc λy Y=>decide_eq_decide.mpr (o6 c f y (V y Y) s B).1
  have o3:(((a7.map λy=>et (iW c s) (bu ss y) c).filter λz=>decide (0<=z)).map D.int).length=cnt (K1 hs c) (60*s+1) a7:=Kc λy Y=>decide_eq_decide.mpr (o6 c f y (V y Y) s B).2
  have MG:∀X,cnt (K1 hs c) X a7<2^63:=λX=>aV (aD CC W) (lT tT)
  refine bQ (by rw[NO];exact MG _) ?_
  simp only[NO]
  refine aj.comp rfl (λ_ _=>rfl) (dj.fx Inj.int rfl (bK.list (aj.name rfl rfl ⟨_,rfl,Np,a7.map λy=>et (iW c s) (bu ss y) c,λz=>decide (0<=z),D.int,cJ.symm,λz _=>b_ ⟨rfl,λ_=>bD rfl⟩,bQ (by rw[o3];exact MG _) ?_⟩)))
  rw[o3]
  refine cw 1 ((bL2 hr jw W ?_).le (lB tT))
  refine aj.sk (we rfl) rfl (g_.f (g_.BY (p:="one") (bE:=([("heights",.dat (ic ss hs)),("column",.dat (.int c))]:List (Str×Bd))) (φ:=kk a7 λy=>pairD (hs y c)) rfl rfl ⟨rfl,rfl,rfl,rfl,trivial⟩ rfl (λ_ _ _ _ _ _ _ vs hl=>l6 (λ_=>by rfl) vs hl) rfl rfl (sd C ⟨W,λy Y=>Z.nm y (V y Y),λy Y=>Z.col y (V y Y)⟩ _ λy Y=>bD (pU C (Z.nm y (V y Y)) (pV (Z.col y (V y Y)) rfl))))) (ee (dF 40) (((adq hr jw W iL ?_).le (by decide)).oW))
  refine(bL4 hr jw W y6 G ?_).le (lB tT)
  refine(bR4 hr jw W y6 G ?_).le (lB tT)
  refine aj.sk (FL rfl) rfl (g_.f (g_.BY (p:="one") (bE:=([("heights",.dat (ic ss hs)),("column",.dat (.int c))]:List (Str×Bd))) (φ:=kk a7 λy=>pairD (hs y c)) rfl rfl ⟨rfl,rfl,rfl,rfl,trivial⟩ rfl (λ_ _ _ _ _ _ _ vs hl=>l6 (λ_=>by rfl) vs hl) rfl rfl (sd C ⟨W,λy Y=>Z.nm y (V y Y),λy Y=>Z.col y (V y Y)⟩ _ λy Y=>bD (pU C (Z.nm y (V y Y)) (pV (Z.col y (V y Y)) rfl))))) (ee (dF 40) (((bLk hr jw W iL y6 G ?_).le (by decide)).oW))
  refine aj.sk (we rfl) rfl (g_.f (g_.BY (p:="one") (bE:=([("heights",.dat (ic ss hs)),("column",.dat (.int c))]:List (Str×Bd))) (φ:=kk a7 λy=>pairD (hs y c)) rfl rfl ⟨rfl,rfl,rfl,rfl,trivial⟩ rfl (λ_ _ _ _ _ _ _ vs hl=>l6 (λ_=>by rfl) vs hl) rfl rfl (sd C ⟨W,λy Y=>Z.nm y (V y Y),λy Y=>Z.col y (V y Y)⟩ _ λy Y=>bD (pU C (Z.nm y (V y Y)) (pV (Z.col y (V y Y)) rfl))))) (ee (dF 40) (((bRk hr jw W iL y6 G ?_).le (by decide)).oW))
  generalize cnt (K1 hs c) (60*s) a7=d1
  generalize cnt (K1 hs c) (60*s+1) a7=d2
  refine aL.skip (b_ (aj.comp rfl (λ_ _=>rfl) (dj.mx (c:=λd:Nat=>D.int d) (λa b h=>by injection h with h;exact lW h) rfl (bK.list (aj.name rfl rfl ⟨_,rfl,show 2<=10000 by simp,[d1,d2],λd=>.int (clamp lo hi d:Nat),rfl,λd _=>bD ?_,bF.mulL (by decide) (by decide) (show 2*2<=2^24 by decide) (bQ (show 2+4<=2^24 by decide) (bq.neT (.lst .int) (by decide) (KY [_,_,_,_,_,_]) (KY [_,_,_,_,_,_]) λcc hcc=>?_))⟩))))) (aL.nil ⟨yH ns ss hs,cA.sub ⟨rfl,rfl,rfl,rfl,trivial⟩,rfl⟩)
  ·exact aQ D.int (Ub lo hi d)
  ·induction cc with
   |false=>rfl
   |true=>exact aZ rfl (hcc.mp rfl)
 ·rintro _ rfl
  exact cw 1 hk
end
def MH(ns:List Int)(ss:b0):ay:=([("heights",.dat (ic ss (gz ss))),("sticks",.dat (jh ss)),("numbers",.dat (.lst (ns.map D.int)))]:List (Str×Bd))
theorem Uc{ns:List Int}(L:jn ss)(hl:ns.length=6){k:Fl->ay->Prop}(Y:∀aG,fw ss aG->aL 210 (fs 33) (nh ns ss aG) (ng.drop 4) k):aL 210 (fs 33) (MH ns ss) ng k:=by
 have hr:∀x c,0<=(gz ss x c).2/\(gz ss x c).2<60:=λx c=>by
  exact⟨pj _ (dC tT),pe _ (by simp)⟩
 refine cw 1 ((VW L.hn L.len (λp V=>(L.hss p V).nb) hr L.cnt ?_).le (lB tT))
 refine aL.skip (b_ ((SS (bd (aV (bn hl) (by simp))) L.hn L.len (λp V=>(L.hss p V).nb) hr L.fl ?_).le (lB tT))) ?_
 ·exact rfl
 rw[VR]
 refine .cons (aO.assign rfl (λ_=>rfl) (bD (aj.comp rfl (λ_ _=>rfl) (dj.mx Inj.int rfl (bK.list (bD ⟨_,rfl,by rw[aR];exact bd (aV (bn hl) (lT tT)),ns,λn=>.int (n/5832),rfl,λn _=>bD rfl,bk.adp (by rw[aR];have:=L.len;exact bd (aV this (lT tT))) ?_⟩))))))
 refine bQ (by rw[aR];exact bd (aV (bn hl) (lT tT))) ?_
 rw[G9]
 refine bJ.le (m:=100) ?_ (by simp)
 have W:(HR (fH ak 0 (l5 (λn=>D.int (n/5832)) ns).length) (S_ (fH (aa ((l5 (λp=>(p.fst,jQ p.snd)) ss).length:Int)) (l5 (λn=>D.int (n/5832)) ns).length (l5 (λn=>D.int (n/5832)) ns).length) (l5 (λn=>D.int (n/5832)) ns)))=((ns.take ss.length).map λn=>n/5832).map D.int:=by
  rw[aR,aR]
  show HR 0 _=_
  rw[tD,show fH (aa (ss.length:Int)) ns.length ns.length=ss.length from rI (aD L.len (bn hl.symm)),cJ,<-Gq];rfl
 rw[W]
 refine L.ord _ _ (by rw[aR,gJ];have:=L.len;exact abz (by assumption) (by assumption)) λaG G=>?_
 refine aL.skip (b_ ((L.aar aG _ G ?_).le (by simp))) (Y aG G)
 exact rfl
section
open PySem.Builtin PySem.Builtin.Str
theorem Kd(g:List Nat):win g 0 g.length=g:=by unfold win;rw[j0,tD]
theorem YX{l:Str}(hl:cl l=[c]):jk l x=ae<->c∈cl x:=by
 unfold jk
 have V:=cD x
 rcases Dq (x:=x) (y:=l) (lo:=0) (hi:=x.length) (ck _) (bn V) with ⟨i,r,e,_,a,_,Y,_⟩|⟨e,h⟩
 ·rw[e]
  refine⟨λ_=>?_,λ_=>rfl⟩
  rw[V,Kd,hl] at Y
  rw[Y];simp
 ·rw[e]
  refine⟨nofun,λW=>?_⟩
  obtain⟨a,b,Z⟩:=zJ W
  refine aZ ?_ (h [])
  rw[V,Kd,hl,Z]
  exact⟨a,b,by simp,trivial⟩
theorem Iy{c:α}{a b s:List α}(h:c∉a):(c::s).Sublist (a++c::b)<->s.Sublist b:=by
 induction a with
 |nil=>exact EN
 |cons x r V=>
  have Y:x≠c:=λe=>h (e▸bi)
  simp only[<-V λq=>h (bM _ q),wl]
  refine⟨λq=>?_,λq=>q.cons x⟩
  cases q with
  |cons _ q=>exact q
  |cons_cons _ q=>exact aZ rfl Y
theorem VY{c:α}{a b s:List α}(h:c∉b):(s++[c]).Sublist (a++c::b)<->s.Sublist a:=by
 rw[<-OZ,show (s++[c]).reverse=c::s.reverse by simp,show (a++c::b).reverse=b.reverse++c::a.reverse by simp,Iy λq=>h (iM.mp q),OZ]
theorem R5{l:Str}{a:Nat}(B:cl l=[a])(hb:cl y=[b])(ne:a≠b):jk y (d6 x (aa (jJ x l)) (aa (j9 x l)) ak)=ae<->[a,b,a].Sublist (cl x):=by
 rw[YX hb,nZ]
 rcases Bx (x:=x) B with ⟨Z,Y⟩|⟨G,b1,Z,Y,f1⟩
 ·rcases xf (x:=x) B with ⟨V,C⟩|⟨H,b2,V,_⟩
  ·rw[Z,V]
   refine⟨λh=>?_,λh=>aZ (h.subset bi) Y⟩
   have:win (cl x) (fH (aa (-1)) 0 x.length) (fH (aa (-1)) x.length x.length)=[]:=by
    exact EM (gJ▸(wm _ _))
   rw[this] at h;exact nomatch h
  ·exact aZ (by rw[V];simp) Y
 ·rcases xf (x:=x) B with ⟨_,C⟩|⟨H,b2,V,C,f2⟩
  ·exact aZ (by rw[Z];simp) C
  ·have l1:=aQ gm Z
   have l2:=aQ gm V
   simp only[bR,gj] at l1 l2
   simp only[f1,f2,show fH (aa (G.length:Int)) 0 x.length=G.length from rI (aD (aD (cy _ _) (bn l1.symm)) (bn (cD x).symm)),show fH (aa (H.length:Int)) x.length x.length=H.length from rI (aD (aD (cy _ _) (bn l2.symm)) (bn (cD x).symm))]
   have ew:win (cl x) G.length H.length=H.drop G.length:=by unfold win;rw[V,qY]
   rw[ew,V,show [a,b,a]=[a,b]++[a] from rfl,VY C]
   rw[V] at Z
   rcases EE.mp Z with ⟨m,W,f⟩|⟨m,W,f⟩
   ·cases m with
    |nil=>
     rw[cR] at W
     subst W
     rw[zW]
     exact⟨nofun,λh=>aZ (h.subset bi) Y⟩
    |cons c m=>
     obtain⟨rfl,_⟩:=j6 f
     exact aZ (by rw[W];simp) Y
   ·cases m with
    |nil=>
     rw[cR] at W
     subst W
     rw[zW]
     exact⟨nofun,λh=>aZ (h.subset bi) Y⟩
    |cons c m=>
     obtain⟨rfl,_⟩:=j6 f
     rw[W,mP,Iy Y,List.singleton_sublist,bT]
     exact⟨λh=>h.resolve_left ne.symm,.inr⟩
end
theorem turns{Y:Str}(W:chars Y=xs)(Z:∀y∈xs,y.length<=1/\46∉cl y)(hl:xs.length<=10)(H:x.length<=100)(G:40<=n)(C:∀b:Bool,(b=ae<->xs.Sublist (chars x))->k (.bool b)):bJ n 308 [.str Y,.str x] k:=by
 refine(ud (xs:=xs) (.inr ⟨Y,rfl,?_,W.symm⟩) ⟨bd (aV hl (by simp)),λy V=>⟨aD (Z y V).1 (eB _),(Z y V).2⟩⟩ (bd (aV H (by simp))) λb B=>C b ?_).le G
 ·rw[<-iP,W];exact bd (aV hl (by simp))
 ·exact B.trans (BG λy V=>by exact rK (W▸V))
theorem Ud{ns:List Int}{a b:Str}(O:lr aG)(G:fw ss aG)(ha:ff a=ae)(hb:ff b=ae)(ne:a≠b)(ds:¬[a,b,a,b].Sublist ((dn ss).map seenOf)){k:Fl->ay->Prop}(hk:∀ρ,Sub (ko ns ss aG) ρ->k .next ρ):
 aL 210 (fs 33) ((("other",.dat (.str b))::("one",.dat (.str a))::ko ns ss aG:List (Str×Bd))) aat k:=by
 obtain⟨V,rfl,_⟩:=pN ha
 obtain⟨Y,rfl,_⟩:=pN hb
 have sl:=Jg O G
 have na:=pF ha
 have nb:=pF hb
 obtain⟨W,Z⟩:∃W,W=jk (mk1 Y) (d6 (mZ ss) (aa (jJ (mZ ss) (mk1 V))) (aa (j9 (mZ ss) (mk1 V))) ak):=⟨_,rfl⟩
 have bt:=R5 (x:=mZ ss) (l:=mk1 V) (y:=mk1 Y) rfl rfl λe=>ne (aQ mk1 e)
 rw[<-Z] at bt
 rw[<-AT O G] at ds
 have H:∀c,(mk1 c).length=1:=λ_=>rfl
 have l2:∀c d,(mk1 c++mk1 d).length=2:=λ_ _=>rfl
 have l3:∀c d e,(mk1 c++mk1 d++mk1 e).length=3:=λ_ _ _=>rfl
 have C:∀y∈[mk1 V,mk1 Y,mk1 V],y.length<=1/\46∉cl y:=λy B=>by
  simp only[bT,ca,or_false] at B
  rcases B with rfl|rfl|rfl
  ·exact na
  ·exact nb
  ·exact na
 have f:∀y∈[mk1 V,mk1 Y,mk1 V,mk1 Y],y.length<=1/\46∉cl y:=λy B=>by
  simp only[bT,ca,or_false] at B
  rcases B with rfl|rfl|rfl|rfl
  ·exact na
  ·exact nb
  ·exact na
  ·exact nb
 refine .cons (aO.assign (by rfl) (λ_=>rfl) (aj.mono (k:=λd=>d=.bool W) (bD (bQ (bd (aV (bn sl) (by simp))) (by rw[Z];rfl))) λd e=>?_))
 subst e
 clear Z
 refine cw 4 (bQ (by rw[H,H];decide) (bQ (by rw[H,l2];decide) (turns (xs:=[mk1 V,mk1 Y,mk1 V]) rfl C (show 3<=10 by simp) (bd (aV (bn sl) (lT tT))) (by decide) λc hc=>?_)))
 have ec:W=c:=by
  rw[hY,hc,bt]
  exact(C4 (a:=[V,Y,V])).symm
 subst ec
 refine bq.pX (cL.mk (λh=>aZ h (by simp)) λ_=>cL.mk (λ_=>?_) λ_=>?_)
 ·refine bQ (by rw[H,H];decide) (bQ (by rw[H,l2];decide) (bQ (by rw[H,l3];decide) (turns (xs:=[mk1 V,mk1 Y,mk1 V,mk1 Y]) rfl f (show 4<=10 by simp) (bd (aV (bn sl) (lT tT))) (by decide) λc hc=>?_)))
  induction c with
  |true=>exact aZ (hc.mp rfl) ds
  |false=>exact bq.pX (hk _ (cA.sub ⟨rfl,rfl,rfl,rfl,rfl,rfl,trivial⟩))
 ·exact hk _ (cA.sub ⟨rfl,rfl,rfl,rfl,rfl,rfl,trivial⟩)
section
open PySem.Builtin PySem.Builtin.Str
theorem idx_eq[BEq α][LawfulBEq α](a:α)(r:List α):(a::r).idxOf a=0:=by
 rw[Qk,beq_self_eq_true];rfl
theorem K0[BEq α][LawfulBEq α]{a x:α}(r:List α)(h:x≠a):(x::r).idxOf a=r.idxOf a+1:=by
 rw[Qk,beq_eq_false_iff_ne.mpr h];rfl
theorem Xr[BEq α][LawfulBEq α]{a:α}{r:List α}:∀{l:List α},a∉l->(l++a::r).idxOf a=l.length:=by
 intro Y
 induction Y with
 |nil=>
  intro _
  exact idx_eq a r
 |cons x l V=>
  intro h
  simp only[wl,K0 _ λe:x=a=>h (e▸bi),V λq=>h (bM _ q)];rfl
theorem VZ{l:Str}(h:l∈chars x)(C:k (.int ((chars x).idxOf l:Nat))):bk n (.builtin "str.index") [.str x,.str l] k:=by
 refine(rK h).elim λc V=>?_;subst V
 have B:c∈cl x:=by
  obtain⟨d,hd,e⟩:=bL.mp h
  exact(uu e)▸hd
 refine(Bx (x:=x) (l:=mk1 c) (c:=c) rfl).elim (λY=>Y.elim λ_ q=>?_) λW=>W.elim λa Z=>Z.elim λb H=>H.elim λe G=>G.elim λn1 f=>?_
 ·exact aZ B q
 ·have ei:(chars x).idxOf (mk1 c)=a.length:=by
   rw[l7,e,dK,d8,Xr,aR]
   intro q
   obtain⟨d,hd,e⟩:=bL.mp q
   exact n1 (uu e▸hd)
  rw[ei] at C
  unfold jJ at f
  induction q:ku x (mk1 c) 0 x.length 1 with
  |nil=>exact nomatch (q▸f)
  |cons i r=>
   rw[q] at f
   have f:(i:Int)=a.length:=f
   exact bk.index q (f▸C)
noncomputable def kM:List Bool->Nat
 |[]=>0
 |b::r=>b.toNat+2*kM r
theorem Iz:∀l,kM l<2^l.length
 |[]=>tN
 |b::r=>by
  have:=Iz r
  have V:b.toNat<=1:=by induction b<;>decide
  show b.toNat+2*kM r<2^(r.length+1)
  exact X' (by assumption) (by assumption)
theorem IA:∀(l:List Bool) (i:Nat),kM l/2^i%2=(l.getD i aH).toNat
 |[],i=>by show 0/2^i%2=0;rw[Rj]
 |b::r,0=>by
  have V:b.toNat<=1:=by induction b<;>decide
  exact XU (by assumption)
 |b::r,i+1=>by
  have V:b.toNat<=1:=by induction b<;>decide
  have:(b.toNat+2*kM r)/2=kM r:=by exact XV (by assumption)
  show (b.toNat+2*kM r)/2^(i+1)%2=(r.getD i aH).toNat
  simp only[Rk,kH (2^i) 2,<-Oq,this,IA r i]
theorem Ke(f:α->Nat):∀l:List α,(l.map λx=>2*f x).sum=2*(l.map f).sum
 |[]=>rfl
 |a::r=>by simp only[d8,d8,pn,pn,Ke f r,ri]
theorem HD[BEq α][LawfulBEq α](p:α->Bool):∀{U:List α},U.Nodup->((U.filter p).map λl=>2^U.idxOf l).sum=kM (U.map p):=by
 intro Y
 induction Y with
 |nil=>
  intro _
  exact rfl
 |cons u r V=>
  intro h
  have h:=gK.mp h
  have e:(r.filter p).map (λl=>2^(u::r).idxOf l)=(r.filter p).map λl=>2*2^r.idxOf l:=lN λl hl=>by
   simp only[K0 _ λe:u=l=>h.1 (e▸((eg.mp hl).1)),Rk,kH]
  show _=(p u).toNat+2*kM (r.map p)
  rw[<-V h.2,<-Ke,<-e,jA]
  cases p u
  ·exact(fq _).symm
  ·show (2^(u::r).idxOf u::(r.filter p).map λl=>2^(u::r).idxOf l).sum=_
   rw[pn,idx_eq];rfl
theorem BH:∀l:List Nat,(l.map λd:Nat=>(d:Int)).sum=(l.sum:Nat)
 |[]=>rfl
 |a::r=>by simp only[d8,pn,BH r,pn];rfl
theorem SU(n:Nat):∀(l:List Nat) (i:Nat),((l.zipIdx i).map λp=>p.1*2^(n*p.2)).sum=2^(n*i)*d_ n l:=by
 intro Y
 induction Y with
 |nil=>
  intro i
  exact rfl
 |cons d r V=>
  intro i
  simp only[FJ,d8,pn,V (i+1)]
  show d*2^(n*i)+_=2^(n*i)*(d+2^n*d_ n r)
  simp only[rf,AE,ri,kH d,Go]
theorem IB(n:Nat):∀m,dY n m 0=gL m 0
 |0=>rfl
 |m+1=>by
  show 0%2^n::dY n m (0/2^n)=_
  simp only[Nat.zero_mod,Rj,IB n m];rfl
theorem Ue(n:Nat)(m x:Nat):dY n (m+1) x=dY n m x++[x/2^(n*m)%2^n]:=by
 simp only[BD n m 1];rfl
theorem Uf{x:Nat}(W:0<n)(V:m=(fA (x:Int)+n-1)/n):x<2^(n*m)/\(m≠0->2^(n*(m-1))<=x):=by
 have Y:∀k,fA (x:Int)<=k<->x<2^k:=λk=>EV (x:=(x:Int))
 generalize fA (x:Int)=b at*
 have Z:n*m<=b+n-1:=V▸(Nat.mul_div_le _ _)
 have G:b+n-1<n*m+n:=V▸(O7 _ W)
 refine⟨(Y _).mp (by exact LW (by assumption) (by assumption)),λh=>de.mp λq=>?_⟩
 have H:=(Y _).mpr q
 obtain⟨j,rfl⟩:=Nat.exists_eq_succ_of_ne_zero h
 simp only[Nat.succ_sub_one] at H
 simp only[rf] at Z
 exact Zj (by assumption) (by assumption) (by assumption)
theorem Ug{x:Nat}{l:List Nat}(H:0<n)(G:m=(fA (x:Int)+n-1)/n)(hl:∀d∈l,d<2^n)(V:x=d_ n l):m<=l.length/\dY n m x++gL (l.length-m) 0=l/\(dY n m x).getLast?≠aa 0:=by
 refine(Uf H G).elim λW Z=>?_
 have Y:m<=l.length:=de.mp λq=>by
  exact gO _ (aV (bn V) (cg (cg (aV (bn V.symm) (V▸Im n l hl:x<2^(n*l.length))) (zv (by decide) (nC _ (by exact L4 (by assumption))):2^(n*l.length)<=2^(n*(m-1)))) (Z (jD (aV (ck _) q)))))
 refine⟨Y,?_,?_⟩
 ·have e:=BD n m (l.length-m) x
  rw[show m+(l.length-m)=l.length by exact LZ (by assumption),wh W,IB,V,RU n l hl,<-V] at e
  exact e.symm
 ·induction m with
  |zero=>nofun
  |succ m=>
   rw[Ue,qG]
   have h3:x/2^(n*m)<2^n:=by
    refine vT ?_
    rw[<-AE,<-rf];exact W
   refine(wg h3).symm▸?_
   intro q
   have:x/2^(n*m)=0:=aW q
   exact gO _ (cg (RE (Z (wi _)) (wx _):0<x/2^(n*m)) (bn this))
end
theorem Xs{V:List Str}{p:Str×Str}:p∈V.flatMap (lE V)->p.1∈V/\p.2∈V/\p.1≠p.2:=λh=>by
 obtain⟨a,W,h⟩:=zU.mp h
 obtain⟨b,Y,rfl⟩:=bL.mp h
 have Y:=eg.mp Y
 exact⟨W,Y.1,bne_iff_ne.mp Y.2⟩
theorem Uh{ns:List Int}(L:jn ss)(G:fw ss aG)(ds:∀a b,ff a=ae->ff b=ae->a≠b->¬[a,b,a,b].Sublist ((dn ss).map seenOf)){k:Fl->ay->Prop}(W:k .next (ko ns ss aG)):aO 210 (fs 33) (ko ns ss aG) (oS 7) k:=by
 have O:=G.ok L
 refine aO.for (λ_ _=>rfl) (SQ O ⟨λi aC=>aC=ko ns ss aG,rfl,?_,?_,?_⟩)
 ·rintro i _ rfl;rfl
 ·rintro i d _ hd rfl
  rw[ci] at hd
  induction q:((chars aG).flatMap (lE (chars aG)))[i]? with
  |none=>rw[q] at hd;exact nomatch hd
  |some p=>
   rw[q] at hd;obtain rfl:=aW hd
   obtain⟨V,Y,h3⟩:=Xs (c5 q)
   refine c0.tup rfl rfl (jG (fK.name rfl (jG (fK.name rfl (pI ?_)))))
   exact Ud O G (O.cap _ V) (O.cap _ Y) h3 (ds _ _ (O.cap _ V) (O.cap _ Y) h3) λρ hs=>⟨_,hs,rfl⟩
 ·rintro _ rfl;exact W
def uH(aG:Str)(a7:List Str):Nat:=(a7.map λl=>2^(chars aG).idxOf l).sum
def mX(ss:b0)(aG:Str):List Nat:=(dn ss).map (uH aG)
noncomputable def oC(l:List Nat):D:=.lst (l.map λd:Nat=>D.int d)
theorem SV{ns:List Int}(L:jn ss)(G:fw ss aG){k:Fl->ay->Prop}(V:k .next (("places",.dat (oC (mX ss aG)))::ko ns ss aG:List (Str×Bd))):aO 210 (fs 33) (ko ns ss aG) (oS 8) k:=by
 have O:=G.ok L
 refine aO.wY rfl (λ_ _=>rfl) rfl rfl (dj.mx xh rfl (bK.list (bD ⟨_,rfl,?_,dn ss,λa7=>.int (uH aG a7:Nat),rfl,λa7 hr=>?_,?_⟩)))
 ·rw[aR,nX];decide
 ·obtain⟨Z,W⟩:=uk O G hr
  refine bD (aj.comp rfl (λ_ _=>rfl) (dj.mx Inj.str rfl (bK.list (bD ⟨_,rfl,?_,a7,λl=>.int (2^(chars aG).idxOf l:Nat),rfl,λl hl=>?_,?_⟩))))
  ·rw[aR];exact bd (aV W (by simp))
  ·have Y:=(G.row hr).subset hl
   have hi:(chars aG).idxOf l<10:=by have:=List.idxOf_lt_length_of_mem Y;rw[iP] at this;exact eO (cg this O.len) (by simp)
   refine bD (VZ Y (bF.shl (dA _) (by omega) (by simp) ?_))
   simp only[GU,lV];exact aQ D.int (Int.natCast_pow 2 _).symm
  ·refine bk.vw (aQ (λl=>[D.lst l]) (show a7.map (λl=>D.int (2^(chars aG).idxOf l:Nat))=((a7.map λl=>2^(chars aG).idxOf l).map λd:Nat=>(d:Int)).map D.int by simp only[cJ,cJ];rfl)) (bk.Dj ?_)
   rw[BH];rfl
 ·unfold mX oC at V
  exact(cJ▸V)
theorem place_lt(L:jn ss)(G:fw ss aG):∀d∈mX ss aG,d<2^6:=λd hd=>by
 obtain⟨a7,hr,rfl⟩:=bL.mp hd
 obtain⟨c,V,rfl⟩:=bL.mp hr
 unfold uH
 rw[G.rows c V,HD _ (G.ok L).nd]
 refine cg (Iz _) (zv (by decide) ?_)
 rw[aR,iP];exact(G.ok L).len
def vb(ss:b0)(aG:Str):Nat:=d_ 6 (mX ss aG)
theorem wQ(ss:b0)(aG:Str):(mX ss aG).length=16:=by unfold mX;rw[aR,nX]
def vd(ss:b0)(aG:Str):Nat:=(fA (vb ss aG:Int)+6-1)/6
def yI(ss:b0)(aG:Str):List Nat:=dY 6 (vd ss aG) (vb ss aG)
theorem IC(L:jn ss)(G:fw ss aG):vd ss aG<=16/\yI ss aG++gL (16-vd ss aG) 0=mX ss aG/\(yI ss aG).getLast?≠aa 0:=by
 have:=Ug (n:=6) (x:=vb ss aG) (m:=vd ss aG) (lT tT) rfl (place_lt L G) rfl
 rw[wQ] at this
 exact this
def adv(ns:List Int)(ss:b0)(aG:Str):ay:=([("figures",.dat (oC (yI ss aG))),("picture",.dat (.int (vb ss aG:Nat))),("places",.dat (oC (mX ss aG)))]:List (Str×Bd))++ko ns ss aG
theorem R6{ns:List Int}(L:jn ss)(G:fw ss aG){k:Fl->ay->Prop}(V:aL 210 (fs 33) (adv ns ss aG) (ng.drop 11) k):aL 210 (fs 33) (("places",.dat (oC (mX ss aG)))::ko ns ss aG:List (Str×Bd)) (ng.drop 9) k:=by
 refine cw 1 ((JZ (by decide) (bv _) (bd (aV (bn (wQ ss aG)) (by simp))) (place_lt L G) ?_).le (lB tT))
 refine cw 1 ((J0 (x:=vb ss aG) (by decide) (bv _) ?_ V).le (lB tT))
 ·exact aD (IC L G).1 (by simp)
theorem lenZ(s:Nat):(6*(s:Int)).toNat=6*s:=by exact Cd _
theorem SW{V:List Nat}(Z:V.length<=16)(h:D.lst (kK (V.map λd:Nat=>D.int d) (aa (-1)) ak ak)=.lst [.int 0]):V.getLast?=aa 0:=by
 injection h with h
 rw[G9,aR,show fH ak V.length V.length=V.length from rfl,la (by rw[aR];exact bv _),<-List.map_drop] at h
 obtain⟨x,r,e,Y,W⟩:=vW.mp h
 obtain rfl:=zD.mp W
 injection Y with Y
 rw[<-kC (fH (aa (-1)) 0 V.length) V,e,qG]
 exact aQ aa (lW Y)
theorem YY(l:List Nat):iC (.lst .int) (oC l):=⟨_,rfl,λd hd=>by obtain⟨x,_,rfl⟩:=bL.mp hd;exact⟨x,rfl⟩⟩
def DH(ns:List Int)(ss:b0)(aG:Str)(V:List Nat)(Y:Nat)(W:List Nat):ay:=([("figures",.dat (oC W)),("picture",.dat (.int Y)),("places",.dat (oC V))]:List (Str×Bd))++ko ns ss aG
theorem Xu{ns:List Int}{V Y:List Nat}{W:Nat}(fl:V.length=16)(Z:∀d∈V,d<2^6)(C:W=d_ 6 V)(H:Y.length<=16)(B:Y.getLast?≠aa 0){k:Fl->ay->Prop}(f:aL 210 (fs 33) (DH ns ss aG V W Y) (ng.drop 12) k):aL 210 (fs 33) (DH ns ss aG V W Y) (ng.drop 11) k:=by
 refine aL.skip (b_ (aj.comp rfl (λ_ _=>rfl) (dj.mt (α:=Nat×Nat) (c1:=λa=>.int (a.2:Nat)) (c2:=λa=>.int (a.1:Nat)) (xD Inj.nat) rfl (bK.call (q9 rfl) rfl (ee (dF 40) (fO.CO ?_ ⟨V.zipIdx,λa=>.int (a.1*2^(6*a.2):Nat),?_,λa ha=>?_,?_⟩)))))) f
 ·rw[aR];exact bd (aV (bn fl) (lT tT))
 ·exact xg _ _
 ·have G:=vF.mp ha
  have h1:=Z a.1 (c5 G)
  have h2:=(ez.mp G).1
  refine bD (bQ (mulL (lT tT)) (bF.shl (by exact dA _) (by omega) (by exact cg (by assumption) (by decide)) ?_))
  rw[lenZ]
  refine aQ D.int ?_
  rfl
 ·refine bk.vw (aQ (λl=>[D.lst l]) (show V.zipIdx.map (λa=>D.int (a.1*2^(6*a.2):Nat))=((V.zipIdx.map λa=>a.1*2^(6*a.2)).map λd:Nat=>(d:Int)).map D.int by rw[cJ,cJ];rfl)) (bk.Dj ?_)
  rw[BH,SU 6 V 0,Rf,Rg,pu,<-C]
  refine cL.mk (λh=>aZ (bne_iff_ne.mp h) λq=>q rfl) λ_=>bQ (by rw[aR];exact bd (aV H (lT tT))) ?_
  refine bq.eqT (.lst .int) (lB tT) ⟨_,rfl,λd hd=>?_⟩ (YY [0]) λc hc=>?_
  ·obtain⟨x,_,rfl⟩:=bL.mp (Hx hd)
   exact⟨x,rfl⟩
  ·induction c with
   |false=>rfl
   |true=>exact aZ (SW H (hc.mp rfl)) B
theorem YZ{p:Str->Bool}{a:Str×Nat}(V:a∈U.zipIdx):kM (U.map p)/2^a.2%2=(p a.1).toNat:=by
 simp only[IA,k9,ci,vF.mp V];rfl
theorem R7(p:Str->Bool)(U:List Str):((U.zipIdx.filter λa=>(((kM (U.map p)/2^a.2%2:Nat):Int) != 0)).map λa=>D.str a.1)=(U.filter p).map D.str:=by
 have e:(U.zipIdx.filter λa=>(((kM (U.map p)/2^a.2%2:Nat):Int) != 0))=U.zipIdx.filter (p∘(·.1)):=mJ λa V=>by
  rw[YZ V]
  show _=p a.1
  cases p a.1<;>rfl
 rw[e,show (λa:Str×Nat=>D.str a.1)=D.str∘(·.1) from rfl,<-cJ,<-qV,List.zipIdx_map_fst]
def yJ(aG:Str)(d:Nat):D:=.lst (((chars aG).zipIdx.filter λa=>(((d/2^a.2%2:Nat):Int) != 0)).map λa=>D.str a.1)
theorem Xv(O:lr aG)(G:fw ss aG){a7:List Str}(hr:a7∈dn ss):yJ aG (uH aG a7)=cz a7:=by
 obtain⟨c,V,rfl⟩:=bL.mp hr
 delta yJ uH cz
 rw[G.rows c V,HD _ O.nd,R7]
theorem Xw{ns:List Int}{Y V:List Nat}{C:Nat}(O:lr aG)(fl:Y.length=16)(B:V.length<=16)(Z:V++gL (16-V.length) 0=Y)(W:Y.map (yJ aG)=(dn ss).map cz){k:Fl->ay->Prop}(f:∀ρ,k (.ret (.bool ae)) ρ):aL 210 (fs 33) (DH ns ss aG Y C V) (ng.drop 12) k:=by
 have H:(16-((V.map λd:Nat=>D.int d).length:Int)).toNat=16-V.length:=by rw[aR];exact abx
 have e:(V.map λd:Nat=>D.int d)++(gL (16-((V.map λd:Nat=>D.int d).length:Int)).toNat [D.int 0]).flatten=Y.map λd:Nat=>D.int d:=by
  simp only[H,NQ,<-Z,dK,List.map_replicate];rfl
 have G:=aQ gm e
 rw[bR,aR (as:=Y)] at G
 refine cw 1 (aj.comp rfl (λ_ _=>rfl) (dj.mx Inj.nat rfl (bK.list (bD (bQ (by rw[aR];exact aV B (by simp)) (bF.mulL (by rw[aR];omega) (by rw[aR];omega) ?_ (bQ ?_ ?_)))))))
 ·rw[H];show 1*_<=_;exact b_g (by assumption)
 ·have:sizeLine=2^24:=rfl
  exact bd (aV (aD (bn G) (bn fl)) (lT tT))
 ·rw[e]
  refine⟨_,rfl,by rw[aR];exact bd (aV (bn fl) (lT tT)),Y,yJ aG,rfl,λd hd=>?_,?_⟩
  ·refine aj.comp rfl (λ_ _=>rfl) (dj.ft (α:=Str×Nat) (c1:=λa=>.int (a.2:Nat)) (c2:=λa=>.str a.1) (xD Inj.str) rfl (bK.call (q9 rfl) rfl (ee (dF 40) (fO.Ld (bd (aV O.len (by simp))) ⟨(chars aG).zipIdx,λa=>(((d/2^a.2%2:Nat):Int) != 0),λa=>.str a.1,?_,λa ha=>?_,rfl⟩))))
   ·exact(show aG.cps.toList.map (λc=>D.str ⟨#[c]⟩)=(chars aG).map D.str by unfold chars;rw[cJ];rfl)▸(xg _ _)
   ·refine bH.val (bD (bF.Mg (bF.band ?_))) λ_ _=>rfl
    rw[bitAnd_pp (dA _) (by simp),lV,show (1:Int).toNat=1 from rfl,Nat.and_one_is_mod]
    exact Cm ⟨rfl,λ_=>bD rfl⟩
  ·rw[W]
   refine bq.eqT (.lst (.lst .str)) (lB tT) ⟨_,rfl,λd hd=>?_⟩ ⟨_,rfl,λd hd=>?_⟩ λc hc=>?_
   ·obtain⟨x,_,rfl⟩:=bL.mp hd;exact ki x
   ·obtain⟨x,_,rfl⟩:=bL.mp hd;exact ki x
   ·obtain rfl:=hc.mpr rfl
    exact f _
noncomputable def kq(s:c_)(c:Int):Int:=s.h0*(s.x1-s.x0)+(s.h1-s.h0)*(c-s.x0)
structure Wid(s:c_)(w k:Int):Prop where
 ew:s.x1-s.x0=w
 h:∀c,hgt s c=kq s c*k
 wk:w*k=60
 wp:0<w
 kp:0<k
theorem Xx{d:Int}(V:0<d)(Y:d<=4):d=1\/d=2\/d=3\/d=4:=
 (An d 2).elim (λh=>.inl (qU (nA h) V)) λh=>.inr ((An d 3).elim (λg=>.inl (qU (nA g) h)) λh=>.inr ((An d 4).elim (λg=>.inl (qU (nA g) h)) λh=>.inr (qU Y h)))
theorem DI{s:c_}(h:fJ s):∃w k,Wid s w k:=by
 have e:∀w:Int,s.x1-s.x0=w->∀c,hgt s c=kq s c*(60/w):=λw e c=>e▸rfl
 rcases Xx (zP h.lt) h.wd with q|q|q|q
 ·exact⟨1,60,q,e 1 q,rfl,by simp,by simp⟩
 ·exact⟨2,30,q,e 2 q,rfl,by simp,by simp⟩
 ·exact⟨3,20,q,e 3 q,rfl,by simp,by simp⟩
 ·exact⟨4,15,q,e 4 q,rfl,by simp,by simp⟩
theorem mul_pos_iff{x k:Int}(V:0<k):0<x*k<->0<x:=by
 constructor
 ·intro h
  by_cases q:0<x
  ·exact q
  ·have:=Int.mul_le_mul_of_nonneg_right (show x<=0 by omega) (du V)
   omega
 ·exact λh=>G4 h V
theorem LS{X K p:Int}(V:0<K)(h:X*K=(p-q)*60):0<X<->q<p:=
 (mul_pos_iff V).symm.trans ((iff_of_eq (aQ (0<·) h)).trans ((mul_pos_iff (by simp)).trans ⟨PM,zP⟩))
theorem Jm{a b:c_}(Y:fJ a)(W:fJ b)(c:Int):(0<et a b c<->hgt b c<hgt a c)/\(et a b c<0<->hgt a c<hgt b c):=by
 refine ba λZ=>?_
 obtain⟨H,G,A⟩:=DI Y
 obtain⟨C,f,B⟩:=DI W
 apply Z
 have V:et a b c*(G*f)=(hgt a c-hgt b c)*60:=by
  rw[(A.ew▸B.ew▸rfl:et a b c=kq a c*C-kq b c*H),A.h,B.h]
  have q1:=A.wk;have q2:=B.wk
  generalize kq a c=x
  generalize kq b c=y
  grind
 exact⟨LS (G4 A.kp B.kp) V,RK.symm.trans (LS (G4 A.kp B.kp) (by rw[tO,V,<-tO,Ax]))⟩
theorem V0(a b:c_):∃f m:Int,∀c,et a b c=f+m*c:=by
 refine⟨et a b 0,(a.h1-a.h0)*(b.x1-b.x0)-(b.h1-b.h0)*(a.x1-a.x0),λc=>?_⟩
 delta et su
 grind
theorem V2{x y:Int}(h:0<x*y):(0<x/\0<y)\/(x<0/\y<0):=by
 rcases zR x 0 with q|q|q
 ·rcases zR y 0 with r|r|r
  ·exact .inr ⟨q,r⟩
  ·exact aZ ((r▸h:0<x*0)) (by rw[GL];exact po 0)
  ·exact aZ h (rg (Int.mul_neg_of_neg_of_pos q r))
 ·exact aZ ((q▸h:0<0*y)) (by rw[Int.zero_mul];exact po 0)
 ·rcases zR y 0 with r|r|r
  ·exact aZ h (rg (Int.mul_neg_of_pos_of_neg q r))
  ·exact aZ ((r▸h:0<x*0)) (by rw[GL];exact po 0)
  ·exact .inl ⟨q,r⟩
theorem Hb{f m a b c:Int}(V:a<=c)(Y:c<=b):(f+m*a<=f+m*c/\f+m*c<=f+m*b)\/(f+m*b<=f+m*c/\f+m*c<=f+m*a):=
 (Ri 0 m).elim (λh=>.inl ⟨vY (Ew V h) f,vY (Ew Y h) f⟩)
  λh=>.inr ⟨vY (NV h Y) f,vY (NV h V) f⟩
theorem V3{f m a b c:Int}(V:a<=c)(Y:c<=b)(h:0<(f+m*a)*(f+m*b)):(0<f+m*a/\0<f+m*c)\/(f+m*a<0/\f+m*c<0):=
 (V2 h).elim (λs=>.inl ⟨s.1,(Hb V Y).elim (λq=>lc s.1 q.1) λq=>lc s.2 q.1⟩)
  λs=>.inr ⟨s.1,(Hb V Y).elim (λq=>jy q.2 s.2) λq=>jy q.2 s.1⟩
def ls(s:c_)(c:Int):Prop:=s.x0<=c/\c<=s.x1
theorem xi{s:c_}{c:Int}:iU s c=ae<->ls s c:=by
 delta iU ls
 simp only[bB,decide_eq_true_eq,decide_eq_true_eq]
def uR(a b:c_):Prop:=(∀c,ls a c->ls b c->hgt a c<hgt b c)\/(∀c,ls a c->ls b c->hgt b c<hgt a c)
theorem uR.symm{a b:c_}(h:uR a b):uR b a:=h.elim (λh=>.inr λc V Y=>h c Y V) (λh=>.inl λc V Y=>h c Y V)
theorem HE{a b:c_}(Z:fJ a)(H:fJ b)(h:oj a b=ae):uR a b:=by
 rcases(ww _ _).mp h with h|h
 ·have h:min a.x1 b.x1<max a.x0 b.x0:=cY h
  exact .inl λc V Y=>aZ (dh (tS.mpr ⟨V.1,Y.1⟩) (Se.mpr ⟨V.2,Y.2⟩)) (pA.mpr h)
 ·have h:=cY h
  obtain⟨f,m,e⟩:=V0 a b
  have h:0<et a b (max a.x0 b.x0)*et a b (min a.x1 b.x1):=h
  rw[e,e] at h
  have W:∀c,ls a c->ls b c->(0<f+m*(max a.x0 b.x0)/\hgt b c<hgt a c)\/(f+m*(max a.x0 b.x0)<0/\hgt a c<hgt b c):=λc V Y=>by
   have o:=Jm Z H c
   rw[<-o.1,<-o.2,e]
   exact V3 (tS.mpr ⟨V.1,Y.1⟩) (Se.mpr ⟨V.2,Y.2⟩) h
  by_cases q:0<f+m*(max a.x0 b.x0)
  ·exact .inr λc V Y=>(W c V Y).elim (λk=>k.2) λk=>aZ q (rg k.1)
  ·exact .inl λc V Y=>(W c V Y).elim (λk=>aZ k.1 q) λk=>k.2
structure dg(ss:b0):Prop where
 nd:(ss.map (·.1)).Nodup
 ok:∀p∈ss,fJ p.2
 same:∀p∈ss,∀q∈ss,p.1≠q.1->uR p.2 q.2
theorem dg.snoc{s:c_}(G:dg ss)(W:x∉ss.map (·.1))(hs:fJ s)(h:(ss.all λq=>oj s q.2)=ae):dg (ss++[(x,s)]):=by
 rw[ef] at h
 refine⟨?_,λp V=>?_,λp V q Y e=>?_⟩
 ·rw[dK]
  refine kG.mpr ⟨G.nd,mE _ _,λa Z b H e=>?_⟩
  exact W (((show b=x from a_.mp H)▸e)▸Z)
 ·rcases cQ.mp V with V|V
  ·exact G.ok p V
  ·obtain rfl:=a_.mp V;exact hs
 ·rcases cQ.mp V with V|V<;>rcases cQ.mp Y with Y|Y
  ·exact G.same p V q Y e
  ·cases a_.mp Y;exact(HE hs (G.ok p V) (h p V)).symm
  ·cases a_.mp V;exact HE hs (G.ok q Y) (h q Y)
  ·cases a_.mp V;obtain rfl:=a_.mp Y;exact aZ rfl e
def At(ss:b0)(x:Str)(c:Int):Prop:=ls (bu ss x) c
def Ht(ss:b0)(x:Str)(c:Int):Int:=hgt (bu ss x) c
theorem dg.mem(G:dg ss)(h:x∈ss.map (·.1)):(x,bu ss x)∈ss:=by
 obtain⟨p,V,rfl⟩:=bL.mp h
 exact(pE G.nd V)▸V
theorem dg.two(G:dg ss)(V:x∈ss.map (·.1))(Y:y∈ss.map (·.1))(e:x≠y):(∀c,At ss x c->At ss y c->Ht ss x c<Ht ss y c)\/(∀c,At ss x c->At ss y c->Ht ss y c<Ht ss x c):=
 G.same _ (G.mem V) _ (G.mem Y) e
theorem CG{K:Str->Int}:∀{T:List Str},T≠[]->∃z∈T,∀y∈T,K y<=K z
 |[],h=>aZ rfl h
 |[a],_=>⟨a,bi,λy V=>by exact(a_.mp V)▸(pt _)⟩
 |a::b::r,_=>by
  obtain⟨z,W,Y⟩:=CG (K:=K) (T:=b::r) nofun
  by_cases q:K a<=K z
  ·exact⟨z,bM _ W,λy V=>(bT.mp V).elim (λe=>e▸q) (Y y)⟩
  ·refine⟨a,bi,λy V=>(bT.mp V).elim (λe=>e▸pt _) λh=>?_⟩
   have:=Y y h
   exact du (jy this (pA.mp q))
theorem dg.top(G:dg ss){R:List Str}(Z:∀x∈R,x∈ss.map (·.1)){c:Int}{w:Str}(C:w∈R)(B:At ss w c):∃z∈R,At ss z c/\(∀y∈R,At ss y c->y≠z->Ht ss y c<Ht ss z c):=by
 have:DecidablePred λx=>At ss x c:=λx=>by dsimp only[At,ls];exact inferInstance
 obtain⟨z,Y,f⟩:=CG (K:=λx=>Ht ss x c) (T:=R.filter λx=>decide (At ss x c)) (λe=>by
  have:w∈R.filter λx=>decide (At ss x c):=eg.mpr ⟨C,eS B⟩
  exact nomatch (e▸this))
 have Y:=eg.mp Y
 have W:=cY Y.2
 refine⟨z,Y.1,W,λy H V e=>?_⟩
 have:=f y (eg.mpr ⟨H,eS V⟩)
 rcases G.two (Z y H) (Z z Y.1) e with q|q
 ·exact q c V W
 ·have:=q c V W;exact aZ (by assumption) (dW.mpr (by assumption))
def DJ(ss:b0)(R:List Str)(x:Str):Prop:=x∈R/\∀y∈R,At ss y (bu ss x).x0->y≠x->Ht ss y (bu ss x).x0<Ht ss x (bu ss x).x0
def DK(ss:b0)(R:List Str)(x:Str):Prop:=x∈R/\∀c,At ss x c->∀y∈R,At ss y c->y≠x->Ht ss y c<Ht ss x c
theorem dg.next(G:dg ss){R:List Str}(H:∀x∈R,x∈ss.map (·.1))(L:DJ ss R x){c:Int}(C:At ss x c)(h:∃y∈R,At ss y c/\Ht ss x c<Ht ss y c):∃z,DJ ss R z/\(bu ss x).x0<(bu ss z).x0:=by
 refine(Int.le.dest C.1).elim λn B=>?_;subst B
 induction n with
 |zero=>
  obtain⟨y,Z,Y,V⟩:=h
  rw[show (bu ss x).x0+((0:Nat):Int)=(bu ss x).x0 from tM _] at Y V
  exact aZ V λV=>(Rn (y=x)).elim (λq=>po _ (q▸V)) λq=>rg V (L.2 y Z Y q)
 |succ n ih=>
  obtain⟨y,Z,Y,V⟩:=h
  obtain⟨z,f,z2,z3⟩:=G.top H Z Y
  have e1:(bu ss x).x0+((n+1:Nat):Int)=(bu ss x).x0+n+1:=(Gl (bu ss x).x0 n 1).symm
  have W:Ht ss x _<Ht ss z _:=(Rn (y=z)).elim (λq=>q▸V) λq=>GG V (z3 y Z Y q)
  by_cases q:(bu ss z).x0<(bu ss x).x0+((n+1:Nat):Int)
  ·have le:(bu ss x).x0+n<=(bu ss x).x0+((n+1:Nat):Int):=e1▸Int.le_add_one (pt _)
   have ax:At ss x ((bu ss x).x0+n):=⟨vH (dA n),dh le C.2⟩
   have az:At ss z ((bu ss x).x0+n):=⟨nA (e1▸q),dh le z2.2⟩
   refine ih ax ⟨z,f,az,?_⟩
   exact(G.two (H x L.1) (H z f) λe=>by subst e;exact po _ W).elim (λr=>r _ ax az) λr=>aZ (r _ C z2) (rg W)
  ·have e:=qU z2.1 (dW.mp q)
   exact⟨z,⟨f,e▸z3⟩,e▸Og _ (Qh.mpr (eB n))⟩
theorem dg.Xy(G:dg ss){R:List Str}(Y:∀x∈R,x∈ss.map (·.1))(n:Nat):∀(x:Str),DJ ss R x->12<=(bu ss x).x0+(n:Int)->∃z,DK ss R z:=by
 induction n with
 |zero=>
  intro x L W
  have o:=G.ok _ (G.mem (Y x L.1))
  exact aZ (lc (jy W (show (bu ss x).x0+0<(bu ss x).x1 from (tM _).symm▸o.lt)) o.hi) (dC tT)
 |succ n f=>
  intro x L W
  by_cases q:∃c,At ss x c/\∃y∈R,At ss y c/\Ht ss x c<Ht ss y c
  ·refine q.elim λc Z=>Z.elim λh1 h2=>?_
   obtain⟨z,hz,H⟩:=G.next Y L h1 h2
   exact f z hz (dh W (show (bu ss x).x0+(n+1)<=_ from g4 1 n▸Gl (bu ss x).x0 1 n▸nB H n))
  ·exact⟨x,L.1,λc C y B V e=>(G.two (Y y B) (Y x L.1) e).elim (λr=>r c V C) λr=>aZ ⟨c,C,y,B,V,r c V C⟩ q⟩
theorem dg.free(G:dg ss){R:List Str}(V:∀x∈R,x∈ss.map (·.1))(Y:R≠[]):∃z,DK ss R z:=by
 obtain⟨w,H,B⟩:=CG (K:=λx=>-(bu ss x).x0) Y
 refine(G.top V H (c:=(bu ss w).x0) ⟨pt _,du ((G.ok _ (G.mem (V w H))).lt)⟩).elim λz W=>W.elim λC Z=>Z.elim λf z3=>?_
 have e:(bu ss z).x0=(bu ss w).x0:=qU f.1 (Int.le_of_neg_le_neg (B z C))
 exact G.Xy V (12-(bu ss z).x0).toNat z ⟨C,e▸z3⟩ (Int.le_add_of_sub_left_le (Int.self_le_toNat _))
noncomputable def im(k:Nat):Str:=toString (k:Int)
theorem V4:((dM 16).all λa=>(dM 16).all λb=>(im a==im b)==(a==b))=ae:=by decide+kernel
theorem Xz{a:Nat}(V:a<16)(Y:b<16):(im a==im b)=(a==b):=
 eq_of_beq (ef.mp (ef.mp V4 a (gk.mpr V)) b (gk.mpr Y))
def ni(n:Nat)(rows:List (List Str)):List (Str×Str):=((rows.zipIdx n).map λp=>f6 p.2 p.1).flatten
theorem ID(n:Nat)(r:List Str)(V:List (List Str)):ni n (r::V)=f6 n r++ni (n+1) V:=rfl
theorem Ui(f:Str->Bool)(rows:List (List Str))(n:Nat):(ni n rows).filter (λp=>f p.1)=ni n (rows.map λr=>r.filter f):=by
 induction rows generalizing n with
 |nil=>rfl
 |cons r Y V=>exact(tn ..).trans (congr (aQ (·++·) qV) (V (n+1)))
theorem XA{k:Nat}(V:n<16)(Y:k<16)(r:List Str):(f6 n r).filter (λp=>p.2==im k)=bif n==k then f6 n r else []:=by
 refine qV.trans ((aQ (λf=>l5 (λl=>(l,im n)) (List.filter f r)) (funext λ_=>Xz V Y)).trans ?_)
 cases n==k with
 |true=>exact aQ (l5 _) (zE.mpr λ_ _=>rfl)
 |false=>exact aQ (l5 _) (vN.mpr λ_ _=>Bool.false_ne_true)
theorem K3{k:Nat}(V:k<16)(rows:List (List Str))(n:Nat)(h:n+rows.length<=16):(ni n rows).filter (λp=>p.2==im k)=if n<=k then f6 k (rows.getD (k-n) []) else []:=by
 induction rows generalizing n with
 |nil=>exact(ite_self _).symm
 |cons r W Y=>
  rw[ID,tn,Y (n+1) (abU h),XA (ZQ h) V]
  rcases Nat.lt_trichotomy n k with q|q|q
  ·rw[beq_false_of_ne (eC q),bo (qL q),bo (bd q),XS q];rfl
  ·subst q
   rw[beq_self_eq_true,be (kJ.mpr (gY _)),bo (bv _),tL];exact cR _
  ·rw[beq_false_of_ne (jD q),be (kJ.mpr (lU q)),be (kJ.mpr q)];rfl
theorem Y0{p:Str×Str}(h:p∈ni n rows):∃k r,n<=k/\rows[k-n]?=aa r/\p.1∈r/\p.2=im k:=by
 obtain⟨l,hl,V⟩:=List.mem_flatten.mp h
 obtain⟨q,Y,rfl⟩:=bL.mp hl
 have m:=List.mem_zipIdx_iff_le_and_getElem?_sub.mp Y
 obtain⟨x,W,rfl⟩:=bL.mp V
 exact⟨q.2,q.1,m.1,m.2,W,rfl⟩
theorem V5(h:∀r∈rows,r.length<=6):(ni n rows).length<=rows.length*6:=by
 induction rows generalizing n with
 |nil=>exact ck _
 |cons r Y V=>
  rw[ID,bR]
  exact Zq (V λr hr=>h r (bM _ hr)) (h r bi) (aR ..)
theorem Kf{a:α}{l:List (Str×α)}(h:y≠x):((x,a)::l).lookup y=l.lookup y:=by
 simp only[iu,beq_eq_false_iff_ne.mpr h]
theorem Kg{a:α}{l:List (Str×α)}:((x,a)::l).lookup x=aa a:=by
 simp only[iu,beq_self_eq_true]
theorem V6{a:α}{l:List (Str×α)}:(l.map λp=>if p.1=x then (p.1,a) else p).lookup y=if y=x then (if (l.any λp=>p.1=x)=ae then aa a else ak) else l.lookup y:=by
 induction l with
 |nil=>exact(ite_self _).symm
 |cons p r Z=>
  rw[d8,List.any_cons]
  by_cases e:y=p.1
  ·have W:∀(b:α) (V:List (Str×α)),jb y ((p.1,b)::V)=aa b:=λb V=>e▸Kg
   by_cases q:p.1=x
   ·rw[bo q,bo (e.trans q),eS q,Bool.true_or,bo rfl];exact W a _
   ·rw[be q,be λh=>q (e.symm.trans h)];exact(W p.2 _).trans (W p.2 _).symm
  ·have Y:∀(b:α) (V:List (Str×α)),jb y ((p.1,b)::V)=V.lookup y:=λb V=>Kf e
   have H:∀V:List (Str×α),jb y ((if p.1=x then (p.1,a) else p)::V)=V.lookup y:=λV=>if q:p.1=x then (aQ (λu=>jb y (u::V)) (bo q)).trans (Y a V) else (aQ (λu=>jb y (u::V)) (be q)).trans (Y p.2 V)
   rw[H,Z]
   by_cases h:y=x
   ·rw[bo h,bo h,eY λq=>e (h.trans q.symm),Ah]
   ·rw[be h,be h];exact(Y p.2 r).symm
theorem Uj{a:α}{l:List (Str×α)}(h:(l.any λp=>p.1=x)=aH):(l++[(x,a)]).lookup y=if y=x then aa a else l.lookup y:=by
 rw[pc]
 by_cases e:y=x
 ·rw[bo e,List.lookup_eq_none_iff.mpr λp V=>bne_iff_ne.mpr λq=>ig (Fm.mp h p V|>qN.mpr) (q.symm.trans e)]
  exact e▸Kg
 ·rw[be e,show jb y [(x,a)]=ak from Kf e,Option.or_none]
theorem Uk{a:α}{l:List (Str×α)}:(jr l x a).lookup y=if y=x then aa a else l.lookup y:=by
 unfold jr
 by_cases q:(l.any λp=>decide (p.1=x))=ae
 ·rw[bo q,V6,bo q]
 ·rw[be q,Uj (qN.mpr q)]
theorem Bh(s:Str)(pg:List (Str×Str)):(f7 pg).lookup s=((pg.filter λp=>p.2==s).getLast?).map (·.1):=by
 refine snocInd (P:=λpg=>(f7 pg).lookup s=((pg.filter λp=>p.2==s).getLast?).map (·.1)) rfl (λl p V=>?_) pg
 have e:f7 (l++[p])=jr (f7 l) p.2 p.1:=lR
 simp only[e,Uk,tn,jA,FX]
 by_cases q:s=p.2
 ·subst q
  refine(bo rfl).trans ?_;rw[bo (beq_self_eq_true _),qG];rfl
 ·refine(be q).trans ?_;rw[be (λh=>q (eq_of_beq h).symm),cR,V]
theorem Jn{pg:List (Str×Str)}{p:Str×Str}(h:p∈f7 pg):∃q∈pg,q.2=p.1/\q.1=p.2:=by
 have e:=lX (AI pg) (x:=p.1) h
 rw[Bh] at e
 induction q:(pg.filter λr=>r.2==p.1).getLast? with
 |none=>rw[q] at e;exact nomatch e
 |some r=>
  rw[q] at e
  have:=eg.mp (qH q)
  exact⟨r,this.1,eq_of_beq this.2,aW e⟩
theorem V7{pg:List (Str×Str)}{c:Str}(h:c∈pg.map (·.2)):c∈(f7 pg).map (·.1):=by
 obtain⟨p,Y,rfl⟩:=bL.mp h
 induction q:(pg.filter λr=>r.2==p.2).getLast? with
 |none=>
  have:=List.getLast?_eq_none_iff.mp q
  have V:p∈pg.filter λr=>r.2==p.2:=eg.mpr ⟨Y,beq_self_eq_true _⟩
  rw[this] at V;exact nomatch V
 |some r=>
  exact bL.mpr ⟨_,lookup_mem (q▸(Bh p.2 pg)),rfl⟩
theorem uS(ss:b0)(x:Str)(c:Int):K1 (gz ss) c x=Ht ss x c:=by
 show 60*(hgt (bu ss x) c/60)+hgt (bu ss x) c%60=hgt (bu ss x) c
 exact X9 _
def js(ss:b0)(c:Int):List Str:=gV ss (gz ss) c
noncomputable def iE(U:List Str)(x:Str):Bool:=!U.contains x
theorem xj:iE U x=ae<->x∉U:=by
 unfold iE
 rw[nH,qN,Ne,qD]
theorem dg.n8(G:dg ss){c:Int}:x∈js ss c<->x∈ss.map (·.1)/\At ss x c:=by
 rw[show x∈js ss c<->x∈eW ss c from (nW _ _).2.mem_iff,tW G.nd,xi]
 exact⟨λh=>⟨kE (f:=(·.1)) h.1,h.2⟩,λh=>⟨G.mem h.1,h.2⟩⟩
theorem dg.K4(G:dg ss){c:Int}:(js ss c).Nodup:=(nW _ _).2.nodup_iff.mpr (Rs G.nd)
theorem Kh(ss:b0)(c:Int):(js ss c).Pairwise λa b=>Ht ss a c<=Ht ss b c:=(nW (K1 (gz ss) c) (eW ss c)).1.imp λ{a b} h=>by
 simp only[uS,uS] at h;exact h
theorem XB{K:Str->Int}{l:List Str}(hs:l.Pairwise λa b=>K a<=K b)(V:x∈l)(h:∀y∈l,y≠x->K y<K x):l.getLast?=aa x:=by
 refine(vD (zM V)).trans ?_
 congr 1
 by_cases q:l.getLast (zM V)=x
 ·exact q
 ·have W:=h _ (P2 _) q
  obtain⟨a,b,e⟩:=zJ V
  subst e
  rw[lM] at hs
  have Y:b≠[]:=λe=>q (by subst e;simp)
  have:=(fV.mp hs.2.1).1 _ (P2 Y)
  have Z:(a++x::b).getLast (zM V)=b.getLast Y:=by
   rw[List.getLast_append_of_ne_nil _ (mM x b),List.getLast_cons Y]
  rw[Z] at W;exact aZ (by assumption) (dW.mpr (by assumption))
theorem nS(ss:b0):(dn ss).length=16:=by delta dn d7;rfl
noncomputable def cH(k:Nat):Int:=-4+(k:Int)
theorem Bi{k:Nat}(V:k<16):(dn ss)[k]?=aa (js ss (cH k)):=by
 delta dn d7
 simp only[ci,ci,zC V];rfl
theorem HF{c:Int}:c∈d7<->∃k,k<16/\c=cH k:=by
 exact bL.trans ⟨λV=>V.elim λk V=>V.elim λh e=>⟨k,gk.mp h,e.symm⟩,λV=>V.elim λk V=>V.elim λh e=>⟨k,gk.mpr h,e.symm⟩⟩
def g9(ss:b0)(U:List Str)(k:Nat):List Str:=(js ss (cH k)).filter (iE U)
def qo(ss:b0)(U:List Str):List (Str×Str):=kt ((dn ss).map λr=>r.filter (iE U))
theorem B_{k:Nat}(V:k<16):((dn ss).map λr=>r.filter (iE U)).getD k []=g9 ss U k:=by
 simp only[k9,ci,Bi V];rfl
theorem BI{k:Nat}(V:k<16):(f7 (qo ss U)).lookup (im k)=(g9 ss U k).getLast?:=by
 have e:=K3 V ((dn ss).map λr=>r.filter (iE U)) 0 (by rw[aR,nS];decide)
 rw[bo (ck _),GN,B_ V] at e
 rw[Bh,show (qo ss U).filter (λp=>p.2==im k)=f6 k (g9 ss U k) from e]
 unfold f6
 rw[qP]
 cases (g9 ss U k).getLast?<;>rfl
theorem r8{p:Str×Str}:p∈qo ss U<->∃k,k<16/\p.1∈g9 ss U k/\p.2=im k:=by
 constructor
 ·intro h
  refine(Y0 (n:=0) h).elim λk W=>W.elim λr Z=>Z.elim λ_ H=>H.elim λV G=>G.elim λh3 C=>?_
  simp only[GN] at V
  have Y:k<16:=by have:=(ez.mp V).1;rw[aR,nS] at this;exact this
  have e:=B_ (ss:=ss) (U:=U) Y
  rw[k9,V] at e
  exact⟨k,Y,by rw[<-e];exact h3,C⟩
 ·rintro⟨k,Y,B,V⟩
  have e:=K3 Y ((dn ss).map λr=>r.filter (iE U)) 0 (by rw[aR,nS];decide)
  rw[bo (ck _),GN,B_ Y] at e
  have:p∈(qo ss U).filter λp=>p.2==im k:=by
   rw[show (qo ss U).filter (λp=>p.2==im k)=f6 k (g9 ss U k) from e]
   obtain⟨p1,p2⟩:=p
   exact bL.mpr ⟨p1,B,aQ (p1,·) (show im k=p2 from V.symm)⟩
  exact(eg.mp this).1
theorem nq.le{b:Bool}(h:nq m fa d b k)(V:m<=n):nq n fa d b k:=⟨λw A s g u v S R r E=>h.run w A s g u v S (R.le V) r E⟩
theorem uw(h:x.length<=10000):vZ x.length=aH:=eY (de.mpr (aD h (lB tT)))
theorem rS{b:Bool}(V:(if b then okN x else oY x)=ae)(hl:x.length<=10000)(W:k (.str x)):nq 30 159 (.str x) b k:=by
 have Y:=aV hl (lT tT:10000<2^63)
 refine nq.intro (n:=28) (fa:=159) ⟨λw=>⟨_,_,_,_,_,rfl,_,_,_,_,rfl,rfl,rfl,rfl⟩⟩ (λ_ _ _ _ _ _ u v=>BindsTo.of_eq (by rfl)) (by ac_rfl) (by rfl) (by ac_rfl) (.take (bH.Tw rfl rfl rfl rfl rfl) (.cons (aO.uo rfl (λ_=>rfl) (cK.CK (bH.mono (k:=λc=>c=b) (b_ rfl) λc e=>?_)))))
 subst e
 induction c with
 |true=>exact Me rfl (cK.top (a:=124) rfl (λw=>by ac_rfl) rfl (.skip (bH.val (aj.I0 (a:=124) rfl rfl rfl rfl reN V Y rfl (Cu rfl)) λ_ _=>rfl) (cw 1 W)))
 |false=>exact Mf rfl (cK.top (a:=129) rfl (λw=>by ac_rfl) rfl (.skip (bH.val (aj.I0 (a:=129) rfl rfl rfl rfl reV V Y rfl (Cu rfl)) λ_ _=>rfl) (cw 1 W)))
theorem uf(hl:l.length<=10000)(V:k (.lst l)):i7 30 222 l [] k:=
 i7.intro (n:=28) (fa:=222) (aI:=["self"]) ⟨λw=>⟨_,_,_,_,_,rfl,_,_,_,_,rfl,rfl,rfl,rfl⟩⟩ (λ_ _ _ _ _ _ vs hl=>l6 (λ_=>by rfl) vs hl) (by ac_rfl) (by rfl) (by rfl) (by ac_rfl) λX dx Y=>.cons (aO.ret (aj.WG rfl (.inr rfl) rfl hl V))
structure Pg(m:Nat)(l:List (Str×Str)):Prop where
 len:l.length<=m
 low:∀p∈l,(cf p.1).length<=10000
theorem xO{l:List (Str×Str)}(h:Pg m l):(l.map bY).length<=m:=by rw[aR];exact h.len
theorem og.fx{t:au}{l:List (Str×Str)}(G:jP aF ρ x=ae)(b:Str×Str->Bool)(f:Str×Str->D)
 (h:gx n sc ρ (aS x p) iter λaf=>af=l.map bY)(C:∀a∈l,vq n aF ((x,.dat (bY a))::cZ aF ρ) t co (b a) (f a))(B:k (.lst ((l.filter b).map f))):og n sc ρ aF (aS x p) iter co [t] k:=
 gx.mono h λaf e=>by
  have V:Inj bY:=λa b h=>by
   have a1:=a.1;have a2:=a.2;have b1:=b.1;have b2:=b.2
   injection h with h
   refine(j6 h).elim λY W=>?_
   injection Y with Y
   injection (j6 W).1 with W
   exact xo Y W
  subst e
  refine⟨oM bY λa=>if b a=ae then aa (f a) else aU,λd hd=>?_,?_⟩
  ·refine(bL.mp hd).elim λa Z=>Z.elim λha H=>?_;subst H
   have T:=ms (n:=n) (p:=p) G (bY a)
   refine T.1 _ ⟨T.2.1,T.2.2,?_⟩
   rw[r7 V]
   exact(C a ha).all
  ·rw[zK,show (oM bY (λa=>if b a=ae then aa (f a) else aU)∘bY)=_ from funext λa=>r7 V a,yz];exact B
theorem HG(V:ou ρ y=aa (.str x))(ok:ce y=ae)(hl:(ap.endLine==aM.line)=ae)(h:(cf x).length<=10000)(Y:k (.str (cf x))):aj n sc ρ (bU (cC (aS y np) "lower" ap) [] [] aM) k:=
 aj.yt cM.lower rfl (λab=>mU rfl _ _ _) ⟨show 0<30 by simp,hl⟩ (aj.name (BA V) ok ⟨rfl,fR (bk.lower (uw h) Y)⟩)
theorem SX{l:List (Str×Str)}(hl:Pg 10000 l)(Y:(cf x).length<=10000)(V:okN (cf x)=ae)
 (W:k (.lst ((l.filter λp=>cf p.1==cf x).map λp=>D.str p.2))):i7 60 197 (l.map bY) [.str x] k:=
 i7.intro (n:=58) (fa:=197) (aI:=["self","name"]) ⟨λw=>⟨_,_,_,_,_,rfl,_,_,_,_,rfl,rfl,rfl,rfl⟩⟩ (λ_ _ _ _ _ _ vs hl=>jf (λ_ _=>by rfl) vs hl) (by ac_rfl) (by rfl) (by rfl) (by ac_rfl) λX dx Z=>
  .cons (aO.assign rfl (λ_=>rfl) (aj.conv rfl (.inr rfl) rfl rfl rfl (HG rfl rfl rfl Y ((rS (b:=ae) V Y (.cons (aO.ret (aj.A3 rfl (λ_ _=>rfl) (og.fx rfl (λp=>cf p.1==cf x) (λp=>.str p.2) (gx.dU rfl (.inr rfl) rfl (xO hl) rfl) (λp H=>b_ ⟨uw (hl.low p H),rfl,λ_=>bD rfl⟩) W))))).le (by simp)))))
theorem Jo{l:List (Str×Str)}(hl:Pg 10000 l)(W:(cf x).length<=10000)(V:okN (cf x)=ae):
 hH 60 178 (l.map bY) [.str x] ((l.filter λp=>cf p.1 != cf x).map bY):=
 hH.intro (n:=58) (fa:=178) (aI:=["self","name"]) ⟨λw=>⟨_,_,_,_,_,rfl,_,_,_,_,rfl,rfl,rfl,rfl⟩⟩ (λ_ _ _ _ _ _ vs hl=>jf (λ_ _=>by rfl) vs hl) (by ac_rfl) (by rfl) (by rfl) (by ac_rfl) λX dx Z=>
  .cons (aO.assign rfl (λ_=>rfl) (aj.conv rfl (.inl rfl) rfl rfl rfl (HG rfl rfl rfl W ((rS (b:=ae) V W (.cons (aO.TA rfl rfl (xO hl) (λ_=>rfl) (aj.A3 rfl (λ_ _=>rfl) (og.fx rfl (λp=>cf p.1 != cf x) bY (gx.dU rfl (.inl rfl) rfl (xO hl) rfl) (λp Y=>b_ ⟨uw (hl.low p Y),rfl,λ_=>bD rfl⟩) ⟨_,rfl,xO ⟨aD (kD _ _) hl.len,λp Y=>hl.low p (eg.mp Y).1⟩,.nil rfl⟩))))).le (by simp)))))
theorem MI(l:List (Str×Str))(x y:Str):l.map bY++[D.tup [.str x,.str y]]=(l++[(x,y)]).map bY:=by simp only[dK];rfl
theorem XC{l:List (Str×Str)}(hl:Pg 9000 l)(G:(cf x).length<=10000)(Z:x.length<=10000)(C:y.length<=10000)(H:okN (cf x)=ae)(V:okN x=ae)(Y:oY y=ae):
 hH 70 173 (l.map bY) [.str x,.str y] ((l.filter (λp=>cf p.1 != cf x)++[(x,y)]).map bY):=by
 have W:Pg 10000 l:=⟨aD hl.len (by simp),hl.low⟩
 refine hH.intro (n:=68) (fa:=173) (aI:=["self","name","val"]) ⟨λw=>⟨_,_,_,_,_,rfl,_,_,_,_,rfl,rfl,rfl,rfl⟩⟩ (λ_ _ _ _ _ _ vs hl=>pH (λ_ _ _=>by rfl) vs hl) (by ac_rfl) (by rfl) (by rfl) (by ac_rfl) λX dx B=>
  .cons (aO.JM rfl rfl (aj.name rfl rfl ⟨_,(Jo W G H).le (by simp),.cons (aO.Ho rfl rfl rfl rfl ?_ (λ_=>rfl) (λ_=>rfl) (aj.tup rfl (lB tT) (ia (aj.conv rfl (.inl rfl) rfl rfl rfl (aj.name rfl rfl ((rS (b:=ae) V Z (ia (aj.conv rfl (.inl rfl) rfl rfl rfl (aj.name rfl rfl ((rS (b:=aH) Y C (fR (.nil ?_))).le (by decide)))))).le (lB tT)))))))⟩))
 ·rw[aR];exact aD (kD _ _) W.len
 ·rw[<-MI];rfl
theorem XD{l:List (Str×Str)}(hl:l.length<=9000)(H:x.length<=10000)(W:y.length<=10000)(V:okN x=ae)(Y:oY y=ae):
 hH 70 255 (l.map bY) [.str x,.str y] ((l++[(x,y)]).map bY):=by
 refine hH.Yy (n:=68) (fa:=255) (n1:="self") (n2:="_name") (n3:="_value") (n4:="_params") ⟨λw=>⟨_,_,_,_,_,rfl,_,_,_,_,rfl,rfl,rfl,rfl⟩⟩ (λdoc pm bA ct an s u v1 v2 M A E Q G=>?_) (by ac_rfl) (by rfl) (by ac_rfl) λX dx C=>?_
 ·show wpAny M A (alloc {cls:=aK "dict",data:=.dict #[]}>>=λd=>pure _) Q E s
  exact aJ (wpAny_alloc' (a8 G))
 refine cw 1 λap=>.take (b_ rfl) (.cons (aO.assign rfl (λ_=>rfl) (aj.conv rfl (.inl rfl) rfl rfl rfl (aj.name rfl rfl ((rS (b:=aH) Y W ?_).le (lB tT))))))
 refine cw 2 (bQ (ck _) (aL.cons (aO.RP rfl rfl rfl (λ_ _=>rfl) ?_)))
 refine .cons (aO.Ho rfl rfl rfl rfl ?_ (λ_=>rfl) (λ_=>rfl) (aj.tup rfl (lB tT) (ia (aj.conv rfl (.inl rfl) rfl rfl rfl (aj.name rfl rfl ((rS (b:=ae) V H (ia (aj.UK rfl (bD ?_)))).le (lB tT)))))))
 ·rw[aR];exact aD hl (by simp)
 ·refine bk.join (x:="; ") (xs:=[y]) ?_ ⟨rfl,fR (.nil ?_)⟩
  ·have f:iy "; "=2:=rfl
   delta n9 vZ
   show (!decide (0+y.length+iy "; ">sizeLine))=ae
   rw[f,fq,eY (de.mpr (aD (gG W 2) (by decide)))];rfl
  ·rw[<-MI];rfl
theorem aax:FnAt 301 30 "_law_painted" ["order","sticks","rows"]:=⟨⟨λw=>⟨_,_,_,_,_,rfl,_,_,_,_,rfl,rfl,rfl,rfl⟩⟩,λ_ _ _ _ _ _ vs h=>pH (λ_ _ _=>by rfl) vs h,by rfl,by rfl⟩
theorem dJ.map{a:List Nat}(h:dJ (qn ps) ps.length a):(a.map λi=>ps.getD i default).Perm ps/\(a.map λi=>ps.getD i default).Pairwise λp q=>ltQ q p=aH:=by
 have e:(dM ps.length).map (λi=>ps.getD i default)=ps:=by
  refine qJ λi=>?_
  refine ci.trans ?_
  by_cases q:i<ps.length
  ·rw[zC q,dt q]
   exact aQ aa (by show ps.getD i default=_;rw[k9,dt q];rfl)
  ·rw[pb (P4 q),pb (kF▸(P4 q))];rfl
 exact⟨(h.perm.map _).trans (.of_eq e),qO.mpr (h.pw.imp λh=>h.1)⟩
theorem Ul{qs:List (Str×Str)}{b c:List Nat}(W:ps.Perm qs)(V:dJ (qn ps) ps.length b)(Y:dJ (qn qs) qs.length c):(b.map λi=>ps.getD i default)=c.map λi=>qs.getD i default:=
 (V.map.1.trans (W.trans Y.map.1.symm)).eq_of_pairwise (λa b _ _ Z H=>Cw.2.2 a b H Z) V.map.2 Y.map.2
theorem BJ(l:List (Str×Str)):iC (.lst (.pair .str .str)) (.lst (l.map bY)):=⟨_,rfl,λd hd=>by obtain⟨x,_,rfl⟩:=bL.mp hd;exact⟨_,_,rfl,⟨_,rfl⟩,⟨_,rfl⟩⟩⟩
theorem Ca:Inj bY:=λa b h=>
 have V:a.1=b.1:=aQ (f_ · 0) h
 have Y:a.2=b.2:=aQ (f_ · 1) h
 xo V Y
section
variable {ss:b0} {X dx hl:ag} {aG x:Str} {rows:List (List Str)} {n i m:Nat} {pg sq:List (Str×Str)}
theorem XE(V:k (.str ⟨#[if i%2=0 then 67 else 99]⟩)):b8 n (.str (a6 "Cc")) (.int ((i:Int)%2)) k:=by
 rcases Nat.mod_two_eq_zero_or_one i with h|h
 ·rw[h] at V
  rw[show (i:Int)%2=0 by exact L7 (by assumption)]
  exact b8.str (j:=0) (c:=67) (dC tT) (dC tT) rfl rfl V
 ·rw[h] at V
  rw[show (i:Int)%2=1 by exact Yd (by assumption)]
  exact b8.str (j:=1) (c:=99) (dC tT) (dC tT) rfl rfl V
theorem Um{f:List (Str×Str)->Str×Str->List (Str×Str)}{q:Str×Str}(h:sq[i]?=aa q):(sq.take (i+1)).foldl f pg=f ((sq.take i).foldl f pg) q:=by simp only[lQ,h,lR];rfl
theorem V8(h:Pg m pg){p:Str×Str}(Y:(cf p.1).length<=10000):Pg (m+1) (ln pg p):=
 ⟨by unfold ln;rw[bR];exact gG (aD (kD _ _) h.len) 1,λq V=>(cQ.mp V).elim (λV=>h.low q (eg.mp V).1) λV=>a_.mp V▸Y⟩
theorem IE(h:Pg m pg)(hs:∀p∈sq,(cf p.1).length<=10000):Pg (m+sq.length) (sq.foldl ln pg):=by
 induction sq generalizing pg m with
 |nil=>exact h
 |cons p r V=>rw[gj,gP r.length,<-eK];exact V (V8 h (hs p bi)) λq Y=>hs q (bM _ Y)
theorem R8{l:List Str}:uF ss (l++[x])=uF ss l++jq ss l.length x:=by
 unfold uF
 simp only[Pw,dK,O9]
 exact aQ _ ((cR _).trans (by rw[fq]))
theorem R9{l:List Str}:jM ss (l++[x])=(jq ss l.length x).foldl ln (jM ss l):=by
 unfold jM
 simp only[R8,lR]
theorem Jp(S:fJ (bu ss x)):∀p∈jq ss i x,(cf p.1).length<=10000:=λp Y=>by
 obtain⟨c,V,rfl⟩:=bL.mp Y
 have:=xM (t:=i) (c:=c) (ym S V).1 (dh (ym S V).2 (by simp))
 exact this.2.2.1▸aD this.2.2.2.2 (by simp)
theorem Ki(S:fJ (bu ss x)):(jq ss i x).length<=5:=by
 delta jq dS
 simp only[aR,aR,kF]
 have:=S.wd
 exact aby (by assumption)
def uT(ss:b0)(X dx hl:ag)(aG:Str)(rows:List (List Str))(pg:List (Str×Str)):ay:=([("canvas",.dU X dx hl (pg.map bY)),("order",.dat (.str aG)),("sticks",.dat (jh ss)),("rows",.dat (.lst (rows.map cz)))]:List (Str×Bd))
theorem Jq{c:Int}(h:-4<=c/\c<=11):c.natAbs.log2<1920:=by
 by_cases q:c.natAbs=0
 ·rw[q];decide
 ·have:=(wM q).mpr (show c.natAbs<2^4 by exact X7 (by assumption));exact eO this (by simp)
theorem Un{t:Nat}{c:Int}(h:(iX t c).length<=10):iy ⟨#[if t%2=0 then 67 else 99]⟩+(toString c:Str).length<=sizeLine:=by
 unfold iX at h
 rw[cD,fF,bR,<-cD,<-cD] at h
 exact aD h (lB tT)
theorem R_(f:(ss.map (·.1)).Nodup)(hss:∀p∈ss,fJ p.2)(G:∀x∈chars aG,x∈ss.map (·.1)/\oY x=ae/\x.length<=1)(W:aG.length<=6)
 (H:rows.length=16)(hr:∀r∈rows,r.length<=6)(Z:((jM ss (chars aG)).map λp=>(cf p.1,p.2)).Perm (oR rows))(hk:k (.bool ae)):bJ 80 301 [.str aG,jh ss,.lst (rows.map cz)] k:=by
 refine bJ.vr aax rfl (.cons (aO.uo rfl (λ_=>rfl) (cK.Li rfl (lB tT) λX dx hl=>aL.sub (ρ:=uT ss X dx hl aG rows []) (.cons (aO.for (λ_ _=>rfl) (bK.call (q9 rfl) rfl (ee (dF 40) (fO.Ld (bd (aV W (lT tT))) ?_))))) (cA.sub ⟨rfl,rfl,rfl,rfl,trivial⟩))))
 refine(show (aG.cps.toList.map λc=>D.str ⟨#[c]⟩)=(chars aG).map D.str from cJ.symm)▸?_
 refine⟨λi aC=>aC=uT ss X dx hl aG rows (jM ss ((chars aG).take i))/\Pg (i*5) (jM ss ((chars aG).take i)),?_,?_,?_,?_⟩
 ·exact⟨rfl,ck _,nofun⟩
 ·rintro i _ ⟨rfl,_⟩;rfl
 ·rintro i d _ hd ⟨rfl,Y⟩
  obtain⟨u,hu,rfl⟩:=ub hd
  obtain⟨x,hx,rfl⟩:=mW hu
  obtain⟨hm,hv,h1⟩:=G x (c5 hx)
  have S:=hss _ (B9 f hm)
  have hi:=(ez.mp hx).1
  have hi6:i<6:=cg hi ((iP aG).symm▸W)
  have en:jM ss ((chars aG).take (i+1))=(jq ss i x).foldl ln (jM ss ((chars aG).take i)):=by
   rw[ue hx,R9,gJ,iN (bd hi)]
  generalize jM ss ((chars aG).take i)=pg at Y en
  refine c0.tup rfl rfl (jG (.name rfl (jG (.name rfl (pI ?_)))))
  refine .cons (aO.for (λ_ _=>rfl) (bK.call (AM rfl) rfl (ee (dF 40) (pT f hm (pT f hm (fO.Ci (yn S).1 (yn S).2 ?_))))))
  refine AH▸?_
  refine⟨λj aC=>aC=(("letter",.dat (.str x))::("turn",.dat (.int i))::uT ss X dx hl aG rows (((jq ss i x).take j).foldl ln pg):List (Str×Bd)),rfl,?_,?_,?_⟩
  ·rintro j _ rfl;rfl
  ·rintro j d _ hdj rfl
   obtain⟨c,hc,rfl⟩:=ints_get hdj
   have V:=ym S (c5 hc)
   refine(xM (t:=i) V.1 (dh V.2 (dC tT))).elim λn1 nr=>nr.elim λn2 qm=>qm.elim λn3 C=>C.elim λn4 n5=>?_
   have hsq:(jq ss i x)[j]?=aa (iX i c,x):=by unfold jq;rw[ci,hc];rfl
   refine c0.name rfl (.cons (aO.WH rfl rfl (λ_=>rfl) (aj.name rfl rfl (bD (XE ⟨Jq V,Un n4,_,hH.le (XC (l:=((jq ss i x).take j).foldl ln pg) (x:=iX i c) (y:=x) ?_ (n3▸aD n5 (lB tT)) (aD n4 (lB tT)) (aD h1 (lB tT)) n2 n1 hv) (lB tT),.nil (AO (("letter",.dat (.str x))::("turn",.dat (.int i))::uT ss X dx hl aG rows (((jq ss i x).take (j+1)).foldl ln pg):List (Str×Bd)) (cA.sub ⟨rfl,rfl,?_,rfl,rfl,rfl,trivial⟩) rfl)⟩)))))
   ·have:=IE (sq:=(jq ss i x).take j) Y λp h=>Jp S p (mF h)
    exact⟨aD this.len (by rw[gJ];have:=Ki S (i:=i);exact abr (by assumption) (by assumption)),this.low⟩
   ·rw[Um hsq];rfl
  ·rintro _ rfl
   refine .nil (AO (uT ss X dx hl aG rows (jM ss ((chars aG).take (i+1)))) (cA.sub ⟨?_,rfl,rfl,rfl,trivial⟩) ⟨rfl,?_⟩)
   ·rw[en,aR,la]
    ·rfl
    ·unfold jq;rw[aR];exact bv _
   ·rw[en]
    have:=IE Y (Jp S (i:=i))
    exact⟨aD this.len (by have:=Ki S (i:=i);exact abt (by assumption)),this.low⟩
 ·rintro _ ⟨rfl,Y⟩
  simp only[nV,aR,j0] at Y⊢
  rw[iP] at Y
  refine .cons (aO.wY rfl (λ_ _=>rfl) rfl rfl (dj.ft (α:=List Str×Nat) (c1:=λa=>.int (a.2:Nat)) (c2:=λa=>cz a.1) (xD xh) rfl (bK.call (q9 rfl) rfl (ee (dF 40) (fO.CO ?_ ⟨rows.zipIdx,λa=>!a.1.isEmpty,λa=>bY (dZ ((a.2:Int)-4),a.1.getLastD default),xg _ _,λa ha=>b_ ?_,?_⟩)))))
  ·rw[aR,H];decide
  ·obtain⟨r,j⟩:=a
   have hj:j<16:=H▸(P5 ha).1
   have hrr:r∈rows:=(P5 ha).2▸PX _
   refine bq.neT (.lst .str) (lB tT) (ki r) (ki []) λcb V=>⟨?_,λhb=>bD ?_⟩
   ·rw[hY,V]
    cases r with
    |nil=>exact⟨λh=>aZ rfl h,nofun⟩
    |cons y s=>exact⟨λ_=>rfl,λ_ h=>by injection h with h;cases h⟩
   ·have hz:-4<=(j:Int)-4/\(j:Int)-4<=11:=by exact x_ (by assumption)
    have hl:(dZ ((j:Int)-4)).length<=10:=(xM (t:=0) hz.1 (dh hz.2 (dC tT))).2.2.2.2
    unfold dZ at hl
    rw[cD,fF,bR,<-cD,<-cD] at hl
    refine bQ (Jq hz) (bQ (aD hl (lB tT)) ?_)
    cases r with
    |nil=>exact ft (show aH=ae from hb)
    |cons y s=>
     have h6:=hr _ hrr
     exact b8.LM (by simp only[qP,N5,vD (mM y s)];rfl) (by rw[aR];exact aD h6 (by simp)) rfl
  ·refine cw 1 (aj.comp rfl (λ_ _=>rfl) (dj.mt (α:=Str×Str) (c1:=λp=>.str p.1) (c2:=λp=>.str p.2) Ca rfl (bK.list (aj.rO uD rfl (.inl rfl) rfl rfl (eB _) rfl (fR ((uf (l:=(jM ss (chars aG)).map bY) ?_ ⟨_,rfl,?_,_,λp=>bY (cf p.1,p.2),rfl,λp hpm=>?_,?_⟩).le (by simp)))))))
   ·rw[aR];have:=Y.len;omega
   ·rw[aR];have:=Y.len;omega
   ·exact bD (bQ (uw (Y.low p hpm)) rfl)
   ·rw[show (λp:Str×Str=>bY (cf p.1,p.2))=bY∘λp=>(cf p.1,p.2) from rfl,<-cJ]
    have B:(oR rows).length<=16:=by
     unfold oR
     rw[aR]
     exact aD (kD _ _) (by rw[List.length_zipIdx,H];exact bv _)
    refine bk.JO (by have:=Z.length_eq;exact aV (aD (bn this) B) (lT tT)) λb1 Em=>?_
    refine bk.vw (sW:=[.lst ((oR rows).map bY)]) (by unfold oR;rw[cJ];rfl) (bk.JO (aV B (lT tT)) λb2 hb2=>?_)
    have he:=aQ (λl=>D.lst (l.map bY)) (Ul Z Em hb2)
    have ht:=BJ (b2.map λi=>(oR rows).getD i default)
    simp only[cJ] at he ht
    refine bq.eqT (.lst (.pair .str .str)) (lB tT) (he▸ht) ht λcb V=>?_
    exact(V.mpr he)▸hk
end
theorem aay:FnAt 296 29 "_law_order" ["rows","choices"]:=⟨⟨λw=>⟨_,_,_,_,_,rfl,_,_,_,_,rfl,rfl,rfl,rfl⟩⟩,λ_ _ _ _ _ _ vs h=>jf (λ_ _=>by rfl) vs h,by rfl,by rfl⟩
def MJ(i:Nat):List bw:=match (fb 29).drop i with
 |.For _ _ b _ _::_=>b
 |_=>[]
section
variable {X dx hl:ag} {aG:Str} {rows:List (List Str)} {iR:List Int} {n i m:Nat} {pg:List (Str×Str)} {ys:List Str} {ch:Int}
def mv(X dx hl:ag)(rows:List (List Str))(iR:List Int)(pg:List (Str×Str))(aG:Str):ay:=([("page",.dU X dx hl (pg.map bY)),("order",.dat (.str aG)),("rows",.dat (.lst (rows.map cz))),("choices",.dat (.lst (iR.map D.int)))]:List (Str×Bd))
theorem adw{a:D}(V:jP aF ρ x=ae):Sub (cZ aF ρ) ((x,.dat a)::cZ aF ρ):=(ms (n:=0) (p:=⟨0,0,0,0⟩) V a).2.2
theorem ady{a b:D}(V:(jP aF ρ x&&(jP aF ρ y&&!(y==x)))=ae):Sub (cZ aF ρ) ((y,.dat b)::(x,.dat a)::cZ aF ρ):=(sJ (n:=0) (p:=⟨0,0,0,0⟩) (p1:=⟨0,0,0,0⟩) (p2:=⟨0,0,0,0⟩) (m:=0) V a b).2.2
theorem xk{o:Str}(Z:o.length<=100)(Y:k (.str (mk1 c))):b8 n (.str (mk1 c++o)) (.int 0) k:=by
 have V:(mk1 c++o).length=o.length+1:=by rw[cD,fF,bR,<-cD o];exact gP _ _
 have e:lm 0 (mk1 c++o).length=if (decide ((0:Int)<=0)&&decide ((0:Int)<(mk1 c++o).length))=ae then aa (0:Int).toNat else ak:=rfl
 have W:(cl (mk1 c++o))[0]?=aa c:=by rw[fF];rfl
 exact b8.str (j:=0) (c:=c) (dC tT) (dC tT) (by refine e.trans ?_;rw[V,eS (show (0:Int)<((o.length+1:Nat):Int) from abV)];rfl) (by exact kB.symm.trans W) Y
structure ve(pg:List (Str×Str))(aG:Str):Prop where
 len:pg.length<=96
 cap:∀p∈pg,ff p.1=ae
 ol:aG.length<=6
 cols:∀c∈pg.map (·.2),c∈(f7 pg).map (·.1)
 tl:(f7 pg).length<=16
theorem SY:(g8 pg y).length<=pg.length:=by unfold g8;rw[aR];exact kD _ _
theorem IF{l:List Str}:D.lst (l.map D.str)=.lst []<->l=[]:=⟨λh=>by injection h with h;exact zD.mp h,λh=>by rw[h];rfl⟩
theorem ve.top(P:ve pg aG){c:Str}(h:c∈g8 pg y):∃q∈f7 pg,q.1=c/\(f7 pg).lookup c=aa q.2:=by
 obtain⟨p,Y,rfl⟩:=bL.mp h
 obtain⟨q,V,e⟩:=bL.mp (P.cols _ (bL.mpr ⟨p,(eg.mp Y).1,rfl⟩))
 exact⟨q,V,e,lX (AI pg) (e▸V)⟩
theorem Y1(ch:Int)(h:0<n):∃m:Nat,m<n/\ch%(n:Int)=m:=by
 have V:=pj ch (b:=n) (by exact K9 (by assumption))
 have Y:=pe ch (b:=n) (by omega)
 exact⟨(ch%n).toNat,by exact a_pos (by assumption) (by assumption),by exact abQ (by assumption)⟩
theorem XF{f:α->Str}(l:List α):iC (.lst .str) (.lst (l.map λa=>D.str (f a))):=⟨_,rfl,λd hd=>by obtain⟨x,_,rfl⟩:=bL.mp hd;exact⟨_,rfl⟩⟩
theorem V9(P:ve pg aG){k:Fl->ay->Prop}(hk:∀ys:List Str,ys.Nodup->sortedS ys=ae->(∀x,x∈ys<->∃p∈f7 pg,p.2=x)->mm pg ys≠[]/\∀l∈mm pg ys,∀ρ,Sub (mv X dx hl rows iR (pg.filter λp=>p.1 != l) (l++aG)) ρ->k .next ρ):
 aL 98 (fs 29) (("choice",.dat (.int ch))::mv X dx hl rows iR pg aG:List (Str×Bd)) (MJ 3) k:=by
 refine .cons (aO.assign rfl (λ_=>rfl) (aj.rO uD rfl (.inl rfl) rfl rfl (lT tT) rfl (fR (i7.le (m:=30) (uf (l:=pg.map bY) (by rw[aR];exact aD P.len (lB tT)) ?_) (lB tT)))))
 refine .cons (aO.Hr rfl (λ_=>rfl) (aj.I1 rfl (λ_ _=>rfl) (bK.list (aj.name rfl rfl ⟨_,rfl,by rw[aR];exact aD P.len (lB tT),va,λd hd=>?_,?_⟩))))
 ·obtain⟨p,W,rfl⟩:=bL.mp hd
  exact(sJ rfl (.str p.1) (.str p.2)).1 _ ⟨rP.cons,ady rfl,rfl,bD ⟨rfl,bD rfl⟩⟩
 rw[Xk]
 refine .cons (aO.Hr rfl (λ_=>rfl) (aj.I1 rfl (λ_ _=>rfl) (bK.list (aj.Sw rfl rfl rfl (λ_=>rfl) (aj.name rfl rfl ⟨_,rfl,aV P.tl (lT tT),λys y1 y2 y3=>?_⟩)))))
 have Z:ys.length<=16:=by
  have:=pM (b:=ys) (l:=(f7 pg).map (·.2)) y1 λx hx=>by
   obtain⟨p,W,e⟩:=(y3 x).mp hx
   exact bL.mpr ⟨p,W,e⟩
  rw[aR] at this;exact aD this P.tl
 refine⟨_,rfl,by rw[aR];exact aD Z (lB tT),uQ pg,λd hd=>?_,?_⟩
 ·obtain⟨y,hy,rfl⟩:=bL.mp hd
  refine(ms rfl (.str y)).1 _ ⟨rP,adw rfl,rfl,bD ⟨rfl,?_⟩⟩
  refine aj.comp rfl (λ_ _=>rfl) (dj.ft (α:=Str×Str) (c1:=λp=>.str p.1) (c2:=λp=>.str p.2) Ca rfl (bK.list (aj.name rfl rfl ⟨_,rfl,?_,pg,λp=>p.1==y,λp=>.str p.2,rfl,λp W=>b_ ⟨rfl,λ_=>bD rfl⟩,?_⟩)))
  ·rw[aR];exact aD P.len (lB tT)
  ·show _=cz _
   unfold g8 cz
   rw[cJ];rfl
 rw[YW pg y1]
 refine .cons (aO.wY rfl (λ_ _=>rfl) rfl rfl (dj.fx Inj.str rfl (bK.dictKeys (aj.name rfl rfl ⟨_,rfl,by rw[aR];exact aD Z (lB tT),ys,λy=>(g8 pg y).all λc=>(f7 pg).lookup c==aa y,D.str,by rw[cJ];rfl,λy hy=>b_ ?_,?_⟩))))
 ·refine aj.comp rfl (λ_ _=>rfl) (dj.fx Inj.str rfl (bK.list (bD (b8.cO (d:=cz (g8 pg y)) (bL.mpr ⟨y,hy,rfl⟩) ⟨_,rfl,?_,g8 pg y,λc=>(f7 pg).lookup c != aa y,D.str,rfl,λc hc=>b_ ?_,?_⟩))))
  ·rw[aR];exact aD SY (aD P.len (lB tT))
  ·obtain⟨q,hq,rfl,e⟩:=P.top hc
   exact b8.cO (d:=.str q.2) (bL.mpr ⟨q,hq,rfl⟩) ⟨by show _=(_ != _);rw[e];rfl,λ_=>bD rfl⟩
  ·exact bq.eqT (.lst .str) (lB tT) (ki _) (ki []) λf Y=>⟨by rw[hY,Y,IF,vN];show _<->List.all _ _=ae;rw[ef];exact⟨λh c hc=>by simpa using h c hc,λh c hc=>by simpa using h c hc⟩,λ_=>bD rfl⟩
 refine(hk ys y1 y2 y3).elim λf1 f2=>?_
 refine aL.skip (b_ (bq.eqT (.lst .str) (lB tT) (ki _) (ki []) λf Y=>?_)) ?_
 ·cases f with
  |false=>rfl
  |true=>exact aZ (IF.mp (Y.mp rfl)) f1
 have H:(mm pg ys).length<=16:=aD (kD _ _) Z
 have C:∀l∈mm pg ys,l∈ys:=λl h=>(eg.mp h).1
 change aL 98 (fs 29) ((_,.dat (.lst ((mm pg ys).map D.str)))::_) _ _
 generalize mm pg ys=fr at f1 f2 H C
 have mD:0<fr.length:=by cases fr with|nil=>exact aZ rfl f1|cons a r=>exact eB _
 refine .cons (aO.assign rfl (λ_=>rfl) (bD (bQ (by rw[aR];exact aV H (lT tT)) (bP.t (eS (by rw[aR];exact eN.mpr mD)) ?_))))
 obtain⟨m,hm,e⟩:=Y1 ch mD
 rw[aR,e]
 obtain⟨l,lJ⟩:∃l,fr[m]?=aa l:=⟨_,dt hm⟩
 have B:=c5 lJ
 refine b8.oH (d:=.str l) (by rw[aR];exact aD H (by simp)) (by rw[ci,lJ];rfl) ?_
 have V:ff l=ae:=by
  obtain⟨p,W,e⟩:=(y3 l).mp (C l B)
  obtain⟨q,hq,e2⟩:=T7 W
  rw[<-e];exact e2▸(P.cap q hq)
 refine(pN V).elim λc adz=>adz.elim λadA _=>?_;subst adA
 refine bQ (aD (fi P.ol 1) (lB tT)) ?_
 have ob:aG.length<=100:=aD P.ol (by simp)
 refine .cons (aO.assign rfl (λ_=>rfl) (aj.mono (k:=λd=>∃a:Str,d=.str a/\cf a=cf (mk1 c)) (bD (bH.val (bD (Cm (cL.mk (λ_=>xk ob ⟨_,rfl,rfl⟩) λ_=>xk ob ⟨?_,_,rfl,(md V).1.2.2.2.2.2⟩))) λ_ _=>rfl)) λd q_=>q_.elim λa q_=>q_.elim λe ha=>?_))
 ·have:=(md V).1.2.2.2.2.1
  exact uw (this▸lB tT)
 subst e
 have al:(cf a).length<=10000:=by rw[ha,(md V).1.2.2.2.2.1];decide
 have ao:okN (cf a)=ae:=ha▸(md V).1.2.1
 have G:Pg 10000 pg:=⟨aD P.len (lB tT),λp W=>by rw[(md (P.cap p W)).1.2.2.2.2.1];decide⟩
 have e1:(pg.filter λp=>cf p.1==cf a)=pg.filter λp=>p.1==mk1 c:=mJ λp W=>by
  exact ha▸((md (P.cap p W)).2 _ V)
 have e2:(pg.filter λp=>cf p.1 != cf a)=pg.filter λp=>p.1 != mk1 c:=mJ λp W=>by
  exact ha▸(aQ not ((md (P.cap p W)).2 _ V))
 refine .cons (aO.assign rfl (λ_=>rfl) (aj.rO WF rfl (.inl rfl) rfl rfl (lT tT) rfl (ia (aj.name rfl rfl (fR (i7.le (m:=60) (SX G al ao ?_) (lB tT)))))))
 refine e1▸?_
 refine .cons (aO.JM rfl rfl (aj.name rfl rfl ⟨_,hH.le (m:=60) (Jo (l:=pg) G al ao) (lB tT),?_⟩))
 rw[e2]
 refine aL.skip (b_ (xk ob (b8.cO (d:=cz (g8 pg (mk1 c))) (bL.mpr ⟨_,C _ B,rfl⟩) (bq.neT (.lst .str) (lB tT) (XF _) (ki _) λf Y=>?_)))) ?_
 ·induction f with
  |true=>exact aZ (by delta g8 cz;rw[cJ];rfl) (Y.mp rfl)
  |false=>
   refine aj.rO uD rfl (.inl rfl) rfl rfl (lT tT) rfl (fR (i7.le (m:=30) (uf (l:=(pg.filter λp=>p.1 != mk1 c).map bY) (by rw[aR];exact aD (kD _ _) G.len) ?_) (lB tT)))
   refine aj.comp rfl (λ_ _=>rfl) (dj.fx Ca rfl (bK.list (aj.name rfl rfl ⟨_,rfl,by rw[aR];exact G.len,pg,λp=>p.1 != mk1 c,bY,rfl,λp W=>b_ ?_,?_⟩)))
   ·exact xk ob ⟨rfl,λ_=>bD rfl⟩
   ·exact bq.neT (.lst (.pair .str .str)) (lB tT) (BJ _) (BJ _) λf Y=>by
     induction f with
     |true=>exact aZ rfl (Y.mp rfl)
     |false=>exact rfl
 exact .nil (f2 _ B _ (cA.sub ⟨rfl,rfl,rfl,rfl,trivial⟩))
theorem XG:∀{rows:List (List Str)},(∀r∈rows,r.length<=6)->∀k:Nat,((rows.zipIdx k).map λp=>f6 p.2 p.1).flatten.length<=6*rows.length:=by
 intro Y
 induction Y with
 |nil=>
  intro _ _
  exact bv _
 |cons r l V=>
  intro h k
  have Z:=V (λz W=>h z (bM _ W)) (k+1)
  have H:=h r bi
  have h3:(f6 k r).length=r.length:=aR ..
  simp only[FJ,d8,v_,bR,gj]
  exact abI (by assumption) (by assumption) (by assumption)
theorem V'(l:List (List Str))(r:List Str):kt (l++[r])=kt l++f6 l.length r:=by
 unfold kt
 simp only[Pw,dK,O9]
 exact aQ _ ((cR _).trans (by rw[fq]))
theorem XH(h:i<16):((i:Nat):Int).natAbs.log2<1920:=by
 by_cases q:i=0
 ·subst q;decide
 ·have:=(wM (n:=i) (by omega)).mpr (show i<2^4 by omega)
  exact cg this (by simp)
theorem XI{a7:List Str}(hi:i<16)(hp:pg.length<=90)(hr:a7.length<=6)(C:∀x∈a7,ff x=ae){k:Fl->ay->Prop}(B:∀ρ,Sub (mv X dx hl rows iR (pg++f6 i a7) aG) ρ->k .next ρ):
 aL 98 (fs 29) (("row",.dat (cz a7))::("column",.dat (.int i))::mv X dx hl rows iR pg aG:List (Str×Bd)) (MJ 1) k:=by
 refine .cons (aO.for (λ_ _=>rfl) (bK.list (aj.name rfl rfl ⟨_,rfl,by rw[aR];exact aD hr (by simp),λj aC=>aC=(("row",.dat (cz a7))::("column",.dat (.int i))::mv X dx hl rows iR (pg++f6 i (a7.take j)) aG:List (Str×Bd)),?_,?_,?_,?_⟩)))
 ·show _=(("row",.dat (cz a7))::("column",.dat (.int i))::mv X dx hl rows iR (pg++[]) aG:List (Str×Bd))
  rw[cR]
 ·rintro j _ rfl;rfl
 ·rintro j d _ hd rfl
  obtain⟨x,G,rfl⟩:=mW hd
  obtain⟨f,n2⟩:=YV hi
  refine ba λN_=>?_
  refine(md (C x (c5 G))).elim λV _=>V.elim λc1 Y=>Y.elim λ_ W=>W.elim λ_ Z=>Z.elim λc4 H=>H.elim λ_ _=>?_
  apply N_
  have h9:(pg++f6 i (a7.take j)).length<=9000:=by
   unfold f6
   simp only[bR,aR,gJ]
   exact Zk (by assumption) (by assumption)
  refine c0.name rfl (.cons (aO.Yx acH rfl rfl rfl (lT tT) rfl (λ_=>rfl) (ia (aj.name rfl rfl (ia (bD ⟨XH hi,fR ⟨_,hH.le (m:=70) (XD (l:=pg++f6 i (a7.take j)) (x:=x) (y:=toString (i:Int)) h9 (c4▸lB tT) (aD n2 (by simp)) c1 f) (by simp),.nil ?_⟩⟩))))))
  refine AO (("row",.dat (cz a7))::("column",.dat (.int i))::mv X dx hl rows iR (pg++f6 i (a7.take (j+1))) aG:List (Str×Bd)) (cA.sub ⟨rfl,rfl,?_,rfl,rfl,rfl,trivial⟩) rfl
  rw[show f6 i (a7.take (j+1))=f6 i (a7.take j)++[(x,(toString (i:Int):Str))] by unfold f6;simp only[ue G,dK];rfl,<-c6];rfl
 ·rintro _ rfl
  rw[aR,j0]
  exact .nil (B _ (cA.sub ⟨rfl,rfl,rfl,rfl,trivial⟩))
theorem Uo{Inv:Nat->List (Str×Str)->Str->Prop}(H:rows.length=16)(hr:∀r∈rows,r.length<=6/\∀x∈r,ff x=ae)(B:iR.length<=6)
 (f:Inv 0 (kt rows) "")(W:∀i pg aG ys,Inv i pg aG->i<iR.length->ys.Nodup->sortedS ys=ae->(∀x,x∈ys<->∃p∈f7 pg,p.2=x)->mm pg ys≠[]/\∀l∈mm pg ys,Inv (i+1) (pg.filter λp=>p.1 != l) (l++aG))
 (V:∀i pg aG,Inv i pg aG->ve pg aG)
 (G:∀pg aG,Inv iR.length pg aG->pg=[]/\k (.str aG)):bJ 100 296 [.lst (rows.map cz),.lst (iR.map D.int)] k:=by
 refine bJ.vr aay rfl (.cons (aO.rA (aI:=["page","order"]) (.cons (.cons .nil)) rfl rfl rfl (lB tT) (λ_=>rfl) (λab _ jV=>xv jV rfl) (HW (cK.Li rfl (by simp) λX dx hl=>HW (cK.dat (aj.str (UC ?_)))))))
 refine aL.sub (ρ:=mv X dx hl rows iR [] "") (.cons (aO.for (λ_ _=>rfl) (bK.call (q9 rfl) rfl (ee (dF 40) (fO.CO (by rw[aR,H];decide) ⟨λi aC=>aC=mv X dx hl rows iR (kt (rows.take i)) "",rfl,?_,?_,?_⟩))))) (cA.sub ⟨rfl,rfl,rfl,rfl,trivial⟩)
 ·rintro i _ rfl;rfl
 ·rintro i d _ hd rfl
  obtain⟨u,Z,rfl⟩:=ub hd
  obtain⟨a7,Y,rfl⟩:∃a7,rows[i]?=aa a7/\u=cz a7:=by
   rw[ci] at Z
   induction q:rows[i]? with
   |none=>replace Z:=q▸Z;exact ns Z
   |some x=>rw[q] at Z;exact⟨x,rfl,(aW Z).symm⟩
  have hi:=(ez.mp Y).1
  have hm:=hr a7 (c5 Y)
  have e:kt (rows.take (i+1))=kt (rows.take i)++f6 i a7:=by
   simp only[ue Y,V',gJ,iN (bd hi)]
  refine c0.tup rfl rfl (jG (.name rfl (jG (.name rfl (pI (XI (cg hi (bn H)) (aD (XG (rows:=rows.take i) (λr hr'=>(hr r (mF hr')).1) 0:(kt (rows.take i)).length<=_) (by rw[gJ];exact ZA (by assumption) (by assumption))) hm.1 hm.2 λρ hs=>?_))))))
  exact⟨_,(e▸hs),rfl⟩
 rintro _ rfl
 simp only[nV,aR,j0]
 refine .cons (aO.Rv (ps:=kt rows) rfl rfl rfl rfl rfl (aD (V _ _ _ f).len (lB tT)) (i7.le (m:=30) (uf (l:=(kt rows).map bY) (by rw[aR];exact aD (V _ _ _ f).len (lB tT)) rfl) (lB tT)) (λ_=>rfl) (λ_=>rfl) (aj.tup rfl (lB tT) (ia (aj.str (ia (aj.str (fR trivial)))))) ?_)
 refine .cons (aO.for (λ_ _=>rfl) (bK.list (aj.name rfl rfl ⟨_,rfl,by rw[aR];exact bd (aV B (by simp)),λi aC=>∃pg aG,aC=mv X dx hl rows iR pg aG/\Inv i pg aG,⟨_,_,rfl,f⟩,?_,?_,?_⟩)))
 ·rintro i _ ⟨pg,aG,rfl,_⟩;rfl
 ·rintro i d _ hd ⟨pg,aG,rfl,C⟩
  obtain⟨ch,hch,rfl⟩:=ints_get hd
  have hi:=(ez.mp hch).1
  refine c0.name rfl (V9 (V i pg aG C) λys y1 y2 y3=>?_)
  refine(W i pg aG ys C hi y1 y2 y3).elim λf1 f2=>?_
  exact⟨f1,λl hl ρ hs=>⟨_,hs,_,_,rfl,f2 l hl⟩⟩
 ·rintro _ ⟨pg,aG,rfl,C⟩
  rw[aR] at C
  obtain⟨rfl,hk⟩:=G pg aG C
  refine cw 1 (aj.rO uD rfl (.inl rfl) rfl rfl (lT tT) rfl (fR (i7.le (m:=30) (uf (l:=([]:List (Str×Str)).map bY) (ck _) ?_) (lB tT))))
  exact bq.eqT (.lst .str) (lB tT) (ki []) (ki []) λcb o7=>by
   exact(o7.mpr rfl)▸hk
end
structure lF(ss:b0)(i:Nat)(pg:List (Str×Str))(aG:Str):Prop where
 nd:(chars aG).Nodup
 len:(chars aG).length=i
 sub:∀x∈chars aG,x∈ss.map (·.1)
 pg:pg=qo ss (chars aG)
 rows:∀k,k<16->js ss (cH k)=g9 ss (chars aG) k++(chars aG).filter λx=>iU (bu ss x) (cH k)
theorem n0(G:dg ss){k:Nat}:x∈g9 ss U k<->(x∈ss.map (·.1)/\At ss x (cH k))/\x∉U:=by
 refine eg.trans ?_;rw[G.n8,xj]
theorem Y4(G:dg ss)(V:x∈ss.map (·.1)):∃k,k<16/\At ss x (cH k):=
 have o:=G.ok _ (G.mem V)
 ⟨((bu ss x).x0+4).toNat,Zt o.hi o.lt,Zu o.lo,Zv o.lo o.lt⟩
theorem IG(G:dg ss)(F:DK ss ((ss.map (·.1)).filter (iE U)) z){k:Nat}(h:z∈g9 ss U k):(g9 ss U k).getLast?=aa z:=
 XB (K:=λx=>Ht ss x (cH k)) ((Kh ss (cH k)).filter _) h λy V e=>by
  have V:=(n0 G).mp V
  exact F.2 _ ((n0 G).mp h).1.2 y (eg.mpr ⟨V.1.1,xj.mpr V.2⟩) V.1.2 e
theorem Up{l:Str}(h:ff l=ae):chars (l++aG)=l::chars aG:=by
 obtain⟨c,rfl,_⟩:=pN h
 rw[T9];rfl
theorem lF.step(G:dg ss)(C:∀p∈ss,ff p.1=ae){pg:List (Str×Str)}(I:lF ss i pg aG)(hi:i<ss.length)(hy:∀x,x∈ys<->∃p∈f7 pg,p.2=x):
 mm pg ys≠[]/\∀l∈mm pg ys,lF ss (i+1) (pg.filter λp=>p.1 != l) (l++aG):=by
 obtain⟨U,hU⟩:∃U,U=chars aG:=⟨_,rfl⟩
 obtain⟨i1,i2,i3,i4,i5⟩:=I
 rw[<-hU] at i1 i2 i3 i4 i5
 subst i4
 have tl:∀{k:Nat},k<16->∀{x:Str},(g9 ss U k).getLast?=aa x->(im k,x)∈f7 (qo ss U):=λW x h=>lookup_mem ((BI W).trans h)
 constructor
 ·have e_:(ss.map (·.1)).filter (iE U)≠[]:=λe=>by
   have:=pM G.nd (l:=U) λx V=>by
    have:=vN.mp e x V
    rw[xj] at this
    exact Classical.not_not.mp this
   rw[aR] at this;exact gO _ (cg hi (aD this (bn i2)))
  refine(G.free (λx V=>(eg.mp V).1) e_).elim λz F=>?_
  have hz:=eg.mp F.1
  refine zM (a:=z) (eg.mpr ⟨?_,ef.mpr λc hc=>?_⟩)
  ·obtain⟨k,W,ha⟩:=Y4 G hz.1
   exact(hy z).mpr ⟨_,tl W (IG G F ((n0 G).mpr ⟨⟨hz.1,ha⟩,xj.mp hz.2⟩)),rfl⟩
  ·obtain⟨p,Z,rfl⟩:=bL.mp hc
   have Z:=eg.mp Z
   obtain⟨k,W,B,h2⟩:=r8.mp Z.1
   rw[h2,BI W];exact(eq_of_beq Z.2)▸((IG G ((eq_of_beq Z.2)▸F) B)▸(beq_self_eq_true _))
 ·intro l hl
  obtain⟨p,Z,rfl⟩:=(hy l).mp (eg.mp hl).1
  obtain⟨q,hq,q1,q2⟩:=Jn Z
  obtain⟨k0,hk0,B,h2⟩:=r8.mp hq
  replace B:=q2▸B
  have f:=(n0 G).mp B
  generalize p.2=l at*
  have cp:ff l=ae:=by
   obtain⟨r,hr,e⟩:=bL.mp f.1.1
   exact e▸C r hr
  have ec:chars (l++aG)=l::U:=(Up cp).trans (hU▸rfl)
  have nf:∀x,iE (l::U) x=((x != l)&&iE U x):=λx=>by
   unfold iE
   simp only[Pu,Bool.not_or];rfl
  have H:∀k,g9 ss (l::U) k=(g9 ss U k).filter λx=>x != l:=λk=>by
   unfold g9
   rw[Px]
   exact mJ λx _=>nf x
  refine⟨?_,?_,?_,?_,?_⟩
  ·rw[ec];exact gK.mpr ⟨f.2,i1⟩
  ·simp only[ec,gj,i2]
  ·rw[ec]
   intro x V
   rcases bT.mp V with rfl|V
   ·exact f.1.1
   ·exact i3 x V
  ·rw[ec]
   show (ni 0 _).filter (λp=>p.1 != l)=ni 0 _
   rw[Ui (λx=>x != l),cJ]
   congr 1
   refine lN λr _=>?_
   exact Px.trans ((mJ λx _=>nf x).symm)
  ·intro k W
   simp only[ec,H,jA,i5 k W]
   have rn:(g9 ss U k).Nodup:=G.K4.sublist v6
   by_cases c:l∈g9 ss U k
   ·have Y:(g9 ss U k).getLast?=aa l:=by
     have:=(ef.mp (eg.mp hl).2) (im k) (bL.mpr ⟨(l,im k),eg.mpr ⟨r8.mpr ⟨k,W,c,rfl⟩,beq_self_eq_true _⟩,rfl⟩)
     exact eq_of_beq ((BI W)▸this)
    rw[bo (xi.mpr ((n0 G).mp c).1.2:iU (bu ss l) (cH k)=ae)]
    obtain⟨r0,e⟩:∃r0,g9 ss U k=r0++[l]:=by
     rw[EF] at Y
     exact Y
    rw[e] at rn⊢
    have adM:∀x∈r0,(x != l)=ae:=λx V=>bne_iff_ne.mpr λe'=>by
     have:=(kG.mp rn).2.2 x V l bi
     exact this e'
    rw[tn,zE.mpr adM,jA,be (by simp),FX,cR,c6];rfl
   ·rw[be (λh=>c ((n0 G).mpr ⟨⟨f.1.1,xi.mp h⟩,f.2⟩):¬iU (bu ss l) (cH k)=ae),zE.mpr λx V=>bne_iff_ne.mpr λe=>by subst e;exact c V]
theorem lF.zero(ss:b0):lF ss 0 (kt (dn ss)) "":=by
 have e:∀r:List Str,r.filter (iE [])=r:=λr=>zE.mpr λ_ _=>rfl
 refine⟨jZ,rfl,nofun,?_,λk _=>?_⟩
 ·show _=kt ((dn ss).map λr=>r.filter (iE []))
  rw[show (λr:List Str=>r.filter (iE []))=_root_.id from funext e,RJ]
 ·show _=(js ss (cH k)).filter (iE [])++[]
  rw[e,cR]
theorem x8(G:dg ss)(hl:ss.length<=6){r:List Str}(hr:r∈dn ss):r.length<=6/\∀x∈r,x∈ss.map (·.1):=by
 obtain⟨c,_,rfl⟩:=bL.mp hr
 have h:∀x∈js ss c,x∈ss.map (·.1):=λx V=>(G.n8.mp V).1
 refine⟨?_,h⟩
 have:=pM (G.K4 (c:=c)) h
 rw[aR] at this
 exact aD this hl
theorem lF.bnd(G:dg ss)(hl:ss.length<=6)(V:∀p∈ss,ff p.1=ae){pg:List (Str×Str)}(I:lF ss i pg aG):
 ve pg aG:=by
 have ep:=I.pg
 refine⟨?_,λp Y=>?_,?_,λc=>V7,?_⟩
 ·rw[ep]
  have:=V5 (n:=0) (rows:=(dn ss).map λr=>r.filter (iE (chars aG))) λr hr=>by
   obtain⟨f,W,rfl⟩:=bL.mp hr
   exact aD (kD _ _) (x8 G hl W).1
  rw[aR,nS] at this
  exact this
 ·rw[ep] at Y
  obtain⟨k,_,W,_⟩:=r8.mp Y
  obtain⟨r,hr,e⟩:=bL.mp ((n0 G).mp W).1.1
  exact e▸V r hr
 ·have:=pM I.nd I.sub
  rw[aR] at this
  rw[<-iP];exact aD this hl
 ·have:=pM (AI pg) (l:=(dM 16).map im) λx H=>by
   obtain⟨p,Y,rfl⟩:=bL.mp H
   obtain⟨q,Z,e,_⟩:=Jn Y
   rw[ep] at Z
   obtain⟨k,C,_,B⟩:=r8.mp Z
   exact bL.mpr ⟨k,gk.mpr C,by simp only[<-e,B]⟩
  simp only[aR,aR,kF] at this
  exact this
theorem XJ[DecidableEq α]{a b:List α}(Y:a.Nodup)(W:b.Nodup)(h:∀x∈a,x∈b)(hl:b.length<=a.length):a.Perm b:=by
 refine(EC Y W).mpr λx=>⟨h x,λZ=>ba λq=>?_⟩
 have:=pM (b:=x::a) (l:=b) (gK.mpr ⟨q,Y⟩) λy V=>by
  rcases bT.mp V with rfl|V
  ·exact Z
  ·exact h y V
 exact gO _ (aV hl (tu this))
theorem lF.fin(G:dg ss){pg:List (Str×Str)}(I:lF ss ss.length pg aG):pg=[]/\fw ss aG:=by
 have pm:(chars aG).Perm (ss.map (·.1)):=XJ I.nd G.nd I.sub (by simp only[aR,I.len];exact bv _)
 have e:∀k,g9 ss (chars aG) k=[]:=λk=>NS.mpr λx W=>by
  have:=(n0 G).mp W
  exact this.2 (pm.mem_iff.mpr this.1.1)
 refine⟨NS.mpr λp V=>?_,pm,λc Z=>?_⟩
 ·rw[I.pg] at V
  obtain⟨k,_,Y,_⟩:=r8.mp V
  rw[e] at Y;exact nomatch Y
 ·obtain⟨k,H,rfl⟩:=HF.mp Z
  have:=I.rows k H
  simp only[e,z0] at this
  exact this
theorem Y5(G:dg ss)(hl:ss.length<=6)(V:∀p∈ss,ff p.1=ae){W:List Int}(Y:W.length=ss.length)(Z:∀aG,fw ss aG->k (.str aG)):bJ 100 296 [.lst ((dn ss).map cz),.lst (W.map D.int)] k:=
 Uo (Inv:=lF ss) (nS ss) (λr hr=>⟨(x8 G hl hr).1,λx H=>by
  obtain⟨p,C,e⟩:=bL.mp ((x8 G hl hr).2 x H)
  exact e▸V p C⟩) (aD (bn Y) hl) (lF.zero ss) (λi pg aG ys I hi _ _ B=>I.step G V (cg hi (bn Y)) B) (λi pg aG I=>I.bnd G hl V) λpg aG I=>by
  rw[Y] at I
  exact⟨(I.fin G).1,Z _ (I.fin G).2⟩
theorem Uq:((dM 16).all λa=>(dM 16).all λb=>(dZ (cH a)==dZ (cH b))==(a==b))=ae:=by decide+kernel
theorem Jr{a:Nat}(V:a<16)(Y:b<16):(dZ (cH a)==dZ (cH b))=(a==b):=by
 have h:=Uq
 rw[ef] at h
 have h:=h a (gk.mpr V)
 rw[ef] at h
 exact eq_of_beq (h b (gk.mpr Y))
noncomputable abbrev vz:=List (Str×Str)
noncomputable def putL(pg:vz)(p:Str×Str):vz:=pg.filter (λq=>q.1 != p.1)++[p]
noncomputable def lowP(p:Str×Str):Str×Str:=(cf p.1,p.2)
theorem V_:∀(l pg:vz),(l.foldl ln pg).map lowP=(l.map lowP).foldl putL (pg.map lowP):=by
 intro Y
 induction Y with
 |nil=>
  intro _
  exact rfl
 |cons p r V=>
  intro pg
  simp only[iw,d8,iw,V]
  congr 1
  delta ln putL
  simp only[dK,qV];rfl
theorem S0(l:vz):((l.foldl putL []).map (·.1)).Nodup/\∀p,p∈l.foldl putL []<->(l.filter λq=>q.1==p.1).getLast?=aa p:=by
 refine snocInd (P:=λl:vz=>((l.foldl putL []).map (·.1)).Nodup/\∀p,p∈l.foldl putL []<->(l.filter λq=>q.1==p.1).getLast?=aa p) ⟨jZ,λp=>⟨nofun,nofun⟩⟩ (λl a V=>?_) l
 refine lR▸?_
 show ((putL (l.foldl putL []) a).map (·.1)).Nodup/\∀p,p∈putL (l.foldl putL []) a<->_
 generalize l.foldl putL []=L at V
 unfold putL
 refine⟨?_,λp=>?_⟩
 ·rw[dK]
  refine kG.mpr ⟨V.1.sublist (v6.map _),mE _ _,λx Y y W e=>?_⟩
  obtain⟨q,Z,rfl⟩:=bL.mp Y
  exact bne_iff_ne.mp (eg.mp Z).2 (e.trans (a_.mp W:y=a.1))
 ·rw[cQ,eg,V.2,tn,jA,FX,a_]
  by_cases q:a.1=p.1
  ·rw[bo (beq_iff_eq.mpr q),qG]
   constructor
   ·rintro(⟨_,h⟩|h)
    ·exact aZ q.symm (bne_iff_ne.mp h)
    ·rw[h];rfl
   ·intro h;exact .inr (aW h).symm
  ·rw[be (λh=>q (eq_of_beq h)),cR]
   constructor
   ·rintro(⟨h,_⟩|h)
    ·exact h
    ·exact aZ (by rw[h]) q
   ·intro h;exact .inl ⟨h,bne_iff_ne.mpr λe=>q e.symm⟩
theorem XK(ss:b0)(U:List Str)(Y:∀x∈U,∀c∈dS (bu ss x),-4<=c/\c<=15):(uF ss U).map lowP=U.flatMap λx=>(dS (bu ss x)).map λc=>(dZ c,x):=by
 have V:∀(U:List Str) (n:Nat),(∀x∈U,∀c∈dS (bu ss x),-4<=c/\c<=15)->(((U.zipIdx n).map λp=>jq ss p.2 p.1).flatten).map lowP=U.flatMap λx=>(dS (bu ss x)).map λc=>(dZ c,x):=by
  intro U
  induction U with
  |nil=>intro n _;rfl
  |cons x r W=>
   intro n h
   simp only[FJ,d8,v_,dK,W (n+1) λy Z=>h y (bM _ Z),Fq]
   congr 1
   refine cJ.trans ?_
   refine lN λc H=>?_
   have:=h x bi c H
   exact aQ (·,x) (xM this.1 this.2).2.2.1
 exact V U 0 Y
theorem BK{s:c_}(h:fJ s){c:Int}(V:c∈dS s):∃k,k<16/\c=cH k:=by
 have q:=xi.mp (xd.mp V)
 have Y:=h.lo;have W:=h.hi
 unfold ls at q
 exact⟨(c+4).toNat,by exact X6 (by assumption) (by assumption),by unfold cH;exact Zw (by assumption) (by assumption)⟩
theorem Wa(s:c_):(dS s).Nodup:=by
 refine qO.mpr (zV.imp λ{a b} h e=>h ?_)
 exact Yc (by assumption)
theorem S2[DecidableEq α]{a:α}:∀{l:List α},l.Nodup->(l.filter λx=>x==a)=if a∈l then [a] else []:=by
 intro Y
 induction Y with
 |nil=>
  intro _
  exact rfl
 |cons x r V=>
  intro h
  have h:=gK.mp h
  refine jA.trans ?_
  by_cases q:x=a
  ·subst q
   refine(bo (beq_self_eq_true _)).trans ?_;rw[bo bi,V h.2,be h.1]
  ·refine(be (λe=>q (eq_of_beq e))).trans ?_;refine(V h.2).trans ?_
   by_cases m:a∈r
   ·rw[bo m,bo (bM _ m)]
   ·rw[be m,be (λe=>(bT.mp e).elim (λe=>q e.symm) m)]
theorem Sa(G:dg ss){k:Nat}(Y:k<16):∀(U:List Str),(∀x∈U,x∈ss.map (·.1))->((U.flatMap λx=>(dS (bu ss x)).map λc=>(dZ c,x)).filter λq=>q.1==dZ (cH k))=(U.filter λx=>iU (bu ss x) (cH k)).map λx=>(dZ (cH k),x):=by
 intro W
 induction W with
 |nil=>
  intro _
  exact rfl
 |cons x r V=>
  intro h
  simp only[Fq,tn,V λy Z=>h y (bM _ Z),qV,jA]
  have e:(dS (bu ss x)).filter ((λq=>q.1==dZ (cH k))∘λc=>(dZ c,x))=(dS (bu ss x)).filter λc=>c==cH k:=mJ λc H=>by
   obtain⟨j,C,rfl⟩:=BK (G.ok _ (G.mem (h x bi))) H
   show (dZ (cH j)==dZ (cH k))=(cH j==cH k)
   rw[Jr C Y,hY,beq_iff_eq,beq_iff_eq]
   unfold cH
   exact ZN _ _
  rw[e,S2 (Wa _)]
  by_cases c:cH k∈dS (bu ss x)
  ·rw[bo c,bo (xd.mp c)];rfl
  ·rw[be c,be λh=>c (xd.mpr h)];rfl
theorem Wb{p:Str×Str}:p∈oR rows<->∃(k:Nat) (r:List Str),rows[k]?=aa r/\p.1=dZ (cH k)/\r.getLast?=aa p.2:=by
 refine bL.trans ?_
 have last:∀r:List Str,∀x,(r≠[]/\r.getLastD default=x)<->r.getLast?=aa x:=λr x=>by
  induction r with
  |nil=>exact⟨λh=>aZ rfl h.1,nofun⟩
  |cons a r=>
   rw[N5,vD (mM a r)]
   exact⟨λh=>aQ aa h.2,λh=>⟨mM a r,aW h⟩⟩
 have V:∀k:Nat,(k:Int)-4=cH k:=λk=>by unfold cH;exact Kn _
 constructor
 ·rintro⟨⟨r,k⟩,h,rfl⟩
  refine⟨k,r,(vF.mp (eg.mp h).1),by rw[<-V],(last r _).mp ⟨λe=>?_,rfl⟩⟩
  subst e
  exact ft ((eg.mp h).2)
 ·rintro⟨k,r,Y,W,h3⟩
  have h3:=(last r _).mpr h3
  refine⟨(r,k),eg.mpr ⟨vF.mpr Y,?_⟩,?_⟩
  ·induction r with
   |nil=>exact aZ rfl h3.1
   |cons _ _=>rfl
  ·obtain⟨p1,p2⟩:=p
   simp only[V,h3.2,<-show p1=_ from W]
theorem XM(h:rows.length<=16):(oR rows).Nodup:=by
 refine qO.mpr ?_
 have H:(rows.zipIdx.map (·.2)).Nodup:=by
  simp only[List.zipIdx_map_snd,List.range'_eq_map_range]
  refine qO.mpr (zV.imp λ{a b} h e=>h ?_)
  exact abS (by assumption)
 have:=qO.mp H
 have W:∀p∈rows.zipIdx,p.2<16:=λp G=>by
  have:=(ez.mp (vF.mp G)).1
  exact cg this h
 have V:∀{a b:List Str×Nat},a∈rows.zipIdx->b∈rows.zipIdx->a.2≠b.2->(dZ ((a.2:Int)-4),a.1.getLastD default)≠(dZ ((b.2:Int)-4),b.1.getLastD default):=λ{a b} C B Y e=>by
  refine Y ?_
  have e:=aQ Uv e
  have Z:∀k:Nat,(k:Int)-4=cH k:=λk=>by unfold cH;exact Kn _
  have e:dZ ((a.2:Int)-4)=dZ ((b.2:Int)-4):=e
  rw[Z,Z] at e
  have:=Jr (W a C) (W b B)
  rw[e,beq_self_eq_true] at this
  exact eq_of_beq this.symm
 exact(ad0 V this).sublist v6
theorem Ur{f:α->β}{l:List α}(h:(l.map f).Nodup):l.Nodup:=(qO.mp h).imp λh e=>h (aQ f e)
theorem Wc(G:dg ss)(hl:ss.length<=6)(W:∀p∈ss,ff p.1=ae)(O:fw ss aG)(V:k (.bool ae)):bJ 80 301 [.str aG,jh ss,.lst ((dn ss).map cz)] k:=by
 have sub:∀x∈chars aG,x∈ss.map (·.1):=λx Y=>O.perm.mem_iff.mp Y
 have cp:∀x∈chars aG,ff x=ae:=λx Y=>by
  obtain⟨p,H,e⟩:=bL.mp (sub x Y)
  exact e▸W p H
 refine R_ G.nd G.ok (λx Y=>⟨sub x Y,(md (cp x Y)).1.2.2.1,((md (cp x Y)).1.2.2.2.1)▸(bv _)⟩) ?_ (nS ss) (λr hr=>(x8 G hl hr).1) ?_ V
 ·rw[<-iP,O.perm.length_eq,aR];exact hl
 ·have e:(jM ss (chars aG)).map lowP=((chars aG).flatMap λx=>(dS (bu ss x)).map λc=>(dZ c,x)).foldl putL []:=by
   unfold jM
   rw[V_,XK ss _ λx Y c C=>?_];rfl
   obtain⟨k,V,rfl⟩:=BK (G.ok _ (G.mem (sub x Y))) C
   unfold cH;exact ZO (by assumption)
  show ((jM ss (chars aG)).map lowP).Perm _
  rw[e]
  refine(S0 ((chars aG).flatMap λx=>(dS (bu ss x)).map λc=>(dZ c,x))).elim λf1 f2=>?_
  refine(EC (Ur f1) (XM (by rw[nS];decide))).mpr λp=>?_
  rw[f2,Wb]
  have Z:∀k,k<16->p.1=dZ (cH k)->(((chars aG).flatMap λx=>(dS (bu ss x)).map λc=>(dZ c,x)).filter λq=>q.1==p.1)=(js ss (cH k)).map λx=>(dZ (cH k),x):=λk V e=>by
   rw[e,Sa G V _ sub,<-O.rows _ (HF.mpr ⟨k,V,rfl⟩)];rfl
  constructor
  ·intro h
   have B:=eg.mp (qH h)
   refine ba λN_=>?_
   obtain⟨x,Y,B⟩:=zU.mp B.1
   obtain⟨c,C,H⟩:=bL.mp B
   obtain⟨k,V,rfl⟩:=BK (G.ok _ (G.mem (sub x Y))) C
   apply N_
   have e1:p.1=dZ (cH k):=by exact aQ _ H.symm
   rw[Z k V e1,qP] at h
   refine⟨k,_,Bi V,e1,?_⟩
   induction q:(js ss (cH k)).getLast? with
   |none=>rw[q] at h;exact ns h
   |some y=>rw[q] at h;rw[<-aW h]
  ·rintro⟨k,r,f,h2,h3⟩
   have V:k<16:=by have:=(ez.mp f).1;rw[nS] at this;exact this
   rw[Bi V] at f
   obtain rfl:=aW f
   simp only[Z k V h2,qP,h3]
   obtain⟨p1,p2⟩:=p
   show aa (dZ (cH k),p2)=_
   rw[<-show p1=_ from h2]
theorem S3{K V:Str->Int}:∀{l:List Str},(∀y∈l,(K x<K y<->V x<V y))->iF K x l=iF V x l:=by
 intro W
 induction W with
 |nil=>
  intro _
  exact rfl
 |cons y r Y=>
  intro h
  dsimp only[iF]
  have e:=h y bi
  by_cases q:K x<K y
  ·rw[bo q,bo (e.mp q)]
  ·rw[be q,be (λh=>q (e.mpr h)),Y λz Z=>h z (bM _ Z)]
theorem Sb{K V:Str->Int}(l:List Str):(∀x∈l,∀y∈l,(K x<K y<->V x<V y))->eX K l=eX V l:=by
 refine snocInd (P:=λl=>(∀x∈l,∀y∈l,(K x<K y<->V x<V y))->eX K l=eX V l) (λ_=>rfl) (λl a W h=>?_) l
 simp only[wZ,wZ,<-W λx Z y Y=>h x (te _ Z) y (te _ Y)]
 refine S3 λy Y=>h a (o_ _ bi) y (te _ ?_)
 exact(nW K l).2.mem_iff.mp Y
theorem K5{p q:α->Bool}:∀{T:List α},(∀z∈T,p z=ae->q z=ae)->(T.filter p).length<=(T.filter q).length:=by
 intro W
 induction W with
 |nil=>
  intro _
  exact bv _
 |cons a r V=>
  intro h
  have Y:=V λz Z=>h z (bM _ Z)
  have:=h a bi
  simp only[jA,jA]
  cases H:p a
  ·cases G:q a
   ·exact Y
   ·exact wb Y
  ·rw[this H];exact nM Y
theorem K6{p q:α->Bool}{x:α}(V:p x=aH)(Y:q x=ae):∀{T:List α},x∈T->(∀z∈T,p z=ae->q z=ae)->(T.filter p).length<(T.filter q).length
 |a::r,W,h=>by
  have hr:=λz G=>h z (bM _ G)
  have:=h a bi
  simp only[jA,jA]
  refine(bT.mp W).elim (λZ=>?_) λW=>?_
  ·subst Z;rw[V,Y];exact jY (K5 (p:=p) (q:=q) (T:=r) hr)
  ·have H:=K6 V Y W hr
   cases V:p a
   ·cases Y:q a
    ·exact H
    ·exact lU H
   ·rw[this V];exact PW H
theorem dg.cnt(G:dg ss)(c:Int):eX (K1 (gz ss) c) (eW ss c)=eX (qj ss c) (eW ss c):=by
 have ok:∀{x},x∈eW ss c->fJ (bu ss x):=λh=>G.ok _ ((tW G.nd).mp h).1
 have W:∀{x y},x∈eW ss c->y∈eW ss c->(decide (0<et (bu ss x) (bu ss y) c)=ae<->Ht ss y c<Ht ss x c):=λV Y=>by
  rw[decide_eq_true_eq];exact(Jm (ok V) (ok Y) c).1
 refine Sb _ λx V y Y=>?_
 rw[uS,uS]
 have H:∀{x y},x∈eW ss c->y∈eW ss c->Ht ss x c<=Ht ss y c->qj ss c x<=qj ss c y:=λ{x y} V Y h=>by
  have:=K5 (p:=λz=>decide (0<et (bu ss x) (bu ss z) c)) (q:=λz=>decide (0<et (bu ss y) (bu ss z) c)) (T:=eW ss c) λz Z q=>(W Y Z).mpr (by have:=(W V Z).mp q;exact lc this h)
  exact fX.mpr this
 constructor
 ·intro h
  have:=K6 (p:=λz=>decide (0<et (bu ss x) (bu ss z) c)) (q:=λz=>decide (0<et (bu ss y) (bu ss z) c)) (x:=x) (qN.mpr λq=>by have:=(W V V).mp q;exact po _ this) ((W Y V).mpr h) V λz Z q=>(W Y Z).mpr (by have:=(W V Z).mp q;exact GG this h)
  exact eN.mpr this
 ·intro h
  by_cases q:Ht ss x c<Ht ss y c
  ·exact q
  ·have:=H Y V (dW.mp q);exact aZ (by assumption) (dW.mpr (by assumption))
theorem Kj{X k p:Int}(V:0<k)(h:X*k=p-q):0<X<->q<p:=(mul_pos_iff V).symm.trans ((iff_of_eq (aQ (0<·) h)).trans ⟨PM,zP⟩)
theorem dg.fl(G:dg ss){c:Int}(Z:y∈eW ss c)(s:Int):(0<et (iW c s) (bu ss y) c<->K1 (gz ss) c y<60*s)/\(0<=et (iW c s) (bu ss y) c<->K1 (gz ss) c y<60*s+1):=by
 refine(DI (G.ok _ ((tW G.nd).mp Z).1)).elim λw V=>V.elim λk W=>?_
 have c1:c+1-c=1:=(aQ (·-c) (g4 c 1)).trans (mH 1 c)
 have H:kq (iW c s) c=s:=by
  show s*(c+1-c)+(s-s)*(c-c)=s
  simp only[Au c,GL,tM,c1,GY]
 have e:et (iW c s) (bu ss y) c=s*w-kq (bu ss y) c:=by
  show kq (iW c s) c*((bu ss y).x1-(bu ss y).x0)-kq (bu ss y) c*(c+1-c)=_
  simp only[H,W.ew,c1,GY]
 rw[e,((uS ..).trans (W.h c):K1 (gz ss) c y=kq (bu ss y) c*k)]
 have Y:(s*w-kq (bu ss y) c)*k=60*s-kq (bu ss y) c*k:=by
  rw[RH,Int.mul_assoc,W.wk,wH s]
 exact⟨Kj W.kp Y,dW.symm.trans ((not_congr (RK.symm.trans (Kj W.kp (by rw[tO,Y,Ax])))).trans (dW.trans Int.lt_add_one_iff.symm))⟩
theorem rm{a7:List Str}{a:Str}(h:seenOf a7=a)(V:a≠"-"):a7.getLast?=aa a:=by
 unfold seenOf at h
 induction q:a7.getLast? with
 |none=>exact aZ (q▸h).symm V
 |some b=>rw[q] at h;exact aQ aa h
theorem Js{c:Int}{a b:Str}(h:(js ss c).getLast?=aa a)(V:b∈js ss c):Ht ss b c<=Ht ss a c:=by
 have hs:=Kh ss c
 generalize js ss c=l at*
 rw[EF] at h
 obtain⟨r,rfl⟩:=h
 rcases cQ.mp V with V|V
 ·exact(lM.mp hs).2.2 b V a bi
 ·exact(a_.mp V)▸(pt _)
theorem dg.ds(G:dg ss){a b:Str}(C:a≠"-")(B:b≠"-")(ne:a≠b):¬[a,b,a,b].Sublist ((dn ss).map seenOf):=by
 intro h
 have e:(dn ss).map seenOf=(dM 16).map λk=>seenOf (js ss (cH k)):=by
  delta dn d7
  rw[cJ,cJ];rfl
 rw[e] at h
 obtain⟨l,hl,V⟩:=List.sublist_map_iff.mp h
 obtain⟨k1,l,rfl,e1,V⟩:=vW.mp V.symm
 obtain⟨W,l,rfl,e2,V⟩:=vW.mp V
 obtain⟨Z,l,rfl,e3,V⟩:=vW.mp V
 obtain⟨k4,l,rfl,e4,V⟩:=vW.mp V
 obtain rfl:=zD.mp V
 ·skip
  have p:=List.pairwise_lt_range.sublist hl
  simp only[fV,bT,ca,or_false] at p
  have f:=G.n8.mp (qH (rm e1 C))
  have H:=G.n8.mp (qH (rm e2 B))
  have m3:=G.n8.mp (qH (rm e3 C))
  have l12:=p.1 W (.inl rfl)
  have l23:=p.2.1 Z (.inl rfl)
  have l34:=p.2.2.1 k4 rfl
  have c12:cH k1<cH W:=Ce (by assumption)
  have Y:cH W<cH Z:=Ce (by assumption)
  have c34:cH Z<cH k4:=Ce (by assumption)
  have a2:At ss a (cH W):=⟨by have:=f.2.1;exact du (jy this c12),by have:=m3.2.2;exact du (lc Y this)⟩
  have b3:At ss b (cH Z):=⟨by have:=H.2.1;exact du (jy this Y),by have:=(G.n8.mp (qH (rm e4 B))).2.2;exact du (lc c34 this)⟩
  rcases G.two f.1 H.1 ne with t|t
  ·have:=t _ m3.2 b3;exact po _ (jy (Js (rm e3 C) (G.n8.mpr ⟨H.1,b3⟩)) this)
  ·have:=t _ a2 H.2;exact po _ (jy (Js (rm e2 B) (G.n8.mpr ⟨f.1,a2⟩)) this)
theorem jn.of(G:dg ss)(hl:ss.length<=6)(V:∀p∈ss,ff p.1=ae):jn ss:=
 ⟨G.ok,G.nd,hl,V,λc _=>G.cnt c,λc _ y W s _=>G.fl W s,λH k Z Y=>Y5 G hl V Z Y,λaG k O Y=>Wc G hl V O Y⟩
theorem S4(l:List (Int×Str)):(l.map (·.2)).Nodup->dg (eV l):=by
 refine snocInd (P:=λl=>(l.map (·.2)).Nodup->dg (eV l)) (λ_=>⟨jZ,λ_ h=>aZ h ca,λ_ h=>aZ h ca⟩) (λl a W h=>?_) l
 rw[dK] at h
 have Y:=kG.mp h
 rw[Am]
 rcases Jd (eV l) a with e|⟨Z,V,e⟩
 ·rw[e];exact W Y.1
 ·rw[e]
  exact(W Y.1).snoc (λq=>Y.2.2 _ ((tG l).2.subset q) a.2 bi rfl) (xL Z) V
theorem Y6{ns:List Int}(hl:ns.length=6):dg (eV (ns.zip (chars lets)))/\jn (eV (ns.zip (chars lets))):=by
 have V:(ns.zip (chars lets)).map (·.2)=chars lets:=by rw[FA];rw[hl];exact bv 6
 have G:=S4 (ns.zip (chars lets)) (by rw[V];decide)
 have f:=(tG (ns.zip (chars lets))).2
 simp only[V] at f
 refine⟨G,jn.of G ?_ λp Y=>?_⟩
 ·have:=f.length_le
  rw[aR] at this
  exact this
 ·have:∀x∈chars lets,ff x=ae:=dC tT
  exact this _ (f.subset (kE (f:=(·.1)) Y))
theorem Wd{ns:List Int}(G:dg ss)(L:jn ss)(hl:ns.length=6){k:Fl->ay->Prop}(Y:∀ρ,k (.ret (.bool ae)) ρ):aL 210 (fs 33) (MH ns ss) ng k:=by
 refine Uc L hl λaG O=>?_
 have V:=IC L O
 refine .cons (T_ L O (.cons (VT L O (.cons (VU L O (.cons (Uh L O (λa b W Z H=>G.ds ?_ ?_ H) (.cons (SV L O (R6 L O ?_))))))))))
 ·rintro rfl;exact aZ W (dC tT)
 ·rintro rfl;exact aZ Z (dC tT)
 ·have fm:(yI ss aG).length=vd ss aG:=xy _ _ _
  exact Xu (wQ ss aG) (place_lt L O) rfl (by rw[fm];exact V.1) V.2.2 (Xw (O.ok L) (wQ ss aG) (by rw[fm];exact V.1) (fm▸V.2.1) (by
   exact cJ.trans (lN λa7 hr=>Xv (O.ok L) O hr)) Y)
noncomputable def bases:List Int:=[609976,697707,400283,520681,528396,409768]
theorem S5{k:Nat}:(kK l (aa (k:Int)) (aa 60) (aa 6)).length<=100:=by
 refine aD (vL _ _) ?_
 have R:∀{a b:Int},0<=a->b<=60->(rz a b 6).length<=100:=λ{a b} V Y=>by
  dsimp only[rz]
  rw[aR,kF,bo (by decide)]
  split
  ·exact Za Y V
  ·exact ck _
 exact R (zZ 0 _) (tS.mpr ⟨dC tT,Int.min_le_left _ _⟩)
theorem ints_of(h:∀d∈l,∃x,d=.int x):∃ys:List Int,l=ys.map D.int:=by
 induction l with
 |nil=>exact⟨[],rfl⟩
 |cons a r V=>
  obtain⟨x,rfl⟩:=h a bi
  obtain⟨ys,rfl⟩:=V λd hd=>h d (bM _ hd)
  exact⟨x::ys,rfl⟩
theorem Hc(dG:List Int)(k:Nat):∃ys:List Int,kK (dG.map D.int) (aa (k:Int)) (aa 60) (aa 6)=ys.map D.int:=ints_of λd hd=>by
 obtain⟨x,_,rfl⟩:=bL.mp (Hx hd)
 exact⟨x,rfl⟩
def sy(dG:List Int)(k:Nat):List Int:=PZ (Hc dG k)
theorem We(dG:List Int)(k:Nat):kK (dG.map D.int) (aa (k:Int)) (aa 60) (aa 6)=(sy dG k).map D.int:=OI (Hc dG k)
def numsOf(dG:List Int):List Int:=bases.zipIdx.map λa=>a.1+((sy dG a.2).map λi=>i%1026432).sum
theorem Sc{dG:List Int}(hs:dG.length<=63){k:Fl->ay->Prop}(V:k .next (("numbers",.dat (.lst ((numsOf dG).map D.int)))::("script",.dat (.lst (dG.map D.int)))::[]:List (Str×Bd))):aO 210 (fs 33) ([("script",.dat (.lst (dG.map D.int)))]:List (Str×Bd)) (match fb 33 with|s::_=>s|[]=>.Pass {line:=0,col:=0,endLine:=0,endCol:=0}) k:=by
 refine aO.wY rfl (λ_ _=>rfl) rfl rfl (dj.mt (α:=Int×Nat) (c1:=λa=>.int (a.2:Nat)) (c2:=λa=>.int a.1) (xD Inj.int) rfl (bK.call (q9 rfl) rfl (ee (dF 40) (fO.aam (l:=bases.map D.int) (lB tT) ⟨bases.zipIdx,λa=>.int (a.1+((sy dG a.2).map λi=>i%1026432).sum),xg _ _,λa Y=>?_,?_⟩))))
 ·refine bD (aj.comp rfl (λ_ _=>rfl) (dj.mx Inj.int rfl (bK.list (bD (bQ (by rw[aR];exact bd (aV hs (by simp))) ⟨_,rfl,aD S5 (by simp),sy dG a.2,λi=>.int (i%1026432),We _ _,λi _=>bD rfl,?_⟩)))))
  refine bk.vw (aQ (λl=>[D.lst l]) (show (sy dG a.2).map (λi=>D.int (i%1026432))=((sy dG a.2).map λi=>i%1026432).map D.int by rw[cJ];rfl)) (bk.Dj rfl)
 ·unfold numsOf at V
  exact(cJ▸V)
theorem BL(dG:List Int):(numsOf dG).length=6:=by rfl
theorem Wf{dG:List Int}(hs:dG.length<=63)(R:Rm 210 A)(Z:A.frames=aa [ab])(B:ab.frame=aa ab.locals):
 jR w A ab mu aw aE (fs 33) ([("script",.dat (.lst (dG.map D.int)))]:List (Str×Bd)) (fb 33) (λfl _=>fl=.ret (.bool ae)):=by
 refine jR.cons R (Sc hs ?_)
 intro s g aB H E
 obtain⟨G,L⟩:=Y6 (BL dG)
 refine mK (bg (R0 (ns:=numsOf dG) H (R.le (by simp)) Z B rfl rfl ⟨rfl,rfl⟩ (BL dG)) (λf aA ⟨aN,C,fl,W,V,Y,e1,e2⟩=>?_))
 subst e1 e2
 induction f<;>first|exact Y.elim|skip
 exact(Wd G L (BL dG) λρ=>rfl).run w A ab _ _ _ _ _ _ (V.weaken (cA.sub ⟨rfl,rfl,rfl,trivial⟩)) R E
theorem Wg{dG:List Int}(hs:dG.length<=63)(S:St w s g)(R:Rm 212 A)(Y:A.frames=aa [])(r:aP w g vs [.lst (dG.map D.int)])
 (hQ:∀s' g',Nx [] s g s' g'->St w s' g'->Q (.bool ae) s'):wpAny (model PG w) A (call (.ref 320) vs) Q E s:=by
 obtain⟨doc,pm,bA,ct,an,hk,W⟩:=C6.def_.at_ w
 have q:=(bB _ _).mp C6.ok
 have C:dR w s g [] (fs 33) [] [] (λ_=>[]):=dR.nil λx e=>by
  have:=ef.mp ((bB _ _).mp q.2).1 _ (eA e)
  exact ft this
 refine lY (mS (xa (Q:=Q) S R (cW.dat r) (S.df _ _ hk) rfl (CodeRec.of_K S W) C (.inl rfl) (C6.binds doc pm bA ct an s vs r.1) rfl (λc q e=>ns e) q.1 E λab aA aB V H=>?_) λr s' hr=>?_)
 ·refine bg (Wf hs ((R.le (jF _)).deeper:Rm 210 (A.deeper ab)) (EW Y) V _ _ _ (rE▸H) _) (λf s' ⟨g',aC,fl,Z,G,B,e1⟩=>?_)
  subst e1
  induction f<;>first|exact B.elim|skip
  obtain rfl:=Rep.bool_inv B
  exact hQ _ _ G.nx G.st
 ·exact nY r hr (λ_ h=>h) λ_ h=>h
theorem Wh{i:Int}(H:Well w.params h v (.int i)):∃t,v=.int i t:=Ff ((encInt PG w).is H).1
theorem aaz{V:a9}{xs:List p6}:∀{vs:List ai},BO V.params h vs xs->(∀x∈xs,∃i,x=.int i)->∃l:List Int,l.length=xs.length/\∀(w:a9) (g:aY),aP w g vs (l.map D.int):=by
 induction xs with
 |nil=>intro vs H _;cases H;exact⟨[],rfl,λ_ _=>aP.nil⟩
 |cons x xs W=>
  intro vs H Y
  obtain⟨v,vs,rfl,Z,G⟩:=P6 H
  obtain⟨i,rfl⟩:=Y _ bi
  obtain⟨l,hl,hr⟩:=W G λx C=>Y x (bM _ C)
  obtain⟨t,rfl⟩:=Wh Z
  exact⟨i::l,aQ (·+1) hl,λw g=>aP.cons (.int _ _) (hr w g)⟩
theorem Gs{R:WRecords}:∀{xs:List p6},WShape.hasItems R xs .int=ae->∀x∈xs,∃i,x=.int i
 |y::r,h,x,V=>by
  rcases bT.mp V with rfl|V
  ·exact hasW_int (s9.mp h).1
  ·exact Gs (s9.mp h).2 x V
theorem XN{args:List p6}(h:jT.claim.pre args=ae):∃xs:List p6,args=[.list xs]/\xs.length<=63/\∀x∈xs,∃i,x=.int i:=by
 refine(pre_splitW h).elim λY V=>?_
 obtain⟨d,r,rfl,h3,W⟩:=hasAllW_cons Y
 obtain rfl:=hasAllW_nil W
 obtain⟨xs,rfl,Z⟩:=hasW_list h3
 refine⟨xs,rfl,de.mp λq=>?_,Gs Z⟩
 have e:Tb jT.records jT.pre {args:=[.list xs]}=(match (aa (WData.bool (!decide ((63:Int)<xs.length))):Option p6) with
  |some (.bool aH)=>aa (.bool aH)
  |some (.bool ae)=>aa (.bool ae)
  |_=>ak):=by rfl
 unfold AZ at V
 have H:(63:Int)<(xs.length:Int):=eN.mpr q
 rw[e,eS H] at V
 exact ft V
theorem Y7{t:ag×ag×Str}(V:t∈fy)(w:a9):codeHdIn (KH w) t.1 t.2.1=ae:=by
 simp only[fy,bT,ca,or_false] at V
 rcases V with rfl|rfl|rfl|rfl<;>rfl
theorem DY{mg mb:Str->Option ai}{l:ag}(C:s.heap.Ns eF mg)(f:s.heap.Ns iO mb)(hn:s.heap.NoLimit)(V:∀x:Str,x≠"__name__"→mb x=Gx x)
 (W:∃Z ob,mg "__builtins__"=aa (.ref Z)/\Z≠iO/\s.heap.get? Z=aa ob/\ob.cls=aK "module"∧ob.dict=aa iO/\ob.data=.plain)(Y:HK.says w s.heap)(hl:s.heap.get? l=aa o)(hc:o.cls≠.none)(H:s.gens=#[]):St w s (iB (λ_=>ak) l o):=by
 refine⟨Y.1,⟨mg,C⟩,⟨mb,f,V⟩,hn,λmg' G=>?_,λt B=>⟨#[],Y.2 _ ?_,trivial,λ_ _ h=>aZ (show ak=aa _ from h) (lb _).symm⟩,λa o' e=>?_,λP hP=>?_,H⟩
 ·rw[G.eq_nsMap,<-C.eq_nsMap];exact W
 ·simp only[fy,bT,ca,or_false] at B
  rcases B with rfl|rfl|rfl|rfl<;>decide
 ·by_cases q:a=l
  ·subst q;rw[g5] at e;obtain rfl:=aW e;exact hl
  ·replace e:=(fE _ _ _ q)▸e;exact ns e
 ·have e:=Y.2 P hP
  refine fE _ _ _ λq=>?_
  subst q
  rw[hl] at e
  obtain rfl:=aW e
  exact hc rfl
theorem Wi(args:List p6):jT.claim.post args (.bool ae) args=ae:=by
 show (Sf jT.records (.bool ae) jT.returns&&AZ jT.records jT.post {args:=args,res:=aa (.bool ae),after:=args})=ae
 refine s9.mpr ⟨?_,?_⟩
 ·show Sf jT.records (.bool ae) .bool=ae
  rfl
 ·show AZ jT.records (.eq .res (.lit (.bool ae))) {args:=args,res:=aa (.bool ae),after:=args}=ae
  have e:PySem.W.same (.bool ae) (.bool ae)=ae:=by decide+kernel
  unfold AZ
  dsimp only[Tb]
  rw[e]
theorem Y8{P:bS}(H:BO P h vs []):vs=[]:=by cases H;rfl
theorem Us{P:bS}{xs:List p6}(H:Well P h v (.list xs)):∃l vs,v=.ref l/\h.get? l=aa {cls:=aK "list",data:=.seq vs.toArray}/\BO P h vs xs:=by
 cases H with
 |list hl V=>exact⟨_,_,rfl,hl,V⟩
theorem XO{V:a9}{gW:List ai}{xs:List p6}(H:BO V.params h gW [.list xs])(hi:∀x∈xs,∃i,x=.int i):∃l vs,∃dG:List Int,gW=[.ref l]/\h.get? l=aa {cls:=aK "list",data:=.seq vs.toArray}/\dG.length=xs.length/\∀(w:a9) (g:aY),aP w g vs (dG.map D.int):=by
 refine ba λZ=>?_
 obtain⟨v,G,rfl,C,B⟩:=P6 H
 obtain⟨l,vs,rfl,hl,f⟩:=Us C
 obtain⟨dG,Y,W⟩:=aaz f hi
 apply Z
 exact⟨l,vs,dG,Y8 B▸rfl,hl,Y,W⟩
theorem Ut(Y:(KH w).In h){b:ag}(W:b∈TB):isCodeTable h b:=by
 obtain⟨t,Z,rfl⟩:=bL.1 (show b∈fy.map λt=>t.2.1 from W)
 obtain⟨H,V,_,_,_,_,_,_,_,G,C,h3,B,_⟩:=codeHd_of_K Y (Y7 Z w)
 exact⟨_,H,V,G,C,h3,B⟩
theorem ael:vE.Holds:=hd λw aw aA mg mb G Y a o pm cd doc dV kV ha NK i9 hdf hm f args gW as H hlay hrd Z adJ=>by
 obtain⟨xs,rfl,hx,hi⟩:=XN H
 refine ba λN_=>?_
 obtain⟨l,vs,V,rfl,hl,C,W⟩:=XO Z hi
 obtain rfl:a=320:=tH (aW (hm.symm.trans (mg_of (K:=KH w) Y.1 G.T.g (n:=a6 "law") (v:=.ref 320) (by ac_rfl))))
 apply N_
 refine Wg (dG:=V) (aD (bn C) hx) (DY G.T.g G.T.b G.T.nolimit G.T.builtins G.T.bmain Y hl nofun f) ⟨lB tT,lB tT,rfl⟩ rfl (aP.cons (.lst l 0 vs.toArray _ (g5 _ _ _) (W w (λ_=>ak)).1 (W w _).2) aP.nil) λs' g' N S'=>?_
 refine⟨.inl ⟨.bool ae,.bool ae,[],rfl,λ_=>rfl,.bool ae,Wi _,λ_=>⟨jZ,nofun⟩⟩,⟨λb o e=>?_,λb o e=>N.there b o e nofun⟩,N.os,.of_eq S'.gens⟩
 by_cases B:b∈TB
 ·obtain rfl:=aW ((Y.2 b B).symm.trans e)
  obtain⟨ps,q,hP,_⟩:=S'.tb B
  exact .inr (.inl ⟨Ut Y.1 B,rfl,#[],ps,rfl,(Pa (xs:=ps)).symm▸hP⟩)
 ·exact .inl (N.keep b o e B nofun)
end
end Mine.Internal
theorem PySem.Challenge.cw_wb0100_01_holds : PySem.Challenge.rw_wb0100_01.Holds :=
 Mine.Internal.ael
