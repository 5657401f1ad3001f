import PyProof.Rows.All
import Wide.All
import OpenK.AllK
import Wide.FinOn
import KE.KRevIter
import KE.KLam
import KE.KNestM
import KE.KSortTup
import PySem.Challenge.RW_wb0100_01
set_option Elab.async false
set_option autoImplicit false
set_option tactic.hygienic false
set_option linter.all false
set_option maxRecDepth 100000
set_option genSizeOf false
set_option maxHeartbeats 0
namespace Mine.Internal
noncomputable section
open And renaming intro->bQ
open Array renaming getElem?_toList->ku,getElem?_eq_getElem->nq,mem_toList_iff->sY,toList_push->s9,mem_iff_getElem->zj,toList_append->zr,length_toList->zu,toList_inj->zP,getElem?_eq_some_iff->Ep,getElem?_eq_none_iff->Es,getElem?_eq_none->EA,getD_eq_getD_getElem?->NH,find?_toList->O2,ext_getElem?->O9,size_push->PT
open Bool renaming true->ae,false->aI,and_eq_true->bB,true->eO,eq_iff_iff->hO,not_eq_true'->nA,eq_false_iff->qJ,not_eq_true->qN,noConfusion->te,and_eq_true_iff->vI,or_eq_true->wm,false_or->Ab,false->G4,false_eq_true->O5,and_false->Qm
open Classical renaming byContradiction->ba,propDecidable->zf,choose_spec->Op,choose->PI
open Decidable renaming em->Q3
open False renaming elim->dw
open ForInStep renaming yield->mH
open Iff renaming rfl->Ji
open Int renaming le_trans->dh,le_of_lt->du,natCast_nonneg->dA,not_lt->dU,ofNat_lt->eJ,ofNat_le->fW,add_comm->gY,le_of_eq->i',lt_of_le_of_lt->jw,lt_of_lt_of_le->la,toNat_natCast->lQ,toNat_of_nonneg->mC,add_sub_cancel->mD,fdiv_eq_ediv_of_nonneg->no,le_of_lt_add_one->nu,add_le_add_right->nv,sub_eq_add_neg->nz,toNat_le->nJ,emod_lt_of_pos->o9,emod_nonneg->pd,lt_irrefl->ph,ne_of_gt->pj,le_refl->pn,neg_neg->pp,not_le->pu,fmod_eq_emod_of_nonneg->qp,sub_le_sub_right->qA,max_eq_right->qM,le_antisymm->qQ,lt_asymm->qZ,natAbs_neg->tn,add_zero->tF,neg_mul->tH,max_le->tL,le_add_of_nonneg_right->vz,lt_add_one_of_le->vJ,add_le_add_left->vR,natAbs_add_le->v0,min_eq_left->wf,le_natAbs->wt,mul_comm->wz,eq_ofNat_of_zero_le->zh,sub_nonneg_of_le->zl,add_lt_add_left->zq,sub_add_cancel->zy,sub_pos_of_lt->zH,lt_trichotomy->zJ,min_eq_right->zK,natCast_add->zR,le_max_left->zT,lt_or_le->Ah,sub_self->An,neg_sub->Aq,sub_neg->Ar,sub_sub->Ay,mul_le_mul_of_nonneg_left->Ek,natAbs_of_nonneg->EF,neg_le_of_neg_le->EG,lt_iff_le_and_ne->EL,add_left_cancel->EM,min_le_right->Fi,neg_fdiv_neg->Fu,max_eq_left->Fz,toNat_sub->F_,add_assoc->Ga,toNat_lt->Gj,ediv_one->Gm,lt_trans->Gu,zero_sub->Gw,mul_zero->Gz,one_mul->GH,mul_one->GL,mul_pos->GS,toNat->Hw,mul_le_mul_of_nonpos_left->NF,lt_add_of_pos_right->N1,lt_or_eq_of_le->OT,neg_le_neg_iff->OU,add_right_comm->OV,neg_pos_of_neg->OW,natAbs_eq_zero->OX,pos_of_neg_neg->O_,natAbs_sub_le->Pk,lt_of_sub_pos->Pt,natCast_pos->P0,neg_mul_neg->P4,add_le_add->Qq,ne_of_lt->QU,fmod_def->QZ,le_total->Q0,mul_add->Rp,sub_mul->Rq,mul_neg->Rr,neg_pos->Rt,le_min->RW,ofNat->SJ
open Int.ofNat renaming inj->lR
open List renaming length_map->aR,mem_singleton->a_,mem_cons_self->bi,mem_map->bL,mem_cons_of_mem->bM,length_append->bR,mem_cons->bT,not_mem_nil->ca,getElem?_map->ci,map_map->cJ,mem_append->cQ,append_nil->cR,mem_of_getElem?->c5,append_assoc->c6,getElem?_eq_getElem->dt,map_append->dJ,range->dK,map_cons->d7,all_eq_true->ee,mem_filter->ef,getElem?_eq_some_iff->ey,pairwise_cons->fU,mem_range->gi,length->gk,length_cons->gF,length_take->gG,nodup_cons->gH,replicate->gJ,range'->hV,lookup_cons->io,foldl_cons->iq,mem_reverse->iK,length_reverse->i8,lookup->i_,filter_cons->jy,take_length->jY,take_append_drop->kA,length_filter_le->kB,mem_map_of_mem->kC,length_range->kD,nodup_append->kE,getD_eq_getElem?_getD->k5,take_of_length_le->k9,length_eq_zero_iff->lI,pairwise_append->lJ,map_congr_left->lK,take_add_one->lN,foldl_append->lO,map->lX,pairwise_singleton->my,mem_of_mem_take->mB,filter_congr->mE,cons_ne_nil->mG,drop_left->mK,getElem?_toArray->nt,filterMap_cons->ny,count_append->nC,getElem?_append_right->oZ,getElem?_reverse->o0,mem_append_right->o3,getElem?_eq_none->o6,lookup_append->o7,sum_cons->pf,not_lt->pt,getElem?_eq_none_iff->qq,getElem?_append_left->qr,drop_eq_getElem_cons->qv,mem_iff_getElem?->qy,contains_iff_mem->qz,getLast?_append->qC,mem_of_getLast?->qD,mem_filterMap->qE,ext_getElem?->qF,mem_range'_1->qI,pairwise_map->qK,getLast?_map->qL,length_drop->qP,filter_map->qR,take_left->qU,foldl->rj,mem_append_left->sZ,filter_append->s4,any_eq_true->tg,drop_zero->tq,getLast?_eq_some_getLast->vr,mem_zipIdx_iff_getElem?->vu,length_filterMap_le->vD,filter_eq_nil_iff->vF,range'_append_1->vK,reverse_reverse->vL,mem_of_mem_drop->vN,map_eq_cons_iff->vP,filter_sublist->vU,flatten_cons->vZ,map_reverse->wa,cons_append->wb,forIn_cons->wi,length_nil->wl,all_cons->wu,count->wO,dropLast_concat_getLast->y_,replicate_succ->zs,getElem?_range->zv,map_eq_nil_iff->zw,filter_eq_self->zx,getElem?_drop->zA,append_of_mem->zC,filterMap_map->zD,count_eq_zero->zE,ne_nil_of_mem->zF,mem_flatMap->zM,nodup_range->zO,drop_length->zQ,nil_append->zU,lt_asymm->Ac,any_map->Al,eq_nil_of_length_eq_zero->Ej,perm_ext_iff_of_nodup->Er,append_eq_append_iff->Et,getLast?_eq_some_iff->Eu,length_erase_of_mem->Ew,length_eq_one_iff->Ex,length_take_of_le->Ey,length_pos_of_mem->Ez,drop_eq_nil_of_le->EB,cons_sublist_cons->EC,lookup_cons_self->EE,mem_erase_of_ne->EI,reverse_append->EO,getElem?_take->EV,getElem?_nil->E2,reverse_cons->E8,any_eq_false->Fa,flatMap_cons->Fd,range'_succ->Fk,map_snd_zip->Fm,perm_middle->Fo,zipIdx_cons->Fv,filter_nil->FL,drop_drop->FU,head?_map->F7,map_take->Gf,zipWith->Gr,map_nil->Gx,drop->HF,flatten_replicate_singleton->NA,eraseIdx_eq_take_drop_succ->NB,eq_nil_iff_forall_not_mem->NC,take_append_of_le_length->NE,pairwise_iff_getElem->NM,getElem?_zip_eq_some->NP,getLastD_eq_getLast?->NQ,filterMap_cons_none->NR,filterMap_cons_some->NS,drop_of_length_le->N5,pairwise_reverse->Od,length_singleton->Of,singleton_append->Og,filterMap_append->Oh,filterMap_eq_map->Oq,length_eraseIdx->Ow,getLast?_concat->Oy,le_iff_lt_or_eq->OB,length_take_le'->OF,reverse_sublist->OH,flatten_append->OQ,zip_cons_cons->O4,map_inj_right->Pa,contains_cons->Pb,zipIdx_append->Pc,filter_filter->Pd,size_toArray->Po,take_sublist->Ps,isEmpty_iff->Pz,getElem_mem->PF,getLast_mem->PK,mem_zipIdx'->PM,range_succ->PU,length_zip->P2,idxOf_cons->P5,drop_take->Qh,filterMap->Qo,le_trans->QE,drop_nil->QG,toArray->QV,map_id->Rs,getD->SM,take->SO
open List.Pairwise renaming nil->jX,imp_of_mem->adE
open List.Perm renaming refl->qT,cons->zZ,swap->Qg
open List.Sublist renaming refl->Ph,map->adU
open List.cons renaming inj->j4
open Nat renaming le_trans->aD,lt_of_le_of_lt->aV,le_of_lt->bd,le_of_eq->bn,le_refl->bv,lt_of_lt_of_le->cg,zero_le->ck,le_add_right->cy,not_lt->de,succ_pos->eA,ne_of_lt->eB,lt_trans->eK,add_assoc->eS,add_le_add_left->fh,zero_add->fA,add_le_add->fV,add_le_add_right->gB,lt_irrefl->gK,add_comm->gL,lt_succ_self->gW,min_eq_left->iL,le_add_left->jz,ne_of_gt->jB,le_succ->jD,lt_succ_of_le->jW,mul_comm->kF,not_le->kH,add_sub_cancel_left->k6,le_antisymm->lc,add_sub_of_le->lL,lt_succ_of_lt->lP,mul_le_mul_left->nw,succ_le_succ->nF,le_of_lt_succ->o_,min_le_right->pb,one_mul->po,exists_eq_add_of_le->qx,mul_le_mul_right->qB,le_of_succ_le->qG,succ_le_of_lt->qH,mul_succ->qY,mul_add->q9,sub_le->ri,lt_add_of_pos_right->sW,lt_of_succ_le->s_,sub_self->tE,one_pos->tG,mod_lt->tN,div_lt_of_lt_mul->vM,add_lt_add_left->vQ,sub_add_cancel->vV,add_right_comm->vW,le_succ_of_le->v6,mod_eq_of_lt->v8,div_eq_of_lt->v9,succ_ne_zero->v_,min_le_left->we,two_pow_pos->wo,lt_asymm->wx,two_pos->wA,log2_lt->wE,pow_le_pow_right->zn,sub_lt_sub_left->zo,add_sub_cancel->zB,not_lt_zero->zV,pow_add->Ax,le_of_add_le_add_right->Eo,le_sub_of_add_le'->ED,lt_of_lt_of_eq->EY,min_eq_right->Fg,succ_ne_self->Fj,mul_le_mul->F6,mul_assoc->Gd,succ_mul->Gi,add_zero->Gk,le_total->Gy,sub_zero->GA,add_mul->GR,sub_lt->G5,add_mul_mod_self_left->NL,lt_add_right_iff_pos->NV,exists_eq_add_of_lt->NX,lt_of_succ_lt_succ->N3,eq_zero_of_not_pos->N4,div_div_eq_div_mul->Oa,lt_add_of_pos_left->Ob,add_mul_div_left->Ot,le_sub_one_of_lt->Ou,add_lt_add_right->Ov,sub_lt_sub_right->Oz,not_succ_le_self->OC,not_succ_le_zero->OE,le_sub_of_add_le->OG,add_left_cancel->OI,lt_mul_div_succ->OO,lt_of_le_of_ne->OS,pos_of_ne_zero->OZ,sub_pos_of_lt->Pe,le_of_pred_lt->Pf,le_max_right->Py,succ_lt_succ->PE,le_of_not_lt->PL,le_max_left->PR,max_eq_left->PS,div_add_mod->PX,mul_add_div->PY,strongRecOn->PZ,lt_one_iff->Qp,mul_zero->QX,pow_zero->QY,zero_div->Q1,pow_succ->Q2,div_one->Rh,two_mul->Ri,mul_one->Rj,div_pos->Rn
open Nat.succ renaming inj->pi
open Option renaming some->aa,none->ak,none->aU,bind_eq_some_iff->kt,some_ne_none->k_,map_eq_some_iff->mz,isNone_iff_eq_none->vC,some->GQ,ite_none_right_eq_some->ND,map_eq_none_iff->N9,map_some->PV
open Option.some renaming inj->aW,injEq->E3
open Prod renaming ext->xf,fst->Ud
open Prod.mk renaming inj->wD
open PyProof renaming noPylong_small->Oc
open PyProof.Rows renaming listUpdate_at->tB,excClass_ZeroDivisionError->vB,Attribute_name->z0,Assign_Tuple->Ai,seqEpoch_at->Aw,Subscript_->AD,tail_any->Bc,get?_update_seq->FD,entry_list_sort->FE,slot_list_sort->FT,listItems_at->Go,plain_sorted->Gp,entry_sorted->Gq,kind_sorted->GN,isnot_none_gen->Qb,args_list_sort->Qk,lshift_int_small->ado,getItem_tuple->adq,floordiv_int->adw,truthy_int->adF,lshift_int->adG,rshift_int->adH,invert_int->adI,mod_int'->adL,and_int->adM,xor_int->adN,neg_int->adO,lt_int->adP,le_int->adQ,gt_int->adR,ge_int->adS
open PyProof.Rows.F renaming plain_set_update_loop->Ei,entry_set_update_loop->Nz
open PySem renaming Addr->ag,Value->ai,Expr->au,Shared->av,wpAny_bind->aJ,wpAny_pure->a8,World->a9,Scope->bf,Stmt->bw,Around->bN,Params->bS,Heap->dp,DictEntry->dy,wpAny_mono->eg,wpAny_holding->eH,wpAny_Name->eN,mainGlobals->e9,wpAny_evalAll_nil->fz,NameKind->fO,BindsTo->fP,partValue->fX,cellsFrom->gO,foldedSetIterable->im,strKind->ir,sysModules->iu,Arguments->ix,swapsWith->iy,builtinsNs->iM,Builtin->i9,SetTable->jc,builtinLookup_eq_fast->jV,wpAny_call_entry->jZ,typeLookup_type->j0,wpAny_newObj_type->lb,seqIndex?->lj,wpAny_Call_ofName->lM,wpAny_call->lU,Operator->lW,IsPair->l4,wpAny_execs_cons->mF,swappedStores->mM,attributeBase->mN,codeAny_mono->mO,typeLookup->mP,wpAny_Call_method_late->nr,wpAny_truthy_bool->nB,typeIs_str->nM,JoinOk->nZ,Model->n_,CmpOp->oa,wpAny_askSetting->pc,wpAny_setField->pe,sizeLine_eq->pr,call_meets->pv,BoolOp->pQ,wpAny_callSpecial?_slot->qw,wpAny_items_cons->qO,wpAny_Expr_any->qS,isSubtype_type->qV,interactive->rf,assignEach->rk,sliceRange->rm,storeName->rt,noteFrame->rz,FuncBody->rI,wpAny_pyIter_list->s6,codeAny_builtin->th,wpAny_of_eq->tI,codeAmong->tP,pushCells->tQ,strValues->tR,Fin->tS,ZipApart->t9,Program->ud,StrKeys->ue,Result->um,wpAny_isTrue_Compare1->vG,wpAny_setState_of->vY,wpAny_execs_nil->wg,pushCells_keeps->wh,letOwnedTupleGo->wj,wpAny_attempt->ww,isInstance->wI,typeIs_int->wJ,closureFor->wK,TriplesOk->wW,seqItems?->wX,IntMulOk->xe,UnaryOp->xw,WalksS->xH,Pairs->xZ,wpAny_assignInOrder_more->zd,wpAny_list_append_plain->zg,wpAny_Assign_Subscript->zi,wpAny_Tuple_spliced->zt,wpAny_assign_Tuple->zz,wpAny_Assign_Name->zG,slot_list_setitem->zI,theTreesLotGoes->zS,wpAny_loadPart'->zW,newFunctionEnv->zY,behindInMarks->z_,swapsWithSole->Aa,plainId_quiet->Ae,foldedForSure->Af,assign->Aj,wpAny_field->As,keywordEach->Au,sliceBounds->Av,compStart->AP,scanBound->AR,FuncData->Bb,wpAny_If->Be,SignAt->B5,wpAny_assignInOrder_none->Ev,wpAny_AugAssign_Name->EH,intBits_le_iff->EJ,wpAny_Constant_none->EN,wpAny_setField_rec->ET,wpAny_pyIter_ascii->EU,wpAny_evalAll_cons->EW,wpAny_pyIter_tuple->EX,slot_list_getitem->E4,slot_dict_getitem->E6,wpAny_assign_Name->E7,seqIndex_of->E_,wpAny_getItem_of->Fh,theWindowsPlace->FA,codeAny_of_tree->FC,wpAny_updateSeq->FG,methodCallForm->FQ,letTemporaryGo->FR,wpAny_fieldsOf->FV,wpAny_listPart->FW,firstArgMember->FX,isSubtype_stop->FY,comprehension->Gb,wpAny_onRaise->Ge,bootBuiltins->Gl,call_meetsIn->Gs,wpAny_IfExp->GI,subscripted->GJ,wpAny_Slice->GK,unsupported->GO,wpAny_throw->GP,checkCount->G6,setsByText->G8,setEntries->G9,isSubtype->Hx,clausesOf->Hy,wpAny_For->Hz,isSeqSlot->HA,pickOrder->HD,Str->HE,wpAny_getItem_list_slice->NT,wpAny_delete_Subscript->N2,wpAny_pyNext_list_item->N6,wpAny_callSpecial?_own->N8,wpAny_deleteEach_cons->Oe,wpAny_pyNext_list_end->Oi,wpAny_deleteEach_nil->Ox,codeAny_call_builtin->OA,wpAny_Constant_bool->OJ,codeAny_forLoop_any->OL,wpAny_pyIter_values->ON,wpAny_setItem_pairs->OP,wpAny_List_spliced->O0,entry_list_setitem->O6,wpAny_tupleItemsOf->O7,wpAny_Call_Name_kw->O8,wpAny_pyIter_wide->Pj,wpAny_sequenceKey->Pm,args_list_setitem->Pn,wpAny_storeSet_of->Pp,wpAny_pyIter_slot->Pq,meets_dict_values->Pr,wpAny_isInstance->Px,wpAny_eqBool_int->PA,entryFor_of_tree->PC,wpAny_eqBool_str->PD,wpAny_pyIter_zip->PJ,wpAny_seqItems->Qa,wpAny_layCells->Qf,wpAny_tryCatch->Qj,entryFor_alias->Ql,wpAny_runValue->Qn,assignInOrder->Qy,eval_ListComp->QA,methodCallPos->QD,stored->QW
open PySem.Around renaming under_plainId->vO,frames_deeper->EK
open PySem.Builtin renaming divisionGoesByPylong->Em,bitAnd->Qc,bitXor->Qd,bitNot->Qe
open PySem.Builtin.Frozenset renaming updateFrom->En,oneOther->adt,newClass->adu,isAnySet->adv,addrOf->adA,sizeOf->adB,slot0->adJ
open PySem.Builtin.Int renaming intBits->fy
open PySem.Builtin.List renaming listFitsIndex->vA,listSubscript?->zb,listTooLong->zc,listSliceParts->NI,listExtendWith->NJ,listUpdate->NY,listItems->N7,listAllItems->ady,listSameRef->adD
open PySem.Builtin.Range renaming rangeSize->NW,rangeFitsLong->adp,small->adT
open PySem.Builtin.SmallTypes renaming ownedTupleHandOut->adk,nextOf->adz
open PySem.Builtin.Str renaming occurrences->kr,strSliceIndices->vw,partsBetween->vE,tooLong->vS,strKind->vT
open PySem.Calls renaming callWith_builtin->nG,Name_function_global->zm,loadGlobal_global->E9,call_function_entry->NN
open PySem.Challenge renaming rw_wb0100_01->vt,pw_wb0100_01->El
open PySem.Code renaming compLoop->jG,builtin->Ak
open PySem.Data renaming fields->bC,fields->eM,seq->rH,dict->wV,noConfusion->zL
open PySem.Env renaming blockKind->QB
open PySem.Expr renaming Name->aS,Call->bU,Tuple->b7,Attribute->cC,Subscript->dM,Compare->iO,Constant->jF,Name->SN
open PySem.Expr.Attribute renaming elim->EQ
open PySem.Expr.BinOp renaming elim->FH
open PySem.Expr.BoolOp renaming elim->Fp
open PySem.Expr.Call renaming elim->FZ
open PySem.Expr.Compare renaming elim->Fc
open PySem.Expr.Constant renaming elim->EZ
open PySem.Expr.IfExp renaming elim->FI
open PySem.Expr.List renaming elim->tr
open PySem.Expr.Name renaming elim->mJ
open PySem.Expr.Slice renaming elim->FK
open PySem.Expr.Subscript renaming elim->ER
open PySem.Expr.Tuple renaming elim->FJ
open PySem.Expr.UnaryOp renaming elim->Fb
open PySem.F renaming called_set->o8,slot_dict_values->ze,args_dict_values_1->NK,entry_dict_values->NO,type_dict_values->NU,plain_list_iadd->NZ,plainAttrs_dict->N0,slot_str_join->Oj,slot_set_iter->Ol,plain_set_new->Om
open PySem.Flow renaming cont->SK
open PySem.FuncBody renaming stmts->gP
open PySem.Heap renaming get?_push_of_some->bZ,lt_size->cq,get?_push_size->cB,size_push->gX,SameBut->kG,get?_update_self->sX,ExtBut->wB,size_update->PB
open PySem.Heap.SameBut renaming update->gE
open PySem.Heap.UpToSlots renaming of_keeps->adK
open PySem.IsL renaming update->wM
open PySem.Keeper renaming boundFrame->jx,machine->jA,frame->jC
open PySem.NameKind renaming globalImplicit->cj,cell->lf,free->wv
open PySem.Obj renaming mapSeq->ja,data_mapFields->s0,isFreed_of_fields->vH,mapFields->Ad,putSet->G7
open PySem.Pairs renaming nil->SQ
open PySem.ScopeKind renaming function->fk
open PySem.SetTable renaming grown->qW,below->ws,laid->QF
open PySem.Shared renaming TypeIs->Gc,heap->Ro
open PySem.Sre renaming M->r9,forSearch->QC,Outcome->Rk
open PySem.Stmt renaming Assign->e_
open PySem.Stmt.Assert renaming elim->Ft
open PySem.Stmt.Assign renaming elim->Fq
open PySem.Stmt.AugAssign renaming elim->ES
open PySem.Stmt.Continue renaming elim->E0
open PySem.Stmt.Expr renaming elim->F5
open PySem.Stmt.If renaming elim->Gv
open PySem.Stmt.Return renaming elim->Fs
open PySem.Str renaming ofString->a6,length->iw,join->Bf
open PySem.StrLaws renaming At->tM,strSub_toList->On,glued_eq_join->Oo,occBody->PW,occ_eq->Qi
open PySem.Txt renaming lower->cf,find->jH,join->jI,rfind->j7,split->px,startswith->wq,endswith->wy
open PySem.Value renaming type->aK,type->cF,bool->eC,none->fB,isStrOf->gj,isInt->pq,isInt_shape->E5,noConfusion->Fe,isStrOf_shape->OM,builtin->Qw
open PySem.Value.int renaming inj->Qx
open PySem.Value.ref renaming inj->tz
open PySem.W renaming Looks->jL,callWith_of->j6,WData->pY,KasT->sr,kas_rev->xx,kas_place->AQ,kas_asc->BE,kas_ask->BF,WellAll->BG,kas_descPart->Gn,kas_tail3->HB,kas_count->HC,kas_sort->Iv,wellAll_cons_inv->PN
open PySem.W.Looks renaming of_pure->Qz,ld->Uc
open PySem.W.RowW renaming records->QT
open PySem.W.WShape renaming has->RX
open PySem.W.WTm renaming holds->AS,value->SR
open PySem.Walks renaming dictValues->PH,list->RV
open PySem.WalksT renaming enumerateD->Pl
open PySem.pickOrder renaming go->Am
open PySem PySem.Calls PySem.W PyProof.Rows
variable {x y aG bI z nm:Str} {n i c m b j tk r ep hi u c':Nat} {w:a9} {s aw s' aA aT:av} {aM p np xp ap eQ cp eY sp p' oN oO:Pos} {α β:Type} {sc aF scope ow:bf} {e iter co cX:au} {a fa dx X L:ag} {A A':bN} {ab eL:Env} {v doc pm ct bA cv dV kV:ai} {mu wr:List ag} {vs:List ai} {E Q:ai->av->Prop} {o fo:Obj} {F:Prop} {aH xs U T ys:List Str} {params:ix} {body:List bw} {bV ts:List au} {h h':dp} {af:Array ai} {es:Array (Int×ai)} {bX:Nat->List ag} {fd:Bb} {kz:List Int} {ps:List (Str×Str)} {q:Int} {jS:Str->List ag} {J It:Nat->dp->Prop} {bh:List (Str×ai)} {fR:ud} {op:lW} {an:Option ag} {rows:List (List Str)}
local macro_rules | `(tactic|ac_rfl)=>`(tactic|with_unfolding_all rfl)
theorem aQ.{u,v}{α:Sort u}{β:Sort v}{a b:α}(f:α->β)(h:a=b):f a=f b:=congrArg f h
theorem aZ{a b:Prop}(h:a)(n:¬a):b:=absurd h n
theorem be.{u}{c:Prop}{h:Decidable c}(q:¬c){α:Sort u}{t e:α}:ite c t e=e:=if_neg q
theorem bo.{u}{c:Prop}{h:Decidable c}(q:c){α:Sort u}{t e:α}:ite c t e=t:=if_pos q
theorem cZ{p:Prop}[inst:Decidable p]:decide p=ae->p:=of_decide_eq_true
theorem eP{p:Prop}[inst:Decidable p]:p->decide p=ae:=decide_eq_true
theorem eW{p:Prop}[inst:Decidable p]:¬p->decide p=aI:=decide_eq_false
theorem ic{p:Prop}[inst:Decidable p]:decide p=aI->¬p:=of_decide_eq_false
noncomputable abbrev PG:ud:=vt.row.toRowW.prog
noncomputable def tp(i:Nat):Option bw:=El.main.body[i]?
noncomputable def mt(i:Nat):Option bw:=match tp 22 with
 |some (.ClassDef _ _ _ body _ _ _ _ _ _ _)=>body[i]?
 |_=>ak
noncomputable def eZ(st:Option bw)(name bI:String)(dV kV doc pm cd:ai):Obj:=match st with
 |some (.FunctionDef _ args body _ _ _ scope _ _ _)=>{cls:=aK "function",data:=.func {name:=a6 name,qualname:=a6 bI,params:=args,body:=gP body,scope:=scope,globals:=3,closure:=[],defaults:=dV,kwdefaults:=kV,doc:=doc,pyModule:=pm,annotations:=ak,code:=cd,closureTuple:=.none,builtins:=0}}
 |_=>tabObj #[]
noncomputable abbrev S(x:String):Str:=a6 x
noncomputable abbrev Sv(x:String)(t:Nat):ai:=.str (a6 x) t
noncomputable abbrev I(i:Int)(t:Nat):ai:=.int i t
noncomputable abbrev R(a:Nat):ai:=.ref a
noncomputable abbrev N:ai:=.none
noncomputable abbrev en(P:bS)(k:String)(t:Nat)(v:ai):dy:={hash:=PyData.keyHash P (a6 k),key:=.str (a6 k) t,val:=v}
noncomputable def h3(P:bS):Obj:={cls:=(cF "dict"),dict:=ak,data:=(wV #[(en P "__name__" 165 (Sv "law_wb0100_01" 693)),(en P "__doc__" 166 N),(en P "__package__" 167 N),(en P "__loader__" 168 (Qw "__main__.__loader__#opaque")),(en P "__spec__" 169 N),(en P "__annotations__" 170 (R 6)),(en P "__builtins__" 171 (R 4)),(en P "__file__" 173 (Sv "/claim/cut.py" 172)),(en P "__cached__" 174 N),(en P "_sre" 275 (R 12)),(en P "_wall" 288 (R 38)),(en P "ELLIPSIS_MARKER" 292 (Sv "..." 291)),(en P "_ellipsis_match" 304 (R 45)),(en P "_DIV_LIMIT" 308 (I 4000 307)),(en P "_div2n1n" 325 (R 52)),(en P "_div3n2n" 339 (R 59)),(en P "_int2digits" 350 (R 66)),(en P "_digits2int" 361 (R 73)),(en P "_divmod_pos" 376 (R 80)),(en P "int_divmod" 386 (R 87)),(en P "insort_right" 401 (R 96)),(en P "bisect_right" 415 (R 105)),(en P "bisect_left" 429 (R 114)),(en P "tspecials" 465 (R 119)),(en P "_name_disallowed_re" 491 (R 124)),(en P "_value_disallowed_re" 525 (R 129)),(en P "_formatparam" 535 (R 137)),(en P "Headers" 692 (R 258)),(en P "_law_over" 705 (R 269)),(en P "_law_apart" 715 (R 276)),(en P "_law_sticks" 721 (R 281)),(en P "_law_rows" 727 (R 286)),(en P "_law_points" 733 (R 291)),(en P "_law_order" 739 (R 296)),(en P "_law_painted" 745 (R 301)),(en P "_law_takes" 753 (R 308)),(en P "_law_once" 766 (R 315)),(en P "law" 772 (R 320))] 38),slots:=#[]}
noncomputable def h44(P:bS):Obj:={cls:=(cF "code"),dict:=ak,data:=(eM #[(Sv "_ellipsis_match" 293),(Sv "_ellipsis_match" 294),(Sv "/claim/cut.py" 295),(I 7 0),(I 2 0),(I 0 0),(I 0 0),(I 3 0),(R 39),(eC eO),(I 276 0),(R 40),N,(R 41),(R 42),(R 43),(I 302 0),(I 7 0),(Sv "/claim/cut.py" 303)]),slots:=#[]}
noncomputable def h45(P:bS):Obj:=eZ (tp 4) "_ellipsis_match" "_ellipsis_match" N N N (Sv "cpy313.doctest" 289) (R 44)
noncomputable def h51(P:bS):Obj:={cls:=(cF "code"),dict:=ak,data:=(eM #[(Sv "_div2n1n" 309),(Sv "_div2n1n" 310),(Sv "/claim/cut.py" 311),(I 37 0),(I 3 0),(I 0 0),(I 0 0),(I 3 0),(R 46),(eC eO),(I 276 0),(R 47),N,(R 48),(R 49),(R 50),(I 323 0),(I 37 0),(Sv "/claim/cut.py" 324)]),slots:=#[]}
noncomputable def h52(P:bS):Obj:=eZ (tp 7) "_div2n1n" "_div2n1n" N N N (Sv "cpy313._pylong" 305) (R 51)
noncomputable def h58(P:bS):Obj:={cls:=(cF "code"),dict:=ak,data:=(eM #[(Sv "_div3n2n" 326),(Sv "_div3n2n" 327),(Sv "/claim/cut.py" 328),(I 53 0),(I 6 0),(I 0 0),(I 0 0),(I 3 0),(R 53),(eC eO),(I 276 0),(R 54),N,(R 55),(R 56),(R 57),(I 337 0),(I 53 0),(Sv "/claim/cut.py" 338)]),slots:=#[]}
noncomputable def h59(P:bS):Obj:=eZ (tp 8) "_div3n2n" "_div3n2n" N N N (Sv "cpy313._pylong" 305) (R 58)
noncomputable def h65(P:bS):Obj:={cls:=(cF "code"),dict:=ak,data:=(eM #[(Sv "_int2digits" 340),(Sv "_int2digits" 341),(Sv "/claim/cut.py" 342),(I 63 0),(I 2 0),(I 0 0),(I 0 0),(I 3 0),(R 60),(eC eO),(I 276 0),(R 61),N,(R 62),(R 63),(R 64),(I 348 0),(I 63 0),(Sv "/claim/cut.py" 349)]),slots:=#[]}
noncomputable def h66(P:bS):Obj:=eZ (tp 9) "_int2digits" "_int2digits" N N N (Sv "cpy313._pylong" 305) (R 65)
noncomputable def h72(P:bS):Obj:={cls:=(cF "code"),dict:=ak,data:=(eM #[(Sv "_digits2int" 351),(Sv "_digits2int" 352),(Sv "/claim/cut.py" 353),(I 79 0),(I 2 0),(I 0 0),(I 0 0),(I 3 0),(R 67),(eC eO),(I 276 0),(R 68),N,(R 69),(R 70),(R 71),(I 359 0),(I 79 0),(Sv "/claim/cut.py" 360)]),slots:=#[]}
noncomputable def h73(P:bS):Obj:=eZ (tp 10) "_digits2int" "_digits2int" N N N (Sv "cpy313._pylong" 305) (R 72)
noncomputable def h79(P:bS):Obj:={cls:=(cF "code"),dict:=ak,data:=(eM #[(Sv "_divmod_pos" 362),(Sv "_divmod_pos" 363),(Sv "/claim/cut.py" 364),(I 88 0),(I 2 0),(I 0 0),(I 0 0),(I 3 0),(R 74),(eC eO),(I 276 0),(R 75),N,(R 76),(R 77),(R 78),(I 374 0),(I 88 0),(Sv "/claim/cut.py" 375)]),slots:=#[]}
noncomputable def h80(P:bS):Obj:=eZ (tp 11) "_divmod_pos" "_divmod_pos" N N N (Sv "cpy313._pylong" 305) (R 79)
noncomputable def h86(P:bS):Obj:={cls:=(cF "code"),dict:=ak,data:=(eM #[(Sv "int_divmod" 377),(Sv "int_divmod" 378),(Sv "/claim/cut.py" 379),(I 99 0),(I 2 0),(I 0 0),(I 0 0),(I 3 0),(R 81),(eC eO),(I 276 0),(R 82),N,(R 83),(R 84),(R 85),(I 384 0),(I 99 0),(Sv "/claim/cut.py" 385)]),slots:=#[]}
noncomputable def h87(P:bS):Obj:=eZ (tp 12) "int_divmod" "int_divmod" N N N (Sv "cpy313._pylong" 305) (R 86)
noncomputable def h88(P:bS):Obj:={cls:=(cF "tuple"),dict:=ak,data:=(rH #[(I 0 389),N] 0),slots:=#[]}
noncomputable def h89(P:bS):Obj:={cls:=(cF "dict"),dict:=ak,data:=(wV #[(en P "key" 390 N)] 1),slots:=#[]}
noncomputable def h95(P:bS):Obj:={cls:=(cF "code"),dict:=ak,data:=(eM #[(Sv "insort_right" 391),(Sv "insort_right" 392),(Sv "/claim/cut.py" 393),(I 111 0),(I 4 0),(I 0 0),(I 1 0),(I 3 0),(R 90),(eC eO),(I 276 0),(R 91),N,(R 92),(R 93),(R 94),(I 399 0),(I 111 0),(Sv "/claim/cut.py" 400)]),slots:=#[]}
noncomputable def h96(P:bS):Obj:=eZ (tp 14) "insort_right" "insort_right" (R 88) (R 89) N (Sv "cpy313.bisect" 387) (R 95)
noncomputable def h97(P:bS):Obj:={cls:=(cF "tuple"),dict:=ak,data:=(rH #[(I 0 402),N] 0),slots:=#[]}
noncomputable def h98(P:bS):Obj:={cls:=(cF "dict"),dict:=ak,data:=(wV #[(en P "key" 403 N)] 1),slots:=#[]}
noncomputable def aaj(P:bS):Obj:={cls:=(cF "code"),dict:=ak,data:=(eM #[(Sv "bisect_right" 404),(Sv "bisect_right" 405),(Sv "/claim/cut.py" 406),(I 117 0),(I 4 0),(I 0 0),(I 1 0),(I 3 0),(R 99),(eC eO),(I 276 0),(R 100),N,(R 101),(R 102),(R 103),(I 413 0),(I 117 0),(Sv "/claim/cut.py" 414)]),slots:=#[]}
noncomputable def aak(P:bS):Obj:=eZ (tp 15) "bisect_right" "bisect_right" (R 97) (R 98) N (Sv "cpy313.bisect" 387) (R 104)
noncomputable def aal(P:bS):Obj:={cls:=(cF "tuple"),dict:=ak,data:=(rH #[(I 0 416),N] 0),slots:=#[]}
noncomputable def aam(P:bS):Obj:={cls:=(cF "dict"),dict:=ak,data:=(wV #[(en P "key" 417 N)] 1),slots:=#[]}
noncomputable def aan(P:bS):Obj:={cls:=(cF "code"),dict:=ak,data:=(eM #[(Sv "bisect_left" 418),(Sv "bisect_left" 419),(Sv "/claim/cut.py" 420),(I 137 0),(I 4 0),(I 0 0),(I 1 0),(I 3 0),(R 108),(eC eO),(I 276 0),(R 109),N,(R 110),(R 111),(R 112),(I 427 0),(I 137 0),(Sv "/claim/cut.py" 428)]),slots:=#[]}
noncomputable def aao(P:bS):Obj:=eZ (tp 16) "bisect_left" "bisect_left" (R 106) (R 107) N (Sv "cpy313.bisect" 387) (R 113)
noncomputable def aap(P:bS):Obj:={cls:=(cF "tuple"),dict:=ak,data:=(rH #[(I 14 0),(I 10 0),(I 4 0),(I 1 0),(I 1 0),(I 22 0),(I 0 0),(I 31 0),(I 16 0),(I 127 0),(I 0 0),(I 13 0),(I 7 0),(I 22 0),(I 0 0),(I 31 0),(I 16 0),(I 127 0),(I 0 0),(I 1 0)] 0),slots:=#[]}
noncomputable def aaq(P:bS):Obj:={cls:=(cF "re.Pattern"),dict:=ak,data:=(eM #[(Sv "[\\x00-\\x1F\\x7F]" 467),(I 32 490),(I 0 0),N,N,(R 123),(I 0 0)]),slots:=#[]}
noncomputable def aar(P:bS):Obj:={cls:=(cF "tuple"),dict:=ak,data:=(rH #[(I 14 0),(I 14 0),(I 4 0),(I 1 0),(I 1 0),(I 9 0),(I 4294966783 0),(I 0 0),(I 0 0),(I 2147483648 0),(I 0 0),(I 0 0),(I 0 0),(I 0 0),(I 0 0),(I 13 0),(I 11 0),(I 9 0),(I 4294966783 0),(I 0 0),(I 0 0),(I 2147483648 0),(I 0 0),(I 0 0),(I 0 0),(I 0 0),(I 0 0),(I 1 0)] 0),slots:=#[]}
noncomputable def aas(P:bS):Obj:={cls:=(cF "re.Pattern"),dict:=ak,data:=(eM #[(Sv "[\\x00-\\x08\\x0A-\\x1F\\x7F]" 493),(I 32 524),(I 0 0),N,N,(R 128),(I 0 0)]),slots:=#[]}
noncomputable def aat(P:bS):Obj:={cls:=(cF "tuple"),dict:=ak,data:=(rH #[N] 0),slots:=#[]}
noncomputable def aau(P:bS):Obj:={cls:=(cF "code"),dict:=ak,data:=(eM #[(Sv "__init__" 548),(Sv "Headers.__init__" 549),(Sv "/claim/cut.py" 550),(I 172 0),(I 2 0),(I 0 0),(I 0 0),(I 3 0),(R 146),(eC eO),(I 276 0),(R 147),N,(R 148),(R 149),(R 150),(I 555 0),(I 172 0),(Sv "/claim/cut.py" 556)]),slots:=#[]}
noncomputable def aav(P:bS):Obj:=eZ (mt 0) "__init__" "Headers.__init__" (R 145) N N (Sv "cpy313.wsgiref.headers" 430) (R 151)
noncomputable def aaw(P:bS):Obj:={cls:=(cF "code"),dict:=ak,data:=(eM #[(Sv "_convert_string_type" 558),(Sv "Headers._convert_string_type" 559),(Sv "/claim/cut.py" 560),(I 182 0),(I 2 0),(I 0 0),(I 1 0),(I 3 0),(R 153),(eC eO),(I 276 0),(R 154),N,(R 155),(R 156),(R 157),(I 565 0),(I 182 0),(Sv "/claim/cut.py" 566)]),slots:=#[]}
noncomputable def aax(P:bS):Obj:=eZ (mt 1) "_convert_string_type" "Headers._convert_string_type" N N N (Sv "cpy313.wsgiref.headers" 430) (R 158)
noncomputable def aay(P:bS):Obj:={cls:=(cF "code"),dict:=ak,data:=(eM #[(Sv "__setitem__" 575),(Sv "Headers.__setitem__" 576),(Sv "/claim/cut.py" 577),(I 193 0),(I 3 0),(I 0 0),(I 0 0),(I 3 0),(R 167),(eC eO),(I 276 0),(R 168),N,(R 169),(R 170),(R 171),(I 581 0),(I 193 0),(Sv "/claim/cut.py" 582)]),slots:=#[]}
noncomputable def aaz(P:bS):Obj:=eZ (mt 3) "__setitem__" "Headers.__setitem__" N N N (Sv "cpy313.wsgiref.headers" 430) (R 172)
noncomputable def aaA(P:bS):Obj:={cls:=(cF "code"),dict:=ak,data:=(eM #[(Sv "__delitem__" 584),(Sv "Headers.__delitem__" 585),(Sv "/claim/cut.py" 586),(I 197 0),(I 2 0),(I 0 0),(I 0 0),(I 3 0),(R 174),(eC eO),(I 276 0),(R 175),N,N,N,(R 176),(I 587 0),(I 197 0),(Sv "/claim/cut.py" 588)]),slots:=#[]}
noncomputable def aaB(P:bS):Obj:=eZ (mt 4) "__delitem__" "Headers.__delitem__" N N N (Sv "cpy313.wsgiref.headers" 430) (R 177)
noncomputable def aaC(P:bS):Obj:={cls:=(cF "code"),dict:=ak,data:=(eM #[(Sv "get_all" 606),(Sv "Headers.get_all" 607),(Sv "/claim/cut.py" 608),(I 207 0),(I 2 0),(I 0 0),(I 0 0),(I 3 0),(R 193),(eC eO),(I 276 0),(R 194),N,N,N,(R 195),(I 609 0),(I 207 0),(Sv "/claim/cut.py" 610)]),slots:=#[]}
noncomputable def aaD(P:bS):Obj:=eZ (mt 7) "get_all" "Headers.get_all" N N N (Sv "cpy313.wsgiref.headers" 430) (R 196)
noncomputable def aaE(P:bS):Obj:={cls:=(cF "code"),dict:=ak,data:=(eM #[(Sv "items" 635),(Sv "Headers.items" 636),(Sv "/claim/cut.py" 637),(I 224 0),(I 1 0),(I 0 0),(I 0 0),(I 3 0),(R 216),(eC eO),(I 276 0),(R 217),N,(R 218),(R 219),(R 220),(I 639 0),(I 224 0),(Sv "/claim/cut.py" 640)]),slots:=#[]}
noncomputable def aaF(P:bS):Obj:=eZ (mt 11) "items" "Headers.items" N N N (Sv "cpy313.wsgiref.headers" 430) (R 221)
noncomputable def aaG(P:bS):Obj:={cls:=(cF "code"),dict:=ak,data:=(eM #[(Sv "add_header" 671),(Sv "Headers.add_header" 672),(Sv "/claim/cut.py" 673),(I 239 0),(I 3 0),(I 0 0),(I 0 0),(I 11 0),(R 249),(eC eO),(I 276 0),(R 250),N,(R 251),(R 252),(R 253),(I 681 0),(I 239 0),(Sv "/claim/cut.py" 682)]),slots:=#[]}
noncomputable def aaH(P:bS):Obj:=eZ (mt 16) "add_header" "Headers.add_header" N N N (Sv "cpy313.wsgiref.headers" 430) (R 254)
noncomputable def CU(P:bS):Obj:={cls:=(cF "dict"),dict:=ak,data:=(wV #[(en P "__module__" 543 (Sv "cpy313.wsgiref.headers" 430)),(en P "__firstlineno__" 547 (I 170 546)),(en P "__init__" 557 (R 152)),(en P "_convert_string_type" 567 (R 159)),(en P "__len__" 574 (R 166)),(en P "__setitem__" 583 (R 173)),(en P "__delitem__" 589 (R 178)),(en P "__getitem__" 597 (R 185)),(en P "__contains__" 605 (R 192)),(en P "get_all" 611 (R 197)),(en P "get" 622 (R 205)),(en P "keys" 628 (R 210)),(en P "values" 634 (R 215)),(en P "items" 641 (R 222)),(en P "__repr__" 648 (R 229)),(en P "__str__" 654 (R 234)),(en P "__bytes__" 661 (R 241)),(en P "setdefault" 670 (R 248)),(en P "add_header" 683 (R 255)),(en P "__static_attributes__" 685 (R 256)),(en P "__dict__" 687 (R 259)),(en P "__weakref__" 689 (R 260)),(en P "__doc__" 690 N)] 4),slots:=#[]}
noncomputable def aaI(P:bS):Obj:={cls:=(cF "type"),dict:=ak,data:=(Data.cls {name:=(S "Headers"),bases:=[(cF "object")],mro:=[(R 258),(cF "object")],ns:=257,qualname:=(S "Headers"),hasDict:=eO,slotNames:=[],subclasses:=[],abstract:=G4,collection:=ak,hasDel:=G4}),slots:=#[ak,ak,(aa (Sv "Headers" 536)),(aa (Sv "Headers" 544)),(aa (Qw "object.__new__")),(aa (eC eO))]}
noncomputable def aaJ(P:bS):Obj:={cls:=(cF "code"),dict:=ak,data:=(eM #[(Sv "_law_over" 695),(Sv "_law_over" 696),(Sv "/claim/cut.py" 697),(I 253 0),(I 3 0),(I 0 0),(I 0 0),(I 3 0),(R 263),(eC eO),(I 276 0),(R 264),N,(R 265),(R 266),(R 267),(I 703 0),(I 253 0),(Sv "/claim/cut.py" 704)]),slots:=#[]}
noncomputable def aaK(P:bS):Obj:=eZ (tp 24) "_law_over" "_law_over" N N N (Sv "law_wb0100_01" 693) (R 268)
noncomputable def aaL(P:bS):Obj:={cls:=(cF "code"),dict:=ak,data:=(eM #[(Sv "_law_apart" 706),(Sv "_law_apart" 707),(Sv "/claim/cut.py" 708),(I 257 0),(I 2 0),(I 0 0),(I 0 0),(I 3 0),(R 270),(eC eO),(I 276 0),(R 271),N,(R 272),(R 273),(R 274),(I 713 0),(I 257 0),(Sv "/claim/cut.py" 714)]),slots:=#[]}
noncomputable def aaM(P:bS):Obj:=eZ (tp 25) "_law_apart" "_law_apart" N N N (Sv "law_wb0100_01" 693) (R 275)
noncomputable def aaN(P:bS):Obj:={cls:=(cF "code"),dict:=ak,data:=(eM #[(Sv "_law_sticks" 716),(Sv "_law_sticks" 717),(Sv "/claim/cut.py" 718),(I 260 0),(I 1 0),(I 0 0),(I 0 0),(I 3 0),(R 277),(eC eO),(I 276 0),(R 278),N,N,N,(R 279),(I 719 0),(I 260 0),(Sv "/claim/cut.py" 720)]),slots:=#[]}
noncomputable def aaO(P:bS):Obj:=eZ (tp 26) "_law_sticks" "_law_sticks" N N N (Sv "law_wb0100_01" 693) (R 280)
noncomputable def aaP(P:bS):Obj:={cls:=(cF "code"),dict:=ak,data:=(eM #[(Sv "_law_rows" 722),(Sv "_law_rows" 723),(Sv "/claim/cut.py" 724),(I 281 0),(I 2 0),(I 0 0),(I 0 0),(I 3 0),(R 282),(eC eO),(I 276 0),(R 283),N,N,N,(R 284),(I 725 0),(I 281 0),(Sv "/claim/cut.py" 726)]),slots:=#[]}
noncomputable def aaQ(P:bS):Obj:=eZ (tp 27) "_law_rows" "_law_rows" N N N (Sv "law_wb0100_01" 693) (R 285)
noncomputable def aaR(P:bS):Obj:={cls:=(cF "code"),dict:=ak,data:=(eM #[(Sv "_law_points" 728),(Sv "_law_points" 729),(Sv "/claim/cut.py" 730),(I 296 0),(I 4 0),(I 0 0),(I 0 0),(I 3 0),(R 287),(eC eO),(I 276 0),(R 288),N,N,N,(R 289),(I 731 0),(I 296 0),(Sv "/claim/cut.py" 732)]),slots:=#[]}
noncomputable def aaS(P:bS):Obj:=eZ (tp 28) "_law_points" "_law_points" N N N (Sv "law_wb0100_01" 693) (R 290)
noncomputable def aaT(P:bS):Obj:={cls:=(cF "code"),dict:=ak,data:=(eM #[(Sv "_law_order" 734),(Sv "_law_order" 735),(Sv "/claim/cut.py" 736),(I 307 0),(I 2 0),(I 0 0),(I 0 0),(I 3 0),(R 292),(eC eO),(I 276 0),(R 293),N,N,N,(R 294),(I 737 0),(I 307 0),(Sv "/claim/cut.py" 738)]),slots:=#[]}
noncomputable def aaU(P:bS):Obj:=eZ (tp 29) "_law_order" "_law_order" N N N (Sv "law_wb0100_01" 693) (R 295)
noncomputable def aaV(P:bS):Obj:={cls:=(cF "code"),dict:=ak,data:=(eM #[(Sv "_law_painted" 740),(Sv "_law_painted" 741),(Sv "/claim/cut.py" 742),(I 327 0),(I 3 0),(I 0 0),(I 0 0),(I 3 0),(R 297),(eC eO),(I 276 0),(R 298),N,N,N,(R 299),(I 743 0),(I 327 0),(Sv "/claim/cut.py" 744)]),slots:=#[]}
noncomputable def aaW(P:bS):Obj:=eZ (tp 30) "_law_painted" "_law_painted" N N N (Sv "law_wb0100_01" 693) (R 300)
noncomputable def aaX(P:bS):Obj:={cls:=(cF "code"),dict:=ak,data:=(eM #[(Sv "_law_takes" 746),(Sv "_law_takes" 747),(Sv "/claim/cut.py" 748),(I 334 0),(I 2 0),(I 0 0),(I 0 0),(I 3 0),(R 302),(eC eO),(I 276 0),(R 303),N,(R 304),(R 305),(R 306),(I 751 0),(I 334 0),(Sv "/claim/cut.py" 752)]),slots:=#[]}
noncomputable def aaY(P:bS):Obj:=eZ (tp 31) "_law_takes" "_law_takes" N N N (Sv "law_wb0100_01" 693) (R 307)
noncomputable def aaZ(P:bS):Obj:={cls:=(cF "code"),dict:=ak,data:=(eM #[(Sv "_law_once" 754),(Sv "_law_once" 755),(Sv "/claim/cut.py" 756),(I 336 0),(I 2 0),(I 0 0),(I 0 0),(I 3 0),(R 309),(eC eO),(I 276 0),(R 310),N,(R 311),(R 312),(R 313),(I 764 0),(I 336 0),(Sv "/claim/cut.py" 765)]),slots:=#[]}
noncomputable def aa0(P:bS):Obj:=eZ (tp 32) "_law_once" "_law_once" N N N (Sv "law_wb0100_01" 693) (R 314)
noncomputable def aa1(P:bS):Obj:={cls:=(cF "code"),dict:=ak,data:=(eM #[(Sv "law" 767),(Sv "law" 768),(Sv "/claim/cut.py" 769),(I 342 0),(I 1 0),(I 0 0),(I 0 0),(I 3 0),(R 316),(eC eO),(I 276 0),(R 317),N,N,N,(R 318),(I 770 0),(I 342 0),(Sv "/claim/cut.py" 771)]),slots:=#[]}
noncomputable def aa2(P:bS):Obj:=eZ (tp 33) "law" "law" N N N (Sv "law_wb0100_01" 693) (R 319)
noncomputable def DB(P:bS):Frag:=[(3,h3 P),(44,h44 P),(45,h45 P),(51,h51 P),(52,h52 P),(58,h58 P),(59,h59 P),(65,h65 P),(66,h66 P),(72,h72 P),(73,h73 P),(79,h79 P),(80,h80 P),(86,h86 P),(87,h87 P),(88,h88 P),(89,h89 P),(95,h95 P),(96,h96 P),(97,h97 P),(98,h98 P),(104,aaj P),(105,aak P),(106,aal P),(107,aam P),(113,aan P),(114,aao P),(123,aap P),(124,aaq P),(128,aar P),(129,aas P),(145,aat P),(151,aau P),(152,aav P),(158,aaw P),(159,aax P),(172,aay P),(173,aaz P),(177,aaA P),(178,aaB P),(196,aaC P),(197,aaD P),(221,aaE P),(222,aaF P),(254,aaG P),(255,aaH P),(257,CU P),(258,aaI P),(268,aaJ P),(269,aaK P),(275,aaL P),(276,aaM P),(280,aaN P),(281,aaO P),(285,aaP P),(286,aaQ P),(290,aaR P),(291,aaS P),(295,aaT P),(296,aaU P),(300,aaV P),(301,aaW P),(307,aaX P),(308,aaY P),(314,aaZ P),(315,aa0 P),(319,aa1 P),(320,aa2 P)]
noncomputable def KA:List ag:=[3,44,45,51,52,58,59,65,66,72,73,79,80,86,87,88,89,95,96,97,98,104,105,106,107,113,114,123,124,128,129,145,151,152,158,159,172,173,177,178,196,197,221,222,254,255,257,258,268,269,275,276,280,281,285,286,290,291,295,296,300,301,307,308,314,315,319,320]
theorem YM(P:bS):KA=(DB P).map (·.1):=by rfl
noncomputable def V:ud:=view El [0,1,3,4,6,7,8,9,10,11,12,18,19,20,22,24,25,26,27,28,29,30,31,32,33]
noncomputable def LN:List Str:=[a6 "insort_right",a6 "bisect_right",a6 "bisect_left",a6 "tspecials",
 a6 "_name_disallowed_re",a6 "_value_disallowed_re",a6 "_formatparam"]
noncomputable def HK:Hook:=kmHook DB KA YM [288,283,68,61]
abbrev jR:=vt.row.toRowW
theorem YN:LeftO PG V LN (λs=>xlAt V [] s&&recOk (QT jR) s) HK.obs HK.val 3578:=λw=>by kernel_rfl
noncomputable def MD:DefRec×List (Str×au):=(defOf V (a6 "law")).getD (⟨a6 "law",⟨[],[],ak,[],[],ak,[]⟩,[],El.main.scope,⟨0,0,0,0⟩⟩,[])
theorem SS:vt.wellSaid=ae:=by kernel_rfl
theorem SU:jR.promised:=by w_witness2
theorem hd(Z:WalkO V LN (XL V []) HK.says jR MD.1 MD.2 λf vs=>PySem.call f vs):vt.Holds:=
 holds_law SS λY=>holds_open (q:=V) (loose:=LN) (Xt:=λs=>xlAt V [] s&&recOk (QT jR) s) (XP:=XL V []) (Yf:=HK.obs) (Ya:=HK.val) (YP:=HK.says) (N:=3578) YN HK.of HK.keeps
  (λs e=>xl_of s (vI.mp e).1) XL.keeps (by kernel_rfl) (by kernel_rfl) (by kernel_rfl) (λs e=>recFacts_of (vI.mp e).2) (by rfl) Y (by decide+kernel) ⟨rfl,rfl,rfl,rfl,rfl,by decide+kernel⟩ SU Z
def dP{c:Prop}[Decidable c](f:c->Prop)(F:Prop):Prop:=if h:c then f h else F
theorem gQ{c:Prop}[i:Decidable c]{f:c->Prop}{F R:Prop}(h:dP f F)(V:∀q,f q->R)(Y:F->R):R:=by
 induction i with
 |isTrue q=>exact V q h
 |isFalse q=>exact Y h
noncomputable def dO{c:Prop}[Decidable c]{α:Type}(f:c->Option α):Option α:=if h:c then f h else ak
theorem pZ{c:Prop}[i:Decidable c]{α:Type}{f:c->Option α}{a:α}{R:Prop}(h:dO f=aa a)(V:∀q,f q=aa a->R):R:=by
 induction i with
 |isTrue q=>exact V q h
 |isFalse q=>exact aZ h (k_ _).symm
theorem cT{c:Bool}{P:Prop}(e:c=ae)(h:cond c P True):P:=by subst e;exact h
theorem fm{p:α->Prop}{a:α}{l:List α}(h:p a)(q:∀x∈l,p x):∀x∈a::l,p x:=λ_ m=>(bT.1 m).elim (λe=>e▸h) (q _)
theorem fS{p:α->Prop}:∀x∈([]:List α),p x:=λ_ h=>aZ h ca
theorem tf{P:Prop}(h:ae=aI):P:=nomatch h
theorem ft{P:Prop}(h:aI=ae):P:=nomatch h
theorem ns{a:α}{P:Prop}(h:ak=aa a):P:=nomatch h
theorem sn{a:α}{P:Prop}(h:aa a=ak):P:=nomatch h
theorem sf{a:Array ai}{vs:Array ai}:rH a n≠bC vs:=nofun
theorem sG{p:α->Prop}{a:α}(h:p a):∀x∈[a],p x:=λ_ m=>a_.1 m▸h
theorem Xv{f:α->β}{l:List α}{x y:α}:(l.map f).Nodup->x∈l->y∈l->f x=f y->x=y:=by
 induction l with
 |nil=>exact λ_ h=>aZ h ca
 |cons a r H=>exact λh G Y e=>
  have q:=gH.1 h
  have W:∀z∈r,f z≠f a:=λz m C=>q.1 (C▸kC m)
  (bT.1 G).elim (λZ=>(bT.1 Y).elim (λV=>Z.trans V.symm) λm=>aZ (e.symm.trans (aQ f Z)) (W y m)) λm=>(bT.1 Y).elim (λV=>aZ (e.trans (aQ f V)) (W x m)) λB=>H q.2 m B e
@[elab_as_elim] theorem tT {P:List α->Prop}{l:List α}(h:l.length=0)(f:P []):P l:=(Ej h).symm▸f
@[elab_as_elim] theorem j8 {P:List α->Prop}{l:List α}(h:l.length=n+1)(f:∀a r,r.length=n->P (a::r)):P l:=by
 cases l with
 |nil=>exact nomatch h
 |cons a r=>exact f a r (pi h)
theorem J9{l:List α}(h:l.length=2):∃a b,l=[a,b]:=j8 h λa r h=>j8 h λb r h=>tT h ⟨a,b,rfl⟩
theorem Xw{k:Nat}(h:n<k):k-n=k-(n+1)+1:=(vV (Pe h)).symm
theorem B6(j:Nat):(max 0 (j:Int)).toNat=j:=aQ Hw (qM (dA j))
theorem V2(h:j<=n):min (max 0 (j:Int)).toNat n=j:=(aQ (min · n) (B6 j)).trans (iL h)
theorem J'(n:Nat):(-1+(n:Int)).toNat=n-1:=(aQ Hw (gY _ _)).trans (F_ n 1)
theorem Xx{a h:Nat}(q:a+h<=n):min a n+h+(n-(a+h))=n:=by
 rw[iL (aD (cy a h) q),lL q]
theorem V3{a h:Nat}(q:a+(h+r)<=n):min a n+h=a+h:=aQ (·+h) (iL (aD (cy a _) q))
theorem J_{k:Nat}(h:n-i=k+1):n-(i+1)=k:=by rw[<-Nat.sub_sub,h];rfl
theorem Xy(h:b<=1):(b+2*m)/1%2=b:=by rw[Rh,NL,v8 (jW h)]
theorem Xz(h:b<=1):(b+2*m)/2=m:=by rw[Ot _ _ wA,v9 (jW h),fA]
theorem aa3{a b c:Int}(V:a<=c)(Y:c<=b):(c-a).toNat<(b-a+1).toNat:=by
 have W:=zl V
 have h3:=qA Y a
 exact(Int.toNat_lt_toNat (jw (dh W h3) (vJ (pn _)))).mpr (vJ h3)
theorem XA{a c:Int}(V:a<=c):a+((c-a).toNat:Int)=c:=by rw[mC (zl V),gY,zy]
theorem x3{a b:Int}(h:i<(b-a+1).toNat):a<=a+i/\a+i<=b:=by
 refine⟨vz (dA i),?_⟩
 have V:(i:Int)<b-a+1:=Int.lt_toNat.mp h
 exact gY i a▸Int.add_le_of_le_sub_right (nu V)
theorem XB{a b:Int}(l:-4<=a)(r:b<=11)(h:i<(b-a+1).toNat):-4<=a+i/\a+i<=11:=⟨dh l (x3 h).1,dh (x3 h).2 r⟩
theorem YO{a:Nat}(h:j+n<=a-0):j<=a:=aD (cy j n) h
theorem aa4{s e:Nat}(h:s<=e)(q:j+n<=e-s):s+j+n<=e:=(eS s j n).symm▸aD (fh q s) (bn (lL h))
theorem LD(V:0<n)(h:b+n-1<m+n):b<=m:=Eo (Pf h)
theorem aa5{c:Int}(h:-4<=c):((c+4).toNat:Int)-4=c:=by rw[mC (Int.le_add_of_sub_right_le h),mD]
theorem a_neg{a:Int}(h:a.natAbs<n):(-a).natAbs<n:=(tn a).symm▸h
theorem aa6(h:i<6)(q:n<=5):i*5+min j n<=9000:=aD (fV (qB 5 (bd h)) (aD (pb j n) q)) (by decide)
theorem aa7(q:n<=5):i*5+n<=(i+1)*5:=Gi i 5▸fh q _
theorem Jj(h:u+12*(n+1)<=9000):u+1+12*n<=9000:=aD (by rw[q9,eS,gL 1];exact fh (fh (by decide) _) u) h
theorem BH{a:Nat}(h:n<=m+b)(q:m<=a+1):n<=a+(b+1):=aD h (aD (gB q b) (bn (by rw[eS,gL 1])))
theorem aa8{k:Nat}(h:n<=0+min i m)(q:m<=k):n<=k:=aD h (aD (bn (fA _)) (aD (pb i m) q))
theorem aa9(h:n<=0+min i m):n<=i:=aD h (aD (bn (fA _)) (we i m))
theorem aba(h:n-i=0)(q:i<=n):i=n:=lc q (Nat.le_of_sub_eq_zero h)
theorem XC(a j d:Nat):a+(a+(j+d))=a+d+(a+j):=(eS a a (j+d)).symm.trans ((aQ (a+a+·) (gL j d)).trans (Nat.add_add_add_comm a a d j))
theorem LF{i:Int}(h:0<=i/\i<n):i.toNat<n:=(Gj h.1).mpr h.2
theorem abb:(16-(n:Int)).toNat=16-n:=F_ 16 n
theorem a_pos{i:Int}(h:i<n)(q:0<=i):i.toNat<n:=(Gj q).mpr h
theorem abc{a b:Int}(h:b-a<=4):(b-a+1).toNat<=5:=nJ.mpr (nv h 1)
theorem abd(h:n=6)(q:m<=6):min m n=m:=iL (aD q (bn h.symm))
theorem abe(h:j<=m)(q:n=m):min j n=j:=iL (aD h (bn q.symm))
theorem LG{a s:Nat}(h:a+b<=s)(q:n=a)(r:m=b):n+m<=s:=q▸r▸h
theorem abf{a p:Nat}(h:a+p=b+p+c)(q:a<=b):c=0:=Nat.eq_zero_of_le_zero (Nat.le_of_add_le_add_left (a:=b+p) (h▸gB q p))
theorem LH(h:m<=n):m+(n-m)=n:=lL h
theorem LI(h:n<m):n<=m-1:=Ou h
theorem abg{k:Nat}(h:n<=m+k+3+c)(q:k<=b):n<=m+(c+1*(b+3)):=aD h (by rw[po,gL c,eS,eS,eS b];exact fh (gB q _) m)
theorem abh{p:Nat}(h:n<=c)(q:p<=b):p+3+n<=c+1*(b+3):=by rw[po,gL c];exact fV (gB q 3) h
theorem abi{a b c:Int}:b+(a+(c-b))=c+a:=by rw[Int.add_left_comm,gY b,zy,gY]
theorem YQ{p:Int}(V:p<=60)(Y:0<=q):((p-q+6-1)/6).toNat<=100:=nJ.mpr (dh (Int.ediv_le_ediv (by decide) (qA (nv (Int.sub_le_sub V Y) 6) 1)) (by decide))
theorem YR{e s x:Nat}(h:n<=10000)(q:e<=n)(_:s<=e)(r:j+x<=e-s):x<2^63:=aV (aD (jz x j) (aD r (aD (ri e s) (aD q h)))) (by decide)
theorem LJ(h:n<2^63):¬(n:Int)>=2^63:=pu.mpr (eJ.mpr h)
theorem YS(h:n<2^63):(n:Int)<2^63:=eJ.mpr h
theorem YT(h:n<2^63)(q:m=n):(m:Int)<2^63:=q▸eJ.mpr h
theorem YU(h:n<=10000):(n:Int)<2^63:=eJ.mpr (aV h (by decide))
theorem YV(h:n<=100000):(n:Int)<2^63:=eJ.mpr (aV h (by decide))
theorem YW(h:n<=100000)(q:m<n):(m:Int)<2^63:=YV (aD (bd q) h)
theorem YX(h:n<=10000)(q:m=n):(m:Int)<2^63:=q▸YU h
theorem YY(h:(1:Int)<n):1<n:=eJ.mp h
theorem Iw:(max 0 (n:Int)).toNat=n:=aQ Hw (qM (dA n))
theorem abj(h:n<2^63):min (2^63-1:Int).toNat n=n:=Fg (o_ h)
theorem XD{a N:Nat}(h:a<=19)(q:1<=N):a+N-1<=N*19+N:=aD (ri _ 1) (gB (aD h (aD (by decide) (qB 19 q))) N)
theorem YZ(h:n*j+n<=b+n-1)(q:0<n)(r:b<=n*j):False:=gK _ (aV h (cg (G5 (cg q (jz n b)) tG) (gB r n)))
theorem XE{a l f:Nat}(h:a<=l+f+100*r)(q:f<=100):a<=l+100*(r+1):=aD h (by rw[qY,eS,gL f];exact fh (fh q _) l)
theorem KQ(h:i<n):n-(i+1)<n-i:=zo h (gW i)
theorem Y0{p:Nat}(h:p<=90)(q:r<=6):p+min j r<=9000:=aD (fV h (aD (pb j r) q)) (by decide)
theorem Y1{L V:Nat}(h:1<=V):((L:Int)+1=((L+V:Nat):Int)->V=1)/\((L:Int)+1≠((L+V:Nat):Int)->2<=V):=⟨λe=>(OI (lR e)).symm,λn=>OS h λe=>n (e▸rfl)⟩
theorem Y4(h:u+12*n<=9000)(q:m<=n):u+12*m<=9000:=aD (fh (nw 12 q) u) h
theorem abk(h:u+12*(n+1)<=9000):u+3+12*n<=9000:=aD (aD (bn (vW u 3 _)) (fh (by decide:3<=12) _)) h
theorem LK(h:u+(n+1)<=900):u+1+n<=900:=vW u 1 n▸h
theorem abl(h:u+n<=900)(q:m<=n):u+m<=900:=aD (fh q u) h
theorem Y5(h:u+n<=900)(q:70<=n):u<=840:=aD (Eo (aD (fh q u) h:u+70<=830+70)) (by decide)
theorem Y6(h:u+12*n<=9000)(q:70<=n):u<=8278:=aD (Eo (aD (fh (nw 12 q) u) h:u+840<=8160+840)) (by decide)
theorem CV{f s:Nat}(h:s<=r*6)(q:f<=6):f+s<=(r+1)*6:=Gi r 6▸gL s f▸fV h q
theorem Y7{f s:Nat}(h:s<=r*6)(q:c<=6)(p:f<=c):f+s<=(r+1)*6:=CV h (aD p q)
theorem Y8{f s:Nat}(h:s<=r*6)(q:c<=6)(p:f=c):f+s<=(r+1)*6:=CV h (p▸q)
theorem abm{f s:Nat}(h:s<=6*r)(q:c<=6)(p:f=c):f+s<=6*(r+1):=kF 6 (r+1)▸CV (kF 6 r▸h) (p▸q)
theorem abn{a:Nat}(h:a<=n*6)(q:n<=6):a<=10000:=aD h (aD (qB 6 q) (by decide))
theorem abo(h:m<=n)(q:n<=6):m*(1+3)<=9000:=aD (qB 4 (aD h q)) (by decide)
theorem Y9{a b:Int}(h:a<b\/a=b/\i<j)(q:b<a\/b=a/\j<i):False:=
 h.elim (λx=>q.elim (λy=>qZ x y) λy=>QU x y.1.symm) λx=>q.elim (λy=>QU y x.1.symm) λy=>wx x.2 y.2
theorem Y'{a b:Int}:(¬b<a/\(a<b\/i<j)<->a<b\/a=b/\i<j):=
 ⟨λh=>(Ah a b).elim .inl λx=>.inr ⟨qQ (dU.mp h.1) x,h.2.resolve_left (dU.mpr x)⟩,λh=>h.elim (λx=>⟨dU.mpr (du x),.inl x⟩) λx=>⟨dU.mpr (i' x.1),.inr x.2⟩⟩
theorem XF{a b:Int}(h:¬a<b)(q:i<j):b<a\/b=a/\i<j:=(OT (dU.mp h)).elim .inl λe=>.inr ⟨e,q⟩
theorem Y_{a b:Int}(h:b<=11)(q:a<b):(a+4).toNat<16:=jW (nJ.mpr (nv (du (la q h)) 4))
theorem XG{c x y:Int}(h:x<=c/\c<=y)(q:y<=11):(c+4).toNat<16:=jW (nJ.mpr (nv (dh h.2 q) 4))
theorem CW{c:Int}(h:-4<=c):c=-4+((c+4).toNat:Int):=by rw[mC (nv h 4),gY c,Int.neg_add_cancel_left]
theorem Za{c:Int}(h:-4<=c):c≤-4+((c+4).toNat:Int):=i' (CW h)
theorem Zb{c x:Int}(h:-4<=c)(q:c<x):-4+((c+4).toNat:Int)<=x:=CW h▸du q
theorem Zc{c x y:Int}(h:x<=c/\c<=y)(q:-4<=x):c=-4+((c+4).toNat:Int):=CW (dh q h.1)
theorem Zd{c:Int}(h:c<=15):(c+4).toNat<20:=jW (nJ.mpr (nv h 4))
theorem Ze{c:Int}(h:-(n:Int)<=c)(q:c<=n):c.natAbs<=n:=c.natAbs_eq.elim (λe=>fW.mp (e▸q)) λe=>fW.mp (OU.mp (e▸h))
theorem XH{c:Int}(h:-4<=c/\c<=11):c.natAbs<2^4:=aV (Ze (n:=11) (dh (by decide) h.1) h.2) (by decide)
theorem Zf(h:n<60):¬300<n/30+1:=de.mpr (nF (aD (Nat.div_le_div_right (bd h)) (by decide)))
theorem Zg(h:n=16)(q:i<n):6*min i n<=90:=aD (nw 6 (aD (we i n) (o_ (h▸q)))) (by decide)
theorem abp{f:Nat}(h:f<=0+n)(q:n<60):f<60:=aV (fA n▸h) q
theorem Zh{x p:Nat}(h:p+m=x):(x:Int)+(p:Nat)-2*((p:Nat):Int)=(m:Nat):=by rw[<-h,Int.two_mul,zR,OV,gY _ (m:Int),mD]
theorem b_g{f:Nat}(h:f<=16):1*(16-f)<=2^24:=aD (bn (po _)) (aD (ri 16 f) (by decide))
theorem XI(h:b+c=n):b+(c+1)=n+1:=aQ (·+1) h
theorem abq{f:Nat}(h:f<=i)(q:i<n)(r:n<=500):f<=1000:=aD h (aD (bd q) (aD r (by decide)))
theorem Zi{k:Nat}(h:n-i=k+1):i<n:=Nat.lt_of_sub_pos (h▸eA k)
theorem Zj{x y:Nat}(h:0+y<=x):x<=y+(x-y):=bn (lL (fA y▸h)).symm
theorem abr{a:Int}(h:a.natAbs<n):-a-1<n:=jw (Int.sub_le_self _ (by decide)) (jw (tn a▸wt) (eJ.mpr h))
theorem CX{a:Int}(h:a.natAbs<n):a<n:=jw wt (eJ.mpr h)
theorem Zk{a:Int}(h:a.natAbs<n):-a<n:=CX ((tn a).symm▸h)
theorem Zl{a:Int}(h:¬0<=a):0≤-a-1:=zl (Int.add_one_le_of_lt (OW (pu.mp h)))
theorem CY{a:Int}(h:¬0<=a):0< -a:=OW (pu.mp h)
theorem abt{a:Int}(h:a≠0)(q:0<=a):0<a:=(OT q).resolve_right h.symm
theorem abu{i:Int}(h:0<=i)(q:i.toNat<n):i<n:=mC h▸eJ.mpr q
theorem Zm{i:Int}(h:0<=i):-2^63<=i:=dh (by decide) h
theorem Zn{i j:Int}(h:j>i):max i j=j:=qM (du h)
theorem Zo{i j:Int}(h:¬j>i):max i j=i:=Fz (dU.mp h)
theorem Zp{i j:Int}(h:j<i):min i j=j:=zK (du h)
theorem Zq{i j:Int}(h:¬j<i):min i j=i:=wf (dU.mp h)
theorem XJ(x:Int):60*(x/60)+x%60=x:=Int.mul_ediv_add_emod x 60
theorem LL{a:Int}(h:a.natAbs=0):a=0:=OX.mp h
theorem LM{l:Nat}(h:r<=l-1)(q:0<l):r+1<=l:=aD (nF h) (bn (vV q))
theorem XK{p:Nat}(h:r<p)(q:b<=1):b+2*r<p*2:=cg (Ov (jW q) _) (kF 2 p▸gL (2*r) 2▸nw 2 h)
theorem abv{c:Int}(h:0<=c%n):c%n=((c%n).toNat:Int):=(mC h).symm
theorem KR(h:0<n):(n:Int)≠0:=pj (eJ.mpr h)
theorem abw{k d:Nat}:((k+d+1:Nat):Int)-1+-1*(k:Int)=d:=by rw[Int.natCast_succ,mD,tH,GH,zR,<-nz,gY,mD]
theorem Zr{s:Nat}(h:b<=100000)(q:s<=100000)(r:i<=b):(i:Int)+(s:Int)<=2^27:=fW.mpr (aD (fV (aD r h) q) (by decide:200000<=2^27))
theorem XM{f:Nat}(h:n<=9000)(q:f<=0+n):f<=2^24:=aD (fA n▸q) (aD h (by decide))
theorem Zs{d p q:Nat}(h:d<p)(r:p*u+p<=q):d+p*u<q:=cg (gL d _▸vQ h _) r
theorem XN{p e:Nat}(h:e<p)(q:r*p+p<=b*p):r*p+e<b*p:=cg (vQ h _) q
theorem Zt(j k:Nat):j=k↔-4+(j:Int)=-4+(k:Int):=⟨λe=>e▸rfl,λe=>lR (EM e)⟩
theorem XO{a:Nat}{x:Int}(h:x+(a:Int)=x+(b:Int)):a=b:=lR (EM h)
theorem B7{a:Nat}(h:a<b):-4+(a:Int)< -4+(b:Int):=zq (eJ.mpr h) (-4)
theorem Ka(k:Nat):(k:Int)-4=-4+(k:Int):=nz.trans (gY _ _)
theorem abx{a:Nat}(h:0+a=0+b):a=b:=OI h
theorem Zu{k:Nat}(h:k<16):-4≤-4+(k:Int)∧-4+(k:Int)<=15:=⟨vz (dA k),dh (vR (fW.mpr (o_ h):(k:Int)<=15) (-4)) (by decide)⟩
theorem Zv(b m:Int):b+(-m-1)=b-1-m:=by rw[nz,nz,nz,Ga,gY (-m)]
theorem aby(a b:Int):a-b=-(-a- -b):=by rw[Aq,nz,nz,pp,gY]
theorem KU{x:Int}(h:-2^63<=x)(q:x<2^63):-9223372036854775808<=x/\x<9223372036854775808:=⟨h,q⟩
theorem XQ(h:i%2=1):(i:Int)%2=1:=aQ SJ h
theorem abz{k:Nat}(h:n+(r+1)<=k):n+1+r<=k:=vW n 1 r▸h
theorem Zw{k:Nat}(h:n+(r+1)<=k):n<k:=cg (sW (eA r)) h
theorem XR(h:n-1<n):0≤-1+(n:Int)∧-1+(n:Int)<n:=⟨gY (n:Int) (-1)▸zl (fW.mpr (OZ λe=>gK _ (aV (ck _) (e▸h:0-1<0)))),gY (n:Int) (-1)▸Int.sub_lt_self _ Int.one_pos⟩
theorem abA:(0:Int)<((n+1:Nat):Int):=eJ.mpr (eA n)
theorem Zx(h:n<=2^24):¬n>(2^63-1)/8:=de.mpr (aD h (by decide))
theorem Zy{i:Int}(h:0<=i+(n:Int)):-(n:Int)<=i:=Int.le_of_sub_nonneg ((Ar i n).symm▸h)
theorem Zz:n<2<->(n:Int)<2:=eJ.symm
theorem abB{s e:Nat}(h:s<=e):¬(e:Int)<s:=dU.mpr (fW.mpr h)
theorem XS(x:Int):(if x<0 then-x else x)=(x.natAbs:Int):=if h:x<0 then (bo h).trans (Int.ofNat_natAbs_of_nonpos (du h)).symm else (be h).trans (EF (dU.mp h)).symm
theorem abC{p q:Nat}:p+3+q+1=p+(1+(2+(q+1))):=by rw[eS p 3,<-eS 1 2,eS,eS]
theorem abD{f a x:Nat}(h:f<=a+x+0+n)(q:x<=1):f<=a+(n+1):=aD h (by rw[Gk,vW];exact fh q _)
theorem abE{p x:Nat}(h:x<=1)(q:p<=43):p+x<=100:=aD (fV q h) (by decide)
theorem ZA{p:Nat}(h:p<=4):p+3<=100:=aD (gB h 3) (by decide)
theorem ZB(h:n<=998):n+1+1<=1000:=gB h 2
noncomputable abbrev KH(w:a9):Frag:=DB w.params
noncomputable def TB:List ag:=[288,283,68,61]
noncomputable def fu:List (ag×ag×Str):=[(290,288,"_law_points.<locals>.<lambda>"),(285,283,"_law_rows.<locals>.<lambda>"),(72,68,"_digits2int.<locals>.inner"),(65,61,"_int2digits.<locals>.inner")]
inductive D where
 |none
 |bool (b:Bool)
 |int (i:Int)
 |str (x:Str)
 |tup (l:List D)
 |lst (l:List D)
 |cL (l:List (Str×D))
 |et (l:List (Int×D))
variable {k k':D->Prop} {l l':List D} {d:D} {φ:D->Option D}
noncomputable abbrev aY:=ag->Option Obj
variable {g aE g' aN bb:aY}
inductive Rep(w:a9)(g:aY):ai->D->Prop where
 |none:Rep w g .none .none
 |bool (b:Bool):Rep w g (.bool b) (.bool b)
 |int (i:Int) (t:Tok):Rep w g (.int i t) (.int i)
 |str (x:Str) (t:Tok):Rep w g (.str x t) (.str x)
 |tup (a:ag) (n:Nat) (af:Array ai) (l:List D):g a=aa {cls:=aK "tuple",data:=.seq af n}->af.toList.length=l.length->
  (∀(i:Nat) (v:ai) (d:D),af.toList[i]?=aa v->l[i]?=aa d->Rep w g v d)->Rep w g (.ref a) (.tup l)
 |lst (a:ag) (n:Nat) (af:Array ai) (l:List D):g a=aa {cls:=aK "list",data:=.seq af n}->af.toList.length=l.length->
  (∀(i:Nat) (v:ai) (d:D),af.toList[i]?=aa v->l[i]?=aa d->Rep w g v d)->Rep w g (.ref a) (.lst l)
 |cL (a:ag) (n:Nat) (es:Array dy) (l:List (Str×D)):g a=aa {cls:=aK "dict",data:=.dict es n}->es.toList.length=l.length->((l.map (·.1)).Nodup/\a≠iu)->
  (∀(i:Nat) (e:dy) (x:Str) (d:D),es.toList[i]?=aa e->l[i]?=aa (x,d)->(∃t,e.key=.str x t)/\e.hash=hashStr w x)->
  (∀(i:Nat) (e:dy) (x:Str) (d:D),es.toList[i]?=aa e->l[i]?=aa (x,d)->Rep w g e.val d)->Rep w g (.ref a) (.cL l)
 |et (a:ag) (n:Nat) (es:Array dy) (l:List (Int×D)):g a=aa {cls:=aK "dict",data:=.dict es n}->es.toList.length=l.length->((l.map (·.1)).Nodup/\a≠iu)->
  (∀(i:Nat) (e:dy) (x:Int) (d:D),es.toList[i]?=aa e->l[i]?=aa (x,d)->(∃t,e.key=.int x t)/\e.hash=hashInt x)->
  (∀(i:Nat) (e:dy) (x:Int) (d:D),es.toList[i]?=aa e->l[i]?=aa (x,d)->Rep w g e.val d)->Rep w g (.ref a) (.et l)
def aP(w:a9)(g:aY)(vs:List ai)(ds:List D):Prop:=vs.length=ds.length/\∀(i:Nat) (v:ai) (d:D),vs[i]?=aa v->ds[i]?=aa d->Rep w g v d
theorem Rep.mono(Z:∀a o,g a=aa o->g' a=aa o)(h:Rep w g v d):Rep w g' v d:=by
 induction h with
 |none=>exact .none
 |bool b=>exact .bool b
 |int i t=>exact .int i t
 |str x t=>exact .str x t
 |tup a n af l V Y _ W=>exact .tup a n af l (Z _ _ V) Y W
 |lst a n af l V Y _ W=>exact .lst a n af l (Z _ _ V) Y W
 |cL a n es l V Y H G _ W=>exact .cL a n es l (Z _ _ V) Y H G W
 |et a n es l V Y H G _ W=>exact .et a n es l (Z _ _ V) Y H G W
theorem aP.mono(V:∀a o,g a=aa o->g' a=aa o){v:List ai}{d:List D}(h:aP w g v d):aP w g' v d:=
 ⟨h.1,λi v d Y W=>(h.2 i v d Y W).mono V⟩
theorem aP.nil:aP w g [] []:=⟨rfl,λi v d h=>by exact ns h⟩
theorem aP.cons{ds:List D}(h:Rep w g v d)(hs:aP w g vs ds):aP w g (v::vs) (d::ds):=
 ⟨aQ _ hs.1,λi W Z V Y=>by
  induction i with
  |zero=>simp at V Y;subst V Y;exact h
  |succ i=>simp at V Y;exact hs.2 i W Z V Y⟩
theorem aP.ia{ds:List D}(h:aP w g (v::vs) (d::ds)):Rep w g v d/\aP w g vs ds:=
 ⟨h.2 0 v d rfl rfl,by simpa using h.1,λi v d V Y=>h.2 (i+1) v d V Y⟩
theorem aP.append{V:List ai}{ds sR:List D}(h:aP w g vs ds)(h':aP w g V sR):aP w g (vs++V) (ds++sR):=by
 induction vs generalizing ds with
 |nil=>induction ds with
  |nil=>exact h'
  |cons d ds=>exact aZ h.1 (by simp)
 |cons v vs Y=>induction ds with
  |nil=>exact aZ h.1 (by simp)
  |cons d ds=>exact aP.cons h.ia.1 (Y h.ia.2)
theorem aP.get{ds:List D}(h:aP w g vs ds)(Y:vs[i]?=aa v):∃d,ds[i]?=aa d/\Rep w g v d:=by
 have hi:i<vs.length:=(ey.mp Y).1
 have V:i<ds.length:=h.1▸hi
 exact⟨ds[i],by simp[V],h.2 i v _ Y (by simp[V])⟩
theorem aP.getD{ds:List D}(h:aP w g vs ds)(hd:ds[i]?=aa d):∃v,vs[i]?=aa v/\Rep w g v d:=by
 have hi:i<ds.length:=(ey.mp hd).1
 have V:i<vs.length:=h.1▸hi
 exact⟨vs[i],by simp[V],h.2 i _ d (by simp[V]) hd⟩
def BI(h:dp)(q:Str)(ps:Array ai):Prop:=wW ps.toList/\∀aM cv,tP aM ps.toList=aa cv->h.CodeRec cv q
structure St(w:a9)(s:av)(g:aY):Prop where
 df:(KH w).In s.heap
 gx:∃mg,s.heap.Ns e9 mg
 blt:∃mb,s.heap.Ns iM mb/\∀x:Str,x≠"__name__"→mb x=Gl x
 lim:s.heap.NoLimit
 bmain:∀mg,s.heap.Ns e9 mg->∃bm ob,mg "__builtins__"=aa (.ref bm)/\bm≠iM/\s.heap.get? bm=aa ob/\ob.cls=aK "module"∧ob.dict=aa iM/\ob.data=.plain
 tab:∀t∈fu,∃ps,s.heap.get? t.2.1=aa (tabObj ps)/\BI s.heap t.2.2 ps
 sub:∀a o,g a=aa o->s.heap.get? a=aa o
 off:∀P∈TB,g P=ak
 gens:s.gens=#[]
structure Nx(mu:List ag)(s:av)(g:aY)(s':av)(g':aY):Prop where
 keep:∀b o,s.heap.get? b=aa o->b∉TB->b∉mu->s'.heap.get? b=aa o
 there:∀b o,s.heap.get? b=aa o->b∉mu->∃o',s'.heap.get? b=aa o'
 gg:∀a o,g a=aa o->g' a=aa o
 old:∀a o,s.heap.get? a=aa o->g a=ak->a∉mu->g' a=ak
 os:s'.os=s.os
theorem Nx.refl(mu:List ag)(s:av)(g:aY):Nx mu s g s g:=⟨λ_ _ e _ _=>e,λ_ o e _=>⟨o,e⟩,λ_ _ e=>e,λ_ _ _ e _=>e,rfl⟩
theorem Nx.trans{Y:av}{W:aY}(x:Nx mu s g s' g')(y:Nx mu s' g' Y W):Nx mu s g Y W:=
 ⟨λb o e G C=>y.keep b o (x.keep b o e G C) G C,λb o e V=>(x.there b o e V).elim λZ H=>y.there b Z H V,λa o e=>y.gg a o (x.gg a o e),
  λa o e h V=>(x.there a o e V).elim λZ H=>y.old a Z H (x.old a o e h V) V,y.os.trans x.os⟩
theorem Nx.more{V:List ag}(x:Nx mu s g s' g')(h:∀a∈mu,a∈V):Nx V s g s' g':=
 ⟨λb o e Z H=>x.keep b o e Z λY=>H (h b Y),λb o e W=>x.there b o e λY=>W (h b Y),x.gg,λa o e G W=>x.old a o e G λC=>W (h a C),x.os⟩
theorem XT(w:a9):∀a o,(KH w).lookup a=aa o->a∉TB:=λa o h V=>
 have q:∀P∈TB,(KH w).lookup P=ak:=fm (by kernel_rfl) (fm (by kernel_rfl) (fm (by kernel_rfl) (sG (by kernel_rfl))))
 ns ((q a V).symm.trans h)
noncomputable def iz(g:aY)(n:ag)(o:Obj):aY:=λa=>if a=n then aa o else g a
theorem gZ(g:aY)(n:ag)(o:Obj):iz g n o n=aa o:=bo rfl
theorem fD(g:aY)(n:ag)(o:Obj)(h:a≠n):iz g n o a=g a:=be h
theorem lg(h:dp):h.get? h.objs.size=ak:=by
 induction e:h.get? h.objs.size with
 |none=>rfl
 |some o=>exact aZ (cq e) (gK _)
section
variable {w:a9} {s:av} {g:aY}
theorem ZC{P:ag}(h:P∈TB):∃t∈fu,t.2.1=P:=bL.1 (show P∈fu.map λt=>t.2.1 from h)
theorem ZD{t:ag×ag×Str}(h:t∈fu):t.2.1∈TB:=kC (f:=λt:ag×ag×Str=>t.2.1) h
theorem St.tb(S:St w s g){P:ag}(h:P∈TB):∃ps q,s.heap.get? P=aa (tabObj ps)/\BI s.heap q ps:=
 (ZC h).elim λt q=>(S.tab t q.1).elim λps e=>⟨ps,_,q.2▸e.1,e.2⟩
theorem St.dN(S:St w s g)(e:s.heap.get? a=aa o)(h:o.cls≠.none\/(∀vs,o.data≠bC vs)):a∉TB:=λY=>by
 obtain⟨ps,q,V,_⟩:=S.tb Y
 rw[e] at V
 obtain rfl:=aW V
 rcases h with h|h
 ·exact h rfl
 ·exact h _ rfl
theorem TriplesOk.no1{vs:Array ai}(h:wW vs.toList){q:Str}{t:Tok}:vs[1]?≠aa (.str q t):=λe=>by
 have V:∀(a:ai) (r:List ai),wW (a::.str q t::r)=False:=λa r=>by cases r<;>cases a<;>exact Eq.refl False
 obtain⟨l⟩:=vs
 rcases l with _|⟨a,_|⟨b,r⟩⟩
 ·exact ns e
 ·exact ns e
 ·obtain rfl:=aW e;exact V a r▸h
def cV(o:Obj):Prop:=∀(vs:Array ai) (q:Str) (t:Tok),o.data=bC vs->vs[1]?≠aa (.str q t)
structure sH(w:a9)(s:av)(g:aY)(a:ag):Prop where
 off:g a=ak
 here:∃o,s.heap.get? a=aa o
 df:(KH w).lookup a=ak
 gx:a≠e9
 blt:a≠iM
 lim:a≠cStatics
 bm:∀mg bm,s.heap.Ns e9 mg->mg "__builtins__"=aa (.ref bm)->bm≠a
 tb:a∉TB
theorem Cx{m:Str->Option ai}(V:h.Ns a m):∃o,h.get? a=aa o/\∀vs,o.data≠bC vs:=V.elim λo q=>q.elim λ_ q=>q.elim λ_ q=>⟨o,q.1,λ_ e=>zL (q.2.1.symm.trans e)⟩
theorem BJ{m:Str->Option ai}(V:h.Ns a m)(k:∀o,h.get? a=aa o->h'.get? a=aa o):h'.Ns a m:=V.elim λo q=>q.elim λes q=>q.elim λep q=>⟨o,es,ep,k o q.1,q.2⟩
theorem Jk{m W:Str->Option ai}(Z:h.Ns a m)(Y:h'.Ns a W)(k:∀o,h.get? a=aa o->h'.get? a=aa o):h.Ns a W:=
 (Cx Z).elim λo q=>Y.elim λH V=>V.elim λes V=>V.elim λep V=>⟨o,es,ep,q.1,aW (V.1.symm.trans (k o q.1))▸V.2⟩
theorem St.step(S:St w s g)(N:Nx mu s g s' g')(W:∀a o,g' a=aa o->s'.heap.get? a=aa o)(hg:s'.gens=s.gens)
 (Z:∀P∈TB,∀o,s.heap.get? P=aa o->s'.heap.get? P=aa o)
 (V:∀a∈mu,sH w s g a/\∀o,s.heap.get? a=aa o->cV o):St w s' g':=by
 have up:∀b o,s.heap.get? b=aa o->b∉mu->s'.heap.get? b=aa o:=λb o e hb=>if H:b∈TB then Z b H o e else N.keep b o e H hb
 have gM:e9∉mu:=λY=>(V _ Y).1.gx rfl
 refine⟨λa o e=>up _ _ (S.df a o e) λY=>ns ((V a Y).1.df.symm.trans e),S.gx.elim λmg h=>⟨mg,BJ h λo e=>up _ _ e gM⟩,S.blt.elim λmb h=>⟨mb,BJ h.1 λo e=>up _ _ e λY=>(V _ Y).1.blt rfl,h.2⟩,
  S.lim.elim λmc h=>⟨mc,BJ h.1 λo e=>up _ _ e λY=>(V _ Y).1.lim rfl,h.2⟩,λG C=>?_,λt H=>?_,W,λP B=>?_,hg.trans S.gens⟩
 ·refine S.gx.elim λmg f=>?_
  have e2:=Jk f C λo e=>up _ _ e gM
  exact(S.bmain G e2).elim λbm q=>q.elim λob q=>⟨bm,ob,q.1,q.2.1,up _ _ q.2.2.1 λY=>(V bm Y).1.bm G bm e2 q.1 rfl,q.2.2.2⟩
 ·exact(S.tab t H).elim λps q=>⟨ps,Z _ (ZD H) _ q.1,q.2.1,λaM cv DD=>(q.2.2 aM cv DD).elim λc h=>h.elim λo h=>h.elim λvs h=>h.elim λt h=>⟨c,o,vs,t,h.1,up _ _ h.2.1 λY=>(V c Y).2 o h.2.1 vs _ t h.2.2.1 h.2.2.2,h.2.2⟩⟩
 ·exact(S.tb B).elim λps q=>q.elim λ_ q=>N.old P _ q.1 (S.off P B) λY=>(V P Y).1.tb B
theorem St.keeps(S:St w s g)(N:Nx [] s g s' g')(V:∀a o,g' a=aa o->s'.heap.get? a=aa o)(W:s'.gens=s.gens)
 (Y:∀P∈TB,∀o,s.heap.get? P=aa o->s'.heap.get? P=aa o):St w s' g':=
 S.step N V W Y fS
theorem St.ext{dr:Drawn}(S:St w s g)(V:∀b o,s.heap.get? b=aa o->h'.get? b=aa o):Nx [] s g {s with heap:=h',toks:=tk,drawn:=dr} g/\St w {s with heap:=h',toks:=tk,drawn:=dr} g:=by
 have N:Nx [] s g {s with heap:=h',toks:=tk,drawn:=dr} g:=⟨λb o e _ _=>V b o e,λb o e _=>⟨o,V b o e⟩,λ_ _ e=>e,λ_ _ _ e _=>e,rfl⟩
 exact⟨N,S.keeps N (λa o e=>V _ _ (S.sub a o e)) rfl λP _ o e=>V P o e⟩
theorem St.ext'(S:St w s g)(V:∀b o,s.heap.get? b=aa o->h'.get? b=aa o):Nx [] s g {s with heap:=h',toks:=tk} g/\St w {s with heap:=h',toks:=tk} g:=S.ext (dr:=s.drawn) V
theorem St.freeze{n:ag}(S:St w s g)(e:s.heap.get? n=aa o)(Z:g n=ak)(H:n∉TB):St w s (iz g n o)/\(∀a V,g a=aa V->iz g n o a=aa V):=by
 have up:∀a V,g a=aa V->iz g n o a=aa V:=λa V h=>by
  by_cases Y:a=n
  ·subst Y;exact ns (Z.symm.trans h)
  ·exact(fD _ _ _ Y).trans h
 refine⟨⟨S.df,S.gx,S.blt,S.lim,S.bmain,S.tab,λa V h=>?_,λP W=>?_,S.gens⟩,up⟩
 ·by_cases Y:a=n
  ·subst Y;rw[gZ] at h;obtain rfl:=aW h;exact e
  ·rw[fD _ _ _ Y] at h;exact S.sub a V h
 ·exact(fD g n o (a:=P) (λq=>H (q▸W))).trans (S.off P W)
theorem St.alloc(S:St w s g)(W:o.isFreed=aI)(Z:o.cls≠.none):
 Nx [] s g {s with heap:=s.heap.push o,toks:=tk} (iz g s.heap.objs.size o)/\St w {s with heap:=s.heap.push o,toks:=tk} (iz g s.heap.objs.size o):=by
 refine(S.ext' (h':=s.heap.push o) (tk:=tk) λb V e=>bZ _ e).elim λN Y=>?_
 have H:g s.heap.objs.size=ak:=by
  induction q:g s.heap.objs.size with
  |none=>rfl
  |some V=>have:=S.sub _ _ q;rw[lg] at this;exact ns this
 have e:=cB s.heap W
 refine(Y.freeze (n:=s.heap.objs.size) e H (Y.dN (a:=s.heap.objs.size) e (.inl Z))).elim λG C=>?_
 refine⟨⟨N.keep,N.there,C,λa V B f _=>?_,rfl⟩,G⟩
 exact(fD _ _ _ (eB (cq B))).trans f
end
section
variable {α β:Type} {M:n_} {fR:ud} {w:a9} {A:bN} {E:ai->av->Prop} {s:av} {Q:β->av->Prop}
theorem fY{a:α}{f:α->Sem β}(h:wpAny M A (f a) Q E s):wpAny M A (pure a>>=f) Q E s:=h
theorem ka{V:String}{f:Unit->Sem β}(h:wpAny M A (f ()) Q E s):wpAny M A (rule V>>=f) Q E s:=aJ (wpAny_rule h)
theorem jb{f:Unit->Sem β}(h:wpAny M A (f ()) Q E s):wpAny M A (standAt aM>>=f) Q E s:=aJ (wpAny_standAt h)
theorem lV{f:Option (Array ai)->Sem β}(h:s.heap.get? a=aa o)(e:o.data=.seq af n)(q:wpAny M A (f (aa af)) Q E s):wpAny M A (wX (.ref a)>>=f) Q E s:=aJ (Qa h e q)
theorem w_field{vs:Array ai}{x:ai}{f:ai->Sem β}(h:s.heap.get? a=aa o)(e:o.data=bC vs)(q:vs[i]?=aa x)(r:wpAny M A (f x) Q E s):wpAny M A (field (.ref a) i>>=f) Q E s:=aJ (As h e q r)
theorem z6{cls:ai}{vs:Array ai}{k:Nat}{x:ai}{f:Unit->Sem β}(h:s.heap.get? a=aa {cls:=cls,data:=bC vs})(V:k<vs.size)
 (q:∀h':dp,h'.get? a=aa {cls:=cls,data:=bC (vs.setIfInBounds k x)}->kG a s.heap h'->wpAny (model fR w) A (f ()) Q E {s with heap:=h'}):wpAny (model fR w) A (setField (.ref a) k x>>=f) Q E s:=aJ (ET h V q)
theorem pB{T:String}{f:ai->Sem β}(h:s.TypeIs v T)(q:wpAny M A (f (aK T)) Q E s):wpAny M A (typeOf v>>=f) Q E s:=aJ (wpAny_typeOf h q)
theorem tU{af:List ai}{f:ai->Sem β}(h:wpAny M A (f (.ref s.heap.objs.size)) Q E {s with heap:=s.heap.push {cls:=aK "list",data:=.seq af.toArray}})(q:af.length<=sizeLine):wpAny M A (newList af>>=f) Q E s:=aJ (wpAny_newList h q)
theorem wP{af:List ai}{f:ai->Sem β}(h:wpAny M A (f (.ref s.heap.objs.size)) Q E {s with heap:=s.heap.push {cls:=aK "tuple",data:=.seq af.toArray}})(q:af.length<=sizeLine):wpAny M A (newTuple af>>=f) Q E s:=aJ (wpAny_newTuple h q)
theorem xy{V keep:List ai}{f:Unit->Sem β}(h:wpAny M A (f ()) Q E s):wpAny M A (letGo V keep>>=f) Q E s:=aJ (wpAny_letGo h)
theorem q7{T U:String}{b:Bool}{f:Bool->Sem β}(h:s.TypeIs v T)(e:Hx (aK T) (aK U)=pure b)(q:wpAny M A (f b) Q E s):wpAny M A (wI v (aK U)>>=f) Q E s:=aJ (Px h e q)
theorem rP{t:Sem α}{a:α}{f:α->Sem β}(h:t=pure a)(q:wpAny M A (f a) Q E s):wpAny M A (t>>=f) Q E s:=aJ (tI h q)
theorem AT{f:Option ai->Sem β}(h:wpAny M A (f A.handled) Q E s):wpAny M A (handled>>=f) Q E s:=aJ (wpAny_handled h)
theorem BK{f:ag->Sem β}(h:wpAny M A (f s.heap.objs.size) Q E {s with heap:=s.heap.push o}):wpAny M A (alloc o>>=f) Q E s:=aJ (wpAny_alloc h)
theorem tC{t:jc}{f:Array (Int×ai)×Nat×jc->Sem β}(h:s.heap.get? a=aa o)(e:o.data=.set es ep t)(q:t.fits es.size=ae)(r:wpAny (model fR w) A (f (es,ep,t)) Q E s):wpAny (model fR w) A (setState a>>=f) Q E s:=aJ (vY h e q r)
theorem Fw{T:ag}{a b x:ai}{k:Nat}{f:Unit->Sem β}(h:l4 s.heap T a b)
 (q:∀h':dp,h'.get? T=aa {cls:=aK "tuple",data:=.seq (#[a,b].setIfInBounds k x)}->kG T s.heap h'->wpAny (model fR w) A (f ()) Q E {s with heap:=h'}):wpAny (model fR w) A (updateSeq T (λy=>y.setIfInBounds k x)>>=f) Q E s:=aJ (wpAny_updateSeq_pair h q)
theorem wF{T:String}{name:Str}{r:Option ai}{f:Option ai->Sem β}(h:s.TypeIs v T)(e:mP (aK T) name=pure r)(q:wpAny M A (f r) Q E s):wpAny M A (specialOf v name>>=f) Q E s:=aJ (wpAny_specialOf h e q)
end
set_option genInjectivity false in
inductive Bd where
 |dat (d:D)
 |own (a:ag) (l:List D)
 |lam (nm:Str) (params:ix) (body:rI) (scope:bf)
 |dT (x dx hl:ag) (l:List D)
 |obj (R:a9->av->aY->ai->List ag->Prop)
 |fn (bz:List ag) (φ:D->Option D)
 |hdr (x dx hl:ag) (l:List D)
 |raw (x dx:ag) (o:Option ag)
 |re (a:ag)
 |any
variable {bs:List Bd} {bx:Bd}
noncomputable def Bd.isFn(b:Bd):Bool:=b.ctorIdx==5||b.ctorIdx==6
noncomputable def Bd.KV:Bd->Bool
 |.lam _ _ _ _=>ae
 |_=>aI
noncomputable abbrev ay:=List (Str×Bd)
variable {ρ aC:ay}
theorem cV.of(h:∀vs,o.data≠bC vs):cV o:=λvs _ _ e=>aZ e (h vs)
def Rm(n:Nat)(A:bN):Prop:=A.depth+n<=900/\A.units+12*n<=9000/\A.handled=ak
theorem Rm.le(h:Rm n A)(V:m<=n):Rm m A:=⟨by have:=h.1;exact abl (by assumption) (by assumption),by have:=h.2.1;exact Y4 (by assumption) (by assumption),h.2.2⟩
theorem Rm.in1(h:Rm (n+1) A):Rm n A.in1:=⟨by have:=h.1;simp;exact bd (by assumption),by have:=h.2.1;simp;exact Jj (by assumption),h.2.2⟩
theorem Rm.deeper(h:Rm (n+1) A):Rm n (A.deeper ab):=⟨by have:=h.1;show A.depth+1+n<=900;exact LK (by assumption),by have:=h.2.1;show A.units+3+12*n<=9000;exact abk (by assumption),h.2.2⟩
theorem Rm.mark(h:Rm n A):Rm n (A.mark ak):=⟨h.1,h.2.1,by refine h.2.2.trans ?_;rfl⟩
theorem mark_none(A:bN):A.mark ak=A:=by rcases A with _;rfl
theorem Rm.room(h:Rm n A):A.depth<recursionLimit:=by have:=h.1;show _<1000;exact aV (aD (cy _ _) this) (by simp)
inductive abF(s:av)(g:aY)(ab:Env)(x:Str)(v:ai):Prop
 |mk (k:ab.kindOf x=aa .local) (hg:g ab.locals=ak) (m) (hm:s.heap.Ns ab.locals m) (hv:m x=aa v)
inductive abG(s:av)(g:aY)(ab:Env)(x:Str)(v:ai):Prop
 |mk (k:ab.kindOf x=aa .cell\/ab.kindOf x=aa .free) (c) (hc:ab.cells.lookup x=aa c) (hg:g c=ak) (hv:s.heap.IsCell c (aa v))
def fF(s:av)(g:aY)(ab:Env)(x:Str)(v:ai):Prop:=abF s g ab x v\/abG s g ab x v
def InstAt(g:aY)(x dx:ag):Prop:=∃o,g x=aa o/\o.cls=.ref 258/\o.dict=aa dx/\(∀c,o.data≠.cls c)/\dx≠x
structure jh(w:a9)(s:av)(g:aY)(x:ag)(dx hl:ag)(af:Array ai):Prop where
 inst:InstAt g x dx
 dict:∃o es n,g dx=aa o/\o.data=.dict es n/\ue es/\UniqKeys es/\∀y,nsFind es y=if y="_headers" then aa (.ref hl) else ak
 list:s.heap.PlainList hl af
 yi:g hl=ak
def p0(R:a9->av->aY->ai->List ag->Prop):Prop:=∀w s g v ad,St w s g->R w s g v ad->(∀a∈ad,g a=ak/\∃o,s.heap.get? a=aa o/\∀vs,o.data≠bC vs)/\∀mu s' g',(∀a∈ad,a∉mu)->Nx mu s g s' g'->R w s' g' v ad
noncomputable def jM(name bI:Str)(params:ix)(body:rI)(scope:bf)(br:List (Str×ag))(doc pm ct cv:ai):Bb:=
 {name,qualname:=bI,params,body,scope,globals:=e9,closure:=br,defaults:=.none,kwdefaults:=.none,doc,pyModule:=pm,annotations:=ak,code:=cv,closureTuple:=ct,builtins:=iM}
noncomputable def l8(fd:Bb):Obj:={cls:=aK "function",data:=.func fd}
def xI(scope:bf)(V br:List (Str×ag)):Prop:=(∀x c,br.lookup x=aa c->V.lookup x=aa c/\scope.names.lookup x=aa .free)/\∀x,scope.names.lookup x=aa .free->∃c,br.lookup x=aa c
inductive Out(w:a9)(s:av)(g:aY)(k:D->Prop)(v:ai)(s':av):Prop
 |mk (g' d:_) (N:Nx [] s g s' g') (S:St w s' g') (R:Rep w g' v d) (h:k d)
inductive mh(w:a9)(s:av)(g:aY)(k:Bool->Prop)(b:Bool)(s':av):Prop
 |mk (g':_) (N:Nx [] s g s' g') (S:St w s' g') (h:k b)
theorem Out.trans(N:Nx [] s g aA aN)(h:Out w aA aN k v aT)(V:∀d,k d->k' d):Out w s g k' v aT:=
 let ⟨g',d,Y,W,R,hd⟩:=h;⟨g',d,N.trans Y,W,R,V d hd⟩
theorem Out.toks(S:St w s g)(R:Rep w g v d)(V:k d):Out w s g k v {s with toks:=tk}:=
 (S.ext' (h':=s.heap) (tk:=tk) λ_ _ e=>e).elim λN Y=>⟨g,d,N,Y,R,V⟩
theorem Out.same(S:St w s g)(R:Rep w g v d)(V:k d):Out w s g k v s:=⟨g,d,Nx.refl _ _ _,S,R,V⟩
def FnV(w:a9)(V:av->aY->Prop)(v:ai)(φ:D->Option D):Prop:=
 ∀(A:bN) (s:av) (g:aY) (u:ai) (d r:D),V s g->St w s g->Rm 60 A->Rep w g u d->φ d=aa r->∀E,wpAny (model PG w) A (call v [u]) (Out w s g (λx=>x=r)) E s
inductive abH(w:a9)(s:av)(g:aY)(v:ai)(ad:List ag)(a:ag)(l:List D):Prop
 |mk (af:_) (hv:v=.ref a) (hg:g a=ak) (hp:s.heap.PlainList a af) (hr:aP w g af.toList l) (lF:ad=[a])
inductive abI(s:av)(g:aY)(ab:Env)(v:ai)(ad:List ag)(nm:Str)(params:ix)(body:rI)(scope:bf):Prop
 |mk (f q br doc pm ct cv:_) (hv:v=.ref f) (hg:g f=aa (l8 (jM nm q params body scope br doc pm ct cv:_))) (hc:s.heap.CodeRec cv q) (ho:xI scope ab.cells br) (lF:ad=[])
inductive Cy(w:a9)(s:av)(g:aY)(v:ai)(ad:List ag)(x dx hl:ag)(l:List D):Prop
 |mk (af:_) (hv:v=.ref x) (hp:jh w s g x dx hl af) (hr:aP w g af.toList l) (lF:ad=[hl])
noncomputable def p7(o:Option ag)(y:Str):Option ai:=match o with
 |none=>ak
 |some hl=>if y="_headers" then aa (.ref hl) else ak
inductive abJ(s:av)(g:aY)(v:ai)(ad:List ag)(x dx:ag)(o:Option ag):Prop
 |mk (hv:v=.ref x) (hi:InstAt g x dx) (hd:s.heap.Ns1 dx (p7 o)) (hg:g dx=ak) (lF:ad=[dx])
structure FnI(w:a9)(v:ai)(ad bz:List ag)(φ:D->Option D)(Lv:av->aY->Prop):Prop where
 st:∀mu s g s' g',(∀a∈mu,a∉ad)->Lv s g->St w s g->Nx mu s g s' g'->Lv s' g'
 fv:FnV w Lv v φ
 at_:∃a,v=.ref a/\∀s g,Lv s g->(∃o fd,s.heap.get? a=aa o/\o.data=.func fd)/\∀b∈bz,∃o,s.heap.get? b=aa o
noncomputable def cU(w:a9)(s:av)(g:aY)(ab:Env)(v:ai)(ad:List ag):Bd->Prop
 |.dat d=>Rep w g v d/\ad=[]
 |.own a l=>abH w s g v ad a l
 |.lam nm params body scope=>abI s g ab v ad nm params body scope
 |.dT x dx hl l=>Cy w s g v ad x dx hl l
 |.obj R=>R w s g v ad/\p0 R
 |.hdr x dx hl l=>Cy w s g v ad x dx hl l
 |.raw x dx o=>abJ s g v ad x dx o
 |.re a=>v=.ref a/\ad=[]
 |.any=>ad=[]
 |.fn bz φ=>ad=bz/\∃V:av->aY->Prop,V s g/\FnI w v ad bz φ V
def KS(a b:Option fO):Prop:=a=b\/(a=aa .cell/\b=aa .free)
noncomputable def su(sc:bf)(x:String)(k:fO):Bool:=sc.names.lookup (a6 x)==aa k
noncomputable def d4(sc:bf):Option (ag×Str):=
 if su sc "insort_right" cj then aa (285,a6 "_law_rows.<locals>.")
 else if su sc "spot" .local then aa (290,a6 "_law_points.<locals>.")
 else if su sc "inner" .cell&&su sc "a_digits" .cell then aa (65,a6 "_int2digits.<locals>.")
 else if su sc "inner" .cell&&su sc "digits" .cell then aa (72,a6 "_digits2int.<locals>.")
 else ak
structure c8(w:a9)(s:av)(g:aY)(ab:Env)(sc:bf)(ρ:ay):Prop where
 kind:ab.scope.kind=fk
 glob:ab.globals=e9
 gq:ab.builtins=iM
 ks:∀x,KS (ab.kindOf x) (sc.names.lookup x)
 lam:∀c q,d4 sc=aa (c,q)->ab.code=.ref c/\ab.qual=q
 e6:∀x,sc.names.lookup x=aa .cell\/sc.names.lookup x=aa .free->∃c,ab.cells.lookup x=aa c
 cP:∀x c,ab.cells.lookup x=aa c->g c=ak/\∃v,s.heap.IsCell c v
 ff:∀x y c,ab.cells.lookup x=aa c->ab.cells.lookup y=aa c->x=y
 var:∀x b,ρ.lookup x=aa b->∃v ad,fF s g ab x v/\cU w s g ab v ad b
section
variable {w:a9} {s s':av} {g g':aY} {ab:Env}
theorem Nx.get(N:Nx mu s g s' g')(S:St w s g)(e:s.heap.get? a=aa o)(h:o.cls≠.none\/(∀vs,o.data≠bC vs))(V:a∉mu):s'.heap.get? a=aa o:=N.keep a o e (S.dN e h) V
theorem Nx.ns(N:Nx mu s g s' g')(S:St w s g){m:Str->Option ai}(e:s.heap.Ns a m)(W:a∉mu):s'.heap.Ns a m:=
 e.elim λo V=>V.elim λes V=>V.elim λep V=>V.elim λZ V=>V.elim λY r=>⟨o,es,ep,N.get S Z (.inr λvs q=>by cases Y.symm.trans q) W,Y,r⟩
theorem Nx.cell(N:Nx mu s g s' g')(S:St w s g){v:Option ai}(e:s.heap.IsCell a v)(Y:a∉mu):s'.heap.IsCell a v:=
 e.elim λo W=>W.elim λZ V=>⟨o,N.get S Z (.inr λvs q=>by cases V.symm.trans q) Y,V⟩
theorem Nx.plain(N:Nx mu s g s' g')(S:St w s g){v:Array ai}(e:s.heap.PlainList a v)(V:a∉mu):s'.heap.PlainList a v:=
 e.elim λn Y=>⟨n,N.get S Y (.inl (by simp)) V⟩
theorem AE(S:St w s g){c:ag}{vs:Array ai}{q:Str}{t:Tok}(Y:s.heap.get? c=aa o)(W:o.data=bC vs)(Z:vs[1]?=aa (.str q t)):c∉TB:=λH=>by
 obtain⟨ps,C,V,G,_⟩:=S.tb H
 rw[Y] at V;obtain rfl:=aW V;cases W
 exact TriplesOk.no1 G Z
theorem Nx.code(N:Nx mu s g s' g')(S:St w s g){q:Str}(e:s.heap.CodeRec cv q)(H:∀a,cv=.ref a->a∉mu):s'.heap.CodeRec cv q:=by
 obtain⟨c,o,vs,t,V,Y,W,Z⟩:=e
 exact⟨c,o,vs,t,V,N.keep c o Y (AE S Y W Z) (H c V),W,Z⟩
theorem fF.step(N:Nx mu s g s' g')(S:St w s g)(h:fF s g ab x v)(Z:ab.locals∉mu)(H:∀c∈ab.cells,c.2∉mu):fF s' g' ab x v:=by
 rcases h with ⟨W,V,m,h3,Y⟩|⟨W,c,V,h3,Y⟩
 ·refine .inl ⟨W,?_,m,N.ns S h3 Z,Y⟩
  obtain⟨o,_,_,e,_⟩:=h3
  exact N.old _ _ e V Z
 ·refine .inr ⟨W,c,V,?_,N.cell S Y (H _ (mem_of_lookup V))⟩
  obtain⟨o,e,_⟩:=Y
  exact N.old _ _ e h3 (H _ (mem_of_lookup V))
theorem cU.step{b:Bd}{ad:List ag}(N:Nx mu s g s' g')(S:St w s g)(h:cU w s g ab v ad b)(Y:∀a∈ad,a∉mu)(hc:b.KV=ae->∀a∈mu,∀o,s.heap.get? a=aa o->cV o):cU w s' g' ab v ad b:=by
 have W:∀a o,s.heap.get? a=aa o->g a=ak->a∉mu->g' a=ak:=N.old
 induction b with
 |dat d=>exact⟨h.1.mono N.gg,h.2⟩
 |own a l=>
  obtain⟨af,Z,H,h3,V,G⟩:=h
  obtain⟨n,e⟩:=h3
  exact⟨af,Z,W _ _ e H (Y a (by simp[G])),N.plain S ⟨n,e⟩ (Y a (by simp[G])),V.mono N.gg,G⟩
 |lam nm params body scope=>
  obtain⟨f,q,br,doc,pm,ct,cv,H,h3,V,G,h6⟩:=h
  refine⟨f,q,br,doc,pm,ct,cv,H,N.gg _ _ h3,N.code S V λa ha C=>?_,G,h6⟩
  obtain⟨c,o,vs,t,e1,e2,e3,e4⟩:=V
  replace e1:=ha▸e1;cases e1
  exact hc rfl a C o e2 vs q t e3 e4
 |dT x dx hl l=>
  obtain⟨af,Z,⟨⟨o,B,q2⟩,⟨o',es,n,q3,q4⟩,q5,q6⟩,h3,V⟩:=h
  obtain⟨nn,e⟩:=q5
  exact⟨af,Z,⟨⟨o,N.gg _ _ B,q2⟩,⟨o',es,n,N.gg _ _ q3,q4⟩,N.plain S ⟨nn,e⟩ (Y hl (by simp[V])),W _ _ e q6 (Y hl (by simp[V]))⟩,h3.mono N.gg,V⟩
 |obj R=>exact⟨(h.2 w s g v ad S h.1).2 mu s' g' Y N,h.2⟩
 |hdr x dx hl l=>
  obtain⟨af,Z,⟨⟨o,B,q2⟩,⟨o',es,n,q3,q4⟩,q5,q6⟩,h3,V⟩:=h
  obtain⟨nn,e⟩:=q5
  exact⟨af,Z,⟨⟨o,N.gg _ _ B,q2⟩,⟨o',es,n,N.gg _ _ q3,q4⟩,N.plain S ⟨nn,e⟩ (Y hl (by simp[V])),W _ _ e q6 (Y hl (by simp[V]))⟩,h3.mono N.gg,V⟩
 |raw x dx ro=>
  refine ba λN_=>?_
  obtain⟨Z,⟨o,B,q2⟩,q5,q6,V⟩:=h
  obtain⟨od,es,n,e,d,r⟩:=q5
  apply N_
  refine⟨Z,⟨o,N.gg _ _ B,q2⟩,⟨od,es,n,N.get S e (.inr λvs q=>by cases d.symm.trans q) (Y dx (by simp[V])),d,r⟩,W _ _ e q6 (Y dx (by simp[V])),V⟩
 |any=>exact h
 |re a=>exact h
 |fn bz φ=>
  obtain⟨h0,Lv,Z,H⟩:=h
  exact⟨h0,Lv,H.st mu s g s' g' (λa DY lF=>Y a lF DY) Z S N,H⟩
theorem cU.plain{b:Bd}{ad:List ag}(S:St w s g)(h:cU w s g ab v ad b)(Z:b.isFn=aI):∀a∈ad,g a=ak/\∃o,s.heap.get? a=aa o/\(∀vs,o.data≠bC vs):=by
 induction b with
 |dat d=>exact h.2▸fS
 |own B l=>obtain⟨af,H,V,⟨n,e⟩,Y,G⟩:=h;exact G▸sG ⟨V,_,e,λ_=>sf⟩
 |lam nm params body scope=>obtain⟨f,q,br,doc,pm,ct,cv,V,h3,Y,G,C⟩:=h;exact C▸fS
 |dT x dx hl l=>obtain⟨af,H,V,h3,Y⟩:=h;exact Y▸sG (V.list.elim λn' W=>⟨V.yi,_,W,λ_=>sf⟩)
 |raw x dx ro=>obtain⟨H,V,⟨od,es,n,e,d,r⟩,h3,Y⟩:=h;exact Y▸sG ⟨h3,_,e,λvs q=>nomatch d.symm.trans q⟩
 |obj R=>exact(h.2 w s g v ad S h.1).1
 |any=>exact(h:ad=[])▸fS
 |re b=>exact h.2▸fS
 |fn bz φ=>exact tf Z
 |hdr x dx hl l=>exact tf Z
theorem cU.there{b:Bd}{ad:List ag}(S:St w s g)(h:cU w s g ab v ad b)(V:b.isFn=aI):∀a∈ad,∃o,s.heap.get? a=aa o:=λa Y=>(h.plain S V a Y).2.elim λo e=>⟨o,e.1⟩
theorem c8.step(R:c8 w s g ab sc ρ)(N:Nx [] s g s' g')(S:St w s g):c8 w s' g' ab sc ρ:=
 ⟨R.kind,R.glob,R.gq,R.ks,R.lam,R.e6,λx c h=>by
  refine(R.cP x c h).elim λY W=>W.elim λv V=>?_
  obtain⟨o,e,_⟩:=id V
  exact⟨N.old _ _ e Y (by simp),v,N.cell S V (by simp)⟩,R.ff,λx b h=>by
  obtain⟨v,ad,Y,V⟩:=R.var x b h
  exact⟨v,ad,Y.step N S (ca) (by simp),V.step N S (by simp) (by simp)⟩⟩
end
structure aj(n:Nat)(sc:bf)(ρ:ay)(e:au)(k:D->Prop):Prop where
 run:∀(w:a9) (A:bN) (ab:Env) (s:av) (g:aY),St w s g->Rm n A->c8 w s g ab sc ρ->∀E,wpAny (model PG w) A (eval e ab) (Out w s g k) E s
structure bH(n:Nat)(sc:bf)(ρ:ay)(e:au)(k:Bool->Prop):Prop where
 run:∀(w:a9) (A:bN) (ab:Env) (s:av) (g:aY),St w s g->Rm n A->c8 w s g ab sc ρ->∀E,wpAny (model PG w) A (isTrue e ab (eval e ab)) (mh w s g k) E s
section
variable {n:Nat} {sc:bf} {ρ:ay} {k k':D->Prop}
theorem aj.mono(h:aj n sc ρ e k)(Y:∀d,k d->k' d):aj n sc ρ e k':=.mk λw A ab s g S R V E=>
 eg (h.run w A ab s g S R V E) (λv s' o=>o.trans (Nx.refl _ _ _) Y) λ_ _ x=>x
theorem bH.mono{k k':Bool->Prop}(h:bH n sc ρ e k)(Y:∀d,k d->k' d):bH n sc ρ e k':=.mk λw A ab s g S R V E=>
 eg (h.run w A ab s g S R V E) (λv s' W=>by obtain⟨g',N,Z,x⟩:=W;exact⟨g',N,Z,Y _ x⟩) λ_ _ x=>x
theorem bg{M:n_}{t:Sem α}{Q V:α->av->Prop}(h:wpAny M A t Q E s)(f:∀a s,Q a s->V a s):wpAny M A t V E s:=eg h f λ_ _ x=>x
theorem Out.back{m:Sem ai}(N:Nx [] s g aA aN)(h:wpAny (model PG w) A m (Out w aA aN k) E aA):wpAny (model PG w) A m (Out w s g k) E aA:=bg h λ_ _ o=>o.trans N λ_ x=>x
theorem aj.wp(h:aj n sc ρ e k)(S:St w s g)(R:Rm n A)(V:c8 w s g ab sc ρ)(f:∀v s' g' d,Nx [] s g s' g'->St w s' g'->Rep w g' v d->k d->Q v s'):wpAny (model PG w) A (eval e ab) Q E s:=
 bg (h.run w A ab s g S R V E) λv s' o=>by obtain⟨g',d,N,Y,W,Z⟩:=o;exact f v s' g' d N Y W Z
theorem bH.wp{k:Bool->Prop}(h:bH n sc ρ e k){Q:Bool->av->Prop}(S:St w s g)(R:Rm n A)(V:c8 w s g ab sc ρ)(f:∀b s' g',Nx [] s g s' g'->St w s' g'->k b->Q b s'):wpAny (model PG w) A (isTrue e ab (eval e ab)) Q E s:=
 bg (h.run w A ab s g S R V E) λv s' o=>by obtain⟨g',N,Y,W⟩:=o;exact f v s' g' N Y W
noncomputable def ce(x:Str):Bool:=!(x==("__debug__":Str))&&!(x==("__classdict__":Str))
theorem dZ(W:ab.scope.kind=fk)(h:fF s g ab x v)(G:ce x=ae)(Z:Q v s):
 wpAny (model PG w) A (loadName ab x) Q E s:=by
 simp only[ce,bB,nA] at G
 rcases h with ⟨V,H,m,h3,Y⟩|⟨V|V,c,H,h3,Y⟩
 ·exact wpAny_loadName_local W V h3 Y Z
 ·exact wpAny_loadName_cell W V H Y Z
 ·exact wpAny_loadName_free W V H Y Z G.2
theorem aj.name(h:ρ.lookup x=aa (.dat d))(Y:ce x=ae)(W:k d):aj n sc ρ (aS x aM) k:=.mk λw A ab s g S R V E=>by
 obtain⟨v,ad,Z,H⟩:=V.var x _ h
 exact eN (dZ V.kind Z Y (Out.same S H.1 W)) (by simp only[ce,bB,nA] at Y;exact Y.1)
theorem aj.int{i:Int}(Y:k (.int i)):aj n sc ρ (jF (.int i) c aM) k:=.mk λw A ab s g S R V E=>wpAny_Constant_int (Out.toks S (.int _ _) Y)
theorem aj.str(Y:k (.str x)):aj n sc ρ (jF (.str x) c aM) k:=.mk λw A ab s g S R V E=>Constant_str (Out.toks S (.str _ _) Y)
theorem aj.bool{b:Bool}(Y:k (.bool b)):aj n sc ρ (jF (.bool b) c aM) k:=.mk λw A ab s g S R V E=>OJ (Out.same S (.bool _) Y)
theorem aj.none(Y:k .none):aj n sc ρ (jF .none c aM) k:=.mk λw A ab s g S R V E=>EN (Out.same S .none Y)
structure bF(n:Nat)(op:lW)(a b:D)(k:D->Prop):Prop where
 run:∀(w:a9) (A:bN) (s:av) (g:aY) (v u:ai),St w s g->Rm n A->Rep w g v a->Rep w g u b->∀E,wpAny (model PG w) A (binaryOp op v u) (Out w s g k) E s
theorem aj.bin{l r:au}(h:aj n sc ρ l λa=>aj n sc ρ r λb=>bF n op a b k):aj n sc ρ (.BinOp l op r aM) k:=.mk λw A ab s g S R V E=>
 wpAny_BinOp (bg (h.run w A ab s g S R V E) (λv aA ⟨aN,a,Y,Z,H,G⟩=>
  bg (G.run w A ab aA aN Z R (V.step Y S) E) (λu aT ⟨bb,b,W,C,B,f⟩=>
   Out.back (Y.trans W) (f.run w A aT bb v u C R (H.mono W.gg) B E))))
noncomputable def LO(w:a9)(g:aY)(v:ai):D->Prop
 |.none=>v=.none
 |.bool b=>v=.bool b
 |.int i=>∃t,v=.int i t
 |.str x=>∃t,v=.str x t
 |.tup l=>∃a n af,v=.ref a/\g a=aa {cls:=aK "tuple",data:=.seq af n}/\aP w g af.toList l
 |.lst l=>∃a n af,v=.ref a/\g a=aa {cls:=aK "list",data:=.seq af n}/\aP w g af.toList l
 |.cL l=>∃a n es,v=.ref a/\g a=aa {cls:=aK "dict",data:=.dict es n}/\es.toList.length=l.length/\(l.map (·.1)).Nodup/\
  (∀(i:Nat) (e:dy) (x:Str) (d:D),es.toList[i]?=aa e->l[i]?=aa (x,d)->(∃t,e.key=.str x t)/\e.hash=hashStr w x)/\
  (∀(i:Nat) (e:dy) (x:Str) (d:D),es.toList[i]?=aa e->l[i]?=aa (x,d)->Rep w g e.val d)
 |.et l=>∃a n es,v=.ref a/\g a=aa {cls:=aK "dict",data:=.dict es n}/\es.toList.length=l.length/\(l.map (·.1)).Nodup/\
  (∀(i:Nat) (e:dy) (x:Int) (d:D),es.toList[i]?=aa e->l[i]?=aa (x,d)->(∃t,e.key=.int x t)/\e.hash=hashInt x)/\
  (∀(i:Nat) (e:dy) (x:Int) (d:D),es.toList[i]?=aa e->l[i]?=aa (x,d)->Rep w g e.val d)
theorem Rep.inv(h:Rep w g v d):LO w g v d:=
 Rep.casesOn (motive:=λv d _=>LO w g v d) h rfl (λ_=>rfl) (λ_ t=>⟨t,rfl⟩) (λ_ t=>⟨t,rfl⟩) (λa n af l V Y h3=>⟨a,n,af,rfl,V,Y,h3⟩) (λa n af l V Y h3=>⟨a,n,af,rfl,V,Y,h3⟩)
  (λa n es l V Y h3 W Z=>⟨a,n,es,rfl,V,Y,h3.1,W,Z⟩) (λa n es l V Y h3 W Z=>⟨a,n,es,rfl,V,Y,h3.1,W,Z⟩)
theorem Rep.int_inv{i:Int}(h:Rep w g v (.int i)):∃t,v=.int i t:=h.inv
theorem Rep.str_inv{i:Str}(h:Rep w g v (.str i)):∃t,v=.str i t:=h.inv
@[elab_as_elim] theorem Rep.b9 {i:Int}{P:ai->Prop}(h:Rep w g v (.int i))(f:∀t,P (.int i t)):P v:=by obtain⟨t,rfl⟩:=h.int_inv;exact f t
@[elab_as_elim] theorem Rep.dB {i:Str}{P:ai->Prop}(h:Rep w g v (.str i))(f:∀t,P (.str i t)):P v:=by obtain⟨t,rfl⟩:=h.str_inv;exact f t
theorem Rep.bool_inv{i:Bool}(h:Rep w g v (.bool i)):v=.bool i:=h.inv
theorem Rep.none_inv(h:Rep w g v .none):v=.none:=h.inv
theorem bF.add{i j:Int}(V:k (.int (i+j))):bF n .Add (.int i) (.int j) k:=.mk λw A s g v u S R Y W E=>by
 refine Y.b9 λt=>?_;refine W.b9 λZ=>?_
 exact wpAny_add_int (Out.toks S (.int _ _) V)
end
set_option genCtorIdx false in
set_option genInjectivity false in
inductive Ty where
 |int|str|bool
 |lst (t:Ty)
 |pair (t u:Ty)
noncomputable def iA:Ty->D->Prop
 |.int,d=>∃i,d=.int i
 |.str,d=>∃x,d=.str x
 |.bool,d=>∃b,d=.bool b
 |.lst t,d=>∃l,d=.lst l/\∀x∈l,iA t x
 |.pair t u,d=>∃a b,d=.tup [a,b]/\iA t a/\iA u b
noncomputable def Ty.dep:Ty->Nat
 |.int|.str|.bool=>0
 |.lst t=>t.dep+1
 |.pair t u=>max t.dep u.dep+1
section
variable {w:a9} {g:aY} {s:av}
theorem Rep.lst_inv(h:Rep w g v (.lst l)):∃a n af,v=.ref a/\g a=aa {cls:=aK "list",data:=.seq af n}/\aP w g af.toList l:=h.inv
theorem Rep.rQ(h:Rep w g v (.tup l)):∃a n af,v=.ref a/\g a=aa {cls:=aK "tuple",data:=.seq af n}/\aP w g af.toList l:=h.inv
@[elab_as_elim] theorem Rep.j9 {P:ai->Prop}(h:Rep w g v (.lst l))(f:∀a n af,g a=aa {cls:=aK "list",data:=.seq af n}->aP w g af.toList l->P (.ref a)):P v:=by
 obtain⟨a,n,af,rfl,V,Y⟩:=h.lst_inv
 exact f a n af V Y
@[elab_as_elim] theorem Rep.t_ {P:ai->Prop}(h:Rep w g v (.tup l))(f:∀a n af,g a=aa {cls:=aK "tuple",data:=.seq af n}->aP w g af.toList l->P (.ref a)):P v:=by
 obtain⟨a,n,af,rfl,V,Y⟩:=h.rQ
 exact f a n af V Y
theorem Rep.n0(S:St w s g)(h:Rep w g v (.lst l)):∃a af,v=.ref a/\s.heap.IsList a af/\aP w g af.toList l:=
 h.lst_inv.elim λa V=>V.elim λn V=>V.elim λaf V=>V.elim λY V=>V.elim λW Z=>⟨a,af,Y,⟨_,S.sub _ _ W,rfl,n,rfl⟩,Z⟩
theorem Rep.B8(S:St w s g)(h:Rep w g v (.tup l)):∃a af,v=.ref a/\s.heap.IsTuple a af/\aP w g af.toList l:=
 h.rQ.elim λa V=>V.elim λn V=>V.elim λaf V=>V.elim λY V=>V.elim λW Z=>⟨a,af,Y,⟨_,S.sub _ _ W,rfl,n,rfl⟩,Z⟩
theorem aP.det(r:aP w g vs l)(V:aP w g vs l')(h:∀(i:Nat) u x y,l[i]?=aa x->l'[i]?=aa y->Rep w g u x->Rep w g u y->x=y):l=l':=by
 refine qF λi=>?_
 induction hi:vs[i]? with
 |none=>
  have Y:=qq.mp hi
  simp only[qq.mpr (r.1▸Y),qq.mpr (V.1▸Y)]
 |some u=>
  obtain⟨x,W,H⟩:=r.get hi
  obtain⟨y,Z,G⟩:=V.get hi
  simp only[W,Z,h i u x y W Z H G]
theorem Jl{c:String}{x y:Array ai}(h:aa ({cls:=aK c,data:=.seq x n}:Obj)=aa {cls:=aK c,data:=.seq y m}):x=y:=(Data.seq.inj (aQ Obj.data (aW h))).1
theorem BL{x:α}{P:Prop}(h:([]:List α)[i]?=aa x):P:=aZ (E2.symm.trans h) (k_ x).symm
theorem Rep.det(Z:Ty):∀{v:ai} {d H:D},iA Z d->iA Z H->Rep w g v d->Rep w g v H->d=H:=by
 induction Z with
 |int=>
  rintro v _ _ ⟨i,rfl⟩ ⟨j,rfl⟩ h h'
  obtain⟨t,rfl⟩:=h.int_inv
  exact h'.int_inv.elim λu e=>aQ D.int (Qx e).1
 |str=>
  rintro v _ _ ⟨i,rfl⟩ ⟨j,rfl⟩ h h'
  obtain⟨t,rfl⟩:=h.str_inv
  exact h'.str_inv.elim λu e=>aQ D.str (Value.str.inj e).1
 |bool=>
  rintro v _ _ ⟨i,rfl⟩ ⟨j,rfl⟩ h h'
  exact aQ D.bool (Value.bool.inj (h.bool_inv.symm.trans h'.bool_inv))
 |lst t ih=>
  rintro v _ _ ⟨l,rfl,hl⟩ ⟨l',rfl,G⟩ h h'
  obtain⟨a,n,af,rfl,C,B⟩:=h.lst_inv
  obtain⟨a',n',V,e,f,r4⟩:=h'.lst_inv
  obtain rfl:=tz e
  obtain rfl:=Jl (C.symm.trans f)
  exact aQ D.lst (B.det r4 λi u x y hx hy=>ih (hl x (c5 hx)) (G y (c5 hy)))
 |pair t u DE DF=>
  rintro v _ _ ⟨x,y,rfl,h1,h2⟩ ⟨x',y',rfl,h1',h2'⟩ h h'
  obtain⟨a,n,af,rfl,C,B⟩:=h.rQ
  obtain⟨a',n',V,e,f,r4⟩:=h'.rQ
  obtain rfl:=tz e
  obtain rfl:=Jl (C.symm.trans f)
  refine aQ D.tup (B.det r4 λi v p q Y W rp rq=>?_)
  induction i with
  |zero=>exact aW Y▸aW W▸DE h1 h1' (aW Y▸rp) (aW W▸rq)
  |succ i=>induction i with
   |zero=>exact aW Y▸aW W▸DF h2 h2' (aW Y▸rp) (aW W▸rq)
   |succ i=>exact BL (i:=i) Y
noncomputable def eqB(l l':List D)(j:Nat):Bool:=@decide (l[j]?=l'[j]?) (zf _)
theorem eqB_iff:eqB l l' j=ae<->l[j]?=l'[j]?:=@decide_eq_true_iff _ (zf _)
theorem Jm(h:l.length=n)(h':l'.length=n):(dK n).all (eqB l l')=ae<->l=l':=by
 refine ee.trans ?_
 refine⟨λhh=>qF λj=>?_,λe j _=>eqB_iff.mpr (e▸rfl)⟩
 by_cases V:j<n
 ·exact eqB_iff.mp (hh j (gi.mpr V))
 ·simp only[qq.mpr (h▸de.mp V),qq.mpr (h'▸de.mp V)]
open SeqAt in
theorem seq_eq{V:Array ai}(G:aP w g af.toList l)(Y:aP w g V.toList l')(C:∀(j:Nat) p q u v b,l[j]?=aa p->l'[j]?=aa q->Rep w g u p->Rep w g v q->(b=ae<->p=q)->EqAt A s u v b)(j:Nat)(B:j<af.size)(f:j<V.size):EqAt A s af[j] V[j] (eqB l l' j):=by
 refine(G.get (i:=j) (v:=af[j]) (ku.trans (nq B))).elim λp W=>W.elim λZ rp=>?_
 obtain⟨q,H,rq⟩:=Y.get (i:=j) (v:=V[j]) (ku.trans (nq f))
 exact C j p q _ _ _ Z H rp rq (by simp only[eqB_iff,Z,H,E3])
theorem BM[BEq α][LawfulBEq α]{c:α->D}{i j:α}{b:Bool}(Y:∀i j,c i=c j->i=j)(V:b=ae<->c i=c j):(i==j)=b:=hO.mpr (beq_iff_eq.trans ⟨λh=>V.mpr (aQ c h),λh=>Y i j (V.mp h)⟩)
open SeqAt in
theorem Jn{V:ag}{b:Bool}(Y:Value.ref a=.ref V->b=ae)(qk:RcAt A s (.ref a) (.ref V) b/\RcNeAt A s (.ref a) (.ref V) (!b)):EqAt A s (.ref a) (.ref V) b/\RcAt A s (.ref a) (.ref V) b/\RcNeAt A s (.ref a) (.ref V) (!b):=by
 refine⟨?_,qk⟩
 by_cases W:a=V
 ·subst W
  exact(Y rfl)▸(EqAt.same _)
 ·exact EqAt.of_refs W qk.1
open SeqAt in
theorem KW(τ:Ty):∀{A:bN} {v u:ai} {d d':D} {b:Bool},St w s g->Rm τ.dep A->iA τ d->iA τ d'->Rep w g v d->Rep w g u d'->(b=ae<->d=d')->
 EqAt A s v u b/\RcAt A s v u b/\RcNeAt A s v u (!b):=by
 induction τ with
 |int=>
  rintro A v u _ _ b S R ⟨i,rfl⟩ ⟨j,rfl⟩ h h' Y
  refine h.b9 λt=>?_;refine h'.b9 λG=>?_
  exact BM (c:=D.int) (λ_ _=>D.int.inj) Y▸⟨EqAt.int_int i t j G,RcAt.int_int i t j G,RcNeAt.int_int i t j G⟩
 |str=>
  rintro A v u _ _ b S R ⟨i,rfl⟩ ⟨j,rfl⟩ h h' Y
  refine h.dB λt=>?_;refine h'.dB λG=>?_
  exact BM (c:=D.str) (λ_ _=>D.str.inj) Y▸⟨EqAt.str_str i t j G,RcAt.str_str i t j G,RcNeAt.str_str i t j G⟩
 |bool=>
  rintro A v u _ _ b S R ⟨i,rfl⟩ ⟨j,rfl⟩ h h' Y
  rw[h.bool_inv];exact h'.bool_inv▸(BM (c:=D.bool) (λ_ _=>D.bool.inj) Y▸⟨EqAt.bool_bool i j,RcAt.bool_bool i j,RcNeAt.bool_bool i j⟩)
 |lst t ih=>
  rintro A v u _ _ b S R ⟨l,rfl,hl⟩ ⟨l',rfl,lG⟩ h h' Y
  have B:A.units<cLine:=aV (aD (cy _ _) R.2.1) (by decide:9000<cLine)
  have C:v=u->b=ae:=λq=>Y.mpr (Rep.det (.lst t) ⟨l,rfl,hl⟩ ⟨l',rfl,lG⟩ h (q▸h'))
  obtain⟨a,af,rfl,f,ra⟩:=h.n0 S
  obtain⟨a',V,rfl,W,Z⟩:=h'.n0 S
  refine Jn C ?_
  by_cases H:af.size=V.size
  ·have he:=seq_eq (s:=s) ra Z λj p q u v b hp hq rp rq Y=>(ih S (Rm.in1 R) (hl _ (c5 hp)) (lG _ (c5 hq)) rp rq Y).1
   exact(hO.mpr ((Jm ra.1.symm (Z.1.symm.trans H.symm)).trans ⟨λe=>Y.mpr (aQ D.lst e),λe=>D.lst.inj (Y.mp e)⟩):(dK af.size).all (eqB l l')=b)▸⟨RcAt.lists f W H B he,RcNeAt.lists f W H B he⟩
  ·exact(hO.mpr ⟨nofun,λe=>aZ (ra.1.trans ((aQ gk (D.lst.inj (Y.mp e))).trans Z.1.symm)) H⟩:aI=b)▸⟨RcAt.lists_lengths f W (bne_iff_ne.mpr H) B,RcNeAt.lists_lengths f W (bne_iff_ne.mpr H) B⟩
 |pair t G DE DF=>
  rintro A v u _ _ b S R ⟨x,y,rfl,hx,hy⟩ ⟨x',y',rfl,Na,Nb⟩ h h' Y
  have B:A.units<cLine:=aV (aD (cy _ _) R.2.1) (by decide:9000<cLine)
  have C:v=u->b=ae:=λq=>Y.mpr (Rep.det (.pair t G) ⟨x,y,rfl,hx,hy⟩ ⟨x',y',rfl,Na,Nb⟩ h (q▸h'))
  obtain⟨a,af,rfl,f,ra⟩:=h.B8 S
  obtain⟨a',V,rfl,W,Z⟩:=h'.B8 S
  have sS:af.size=2:=ra.1
  have DZ:V.size=2:=Z.1
  have ac7:((dK (min af.size V.size)).all (eqB [x,y] [x',y'])&&af.size==V.size)=b:=by
   rw[sS,DZ]
   exact(Bool.and_true _).trans (hO.mpr ((Jm (l:=[x,y]) (l':=[x',y']) rfl rfl).trans ⟨λe=>Y.mpr (aQ D.tup e),λe=>D.tup.inj (Y.mp e)⟩))
  have he:=seq_eq (s:=s) (A:=A.in1) ra Z λj p q u v b hp hq rp rq Y=>by
   cases j with
   |zero=>
    obtain rfl:=aW hp;obtain rfl:=aW hq
    exact(DE S ((Rm.in1 (n:=max t.dep G.dep) R).le (PR _ _)) hx Na rp rq Y).1
   |succ i=>induction i with
    |zero=>
     obtain rfl:=aW hp;obtain rfl:=aW hq
     exact(DF S ((Rm.in1 (n:=max t.dep G.dep) R).le (Py _ _)) hy Nb rp rq Y).1
    |succ i=>exact BL (i:=i) hp
  exact Jn C (ac7▸⟨RcAt.tuples f W B he,RcNeAt.tuples f W B he⟩)
end
inductive abK(w:a9)(s:av)(g:aY)(k:Bool->Prop)(r:ai)(s':av):Prop
 |mk (c g':_) (hr:r=.bool c) (N:Nx [] s g s' g') (S:St w s' g') (h:k c)
structure bq(n:Nat)(op:oa)(a b:D)(k:Bool->Prop):Prop where
 run:∀(w:a9) (A:bN) (s:av) (g:aY) (v u:ai),St w s g->Rm n A->Rep w g v a->Rep w g u b->∀E,wpAny (model PG w) A (compareOp op v u) (abK w s g k) E s
section
variable {n:Nat} {sc:bf} {ρ:ay} {k:Bool->Prop}
theorem bq.eqT(V:Ty){a b:D}(W:V.dep<=n)(Z:iA V a)(H:iA V b)(G:∀c:Bool,(c=ae<->a=b)->k c):bq n .Eq a b k:=.mk λw A s g v u S R C B E=>by
 let c:Bool:=@decide (a=b) (zf _)
 have Y:c=ae<->a=b:=by simp[c]
 exact(KW V S (R.le W) Z H C B Y).2.1 _ _ _ _ ⟨c,g,rfl,Nx.refl _ _ _,S,G c Y⟩
theorem bq.neT(V:Ty){a b:D}(W:V.dep<=n)(Z:iA V a)(H:iA V b)(G:∀c:Bool,(c=ae<->a≠b)->k c):bq n .NotEq a b k:=.mk λw A s g v u S R C B E=>by
 let c:Bool:=@decide (a=b) (zf _)
 have Y:c=ae<->a=b:=by simp[c]
 exact(KW V S (R.le W) Z H C B Y).2.2 _ _ _ _ ⟨!c,g,rfl,Nx.refl _ _ _,S,G (!c) (by rw[nA,<-qN,Y])⟩
theorem bq.eqI{i j:Int}(V:k (i==j)):bq n .Eq (.int i) (.int j) k:=bq.eqT .int (ck _) ⟨i,rfl⟩ ⟨j,rfl⟩ λc Y=>by
 have:c=(i==j):=by rw[hO,Y,beq_iff_eq];simp
 rw[this];exact V
theorem bq.neI{i j:Int}(V:k (i != j)):bq n .NotEq (.int i) (.int j) k:=bq.neT .int (ck _) ⟨i,rfl⟩ ⟨j,rfl⟩ λc Y=>by
 have:c=(i != j):=by rw[hO,Y,bne_iff_ne];simp
 rw[this];exact V
theorem bq.eqX{i j:Str}(V:k (i==j)):bq n .Eq (.str i) (.str j) k:=bq.eqT .str (ck _) ⟨i,rfl⟩ ⟨j,rfl⟩ λc Y=>by
 have:c=(i==j):=by rw[hO,Y,beq_iff_eq];simp
 rw[this];exact V
theorem bq.neX{i j:Str}(V:k (i != j)):bq n .NotEq (.str i) (.str j) k:=bq.neT .str (ck _) ⟨i,rfl⟩ ⟨j,rfl⟩ λc Y=>by
 have:c=(i != j):=by rw[hO,Y,bne_iff_ne];simp
 rw[this];exact V
theorem bq.lt{i j:Int}(V:k (decide (i<j))):bq n .Lt (.int i) (.int j) k:=.mk λw A s g v u S R Y W E=>by
 refine Y.b9 λt=>?_;refine W.b9 λZ=>?_
 exact adP ⟨_,g,rfl,Nx.refl _ _ _,S,V⟩
theorem bq.le{i j:Int}(V:k (decide (i<=j))):bq n .LtE (.int i) (.int j) k:=.mk λw A s g v u S R Y W E=>by
 refine Y.b9 λt=>?_;refine W.b9 λZ=>?_
 exact adQ ⟨_,g,rfl,Nx.refl _ _ _,S,V⟩
theorem bq.gt{i j:Int}(V:k (decide (j<i))):bq n .Gt (.int i) (.int j) k:=.mk λw A s g v u S R Y W E=>by
 refine Y.b9 λt=>?_;refine W.b9 λZ=>?_
 exact adR ⟨_,g,rfl,Nx.refl _ _ _,S,V⟩
theorem bq.ge{i j:Int}(V:k (decide (j<=i))):bq n .GtE (.int i) (.int j) k:=.mk λw A s g v u S R Y W E=>by
 refine Y.b9 λt=>?_;refine W.b9 λZ=>?_
 exact adS ⟨_,g,rfl,Nx.refl _ _ _,S,V⟩
noncomputable def D.isNone:D->Bool
 |.none=>ae
 |_=>aI
theorem Rep.Jo(h:Rep w g v d):(v==.none)=d.isNone:=by induction h<;>rfl
theorem bq.isNone{a:D}(V:k a.isNone):bq n .Is a .none k:=.mk λw A s g v u S R Y W E=>by
 have e:=W.none_inv;subst e
 exact is_none_gen (Y.Jo▸⟨_,g,rfl,Nx.refl _ _ _,S,V⟩)
theorem bq.isNotNone{a:D}(V:k (!a.isNone)):bq n .IsNot a .none k:=.mk λw A s g v u S R Y W E=>by
 have e:=W.none_inv;subst e
 exact Qb (by exact Y.Jo▸⟨_,g,rfl,Nx.refl _ _ _,S,V⟩)
theorem bq.pR{a b:Bool}(V:k (a != b)):bq n .IsNot (.bool a) (.bool b) k:=.mk λw A s g v u S R Y W E=>by
 have e:=Y.bool_inv;subst e;have e:=W.bool_inv;subst e
 exact isnot_bool ⟨_,g,rfl,Nx.refl _ _ _,S,V⟩
noncomputable def ji(y x:Str):Bool:=!(kr x y 0 x.length 1).isEmpty
theorem bq.inX(V:k (ji y x)):bq n .In (.str y) (.str x) k:=.mk λw A s g v u S R Y W E=>by
 refine Y.dB λt=>?_;refine W.dB λZ=>?_
 exact P.in_str ⟨_,g,rfl,Nx.refl _ _ _,S,V⟩
theorem bq.XU(V:k (!ji y x)):bq n .NotIn (.str y) (.str x) k:=.mk λw A s g v u S R Y W E=>by
 refine Y.dB λt=>?_;refine W.dB λZ=>?_
 exact P.notIn_str ⟨_,g,rfl,Nx.refl _ _ _,S,V⟩
theorem aj.cmp{kd:D->Prop}{op:oa}{l r:au}(h:aj n sc ρ l λa=>aj n sc ρ r λb=>bq n op a b λc=>kd (.bool c))(hm:z_ op r=aI):aj n sc ρ (iO l [op] [r] aM) kd:=.mk λw A ab s g S R V E=>
 wpAny_Compare1 (bg (h.run w A ab s g S R V E) (λv aA ⟨aN,a,Y,Z,H,G⟩=>
  bg (G.run w A ab aA aN Z R (V.step Y S) E) (λu aT ⟨bb,b,W,C,B,f⟩=>
   bg (f.run w A aT bb v u C R (H.mono W.gg) B E) (λr kU q_=>by obtain⟨c,ie,e,gr,ig,hk⟩:=q_;exact e▸⟨ie,_,(Y.trans W).trans gr,ig,.bool _,hk⟩)))) hm
theorem bH.cmp{op:oa}{l r:au}(h:aj n sc ρ l λa=>aj n sc ρ r λb=>bq n op a b k)(hm:z_ op r=aI):bH n sc ρ (iO l [op] [r] aM) k:=.mk λw A ab s g S R V E=>
 vG (bg (h.run w A ab s g S R V E) (λv aA ⟨aN,a,Y,Z,H,G⟩=>
  bg (G.run w A ab aA aN Z R (V.step Y S) E) (λu aT ⟨bb,b,W,C,B,f⟩=>
   bg (f.run w A aT bb v u C R (H.mono W.gg) B E) (λr kU q_=>by
    obtain⟨c,ie,e,gr,ig,hk⟩:=q_
    subst e
    exact nB ⟨ie,(Y.trans W).trans gr,ig,hk⟩)))) hm
theorem bH.not{x:au}(h:bH n sc ρ x λb=>k (!b)):bH n sc ρ (.UnaryOp .Not x aM) k:=.mk λw A ab s g S R V E=>
 wpAny_isTrue_Not (bg (h.run w A ab s g S R V E) (λb s' Y=>by obtain⟨g',N,W,x⟩:=Y;exact⟨g',N,W,x⟩))
noncomputable def D.truth(d:D):Option Bool:=match d with
 |.none=>aa aI
 |.bool b=>aa b
 |.int i=>aa (i != 0)
 |.str x=>aa ((x.length:Int) != 0)
 |.lst l=>aa (!l.isEmpty)
 |.tup _=>aU|.cL _=>aU|.et _=>aU
theorem Ix{b:Bool}(S:St w s g)(R:Rep w g v d)(h:d.truth=aa b)(hl:∀x,d=.str x->x.length<2^63)(V:∀x,d=.lst x->x.length<2^63)(W:k b):
 wpAny (model PG w) A (truthy v) (mh w s g k) E s:=by
 have tk:∀(tk:Nat),mh w s g k b {s with toks:=tk}:=λtk=>(S.ext' (h':=s.heap) (tk:=tk) λ_ _ e=>e).elim λN Z=>⟨g,N,Z,W⟩
 cases d with
 |none=>obtain rfl:=R.none_inv;obtain rfl:=aW h;exact λ_ _ _=>tk _
 |bool x=>obtain rfl:=R.bool_inv;obtain rfl:=aW h;exact nB (tk _)
 |int i=>refine R.b9 λt=>?_;obtain rfl:=aW h;exact adF (tk _)
 |str x=>refine R.dB λt=>?_;obtain rfl:=aW h;exact P.truthy_str (LJ (hl x rfl)) (tk _)
 |lst l=>
  obtain⟨a,af,rfl,H,Y⟩:=R.n0 S
  obtain rfl:=aW h
  have e:af.isEmpty=l.isEmpty:=hO.mpr (Array.isEmpty_iff_size_eq_zero.trans ((iff_of_eq (aQ (·=0) Y.1)).trans (lI.trans Pz.symm)))
  exact wpAny_truthy_list H (YT (V l rfl) Y.1) (e▸tk _)
 |tup l=>exact ns h
 |cL l=>exact ns h
 |et l=>exact ns h
theorem bH.val(h:aj n sc ρ e λd=>∃b,d.truth=aa b/\(∀x,d=.str x->x.length<2^63)/\(∀x,d=.lst x->x.length<2^63)/\k b)(f:∀ab Y,isTrue e ab Y=(do let v <-Y;standAt e.pos;holding [v] (truthy v))):bH n sc ρ e k:=.mk λw A ab s g S R V E=>
 wpAny_isTrue_value (bg (h.run w A ab s g S R V E) (λv aA ⟨aN,d,W,Z,H,b,h1,h2,h3,B⟩=>
  bg (Ix Z H h1 h2 h3 B) (λb aT q_=>by obtain⟨bb,G,C,B⟩:=q_;exact⟨bb,W.trans G,C,B⟩))) (f ab _)
noncomputable def mW(n:Nat)(sc:bf)(ρ:ay)(op:pQ):List au->(Bool->Prop)->Prop
 |[],k=>k (op==.And)
 |x::r,k=>bH n sc ρ x λb=>if (match op with|.And=>!b|.Or=>b) then k b else mW n sc ρ op r k
theorem mh.back{m:Sem Bool}(N:Nx [] s g aA aN)(h:wpAny (model PG w) A m (mh w aA aN k) E aA):wpAny (model PG w) A m (mh w s g k) E aA:=bg h λb s' o=>by
 obtain⟨bb,V,Y,W⟩:=o
 exact⟨bb,N.trans V,Y,W⟩
theorem mW.ok{op:pQ}{l:List au}(h:mW n sc ρ op l k)(w:a9)(A:bN)(ab:Env)(s:av)(g:aY)(S:St w s g)(R:Rm n A)(V:c8 w s g ab sc ρ)(E:ai->av->Prop):
 wpAny (model PG w) A (allTrue op l ab) (mh w s g k) E s:=by
 induction l generalizing s g with
 |nil=>exact a8 (a:=op==.And) ⟨g,Nx.refl _ _ _,S,h⟩
 |cons x r H=>
  induction op with
  |And=>exact wpAny_allTrue_And_cons (bH.wp h S R V λb aA aN Y W Z=>by
   cases b with
   |false=>exact⟨aN,Y,W,Z⟩
   |true=>exact mh.back Y (H Z aA aN W (V.step Y S)))
  |Or=>exact wpAny_allTrue_Or_cons (bH.wp h S R V λb aA aN Y W Z=>by
   cases b with
   |true=>exact⟨aN,Y,W,Z⟩
   |false=>exact mh.back Y (H Z aA aN W (V.step Y S)))
theorem bH.XV{op:pQ}{l:List au}(h:mW n sc ρ op l k):bH n sc ρ (.BoolOp op l aM) k:=.mk λw A ab s g S R V E=>
 wpAny_isTrue_BoolOp (h.ok w A ab s g S R V E)
end
section
variable {n:Nat} {sc:bf} {ρ:ay} {k:D->Prop}
theorem bF.sub{i j:Int}(V:k (.int (i-j))):bF n .Sub (.int i) (.int j) k:=.mk λw A s g v u S R Y W E=>by
 refine Y.b9 λt=>?_;refine W.b9 λZ=>?_
 exact PySem.P.sub_int (Out.toks S (.int _ _) V)
theorem bF.mul{i j:Int}(V:xe i j)(Y:k (.int (i*j))):bF n .Mult (.int i) (.int j) k:=.mk λw A s g v u S R W Z E=>by
 refine W.b9 λt=>?_;refine Z.b9 λH=>?_
 exact PySem.P.mul_int (Out.toks S (.int _ _) Y) V
theorem bF.mod{i j:Int}(V:j≠0)(Y:k (.int (i.fmod j))):bF n .Mod (.int i) (.int j) k:=.mk λw A s g v u S R W Z E=>by
 refine W.b9 λt=>?_;refine Z.b9 λH=>?_
 exact adL V (Out.toks S (.int _ _) Y)
theorem bF.fdiv{i j:Int}(V:j≠0)(Y:Em i j=aI)(W:k (.int (i.fdiv j))):bF n .FloorDiv (.int i) (.int j) k:=.mk λw A s g v u S R Z H E=>by
 refine Z.b9 λt=>?_;refine H.b9 λG=>?_
 exact adw V (Out.toks S (.int _ _) W) (.inl Y)
theorem bF.shl{i j:Int}(W:0<=j)(V:j<=1000000)(Y:i.natAbs<2^64)(Z:k (.int (i*2^j.toNat))):bF n .LShift (.int i) (.int j) k:=.mk λw A s g v u S R H G E=>by
 refine H.b9 λt=>?_;refine G.b9 λC=>?_
 exact ado W V Y (Out.toks S (.int _ _) Z)
theorem bF.abL{i j:Int}(Y:0<=j)(V:(fy i:Int)+j<=2^27)(W:k (.int (i*2^j.toNat))):bF n .LShift (.int i) (.int j) k:=.mk λw A s g v u S R Z H E=>by
 refine Z.b9 λt=>?_;refine H.b9 λG=>?_
 exact adG Y V (Out.toks S (.int _ _) W)
theorem bF.shr{i j:Int}(V:0<=j)(Y:k (.int (i.fdiv (2^j.toNat)))):bF n .RShift (.int i) (.int j) k:=.mk λw A s g v u S R W Z E=>by
 refine W.b9 λt=>?_;refine Z.b9 λH=>?_
 exact adH V (Out.toks S (.int _ _) Y)
theorem bF.band{i j:Int}(V:k (.int (Qc i j))):bF n .BitAnd (.int i) (.int j) k:=.mk λw A s g v u S R Y W E=>by
 refine Y.b9 λt=>?_;refine W.b9 λZ=>?_
 exact adM (Out.toks S (.int _ _) V)
theorem bF.bxor{i j:Int}(V:k (.int (Qd i j))):bF n .BitXor (.int i) (.int j) k:=.mk λw A s g v u S R Y W E=>by
 refine Y.b9 λt=>?_;refine W.b9 λZ=>?_
 exact adN (Out.toks S (.int _ _) V)
theorem Str.len0(h:(x.length==0)=ae):x=⟨#[]⟩:=by
 obtain⟨c⟩:=x
 have:c.size=0:=by simpa[iw] using h
 exact aQ _ (Array.size_eq_zero_iff.mp this)
set_option tactic.hygienic true in
theorem bF.abM(hl:x.length+y.length<=sizeLine)(V:k (.str (x++y))):bF n .Add (.str x) (.str y) k:=.mk λw A s g v u S R W Z E=>by
 refine W.dB λt=>?_;refine Z.dB λH=>?_
 refine PySem.P.add_str ?_
 split
 ·rename_i Y
  have e:=Str.len0 Y;subst e
  have e:(⟨#[]⟩:Str)++y=y:=by show Str.mk (#[]++y.cps)=y;simp
  exact Out.same S (.str _ _) (e▸V)
 ·split
  ·rename_i Y
   have e:=Str.len0 Y;subst e
   have e:x++(⟨#[]⟩:Str)=x:=by rfl
   exact Out.same S (.str _ _) (e▸V)
  ·exact⟨by rw[strLen_append];exact hl,Out.toks S (.str _ _) V⟩
theorem Out.newList(S:St w s g)(h:aP w g af.toList l)(V:k (.lst l)):
 Out w s g k (.ref s.heap.objs.size) {s with heap:=s.heap.push {cls:=aK "list",data:=.seq af},toks:=tk}:=by
 refine(S.alloc (o:={cls:=aK "list",data:=.seq af}) (tk:=tk) rfl (by simp)).elim λN Y=>?_
 exact⟨_,_,N,Y,.lst _ 0 af l (gZ _ _ _) h.1 λi v d W Z=>(h.2 i v d W Z).mono N.gg,V⟩
theorem Out.Kb(S:St w s g)(h:aP w g af.toList l)(V:k (.tup l)):
 Out w s g k (.ref s.heap.objs.size) {s with heap:=s.heap.push {cls:=aK "tuple",data:=.seq af},toks:=tk}:=by
 refine(S.alloc (o:={cls:=aK "tuple",data:=.seq af}) (tk:=tk) rfl (by simp)).elim λN Y=>?_
 exact⟨_,_,N,Y,.tup _ 0 af l (gZ _ _ _) h.1 λi v d W Z=>(h.2 i v d W Z).mono N.gg,V⟩
theorem bF.abN{m:List D}(hl:l.length+m.length<=sizeLine)(W:k (.lst (l++m))):bF n .Add (.lst l) (.lst m) k:=.mk λw A s g v u S R Z H E=>by
 refine Z.j9 λa B i1 G V=>?_
 refine H.j9 λb f i2 C Y=>?_
 refine PySem.P.add_list (S.sub _ _ G) (S.sub _ _ C) (Out.newList (tk:=s.toks) S ?_ W) ?_
 ·rw[zr];exact V.append Y
 ·have:=V.1;have:=Y.1;simp at*;exact LG (by assumption) (by assumption) (by assumption)
theorem FM(af:Array ai)(c:Nat):(rj (λY W=>Y++W) #[] (gJ c af)).toList=(gJ c af.toList).flatten:=by
 have:∀(c:Nat) (V:Array ai),(rj (λY W=>Y++W) V (gJ c af)).toList=V.toList++(gJ c af.toList).flatten:=by
  intro c
  induction c with
  |zero=>intro V;simp
  |succ c Z=>intro V;simp only[zs,iq,Z];simp[zs]
 rw[this];rfl
theorem aP.replicate{ds:List D}(h:aP w g vs ds)(c:Nat):aP w g (gJ c vs).flatten (gJ c ds).flatten:=by
 induction c with
 |zero=>exact aP.nil
 |succ c V=>simp only[zs,zs,vZ,vZ];exact h.append V
theorem GB{l:ag}{k:Nat}{x:Int}{u:Tok}
 (hl:s.heap.get? l=aa {cls:=aK "list",data:=.seq af k})(W:-(2^63:Int)<=x)(Z:x<2^63)(V:af.size*x.toNat<=2^24)
 (h:Q (.ref s.heap.objs.size) {s with heap:=s.heap.push {cls:=aK "list",data:=.seq (rj (λH G=>H++G) #[] (gJ (if af.isEmpty=ae then 0 else x.toNat) af))}}):
 wpAny (model fR w) A (binaryOp .Mult (.ref l) (.int x u)) Q E s:=by
 have Y:s.TypeIs (.ref l) "list":=⟨_,hl,rfl⟩
 refine wpAny_binaryOp_repeat_ref (T:="list") (U:="int") (rfl) Y (λs'=>wJ s' x u) noFill_list_mul F.fills_int_mul F.slot_int_rmul repeat_list F.slot_int_index.lookup ?_
 exact pv F.slot_int_rmul (wJ s x u) F.entry_int_rmul (F.args_int_rmul_2 _ _) (int___rmul___int_list x u l af k) ⟨hl,rfl,Y,pv F.slot_list_mul Y F.entry_list_mul (F.args_list_mul_2 _ _) (AutoListH.list___mul___list_int_3 l af k x u (by simp[vA];exact KU (by assumption) (by assumption)) (by exact Zx (by assumption)) (by simp[zc,sizeLine];exact aD V (bv _))) ⟨hl,h⟩⟩
theorem bF.mulL{j:Int}(V:-(2^63:Int)<=j)(Y:j<2^63)(hl:l.length*j.toNat<=2^24)(G:k (.lst (gJ j.toNat l).flatten)):bF n .Mult (.lst l) (.int j) k:=.mk λw A s g v u S R C B E=>by
 refine C.j9 λa n1 i1 f W=>?_
 refine B.b9 λt=>?_
 have hs:i1.size=l.length:=by have:=W.1;exact this
 refine GB (S.sub _ _ f) V Y (by exact hs▸hl) (Out.newList (tk:=s.toks) S ?_ G)
 rw[FM]
 by_cases Z:i1.isEmpty=ae
 ·rw[bo Z]
  have:i1.toList=[]:=by simpa using Z
  have H:l=[]:=by exact lI.mp (this▸W).1.symm
  subst H
  have:(gJ j.toNat ([]:List D)).flatten=[]:=by simp
  simp only[this];exact aP.nil
 ·rw[be Z];exact W.replicate _
structure mo(n:Nat)(op:xw)(a:D)(k:D->Prop):Prop where
 run:∀(w:a9) (A:bN) (s:av) (g:aY) (v:ai),St w s g->Rm n A->Rep w g v a->∀E,wpAny (model PG w) A (unaryOp op v) (Out w s g k) E s
theorem aj.un{op:xw}{x:au}(h:aj n sc ρ x λa=>mo n op a k):aj n sc ρ (.UnaryOp op x aM) k:=.mk λw A ab s g S R V E=>
 wpAny_UnaryOp (bg (h.run w A ab s g S R V E) (λv aA ⟨aN,a,Y,W,Z,H⟩=>
  Out.back Y (H.run w A aA aN v W R Z E)))
theorem mo.neg{i:Int}(V:k (.int (-i))):mo n .USub (.int i) k:=.mk λw A s g v S R Y E=>by
 refine Y.b9 λt=>?_
 exact adO (Out.toks S (.int _ _) V)
theorem mo.inv{i:Int}(V:k (.int (Qe i))):mo n .Invert (.int i) k:=.mk λw A s g v S R Y E=>by
 refine Y.b9 λt=>?_
 exact adI (Out.toks S (.int _ _) V)
theorem aj.neg{i:Int}(V:k (.int (-i))):aj n sc ρ (.UnaryOp .USub (jF (.int i) c p) aM) k:=aj.un (aj.int (mo.neg V))
theorem aj.Cz{t b o:au}(h:bH n sc ρ t λc=>if c then aj n sc ρ b k else aj n sc ρ o k):aj n sc ρ (.IfExp t b o aM) k:=.mk λw A ab s g S R V E=>
 GI (bg (h.run w A ab s g S R V E) (λc aA H=>by
  obtain⟨aN,Y,W,Z⟩:=H
  induction c with
  |true=>exact Out.back Y (Z.run w A ab aA aN W R (V.step Y S) E)
  |false=>exact Out.back Y (Z.run w A ab aA aN W R (V.step Y S) E)))
theorem aj.abO{x y:au}(h:aj n sc ρ x λd=>∃b,d=.bool b/\if b then aj n sc ρ y k else k (.bool aI)):aj n sc ρ (.BoolOp .And [x,y] aM) k:=.mk λw A ab s g S R V E=>
 wpAny_And2 (bg (h.run w A ab s g S R V E) (λv aA G=>by
  obtain⟨aN,d,Y,W,H,b,C,Z⟩:=G
  subst C
  have e:=H.bool_inv;subst e
  refine nB ?_
  induction b with
  |true=>exact Out.back Y (Z.run w A ab aA aN W R (V.step Y S) E)
  |false=>exact⟨aN,_,Y,W,.bool _,Z⟩))
theorem aj.or2{x y:au}(h:aj n sc ρ x λd=>∃b,d.truth=aa b/\(∀x,d=.str x->x.length<2^63)/\(∀x,d=.lst x->x.length<2^63)/\if b then k d else aj n sc ρ y k):aj n sc ρ (.BoolOp .Or [x,y] aM) k:=.mk λw A ab s g S R V E=>
 wpAny_Or2 (bg (h.run w A ab s g S R V E) (λv aA B=>by
  obtain⟨aN,d,W,Z,H,b,f,h2,h3,G⟩:=B
  refine bg (Ix (k:=λc=>c=b) Z H f h2 h3 rfl) (λc aT ⟨bb,Y,C,hc⟩=>?_)
  subst hc
  induction c with
  |true=>exact⟨bb,d,W.trans Y,C,H.mono Y.gg,G⟩
  |false=>exact Out.back (W.trans Y) (G.run w A ab aT bb C R ((V.step W S).step Y Z) E)))
inductive abP(w:a9)(s:av)(g:aY)(k:List D->Prop)(vs:List ai)(s':av):Prop
 |mk (g' ds:_) (N:Nx [] s g s' g') (S:St w s' g') (R:aP w g' vs ds) (h:k ds)
noncomputable def cn(n:Nat)(sc:bf)(ρ:ay):List au->(List D->Prop)->Prop
 |[],k=>k []
 |e::r,k=>aj n sc ρ e λd=>cn n sc ρ r λds=>k (d::ds)
noncomputable def cu(e:au):Bool:=!e.ctorIdx.beq 22
theorem nH{r:List au}(h:cu e=ae):starEach (e::r) ab=(aI,eval e ab)::starEach r ab:=
 cT h (by cases e<;>first|exact rfl|exact trivial)
theorem cn.ok:∀{l:List au} {k:List D->Prop},l.all cu=ae->cn n sc ρ l k->∀(w:a9) (A:bN) (ab:Env) (s:av) (g:aY) (aM:Pos),St w s g->Rm n A->c8 w s g ab sc ρ->∀E,
 wpAny (model PG w) A (spliced (backTo aM (starEach l ab))) (abP w s g k) E s:=by
 intro l_
 induction l_ with
 |nil=>
  intro k _ h w A ab s g aM S R V E
  exact spliced_nil ⟨g,[],Nx.refl _ _ _,S,aP.nil,h⟩
 |cons e r DG=>
  intro k ha h w A ab s g aM S R V E
  simp only[wu,bB] at ha
  refine qO (h.wp S R V λv aA aN d Y Z H G=>?_) (nH ha.1)
  exact bg (DG ha.2 G w A ab aA aN aM Z R (V.step Y S) E) (λvs aT q_=>by obtain⟨bb,ds,W,C,B,f⟩:=q_;exact⟨bb,d::ds,Y.trans W,C,aP.cons (H.mono W.gg) B,f⟩)
theorem cn.wp{l:List au}{k:List D->Prop}(Y:l.all cu=ae)(h:cn n sc ρ l k){Q:List ai->av->Prop}(S:St w s g)(R:Rm n A)(V:c8 w s g ab sc ρ)(f:∀vs s' g' ds,Nx [] s g s' g'->St w s' g'->aP w g' vs ds->k ds->Q vs s'):wpAny (model PG w) A (spliced (backTo aM (starEach l ab))) Q E s:=
 bg (cn.ok Y h w A ab s g aM S R V E) λv s' o=>by obtain⟨g',d,N,W,Z,H⟩:=o;exact f v s' g' d N W Z H
theorem cn.mono:∀{l:List au} {k k':List D->Prop},cn n sc ρ l k->(∀ds,k ds->k' ds)->cn n sc ρ l k':=by
 intro W
 induction W with
 |nil=>
  intro k k' h V
  exact V _ h
 |cons e r Y=>
  intro k k' h V
  exact aj.mono (k':=λd=>cn n sc ρ r λds=>k' (d::ds)) h λd hd=>Y hd λds h=>V _ h
theorem cn.len:∀{l:List au} {k:List D->Prop},cn n sc ρ l k->cn n sc ρ l λds=>ds.length=l.length/\k ds:=by
 intro Y
 induction Y with
 |nil=>
  intro k h
  exact⟨rfl,h⟩
 |cons e r V=>
  intro k h
  exact aj.mono (k':=λd=>cn n sc ρ r λds=>(d::ds).length=(e::r).length/\k (d::ds)) h λd hd=>cn.mono (V hd) λds h=>⟨aQ _ h.1,h.2⟩
theorem aj.tup{l:List au}(C:l.all cu=ae)(hl:l.length<=1000)(h:cn n sc ρ l λds=>k (.tup ds)):aj n sc ρ (b7 l c aM) k:=.mk λw A ab s g S R V E=>by
 refine zt (bg (cn.ok C h.len w A ab s g aM S R V E) (λvs aA ⟨aN,ds,W,Z,Y,H,G⟩=>⟨?_,?_⟩))
 ·rw[Y.1,H];have:sizeLine=2^24:=rfl;exact bd (aV hl (by decide))
 ·exact(Out.Kb (tk:=aA.toks) Z (af:=vs.toArray) (by exact Y) G).trans W λ_ x=>x
theorem aj.lst{l:List au}(C:l.all cu=ae)(hl:l.length<=1000)(h:cn n sc ρ l λds=>k (.lst ds)):aj n sc ρ (.List l aM) k:=.mk λw A ab s g S R V E=>by
 refine O0 (bg (cn.ok C h.len w A ab s g aM S R V E) (λvs aA ⟨aN,ds,W,Z,Y,H,G⟩=>⟨?_,?_⟩))
 ·rw[Y.1,H];have:sizeLine=2^24:=rfl;exact bd (aV hl (by decide))
 ·exact(Out.newList (tk:=aA.toks) Z (af:=vs.toArray) (by exact Y) G).trans W λ_ x=>x
structure b8(n:Nat)(a b:D)(k:D->Prop):Prop where
 run:∀(w:a9) (A:bN) (s:av) (g:aY) (v u:ai),St w s g->Rm n A->Rep w g v a->Rep w g u b->(∃T id,s.TypeIs v T/\mP (aK T) "__getitem__"=pure (aa (.builtin id)))/\
  ∀E,wpAny (model PG w) A (getItem v u) (Out w s g k) E s
theorem aj.sub{Y:au}(h:aj n sc ρ cX λa=>aj n sc ρ Y λb=>b8 n a b k)(hs:∀o i,GJ Y aI o i=operate [o,i] (getItem o i)):aj n sc ρ (dM cX Y aM) k:=.mk λw A ab s g S R V E=>
 AD (bg (h.run w A ab s g S R V E) (λv aA ⟨aN,a,W,H,G,C⟩=>
  bg (C.run w A ab aA aN H R (V.step W S) E) (λu aT q_=>by
   obtain⟨bb,b,Z,B,f,f_⟩:=q_
   obtain⟨⟨T,id,hT,hl⟩,jQ⟩:=f_.run w A aT bb v u B R (G.mono Z.gg) f
   exact Bc hT hl (Out.back (W.trans Z) (jQ E)) (hs _ _))))
theorem QH{i:Int}(h:lj i n=aa j):j<n/\((i<0/\j=(i+n).toNat/\0<=i+n)\/(0<=i/\j=i.toNat)):=by
 have e:lj i n=if (decide (0<=(if i<0 then i+n else i))&&decide ((if i<0 then i+n else i)<n))=ae then aa (if i<0 then i+n else i).toNat else ak:=rfl
 rw[e] at h
 by_cases hi:i<0
 ·rw[bo hi] at h
  by_cases V:(decide (0<=i+(n:Int))&&decide (i+(n:Int)<n))=ae
  ·rw[bo V] at h
   simp only[bB,decide_eq_true_eq] at V
   obtain rfl:=aW h
   exact⟨by exact LF (by assumption),.inl ⟨hi,rfl,V.1⟩⟩
  ·rw[be V] at h;exact ns h
 ·rw[be hi] at h
  by_cases V:(decide (0<=i)&&decide (i<(n:Int)))=ae
  ·rw[bo V] at h
   simp only[bB,decide_eq_true_eq] at V
   obtain rfl:=aW h
   exact⟨by exact LF (by assumption),.inr ⟨V.1,rfl⟩⟩
  ·rw[be V] at h;exact ns h
theorem b8.tup{i:Int}(V:-(2^63)<=i)(Y:i<2^63)(G:lj i l.length=aa j)(hd:l[j]?=aa d)(C:k d):b8 n (.tup l) (.int i) k:=.mk λw A s g v u S R B f=>by
 refine B.t_ λa n1 i1 Z H=>?_
 refine f.b9 λt=>?_
 have hs:i1.size=l.length:=by have:=H.1;exact this
 refine(H.getD hd).elim λx W=>W.elim λhx rx=>?_
 exact⟨⟨"tuple",_,⟨_,S.sub _ _ Z,rfl⟩,slot_tuple_getitem.lookup⟩,λE=>adq ⟨_,S.sub _ _ Z,rfl,_,rfl⟩ V Y (by exact hs▸G) (by simpa using hx) (Out.same S rx C)⟩
theorem b8.lst{i:Int}(Y:-(2^63)<=i)(W:i<2^63)(f:lj i l.length=aa j)(hd:l[j]?=aa d)(Z:k d):b8 n (.lst l) (.int i) k:=.mk λw A s g v u S R h1 h2=>by
 refine h1.j9 λa n1 i1 H G=>?_
 refine h2.b9 λt=>?_
 have hs:i1.size=l.length:=by have:=G.1;exact this
 obtain⟨x,hx,C⟩:=G.getD hd
 have V:i1[j]?=aa x:=by simpa using hx
 refine⟨⟨"list",_,⟨_,S.sub _ _ H,rfl⟩,E4.lookup⟩,λE=>?_⟩
 have B:s.heap.IsList a i1:=⟨_,S.sub _ _ H,rfl,_,rfl⟩
 rcases(QH f).2 with ⟨hi,rfl,h0⟩|⟨hi,rfl⟩
 ·exact wpAny_getItem_list_neg B hi (by rw[hs];exact Zy (by assumption)) Y (by exact hs▸V) (Out.same S C Z)
 ·exact wpAny_getItem_list B hi W V (Out.same S C Z)
theorem b8.str{i:Int}(V:-(2^63)<=i)(Y:i<2^63)(W:lj i x.length=aa j)(hd:x.cps[j]?=aa c)(Z:k (.str ⟨#[c]⟩)):b8 n (.str x) (.int i) k:=.mk λw A s g v u S R H G=>by
 refine H.dB λt=>?_
 refine G.b9 λC=>?_
 exact⟨⟨"str",_,nM s x t,F.slot_str_getitem.lookup⟩,λE=>PySem.P.getItem_str (by simp;exact KU (by assumption) (by assumption)) (by exact W▸hd) (Out.toks S (.str _ _) Z)⟩
theorem GC{K:Type}{P:K->ai->Bool}{es:List dy}{l:List (K×D)}(W:es.length=l.length)(H:(l.map (·.1)).Nodup)
 (B:∀(i:Nat) (e:dy) (x:K) (d:D),es[i]?=aa e->l[i]?=aa (x,d)->∀y,P y e.key=ae<->y=x){i:Nat}{x:K}{d:D}(hi:l[i]?=aa (x,d)):∃e,es[i]?=aa e/\es.find? (λe=>P x e.key)=aa e:=by
 have V:i<l.length:=(ey.mp hi).1
 have Z:i<es.length:=W▸V
 refine⟨es[i],by simp[Z],?_⟩
 rw[List.find?_eq_some_iff_getElem]
 refine⟨(B i _ x d (by simp[Z]) hi x).mpr rfl,i,Z,rfl,λj f=>?_⟩
 have Y:j<l.length:=eK f V
 have G:j<es.length:=W▸Y
 have C:l[j]?=aa (l[j].1,l[j].2):=by simp[Y]
 induction q:P x es[j].key with
 |false=>rfl
 |true=>
  have h2:=ey.mp hi
  have e2:(l.map (·.1))[j]'(by simpa using Y)=(l.map (·.1))[i]'(by simpa using V):=by simp[<-((B j _ _ _ (by simp[G]) C x).mp q),h2.2]
  exact aZ ((List.nodup_iff_pairwise_ne.mp H|>NM.mp) j i (by simpa using Y) (by simpa using V) f e2) (by simp)
theorem Rep.V4{l:List (Str×D)}(h:Rep w g v (.cL l)):∃a n es,v=.ref a/\g a=aa {cls:=aK "dict",data:=.dict es n}/\es.toList.length=l.length/\(l.map (·.1)).Nodup/\
 (∀(i:Nat) (e:dy) (x:Str) (d:D),es.toList[i]?=aa e->l[i]?=aa (x,d)->(∃t,e.key=.str x t)/\e.hash=hashStr w x)/\
 (∀(i:Nat) (e:dy) (x:Str) (d:D),es.toList[i]?=aa e->l[i]?=aa (x,d)->Rep w g e.val d):=h.inv
theorem Rep.V5{l:List (Int×D)}(h:Rep w g v (.et l)):∃a n es,v=.ref a/\g a=aa {cls:=aK "dict",data:=.dict es n}/\es.toList.length=l.length/\(l.map (·.1)).Nodup/\
 (∀(i:Nat) (e:dy) (x:Int) (d:D),es.toList[i]?=aa e->l[i]?=aa (x,d)->(∃t,e.key=.int x t)/\e.hash=hashInt x)/\
 (∀(i:Nat) (e:dy) (x:Int) (d:D),es.toList[i]?=aa e->l[i]?=aa (x,d)->Rep w g e.val d):=h.inv
theorem rg{t:Tok}:gj y (.str x t)=ae<->y=x:=by
 exact beq_iff_eq.trans eq_comm
theorem isInt_iff{x y:Int}{t:Tok}:pq y (.int x t)=ae<->y=x:=by
 constructor
 ·intro h;obtain⟨V,e⟩:=E5 h;cases e;rfl
 ·rintro rfl;simp[pq]
theorem SV{es:Array dy}{l:List (Str×D)}(ho:h.get? a=aa {cls:=aK "dict",data:=.dict es n})(V:es.toList.length=l.length)(Y:(l.map (·.1)).Nodup)
 (f:∀(i:Nat) (e:dy) (x:Str) (d:D),es.toList[i]?=aa e->l[i]?=aa (x,d)->(∃t,e.key=.str x t)/\e.hash=hashStr w x):
 h.MapOf (strKind PG w) a (findBy gj es)/\∀(i:Nat) (x:Str) (d:D),l[i]?=aa (x,d)->∃e,es.toList[i]?=aa e/\findBy gj es x=aa e.val:=by
 refine⟨⟨_,es,n,ho,⟨rfl,rfl,rfl⟩,rfl,λe he=>?_,λ_=>rfl⟩,λi x d hi=>?_⟩
 ·obtain⟨i,hi,rfl⟩:=zj.mp he
  have W:i<l.length:=by exact V▸hi
  refine(f i es[i] l[i].1 l[i].2 (by simp[hi]) (by simp[W])).elim λZ e2=>Z.elim λt H=>?_
  exact⟨l[i].1,by rw[H];exact(rg (t:=t)).mpr rfl,e2⟩
 ·refine(GC (P:=gj) V Y (λi e x d G C y=>by obtain⟨⟨t,H⟩,_⟩:=f i e x d G C;exact H▸rg) hi).elim λe B=>B.elim λG C=>?_
  refine⟨e,G,?_⟩
  unfold findBy
  rw[<-O2,C];rfl
theorem SW{es:Array dy}{l:List (Int×D)}(ho:h.get? a=aa {cls:=aK "dict",data:=.dict es n})(V:es.toList.length=l.length)(Y:(l.map (·.1)).Nodup)
 (f:∀(i:Nat) (e:dy) (x:Int) (d:D),es.toList[i]?=aa e->l[i]?=aa (x,d)->(∃t,e.key=.int x t)/\e.hash=hashInt x):
 h.MapOf (intKind PG w) a (findBy pq es)/\∀(i:Nat) (x:Int) (d:D),l[i]?=aa (x,d)->∃e,es.toList[i]?=aa e/\findBy pq es x=aa e.val:=by
 refine⟨⟨_,es,n,ho,⟨rfl,rfl,rfl⟩,rfl,λe he=>?_,λ_=>rfl⟩,λi x d hi=>?_⟩
 ·obtain⟨i,hi,rfl⟩:=zj.mp he
  have W:i<l.length:=by exact V▸hi
  refine(f i es[i] l[i].1 l[i].2 (by simp[hi]) (by simp[W])).elim λZ e2=>Z.elim λt H=>?_
  exact⟨l[i].1,by rw[H];exact(isInt_iff (t:=t)).mpr rfl,e2⟩
 ·refine(GC (P:=pq) V Y (λi e x d G C y=>by obtain⟨⟨t,H⟩,_⟩:=f i e x d G C;exact H▸isInt_iff) hi).elim λe B=>B.elim λG C=>?_
  refine⟨e,G,?_⟩
  unfold findBy
  rw[<-O2,C];rfl
theorem Jp{l:List α}{x:α}(h:x∈l):∃i:Nat,l[i]?=aa x:=qy.mp h
theorem b8.cL{l:List (Str×D)}(hd:(x,d)∈l)(W:k d):b8 n (.cL l) (.str x) k:=.mk λw A s g v u S R Z H=>by
 refine ba λV=>?_
 obtain⟨a,n1,es,rfl,Y,G,C,B,f⟩:=Z.V4
 apply V
 refine H.dB λt=>?_
 refine(Jp hd).elim λi hi=>?_
 refine ba λV=>?_
 obtain⟨M,hM⟩:=SV (S.sub _ _ Y) G C B
 obtain⟨e,he,hf⟩:=hM i x d hi
 apply V
 exact⟨⟨"dict",_,⟨_,S.sub _ _ Y,rfl⟩,E6.lookup⟩,λE=>Fh (knd:=strKind PG w) (show gj x (.str x t)=ae from rg.mpr rfl) M hf (Out.toks S (f i e x d he hi) W)⟩
theorem b8.et{l:List (Int×D)}{x:Int}(hd:(x,d)∈l)(W:k d):b8 n (.et l) (.int x) k:=.mk λw A s g v u S R Z H=>by
 refine ba λV=>?_
 obtain⟨a,n1,es,rfl,Y,G,C,B,f⟩:=Z.V5
 apply V
 refine H.b9 λt=>?_
 refine(Jp hd).elim λi hi=>?_
 refine ba λV=>?_
 obtain⟨M,hM⟩:=SW (w:=w) (S.sub _ _ Y) G C B
 obtain⟨e,he,hf⟩:=hM i x d hi
 apply V
 exact⟨⟨"dict",_,⟨_,S.sub _ _ Y,rfl⟩,E6.lookup⟩,λE=>Fh (knd:=intKind PG w) (show pq x (.int x t)=ae from isInt_iff.mpr rfl) M hf (Out.toks S (f i e x d he hi) W)⟩
end
def dq(w:a9)(s:av)(g:aY)(mu:List ag):Prop:=∀a∈mu,sH w s g a
theorem dq.nil:dq w s g []:=fS
theorem sH.of(V:St w aw aE)(N:Nx mu aw aE s g)(M:dq w aw aE mu)(h:aw.heap.get? a=ak\/a∈mu)(H:g a=ak)(G:∃o,s.heap.get? a=aa o):sH w s g a:=by
 refine V.gx.elim λmg W=>?_
 have C:∀Y,s.heap.Ns e9 Y->aw.heap.Ns e9 Y:=λY e=>Jk W e λo q=>N.keep _ _ q (V.dN q (.inr ((Cx W).elim λo' B=>aW (B.1.symm.trans q)▸B.2))) λh=>(M _ h).gx rfl
 refine h.elim (λh=>?_) λh=>?_
 ·have Z:∀b m,aw.heap.Ns b m->a≠b:=λb m hn q=>(Cx hn).elim λo e=>ns ((q▸h).symm.trans e.1)
  refine⟨H,G,?_,Z _ _ W,V.blt.elim λm q=>Z _ _ q.1,V.lim.elim λm q=>Z _ _ q.1,λY f e q1 q=>?_,λhT=>(V.tb hT).elim λps q=>q.elim λ_ q=>ns (h.symm.trans q.1)⟩
  ·induction q:(KH w).lookup a with
   |none=>rfl
   |some ob=>exact ns (h.symm.trans (V.df _ _ q))
  ·exact(V.bmain Y (C Y e)).elim λbm' r=>r.elim λob r=>ns ((tz (aW (q1.symm.trans r.1))▸q▸h).symm.trans r.2.2.1)
 ·have m:=M a h
  exact⟨H,G,m.df,m.gx,m.blt,m.lim,λY f e=>m.bm Y f (C Y e),m.tb⟩
theorem St.changes{mt:List ag}(Y:St w aw aE)(S:St w s g)(W:Nx mu aw aE s g)(M:dq w aw aE mu)(Z:∀a∈mt,(aw.heap.get? a=ak\/a∈mu)/\g a=ak/\∃o,s.heap.get? a=aa o/\cV o)
 (hs:∀b o,b∉mt->s.heap.get? b=aa o->h'.get? b=aa o):
 Nx mt s g {s with heap:=h',toks:=tk} g/\St w {s with heap:=h',toks:=tk} g:=by
 have N:Nx mt s g {s with heap:=h',toks:=tk} g:=⟨λb ob e _ V=>hs b ob V e,λb ob e V=>⟨ob,hs b ob V e⟩,λ_ _ e=>e,λ_ _ _ e _=>e,rfl⟩
 have E:∀b∈mt,sH w s g b:=λb V=>.of Y W M (Z b V).1 (Z b V).2.1 ((Z b V).2.2.elim λo q=>⟨o,q.1⟩)
 exact⟨N,S.step N (λb ob e=>hs b ob (λq=>ns ((Z b q).2.1.symm.trans e)) (S.sub _ _ e)) rfl (λP H ob e=>hs P ob (λq=>(E P q).tb H) e) λb V=>⟨E b V,λo e=>(Z b V).2.2.elim λG q=>aW (q.1.symm.trans e)▸q.2⟩⟩
theorem Nx.over{mt:List ag}(V:Nx mu aw aE s g)(N:Nx mt s g s' g')(Z:∀a∈mt,aw.heap.get? a=ak\/a∈mu):Nx mu aw aE s' g':=
 ⟨λb o e C B=>N.keep b o (V.keep b o e C B) C λq=>(Z b q).elim (λW=>by exact nomatch (W.symm.trans e)) B,λb o e Y=>(V.there b o e Y).elim λH G=>N.there b H G λq=>(Z b q).elim (λW=>by exact nomatch (W.symm.trans e)) Y,λa o e=>N.gg a o (V.gg a o e),
  λa o e h Y=>(V.there a o e Y).elim λH G=>N.old a H G (V.old a o e h Y) λq=>(Z a q).elim (λW=>by exact nomatch (W.symm.trans e)) Y,N.os.trans V.os⟩
structure bj(w:a9)(mu:List ag)(aw:av)(aE:aY)(s:av)(g:aY)(ab:Env)(sc:bf)(ρ:ay)(aB:Str->List ag):Prop where
 gR:St w aw aE
 fw:dq w aw aE mu
 st:St w s g
 nx:Nx mu aw aE s g
 kind:ab.scope.kind=fk
 glob:ab.globals=e9
 gq:ab.builtins=iM
 ks:∀x,KS (ab.kindOf x) (sc.names.lookup x)
 lam:∀c q,d4 sc=aa (c,q)->ab.code=.ref c/\ab.qual=q
 ii:g ab.locals=ak
 gy:∃m,s.heap.Ns ab.locals m
 iW:aw.heap.get? ab.locals=ak\/ab.locals∈mu
 cP:∀x c,ab.cells.lookup x=aa c->g c=ak/\(∃v,s.heap.IsCell c v)/\c≠ab.locals
 lr:∀x c,ab.cells.lookup x=aa c->sc.names.lookup x=aa .cell->aw.heap.get? c=ak\/c∈mu
 ff:∀x y c,ab.cells.lookup x=aa c->ab.cells.lookup y=aa c->x=y
 e6:∀x,sc.names.lookup x=aa .cell\/sc.names.lookup x=aa .free->∃c,ab.cells.lookup x=aa c
 var:∀x b,ρ.lookup x=aa b->∃v,fF s g ab x v/\cU w s g ab v (aB x) b
 dH:∀x b,ρ.lookup x=aa b->∀a∈aB x,((b.isFn=aI->aw.heap.get? a=ak\/a∈mu)/\∃o,s.heap.get? a=aa o)/\a≠ab.locals/\(∀y c,ab.cells.lookup y=aa c->c≠a)
 e7:∀x y b b',ρ.lookup x=aa b->ρ.lookup y=aa b'->b.isFn=aI->x≠y->∀a∈aB x,a∉aB y
section
variable {w:a9} {mu:List ag} {aw s s':av} {aE g g':aY} {ab:Env} {sc:bf} {ρ:ay} {aB:Str->List ag}
theorem bj.cI(A:bj w mu aw aE s g ab sc ρ aB):c8 w s g ab sc ρ:=⟨A.kind,A.glob,A.gq,A.ks,A.lam,A.e6,λx c h=>⟨(A.cP x c h).1,(A.cP x c h).2.1⟩,A.ff,λx b h=>(A.var x b h).elim λv V=>V.elim λY W=>⟨v,aB x,Y,W⟩⟩
theorem bj.step(A:bj w mu aw aE s g ab sc ρ aB)(N:Nx [] s g s' g')(B:St w s' g'):bj w mu aw aE s' g' ab sc ρ aB:=by
 refine A.gy.elim λm C=>?_
 obtain⟨oL,_,_,eL,dL,_⟩:=id C
 refine⟨A.gR,A.fw,B,A.nx.over N (fS),A.kind,A.glob,A.gq,A.ks,A.lam,N.old _ _ eL A.ii (by simp),⟨m,N.ns A.st C (by simp)⟩,A.iW,λx c h=>?_,A.lr,A.ff,A.e6,λx b h=>?_,λx b h a f=>?_,A.e7⟩
 ·refine(A.cP x c h).elim λW Z=>Z.elim λH h3=>H.elim λv Y=>?_
  obtain⟨o,e,d⟩:=id Y
  exact⟨N.old _ _ e W (by simp),⟨v,N.cell A.st Y (by simp)⟩,h3⟩
 ·obtain⟨v,W,Y⟩:=A.var x b h
  exact⟨v,W.step N A.st (ca) (by simp),Y.step N A.st (by simp) (by simp)⟩
 ·refine(A.dH x b h a f).elim λG q3=>G.elim λq1 V=>V.elim λo q2=>?_
  exact⟨⟨q1,N.there a o q2 (ca)⟩,q3⟩
theorem bj.weaken(A:bj w mu aw aE s g ab sc ρ aB)(h:∀x b,aC.lookup x=aa b->ρ.lookup x=aa b):bj w mu aw aE s g ab sc aC aB:=
 ⟨A.gR,A.fw,A.st,A.nx,A.kind,A.glob,A.gq,A.ks,A.lam,A.ii,A.gy,A.iW,A.cP,A.lr,A.ff,A.e6,λx b e=>A.var x b (h x b e),λx b e=>A.dH x b (h x b e),λx y b V e Y=>A.e7 x y b V (h x b e) (h y V Y)⟩
theorem KS.local{a:Option fO}(h:KS a (aa .local)):a=aa .local:=by
 rcases h with h|h
 ·exact h
 ·cases h.2
theorem KS.cell{a:Option fO}(h:KS a (aa .cell)):a=aa .cell:=by
 rcases h with h|h
 ·exact h
 ·exact h.1
theorem KS.glob{a:Option fO}(h:KS a (aa cj)):a=aa cj:=by
 rcases h with h|h
 ·exact h
 ·cases h.2
noncomputable def mine(sc:bf)(x:Str):Bool:=sc.names.lookup x==aa .local||sc.names.lookup x==aa .cell
theorem BN{a:Option fO}(h:(a==aa .local||a==aa .cell)=ae):a=aa .local\/a=aa .cell:=by
 induction a with
 |none=>simp at h
 |some k=>rcases k with _<;>simp_all
theorem lookup_cons_self{b:Bd}:i_ x ((x,b)::ρ)=aa b:=by simp
theorem fi{b:Bd}(h:y≠x):i_ y ((x,b)::ρ)=ρ.lookup y:=by
 refine io.trans ?_
 have:(y==x)=aI:=beq_eq_false_iff_ne.mpr h
 rw[this]
theorem bj.change{mt:List ag}{b b':Bd}{il:List ag}(A:bj w mu aw aE s g ab sc ρ aB)(hx:ρ.lookup x=aa b)(hf:b.isFn=aI)(hf':b'.isFn=aI)(N:Nx mt s g s' g')(S':St w s' g')(C:∀a∈mt,a∈aB x)
 (hmg:∀a∈mt,∀o,s.heap.get? a=aa o->cV o)
 (hr:∀v,fF s g ab x v->cU w s g ab v (aB x) b->cU w s' g' ab v il b')(B:∀a∈il,a∈aB x\/s.heap.get? a=ak):bj w mu aw aE s' g' ab sc ((x,b')::ρ) (λy=>if y=x then il else aB y):=by
 have own:∀a∈aB x,(aw.heap.get? a=ak\/a∈mu)/\a≠ab.locals/\(∀y c,ab.cells.lookup y=aa c->c≠a):=λa h=>by
  obtain⟨⟨q1,_⟩,q2⟩:=A.dH x b hx a h
  exact⟨q1 hf,q2⟩
 obtain⟨m,sI⟩:=A.gy
 obtain⟨oL,_,_,eL,dL,_⟩:=id sI
 have Lm:ab.locals∉mt:=λh=>(own _ (C _ h)).2.1 rfl
 have cm:∀x c,ab.cells.lookup x=aa c->c∉mt:=λx c h q=>(own _ (C _ q)).2.2 x c h rfl
 have new:∀a,s.heap.get? a=ak->aw.heap.get? a=ak\/a∈mu:=λa e=>by
  by_cases C:a∈mu
  ·exact .inr C
  ·induction q:aw.heap.get? a with
   |none=>exact .inl rfl
   |some o=>obtain⟨o',e'⟩:=A.nx.there a o q C;exact ns (e.symm.trans e')
 have H:∀y v,fF s g ab y v->fF s' g' ab y v:=λy v h=>by
  rcases h with ⟨Z,Y,m,h3,h4⟩|⟨Z,c,Y,h3,h4⟩
  ·obtain⟨o,_,_,e,_⟩:=id h3
   exact .inl ⟨Z,N.old _ _ e Y Lm,m,N.ns A.st h3 Lm,h4⟩
  ·obtain⟨o,e,_⟩:=id h4
   exact .inr ⟨Z,c,Y,N.old _ _ e h3 (cm _ _ Y),N.cell A.st h4 (cm _ _ Y)⟩
 refine⟨A.gR,A.fw,S',A.nx.over N λa h=>(own a (C a h)).1,A.kind,A.glob,A.gq,A.ks,A.lam,N.old _ _ eL A.ii Lm,⟨m,N.ns A.st sI Lm⟩,A.iW,λy c h=>?_,A.lr,A.ff,A.e6,λy c h=>?_,λy c h a V=>?_,λy z c c' h h' hc G a V=>?_⟩
 ·obtain⟨Z,⟨v,Y⟩,h3⟩:=A.cP y c h
  obtain⟨o,e,d⟩:=id Y
  exact⟨N.old _ _ e Z (cm _ _ h),⟨v,N.cell A.st Y (cm _ _ h)⟩,h3⟩
 ·by_cases W:y=x
  ·subst W
   rw[lookup_cons_self] at h;obtain rfl:=aW h
   obtain⟨v,Z,Y⟩:=A.var y b hx
   exact⟨v,H _ _ Z,by simp only[if_true];exact hr v Z Y⟩
  ·replace h:=(fi W)▸h
   obtain⟨u,Z,Y⟩:=A.var y c h
   refine⟨u,H _ _ Z,?_⟩
   exact(be W)▸(Y.step N A.st (λa hay f=>A.e7 x y b c hx h hf (Ne.symm W) a (C a f) hay) λ_ a f=>hmg a f)
 ·by_cases W:y=x
  ·subst W
   rw[lookup_cons_self] at h;obtain rfl:=aW h
   simp only[if_true] at V
   obtain⟨v,Z,Y⟩:=A.var y b hx
   refine⟨⟨λ_=>?_,cU.there S' (hr v Z Y) hf' a V⟩,?_⟩
   ·rcases B a V with q|q
    ·exact(own a q).1
    ·exact new a q
   ·rcases B a V with q|q
    ·exact(own a q).2
    ·refine⟨λe=>?_,λz c hz e=>?_⟩
     ·rw[e,eL] at q;exact sn q
     ·obtain⟨_,⟨_,o,e',_⟩,_⟩:=A.cP z c hz
      rw[e,q] at e';exact ns e'
  ·rw[fi W] at h
   rw[be W] at V
   refine(A.dH y c h a V).elim λCZ q3=>CZ.elim λq1 abQ=>abQ.elim λo q2=>?_
   exact⟨⟨q1,N.there a o q2 λhmt=>A.e7 x y b c hx h hf (Ne.symm W) a (C a hmt) V⟩,q3⟩
 ·have qk:∀z c',z≠x->ρ.lookup z=aa c'->∀a∈il,a∉aB z:=λz c' hz h' a V Nc=>by
   rcases B a V with q|q
   ·exact A.e7 x z b c' hx h' hf (Ne.symm hz) a q Nc
   ·obtain⟨⟨_,o,e⟩,_⟩:=A.dH z c' h' a Nc
    exact ns (q.symm.trans e)
  by_cases W:y=x
  ·subst W
   rw[lookup_cons_self] at h;obtain rfl:=aW h
   simp only[if_true] at V
   exact(be (Ne.symm G))▸(qk z c' (Ne.symm G) ((fi (Ne.symm G)).symm.trans h') a V)
  ·rw[fi W] at h
   rw[be W] at V
   by_cases hz:z=x
   ·subst hz
    simp only[if_true]
    exact λq=>qk y c W h a q V
   ·exact(be hz)▸(A.e7 y z c c' h ((fi hz).symm.trans h') hc G a V)
theorem bj.B9{n:Nat}{b:Bd}{ad:List ag}(A:bj w mu aw aE s g ab sc ρ aB)(hx:mine sc x=ae)(hb:cU w s g ab v ad b)
 (ha:∀a∈ad,((b.isFn=aI->aw.heap.get? a=ak\/a∈mu)/\∃o,s.heap.get? a=aa o)/\(a≠ab.locals/\∀y c,ab.cells.lookup y=aa c->c≠a)/\∀y b',ρ.lookup y=aa b'->(b.isFn=aI\/b'.isFn=aI)->y≠x->a∉aB y)
 {Q:Unit->av->Prop}(hQ:∀s',(∃h tk,s'={s with heap:=h,toks:=tk})->bj w mu aw aE s' g ab sc ((x,b)::ρ) (λy=>if y=x then ad else aB y)->(∀u d c,cU w s g ab u d c->(∀a∈d,a≠ab.locals/\∀y c',ab.cells.lookup y=aa c'->c'≠a)->cU w s' g ab u d c)->(∀a o,s.heap.get? a=aa o->a≠ab.locals->(∀y c',ab.cells.lookup y=aa c'->c'≠a)->s'.heap.get? a=aa o)->Q () s')(E:ai->av->Prop):
 wpAny (model PG w) A' (rt ab x v) Q E s:=by
 have finish:∀(i0:ag) (o:Obj) (h':dp) (tk:Nat),(aw.heap.get? i0=ak\/i0∈mu)->g i0=ak->s.heap.get? i0=aa o->(∀vs,o.data≠bC vs)->kG i0 s.heap h'->(∃o',h'.get? i0=aa o')->
  (i0=ab.locals\/∃y,ab.cells.lookup y=aa i0)->(∃m,h'.Ns ab.locals m)->(∀y c,ab.cells.lookup y=aa c->∃v,h'.IsCell c v)->
  fF {s with heap:=h',toks:=tk} g ab x v->(∀y u,y≠x->fF s g ab y u->fF {s with heap:=h',toks:=tk} g ab y u)->bj w mu aw aE {s with heap:=h',toks:=tk} g ab sc ((x,b)::ρ) (λy=>if y=x then ad else aB y)/\(∀u d c,cU w s g ab u d c->(∀a∈d,a≠ab.locals/\∀y c',ab.cells.lookup y=aa c'->c'≠a)->cU w {s with heap:=h',toks:=tk} g ab u d c)/\(∀a o,s.heap.get? a=aa o->a≠ab.locals->(∀y c',ab.cells.lookup y=aa c'->c'≠a)->h'.get? a=aa o):=by
  intro i0 o h' tk t1 t2 t3 t5 t6 t7 t8 t11 t12 t13 t14
  refine(St.changes (mt:=[i0]) (h':=h') (tk:=tk) A.gR A.st A.nx A.fw (λa h=>by
   have:a=i0:=a_.1 h
   subst this;exact⟨t1,t2,o,t3,cV.of t5⟩) (λb ob hb e=>(t6.2 b (by simpa using hb)).trans e)).elim λN S'=>?_
  have V:∀a,(a≠ab.locals/\∀y c,ab.cells.lookup y=aa c->c≠a)->a≠i0:=λa h q=>by
   rcases t8 with e|⟨y,e⟩
   ·exact h.1 (q.trans e)
   ·exact h.2 y i0 e q.symm
  have rb:∀{u:ai} {d:List ag} {c:Bd},cU w s g ab u d c->(∀a∈d,a≠i0)->cU w {s with heap:=h',toks:=tk} g ab u d c:=λh hd=>h.step N A.st (λa B=>by simpa using hd a B) (λ_ a B ob e1=>by
   have:a=i0:=a_.1 B
   subst this;rw[t3] at e1;obtain rfl:=aW e1;exact cV.of t5)
  refine⟨?_,λu d c h hd=>rb h λa sT=>V a (hd a sT),λa o e C Z=>(t6.2 a (V a ⟨C,Z⟩)).trans e⟩
  refine⟨A.gR,A.fw,S',A.nx.over N (λa h=>by
   have:a=i0:=a_.1 h
   subst this;exact t1),A.kind,A.glob,A.gq,A.ks,A.lam,A.ii,t11,A.iW,λy c h=>?_,A.lr,A.ff,A.e6,λy c h=>?_,λy c h a Y=>?_,λy z c c' h h' f yX a Y=>?_⟩
  ·obtain⟨C,Z,h3⟩:=A.cP y c h
   exact⟨C,t12 y c h,h3⟩
  ·by_cases H:y=x
   ·subst H
    replace h:=lookup_cons_self▸h;obtain rfl:=aW h
    refine⟨v,t13,?_⟩
    simp only[if_true]
    exact rb hb λa h=>V a (ha a h).2.1
   ·replace h:=(fi H)▸h
    obtain⟨u,C,Z⟩:=A.var y c h
    refine⟨u,t14 y u H C,?_⟩
    rw[be H]
    exact rb Z λa B=>V a (A.dH y c h a B).2
  ·by_cases H:y=x
   ·subst H;simp only[if_true] at Y
    rw[lookup_cons_self] at h;obtain rfl:=aW h
    refine ba λN_=>?_
    obtain⟨⟨q1,o,q2⟩,q3,_⟩:=ha a Y
    apply N_
    exact⟨⟨q1,o,(t6.2 a (V a q3)).trans q2⟩,q3⟩
   ·rw[fi H] at h;rw[be H] at Y
    refine(A.dH y c h a Y).elim λva q3=>va.elim λq1 lD=>lD.elim λo q2=>?_
    exact⟨⟨q1,o,(t6.2 a (V a q3)).trans q2⟩,q3⟩
  ·by_cases H:y=x
   ·subst H
    rw[lookup_cons_self] at h;obtain rfl:=aW h
    simp only[if_true] at Y
    exact(be (Ne.symm yX))▸((ha a Y).2.2 z c' ((fi (Ne.symm yX)).symm.trans h') (.inl f) (Ne.symm yX))
   ·rw[fi H] at h
    rw[be H] at Y
    by_cases hz:z=x
    ·subst hz
     simp only[if_true]
     intro B
     exact(ha a B).2.2 y c h (.inr f) H Y
    ·rw[fi hz] at h'
     rw[be hz];exact A.e7 y z c c' h h' f yX a Y
 obtain⟨m,B⟩:=A.gy
 rcases BN hx with hk|hk
 ·have kW:=KS.local (hk▸A.ks x)
  refine ba λN_=>?_
  obtain⟨oL,es,ep,eL,dL,rL⟩:=id B
  apply N_
  refine wpAny_storeName_local kW B (λh' G W=>?_) (by rw[A.kind];rfl)
  have dk:=finish ab.locals oL h' (s.toks+1) A.iW A.ii eL (λvs q=>by cases dL.symm.trans q) W (G.elim λo q_=>q_.elim λ_ q_=>q_.elim λ_ q_=>q_.elim λe _=>⟨o,e⟩) (.inl rfl) ⟨_,G⟩ (λy c h=>?_) (.inl ⟨kW,A.ii,_,G,by simp⟩) (λy u H h=>?_)
  ·exact hQ _ ⟨_,_,rfl⟩ dk.1 dk.2.1 dk.2.2
  ·obtain⟨_,⟨v,Z⟩,h3⟩:=A.cP y c h
   exact⟨v,Z.sameBut W h3⟩
  ·rcases h with ⟨C,Z,m',h3,h4⟩|⟨C,c,Z,h3,h4⟩
   ·refine .inl ⟨C,Z,_,G,?_⟩
    have e:m' y=m y:=by
     obtain⟨o1,es1,ep1,e1,d1,_,f1⟩:=h3
     obtain⟨o2,sJ,ep2,e2,d2,_,f2⟩:=B
     rw[e1] at e2;obtain rfl:=aW e2
     replace d2:=d1▸d2;cases d2
     simp only[<-f1,<-f2]
    simp only[be H,<-e,h4]
   ·exact .inr ⟨C,c,Z,h3,h4.sameBut W (A.cP _ _ Z).2.2⟩
 ·have yY:=KS.cell (hk▸A.ks x)
  refine(A.e6 x (.inl hk)).elim λc f=>?_
  obtain⟨c1,⟨v₀,c2⟩,c3⟩:=A.cP x c f
  have ⟨oc,ec,dc⟩:=id c2
  refine wpAny_storeName_cell A.kind yY f c2 (λh' G W=>?_)
  have dk:=finish c oc h' s.toks (A.lr x c f hk) c1 ec (λvs q=>by cases dc.symm.trans q) W (G.elim λo q_=>q_.elim λe _=>⟨o,e⟩) (.inr ⟨x,f⟩) ⟨m,B.sameBut W (Ne.symm c3)⟩ (λy c' h=>?_) (.inr ⟨.inl yY,c,f,c1,G⟩) (λy u H h=>?_)
  ·exact(hQ {s with heap:=h',toks:=s.toks} ⟨h',s.toks,rfl⟩) dk.1 dk.2.1 dk.2.2
  ·by_cases hq:c'=c
   ·subst hq;exact⟨_,G⟩
   ·refine(A.cP y c' h).elim λ_ abR=>abR.elim λabS _=>abS.elim λv Z=>?_
    exact⟨v,Z.sameBut W hq⟩
  ·rcases h with ⟨C,Z,m',h3,h4⟩|⟨C,c',Z,h3,h4⟩
   ·exact .inl ⟨C,Z,m',h3.sameBut W (Ne.symm c3),h4⟩
   ·refine .inr ⟨C,c',Z,h3,h4.sameBut W λq=>H ?_⟩
    subst q
    exact A.ff y x _ Z f
theorem bj.store{n:Nat}{b:Bd}{ad:List ag}(A:bj w mu aw aE s g ab sc ρ aB)(V:mine sc x=ae)(Y:cU w s g ab v ad b)
 (W:∀a∈ad,((b.isFn=aI->aw.heap.get? a=ak\/a∈mu)/\∃o,s.heap.get? a=aa o)/\(a≠ab.locals/\∀y c,ab.cells.lookup y=aa c->c≠a)/\∀y b',ρ.lookup y=aa b'->(b.isFn=aI\/b'.isFn=aI)->y≠x->a∉aB y)
 {Q:Unit->av->Prop}(Z:∀s',(∃h tk,s'={s with heap:=h,toks:=tk})->bj w mu aw aE s' g ab sc ((x,b)::ρ) (λy=>if y=x then ad else aB y)->Q () s')(E:ai->av->Prop):
 wpAny (model PG w) A' (rt ab x v) Q E s:=A.B9 (n:=n) V Y W (λs' e H _ _=>Z s' e H) E
theorem bj.extern{mt:List ag}(A:bj w mu aw aE s g ab sc ρ aB)(N:Nx mt s g s' g')(S':St w s' g')(hm:∀a∈mt,aw.heap.get? a=ak\/a∈mu)(C:ab.locals∉mt)(B:∀x c,ab.cells.lookup x=aa c->c∉mt)
 (hR:∀x b,ρ.lookup x=aa b->∀a∈aB x,a∉mt)(hN:∀a∈mt,∀o,s.heap.get? a=aa o->cV o):bj w mu aw aE s' g' ab sc ρ aB:=by
 obtain⟨m,Z⟩:=A.gy
 obtain⟨oL,_,_,eL,dL,_⟩:=id Z
 have Y:∀y v,fF s g ab y v->fF s' g' ab y v:=λy v h=>by
  rcases h with ⟨W,V,m,h3,f⟩|⟨W,c,V,h3,f⟩
  ·obtain⟨o,_,_,e,_⟩:=id h3
   exact .inl ⟨W,N.old _ _ e V C,m,N.ns A.st h3 C,f⟩
  ·obtain⟨o,e,_⟩:=id f
   exact .inr ⟨W,c,V,N.old _ _ e h3 (B _ _ V),N.cell A.st f (B _ _ V)⟩
 refine⟨A.gR,A.fw,S',A.nx.over N hm,A.kind,A.glob,A.gq,A.ks,A.lam,N.old _ _ eL A.ii C,⟨m,N.ns A.st Z C⟩,A.iW,λy c h=>?_,A.lr,A.ff,A.e6,λy c h=>?_,λy c h a ha=>?_,A.e7⟩
 ·obtain⟨W,⟨v,V⟩,h3⟩:=A.cP y c h
  have ⟨o,e,d⟩:=id V
  exact⟨N.old _ _ e W (B _ _ h),⟨v,N.cell A.st V (B _ _ h)⟩,h3⟩
 ·obtain⟨u,W,V⟩:=A.var y c h
  exact⟨u,Y _ _ W,V.step N A.st (hR y c h) λ_=>hN⟩
 ·refine(A.dH y c h a ha).elim λH q3=>H.elim λq1 G=>G.elim λo q2=>?_
  exact⟨⟨q1,N.there a o q2 (hR y c h a ha)⟩,q3⟩
noncomputable def iQ(ab:Env)(sc:bf)(ρ:ay)(aB:Str->List ag):List ag:=
 ab.locals::(ab.cells.filterMap λp=>if sc.names.lookup p.1=aa .cell/\ab.cells.lookup p.1=aa p.2 then aa p.2 else ak)++ρ.flatMap λp=>match ρ.lookup p.1 with
  |some b=>if b.isFn then [] else aB p.1
  |none=>[]
set_option tactic.hygienic true in
theorem wY(h:a∈iQ ab sc ρ aB):a=ab.locals\/(∃x,ab.cells.lookup x=aa a/\sc.names.lookup x=aa .cell)\/∃x b,ρ.lookup x=aa b/\b.isFn=aI/\a∈aB x:=by
 refine(cQ.mp h).elim (λh=>?_) λh=>?_
 ·rcases bT.mp h with h|h
  ·exact .inl h
  ·obtain⟨p,Z,V⟩:=qE.mp h
   split at V
   ·rename_i W
    obtain rfl:=aW V
    exact .inr (.inl ⟨p.1,W.2,W.1⟩)
   ·exact ns V
 ·obtain⟨p,Z,V⟩:=zM.mp h
  split at V
  ·rename_i b H
   induction Y:b.isFn with
   |true=>rw[Y] at V;simp at V
   |false=>rw[Y] at V;exact .inr (.inr ⟨p.1,b,H,Y,by exact V⟩)
  ·simp at V
theorem Q4:ab.locals∈iQ ab sc ρ aB:=bi
set_option tactic.hygienic true in
theorem ez[BEq α][LawfulBEq α]:∀{l:List (α×β)} {x:α} {b:β},l.lookup x=aa b->(x,b)∈l
 |[],x,b,h=>by simp at h
 |(y,c)::r,x,b,h=>by
  simp only[io] at h
  split at h
  ·rename_i V;obtain rfl:=aW h;rw[eq_of_beq V];exact bi
  ·exact bM _ (ez h)
theorem RY{c:ag}(h:ab.cells.lookup x=aa c)(V:sc.names.lookup x=aa .cell):c∈iQ ab sc ρ aB:=by
 refine cQ.mpr (.inl (bM _ (qE.mpr ⟨(x,c),ez h,?_⟩)))
 exact bo ⟨V,h⟩
theorem tV{b:Bd}(h:ρ.lookup x=aa b)(V:b.isFn=aI)(Y:a∈aB x):a∈iQ ab sc ρ aB:=by
 refine cQ.mpr (.inr (zM.mpr ⟨(x,b),ez h,?_⟩))
 rw[h];simp[V,Y]
theorem bj.LP(H:bj w mu aw aE s g ab sc ρ aB)(h:aw.heap.get? a=ak\/a∈mu)(V:g a=ak)(Y:s.heap.get? a=aa o):sH w s g a:=.of H.gR H.nx H.fw h V ⟨o,Y⟩
theorem bj.rebase(H:bj w mu aw aE s g ab sc ρ aB):bj w (iQ ab sc ρ aB) s g s g ab sc ρ aB/\∀a∈iQ ab sc ρ aB,aw.heap.get? a=ak\/a∈mu:=by
 have Y:∀a∈iQ ab sc ρ aB,(aw.heap.get? a=ak\/a∈mu)/\g a=ak/\∃o,s.heap.get? a=aa o/\∀vs,o.data≠bC vs:=λa V=>by
  rcases wY V with rfl|⟨x,W,Z⟩|⟨x,b,W,Z,h3⟩
  ·refine ba λG=>?_
   obtain⟨m,oL,C,B,eL,f,_⟩:=H.gy
   apply G
   exact⟨H.iW,H.ii,_,eL,λvs e=>nomatch f.symm.trans e⟩
  ·obtain⟨q1,⟨v,o,e,d⟩,_⟩:=H.cP x a W
   exact⟨H.lr x a W Z,q1,o,e,λvs e=>nomatch d.symm.trans e⟩
  ·obtain⟨v,_,q⟩:=H.var x b W
   exact⟨(H.dH x b W a h3).1.1 Z,cU.plain H.st q Z a h3⟩
 exact⟨⟨H.st,λa V=>(Y a V).2.2.elim λo q=>H.LP (Y a V).1 (Y a V).2.1 q.1,H.st,Nx.refl _ _ _,H.kind,H.glob,H.gq,H.ks,H.lam,H.ii,H.gy,.inr Q4,H.cP,λx c h hk=>.inr (RY h hk),H.ff,H.e6,H.var,
  λx b h a V=>⟨⟨λhf=>.inr (tV h hf V),(H.dH x b h a V).1.2⟩,(H.dH x b h a V).2⟩,H.e7⟩,λa V=>(Y a V).1⟩
theorem bj.B'{W:List ag}{V:Str->List ag}(H:bj w mu aw aE s g ab sc ρ aB)(Y:bj w W s g s' g' ab sc aC V)(Z:∀a∈W,aw.heap.get? a=ak\/a∈mu):bj w mu aw aE s' g' ab sc aC V:=by
 refine⟨H.gR,H.fw,Y.st,H.nx.over Y.nx Z,H.kind,H.glob,H.gq,H.ks,H.lam,Y.ii,Y.gy,H.iW,Y.cP,H.lr,H.ff,H.e6,Y.var,λx b h a B=>?_,Y.e7⟩
 refine(Y.dH x b h a B).elim λG f=>G.elim λq1 q2=>?_
 refine⟨⟨λhf=>?_,q2⟩,f⟩
 rcases q1 hf with q|q
 ·by_cases C:a∈mu
  ·exact .inr C
  ·induction e:aw.heap.get? a with
   |none=>exact .inl rfl
   |some o=>obtain⟨o',e'⟩:=H.nx.there a o e C;exact ns (q.symm.trans e')
 ·exact Z a q
end
set_option genCtorIdx false in
set_option genInjectivity false in
inductive Fl where
 |next|brk|cont
 |ret (d:D)
noncomputable def FlR(w:a9)(g:aY):Flow->Fl->Prop
 |.next,.next=>True
 |.brk,.brk=>True
 |.cont,.cont=>True
 |.ret v,.ret d=>Rep w g v d
 |_,_=>False
inductive Fin(w:a9)(mu:List ag)(aw:av)(aE:aY)(ab:Env)(sc:bf)(k:Fl->ay->Prop)(f:Flow)(s':av):Prop
 |mk (g' aC fl dW:_) (H:bj w mu aw aE s' g' ab sc aC dW) (hf:FlR w g' f fl) (hk:k fl aC)
inductive C1(w:a9)(mu:List ag)(aw:av)(aE g:aY)(ab:Env)(sc:bf)(k:ay->Prop)(s':av):Prop
 |mk (g' aC dW:_) (H:bj w mu aw aE s' g' ab sc aC dW) (hg:∀a o,g a=aa o->g' a=aa o) (hk:k aC)
structure aL(n:Nat)(sc:bf)(ρ:ay)(b:List bw)(k:Fl->ay->Prop):Prop where
 run:∀(w:a9) (A:bN) (ab:Env) (mu:List ag) (aw:av) (aE:aY) (s:av) (g:aY) (aB:Str->List ag),bj w mu aw aE s g ab sc ρ aB->Rm n A->∀E,wpAny (model PG w) A (execs b ab) (Fin w mu aw aE ab sc k) E s
structure aO(n:Nat)(sc:bf)(ρ:ay)(b:bw)(k:Fl->ay->Prop):Prop where
 run:∀(w:a9) (A:bN) (ab:Env) (mu:List ag) (aw:av) (aE:aY) (s:av) (g:aY) (aB:Str->List ag),bj w mu aw aE s g ab sc ρ aB->Rm n A->∀E,wpAny (model PG w) A (exec b ab) (Fin w mu aw aE ab sc k) E s
structure fJ(n:Nat)(sc:bf)(ρ:ay)(t:au)(d:D)(k:ay->Prop):Prop where
 run:∀(w:a9) (A:bN) (ab:Env) (mu:List ag) (aw:av) (aE:aY) (s:av) (g:aY) (aB:Str->List ag) (v:ai),bj w mu aw aE s g ab sc ρ aB->Rm n A->Rep w g v d->∀E,
  wpAny (model PG w) A (assign t ab v) (λ_=>C1 w mu aw aE g ab sc k) E s
def Sub(ρ aC:ay):Prop:=∀x b,ρ.lookup x=aa b->aC.lookup x=aa b
theorem Sub.refl(ρ:ay):Sub ρ ρ:=λ_ _ h=>h
theorem Sub.trans{a b c:ay}(h:Sub a b)(h':Sub b c):Sub a c:=λx y e=>h' x y (h x y e)
theorem Sub.cons{b:Bd}(h:aC.lookup x=aa b)(h':Sub ρ aC):Sub ((x,b)::ρ) aC:=λy c e=>by
 by_cases V:y=x
 ·subst V;rw[lookup_cons_self] at e;obtain rfl:=aW e;exact h
 ·rw[fi V] at e;exact h' y c e
theorem Sub.nil:Sub [] ρ:=λx b h=>by simp at h
theorem Sub.under{b:Bd}(h:Sub ρ aC):Sub ((x,b)::ρ) ((x,b)::aC):=λy c e=>by
 by_cases V:y=x
 ·subst V;rw[lookup_cons_self] at e⊢;exact e
 ·rw[fi V] at e⊢;exact h y c e
def cA(ρ:ay)(aC:ay):Prop:=match ρ with
 |[]=>True
 |(x,b)::r=>aC.lookup x=aa b/\cA r aC
theorem cA.sub:∀{ρ aC:ay},cA ρ aC->Sub ρ aC
 |[],_,_=>Sub.nil
 |(_,_)::_,_,h=>Sub.cons h.1 h.2.sub
section
variable {n:Nat} {sc:bf} {ρ:ay}
theorem Fin.mono{k k':Fl->ay->Prop}{f:Flow}(h:Fin w mu aw aE ab sc k f s)(Y:∀fl ρ,k fl ρ->k' fl ρ):Fin w mu aw aE ab sc k' f s:=
 let ⟨g',aC,fl,V,a,b,c⟩:=h;⟨g',aC,fl,V,a,b,Y _ _ c⟩
theorem aL.mono{b:List bw}{k k':Fl->ay->Prop}(h:aL n sc ρ b k)(V:∀fl ρ,k fl ρ->k' fl ρ):aL n sc ρ b k':=.mk λw A ab mu aw aE s g aB H R E=>
 bg (h.run w A ab mu aw aE s g aB H R E) (λf s' o=>o.mono V)
theorem aO.mono{b:bw}{k k':Fl->ay->Prop}(h:aO n sc ρ b k)(V:∀fl ρ,k fl ρ->k' fl ρ):aO n sc ρ b k':=.mk λw A ab mu aw aE s g aB H R E=>
 bg (h.run w A ab mu aw aE s g aB H R E) (λf s' o=>o.mono V)
theorem aL.sub{b:List bw}{k:Fl->ay->Prop}(h:aL n sc ρ b k)(hs:Sub ρ aC):aL n sc aC b k:=.mk λw A ab mu aw aE s g aB H R E=>h.run w A ab mu aw aE s g aB (H.weaken hs) R E
set_option tactic.hygienic true in
theorem aL.nil{k:Fl->ay->Prop}(h:k .next ρ):aL n sc ρ [] k:=.mk λw A ab mu aw aE s g aB H R E=>wg ⟨g,ρ,.next,aB,H,trivial,h⟩
noncomputable def pI(n:Nat)(sc:bf)(r:List bw)(k:Fl->ay->Prop):Fl->ay->Prop:=λfl aC=>match fl with
 |.next=>aL n sc aC r k
 |fl=>k fl aC
theorem aL.cons{st:bw}{r:List bw}{k:Fl->ay->Prop}(h:aO n sc ρ st (pI n sc r k)):aL n sc ρ (st::r) k:=.mk λw A ab mu aw aE s g aB H R E=>by
 refine mF (bg (h.run w A ab mu aw aE s g aB H R E) (λf aA ⟨aN,Y,fl,V,W,Z,G⟩=>?_))
 induction f<;>induction fl<;>first|exact Z.elim|skip
 ·exact G.run w A ab mu aw aE aA aN V W R E
 ·exact⟨aN,Y,_,V,W,Z,G⟩
 ·exact⟨aN,Y,_,V,W,Z,G⟩
 ·exact⟨aN,Y,_,V,W,Z,G⟩
theorem bj.uo{aB:Str->List ag}(A:bj w mu aw aE s g ab sc ρ aB)(Y:mine sc x=ae)(hd:Rep w g v d)
 {Q:Unit->av->Prop}(W:∀s' V,(∃h tk,s'={s with heap:=h,toks:=tk})->bj w mu aw aE s' g ab sc ((x,.dat d)::ρ) V->Q () s')(E:ai->av->Prop):wpAny (model PG w) A' (rt ab x v) Q E s:=
 A.store (n:=0) (b:=.dat d) (ad:=[]) Y ⟨hd,rfl⟩ (λa h=>by simp at h) (λs' e A'=>W s' _ e A') E
theorem aO.assign{k:Fl->ay->Prop}(B:mine sc x=ae)(hs:∀ab,iy cX (aa (aS x p)) aM.line ab=pure aI)
 (h:aj n sc ρ cX λd=>k .next ((x,.dat d)::ρ)):aO n sc ρ (e_ [aS x p] cX aM) k:=.mk λw A ab mu aw aE s g aB H R E=>
 zG (bg (h.run w A ab s g H.st R H.cI E) (λv aA ⟨aN,d,Y,W,Z,G⟩=>
  (H.step Y W).uo B Z (λaT V _ C=>⟨aN,_,.next,V,C,trivial,G⟩) E)) (hs ab)
theorem fJ.name{k:ay->Prop}(W:mine sc x=ae)(h:k ((x,.dat d)::ρ)):fJ n sc ρ (aS x p) d k:=.mk λw A ab mu aw aE s g aB v H R r E=>
 E7 (H.uo W r (λaT V _ Y=>⟨g,_,V,Y,λ_ _ e=>e,h⟩) E)
noncomputable def kM(n:Nat)(sc:bf):ay->List au->List D->(ay->Prop)->Prop
 |ρ,[],[],k=>k ρ
 |ρ,t::ts,d::ds,k=>fJ n sc ρ t d λaC=>kM n sc aC ts ds k
 |_,_,_,_=>False
theorem zX{r:List au}(h:cu e=ae):rk (e::r) ab=(aI,assign e ab)::rk r ab:=
 cT h (by cases e<;>first|exact rfl|exact trivial)
theorem kM.len:∀{ts:List au} {ds:List D} {ρ:ay} {k:ay->Prop},kM n sc ρ ts ds k->(∃aC,k aC->True)->True:=λ_ _=>trivial
theorem kM.ok{ds:List D}{k:ay->Prop}(ha:ts.all cu=ae)(h:kM n sc ρ ts ds k)(w:a9)(A:bN)(ab:Env)(mu:List ag)(aw:av)(aE:aY)(s:av)(g:aY)(aB:Str->List ag)
 (H:bj w mu aw aE s g ab sc ρ aB)(R:Rm n A)(r:aP w g vs ds)(E:ai->av->Prop):wpAny (model PG w) A (Qy ((rk ts ab).map (·.2)) vs) (λ_=>C1 w mu aw aE g ab sc k) E s:=by
 induction ts generalizing ds vs ρ s g aB with
 |nil=>
  induction ds with
  |nil=>
   obtain rfl:=lI.mp r.1
   exact Ev ⟨g,ρ,aB,H,λ_ _ e=>e,h⟩
  |cons _ _=>exact dw h
 |cons t ts ih=>
  cases ds with
  |nil=>exact dw h
  |cons d ds=>
   induction vs with
   |nil=>exact aZ r.1 (v_ _).symm
   |cons v vs=>
    have ha:=(bB _ _).mp ha
    refine(zX ha.1)▸?_
    refine zd (bg (fJ.run h w A ab mu aw aE s g aB v H R r.ia.1 E) λ_ aA q=>?_)
    obtain⟨aN,adX,V,G,W,C⟩:=q
    refine bg (ih ha.2 C aA aN V G (r.ia.2.mono W)) λ_ aT q=>?_
    obtain⟨bb,Z,Y,B,f,f_⟩:=q
    exact⟨bb,Z,Y,B,λa o e=>f _ _ (W _ _ e),f_⟩
theorem tu:∀{ts:List au},ts.all cu=ae->(rk ts ab).length=ts.length/\(rk ts ab).findIdx? (·.1)=ak:=by
 intro Y
 induction Y with
 |nil=>
  intro _
  exact⟨rfl,rfl⟩
 |cons t ts V=>
  intro h
  simp only[wu,bB] at h
  refine(zX h.1)▸?_
  have:=V h.2
  exact⟨aQ _ this.1,by simp[List.findIdx?_cons,this.2]⟩
theorem ExtBut.keeps(x:wB h.objs.size h h'):∀b o,h.get? b=aa o->h'.get? b=aa o:=λb o e=>x b o (eB (cq e)) e
theorem fJ.tup{ds:List D}{k:ay->Prop}(V:ts.all cu=ae)(hl:ds.length=ts.length)(h:kM n sc ρ ts ds k):fJ n sc ρ (b7 ts c p) (.tup ds) k:=.mk λw A ab mu aw aE s g aB v H R r E=>by
 obtain⟨a,af,rfl,W,Y⟩:=r.B8 H.st
 obtain⟨Z,G⟩:=tu (ab:=ab) V
 refine zz R.2.2 W (by simp only[Z,<-hl,<-Y.1];rfl) G λh' C=>?_
 obtain⟨N,B⟩:=H.st.ext' (tk:=s.toks) (ExtBut.keeps C)
 exact h.ok V w A ab mu aw aE _ g aB (H.step N B) R Y E
set_option tactic.hygienic true in
theorem aO.HG{k:Fl->ay->Prop}(hs:∀ab,Aa [b7 ts c p] cX aM.line ab=pure aI)(hw:∀ab:Env,ab.scope.kind=fk->(∀x,KS (ab.kindOf x) (sc.names.lookup x))->mM [b7 ts c p] cX ab=pure ak)
 (h:aj n sc ρ cX λd=>fJ n sc ρ (b7 ts c p) d λaC=>k .next aC):aO n sc ρ (e_ [b7 ts c p] cX aM) k:=.mk λw A ab mu aw aE s g aB H R E=>
 Ai (bg (h.run w A ab s g H.st R H.cI E) (λv aA ⟨aN,d,W,Z,G,C⟩=>
  bg (C.run w A ab mu aw aE aA aN aB v (H.step W Z) R G E) (λ_ aT q_=>by obtain⟨bb,Y,V,B,_,f⟩:=q_;exact⟨bb,Y,.next,V,B,trivial,f⟩))) (hs ab) (hw ab H.kind H.ks)
theorem aO.ret{k:Fl->ay->Prop}(h:aj n sc ρ e λd=>k (.ret d) ρ):aO n sc ρ (.Return (aa e) aM) k:=.mk λw A ab mu aw aE s g aB H R E=>
 wpAny_Return_some (bg (h.run w A ab s g H.st R H.cI E) (λv aA G=>by obtain⟨aN,d,V,Y,W,Z⟩:=G;exact⟨aN,ρ,.ret d,aB,H.step V Y,W,Z⟩))
theorem aO.iff{t:au}{b o:List bw}{k:Fl->ay->Prop}(h:bH n sc ρ t λc=>if c then aL n sc ρ b k else aL n sc ρ o k):aO n sc ρ (.If t b o aM) k:=.mk λw A ab mu aw aE s g aB H R E=>
 Be (bg (h.run w A ab s g H.st R H.cI E) (λc aA Z=>by
  obtain⟨aN,V,Y,W⟩:=Z
  induction c with
  |true=>exact W.run w A ab mu aw aE aA aN aB (H.step V Y) R E
  |false=>exact W.run w A ab mu aw aE aA aN aB (H.step V Y) R E))
theorem aO.cont{k:Fl->ay->Prop}(h:k .cont ρ):aO n sc ρ (.Continue aM) k:=.mk λw A ab mu aw aE s g aB H R E=>by
 show wpAny _ _ (do standAt aM;pure SK) _ _ _
 exact jb (a8 ⟨g,ρ,.cont,aB,H,trivial,h⟩)
set_option tactic.hygienic true in
theorem aO.assert{t:au}{m:Option au}{k:Fl->ay->Prop}(h:bH n sc ρ t λc=>c=ae/\k .next ρ):aO n sc ρ (.Assert t m aM) k:=.mk λw A ab mu aw aE s g aB H R E=>by
 show wpAny _ _ (do standAt aM;if <-isTrue t ab (eval t ab) then pure Flow.next else assertFails t.pos (evalOpt m ab)) _ _ _
 refine jb (aJ (h.wp H.st R H.cI λc aA aN V Y Z=>Z.elim λG W=>?_))
 subst G
 exact a8 ⟨aN,ρ,.next,aB,H.step V Y,trivial,W⟩
structure bJ(n:Nat)(fa:ag)(ds:List D)(k:D->Prop):Prop where
 run:∀(w:a9) (A:bN) (s:av) (g:aY) (vs:List ai),St w s g->Rm n A->aP w g vs ds->∀E,wpAny (model PG w) A (call (.ref fa) vs) (Out w s g k) E s
inductive uA(w:a9)(bA:ai)(bI:Str):Prop
 |mk (c:ag) (oc:Obj) (vs:Array ai) (t:Tok) (h0:bA=.ref c) (h1:(KH w).lookup c=aa oc) (h2:oc.data=bC vs) (h3:vs[1]?=aa (.str bI t))
inductive abT(w:a9)(fa:ag)(name bI:Str)(params:ix)(body:List bw)(sc:bf):Prop
 |mk (doc pm bA ct:ai) (an:Option ag) (h0:(KH w).lookup fa=aa {cls:=aK "function",data:=.func {name,qualname:=bI,params,body:=gP body,scope:=sc,globals:=e9,closure:=[],defaults:=.none,kwdefaults:=.none,doc,pyModule:=pm,annotations:=an,code:=bA,closureTuple:=ct,builtins:=iM}}) (h1:uA w bA bI)
structure r_(fa:ag)(name bI:Str)(params:ix)(body:List bw)(sc:bf):Prop where
 at_:∀w:a9,abT w fa name bI params body sc
end
theorem lT{l:List (Str×α)}{b:α}(V:(l.map (·.1)).Nodup)(h:(x,b)∈l):l.lookup x=aa b:=by
 induction l with
 |nil=>exact aZ h ca
 |cons p r Y=>
  have V:=gH.mp V
  rw[io]
  rcases bT.mp h with e|h
  ·rw[<-e,beq_self_eq_true]
  ·rw[(beq_eq_false_iff_ne (a:=x) (b:=p.1)).mpr λe=>V.1 (show p.1∈_ from e▸kC (f:=(·.1)) h)]
   exact Y V.2 h
theorem lh:∀(aH:List (Str×fO)) (n:Nat) (V:List (Str×ag)),gO n aH V=gO n aH []++V
 |[],n,V=>rfl
 |(y,Y)::r,n,V=>by
  dsimp only[gO]
  split
  ·simp only[lh r (n+1) ((y,n)::V),lh r (n+1) [(y,n)]];simp
  ·exact lh r n V
set_option tactic.hygienic true in
theorem tD:∀(aH:List (Str×fO)) (n:Nat) (x:Str) (c:ag),(x,c)∈gO n aH []->(x,lf)∈aH
 |[],n,x,c,h=>by cases h
 |(y,V)::r,n,x,c,h=>by
  unfold gO at h
  split at h
  ·rename_i Y
   rw[lh] at h
   rcases cQ.mp h with h|h
   ·exact bM _ (tD r _ x c h)
   ·simp at h
    obtain⟨rfl,rfl⟩:=h
    have e:V=lf:=cZ Y
    exact e▸bi
  ·exact bM _ (tD r _ x c h)
theorem AU:∀(aH:List (Str×fO)) (n:Nat) (x:Str),(x,lf)∈aH->∃c,(gO n aH []).lookup x=aa c
 |(y,Y)::r,n,x,h=>by
  dsimp only[gO]
  rcases bT.mp h with e|h
  ·cases e
   rw[bo (by rfl:(lf==lf)=ae),lh,o7]
   induction q:(gO (n+1) r []).lookup y with
   |none=>exact⟨n,by simp⟩
   |some c=>exact⟨c,rfl⟩
  ·split
   ·refine(AU r (n+1) x h).elim λc V=>?_
    rw[lh,o7,V];exact⟨c,rfl⟩
   ·exact AU r n x h
structure cW(w:a9)(s:av)(g:aY)(mu:List ag)(vs:List ai)(bs:List Bd)(bX:Nat->List ag):Prop where
 len:vs.length=bs.length
 rep:∀(i:Nat) v b,vs[i]?=aa v->bs[i]?=aa b->∀ab,cU w s g ab v (bX i) b
 dH:∀(i:Nat) b,bs[i]?=aa b->∀a∈bX i,if b.isFn then (∃o,s.heap.get? a=aa o)/\a∉mu else a∈mu
 e7:∀(i j:Nat) b b',bs[i]?=aa b->bs[j]?=aa b'->b.isFn=aI->i≠j->∀a∈bX i,a∉bX j
 fw:dq w s g mu
theorem cW.dat{ds:List D}(r:aP w g vs ds):cW w s g [] vs (ds.map Bd.dat) (λ_=>[]):=
 ⟨by simp[r.1],λi v b Y V ab=>by
  rw[ci] at V
  induction hd:ds[i]? with
  |none=>rw[hd] at V;exact ns V
  |some d=>rw[hd] at V;obtain rfl:=aW V;exact⟨r.2 i v d Y hd,rfl⟩,λ_ _ _ a h=>by simp at h,λ_ _ _ _ _ _ _ _ a h=>by simp at h,dq.nil⟩
noncomputable def mq(ad:List ag)(bX:Nat->List ag)(i:Nat):List ag:=Nat.casesOn (motive:=λ_=>List ag) i ad bX
theorem cW.nil(M:dq w s g mu):cW w s g mu [] [] (λ_=>[]):=
 ⟨rfl,λ_ _ _ h=>aZ h.symm (k_ _),λ_ _ _ _ h=>aZ h ca,λ_ _ _ _ _ _ _ _ _ h=>aZ h ca,M⟩
theorem cW.cons{b:Bd}{ad:List ag}(hr:∀ab,cU w s g ab v ad b)(f:∀a∈ad,if b.isFn then (∃o,s.heap.get? a=aa o)/\a∉mu else a∈mu)
 (Z:∀j b',bs[j]?=aa b'->(b.isFn=aI\/b'.isFn=aI)->∀a∈ad,a∉bX j)(r:cW w s g mu vs bs bX):cW w s g mu (v::vs) (b::bs) (mq ad bX):=by
 refine⟨aQ (·+1) r.len,λi v' b' H G ab=>?_,λi b' h a V=>?_,λi j C B h h' W Y a V=>?_,r.fw⟩
 ·induction i with
  |zero=>obtain rfl:=aW H;obtain rfl:=aW G;exact hr ab
  |succ i _=>exact r.rep i v' b' H G ab
 ·induction i with
  |zero=>obtain rfl:=aW h;exact f a V
  |succ i _=>exact r.dH i b' h a V
 ·induction i with
  |zero=>induction j with
   |zero=>exact aZ rfl Y
   |succ j _=>obtain rfl:=aW h;exact Z j B h' (.inl W) a V
  |succ i _=>induction j with
   |zero=>obtain rfl:=aW h';exact λq=>Z i C h (.inr W) a q V
   |succ j _=>exact r.e7 i j C B h h' W (λe=>Y (aQ (·+1) e)) a V
structure dQ(w:a9)(s:av)(g:aY)(mu:List ag)(sc:bf)(br:List (Str×ag))(ρ:ay)(jS:Str->List ag):Prop where
 cP:∀x c,br.lookup x=aa c->g c=ak/\∃v,s.heap.IsCell c v
 ff:∀x y c,br.lookup x=aa c->br.lookup y=aa c->x=y
 e6:∀x,sc.names.lookup x=aa .free->∃c,br.lookup x=aa c
 free:∀x c,br.lookup x=aa c->sc.names.lookup x=aa .free
 var:∀x b,ρ.lookup x=aa b->∃c v,br.lookup x=aa c/\s.heap.IsCell c (aa v)/\b.isFn=aI/\∀ab:Env,(∀y c,br.lookup y=aa c->ab.cells.lookup y=aa c)->cU w s g ab v (jS x) b
 ME:∀x b,ρ.lookup x=aa b->∀a∈jS x,a∈mu/\∀y c,br.lookup y=aa c->c≠a
 e7:∀x y b b',ρ.lookup x=aa b->ρ.lookup y=aa b'->x≠y->∀a∈jS x,a∉jS y
theorem dQ.nil(h:∀x,sc.names.lookup x≠aa .free):dQ w s g mu sc [] [] (λ_=>[]):=
 ⟨λx c h=>by simp at h,λx y c h=>by simp at h,λx e=>aZ e (h x),λx c h=>by simp at h,λx b h=>by simp at h,λx b h=>by simp at h,λx y b V h=>by simp at h⟩
theorem bj.fresh{br:List (Str×ag)}
 (S:St w s g)(M:dq w s g mu)(C:dQ w s g mu sc br ρ jS)(iH:(sc.names.map (·.1)).Nodup)(hfo:(s.heap.push fo).Ns s.heap.objs.size (λ_=>ak))(hk:ab.scope.kind=fk)(jT:∀x,KS (ab.kindOf x) (sc.names.lookup x))(C4:∀c q,d4 sc=aa (c,q)->ab.code=.ref c/\ab.qual=q)
 (hl:ab.locals=s.heap.objs.size)(hg:ab.globals=e9)(hb:ab.builtins=iM)(hc:ab.cells=gO (s.heap.objs.size+1) sc.names br):
 bj w mu s g {s with heap:=tQ (s.heap.push fo) sc.names,toks:=tk} g ab sc ρ jS:=by
 have ok:=cellsFrom_ok sc.names (s.heap.push fo) (s.heap.objs.size+1) [] ⟨λ_ _ hm=>(nomatch hm),jX⟩ (by simp only[gX];exact bv _)
 rw[gX] at ok
 have B:∀b o,s.heap.get? b=aa o->(tQ (s.heap.push fo) sc.names).get? b=aa o:=λb o e=>wh _ _ b o (bZ _ e)
 obtain⟨N,S'⟩:=S.ext' (h':=tQ (s.heap.push fo) sc.names) (tk:=tk) B
 have V:∀a,s.heap.objs.size<=a->g a=ak/\s.heap.get? a=ak:=λa ha=>by
  have e:s.heap.get? a=ak:=by
   induction q:s.heap.get? a with
   |none=>rfl
   |some o=>exact aZ (cq q) (de.mpr ha)
  refine⟨?_,e⟩
  induction q:g a with
  |none=>rfl
  |some o=>exact sn ((S.sub _ _ q).symm.trans e)
 have lk:∀x c,ab.cells.lookup x=aa c->((gO (s.heap.objs.size+1) sc.names []).lookup x=aa c/\sc.names.lookup x=aa .cell)\/(br.lookup x=aa c/\sc.names.lookup x=aa .free):=λx c h=>by
  rw[hc,lh,o7] at h
  induction q:(gO (s.heap.objs.size+1) sc.names []).lookup x with
  |some c'=>
   rw[q] at h;obtain rfl:=aW h
   refine .inl ⟨rfl,?_⟩
   exact lT iH (tD _ _ _ _ (ez q))
  |none=>rw[q] at h;exact .inr ⟨h,C.free x c h⟩
 have Y:∀x c,(gO (s.heap.objs.size+1) sc.names []).lookup x=aa c->(tQ (s.heap.push fo) sc.names).IsCell c ak/\s.heap.objs.size<c:=λx c h=>ok.empty x c (ez h)
 have Z:∀x c,br.lookup x=aa c->g c=ak/\(∃v,s.heap.IsCell c v)/\c<s.heap.objs.size:=λx c h=>by
  refine(C.cP x c h).elim λW m_=>m_.elim λv f=>?_
  exact⟨W,⟨v,f⟩,f.lt⟩
 refine⟨S,M,S',N.more (fS),hk,hg,hb,jT,C4,by rw[hl];exact(V _ (bv _)).1,⟨_,by exact hl▸(hfo.keeps (wh _ _))⟩,.inl (hl▸((V _ (bv _)).2)),λx c h=>?_,λx c h Nd=>?_,λx y c W f=>?_,λx h=>?_,λx b h=>?_,λx b h a ha=>?_,λx y b b' h h' _ hxy a ha=>C.e7 x y b b' h h' hxy a ha⟩
 ·rcases lk x c h with ⟨W,_⟩|⟨W,_⟩
  ·obtain⟨H,G⟩:=Y x c W
   exact⟨(V c (bd G)).1,⟨_,H⟩,hl▸(jB G)⟩
  ·obtain⟨H,⟨v,G⟩,q3⟩:=Z x c W
   exact⟨H,⟨v,G.keeps B⟩,by rw[hl];exact eB q3⟩
 ·rcases lk x c h with ⟨W,_⟩|⟨_,f⟩
  ·exact .inl (V c (bd (Y x c W).2)).2
  ·rw[f] at Nd;exact nomatch Nd
 ·rcases lk x c W with ⟨H,_⟩|⟨H,_⟩<;>rcases lk y c f with ⟨G,_⟩|⟨G,_⟩
  ·exact name_of_addr ok.apart (ez H) (ez G)
  ·exact aZ (Y x c H).2 (wx (Z y c G).2.2)
  ·exact aZ (Y y c G).2 (wx (Z x c H).2.2)
  ·exact C.ff x y c H G
 ·rw[hc,lh,o7]
  refine h.elim (λh=>?_) λh=>?_
  ·obtain⟨c,hc⟩:=AU sc.names (s.heap.objs.size+1) x (ez h)
   exact hc▸⟨c,rfl⟩
  ·obtain⟨c,hc⟩:=C.e6 x h
   induction (gO (s.heap.objs.size+1) sc.names []).lookup x with
   |some c'=>exact⟨c',rfl⟩
   |none=>exact⟨c,hc⟩
 ·refine ba λN_=>?_
  obtain⟨c,v,W,f,_,h4⟩:=C.var x b h
  apply N_
  have kY:∀x c,br.lookup x=aa c->ab.cells.lookup x=aa c:=λx c W=>by
   rw[hc,lh,o7]
   induction q:(gO (s.heap.objs.size+1) sc.names []).lookup x with
   |some c'=>
    have:=lT iH (tD _ _ _ _ (ez q))
    rw[C.free x c W] at this;exact nomatch this
   |none=>exact W
  refine⟨v,.inr ⟨?_,c,kY x c W,(Z x c W).1,f.keeps B⟩,(h4 ab kY).step N S (by simp) (by simp)⟩
  rcases jT x with q|q
  ·exact .inr (q.trans (C.free x c W))
  ·exact .inl q.1
 ·refine(C.ME x b h a ha).elim λm1 m2=>?_
  refine ba λN_=>?_
  obtain⟨_,⟨o,e⟩,_⟩:=M a m1
  apply N_
  refine⟨⟨λ_=>.inr m1,o,B a o e⟩,by rw[hl];exact eB (cq e),λy c hy q=>?_⟩
  rcases lk y c hy with ⟨H,_⟩|⟨H,_⟩
  ·exact aZ (Y y c H).2 (wx (q▸cq e))
  ·exact m2 y c H q
theorem j5{b:Bd}:i_ y ((x,b)::ρ)=if y=x then aa b else ρ.lookup y:=by
 by_cases h:y=x
 ·subst h;refine lookup_cons_self.trans ?_;exact(bo rfl).symm
 ·refine(fi h).trans ?_;exact(be h).symm
theorem cW.tail{b:Bd}(r:cW w s g mu (v::vs) (b::bs) bX):cW w s g mu vs bs (λi=>bX (i+1)):=
 ⟨by simpa using r.len,λi v b W Z ab=>r.rep (i+1) v b W Z ab,λi b h a V=>r.dH (i+1) b h a V,λi j b H h h' G Y a V=>r.e7 (i+1) (j+1) b H h h' G (λe=>Y (pi e)) a V,r.fw⟩
set_option tactic.hygienic true in
theorem xg{P:List α->Prop}{l:List α}(h:l.length=n+1)(k:∀a as,as.length=n->P (a::as)):P l:=by
 induction l with
 |nil=>exact aZ h (v_ n).symm
 |cons a as=>exact k a as (pi h)
theorem xz{P:List α->Prop}{l:List α}(h:l.length=0)(k:P []):P l:=lI.mp h▸k
theorem LQ{H G C:Type}{P:List α->List β->List H->List G->List C->Prop}(B:P [] [] [] [] [])(f:∀a b c d e as bs V ds es,P as bs V ds es->P (a::as) (b::bs) (c::V) (d::ds) (e::es))(V:List H):
 ∀{as:List α} {bs:List β} {ds:List G} {es:List C},as.length=V.length->bs.length=V.length->ds.length=V.length->es.length=V.length->P as bs V ds es:=by
 induction V with
 |nil=>exact λ{as bs ds es} Y W hd Z=>xz (P:=λl=>P l _ _ _ _) Y (xz (P:=λl=>P _ l _ _ _) W (xz (P:=λl=>P _ _ _ l _) hd (xz Z B)))
 |cons c V ih=>exact λ{as bs ds es} Y W hd Z=>xg (P:=λl=>P l _ _ _ _) Y λa as Y=>xg (P:=λl=>P _ l _ _ _) W λb bs W=>xg (P:=λl=>P _ _ _ l _) hd λd ds hd=>xg Z λe es Z=>f a b c d e _ _ _ _ _ (ih Y W hd Z)
def uB(w:a9)(mu:List ag)(aw:av)(aE:aY)(ab:Env)(sc:bf)(A:bN)(E:ai->av->Prop)(f:Str×ai->PUnit->Sem (ForInStep PUnit))(aH:List Str)(vs:List ai)(bs:List Bd):Prop:=
 ∀(bX:Nat->List ag) (s:av) (ρ:ay) (aB:Str->List ag) (Q:PUnit->av->Prop),bj w mu aw aE s aE ab sc ρ aB->cW w aw aE mu vs bs bX->
  (∀(i:Nat) b,bs[i]?=aa b->∀a∈bX i,(∃o,s.heap.get? a=aa o)/\a≠ab.locals/\(∀y c,ab.cells.lookup y=aa c->c≠a))->
  (∀(i:Nat) b v,bs[i]?=aa b->vs[i]?=aa v->cU w s aE ab v (bX i) b)->
  (∀x∈aH,mine sc x=ae)->(∀x b,ρ.lookup x=aa b->∀(i:Nat) Y,bs[i]?=aa Y->(b.isFn=aI\/Y.isFn=aI)->∀a∈bX i,a∉aB x)->aH.Nodup->(∀x∈aH,x∉ρ.map (·.1))->
  (∀s',∀V,bj w mu aw aE s' aE ab sc ((aH.zip bs).reverse++ρ) V->Q ⟨⟩ s')->wpAny (model PG w) A (forIn (aH.zip vs) ⟨⟩ f) Q E s
theorem Iy{x:α}{b:β}{aH:List α}{bs:List β}{ρ:List (α×β)}:((x::aH).zip (b::bs)).reverse++ρ=(aH.zip bs).reverse++(x,b)::ρ:=by
 rw[O4,E8,c6];rfl
theorem uB.cons{f:Str×ai->PUnit->Sem (ForInStep PUnit)}(hf:∀n v u,f (n,v) u=(do rt ab n v;pure (.yield ⟨⟩)))
 {x:Str}{v:ai}{b:Bd}{aH:List Str}{vs:List ai}{bs:List Bd}(ih:uB w mu aw aE ab sc A E f aH vs bs):uB w mu aw aE ab sc A E f (x::aH) (v::vs) (b::bs):=by
 intro bX s ρ aB Q H r C hR hm hd hn yZ hQ
 rw[O4,wi,hf]
 refine aJ (aJ (H.B9 (n:=0) (b:=b) (ad:=bX 0) (hm x bi) (hR 0 b v rfl rfl) (λa Y=>?_) (λs' he H' K X=>a8 ?_) E))
 ·have q0:=(C 0 b rfl a Y).1;have q1:=(C 0 b rfl a Y).2
  refine⟨⟨λhf=>?_,q0⟩,q1,λy Z W sU e8=>hd y Z W 0 b rfl sU.symm a Y⟩
  have:=r.dH 0 b rfl a Y
  rw[hf] at this
  exact .inr this
 ·obtain⟨hp,tk,rfl⟩:=he
  refine ih (λi=>bX (i+1)) _ ((x,b)::ρ) _ Q H' r.tail (λi Z h a Y=>⟨?_,(C (i+1) Z h a Y).2⟩) (λi Z v' h1 h2=>K v' (bX (i+1)) Z (hR (i+1) Z v' h1 h2) λa Y=>(C (i+1) Z h1 a Y).2) (λy W=>hm y (bM _ W)) (λy Z W i G hi V a Y=>?_) (gH.mp hn).2 (λy W e=>?_) (λs' B H''=>hQ s' B (Iy.symm▸H''))
  ·exact(C (i+1) Z h a Y).elim λq3 q=>q3.elim λo e=>⟨o,X a o e q.1 q.2⟩
  ·rw[j5] at W
   by_cases e:y=x
   ·rw[bo e] at W⊢
    obtain rfl:=aW W
    rcases V with V|V
    ·exact λq=>r.e7 0 (i+1) b G rfl hi V (v_ i).symm a q Y
    ·exact r.e7 (i+1) 0 G b hi rfl V (v_ i) a Y
   ·rw[be e] at W⊢
    exact hd y Z W (i+1) G hi V a Y
  ·rcases bT.mp e with e|e
   ·exact(gH.mp hn).1 ((show y=x from e)▸W)
   ·exact yZ y (bM _ W) e
theorem bj.binds(f:Str×ai->PUnit->Sem (ForInStep PUnit))(V:∀n v u,f (n,v) u=(do rt ab n v;pure (.yield ⟨⟩)))
 {aH:List Str}{vs:List ai}{bs:List Bd}(hl:aH.length=vs.length)(Y:bs.length=vs.length):uB w mu aw aE ab sc A E f aH vs bs:=
 LQ (P:=λaH bs vs (_ _:List ai)=>uB w mu aw aE ab sc A E f aH vs bs) (λ_ s _ aB _ H _ _ _ _ _ _ _ W=>a8 (W s aB H)) (λ_ _ _ _ _ _ _ _ _ _ Z=>Z.cons V) vs hl Y rfl rfl
noncomputable def gm(name bI:Str)(params:ix)(body:List bw)(sc:bf)(dV kV doc pm bA ct:ai)(an:Option ag):Bb:=
 {name,qualname:=bI,params,body:=gP body,scope:=sc,globals:=e9,closure:=[],defaults:=dV,kwdefaults:=kV,doc,pyModule:=pm,annotations:=an,code:=bA,closureTuple:=ct,builtins:=iM}
noncomputable def bindR(aH:List Str)(bs:List Bd):ay:=aH.zip bs
noncomputable def ls(k:D->ay->Prop):Fl->ay->Prop:=λfl ρ=>match fl with
 |.ret d=>k d ρ
 |.next=>k .none ρ
 |_=>False
noncomputable def fK(k:D->Prop):Fl->ay->Prop:=ls λd _=>k d
theorem CodeRec.of_K(S:St w s g)(h:uA w bA bI):s.heap.CodeRec bA bI:=
 h.rec λc V vs t Y W h3 Z=>⟨c,V,vs,t,Y,S.df _ _ W,h3,Z⟩
theorem Kc(h:dp)(c:ai):(h.push {cls:=c,data:=.dict #[]}).Ns h.objs.size (λ_=>ak):=Heap.Ns.new h c
theorem GU:∀(aH:List Str) (bs:List Bd),((aH.zip bs).map (·.1)).Sublist aH
 |[],bs=>by simp
 |x::aH,[]=>by simp
 |x::aH,b::bs=>by exact(GU aH bs).cons_cons x
theorem HH{l:List Str}(h:l.Nodup):l.reverse.Nodup:=Od.mpr (h.imp λh=>Ne.symm h)
theorem SX(Y:aH.Nodup)(V:∀x∈aH,x∉ρ.map (·.1)):Sub (bindR aH bs++ρ) ((aH.zip bs).reverse++ρ):=λx b h=>by
 rw[o7] at h⊢
 induction q:(bindR aH bs).lookup x with
 |some W=>
  replace h:=q▸h;cases h
  rw[lT (l:=(aH.zip bs).reverse) (by rw[wa];exact HH (Y.sublist (GU aH bs):((aH.zip bs).map (·.1)).Nodup)) (iK.mpr (ez q:(x,b)∈aH.zip bs))];rfl
 |none=>
  replace h:=q▸h
  induction Z:(aH.zip bs).reverse.lookup x with
  |none=>exact h
  |some W=>
   exact aZ (kC (f:=(·.1)) (ez (h:ρ.lookup x=aa b))) (V x ((List.of_mem_zip (iK.mp (ez Z))).1:x∈aH))
theorem Iz{br:List (Str×ag)}{V:Option ag}{code:ai}{Q:Env->av->Prop}
 (S:St w s g)(r:cW w s g mu vs bs bX)(C:dQ w s g mu sc br ρ jS)(iH:(sc.names.map (·.1)).Nodup)(hk:sc.kind=fk)(Nf:aH.Nodup)(jr:aH.length=vs.length)(yZ:∀x∈aH,x∉ρ.map (·.1))(G:∀x∈aH,mine sc x=ae)(kY:br=[]\/∀i,∀a,a∉bX i)(C4:∀c q,d4 sc=aa (c,q)->code=.ref c/\bI=q)
 (hQ:∀ab s' Y,ab.frame=aa ab.locals->bj w mu s g s' g ab sc (bindR aH bs++ρ) Y->Q ab s'):
 wpAny (model PG w) A (zY sc e9 br (aH.zip vs) bI V code ak iM) Q E s:=by
 simp only[zY,Option.isSome_none,O5,if_false]
 refine BK ?_
 refine aJ (Qf _ (λname kind cells=>by cases yY:kind==lf<;>rfl) _ _ _ _ ?_)
 refine(show ({s with heap:=s.heap.push {cls:=aK "frame",data:=.dict #[]}}:av).heap.objs.size=s.heap.objs.size+1 from gX ..)▸?_
 have H:bj w mu s g {s with heap:=tQ (s.heap.push {cls:=aK "frame",data:=.dict #[]}) sc.names} g (newEnv sc s.heap.objs.size e9 (gO (s.heap.objs.size+1) sc.names br) bI V code ak iM) sc ρ jS:=
  bj.fresh (tk:=s.toks) S r.fw C iH (Kc _ _) hk (λx=>.inl rfl) C4 rfl rfl rfl rfl
 have adZ:∀a∈mu,a<s.heap.objs.size:=λa f=>by
  obtain⟨_,⟨o,e⟩,_⟩:=r.fw a f
  exact cq e
 have new:∀x c,(gO (s.heap.objs.size+1) sc.names []).lookup x=aa c->s.heap.objs.size<c:=λx c h=>by
  have ok:=cellsFrom_ok sc.names (s.heap.push {cls:=aK "frame",data:=.dict #[]}) (s.heap.objs.size+1) [] ⟨λ_ _ hm=>(nomatch hm),jX⟩ (by rw[gX];exact bv _)
  rw[gX] at ok
  exact(ok.empty x c (ez h)).2
 refine aJ (bj.binds (aw:=s) (aE:=g) (ab:=newEnv sc s.heap.objs.size e9 (gO (s.heap.objs.size+1) sc.names br) bI V code ak iM) _ (λ_ _ _=>rfl) jr r.len.symm bX _ ρ jS _ H r (λi b hb a f=>?_) (λi b v h1 h2=>?_) G (λx b hxb i b' sU hff a f hax=>?_) Nf yZ λs' Y H'=>a8 ?_)
 ·have hex:∃o,s.heap.get? a=aa o:=by
   have:=r.dH i b hb a f
   induction q:b.isFn with
   |true=>rw[q] at this;exact this.1
   |false=>
    rw[q] at this
    exact(r.fw a this).here
  obtain⟨o,e⟩:=hex
  have lt:=cq e
  refine⟨⟨o,wh _ _ a o (bZ _ e)⟩,eB lt,λy c hc e'=>?_⟩
  rcases kY with rfl|Z
  ·subst e';exact wx lt (new y _ hc)
  ·exact(Z i a f).elim
 ·exact(r.rep i v b h2 h1 _).step (S.ext' (h':=tQ (s.heap.push {cls:=aK "frame",data:=.dict #[]}) sc.names) (tk:=s.toks) λb o e=>wh _ _ b o (bZ _ e)).1 S (by simp) (by simp)
 ·rcases kY with rfl|Z
  ·obtain⟨c,_,q,_⟩:=C.var x b hxb
   simp at q
  ·exact(Z i a f).elim
 ·exact hQ _ s' Y rfl (H'.weaken (SX Nf yZ))
def abU(Q:ai->av->Prop)(f:Flow)(s:av):Prop:=match f with
 |.next=>Q .none s
 |.ret v=>Q v s
 |.brk=>False
 |.cont=>False
@[elab_as_elim] theorem nS {Q E:ai->Prop}{P:um->Prop}(r:um)(h:match r with|.ok (.ret v)=>Q v|.ok _=>False|.error e=>E e)(V:∀v,Q v->P (.ok (.ret v)))(Y:∀e,E e->P (.error e)):P r:=by
 cases r with
 |error e=>exact Y e h
 |ok f=>cases f with
  |ret v=>exact V v h
  |next=>exact dw h
  |brk=>exact dw h
  |cont=>exact dw h
theorem wZ{name:Str}{G:av}{args:Args}{br:List (Str×ag)}
 (S:St w s g)(R:Rm (n+2) A)(r:cW w s g mu vs bs bX)(ho:G.heap.get? fa=aa fo)(B:fo.data=.func {gm name bI params body sc dV kV doc pm bA ct an with closure:=br})(i7:G.heap.CodeRec bA bI)(C:dQ w s g mu sc br ρ jS)(kY:br=[]\/∀i,∀a,a∉bX i)
 (hb:∀(M:n_) (A:bN) (E:ai->av->Prop) (Q:List (Str×ai)->av->Prop),Q (aH.zip vs) s->wpAny M A (bindArgs {gm name bI params body sc dV kV doc pm bA ct an with closure:=br} args) Q E G)(Y:aH.length=bs.length)(W:∀c q,d4 sc=aa (c,q)->bA=.ref c/\bI++(".<locals>.":Str)=q)
 (Z:(decide aH.Nodup&&(sc.kind==fk)&&!sc.isGenerator&&!sc.isCoroutine&&aH.all (mine sc)&&decide ((sc.names.map (·.1)).Nodup)&&aH.all (λx=>!(ρ.map (·.1)).contains x))=ae)(E:ai->av->Prop)
 (h:∀ab aA aB,ab.frame=aa ab.locals->bj w mu s g aA g ab sc (bindR aH bs++ρ) aB->wpAny (model PG w) (A.deeper ab) (execs body ab) (abU Q) (λe s'=>wpAny (model PG w) (A.deeper ab) (leaving ab e) (λ_ V=>E e V) (λe' V=>E e' V) s') aA):
 codeAny (model PG w) A (.call (.ref fa) args) (λr s'=>match r with|.ok (.ret v)=>Q v s'|.ok _=>False|.error e=>E e s') G:=by
 simp only[bB,decide_eq_true_eq,beq_iff_eq,nA,ee] at Z
 refine ba λN_=>?_
 obtain⟨⟨⟨⟨⟨⟨h1,h3⟩,h4⟩,h5⟩,h6⟩,h7⟩,h8⟩:=Z
 apply N_
 refine codeAny_call_function R.room ho B h5 h4 rfl i7 (hb _ _ _ _ ?_)
 refine Iz S r C h7 h3 h1 (by simp only[Y,r.len]) (λx hx hm=>by have:=h8 x hx;rw[qz.mpr hm] at this;exact tf this) h6 kY W λab aA aB jv H=>?_
 refine⟨(H.st.lim:aA.heap.NoLimit),codeAny_func ?_⟩
 refine bg (h ab aA _ jv H) (λf s' h'=>?_)
 induction f<;>first|exact h'|exact h'.elim
theorem HI{name:Str}{k:D->ay->Prop}{Z:av}{args:Args}{br:List (Str×ag)}
 (S:St w s g)(R:Rm (n+2) A)(r:cW w s g mu vs bs bX)(ho:Z.heap.get? fa=aa fo)(G:fo.data=.func {gm name bI params body sc dV kV doc pm bA ct an with closure:=br})(B:Z.heap.CodeRec bA bI)(C:dQ w s g mu sc br ρ jS)(kY:br=[]\/∀i,∀a,a∉bX i)
 (hb:∀(M:n_) (A:bN) (E:ai->av->Prop) (Q:List (Str×ai)->av->Prop),Q (aH.zip vs) s->wpAny M A (bindArgs {gm name bI params body sc dV kV doc pm bA ct an with closure:=br} args) Q E Z)(Y:aH.length=bs.length)(W:∀c q,d4 sc=aa (c,q)->bA=.ref c/\bI++(".<locals>.":Str)=q)
 (hA:(decide aH.Nodup&&(sc.kind==fk)&&!sc.isGenerator&&!sc.isCoroutine&&aH.all (mine sc)&&decide ((sc.names.map (·.1)).Nodup)&&aH.all (λx=>!(ρ.map (·.1)).contains x))=ae)(h:aL n sc (bindR aH bs++ρ) body (ls k))(E:ai->av->Prop):
 codeAny (model PG w) A (.call (.ref fa) args) (λr s'=>match r with|.ok (.ret v)=>∃ab g' aC d V,bj w mu s g s' g' ab sc aC V/\Rep w g' v d/\k d aC|.ok _=>False|.error e=>E e s') Z:=
 wZ (Q:=λv s'=>∃ab g' aC d V,bj w mu s g s' g' ab sc aC V/\Rep w g' v d/\k d aC) S R r ho G B C kY hb Y W hA E λab aA aB _ H=>bg (h.run w _ ab mu s g aA g _ H ((R.le (jD _)).deeper) _) (λf s' q_=>by
  obtain⟨g',aC,fl,V,H',F',h'⟩:=q_
  induction f<;>induction fl<;>first|exact F'.elim|exact h'.elim|exact⟨ab,g',aC,_,V,H',.none,h'⟩|exact⟨ab,g',aC,_,V,H',F',h'⟩)
theorem w0{name:Str}{k:D->ay->Prop}{args:Args}{br:List (Str×ag)}
 (S:St w s g)(R:Rm (n+2) A)(r:cW w s g mu vs bs bX)(f:s.heap.get? fa=aa fo)(Z:fo.data=.func {gm name bI params body sc dV kV doc pm bA ct an with closure:=br})(H:s.heap.CodeRec bA bI)(C:dQ w s g mu sc br ρ jS)(G:br=[]\/∀i,∀a,a∉bX i)
 (hb:fP s {gm name bI params body sc dV kV doc pm bA ct an with closure:=br} args (aH.zip vs))(V:aH.length=bs.length)(Y:∀c q,d4 sc=aa (c,q)->bA=.ref c/\bI++(".<locals>.":Str)=q)
 (B:(decide aH.Nodup&&(sc.kind==fk)&&!sc.isGenerator&&!sc.isCoroutine&&aH.all (mine sc)&&decide ((sc.names.map (·.1)).Nodup)&&aH.all (λx=>!(ρ.map (·.1)).contains x))=ae)(h:aL n sc (bindR aH bs++ρ) body (ls k))(E:ai->av->Prop):
 codeAny (model PG w) A (.call (.ref fa) args) (λr s'=>match r with|.ok (.ret v)=>∃ab g' aC d W,bj w mu s g s' g' ab sc aC W/\Rep w g' v d/\k d aC|.ok _=>False|.error e=>E e s') s:=HI S R r f Z H C G hb V Y B h E
theorem rA:bindR aH bs++[]=bindR aH bs:=cR _
noncomputable def g4(aH:List Str)(scope:bf)(bE:ay):Bool:=decide aH.Nodup&&(scope.kind==fk)&&!scope.isGenerator&&!scope.isCoroutine&&aH.all (mine scope)&&decide ((scope.names.map (·.1)).Nodup)&&aH.all (λx=>!(bE.map (·.1)).contains x)
theorem nO{name:Str}{k:D->ay->Prop}{ps:List ai}{f:List (Str×ai)}
 (S:St w s g)(R:Rm (n+2) A)(r:cW w s g mu vs bs bX)(ho:(KH w).lookup fa=aa fo)(H:fo.data=.func (gm name bI params body sc dV kV doc pm bA ct an))(G:uA w bA bI)
 (hb:fP s (gm name bI params body sc dV kV doc pm bA ct an) ⟨ps,f⟩ (aH.zip vs))(Z:aH.length=bs.length)
 (C:g4 aH sc []=ae)(W:sc.names.all (λx=>!(x.2==.free))=ae)(B:(d4 sc).isNone=ae)(h:aL n sc (bindR aH bs) body (ls k))
 (hQ:∀v s' ab g' aC d Y,bj w mu s g s' g' ab sc aC Y->Rep w g' v d->k d aC->Q v s'):wpAny (model PG w) A (call (.ref fa) ps f) Q E s:=
 lU (mO (w0 S R r (S.df _ _ ho) H (CodeRec.of_K S G) (dQ.nil λx e=>te (ee.mp W _ (ez e))) (.inl rfl) hb Z (λc q e=>aZ ((vC.mp B).symm.trans e) (k_ _).symm) C (rA.symm▸h) E) λr s' hr=>
  nS r hr (λv V=>V.elim λab V=>V.elim λg' V=>V.elim λaC V=>V.elim λd V=>V.elim λY V=>hQ v s' ab g' aC d Y V.1 V.2.1 V.2.2) λ_ h=>h)
theorem bJ.intro{name:Str}{ds:List D}(B:r_ fa name bI params body sc)(W:aH=params.args.map (·.arg))
 (f:∀doc pm bA ct an (s:av) vs,vs.length=ds.length->fP s (gm name bI params body sc .none .none doc pm bA ct an) ⟨vs,[]⟩ (aH.zip vs))
 (Z:g4 aH sc []=ae)(Y:aH.length=ds.length)(V:sc.names.all (λx=>!(x.2==.free))=ae)(G:(d4 sc).isNone=ae)
 (h:aL n sc (bindR aH (ds.map Bd.dat)) body (fK k)):bJ (n+2) fa ds k:=.mk λw A s g vs S R r E=>
 (B.at_ w).rec λdoc pm bA ct an h0 h1=>
 nO S R (cW.dat r) h0 rfl h1 (f doc pm bA ct an s vs r.1) (Y.trans (aR ..).symm) Z V G h λv s' ab g' aC d C H R' hk=>⟨g',d,H.nx,H.st,R',hk⟩
structure bO(sc:bf)(x:Str)(v:ai):Prop where
 run:∀(w:a9) (A:bN) (ab:Env) (s:av) (g:aY) (ρ:ay),St w s g->c8 w s g ab sc ρ->∀(aM:Pos) (Q:ai->av->Prop) E,Q v s->wpAny (model PG w) A (eval (aS x aM) ab) Q E s
 keep:∀(w:a9) (s:av) (g:aY),St w s g->∃k,(k=jC\/k=jA\/k=jx)/\jL (model PG w) s.heap (keeperOf v) k
theorem d3(V:ce x=ae):(x==("__debug__":Str))=aI:=by simp only[ce,bB,nA] at V;exact V.1
theorem bO.top(H:sc.names.lookup x=aa cj)(G:∀w,nsIn (KH w) e9 x=aa (aa (.ref a)))(C:ce x=ae)(Y:∀w,keepIn (KH w) (.ref a)=ae):bO sc x (.ref a) where
 run:=λw A ab s g ρ S V aM Q E B=>by
  refine S.gx.elim λZ W=>?_
  refine zm V.kind (KS.glob (H▸V.ks x)) (E9 (mg:=Z) (by exact V.glob▸W) (mg_of S.df W (G w)) B) (d3 C)
 keep:=λw s g S=>keeps_K (Y w) _ S.df
theorem bO.boot(C:sc.names.lookup x=aa cj)(B:∀w,nsIn (KH w) e9 x=aa ak)(f:ce x=ae)(hv:Gl x=aa v)(W:x≠"__name__")(hr:∀a,v≠.ref a):bO sc x v where
 run:=λw A ab s g ρ S V aM Q E hQ=>by
  refine S.gx.elim λH Y=>?_
  obtain⟨G,Z,hb⟩:=S.blt
  exact zm V.kind (KS.glob (C▸V.ks x)) (loadGlobal_builtin (mg:=H) (mb:=G) (by exact V.glob▸Y) (mg_none_of S.df Y (B w)) (V.gq▸Z) ((hb x W).trans hv) hQ) (d3 f)
 keep:=λw s g S=>⟨.machine,.inr (.inl rfl),Qz (by induction v<;>first|rfl|exact aZ rfl (hr _))⟩
section
variable {n:Nat} {sc:bf} {ρ:ay} {k:D->Prop}
theorem aj.top(Z:sc.names.lookup x=aa cj)(H:∀w,nsIn (KH w) e9 x=aa (aa v))(G:ce x=ae)(hd:∀w g,Rep w g v d)(h:k d):aj n sc ρ (aS x p) k:=.mk λw A ab s g S R V E=>by
 obtain⟨W,Y⟩:=S.gx
 exact zm V.kind (KS.glob (Z▸V.ks x)) (E9 (mg:=W) (by exact V.glob▸Y) (mg_of S.df Y (H w)) (Out.same S (hd w g) h)) (d3 G)
structure bk(n:Nat)(f:ai)(ds:List D)(k:D->Prop):Prop where
 run:∀(w:a9) (A:bN) (s:av) (g:aY) (vs:List ai),St w s g->Rm n A->aP w g vs ds->∀E,wpAny (model PG w) A (call f vs) (Out w s g k) E s
theorem bJ.oR{ds:List D}(h:bJ n fa ds k):bk n (.ref fa) ds k:=⟨λw A s g vs S R r E=>h.run w A s g vs S R r E⟩
theorem bJ.le{ds:List D}(h:bJ m fa ds k)(V:m<=n):bJ n fa ds k:=⟨λw A s g vs S R r E=>h.run w A s g vs S (R.le V) r E⟩
theorem bJ.mono{ds:List D}(h:bJ n fa ds k)(V:∀d,k d->k' d):bJ n fa ds k':=⟨λw A s g vs S R r E=>bg (h.run w A s g vs S R r E) (λv s' o=>o.trans (Nx.refl _ _ _) V)⟩
theorem bk.mono{f:ai}{ds:List D}(h:bk n f ds k)(V:∀d,k d->k' d):bk n f ds k':=⟨λw A s g vs S R r E=>bg (h.run w A s g vs S R r E) (λv s' o=>o.trans (Nx.refl _ _ _) V)⟩
section
variable {M:n_} {A:bN} {E:ai->av->Prop} {s:av}
theorem fj{f:ai}{Y:List (Bool×Sem ai)}{V:List (Option Str×Sem ai)}{Q:Args->av->Prop}(G:Y.all (λx=>!x.1)=ae)(H:V.all (·.1.isSome)=ae)
 (h:wpAny M A (spliced Y) (λvs aA=>wpAny M A (evalAll (V.map (·.2))) (λks aT=>Q ⟨vs,(V.filterMap (·.1)).zip ks⟩ aT) E aA) E s):
 wpAny M A (evalArgs f ae Y V) Q E s:=by
 dsimp only[evalArgs]
 match Y,G,h with
 |[],_,h=>
  refine aJ (eg h (λvs aA W=>?_) λ_ _ x=>x)
  refine eH ?_
  simp only[H,if_true]
  refine aJ (eg W (λks aT Z=>?_) λ_ _ x=>x)
  exact fY (a8 Z)
 |(aI,x)::r,_,h=>
  refine aJ (eg h (λvs aA W=>?_) λ_ _ x=>x)
  refine eH ?_
  simp only[H,if_true]
  refine aJ (eg W (λks aT Z=>?_) λ_ _ x=>x)
  exact fY (a8 Z)
end
theorem cE:∀{l:List au} {ab:Env} {aM:Pos},l.all cu=ae->(backTo aM (starEach l ab)).all (λx=>!x.1)=ae/\(backTo aM (starEach l ab)).any (·.1)=aI
 |[],_,_,_=>⟨rfl,rfl⟩
 |e::r,ab,aM,h=>by
  simp only[wu,bB] at h
  have V:=cE (ab:=ab) (aM:=aM) h.2
  exact(nH h.1)▸⟨by refine V.1.trans ?_;rfl,by refine V.2.trans ?_;rfl⟩
theorem aj.call{args:List au}{f:ai}(C:bO sc x f)(G:args.all cu=ae)(h:cn n sc ρ args λds=>bk n f ds k):aj n sc ρ (bU (aS x np) args [] aM) k:=.mk λw A ab s g S R V E=>by
 refine lM (C.run w A ab s g ρ S V np _ E ?_)
 refine j6 (P:=λB=>∃k,(k=jC\/k=jA\/k=jx)/\jL (model PG w) B (keeperOf f) k) (by rw[(cE G).2];rfl) (λ_ q=>q) ?_
 refine fj (cE G).1 rfl (bg (cn.ok G h w A ab s g aM S R V E) (λvs aA ⟨aN,ds,W,Y,Z,H⟩=>?_))
 refine fz ⟨C.keep w aA aN Y,?_⟩
 exact Out.back W (H.run w A aA aN vs Y R Z E)
noncomputable def D.ty:D->String
 |.none=>"NoneType"
 |.bool _=>"bool"
 |.int _=>"int"
 |.str _=>"str"
 |.tup _=>"tuple"
 |.lst _=>"list"
 |.cL _=>"dict"
 |.et _=>"dict"
theorem Rep.typeIs(S:St w s g)(h:Rep w g v d):s.TypeIs v d.ty/\∀a,v=.ref a->∃o,s.heap.get? a=aa o/\o.dict=aU:=by
 induction h with
 |none=>exact⟨typeIs_none s,λa e=>by cases e⟩
 |bool b=>exact⟨PySem.typeIs_bool s b,λa e=>by cases e⟩
 |int i t=>exact⟨wJ s i t,λa e=>by cases e⟩
 |str x t=>exact⟨nM s x t,λa e=>by cases e⟩
 |tup a n af l V Y _=>exact⟨⟨_,S.sub _ _ V,rfl⟩,λb e=>by cases e;exact⟨_,S.sub _ _ V,rfl⟩⟩
 |lst a n af l V Y _=>exact⟨⟨_,S.sub _ _ V,rfl⟩,λb e=>by cases e;exact⟨_,S.sub _ _ V,rfl⟩⟩
 |cL a n es l V Y W Z _=>exact⟨⟨_,S.sub _ _ V,rfl⟩,λb e=>by cases e;exact⟨_,S.sub _ _ V,rfl⟩⟩
 |et a n es l V Y W Z _=>exact⟨⟨_,S.sub _ _ V,rfl⟩,λb e=>by cases e;exact⟨_,S.sub _ _ V,rfl⟩⟩
structure cO(T:String)(name:Str)(id:String):Prop where
 pa:PlainAttrs T
 slot:Slot T name id
 ty:typeOf (.builtin id)=pure (aK "method_descriptor")
theorem Kd{l:List (Bool×Sem ai)}(h:l.all (!·.1)=ae)(V:n<30):FQ n l (backToKw aM (Au [] ab))=ae:=
 (bB _ _).mpr ⟨(bB _ _).mpr ⟨h,rfl⟩,eP V⟩
theorem aj.yj{o:au}{name:Str}{args:List au}{T id:String}(m:cO T name id)(ha:args.all cu=ae)(hb:∀ab,mN o name ab (eval o ab)=eval o ab)(hl:(args.length<30/\(eQ.endLine==aM.line)=ae))
 (h:aj n sc ρ o λa=>a.ty=T/\cn n sc ρ args λds=>bk n (.builtin id) (a::ds) k):aj n sc ρ (bU (cC o name eQ) args [] aM) k:=.mk λw A ab s g S R V E=>by
 refine nr (hb ab) ?_ hl.2 rfl (h.wp S R V λv aA aN d Y W Z q_=>q_.elim λhT G=>?_)
 ·exact Kd (cE ha).1 hl.1
 ·obtain⟨t1,t2⟩:=Z.typeIs W
  refine⟨T,id,m.pa,m.slot,m.ty,hT▸t1,t2,?_⟩
  refine nG (cE ha).2 (fj (cE ha).1 rfl (bg (cn.ok ha G w A ab aA aN aM W R (V.step Y S) E) (λvs aT ⟨bb,ds,H,C,B,f⟩=>?_)))
  refine fz ?_
  exact Out.back (Y.trans H) (f.run w A aT bb (v::vs) C R (aP.cons (Z.mono H.gg) B) E)
end
section
variable {n:Nat} {k:D->Prop}
theorem aP.one{a:D}(h:aP w g vs [a]):∃v,vs=[v]/\Rep w g v a:=by
 match vs,h with
 |[],h=>exact aZ h.1 (by simp)
 |[v],h=>exact⟨v,rfl,h.ia.1⟩
 |_::_::_,h=>exact aZ h.1 (by simp)
theorem aP.two{a b:D}(h:aP w g vs [a,b]):∃v u,vs=[v,u]/\Rep w g v a/\Rep w g u b:=by
 match vs,h with
 |[],h=>exact aZ h.1 (by simp)
 |v::r,h=>
  obtain⟨u,rfl,V⟩:=h.ia.2.one
  exact⟨v,u,rfl,h.ia.1,V⟩
theorem aP.three{a b c:D}(h:aP w g vs [a,b,c]):∃v u x,vs=[v,u,x]/\Rep w g v a/\Rep w g u b/\Rep w g x c:=by
 match vs,h with
 |[],h=>exact aZ h.1 (by simp)
 |v::r,h=>
  obtain⟨u,x,rfl,V⟩:=h.ia.2.two
  exact⟨v,u,x,rfl,h.ia.1,V⟩
theorem aP.four{a b c:D}(h:aP w g vs [a,b,c,d]):∃v u x y,vs=[v,u,x,y]/\Rep w g v a/\Rep w g u b/\Rep w g x c/\Rep w g y d:=by
 match vs,h with
 |[],h=>exact aZ h.1 (by simp)
 |v::r,h=>
  obtain⟨u,x,y,rfl,V⟩:=h.ia.2.three
  exact⟨v,u,x,y,rfl,h.ia.1,V⟩
theorem aP.strs:∀{w:a9} {g:aY} {vs:List ai} {xs:List Str},aP w g vs (xs.map D.str)->∃l:List (Str×Tok),vs=tR l/\l.map (·.1)=xs
 |w,g,[],[],h=>⟨[],rfl,rfl⟩
 |w,g,[],x::xs,h=>aZ h.1 (nofun)
 |w,g,v::vs,[],h=>aZ h.1 (by simp)
 |w,g,v::vs,x::xs,h=>by
  refine(show Rep w g v (.str x) from h.ia.1).dB λt=>?_
  obtain⟨l,rfl,e⟩:=aP.strs (w:=w) (g:=g) (xs:=xs) h.ia.2
  exact⟨(x,t)::l,rfl,aQ _ e⟩
theorem aP.ints:∀{w:a9} {g:aY} {vs:List ai} {xs:List Int},aP w g vs (xs.map D.int)->IntsAre vs xs
 |w,g,[],[],h=>.nil
 |w,g,[],x::xs,h=>aZ h.1 (nofun)
 |w,g,v::vs,[],h=>aZ h.1 (by simp)
 |w,g,v::vs,x::xs,h=>by
  refine(show Rep w g v (.int x) from h.ia.1).b9 λt=>?_
  exact .cons _ _ (aP.ints (w:=w) (g:=g) (xs:=xs) h.ia.2)
theorem aP.V6{xs:List Int}(h:IntsAre vs xs):aP w g vs (xs.map D.int):=by
 induction h with
 |nil=>exact aP.nil
 |cons i t h V=>exact aP.cons (.int i t) V
theorem Out.keep(S:St w s g)(V:∀b o,s.heap.get? b=aa o->h'.get? b=aa o)(R:Rep w g v d)(h:k d):Out w s g k v {s with heap:=h',toks:=tk}:=
 (S.ext' (h':=h') (tk:=tk) V).elim λN Y=>⟨g,d,N,Y,R,h⟩
theorem bk.abV(hl:l.length<2^63)(V:k (.int l.length)):bk n (.builtin "len") [.lst l] k:=.mk λw A s g vs S R r E=>by
 obtain⟨v,rfl,h⟩:=r.one
 obtain⟨a,af,rfl,Y,W⟩:=h.n0 S
 have e:af.size=l.length:=by have:=W.1;exact this
 refine call_len_list Y (by rw[e];exact YS (by assumption)) (Out.toks S (.int _ _) ?_)
 rw[e];exact V
theorem bk.abW(hl:x.length<2^63)(V:k (.int x.length)):bk n (.builtin "len") [.str x] k:=.mk λw A s g vs S R r E=>by
 obtain⟨v,rfl,h⟩:=r.one
 refine h.dB λt=>?_
 exact P.len_str (by exact LJ (by assumption)) (Out.toks S (.int _ _) V)
theorem bk.abs{i:Int}(V:k (.int (if i<0 then-i else i))):bk n (.builtin "abs") [.int i] k:=.mk λw A s g vs S R r E=>by
 obtain⟨v,rfl,h⟩:=r.one
 refine h.b9 λt=>?_
 exact call_abs_int λu tk=>Out.toks S (.int _ _) V
theorem bk.max2{i j:Int}(Y:k (.int (max i j))):bk n (.builtin "max") [.int i,.int j] k:=.mk λw A s g vs S R r E=>by
 obtain⟨v,u,rfl,Z,H⟩:=r.two
 refine Z.b9 λt=>?_;refine H.b9 λG=>?_
 refine max_two_ints R.2.2 λh' tk V=>?_
 by_cases W:j>i
 ·rw[bo W];exact Out.keep S V (.int _ _) (by rw[show max i j=j by exact Zn (by assumption)] at Y;exact Y)
 ·rw[be W];exact Out.keep S V (.int _ _) (by rw[show max i j=i by exact Zo (by assumption)] at Y;exact Y)
theorem bk.min2{i j:Int}(Y:k (.int (min i j))):bk n (.builtin "min") [.int i,.int j] k:=.mk λw A s g vs S R r E=>by
 obtain⟨v,u,rfl,Z,H⟩:=r.two
 refine Z.b9 λt=>?_;refine H.b9 λG=>?_
 refine min_two_ints R.2.2 λh' tk V=>?_
 by_cases W:j<i
 ·rw[bo W];exact Out.keep S V (.int _ _) (by rw[show min i j=j by exact Zp (by assumption)] at Y;exact Y)
 ·rw[be W];exact Out.keep S V (.int _ _) (by rw[show min i j=i by exact Zq (by assumption)] at Y;exact Y)
theorem bk.abX{i:Int}(hi:i.natAbs.log2<1920)(V:k (.str (toString i))):bk n (aK "str") [.int i] k:=.mk λw A s g vs S R r E=>by
 obtain⟨v,rfl,h⟩:=r.one
 refine h.b9 λt=>?_
 exact PySem.P.str_of_int hi (Out.toks S (.str _ _) V)
theorem bk.n6{i:Int}(V:k (.int (fy i))):bk n (.builtin "int.bit_length") [.int i] k:=.mk λw A s g vs S R r E=>by
 obtain⟨v,rfl,h⟩:=r.one
 refine h.b9 λt=>?_
 exact call_int_bit_length (Out.toks S (.int _ _) V)
theorem bk.divmod{i j:Int}(V:j≠0)(Y:Em i j=aI)(W:k (.tup [.int (i.fdiv j),.int (i.fmod j)])):bk n (.builtin "divmod") [.int i,.int j] k:=.mk λw A s g vs S R r E=>by
 obtain⟨v,u,rfl,Z,H⟩:=r.two
 refine Z.b9 λt=>?_;refine H.b9 λG=>?_
 exact divmod_int V (Out.Kb S (af:=#[.int (i.fdiv j) s.toks,.int (i.fmod j) (s.toks+1)]) (aP.cons (.int _ _) (aP.cons (.int _ _) aP.nil)) W) (.inl Y)
theorem bk.lower(V:vS (cf x).length=aI)(Y:k (.str (cf x))):bk n (.builtin "str.lower") [.str x] k:=.mk λw A s g vs S R r E=>by
 obtain⟨v,rfl,h⟩:=r.one
 refine h.dB λt=>?_
 exact SC.lower V (Out.toks S (.str _ _) Y)
theorem bk.find(V:k (.int (jH x y))):bk n (.builtin "str.find") [.str x,.str y] k:=.mk λw A s g vs S R r E=>by
 obtain⟨v,u,rfl,Y,W⟩:=r.two
 refine Y.dB λt=>?_;refine W.dB λZ=>?_
 exact SC.find (Out.toks S (.int _ _) V)
theorem bk.rfind(V:k (.int (j7 x y))):bk n (.builtin "str.rfind") [.str x,.str y] k:=.mk λw A s g vs S R r E=>by
 obtain⟨v,u,rfl,Y,W⟩:=r.two
 refine Y.dB λt=>?_;refine W.dB λZ=>?_
 exact SC.rfind (Out.toks S (.int _ _) V)
theorem bk.startswith(V:k (.bool (wq x y))):bk n (.builtin "str.startswith") [.str x,.str y] k:=.mk λw A s g vs S R r E=>by
 obtain⟨v,u,rfl,Y,W⟩:=r.two
 refine Y.dB λt=>?_;refine W.dB λZ=>?_
 exact SC.startswith (Out.same S (.bool _) V)
theorem bk.endswith(V:k (.bool (wy x y))):bk n (.builtin "str.endswith") [.str x,.str y] k:=.mk λw A s g vs S R r E=>by
 obtain⟨v,u,rfl,Y,W⟩:=r.two
 refine Y.dB λt=>?_;refine W.dB λZ=>?_
 exact SC.endswith (Out.same S (.bool _) V)
theorem bk.index{bW:List Nat}(V:kr x y 0 x.length 1=i::bW)(Y:k (.int i)):bk n (.builtin "str.index") [.str x,.str y] k:=.mk λw A s g vs S R r E=>by
 obtain⟨v,u,rfl,W,Z⟩:=r.two
 refine W.dB λt=>?_;refine Z.dB λH=>?_
 exact SC.index V (Out.toks S (.int _ _) Y)
theorem bk.join(V:nZ x xs=ae)(Y:k (.str (jI x xs))):bk n (.builtin "str.join") [.str x,.lst (xs.map D.str)] k:=.mk λw A s g vs S R r E=>by
 obtain⟨v,u,rfl,W,Z⟩:=r.two
 refine W.dB λt=>?_
 obtain⟨a,af,rfl,H,G⟩:=Z.n0 S
 obtain⟨l,e,hl⟩:=G.strs
 exact SC.join ((e▸rfl:af=(tR l).toArray)▸H) hl V λC k'=>Out.toks S (.str _ _) Y
theorem cO.lower:cO "str" "lower" "str.lower":=⟨F.plainAttrs_str,F.slot_str_lower,F.type_str_lower⟩
theorem cO.find:cO "str" "find" "str.find":=⟨F.plainAttrs_str,F.slot_str_find,F.type_str_find⟩
theorem cO.rfind:cO "str" "rfind" "str.rfind":=⟨F.plainAttrs_str,F.slot_str_rfind,F.type_str_rfind⟩
theorem cO.startswith:cO "str" "startswith" "str.startswith":=⟨F.plainAttrs_str,F.slot_str_startswith,F.type_str_startswith⟩
theorem cO.endswith:cO "str" "endswith" "str.endswith":=⟨F.plainAttrs_str,F.slot_str_endswith,F.type_str_endswith⟩
theorem cO.index:cO "str" "index" "str.index":=⟨F.plainAttrs_str,F.slot_str_index,F.type_str_index⟩
theorem cO.join:cO "str" "join" "str.join":=⟨F.plainAttrs_str,F.slot_str_join,F.type_str_join⟩
theorem cO.split:cO "str" "split" "str.split":=⟨F.plainAttrs_str,F.slot_str_split,F.type_str_split⟩
theorem cO.n6:cO "int" "bit_length" "int.bit_length":=⟨F.plainAttrs_int,F.slot_int_bit_length,F.type_int_bit_length⟩
end
def pT(w:a9)(g:aY)(t:au)(v:ai)(d:D)(h:dp):Prop:=
 Rep w g v d\/∃T gU l,v=.ref T/\h.IsTuple T gU/\aP w g gU.toList l/\d=.tup l/\∃ts c p,t=b7 ts c p
structure dz(w:a9)(A:bN)(g:aY)(I:ag)(t:au)(af:List D)(fp wr:List ag)(J:Nat->dp->Prop):Prop where
 sub:∀b∈wr,b∈fp
 frame:∀i h h',J i h->(∀b∈fp,∀o,h.get? b=aa o->h'.get? b=aa o)->J i h'
 nc:∀i h,J i h->∀b∈wr,∃o,h.get? b=aa o/\cV o
 item:∀i d (s:av) (Q:ai->av->Prop) (E:ai->av->Prop),af[i]?=aa d->J i s.heap->
  (∀v h' tk,pT w g t v d h'->J (i+1) h'->(∀b o,b∉wr->s.heap.get? b=aa o->h'.get? b=aa o)->Q v {s with heap:=h',toks:=tk})->
  wpAny (model PG w) A (pyNext (.ref I)) (λr aA=>∃v,r=aa v/\wpAny (model PG w) A (wj t (.ref I) v) (λ_ aT=>Q v aT) E aA) E s
 done:∀(s:av) (Q:Option ai->av->Prop) (E:ai->av->Prop),J af.length s.heap->
  (∀h' tk,(∀b o,b∉wr->s.heap.get? b=aa o->h'.get? b=aa o)->Q ak {s with heap:=h',toks:=tk})->wpAny (model PG w) A (pyNext (.ref I)) Q E s
 self:∀i (s:av) (Q:ai->av->Prop) (E:ai->av->Prop),J i s.heap->Q (.ref I) s->wpAny (model PG w) A (pyIter (.ref I)) Q E s
noncomputable def wQ:List String:=["enumerate","zip","dict_itemiterator","dict_reverseitemiterator","odict_iterator","itertools.zip_longest","itertools.pairwise"]
theorem Ue{t:au}{I:ag}{n:String}{vs:Array ai}{Q:Unit->av->Prop}(W:s.heap.get? I=aa o)(Z:o.cls=aK n)(hd:o.data=bC vs)(H:wQ.contains n=aI)(V:Q () s):
 wpAny (model PG w) A (wj t (.ref I) v) Q E s:=by
 have Y:∀a,wpAny (model PG w) A (do
  let o <-load I
  match o.cls,o.data with
  |aK n,bC vs=>
   if ["enumerate","zip","dict_itemiterator","dict_reverseitemiterator","odict_iterator","itertools.zip_longest","itertools.pairwise"].contains n&&vs[0]?==aa (rawInt a) then
    rule "for.unpacks-the-owned-tuple"
    updateField I 0 .none
  |_,_=>pure ()) Q E s:=λa=>by
  refine aJ (wpAny_load W ?_)
  rw[Z,hd]
  show wpAny _ A (if (wQ.contains n&&vs[0]?==aa (rawInt a))=ae then _ else _) Q E s
  rw[be (by rw[H];simp)]
  exact a8 V
 cases t<;>first
  |exact a8 V
  |induction v<;>first|exact a8 V|exact Y _
theorem dz.of{I:ag}{t:au}{af:List D}{fp:List ag}{P:Nat->ai->Prop}(W:Walks PG w A I fp wr af.length P J)
 (Z:∀i v d,af[i]?=aa d->P i v->Rep w g v d)(nc:∀i h,J i h->∀b∈wr,∃o,h.get? b=aa o/\cV o)
 (Y:∀i h,J i h->∃o n vs,h.get? I=aa o/\o.cls=aK n/\o.data=bC vs/\wQ.contains n=aI):dz w A g I t af fp wr J where
 sub:=W.sub
 frame:=W.frame
 nc:=nc
 item:=λi d s Q E hi H G=>W.item i s _ E (ey.mp hi).1 H λv h' tk C V B=>by
  refine ba λf=>?_
  obtain⟨o,n,vs,h1,h2,h3,h4⟩:=Y _ _ V
  apply f
  exact⟨v,rfl,Ue h1 h2 h3 h4 (G v h' tk (.inl (Z i v d hi C)) V B)⟩
 done:=W.done
 self:=W.self
theorem dz.ofT{I:ag}{af:List D}{fp:List ag}{P:Nat->Array ai->Prop}{Z:Nat->ag->dp->Prop}(W:WalksU PG w A I fp wr af.length P J Z)
 (B:∀i gU d,af[i]?=aa d->P i gU->∃l,d=.tup l/\aP w g gU.toList l)(nc:∀i h,J i h->∀b∈wr,∃o,h.get? b=aa o/\cV o):dz w A g I (b7 ts c p) af fp wr J where
 sub:=W.sub
 frame:=W.frame
 nc:=nc
 item:=λi d s Q E hi f hQ=>W.item i s _ E (ey.mp hi).1 f λT gU h' tk hv hT G hk=>by
  refine⟨.ref T,rfl,W.go ts c p i T _ _ E G λH V Y=>?_⟩
  obtain⟨l,rfl,hl⟩:=B i gU d hi hv
  refine hQ (.ref T) H tk (.inr ⟨T,gU,l,rfl,?_,hl,rfl,ts,c,p,rfl⟩) V λb o C e=>Y b o C (hk b o C e)
  exact hT.at λo e=>Y T o (W.apart i T _ G) e
 done:=W.done
 self:=W.self
theorem dz.list(R:A.handled=ak)(I Y:ag)(Z:Y≠I)(t:au)(V:Array ai)(l:List D)(h:aP w g V.toList l):
 dz w A g I t l [I,Y] [I] (λi h=>h.IsListIter I Y i/\h.IsList Y V):=by
 have e:V.size=l.length:=by have:=h.1;exact this
 have W:=RV (prog:=PG) (w:=w) R I Y Z V
 replace W:=e▸W
 refine dz.of W (λi v d hi B=>h.2 i v d (by simpa using B) hi) (λi h H b f=>?_) λi h H=>?_
 ·obtain⟨o,G,C,hd⟩:=H.1
  have:b=I:=a_.1 f
  subst this
  exact⟨o,G,λvs q t e e'=>by replace e:=hd▸e;cases e;simp at e'⟩
 ·obtain⟨o,G,C,hd⟩:=H.1
  exact⟨o,_,_,G,C,hd,rfl⟩
inductive iR(w:a9)(A:bN)(s:av)(g:aY)(t:au)(k:List D->Prop)(it:ai)(aT:av):Prop
 |mk (I fp wr J af bb:_) (hi:it=.ref I) (N:Nx [] s g aT bb) (S:St w aT bb) (W:dz w A bb I t af fp wr J) (hJ:J 0 aT.heap) (hw:∀b∈wr,s.heap.get? b=ak/\bb b=ak) (mw:∀b∈fp,b∉TB/\b<aT.heap.objs.size/\(b∈wr\/∃o,bb b=aa o)) (hl:af.length<=10000) (hk:k af)
structure bK(n:Nat)(sc:bf)(ρ:ay)(t:au)(e:au)(k:List D->Prop):Prop where
 run:∀(w:a9) (A:bN) (ab:Env) (s:av) (g:aY),St w s g->Rm n A->c8 w s g ab sc ρ->∀E,wpAny (model PG w) A (eval e ab) (λx aA=>wpAny (model PG w) A (pyIter x) (iR w A s g t k) E aA) E s
section
variable {n:Nat} {sc:bf} {ρ:ay} {t:au}
inductive abY(k:List D->Prop)(d:D):Prop
 |mk (l:_) (e:d=.lst l) (hl:l.length<=10000) (hk:k l)
theorem bK.list{k:List D->Prop}(h:aj n sc ρ e (abY k)):bK n sc ρ t e k:=.mk λw A ab s g S R V E=>
 bg (h.run w A ab s g S R V E) (λv aA q_=>by
  obtain⟨aN,d,Z,W,G,l,hd,hl,hk⟩:=q_
  subst hd
  refine G.j9 λa nn C H rl=>?_
  refine s6 (⟨_,W.sub _ _ H,rfl,nn,rfl⟩:aA.heap.IsList a C) ?_
  refine(W.ext' (h':=aA.heap.push {cls:=aK "list_iterator",data:=bC #[.ref a,.int 0 0]}) (tk:=aA.toks) λb o e=>bZ _ e).elim λf Y=>?_
  have hI:=cB aA.heap (o:={cls:=aK "list_iterator",data:=bC #[.ref a,.int 0 0]}) rfl
  have e8:a≠aA.heap.objs.size:=λe=>by have:=W.sub _ _ H;rw[e,lg] at this;exact ns this
  have gn:aN aA.heap.objs.size=ak:=by
   induction q:aN aA.heap.objs.size with
   |none=>rfl
   |some o=>have:=W.sub _ _ q;rw[lg] at this;exact ns this
  have sn:s.heap.get? aA.heap.objs.size=ak:=by
   induction q:s.heap.get? aA.heap.objs.size with
   |none=>rfl
   |some o=>obtain⟨o',e'⟩:=Z.there _ _ q (ca);rw[lg] at e';exact ns e'
  refine⟨_,[aA.heap.objs.size,a],[aA.heap.objs.size],_,l,aN,rfl,Z.trans f,Y,dz.list R.2.2 _ a e8 t C l rl,⟨⟨_,hI,rfl,rfl⟩,⟨_,Y.sub _ _ H,rfl,nn,rfl⟩⟩,λb hb=>?_,λb hb=>?_,hl,hk⟩
  ·have:b=aA.heap.objs.size:=a_.1 hb
   subst this;exact⟨sn,gn⟩
  ·refine(bT.mp hb).elim (λe=>?_) λhb=>?_
   ·subst e;exact⟨Y.dN hI (.inl (by simp)),cq hI,.inl (bi)⟩
   ·have:b=a:=a_.1 hb
    subst this
    exact⟨Y.dN (Y.sub _ _ H) (.inl (by simp)),cq (Y.sub _ _ H),.inr ⟨_,H⟩⟩)
end
noncomputable def kj(V:List (Str×ag))(aH:List (Str×fO)):List (Str×ag):=(aH.filterMap λp=>if p.2==.free then (V.lookup p.1).map λc=>(p.1,c) else ak).reverse
theorem PO(h:∀p∈scope.names,p.2=.free->∃c,ab.cells.lookup p.1=aa c):wK scope ab=pure (kj ab.cells scope.names):=by
 have G:∀(aH:List (Str×fO)) (V:List (Str×ag)),(∀p∈aH,p.2=.free->∃c,ab.cells.lookup p.1=aa c)->
  (forIn aH V λx r=>match x with
   |(name,W)=>if (W==wv)=ae then (do let a <-cellOf ab name;pure (mH ((name,a)::r))) else pure (mH r):Sem (List (Str×ag)))=pure (kj ab.cells aH++V):=by
  intro aH
  induction aH with
  |nil=>intro V _;rfl
  |cons x r C=>
   intro V B
   obtain⟨nm,Z⟩:=x
   simp only[wi]
   have hr:∀p∈r,p.2=.free->∃c,ab.cells.lookup p.1=aa c:=λp hp=>B p (bM _ hp)
   induction H:Z==wv with
   |true=>
    obtain⟨c,f⟩:=B (nm,Z) bi (eq_of_beq H)
    have e:cellOf ab nm=pure c:=by unfold cellOf;rw[f]
    simp only[H,if_true,e,pure_bind]
    refine(C _ hr).trans ?_
    have Y:Z=.free:=eq_of_beq H
    subst Y
    unfold kj
    rw[ny]
    simp[(f:ab.cells.lookup nm=aa c)]
   |false=>
    refine(C _ hr).trans ?_
    have Y:¬Z=.free:=by simpa using H
    unfold kj
    rw[ny]
    simp[Y]
 have:=G scope.names [] h
 rw[cR] at this
 dsimp only[wK]
 refine this.symm▸?_
 rw[bind_pure]
set_option tactic.hygienic true in
theorem XW{V:Type}{f:α->Option β}{k:α->V}{k':β->V}(h:∀p q,f p=aa q->k' q=k p)(l:List α):((l.filterMap f).map k').Sublist (l.map k):=by
 induction l with
 |nil=>exact Ph _
 |cons p r Y=>
  cases e:f p with
  |none=>rw[NR e];exact Y.cons _
  |some q=>rw[NS e,d7,h p q e];exact Y.cons_cons _
theorem nL{V:List (Str×ag)}{aH:List (Str×fO)}(Y:(aH.map (·.1)).Nodup){c:ag}:(kj V aH).lookup x=aa c<->((x,wv)∈aH/\V.lookup x=aa c):=by
 have Ng:∀{p:Str×fO} {q:Str×ag},(if p.2==.free then (V.lookup p.1).map λc=>(p.1,c) else ak)=aa q->p.2=.free/\q.1=p.1/\V.lookup p.1=aa q.2:=λh=>
  have r:=ND.mp h
  (mz.mp r.2).elim λc e=>⟨eq_of_beq r.1,e.2▸rfl,e.2▸e.1⟩
 have Z:((kj V aH).map (·.1)).Nodup:=by
  unfold kj
  rw[wa]
  exact HH ((XW (λp q h=>(Ng h).2.1) aH).nodup Y)
 refine⟨λh=>?_,λh=>lT Z (iK.mpr (qE.mpr ⟨(x,.free),h.1,(bo rfl).trans (h.2▸rfl)⟩))⟩
 obtain⟨p,H,e⟩:=qE.mp (iK.mp (ez h))
 have i:=Ng e
 have W:x=p.1:=i.2.1
 have G:p=(x,.free):=xf W.symm i.1
 exact⟨G▸H,W▸i.2.2⟩
noncomputable def Bd.LR(b:Bd):Option D:=dO (c:=b.ctorIdx=0) λh=>Bd.dat.elim b h aa
theorem Bd.XX{b:Bd}(h:b.LR=aa d):b=.dat d:=pZ h λq=>Bd.dat.elim (motive:=λb=>∀q,Bd.dat.elim b q aa=aa d->b=.dat d) b q (λ_ _ h=>aQ Bd.dat (aW h)) q
theorem Uf{c:Bool}{o:Option α}{a:α}(h:(bif c then o else ak)=aa a):c=ae/\o=aa a:=by
 induction c with
 |false=>exact ns h
 |true=>exact⟨rfl,h⟩
noncomputable def cY(aF:bf)(ρ:ay):ay:=aF.names.filterMap λp=>bif p.2==.free then ((ρ.lookup p.1).bind Bd.LR).map λd=>(p.1,.dat d) else ak
set_option tactic.hygienic true in
theorem Az{b:Bd}(h:(cY aF ρ).lookup x=aa b):(x,wv)∈aF.names/\∃d,b=.dat d/\ρ.lookup x=aa (.dat d):=
 (qE.mp (ez h)).elim λp q=>
  have r:=Uf q.2
  (mz.mp r.2).elim λd hd=>(kt.mp hd.1).elim λc V=>
   have e:=wD hd.2
   have Y:p=(x,.free):=xf e.1 (eq_of_beq r.1)
   ⟨Y▸q.1,d,e.2.symm,e.1▸Bd.XX V.2▸V.1⟩
theorem P6{f:Str×fO->fO}{aH:List (Str×fO)}{k:fO}(h:(aH.map λp=>(p.1,f p)).lookup x=aa k):∃Y,aH.lookup x=aa Y/\k=f (x,Y):=by
 induction aH with
 |nil=>exact ns h
 |cons p r W=>
  rw[d7,io] at h
  rw[io]
  induction V:x==p.1 with
  |true=>rw[V] at h;obtain rfl:=eq_of_beq V;exact⟨p.2,rfl,(aW h).symm⟩
  |false=>rw[V] at h;exact W h
theorem FN{f:Str×fO->fO}:∀{aH:List (Str×fO)} {x:Str},(aH.map λp=>(p.1,f p)).lookup x=ak->aH.lookup x=ak
 |[],x,h=>rfl
 |(y,Y)::r,x,h=>by
  rw[d7,io] at h
  rw[io]
  induction V:x==y with
  |true=>simp only[V] at h;exact sn h
  |false=>exact FN (V▸h)
theorem QI:(relabel scope ab).names=scope.names.map λp=>(p.1,(λp:Str×fO=>if (p.2==.free&&ab.scope.kind==fk&&ab.kindOf p.1==aa .cell)=ae then lf else p.2) p):=by
 unfold relabel
 simp only
 apply lK
 rintro⟨n,k⟩ _
 split<;>rfl
theorem RZ(x:Str):KS ((relabel aF ab).names.lookup x) (aF.names.lookup x):=by
 rw[QI]
 induction h:(aF.names.map λp=>(p.1,(λp:Str×fO=>if (p.2==.free&&ab.scope.kind==fk&&ab.kindOf p.1==aa .cell)=ae then lf else p.2) p)).lookup x with
 |none=>rw[FN h];exact .inl rfl
 |some k=>
  obtain⟨W,Z,V⟩:=P6 h
  rw[Z]
  by_cases Y:(W==.free&&ab.scope.kind==fk&&ab.kindOf x==aa .cell)=ae
  ·simp only[Y,if_true] at V
   subst V
   simp only[bB,beq_iff_eq] at Y
   rw[Y.1.1];exact .inr ⟨rfl,rfl⟩
  ·simp only[Y] at V
   subst V;exact .inl rfl
noncomputable def dC(aF sc:bf):Bool:=(d4 aF).isNone&&decide ((aF.names.map (·.1)).Nodup)&&(aF.kind==fk)&&aF.names.all λp=>p.2 != .free||sc.names.lookup p.1==aa .cell||sc.names.lookup p.1==aa .free
theorem dC.spec(h:dC aF sc=ae):(aF.names.map (·.1)).Nodup/\aF.kind=fk/\∀x,(x,wv)∈aF.names->sc.names.lookup x=aa .cell\/sc.names.lookup x=aa .free:=by
 simp only[dC,bB,decide_eq_true_eq,beq_iff_eq,ee] at h
 refine⟨h.1.1.2,h.1.2,λx V=>?_⟩
 have:=h.2 _ V
 simpa using this
theorem dC.ZE(h:dC aF sc=ae):d4 aF=ak:=by
 simp only[dC,bB] at h
 simpa using h.1.1.1
theorem dQ.of(V:c8 w s g ab sc ρ)(Z:dC aF sc=ae):wK aF ab=pure (kj ab.cells aF.names)/\dQ w s g [] aF (kj ab.cells aF.names) (cY aF ρ) (λ_=>[]):=by
 refine(dC.spec Z).elim λY H=>H.elim λhk G=>?_
 refine⟨PO λp hp he=>V.e6 p.1 (G p.1 (by obtain⟨a,b⟩:=p;subst he;exact hp)),λx c h=>V.cP x c ((nL Y).mp h).2,λx y c C B=>V.ff x y c ((nL Y).mp C).2 ((nL Y).mp B).2,λx h=>?_,λx c h=>lT Y ((nL Y).mp h).1,λx b h=>?_,λx b h a f=>by simp at f,λx y b b' _ _ _ a f=>by simp at f⟩
 ·have W:=ez h
  obtain⟨c,hc⟩:=V.e6 x (G x W)
  exact⟨c,(nL Y).mpr ⟨W,hc⟩⟩
 ·refine ba λN_=>?_
  obtain⟨W,d,rfl,hd⟩:=Az h
  obtain⟨v,ad,C,B⟩:=V.var x _ hd
  apply N_
  rcases C with ⟨q1,_⟩|⟨q1,c,q2,q3,q4⟩
  ·exfalso
   have:=V.ks x
   rw[q1] at this
   rcases G x W with e|e<;>rw[e] at this<;>rcases this with q|q<;>simp at q
  ·exact⟨c,v,(nL Y).mpr ⟨W,q2⟩,q4,rfl,λ_ _=>⟨B.1,rfl⟩⟩
theorem Ao:∀(aH:List (Str×fO)) (n:Nat) (x:Str) (c:ag),(x,c)∈gO n aH []->n<=c
 |[],n,x,c,h=>by cases h
 |(y,V)::r,n,x,c,h=>by
  unfold gO at h
  split at h
  ·rw[lh] at h
   rcases cQ.mp h with h|h
   ·exact qG (Ao r _ x c h)
   ·simp at h
    exact bn h.2.symm
  ·exact Ao r _ x c h
theorem bj.V7{aB:Str->List ag}(H:bj w [] aA aN s g ab sc ρ aB)(V:St w aw aE)(N:Nx [] aw aE aA aN):bj w [] aw aE s g ab sc ρ aB:=by
 have Y:∀a,aA.heap.get? a=ak->aw.heap.get? a=ak:=λa e=>by
  induction q:aw.heap.get? a with
  |none=>rfl
  |some o=>obtain⟨o',Z⟩:=N.there a o q (ca);exact ns (e.symm.trans Z)
 refine⟨V,dq.nil,H.st,N.trans H.nx,H.kind,H.glob,H.gq,H.ks,H.lam,H.ii,H.gy,?_,H.cP,λx c h G=>?_,H.ff,H.e6,H.var,λx b h a C=>?_,H.e7⟩
 ·rcases H.iW with q|q
  ·exact .inl (Y _ q)
  ·simp at q
 ·rcases H.lr x c h G with q|q
  ·exact .inl (Y _ q)
  ·simp at q
 ·refine(H.dH x b h a C).elim λW B=>W.elim λf q2=>?_
  refine⟨⟨λhf=>?_,q2⟩,B⟩
  rcases f hf with q|q
  ·exact .inl (Y _ q)
  ·simp at q
theorem SY{Q:Env->av->Prop}(S:St w s g)(V:c8 w s g ab sc ρ)(Y:dC aF sc=ae)
 (B:∀cenv s',bj w [] s g s' g {cenv with scope:=relabel aF ab} aF (cY aF ρ) (λ_=>[])->(∀b o,s.heap.get? b=aa o->s'.heap.get? b=aa o)->cenv.locals=s.heap.objs.size->(∀x c,cenv.cells.lookup x=aa c->(s.heap.objs.size<c/\aF.names.lookup x=aa .cell)\/ab.cells.lookup x=aa c)->Q cenv s'):wpAny (model PG w) A (zY aF ab.globals (kj ab.cells aF.names) [] ab.qual ak .none (aa ab)) Q E s:=by
 have W:=(dC.spec Y).1;have f:=(dC.spec Y).2.1
 simp only[zY,Option.isSome_some,if_true]
 refine BK ?_
 refine aJ (Qf _ (λname Z H=>by cases yY:Z==lf<;>rfl) _ _ _ _ ?_)
 refine(show ({s with heap:=s.heap.push {cls:=aK "dict",data:=.dict #[]}}:av).heap.objs.size=s.heap.objs.size+1 from gX ..)▸?_
 refine fY (a8 (B _ _ ?_ (λb o e=>wh _ _ b o (bZ _ e)) rfl λx c h=>?_))
 rotate_left
 ·have h:(gO (s.heap.objs.size+1) aF.names (kj ab.cells aF.names)).lookup x=aa c:=h
  rw[lh,o7] at h
  induction q:(gO (s.heap.objs.size+1) aF.names []).lookup x with
  |some c'=>
   rw[q] at h;obtain rfl:=aW h
   exact .inl ⟨Ao _ _ _ _ (ez q),lT W (tD _ _ _ _ (ez q))⟩
  |none=>rw[q] at h;exact .inr ((nL W).mp h).2
 exact bj.fresh (tk:=s.toks) S dq.nil (dQ.of V Y).2 W (Kc _ _) f (λx=>RZ x) (λc q e=>by exact ns ((dC.ZE Y).symm.trans e)) rfl V.glob V.gq rfl
structure c0(n:Nat)(sc:bf)(ρ:ay)(t:au)(d:D)(k:ay->Prop):Prop where
 run:∀(w:a9) (A:bN) (ab:Env) (mu:List ag) (aw:av) (aE:aY) (s:av) (g:aY) (aB:Str->List ag) (v:ai),bj w mu aw aE s g ab sc ρ aB->Rm n A->pT w g t v d s.heap->∀E,
  wpAny (model PG w) A (assign t ab v) (λ_=>C1 w mu aw aE g ab sc k) E s
noncomputable def fM(n:Nat)(sc:bf)(ρ:ay):List au->(Bool->Prop)->Prop
 |[],k=>k ae
 |c::r,k=>bH n sc ρ c λb=>if b then fM n sc ρ r k else k aI
section
variable {n:Nat} {sc:bf} {ρ:ay}
theorem c0.name{k:ay->Prop}(V:mine sc x=ae)(h:k ((x,.dat d)::ρ)):c0 n sc ρ (aS x p) d k:=.mk λw A ab mu aw aE s g aB v H R r E=>by
 rcases r with r|⟨_,_,_,_,_,_,_,_,_,_,e⟩
 ·exact(fJ.name (n:=n) V h).run w A ab mu aw aE s g aB v H R r E
 ·cases e
theorem c0.tup{ds:List D}{k:ay->Prop}(V:ts.all cu=ae)(hl:ds.length=ts.length)(h:kM n sc ρ ts ds k):c0 n sc ρ (b7 ts c p) (.tup ds) k:=.mk λw A ab mu aw aE s g aB v H R r E=>by
 rcases r with r|⟨T,gU,l,rfl,W,Y,e,_⟩
 ·exact(fJ.tup V hl h).run w A ab mu aw aE s g aB v H R r E
 ·cases e
  obtain⟨Z,G⟩:=tu (ab:=ab) V
  refine zz R.2.2 W (by simp only[Z,<-hl,<-Y.1];rfl) G λh' C=>?_
  obtain⟨N,B⟩:=H.st.ext' (tk:=s.toks) (ExtBut.keeps C)
  exact h.ok V w A ab mu aw aE _ g aB (H.step N B) R Y E
theorem fM.false{Q:Bool->av->Prop}:∀{bV:List au} {s:av},Q aI s->
 wpAny (model PG w) A (forIn bV aI λc r=>if r=ae then do let ok <-isTrue c ab (eval c ab);pure (mH ok) else pure (mH r)) Q E s:=by
 intro Y
 induction Y with
 |nil=>
  intro s h
  exact a8 h
 |cons c r V=>
  intro s h
  rw[wi]
  exact fY (V h)
theorem fM.ok:∀{bV:List au} {k:Bool->Prop},fM n sc ρ bV k->∀(w:a9) (A:bN) (ab:Env) (s:av) (g:aY),St w s g->Rm n A->c8 w s g ab sc ρ->∀E,
 wpAny (model PG w) A (forIn bV ae λc r=>if r=ae then do let ok <-isTrue c ab (eval c ab);pure (mH ok) else pure (mH r)) (mh w s g k) E s:=by
 intro f
 induction f with
 |nil=>
  intro k h w A ab s g S R V E
  exact a8 ⟨g,Nx.refl _ _ _,S,h⟩
 |cons c r B=>
  intro k h w A ab s g S R V E
  rw[wi]
  refine aJ (aJ (h.wp S R V λb aA aN Y W Z=>a8 ?_))
  induction b with
  |true=>exact bg (B Z w A ab aA aN W R (V.step Y S) E) (λb aT q_=>by obtain⟨bb,H,G,C⟩:=q_;exact⟨bb,Y.trans H,G,C⟩)
  |false=>exact fM.false ⟨aN,Y,W,Z⟩
end
section
variable {w:a9} {A:bN} {R:um->av->Prop} {s:av}
theorem E1{g:Comprehension}{d:Nat}{Y V:ai}(G:(Hy e)[d]?=aa g)(C:(g.is_async != 0)=aI)(W:(model PG w).den (.compStart e d Y V ab)=(AP e d Y V ab).onRaise (λx=>do rz x ab;standAt FA))(B:A.under (.compStart e d Y V ab)=A)
 (H:codeAny (model PG w) A (jG e d Y V ab) R s)
 (h:wpAny (model PG w) A (pyIter Y) (λZ s'=>codeAny (model PG w) A (jG e d Z V ab) R s') (notedBy (model PG w) A ab λx s'=>R (.error x) s') s):
 codeAny (model PG w) A (.compStart e d Y V ab) R s:=by
 refine FC ?_
 simp only[W,B]
 refine wpAny_notedAt ?_
 dsimp only[AP]
 refine G▸?_
 simp only[Option.elim_some,C,O5,if_false]
 refine aJ (pc (wpAny_ite ?_))
 split
 ·first
   |exact fY (a8 (bQ rfl H))
   |exact a8 (bQ rfl H)
 ·refine ka ?_
  exact jb (aJ (eg h (λZ s' h'=>a8 (bQ rfl h')) λ_ _ x=>x))
noncomputable def uq(e bp iter:au)(bV:List au)(m:Sem Unit)(V Y:ai)(ab:Env)(d:Nat):Sem tS:=do
 standAt iter.pos
 match <-pyNext V with
 |none=>pure (.done .next)
 |some v=>
  wj bp V v
  assign bp ab v
  let mut ok:=ae
  for c in bV do
   if ok then ok <-isTrue c ab (eval c ab)
  if ok then m
  again (jG e d V Y ab)
theorem Pu{bp:au}{m:Sem Unit}{d:Nat}{Z V:ai}(he:compTurn e d Z V ab=uq e bp iter bV m Z V ab d)(f:(model PG w).den (jG e d Z V ab)=(compTurn e d Z V ab).onRaise (λx=>do rz x ab;zS x))(hu:A.under (jG e d Z V ab)=A)(I:Nat->av->Prop)
 (turn:∀n s,I n s->wpAny (model PG w) A (pyNext Z) (λr aA=>match r with
  |none=>R (.ok .next) aA
  |some v=>wpAny (model PG w) A (wj bp Z v) (λ_ Y=>wpAny (model PG w) A (assign bp ab v) (λ_ aT=>
   wpAny (model PG w) A (forIn bV ae λc r=>if r=ae then do let ok <-isTrue c ab (eval c ab);pure (mH ok) else pure (mH r)) (λok W=>
    if ok=ae then wpAny (model PG w) A m (λ_ H=>∃m,m<n/\I m H) (notedBy (model PG w) A ab λe s'=>R (.error e) s') W
    else ∃m,m<n/\I m W) (notedBy (model PG w) A ab λe s'=>R (.error e) s') aT) (notedBy (model PG w) A ab λe s'=>R (.error e) s') Y) (notedBy (model PG w) A ab λe s'=>R (.error e) s') aA) (notedBy (model PG w) A ab λe s'=>R (.error e) s') s)
 (n:Nat)(h:I n s):codeAny (model PG w) A (jG e d Z V ab) R s:=by
 refine codeAny_loop rfl I (λn s hI=>?_) n h
 simp only[f,hu]
 refine wpAny_noted ?_
 simp only[he]
 dsimp only[uq]
 refine jb (aJ (eg (turn n s hI) (λr aA G=>?_) λ_ _ h'=>h'))
 induction r with
 |none=>exact a8 G
 |some v=>
  refine aJ (eg G (λ_ Y B=>?_) λ_ _ h'=>h')
  refine aJ (eg B (λ_ aT f_=>aJ (eg f_ (λok W C=>?_) λ_ _ h'=>h')) λ_ _ h'=>h')
  induction ok with
  |false=>exact a8 ⟨rfl,C⟩
  |true=>exact aJ (eg C (λ_ H yD=>a8 ⟨rfl,yD⟩) λ_ _ h'=>h')
end
theorem bj.rR{aB:Str->List ag}(A:bj w mu aw aE s g ab sc ρ aB)
 (Z:∀b o,b∉wr->s.heap.get? b=aa o->h'.get? b=aa o)(Y:∀a∈wr,(aw.heap.get? a=ak\/a∈mu)/\g a=ak/\∃o,s.heap.get? a=aa o/\cV o)(H:ab.locals∉wr)(G:∀x c,ab.cells.lookup x=aa c->c∉wr)
 (C:∀x b,ρ.lookup x=aa b->∀a∈aB x,a∉wr):bj w mu aw aE {s with heap:=h',toks:=tk} g ab sc ρ aB:=
 (St.changes (tk:=tk) A.gR A.st A.nx A.fw Y Z).elim λN B=>A.extern N B (λa h=>(Y a h).1) H G C λa f o e=>(Y a f).elim λ_ V=>V.elim λ_ V=>V.elim λo' V=>V.elim λW c=>by rw[e] at W;obtain rfl:=aW W;exact c
def eF(ρ:ay):Prop:=∀x b,ρ.lookup x=aa b->∃d,b=.dat d
theorem eF.aB{aB:Str->List ag}(H:bj w mu aw aE s g ab sc ρ aB)(h:eF ρ)(x:Str)(b:Bd)(e:ρ.lookup x=aa b):b.KV=aI/\b.isFn=aI/\aB x=[]:=by
 refine(h x b e).elim λd V=>?_;subst V
 obtain⟨v,_,q⟩:=H.var x _ e
 exact⟨rfl,rfl,q.2⟩
theorem pT.mono{t:au}(V:∀a o,g a=aa o->g' a=aa o)(x:pT w g t v d h):pT w g' t v d h:=by
 rcases x with x|⟨T,gU,l,a,b,c,r⟩
 ·exact .inl (x.mono V)
 ·exact .inr ⟨T,gU,l,a,b,c.mono V,r⟩
structure p4{α:Type}(AC:aY->Obj->List α->Prop):Prop where
 mono:∀g g' o l,(∀a o,g a=aa o->g' a=aa o)->AC g o l->AC g' o l
 cls:∀g o l,AC g o l->o.cls≠.none
 nf:∀g o l,AC g o l->∀vs,o.data≠bC vs
structure d8(w:a9)(sa:av)(ga:aY)(cenv:Env)(aF:bf)(bE:ay)(D:ag)(g0:aY)(wc:List ag)(J:Nat->dp->Prop){α:Type}(AC:aY->Obj->List α->Prop)(i:Nat)(l:List α)(s:av)(g:aY):Prop where
 act:∃aB,bj w [] sa ga s g cenv aF bE aB
 it:J i s.heap
 acc:∃o,s.heap.get? D=aa o/\AC g o l
 off:g D=ak
 up:∀a o,g0 a=aa o->g a=aa o
 wn:∀b∈wc,g b=ak/\∃o,s.heap.get? b=aa o
structure nW(sa:av)(cenv:Env)(aF:bf)(D:ag)(fp wr wc:List ag):Prop where
 Dn:sa.heap.get? D=ak
 DL:D≠cenv.locals
 DC:∀x c,cenv.cells.lookup x=aa c->c≠D
 Df:D∉fp
 wn:∀b∈wr,sa.heap.get? b=ak
 fL:cenv.locals∉fp
 fC:∀x c,cenv.cells.lookup x=aa c->aF.names.lookup x=aa .cell->c∉fp
 wC:∀x c,cenv.cells.lookup x=aa c->c∉wr
 fT:∀b∈fp,b∉TB
 s1:∀b∈wr,b∈wc
 s2:∀b∈wc,b∈fp
section
variable {w:a9} {sa:av} {ga g0:aY} {cenv:Env} {aF:bf} {bE:ay} {D:ag} {fp wr wc:List ag} {J:Nat->dp->Prop} {i:Nat} {α:Type} {AC:aY->Obj->List α->Prop} {l:List α} {s s':av} {g g':aY} {A:bN} {I:ag} {t:au} {af:List Mine.Internal.D}
theorem d8.pure(K:p4 AC)(C:d8 w sa ga cenv aF bE D g0 wc J AC i l s g)(F:nW sa cenv aF D fp wr wc)(W:dz w A g0 I t af fp wr J)(N:Nx [] s g s' g')(G:St w s' g'):d8 w sa ga cenv aF bE D g0 wc J AC i l s' g':=by
 refine C.act.elim λaB H=>?_
 obtain⟨o,Y,Z⟩:=C.acc
 refine⟨⟨aB,H.step N G⟩,W.frame i _ _ C.it λb V o e=>N.keep b o e (F.fT b V) (ca),⟨o,N.get H.st Y (.inl (K.cls _ _ _ Z)) (by simp),K.mono _ _ _ _ N.gg Z⟩,?_,λa o e=>N.gg _ _ (C.up a o e),λb V=>?_⟩
 ·exact N.old _ _ Y C.off (by simp)
 ·obtain⟨q,o,e⟩:=C.wn b V
  exact⟨N.old _ _ e q (by simp),N.there b o e (by simp)⟩
theorem d8.next(C:d8 w sa ga cenv aF bE D g0 wc J AC i l s g)(F:nW sa cenv aF D fp wr wc)(W:dz w A g0 I t af fp wr J)(hd:eF bE)(G:J j h')(Y:∀b o,b∉wr->s.heap.get? b=aa o->h'.get? b=aa o):
 d8 w sa ga cenv aF bE D g0 wc J AC j l {s with heap:=h',toks:=tk} g:=by
 refine C.act.elim λaB H=>?_
 refine C.acc.elim λo Z=>Z.elim λf h2=>?_
 refine⟨⟨aB,H.rR Y (λa V=>⟨.inl (F.wn a V),(C.wn a (F.s1 a V)).1,W.nc i _ C.it a V⟩) (λq=>F.fL (W.sub _ q)) F.wC λx b e=>?_⟩,G,⟨o,Y _ _ (λq=>F.Df (W.sub _ q)) f,h2⟩,C.off,C.up,λb B=>⟨(C.wn b B).1,?_⟩⟩
 ·have q1:=(hd.aB H x b e).1;have q3:=(hd.aB H x b e).2.2
  exact λa V=>by rw[q3] at V;simp at V
 ·by_cases q:b∈wr
  ·obtain⟨o,e,_⟩:=W.nc _ _ G b q;exact⟨o,e⟩
  ·obtain⟨_,o,e⟩:=C.wn b B;exact⟨o,Y b o q e⟩
theorem d8.target(K:p4 AC){d:Mine.Internal.D}{k:ay->Prop}(C:d8 w sa ga cenv aF bE D g0 wc J AC i l s g)(F:nW sa cenv aF D fp wr wc)(W:dz w A g0 I t af fp wr J)(hd:eF bE)(R:Rm n A)(hv:pT w g0 t v d s.heap)(h:c0 n aF bE t d λaC=>eF aC/\k aC)(E:ai->av->Prop):
 wpAny (model PG w) A (assign t cenv v) (λ_ s'=>∃g' aC,d8 w sa ga cenv aF aC D g0 wc J AC i l s' g'/\eF aC/\k aC) E s:=by
 refine C.act.elim λaB H=>?_
 obtain⟨o,f,h2⟩:=C.acc
 have H1:=H.rebase.1;have V:=H.rebase.2
 have Z:∀a∈iQ cenv aF bE aB,a=cenv.locals\/∃x,cenv.cells.lookup x=aa a/\aF.names.lookup x=aa .cell:=λa ha=>by
  rcases wY ha with q|q|⟨x,b,q1,q2,q3⟩
  ·exact .inl q
  ·exact .inr q
  ·rw[(hd.aB H x b q1).2.2] at q3;simp at q3
 have Dt:D∉iQ cenv aF bE aB:=λq=>by
  rcases Z D q with e|⟨x,e,_⟩
  ·exact F.DL e
  ·exact F.DC x D e rfl
 have ft:∀b∈fp,b∉iQ cenv aF bE aB:=λb V q=>by
  rcases Z b q with e|⟨x,e,e'⟩
  ·exact F.fL (e▸V)
  ·exact F.fC x b e e' V
 refine bg (h.run w A cenv _ s g s g aB v H1 R (hv.mono C.up) E) (λ_ s' ⟨g',aC,G,Y,m,hk⟩=>?_)
 refine⟨g',aC,⟨⟨G,?_⟩,W.frame i _ _ C.it λb V o e=>Y.nx.keep b o e (F.fT b V) (ft b V),⟨o,Y.nx.get H.st f (.inl (K.cls _ _ _ h2)) Dt,K.mono _ _ _ _ m h2⟩,?_,λa o e=>m _ _ (C.up a o e),λb V=>?_⟩,hk⟩
 ·exact H.B' Y V
 ·exact Y.nx.old _ _ f C.off Dt
 ·refine(C.wn b V).elim λq B=>B.elim λo e=>?_
  exact⟨Y.nx.old _ _ e q (ft b (F.s2 b V)),Y.nx.there b o e (ft b (F.s2 b V))⟩
theorem d8.stored{G:Obj}{l':List α}(K:p4 AC)(C:d8 w sa ga cenv aF bE D g0 wc J AC i l s g)(F:nW sa cenv aF D fp wr wc)(W:dz w A g0 I t af fp wr J)(hd:eF bE)
 (hs:∀b,b≠D->h'.get? b=s.heap.get? b)(f:h'.get? D=aa G)(Y:AC g G l'):d8 w sa ga cenv aF bE D g0 wc J AC i l' {s with heap:=h',toks:=tk} g:=by
 refine C.act.elim λaB H=>?_
 obtain⟨o,h1,h2⟩:=C.acc
 have Z:∀b∈fp,b≠D:=λb V e=>F.Df (e▸V)
 have B:∀b o,b∉[D]->s.heap.get? b=aa o->h'.get? b=aa o:=λb o V e=>(hs b (by simpa using V)).trans e
 refine⟨⟨aB,H.rR (tk:=tk) B (λa Y=>?_) (λq=>F.DL (a_.mp q).symm) (λx c hc q=>F.DC x c hc (a_.1 q)) λx b e=>?_⟩,W.frame i _ _ C.it λb V o e=>B b o (by simpa using Z b V) e,⟨G,f,Y⟩,C.off,C.up,λb V=>(C.wn b V).elim λq q_=>q_.elim λo e=>⟨q,o,B b o (by simpa using Z b (F.s2 b V)) e⟩⟩
 ·have:a=D:=a_.1 Y
  subst this
  exact⟨.inl F.Dn,C.off,_,h1,cV.of (K.nf _ _ _ h2)⟩
 ·have q1:=(hd.aB H x b e).1;have q3:=(hd.aB H x b e).2.2
  exact λa Y=>by rw[q3] at Y;simp at Y
theorem d8.weaken(C:d8 w sa ga cenv aF aC D g0 wc J AC i l s g)(h:Sub bE aC):d8 w sa ga cenv aF bE D g0 wc J AC i l s g:=
 C.act.elim λaB H=>⟨⟨aB,H.weaken h⟩,C.it,C.acc,C.off,C.up,C.wn⟩
theorem d8.st(C:d8 w sa ga cenv aF bE D g0 wc J AC i l s g):St w s g:=C.act.elim λ_ H=>H.st
theorem d8.cI(C:d8 w sa ga cenv aF bE D g0 wc J AC i l s g):c8 w s g cenv aF bE:=C.act.elim λ_ H=>H.cI
end
theorem eF.cons(h:eF ρ):eF ((x,.dat d)::ρ):=λy b e=>by
 rw[j5] at e
 split at e
 ·obtain rfl:=aW e;exact⟨d,rfl⟩
 ·exact h y b e
theorem eF.cap:eF (cY aF ρ):=λx b e=>(Az e).elim λ_ V=>V.elim λd V=>V.elim λh _=>⟨d,h⟩
structure kL{α:Type}(N:Nat)(e bp iter:au)(bV:List au)(mk:Sem ai)(AC:aY->Obj->List α->Prop)(w:a9)(n:Nat)(aF:bf)(P:(List α->D->List α)->D->ay->Prop)(m:ai->Env->Sem Unit):Prop where
 ok:p4 AC
 cls:∃gs,Hy e=⟨bp,iter,bV,0⟩::gs
 LS:∀it D ab,(model PG w).den (.compStart e 0 it (.ref D) ab)=(AP e 0 it (.ref D) ab).onRaise (λx=>do rz x ab;standAt FA)
 Ke:∀(A:bN) it D ab,A.under (.compStart e 0 it (.ref D) ab)=A
 turn:∀it D ab,compTurn e 0 it (.ref D) ab=uq e bp iter bV (m (.ref D) ab) it (.ref D) ab 0
 den:∀it D ab,(model PG w).den (jG e 0 it (.ref D) ab)=(compTurn e 0 it (.ref D) ab).onRaise (λx=>do rz x ab;zS x)
 under:∀(A:bN) it D ab,A.under (jG e 0 it (.ref D) ab)=A
 make:∀(A:bN) (E:ai->av->Prop) (s:av) (Q:ai->av->Prop),(∀o,(∀g,AC g o [])->o.isFreed=aI->Q (.ref s.heap.objs.size) {s with heap:=s.heap.push o})->wpAny (model PG w) A mk Q E s
 add:∀(F:List α->D->List α) (d:D) (ρ:ay) (D:ag) (A:bN) (cenv:Env) (sa:av) (ga:aY) (fp wr wc:List ag) (J:Nat->dp->Prop) (i:Nat) (l:List α) (s:av) (g g0:aY) (I:ag) (t:au) (af:List Mine.Internal.D) (E:ai->av->Prop),P F d ρ->eF ρ->Rm n A->nW sa cenv aF D fp wr wc->dz w A g0 I t af fp wr J->(∀i h,J i h->∀b∈fp,∃o,h.get? b=aa o)->
  d8 w sa ga cenv aF ρ D g0 wc J AC i l s g->D∉TB->l.length<=N->wpAny (model PG w) A (m (.ref D) cenv) (λ_ s'=>∃g',d8 w sa ga cenv aF ρ D g0 wc J AC i (F l d) s' g') E s
theorem dz.ex{I:ag}{t:au}{af:List D}{fp:List ag}(W:dz w A g I t af fp wr J):dz w A g I t af fp wr (λi h=>J i h/\∀b∈fp,∃o,h.get? b=aa o) where
 sub:=W.sub
 frame:=λi h h' ⟨a,b⟩ V=>⟨W.frame i h h' a V,λc Z=>(b c Z).elim λo e=>⟨o,V c Z o e⟩⟩
 nc:=λi h ⟨a,_⟩=>W.nc i h a
 item:=λi d s Q E hi ⟨a,b⟩ Y=>W.item i d s Q E hi a λv h' tk G H V=>Y v h' tk G ⟨H,λc Z=>by
  by_cases q:c∈wr
  ·obtain⟨o,e,_⟩:=W.nc _ _ H c q;exact⟨o,e⟩
  ·obtain⟨o,e⟩:=b c Z;exact⟨o,V c o q e⟩⟩ V
 done:=λs Q E ⟨a,_⟩ Y=>W.done s Q E a Y
 self:=λi s Q E ⟨a,_⟩ Y=>W.self i s Q E a Y
theorem kL.of{N:Nat}{bp:au}{mk:Sem ai}{AC:aY->Obj->List α->Prop}{P:(List α->D->List α)->D->ay->Prop}{m:ai->Env->Sem Unit}
 (ok:p4 AC)(cls:Hy e=[⟨bp,iter,bV,0⟩])(H:∀Y D ab,(model PG w).den (.compStart e 0 Y (.ref D) ab)=(AP e 0 Y (.ref D) ab).onRaise (λx=>do rz x ab;standAt FA))(Z:∀(A:bN) Y D ab,A.under (.compStart e 0 Y (.ref D) ab)=A)(turn:∀Y D ab,compTurn e 0 Y (.ref D) ab=uq e bp iter bV (m (.ref D) ab) Y (.ref D) ab 0)(den:∀Y D ab,(model PG w).den (jG e 0 Y (.ref D) ab)=(compTurn e 0 Y (.ref D) ab).onRaise (λx=>do rz x ab;zS x))(under:∀(A:bN) Y D ab,A.under (jG e 0 Y (.ref D) ab)=A)(G:∀(A:bN) (E:ai->av->Prop) (s:av) (Q:ai->av->Prop),(∀o,(∀g,AC g o [])->o.isFreed=aI->Q (.ref s.heap.objs.size) {s with heap:=s.heap.push o})->wpAny (model PG w) A mk Q E s)(add:∀(F:List α->D->List α) (d:D) (ρ:ay) (D:ag) (A:bN) (ab:Env) (s:av) (g:aY) (o:Obj) (l:List α) (E:ai->av->Prop),P F d ρ->St w s g->Rm n A->c8 w s g ab aF ρ->s.heap.get? D=aa o->AC g o l->g D=ak->D∉TB->l.length<=N->wpAny (model PG w) A (m (.ref D) ab) (λ_ s'=>∃aA aN h' tk o',Nx [] s g aA aN/\St w aA aN/\s'={aA with heap:=h',toks:=tk}/\(∀b,b≠D->h'.get? b=aA.heap.get? b)/\h'.get? D=aa o'/\AC aN o' (F l d)) E s):kL N e bp iter bV mk AC w n aF P m:=
 ⟨ok,⟨[],cls⟩,H,Z,turn,den,under,G,λF d ρ D A cenv sa ga fp wr wc J i l s g g0 I t af E hP hd R Fx W _ C hT hl=>by
  refine ba λN_=>?_
  obtain⟨o,e1,e2⟩:=C.acc
  apply N_
  refine bg (add F d ρ D A cenv s g o l _ hP C.st R C.cI e1 e2 C.off hT hl) (λ_ ac8 V=>V.elim λoQ V=>V.elim λB V=>V.elim λh5 V=>V.elim λtk5 V=>V.elim λo5 V=>V.elim λf V=>V.elim λmX V=>V.elim λes V=>V.elim λhs5 V=>V.elim λho5 ha5=>?_)
  subst es
  exact⟨B,(C.pure ok Fx W f mX).stored (tk:=tk5) ok Fx W hd hs5 ho5 ha5⟩⟩
theorem HJ{N lv:Nat}{sa:av}{ga g0:aY}{cenv:Env}{bE:ay}{D I:ag}{fp wc:List ag}{t:au}{af:List Mine.Internal.D}{AC:aY->Obj->List α->Prop}{F:List α->Mine.Internal.D->List α}{T:Mine.Internal.D->ay->Prop}{m:Sem Unit}{R:um->av->Prop}{l0:List α}
 (yh:compTurn e lv (.ref I) (.ref D) cenv=uq e t iter bV m (.ref I) (.ref D) cenv lv)(abZ:(model PG w).den (jG e lv (.ref I) (.ref D) cenv)=(compTurn e lv (.ref I) (.ref D) cenv).onRaise (λx=>do rz x cenv;zS x))(H:A.under (jG e lv (.ref I) (.ref D) cenv)=A)
 (K:p4 AC)(Fx:nW sa cenv aF D fp wr wc)(W:dz w A g0 I t af fp wr J)(hd:eF bE)(MF:Rm n A)(C:d8 w sa ga cenv aF bE D g0 wc J AC 0 l0 s g)(jr:∀i,((af.take i).foldl F l0).length<=N)
 (h:∀d∈af,c0 n aF bE t d λaC=>eF aC/\Sub bE aC/\fM n aF aC bV λb=>if b then T d aC else ∀l,F l d=l)
 (ac9:∀i d aC l s g E,d∈af->T d aC->eF aC->l.length<=N->d8 w sa ga cenv aF aC D g0 wc J AC i l s g->wpAny (model PG w) A m (λ_ s'=>∃g',d8 w sa ga cenv aF aC D g0 wc J AC i (F l d) s' g') E s)
 (hR:∀s' g' i,d8 w sa ga cenv aF bE D g0 wc J AC i (af.foldl F l0) s' g'->∀h' tk,(∀b o,b∉wr->s'.heap.get? b=aa o->h'.get? b=aa o)->R (.ok .next) {s' with heap:=h',toks:=tk}):
 codeAny (model PG w) A (jG e lv (.ref I) (.ref D) cenv) R s:=by
 refine Pu (bp:=t) (iter:=iter) (bV:=bV) (m:=m) yh abZ H
  (λk s=>∃i g,k=af.length-i/\i<=af.length/\d8 w sa ga cenv aF bE D g0 wc J AC i ((af.take i).foldl F l0) s g) ?_ (af.length-0) ⟨0,g,rfl,ck _,C⟩
 rintro k s ⟨i,g,rfl,hi,C⟩
 by_cases Y:i<af.length
 ·obtain⟨d,G⟩:∃d,af[i]?=aa d:=⟨af[i],by simp[Y]⟩
  refine bg (W.item i d s (λv aA=>wpAny (model PG w) A (assign t cenv v) (λ_ aT=>
   wpAny (model PG w) A (forIn bV ae λc r=>if r=ae then do let ok <-isTrue c cenv (eval c cenv);pure (mH ok) else pure (mH r)) (λok V=>
    if ok=ae then wpAny (model PG w) A m (λ_ B=>∃m,m<af.length-i/\∃i g,m=af.length-i/\i<=af.length/\d8 w sa ga cenv aF bE D g0 wc J AC i ((af.take i).foldl F l0) B g) (notedBy (model PG w) A cenv λe s'=>R (.error e) s') V
    else ∃m,m<af.length-i/\∃i g,m=af.length-i/\i<=af.length/\d8 w sa ga cenv aF bE D g0 wc J AC i ((af.take i).foldl F l0) V g) (notedBy (model PG w) A cenv λe s'=>R (.error e) s') aT) (notedBy (model PG w) A cenv λe s'=>R (.error e) s') aA) _ G C.it ?_) (λr aA hr=>?_)
  ·intro v h' tk hv hJ hk
   refine bg ((C.next (tk:=tk) Fx W hd hJ hk).target K Fx W hd MF hv (h d (c5 G)) _) (λ_ aT Z=>Z.elim λbb Z=>Z.elim λaC Z=>Z.elim λC2 Z=>Z.elim λqm Z=>Z.elim λhs ht=>?_)
   refine bg (ht.ok w A cenv aT bb C2.st MF C2.cI _) (λok V ⟨f,gr,ig,jQ⟩=>?_)
   have C3:=C2.pure K Fx W gr ig
   have MG:(af.take (i+1)).foldl F l0=F ((af.take i).foldl F l0) d:=by
    simp only[lN,G,lO];rfl
   induction ok with
   |false=>
    have ZF:∀l,F l d=l:=jQ
    exact⟨af.length-(i+1),KQ Y,i+1,f,rfl,Y,by rw[MG,ZF];exact C3.weaken hs⟩
   |true=>
    refine bg (ac9 (i+1) d aC _ V f _ (c5 G) (jQ:T d aC) qm (jr i) C3) (λ_ B Z=>Z.elim λmY C5=>?_)
    exact⟨af.length-(i+1),KQ Y,i+1,mY,rfl,Y,by rw[MG];exact C5.weaken hs⟩
  ·obtain⟨v,rfl,hv⟩:=hr
   exact hv
 ·have e:i=af.length:=lc hi (de.mp Y)
  subst e
  refine W.done s _ _ C.it λh' tk hk=>?_
  exact hR s g _ (jY▸C) h' tk hk
set_option tactic.hygienic true in
theorem Sub.tgt{b:Bd}(V:dC aF sc=ae)(Y:mine aF x=ae)(h:Sub (cY aF ρ) aC):Sub (cY aF ρ) ((x,b)::aC):=λy c e=>by
 refine j5.trans ?_
 split
 ·rename_i W
  subst W
  have:=lT (dC.spec V).1 ((Az e).1)
  rcases BN Y with q|q<;>rw[this] at q<;>exact nomatch q
 ·exact h y c e
section
variable {n:Nat} {sc:bf} {ρ:ay} {k:D->Prop}
theorem Pw(h:Q (.ref s.heap.objs.size) {s with heap:=s.heap.push {cls:=aK "list",data:=.seq #[]}}):wpAny (model PG w) A (newList []) Q E s:=
 lb h
def dj(n:Nat)(sc:bf)(ρ:ay)(aF:bf)(bp iter co:au)(bV:List au)(k:D->Prop):Prop:=
 bK n sc ρ bp iter λaf=>∃f:D->Option D,(∀d∈af,c0 n aF (cY aF ρ) bp d λaC=>eF aC/\Sub (cY aF ρ) aC/\fM n aF aC bV λb=>if b then aj n aF aC co (λy=>f d=aa y) else f d=ak)/\k (.lst (af.filterMap f))
inductive XY(w:a9)(A:bN)(s:av)(g:aY)(t:au)(k:List D->Prop)(it:ai)(aT:av):Prop
 |mk (I fp wr J af bb:_) (hi:it=.ref I) (N:Nx [] s g aT bb) (S:St w aT bb) (W:dz w A bb I t af fp wr J) (hJ:J 0 aT.heap) (hw:∀b∈wr,s.heap.get? b=ak/\bb b=ak) (mw:∀b∈fp,b∉TB/\b<aT.heap.objs.size/\(b∈wr\/(∃o,bb b=aa o)\/∃iI,aT.heap.PlainList b iI)) (hl:af.length<=10000) (hk:k af)
structure gu(n:Nat)(sc:bf)(ρ:ay)(t:au)(e:au)(k:List D->Prop):Prop where
 run:∀(w:a9) (A:bN) (ab:Env) (s:av) (g:aY),St w s g->Rm n A->c8 w s g ab sc ρ->∀E,wpAny (model PG w) A (eval e ab) (λx aA=>wpAny (model PG w) A (pyIter x) (XY w A s g t k) E aA) E s
theorem bK.cc{t:au}{k:List D->Prop}(h:bK n sc ρ t e k):gu n sc ρ t e k:=.mk λw A ab s g S R V E=>
 bg (h.run w A ab s g S R V E) (λx aA Z=>eg Z (λit aT f=>by obtain⟨I,fp,wr,J,af,bb,e,H,G,W,hJ,hw,Y,C,hk⟩:=f;exact⟨I,fp,wr,J,af,bb,e,H,G,W,hJ,hw,λb B=>⟨(Y b B).1,(Y b B).2.1,(Y b B).2.2.imp id .inl⟩,C,hk⟩) λ_ _ x=>x)
def n7(n:Nat)(sc:bf)(ρ:ay)(aF:bf)(bp iter co:au)(bV:List au)(k:D->Prop):Prop:=
 gu n sc ρ bp iter λaf=>∃f:D->Option D,(∀d∈af,c0 n aF (cY aF ρ) bp d λaC=>eF aC/\Sub (cY aF ρ) aC/\fM n aF aC bV λb=>if b then aj n aF aC co (λy=>f d=aa y) else f d=ak)/\k (.lst (af.filterMap f))
def uC{α:Type}(N n:Nat)(sc:bf)(ρ:ay)(aF:bf)(bp iter:au)(bV:List au)(P:(List α->D->List α)->D->ay->Prop)(k:List α->Prop):Prop:=
 gu n sc ρ bp iter λaf=>af.length<=N/\∃F:List α->D->List α,(∀l d,(F l d).length<=l.length+1)/\(∀d∈af,c0 n aF (cY aF ρ) bp d λaC=>eF aC/\Sub (cY aF ρ) aC/\fM n aF aC bV λb=>if b then P F d aC else ∀l,F l d=l)/\k (af.foldl F [])
def x4{α:Type}(N n:Nat)(sc:bf)(ρ:ay)(aF:bf)(bp iter:au)(bV:List au)(P:(List α->D->List α)->D->ay->Prop)(k:List α->Prop):Prop:=
 gu n sc ρ bp iter λaf=>∃F:List α->D->List α,(∀i,((af.take i).foldl F []).length<=N)/\(∀d∈af,c0 n aF (cY aF ρ) bp d λaC=>eF aC/\Sub (cY aF ρ) aC/\fM n aF aC bV λb=>if b then P F d aC else ∀l,F l d=l)/\k (af.foldl F [])
theorem S0{F:List α->β->List α}(W:∀l d,(F l d).length<=l.length+1):∀(Y:List β) (l:List α),(Y.foldl F l).length<=l.length+Y.length:=by
 intro Z
 induction Z with
 |nil=>
  intro l
  exact bv _
 |cons d r V=>
  intro l
  have H:=V (F l d)
  have G:=W l d
  simp only[iq,gF];exact BH (by assumption) (by assumption)
theorem gu.mono{t:au}{k k':List D->Prop}(h:gu n sc ρ t e k)(B:∀l,k l->k' l):gu n sc ρ t e k':=.mk λw A ab s g S R V E=>
 bg (h.run w A ab s g S R V E) (λx aA Y=>eg Y (λit aT f=>by obtain⟨I,fp,wr,J,af,bb,e,Z,H,W,hJ,hw,C,G,q⟩:=f;exact⟨I,fp,wr,J,af,bb,e,Z,H,W,hJ,hw,C,G,B _ q⟩) λ_ _ x=>x)
theorem gu.len{t:au}{k:List D->Prop}(h:gu n sc ρ t e k):gu n sc ρ t e λl=>l.length<=10000/\k l:=.mk λw A ab s g S R V E=>
 bg (h.run w A ab s g S R V E) (λx aA Z=>eg Z (λit aT B=>by obtain⟨I,fp,wr,J,af,bb,e,H,G,W,f,hw,C,Y,q⟩:=B;exact⟨I,fp,wr,J,af,bb,e,H,G,W,f,hw,C,Y,Y,q⟩) λ_ _ x=>x)
theorem uC.hh{N:Nat}{bp:au}{P:(List α->D->List α)->D->ay->Prop}{kl:List α->Prop}(h:uC N n sc ρ aF bp iter bV P kl):x4 N n sc ρ aF bp iter bV P kl:=
 gu.mono h λaf W=>by refine W.elim λhl V=>V.elim λF Y=>Y.elim λZ r=>?_;exact⟨F,λi=>by
  have:=S0 Z (af.take i) []
  simp only[gG,wl] at this
  exact aa8 (by assumption) (by assumption),r⟩
theorem dj.cc{bp:au}(h:dj n sc ρ aF bp iter co bV k):n7 n sc ρ aF bp iter co bV k:=bK.cc h
theorem AV{N:Nat}{bp:au}{mk:Sem ai}{AC:aY->Obj->List α->Prop}{P:(List α->D->List α)->D->ay->Prop}{m:ai->Env->Sem Unit}{kl:List α->Prop}
 {w:a9}(K:kL N e bp iter bV mk AC w n aF P m)(ni:dC aF sc=ae)(hs:∀ab x,im iter ab x=pure x)(h:x4 N n sc ρ aF bp iter bV P kl)
 {A:bN}{ab:Env}{s:av}{g:aY}(S:St w s g)(R:Rm n A)(V:c8 w s g ab sc ρ){E:ai->av->Prop}{Q:ai->av->Prop}{use:Option (ai->Sem Unit)}{fp:Pos}
 (hQ:∀s' g' D o l C,Nx [] s g s' g'->St w s' g'->s.heap.get? D=ak/\D≠iu->g' D=aa o->AC g' o l->kl l->s.heap.get? C=ak->g' C=ak->(∃m,s'.heap.Ns C m)->compPost (model PG w) A E use Q (.ref D) C (.ok .next) s'):
 wpAny (model PG w) A (Gb e aF ab fp mk aI (eval iter ab) use) Q E s:=by
 have iH:=(dC.spec ni).1;have hk:=(dC.spec ni).2.1;have jv:=(dC.spec ni).2.2
 refine K.cls.elim λgs kY=>?_
 refine wpAny_comprehension_free (use:=use) (g:=⟨bp,iter,bV,0⟩) (gs:=gs) kY (hs ab) (dQ.of V ni).1 hk (λx hx hl=>lT iH (by obtain⟨a,b⟩:=x;subst hl;exact hx)) ?_
 refine bg (h.run w A ab s g S R V E) (λx aA iX=>eg iX (λit aT ⟨I,fp,wr,J,af,bb,e,Y,Z,W,hJ,hw,mw,_,F0,hF0,hf,hkk⟩=>?_) λ_ _ x=>x)
 subst e
 replace hJ:J 0 aT.heap/\∀b∈fp,∃o,aT.heap.get? b=aa o:=⟨hJ,λb hb=>by
  rcases(mw b hb).2.2 with q|⟨o,q⟩|⟨iI,nn,q⟩
  ·have ⟨o,e,_⟩:=W.nc _ _ hJ b q;exact⟨o,e⟩
  ·exact⟨o,Z.sub _ _ q⟩
  ·exact⟨_,q⟩⟩
 replace W:=W.ex
 refine K.make A E aT _ λoA MH ab0=>?_
 generalize hD:aT.heap.objs.size=D
 have D2:aT.heap.get? D=ak:=by exact hD▸(lg _)
 have Dn:s.heap.get? D=ak:=by
  induction q:s.heap.get? D with
  |none=>rfl
  |some o=>obtain⟨o',e'⟩:=Y.there _ _ q (ca);exact ns (D2.symm.trans e')
 have gD:bb D=ak:=by
  induction q:bb D with
  |none=>rfl
  |some o=>replace D2:=(Z.sub _ _ q)▸D2;exact sn D2
 have D0:D≠iu:=λe=>by
  obtain⟨mg,o,_,_,e',_⟩:=Z.gx
  have:=cq e'
  rw[hD,e] at this
  exact aZ this (by decide)
 obtain⟨gr,ig⟩:=Z.ext' (h':=aT.heap.push oA) (tk:=aT.toks) λb o e=>bZ _ e
 have hk3:∀b o,aT.heap.get? b=aa o->(aT.heap.push oA).get? b=aa o:=λb o e=>bZ _ e
 have MI:(aT.heap.push oA).get? D=aa oA:=by exact hD▸(cB _ ab0)
 have hT:D∉TB:=ig.dN (a:=D) MI (.inl (K.ok.cls _ _ _ (MH bb)))
 have sz:(aT.heap.push oA).objs.size=D+1:=by rw[gX,hD]
 refine SY ig ((V.step Y S).step gr Z) ni λcenv f H MJ hL hC=>?_
 have B:∀x c,ab.cells.lookup x=aa c->(∃o,s.heap.get? c=aa o)/\c∉wr/\c<D:=λx c hc=>by
  refine ba λN_=>?_
  obtain⟨_,v,o,e,_⟩:=V.cP x c hc
  obtain⟨o',e'⟩:=Y.there _ _ e (ca)
  apply N_
  exact⟨⟨o,e⟩,λq=>(by rw[(hw c q).1] at e;exact ns e),(by exact hD▸(cq e'))⟩
 have yk:∀b∈fp,b<D:=λb hb=>by exact hD▸((mw b hb).2.1)
 have F:nW s {cenv with scope:=relabel aF ab} aF D fp wr wr:=by
  refine⟨Dn,by rw[(hL.trans sz:cenv.locals=D+1)];exact eB (gW _),λx c hc e=>?_,λq=>gK _ (yk D q),λb hb=>(hw b hb).1,λq=>?_,λx c hc hk q=>?_,λx c hc q=>?_,λb hb=>(mw b hb).1,λ_ q=>q,W.sub⟩
  ·rcases hC x c hc with ⟨q1,_⟩|q
   ·rw[sz,e] at q1;exact gK _ (eK (gW _) q1)
   ·exact gK _ (e▸(B x c q).2.2)
  ·have:=yk _ q
   exact gK _ (eK (gW _) ((hL.trans sz:cenv.locals=D+1)▸(this:cenv.locals<D)))
  ·rcases hC x c hc with ⟨q1,_⟩|q2
   ·rw[sz] at q1;exact gK _ (eK (eK (gW _) q1) (yk c q))
   ·rcases(mw c q).2.2 with e|⟨o,e⟩|⟨iI,nn,e⟩
    ·exact(B x c q2).2.1 e
    ·exact ns ((((V.step Y S).cP x c q2).1).symm.trans e)
    ·obtain⟨_,_,o,e1,e2⟩:=(V.step Y S).cP x c q2
     rw[e] at e1;obtain rfl:=aW e1;cases e2
  ·rcases hC x c hc with ⟨q1,_⟩|q2
   ·rw[sz] at q1;exact gK _ (eK (eK (gW _) q1) (yk c (W.sub c q)))
   ·exact(B x c q2).2.1 q
 have Kf:∀b o,aT.heap.get? b=aa o->f.heap.get? b=aa o:=λb o e=>MJ b o (hk3 b o e)
 have C:d8 w s g {cenv with scope:=relabel aF ab} aF (cY aF ρ) D bb wr (λi h=>J i h/\∀b∈fp,∃o,h.get? b=aa o) AC 0 [] f bb:=by
  refine⟨⟨_,H.V7 S (Y.trans gr)⟩,W.frame 0 _ _ hJ λb _ o e=>Kf b o e,⟨oA,MJ _ _ MI,MH bb⟩,gD,λ_ _ e=>e,λb hb=>⟨(hw b hb).2,let ⟨o,e,_⟩:=W.nc _ _ hJ b hb;⟨o,Kf b o e⟩⟩⟩
 have u7:codeAny (model PG w) A (jG e 0 (.ref I) (.ref D) {cenv with scope:=relabel aF ab}) (compPost (model PG w) A E use Q (.ref D) cenv.locals) f:=by
  refine HJ (K.turn _ _ _) (K.den _ _ _) (K.under _ _ _ _) K.ok F W eF.cap R C hF0 hf (λi d aC l s g E _ hP qm hl C=>K.add F0 d aC D A _ _ _ _ _ _ _ i l s g _ _ _ _ E hP qm R F W (λ_ _ q=>q.2) C hT hl) λs' g' i C' h' tk jU=>?_
  refine ba λN_=>?_
  obtain⟨aB,H'⟩:=C'.act
  obtain⟨oD,h1,h2⟩:=C'.acc
  obtain⟨m,hm⟩:=H'.gy
  apply N_
  have DY:h'.Ns cenv.locals m:=hm.elim λo q_=>q_.elim λes q_=>q_.elim λep q_=>q_.elim λe r=>⟨o,es,ep,jU _ _ (λq=>F.fL (W.sub _ q):cenv.locals∉wr) e,r⟩
  refine ba λN_=>?_
  obtain⟨oL,_,_,eL,dL,_⟩:=id hm
  obtain⟨p9,uM⟩:=St.changes (mt:=wr) (h':=h') (tk:=tk) S H'.st H'.nx dq.nil (λa ha=>by
   have ⟨o,e1,e2⟩:=W.nc i _ C'.it a ha
   exact⟨.inl (F.wn a ha),(C'.wn a ha).1,o,e1,e2⟩) jU
  apply N_
  have G:=H'.nx.over p9 λa ha=>.inl (F.wn a ha)
  refine(uM.freeze (n:=D) (jU _ _ (λq=>F.Df (W.sub _ q):D∉wr) h1:h'.get? D=aa oD) C'.off hT).elim λab1 up=>?_
  have Cn:s.heap.get? cenv.locals=ak:=by
   rcases H'.iW with q|q
   ·exact q
   ·simp at q
  refine hQ {s' with heap:=h',toks:=tk} (iz g' D oD) D oD _ cenv.locals ⟨G.keep,G.there,λa o e=>up _ _ (G.gg a o e),λa o e1 e2 hm=>?_,G.os⟩ ab1 ⟨Dn,D0⟩ (gZ _ _ _) (K.ok.mono _ _ _ _ up h2) hkk Cn ?_ ⟨m,DY⟩
  ·exact(fD _ _ _ (λe=>by rw[e,Dn] at e1;exact ns e1)).trans (G.old a o e1 e2 hm)
  ·exact(fD _ _ _ (Ne.symm F.DL)).trans H'.ii
 exact E1 (g:=⟨bp,iter,bV,0⟩) (by rw[kY];rfl) rfl (K.LS _ _ _) (K.Ke _ _ _ _) u7 (W.self 0 f _ _ C.it u7)
def pU(w:a9)(g:aY)(o:Obj)(l:List D):Prop:=∃ys n,o={cls:=aK "list",data:=.seq ys n}/\aP w g ys.toList l
theorem rB:p4 (pU w):=⟨λg g' o l h ⟨ys,n,e,r⟩=>⟨ys,n,e,r.mono h⟩,λg o l ⟨ys,n,e,r⟩=>(by rw[e];simp),λg o l ⟨ys,n,e,r⟩=>(by rw[e];simp)⟩
theorem CA{bp:au}:kL 10000 (.ListComp co [⟨bp,iter,bV,0⟩] ow aM) bp iter bV (newList []) (pU w) w n aF (λF d aC=>aj n aF aC co λy=>∀l,F l d=l++[y]) (λD ab=>do let _ <-call (.builtin "list.append") [D,<-eval co ab]):=
 kL.of
  rB
  (rfl)
  (λ_ _ _=>rfl)
  (λ_ _ _ _=>rfl)
  (λ_ _ _=>rfl)
  (λ_ _ _=>rfl)
  (λ_ _ _ _=>rfl)
  (λA E s Q h=>Pw (h _ (λg=>⟨#[],0,rfl,aP.nil⟩) rfl))
  (λF d ρ D A ab s g o l E B S R V e ⟨ys,f,eo,hr⟩ hg hT hl=>by
  subst eo
  refine aJ (B.wp S R V λx W Z y Y H G hy=>?_)
  have hs:ys.size=l.length:=by have:=hr.1;exact this
  refine aJ (zg (items:=ys) ⟨f,Y.get S e (.inl (by simp)) (ca)⟩ (λh' ⟨n',hp⟩ C=>a8 ⟨W,Z,h',W.toks,_,Y,H,rfl,λb hb=>C.2 b hb,hp,_,_,rfl,?_⟩) (by rw[hs];have:sizeLine=2^24:=rfl;exact bd (aV hl (by decide))))
  simp only[hy,s9]
  exact(hr.mono Y.gg).append (aP.cons G aP.nil))
theorem c0.mono{t:au}{k k':ay->Prop}(h:c0 n sc ρ t d k)(Y:∀aC,k aC->k' aC):c0 n sc ρ t d k':=.mk λw A ab mu aw aE s g aB v H R r E=>
 bg (h.run w A ab mu aw aE s g aB v H R r E) (λ_ s' W=>by obtain⟨g',aC,V,a,b,c⟩:=W;exact⟨g',aC,V,a,b,Y _ c⟩)
theorem fM.mono:∀{bV:List au} {k k':Bool->Prop},fM n sc ρ bV k->(∀b,k b->k' b)->fM n sc ρ bV k'
 |[],_,_,h,V=>V _ h
 |c::r,k,k',h,V=>bH.mono (k':=λb=>if b then fM n sc ρ r k' else k' G4) h λb Y=>by
  induction b with
  |true=>exact fM.mono (bV:=r) Y V
  |false=>exact V _ Y
theorem n7.gg{bp:au}(h:n7 n sc ρ aF bp iter co bV k):uC 10000 n sc ρ aF bp iter bV (λF d aC=>aj n aF aC co λy=>∀l,F l d=l++[y]) λl=>k (.lst l):=by
 refine gu.mono h.len λaf V=>V.elim λhl V=>V.elim λf V=>V.elim λH G=>⟨hl,λl d=>l++(f d).toList,λl d=>by cases f d<;>simp,λd hd=>?_,?_⟩
 ·refine c0.mono (H d hd) λaC V=>V.elim λC V=>V.elim λB h3=>⟨C,B,fM.mono h3 λb Z=>?_⟩
  induction b with
  |true=>exact aj.mono Z λy hy l=>by show l++(f d).toList=_;rw[hy];rfl
  |false=>
   intro l;show l++(f d).toList=l;rw[(Z:f d=ak)];simp
 ·have W:∀(Y:List D) (l:List D),Y.foldl (λl d=>l++(f d).toList) l=l++Y.filterMap f:=by
   intro Y
   induction Y with
   |nil=>intro l;simp
   |cons d r ih=>
    intro l
    rw[iq,ih,ny]
    cases f d<;>simp
  rw[W];exact G
theorem aj.CB{N:Nat}{bp:au}{mk:Sem ai}{AC:a9->aY->Obj->List α->Prop}{P:(List α->D->List α)->D->ay->Prop}{m:ai->Env->Sem Unit}{kl:List α->Prop}{Y:Pos}
 (K:∀w,kL N e bp iter bV mk (AC w) w n aF P m)(he:∀ab,eval e ab=Gb e aF ab Y mk aI (eval iter ab))(G:dC aF sc=ae)(hs:∀ab x,im iter ab x=pure x)(h:x4 N n sc ρ aF bp iter bV P kl)
 (hr:∀w g D o l,g D=aa o->D≠iu->AC w g o l->kl l->∃d,Rep w g (.ref D) d/\k d):aj n sc ρ e k:=.mk λw A ab s g S R V E=>by
 rw[he]
 refine AV (K w) G hs h S R V (use:=aU) λs' g' D o l C N S' Dn gD W B Cn gC q_=>q_.elim λm hm=>⟨m,hm,λh' f=>?_⟩
 refine(hr w g' D o l gD Dn.2 W B).elim λd m_=>m_.elim λr B=>?_
 refine ba λN_=>?_
 obtain⟨oL,_,_,eL,dL,_⟩:=id hm
 obtain⟨Z,H⟩:=St.changes (mt:=[C]) (h':=h') (tk:=s'.toks) S S' N dq.nil (λa W=>by
  have:a=C:=a_.1 W
  subst this
  exact⟨.inl Cn,gC,oL,eL,cV.of λvs q=>by cases dL.symm.trans q⟩) (λb o hb e=>(f.2 b (by simpa using hb)).trans e)
 apply N_
 exact⟨g',d,N.over Z (λa W=>by
  have:a=C:=a_.1 W
  subst this;exact .inl Cn),H,r,B⟩
theorem pU.rep{D:ag}{l:List Mine.Internal.D}(V:g D=aa o):pU w g o l->Rep w g (.ref D) (.lst l):=λ⟨ys,Y,W,hr⟩=>.lst D Y ys l (V.trans (aQ _ W)) hr.1 hr.2
theorem aj.AW{bp:au}(V:dC aF sc=ae)(hs:∀ab x,im iter ab x=pure x)(h:n7 n sc ρ aF bp iter co bV k):
 aj n sc ρ (.ListComp co [⟨bp,iter,bV,0⟩] aF aM) k:=aj.CB (λw=>CA) (λab=>QA ..) V hs h.gg.hh λw g D o l Y _ W Z=>⟨_,W.rep Y,Z⟩
theorem aj.Ug{bp:au}(V:dC aF sc=ae)(hs:∀ab x,im iter ab x=pure x)(h:dj n sc ρ aF bp iter co bV k):
 aj n sc ρ (.ListComp co [⟨bp,iter,bV,0⟩] aF aM) k:=.AW V hs h.cc
set_option tactic.hygienic true in
theorem aO.V8{N:Nat}{bp:au}{mk:Sem ai}{AC:a9->aY->Obj->List α->Prop}{P:(List α->D->List α)->D->ay->Prop}{m:ai->Env->Sem Unit}{kl:List α->Prop}{Z:Pos}{k:Fl->ay->Prop}
 (K:∀w,kL N e bp iter bV mk (AC w) w n aF P m)(he:∀ab use,evalThenUse e ab use=(do let _ <-Gb e aF ab Z mk aI (eval iter ab) (aa use)))(f:dC aF sc=ae)(hs:∀ab x,im iter ab x=pure x)(hx:sc.names.lookup x=aa .local)
 (hse:∀ab,iy e (aa (aS x p)) oN.line ab=pure (ab.blockKind==fk&&ab.kindOf x==aa .local&&(p.line==e.pos.line)&&!(aF.names.any λ(n,k)=>n==x&&(k==.local||k==.cell))))
 (Y:(p.line==e.pos.line&&!(aF.names.any λy=>y.1==x&&(y.2==.local||y.2==.cell)))=ae)(h:x4 N n sc ρ aF bp iter bV P kl)
 (hr:∀w g D o l,g D=aa o->D≠iu->AC w g o l->kl l->∃d,Rep w g (.ref D) d/\k .next ((x,.dat d)::ρ)):
 aO n sc ρ (e_ [aS x p] e oN) k:=.mk λw A ab mu aw aE s g aB H R E=>by
 have sw:iy e (aa (aS x p)) oN.line ab=pure ae:=by
  rw[hse]
  have e:ab.blockKind=fk:=by unfold QB;rw[H.kind];rfl
  rw[e,(KS.local (hx▸H.ks x):ab.kindOf x=aa .local)]
  simp only[bB] at Y
  rw[Y.1]
  have:(aF.names.any λ(n,k)=>n==x&&(k==.local||k==.cell))=aI:=by simpa using Y.2
  rw[this];rfl
 rw[exec_Assign_Name_used _ _ _ _ sw]
 refine jb (aJ ?_)
 rw[he]
 refine aJ (bg (AV (Q:=λ_ s'=>Fin w mu aw aE ab sc k .next s') (use:=aa (Aj (aS x p) ab)) (K w) f hs h H.st R H.cI λs' g' D o l C N S' Dn gD W hk G gC V=>?_) (λ_ s' hq=>a8 (a8 hq)))
 obtain⟨d,r,hk⟩:=hr w g' D o l gD Dn.2 W hk
 obtain⟨m,V⟩:=V
 have new:∀a,s.heap.get? a=ak->aw.heap.get? a=ak\/a∈mu:=λa e=>by
  by_cases q:a∈mu
  ·exact .inr q
  ·induction e':aw.heap.get? a with
   |none=>exact .inl rfl
   |some o=>obtain⟨o',vo⟩:=H.nx.there a o e' q;exact ns (e.symm.trans vo)
 obtain⟨mL,sI⟩:=H.gy
 have CL:C≠ab.locals:=λe=>by
  obtain⟨o,_,_,q,_⟩:=sI
  rw[<-e,G] at q;exact ns q
 have B:=H.step N S'
 have H3:=B.rebase.1;have hb:=B.rebase.2
 have cN:∀y c,ab.cells.lookup y=aa c->c≠C:=λy c hc e=>by
  obtain⟨_,⟨_,o,q,_⟩,_⟩:=H.cP y c hc
  rw[e,G] at q;exact ns q
 have Ct:C∉iQ ab sc ρ aB:=λq=>by
  rcases wY q with e|⟨y,e,_⟩|⟨y,b,q1,q2,q3⟩
  ·exact CL e
  ·exact cN y C e rfl
  ·obtain⟨u,_,rb⟩:=H.var y b q1
   obtain⟨o,e⟩:=cU.there H.st rb q2 C q3
   exact ns (G.symm.trans e)
 refine E7 (H3.store (n:=0) (b:=.dat d) (ad:=[]) (by unfold mine;rw[hx];rfl) ⟨r,rfl⟩ (λa h=>by simp at h) (λaT he H2=>?_) E)
 refine⟨m,H2.nx.ns B.st V Ct,λh'' hsb=>?_⟩
 obtain⟨oL,_,_,eL,dL,_⟩:=id (H2.nx.ns B.st V Ct)
 have gC2:g' C=ak:=gC
 refine⟨g',_,.next,_,(B.B' H2 hb).rR (wr:=[C]) (tk:=aT.toks) (λb o hb e=>(hsb.2 b (by simpa using hb)).trans e) (λa W=>?_) (λq=>CL (a_.mp q).symm) (λy c hc q=>cN y c hc (a_.mp q)) (λy b e=>?_),trivial,hk⟩
 ·have:a=C:=a_.1 W
  subst this
  exact⟨new a G,gC2,oL,eL,cV.of λvs q=>by cases dL.symm.trans q⟩
 ·rw[j5] at e
  intro a W V
  have V:a=C:=a_.1 V
  subst V
  by_cases hy:y=x
  ·subst hy;simp at W
  ·rw[be hy] at e
   rw[be hy] at W
   obtain⟨⟨_,o,e'⟩,_⟩:=H.dH y b e a W
   exact ns (G.symm.trans e')
theorem aO.wR{bp:au}{k:Fl->ay->Prop}(V:dC aF sc=ae)(hs:∀ab x,im iter ab x=pure x)(W:sc.names.lookup x=aa .local)
 (Y:(p.line==aM.line&&!(aF.names.any λy=>y.1==x&&(y.2==.local||y.2==.cell)))=ae)(h:dj n sc ρ aF bp iter co bV λd=>k .next ((x,.dat d)::ρ)):
 aO n sc ρ (e_ [aS x p] (.ListComp co [⟨bp,iter,bV,0⟩] aF aM) oN) k:=aO.V8 (λw=>CA) (λab use=>rfl) V hs W (λab=>rfl) Y h.cc.gg.hh λw g D o l Z _ H G=>⟨_,H.rep Z,G⟩
end
noncomputable def noFn(ρ:ay):Bool:=ρ.all λp=>!p.2.isFn
theorem noFn.at(h:noFn ρ=ae){b:Bd}(e:ρ.lookup x=aa b):b.isFn=aI:=by
 have:=ee.mp h _ (ez e)
 simpa using this
set_option tactic.hygienic true in
noncomputable def uD(J:ay->Prop)(k:Fl->ay->Prop):Fl->ay->Prop:=λfl ρ=>match fl with
 |.next=>∃aC,Sub aC ρ/\J aC
 |.cont=>∃aC,Sub aC ρ/\J aC
 |.brk=>k .next ρ
 |.ret d=>k (.ret d) ρ
section
variable {n:Nat} {sc:bf} {ρ:ay}
structure p5(w:a9)(mu:List ag)(aw:av)(aE:aY)(ab:Env)(sc:bf)(g2:aY)(wr:List ag)(It:Nat->dp->Prop)(J:Nat->ay->Prop)(i:Nat)(s:av)(g:aY)(ρ:ay)(aB:Str->List ag):Prop where
 act:bj w mu aw aE s g ab sc ρ aB
 it:It i s.heap
 j:J i ρ
 up:∀a o,g2 a=aa o->g a=aa o
 wn:∀b∈wr,g b=ak
 ap:∀x b,ρ.lookup x=aa b->∀a∈aB x,a∉wr
inductive LU(w:a9)(mu:List ag)(aw:av)(aE:aY)(ab:Env)(sc:bf)(g2:aY)(wr:List ag)(It:Nat->dp->Prop)(J:Nat->ay->Prop)(N m:Nat)(s:av):Prop
 |mk (i g aC dW:_) (hm:m=N-i) (hi:i<=N) (F:p5 w mu aw aE ab sc g2 wr It J i s g aC dW)
inductive KX(w:a9)(A:bN)(ab:Env)(sc:bf)(bp:au)(body:List bw)(k:Fl->ay->Prop)(ρ:ay)(af:List D):Prop
 |mk (J:Nat->ay->Prop) (h0:J 0 ρ) (y0:∀i aC,J i aC->noFn aC=ae) (yh:∀i d aC s g dW v,af[i]?=aa d->J i aC->bj w (iQ ab sc aC dW) s g s g ab sc aC dW->pT w g bp v d s.heap->∀E E',wpAny (model PG w) A (Aj bp ab v) (λ_ aT=>wpAny (model PG w) A (execs body ab)
  (Fin w (iQ ab sc aC dW) s g ab sc (uD (J (i+1)) k)) E aT) E' s) (Mw:∀aC,J af.length aC->k .next aC)
structure sK(w:a9)(mu:List ag)(aw:av)(ab:Env)(bb:aY)(wr fp:List ag):Prop where
 new:∀a∈wr,aw.heap.get? a=ak\/a∈mu
 wL:ab.locals∉wr
 wC:∀x c,ab.cells.lookup x=aa c->c∉wr
 fp:∀b∈fp,b∉TB/\(b∈wr\/∃o,bb b=aa o)
theorem p5.ext{aB:Str->List ag}{bp:au}{I:ag}{af:List D}{fp:List ag}{J:Nat->ay->Prop}(X:sK w mu aw ab bb wr fp)(W:dz w A bb I bp af fp wr It)(F:p5 w mu aw aE ab sc bb wr It J i s g ρ aB)
 {h':dp}{tk:Nat}(Y:∀b o,b∉wr->s.heap.get? b=aa o->h'.get? b=aa o):bj w mu aw aE {s with heap:=h',toks:=tk} g ab sc ρ aB:=
 F.act.rR Y (λa V=>⟨X.new a V,F.wn a V,W.nc i _ F.it a V⟩) X.wL X.wC F.ap
theorem sK.tw{aB:Str->List ag}{fp:List ag}{J:Nat->ay->Prop}(X:sK w mu aw ab bb wr fp)(F:p5 w mu aw aE ab sc bb wr It J i s g ρ aB)(V:a∈iQ ab sc ρ aB)(q:a∈wr):False:=by
 rcases wY V with e|⟨x,e,_⟩|⟨x,b,e,_,Y⟩
 ·exact X.wL (e▸q)
 ·exact X.wC x a e q
 ·exact F.ap x b e a Y q
theorem sK.next{Z:av}{H:aY}{aB V:Str->List ag}{Y G:ay}{bp:au}{I:ag}{af:List D}{fp:List ag}{J:Nat->ay->Prop}(X:sK w mu aw ab bb wr fp)(W:dz w A bb I bp af fp wr It)
 (F:p5 w mu aw aE ab sc bb wr It J i s g ρ aB)(H2:bj w (iQ ab sc ρ aB) aA g aA g ab sc ρ aB)(B:It (i+1) aA.heap)(H4:bj w (iQ ab sc ρ aB) aA g Z H ab sc Y V)(H5:bj w mu aw aE Z H ab sc Y V)(C:Sub G Y)(hJ:J (i+1) G)(y0:noFn G=ae):p5 w mu aw aE ab sc bb wr It J (i+1) Z H G V:=by
 refine⟨H5.weaken C,W.frame _ _ _ B λb hb o e=>H4.nx.keep b o e (X.fp b hb).1 λq=>?_,hJ,λa o e=>H4.nx.gg _ _ (F.up _ _ e),λb f=>?_,λx b hx a ha q=>?_⟩
 ·rcases(X.fp b hb).2 with e|⟨o,e⟩
  ·exact X.tw F q e
  ·exact nomatch (H2.fw b q).1.symm.trans (F.up _ _ e)
 ·obtain⟨o,e,_⟩:=W.nc _ _ B b f
  exact H4.nx.old b o e (F.wn b f) λq=>X.tw F q f
 ·rcases(H4.dH x b (C x b hx) a ha).1.1 (noFn.at y0 hx) with q2|q2
  ·obtain⟨o,e,_⟩:=W.nc _ _ B a q
   exact nomatch q2.symm.trans e
  ·exact X.tw F q2 q
theorem S2{aB:Str->List ag}{bp:au}{k:Fl->ay->Prop}{I:ag}{af:List D}{fp:List ag}
 (X:sK w mu aw ab bb wr fp)(W:dz w A bb I bp af fp wr It)(T:KX w A ab sc bp body k ρ af)(F0:∀J:Nat->ay->Prop,J 0 ρ->p5 w mu aw aE ab sc bb wr It J 0 s g ρ aB):codeAny (model PG w) A (.forLoop bp (.ref I) body [] ab) (λr s'=>match r with|.ok f=>Fin w mu aw aE ab sc k f s'|.error e=>cameBackBy (model PG w) A ab E e s') s:=by
 obtain⟨J,hJ0,y0,yh,Mw⟩:=T
 refine OL (LU w mu aw aE ab sc bb wr It J af.length) (λm s st=>?_) af.length ⟨0,g,ρ,aB,rfl,ck _,F0 J hJ0⟩
 obtain⟨i,g,aC,C,hm,hi,B⟩:=st
 by_cases Z:i<af.length
 ·refine bg (W.item i _ s _ _ (dt Z) B.it λv h' tk hv ab2 hk=>?_) λr aA hr=>by obtain⟨v,rfl,hv⟩:=hr;exact hv
  have H1:=B.ext X W (tk:=tk) hk
  have H2:=H1.rebase
  refine bg (yh i _ aC _ g C v (dt Z) B.j H2.1 (hv.mono B.up) _ _) λ_ kU jQ=>bg jQ λf oQ F=>?_
  obtain⟨H,Y,fl,V,H4,F4,G⟩:=F
  have H5:=H1.B' H4 H2.2
  have turn:(∃aC,Sub aC Y/\J (i+1) aC)->∃m',m'<m/\LU w mu aw aE ab sc bb wr It J af.length m' oQ:=λ⟨vb,q1,q2⟩=>
   ⟨_,hm▸zo Z (gW i),i+1,H,vb,V,rfl,Z,X.next W B H2.1 ab2 H4 H5 q1 q2 (y0 _ _ q2)⟩
  induction f<;>induction fl<;>first|exact F4.elim|exact turn G|exact⟨H,Y,.next,V,H5,trivial,G⟩|exact⟨H,Y,_,V,H5,F4,G⟩
 ·have e:=lc hi (de.mp Z)
  exact W.done s _ _ (e▸B.it) λh' tk hk=>wg ⟨g,aC,.next,C,B.ext X W hk,trivial,Mw aC (e▸B.j)⟩
theorem IA{aB:Str->List ag}{bp:au}{k:Fl->ay->Prop}
 (hs:∀ab x,im iter ab x=pure x)(H:bj w mu aw aE s g ab sc ρ aB)(hI:∀E,wpAny (model PG w) A (eval iter ab) (λx aA=>wpAny (model PG w) A (pyIter x) (iR w A s g bp (KX w A ab sc bp body k ρ)) E aA) E s):
 wpAny (model PG w) A (exec (.For bp iter body [] aM) ab) (Fin w mu aw aE ab sc k) E s:=
 Hz (bg (hI E) λx aA V=>bg V λit aT P=>by
  obtain⟨I,fp,wr,It,af,bb,rfl,Y,Z,W,f,G,C,jr,T⟩:=P
  refine S2 ⟨λa ha=>?_,λq=>?_,λx c hc q=>?_,λb B=>⟨(C b B).1,(C b B).2.2⟩⟩ W T λJ hJ=>⟨H.step Y Z,f,hJ,λ_ _ e=>e,λb B=>(G b B).2,λx b hx a ha q=>?_⟩
  ·by_cases q:a∈mu
   ·exact .inr q
   ·induction e':aw.heap.get? a with
    |none=>exact .inl rfl
    |some o=>exact(H.nx.there a o e' q).elim λo' vo=>nomatch (G a ha).1.symm.trans vo
  ·obtain⟨mL,o,_,_,e,_⟩:=H.gy
   exact ns ((G _ q).1.symm.trans e)
  ·obtain⟨_,⟨_,o,e,_⟩,_⟩:=H.cP x c hc
   exact nomatch (G _ q).1.symm.trans e
  ·obtain⟨⟨_,o,e⟩,_⟩:=H.dH x b hx a ha
   exact nomatch (G a q).1.symm.trans e) (hs ab)
theorem bK.mono{t:au}{k k':List D->Prop}(h:bK n sc ρ t e k)(H:∀l,k l->k' l):bK n sc ρ t e k':=.mk λw A ab s g S R V E=>
 bg (h.run w A ab s g S R V E) (λx aA Y=>eg Y (λf aT G=>by obtain⟨I,fp,wr,J,af,bb,e,N,S,W,C,B,Z,hl,q⟩:=G;exact⟨I,fp,wr,J,af,bb,e,N,S,W,C,B,Z,hl,H _ q⟩) λ_ _ x=>x)
theorem aO.for{bp:au}{k:Fl->ay->Prop}(hs:∀ab x,im iter ab x=pure x)
 (h:bK n sc ρ bp iter λaf=>∃J:Nat->ay->Prop,J 0 ρ/\(∀i aC,J i aC->noFn aC=ae)/\(∀i d aC,af[i]?=aa d->J i aC->c0 n sc aC bp d λC=>aL n sc C body (uD (J (i+1)) k))/\∀aC,J af.length aC->k .next aC):
 aO n sc ρ (.For bp iter body [] aM) k:=.mk λw A ab mu aw aE s g aB H R E=>
 IA hs H λE=>(h.mono λaf q=>by
  obtain⟨J,h1,h2,h3,h4⟩:=q
  exact⟨J,h1,h2,λi d aC s g Y v hd hj H hv E E'=>bg ((h3 i d aC hd hj).run w A ab _ _ _ s g Y v H R hv E') λ_ W q=>by
   obtain⟨Z,B,V,H3,f,G⟩:=q
   exact G.run w A ab _ _ _ W Z V H3 R E,h4⟩).run w A ab s g H.st R H.cI E
set_option tactic.hygienic true in
theorem aO.while{Mx:au}{k:Fl->ay->Prop}(J:Nat->ay->Prop)(m:Nat)(h0:J m ρ)
 (h:∀m aC,J m aC->bH n sc aC Mx λb=>if b then aL n sc aC body (uD (λG=>∃B,B<m/\J B G) k) else k .next aC):aO n sc ρ (.While Mx body [] aM) k:=.mk λw A ab mu aw aE s g aB H R E=>by
 refine wpAny_While (codeAny_whileLoop (λm s=>∃g aC Y,bj w mu aw aE s g ab sc aC Y/\J m aC) (λm s ⟨g,aC,Y,H',hJ⟩=>?_) m ⟨g,ρ,aB,H,h0⟩)
 refine bg ((h m aC hJ).run w A ab s g H'.st R H'.cI _) (λb aT ⟨bb,lw,gd,f_⟩=>?_)
 have H2:=H'.step lw gd
 induction b with
 |false=>exact wg ⟨bb,aC,.next,Y,H2,trivial,f_⟩
 |true=>
  have aag:aL n sc aC body (uD (λG=>∃B,B<m/\J B G) k):=f_
  refine bg (aag.run w A ab mu aw aE aT bb Y H2 R _) (λf kU ⟨W,C,fl,V,H3,F3,Z⟩=>?_)
  induction f<;>induction fl<;>first|exact F3.elim|skip
  ·obtain⟨vb,q1,B,q2,q3⟩:=Z
   exact⟨B,q2,W,vb,V,H3.weaken q1,q3⟩
  ·exact⟨W,C,.next,V,H3,trivial,Z⟩
  ·obtain⟨vb,q1,B,q2,q3⟩:=Z
   exact⟨B,q2,W,vb,V,H3.weaken q1,q3⟩
  ·exact⟨W,C,_,V,H3,F3,Z⟩
end
noncomputable def d5(x:Str)(lo hi st:Option Int):Str:=
 if (st.getD 1==1&&(vw lo hi (st.getD 1) x.length).length==x.length)=ae then x else ⟨((vw lo hi (st.getD 1) x.length).filterMap (x.cps[·]?)).toArray⟩
noncomputable def kI(l:List D)(lo hi st:Option Int):List D:=(rm (Av lo hi st l.length).1 (Av lo hi st l.length).2.1 (Av lo hi st l.length).2.2).filterMap (l[·]?)
theorem aP.pick{V:Array ai}(h:aP w g V.toList l)(D1:List Nat):aP w g (D1.filterMap (V[·]?)) (D1.filterMap (l[·]?)):=by
 induction D1 with
 |nil=>exact aP.nil
 |cons i r Y=>
  rw[ny,ny]
  induction W:V[i]? with
  |none=>
   have e:l[i]?=ak:=by
    rw[qq,<-h.1]
    simpa using W
   rw[e];exact Y
  |some v=>
   obtain⟨d,hd,Z⟩:=h.get (i:=i) (v:=v) (by simpa using W)
   simp only[hd];exact aP.cons Z Y
inductive ab3(w:a9)(s:av)(g:aY)(k:Option Int->Prop)(v:ai)(s':av):Prop
 |mk (g':_) (q:Option (Int×Tok)) (N:Nx [] s g s' g') (S:St w s' g') (hv:v=fX q) (h:k (q.map (·.1)))
noncomputable def gp(n:Nat)(sc:bf)(ρ:ay):Option au->(Option Int->Prop)->Prop
 |none,k=>k ak
 |some e,k=>aj n sc ρ e λd=>∃i,d=.int i/\k (aa i)
section
variable {n:Nat} {sc:bf} {ρ:ay}
theorem gp.ok{p:Option au}{k:Option Int->Prop}(h:gp n sc ρ p k)(w:a9)(A:bN)(ab:Env)(s:av)(g:aY)(S:St w s g)(R:Rm n A)(V:c8 w s g ab sc ρ)(E:ai->av->Prop):
 wpAny (model PG w) A (evalPart p ab) (ab3 w s g k) E s:=by
 induction p with
 |none=>exact a8 ⟨g,ak,Nx.refl _ _ _,S,rfl,h⟩
 |some e=>
  refine(h:aj n sc ρ e λd=>∃i,d=.int i/\k (aa i)).wp S R V λv s' g' d N W r Y=>Y.elim λi Y=>Y.elim λhd Z=>?_
  subst hd
  refine r.b9 λt=>?_
  exact⟨g',aa (i,t),N,W,rfl,Z⟩
theorem rC(q:Option (Int×Tok)):IsPart (fX q) (q.map (·.1)):=by
 induction q with
 |none=>exact .none
 |some q=>exact .int _ _
def uN(a:D)(lo hi st:Option Int)(k:D->Prop):Prop:=match a with
 |.str x=>((st.getD 1)==0)=aI/\x.length<=10000/\k (.str (d5 x lo hi st))
 |.lst l=>st≠aa 0/\l.length<=10000/\k (.lst (kI l lo hi st))
 |_=>False
theorem Q5(lo hi:Option Int)(st:Int)(n:Nat)(h:(st==0)=aI):(vw lo hi st n).length<=n:=by
 dsimp only[vw]
 refine sliceRange_length_le _ _ _ n (λV=>⟨?_,?_⟩) (λV=>⟨?_,?_⟩)
 ·induction lo with
  |none=>exact i' (bo V).symm
  |some i=>exact dh (zT 0 _) (i' (bo V).symm)
 ·induction hi with
  |none=>exact i' (bo V)
  |some i=>exact dh (i' (bo V)) (tL.mpr ⟨dA n,Fi _ _⟩)
 ·induction lo with
  |none=>exact i' (be V)
  |some i=>exact dh (i' (be V)) (tL.mpr ⟨qA (dA n) 1,Fi _ _⟩)
 ·induction hi with
  |none=>exact i' (be V).symm
  |some i=>exact dh (zT _ _) (i' (be V).symm)
set_option tactic.hygienic true in
theorem aj.slc{lo hi st:Option au}
 (h:aj n sc ρ cX λa=>gp n sc ρ lo λl=>gp n sc ρ hi λu=>gp n sc ρ st λt=>uN a l u t k):aj n sc ρ (dM cX (.Slice lo hi st p) aM) k:=.mk λw A ab s g S R V E=>by
 have aah:∀{a:D} {v:ai} {aA:av} {aN:aY},Nx [] s g aA aN->St w aA aN->Rep w aN v a->(gp n sc ρ lo λl=>gp n sc ρ hi λu=>gp n sc ρ st λt=>uN a l u t k)->
  wpAny (model PG w) A (eval (.Slice lo hi st p) ab) (λi aT=>∃T id,aT.TypeIs v T/\mP (aK T) "__getitem__"=pure (aa (.builtin id))/\wpAny (model PG w) A (getItem v i) (Out w s g k) E aT) E aA:=λ{a v aA aN} Z G B f=>by
  refine GK (bg (gp.ok f w A ab aA aN G R (V.step Z S) E) (λlv aT ⟨bb,ql,C,gd,e2,f_⟩=>?_))
  subst e2
  refine bg (gp.ok f_ w A ab aT bb gd R ((V.step Z S).step C G) E) (λuv kU ⟨ie,qu,gr,ig,e3,jQ⟩=>?_)
  subst e3
  refine bg (gp.ok jQ w A ab kU ie ig R (((V.step Z S).step C G).step gr gd) E) (λtv Y ⟨mY,qt,ly,mX,e4,W⟩=>?_)
  subst e4
  have N:=((Z.trans C).trans gr).trans ly
  have r:=((B.mono C.gg).mono gr.gg).mono ly.gg
  obtain⟨p9,H⟩:=mX.ext' (h':=Y.heap.push {cls:=aK "slice",data:=bC #[fX ql,fX qu,fX qt]}) (tk:=Y.toks) λb o e=>bZ _ e
  have Nh:({Y with heap:=Y.heap.push {cls:=aK "slice",data:=bC #[fX ql,fX qu,fX qt]}}:av).heap.IsSlice Y.heap.objs.size ql qu qt:=⟨_,cB _ rfl,rfl,rfl⟩
  cases a with
  |str x=>
   obtain⟨t,rfl⟩:=r.str_inv
   have h0:((qt.map (·.1)).getD 1==0)=aI:=W.1
   refine⟨_,_,((Rep.typeIs H r).1),F.slot_str_getitem.lookup,wpAny_getItem_str_slice Nh h0 ?_⟩
   have hk:=W.2.2
   delta sliceMade slicePicked
   unfold d5 at hk
   split
   ·rename_i hc
    rw[bo hc] at hk
    exact Out.trans (N.trans p9) (Out.same H (.str _ _) hk) λ_ x=>x
   ·rename_i hc
    rw[be hc] at hk
    refine⟨?_,Out.trans (N.trans p9) (Out.toks H (.str _ _) hk) λ_ x=>x⟩
    have:sizeLine=2^24:=rfl
    exact bd (aV (aD (aD (vD (x.cps[·]?) (vw (ql.map (·.1)) (qu.map (·.1)) ((qt.map (·.1)).getD 1) x.length)) (Q5 (ql.map (·.1)) (qu.map (·.1)) ((qt.map (·.1)).getD 1) x.length h0)) W.2.1) (by decide))
  |lst l=>
   obtain⟨b,nn,iI,rfl,hg,rl⟩:=r.lst_inv
   have hL:({Y with heap:=Y.heap.push {cls:=aK "slice",data:=bC #[fX ql,fX qu,fX qt]}}:av).heap.IsList b iI:=⟨_,H.sub _ _ hg,rfl,nn,rfl⟩
   have eR:iI.size=l.length:=by have:=rl.1;exact this
   refine⟨_,_,((Rep.typeIs H r).1),E4.lookup,NT hL ⟨_,cB _ rfl,rfl,rfl⟩ (rC ql) (rC qu) (rC qt) W.1 ?_ (by rw[eR];have:=W.2.1;have:sizeLine=2^24:=rfl;exact aD (by assumption) (by decide))⟩
   refine Out.trans (N.trans p9) (Out.newList (tk:=Y.toks) H (l:=kI l (ql.map (·.1)) (qu.map (·.1)) (qt.map (·.1))) ?_ W.2.2) λ_ x=>x
   delta slicePick kI
   exact eR▸(rl.pick _)
  |_=>exact W.elim
 refine AD (h.wp S R V λv aA aN a Z G B f=>bg (aah Z G B f) (λi aT q_=>q_.elim λT q_=>q_.elim λid q_=>q_.elim λhT q_=>q_.elim λhl hg=>?_))
 induction st with
 |none=>exact Bc (ops:=[i,v]) hT hl hg rfl
 |some e=>exact Bc (ops:=[v,i]) hT hl hg rfl
theorem aj.d5{lo hi st:Option au}(V:∀o r,FR cX o r=pure ())
 (h:aj n sc ρ cX λa=>a.ty="str"∧gp n sc ρ lo λl=>gp n sc ρ hi λu=>gp n sc ρ st λt=>uN a l u t k):aj n sc ρ (dM cX (.Slice lo hi st p) aM) k:=aj.slc (h.mono λ_ q=>q.2)
theorem aj.kI{lo hi st:Option au}(V:∀o r,FR cX o r=pure ())
 (h:aj n sc ρ cX λa=>a.ty="list"∧gp n sc ρ lo λl=>gp n sc ρ hi λu=>gp n sc ρ st λt=>uN a l u t k):aj n sc ρ (dM cX (.Slice lo hi st p) aM) k:=aj.slc (h.mono λ_ q=>q.2)
end
inductive C6(w:a9)(s:av)(g:aY)(ab:Env)(k:Bd->Prop)(v:ai)(s':av):Prop
 |mk (g' b ad:_) (N:Nx [] s g s' g') (S:St w s' g') (R:cU w s' g' ab v ad b) (hf:b.isFn=aI) (ha:∀a∈ad,s.heap.get? a=ak) (h:k b)
structure cK(n:Nat)(sc:bf)(ρ:ay)(e:au)(k:Bd->Prop):Prop where
 run:∀(w:a9) (A:bN) (ab:Env) (s:av) (g:aY),St w s g->Rm n A->c8 w s g ab sc ρ->∀E,wpAny (model PG w) A (eval e ab) (C6 w s g ab k) E s
noncomputable def f7(n:Nat)(sc:bf)(ρ:ay):List au->(List Bd->Prop)->Prop
 |[],k=>k []
 |e::r,k=>cK n sc ρ e λb=>f7 n sc ρ r λbs=>k (b::bs)
structure oy(w:a9)(s:av)(g:aY)(ab:Env)(vs:List ai)(bs:List Bd)(bX:List (List ag)):Prop where
 len:vs.length=bs.length
 len':bX.length=bs.length
 rep:∀(i:Nat) v b ad,vs[i]?=aa v->bs[i]?=aa b->bX[i]?=aa ad->cU w s g ab v ad b
 nf:∀b∈bs,b.isFn=aI
 sL:bX.Pairwise λa b=>∀x∈a,x∉b
section
variable {n:Nat} {sc:bf} {ρ:ay}
inductive ZG(w:a9)(s:av)(g:aY)(ab:Env)(k:List Bd->Prop)(vs:List ai)(s':av):Prop
 |mk (g' bs bX:_) (N:Nx [] s g s' g') (S:St w s' g') (R:oy w s' g' ab vs bs bX) (ha:∀ad∈bX,∀a∈ad,s.heap.get? a=ak) (h:k bs)
theorem cK.dat{k:Bd->Prop}(h:aj n sc ρ e λd=>k (.dat d)):cK n sc ρ e k:=.mk λw A ab s g S R V E=>
 bg (h.run w A ab s g S R V E) (λv s' Y=>by obtain⟨g',d,N,W,r,Z⟩:=Y;exact⟨g',.dat d,[],N,W,⟨r,rfl⟩,rfl,fS,Z⟩)
theorem cK.mono{k k':Bd->Prop}(h:cK n sc ρ e k)(Y:∀b,k b->k' b):cK n sc ρ e k':=.mk λw A ab s g S R V E=>
 bg (h.run w A ab s g S R V E) (λv s' W=>by obtain⟨g',b,ad,N,Z,r,nf,H,q⟩:=W;exact⟨g',b,ad,N,Z,r,nf,H,Y b q⟩)
theorem f7.mono:∀{l:List au} {k k':List Bd->Prop},f7 n sc ρ l k->(∀ds,k ds->k' ds)->f7 n sc ρ l k':=by
 intro W
 induction W with
 |nil=>
  intro k k' h V
  exact V _ h
 |cons e r Y=>
  intro k k' h V
  exact cK.mono (k':=λd=>f7 n sc ρ r λds=>k' (d::ds)) h λd hd=>Y hd λds h=>V _ h
theorem f7.len:∀{l:List au} {k:List Bd->Prop},f7 n sc ρ l k->f7 n sc ρ l λds=>ds.length=l.length/\k ds:=by
 intro Y
 induction Y with
 |nil=>
  intro k h
  exact⟨rfl,h⟩
 |cons e r V=>
  intro k h
  exact cK.mono (k':=λd=>f7 n sc ρ r λds=>(d::ds).length=(e::r).length/\k (d::ds)) h λd hd=>f7.mono (V hd) λds h=>⟨aQ _ h.1,h.2⟩
theorem oy.reverse{bX:List (List ag)}(B:oy w s g ab vs bs bX):oy w s g ab vs.reverse bs.reverse bX.reverse:=by
 have V:=B.len;have Y:=B.len'
 refine⟨by simp[V],by simp[Y],λi v b ad W H G=>?_,λb C=>B.nf b (iK.mp C),Od.mpr (B.sL.imp λh x f Z=>h x Z f)⟩
 have hi:i<vs.length:=by have:=(ey.mp W).1;simpa using this
 rw[o0 hi] at W
 rw[o0 (cg hi (bn V))] at H
 rw[o0 (cg (cg hi (bn V)) (bn Y.symm))] at G
 refine B.rep (vs.length-1-i) v b ad W ?_ ?_
 ·rw[V];exact H
 ·rw[V,<-Y];exact G
theorem f7.ok:∀{l:List au} {k:List Bd->Prop},l.all cu=ae->f7 n sc ρ l k->∀(w:a9) (A:bN) (ab:Env) (s:av) (g:aY) (aM:Pos),St w s g->Rm n A->c8 w s g ab sc ρ->∀E,
 wpAny (model PG w) A (spliced (backTo aM (starEach l ab))) (ZG w s g ab k) E s:=by
 intro l_
 induction l_ with
 |nil=>
  intro k _ h w A ab s g aM S R V E
  exact spliced_nil ⟨g,[],[],Nx.refl _ _ _,S,⟨rfl,rfl,λi v b ad h=>by simp at h,by decide,jX⟩,fS,h⟩
 |cons e r DG=>
  intro k ha h w A ab s g aM S R V E
  simp only[wu,bB] at ha
  refine qO (bg (h.run w A ab s g S R V E) (λv aA ⟨aN,b,ad,W,Z,f,nf,fr,iX⟩=>?_)) (nH ha.1)
  refine bg (DG ha.2 iX w A ab aA aN aM Z R (V.step W S) E) (λvs aT ⟨bb,bs,bX,lw,gd,Y,H,f_⟩=>?_)
  have qg:∀a,aA.heap.get? a=ak->s.heap.get? a=ak:=λa e=>by
   induction q:s.heap.get? a with
   |none=>rfl
   |some o=>obtain⟨o',e'⟩:=W.there a o q (ca);exact ns (e.symm.trans e')
  refine⟨bb,b::bs,ad::bX,W.trans lw,gd,⟨aQ _ Y.len,aQ _ Y.len',λi v' b' G q1 q2 q3=>?_,λb' hb=>?_,fU.mpr ⟨λG C a ha B=>?_,Y.sL⟩⟩,λG C a B=>?_,f_⟩
  ·induction i with
   |zero=>simp at q1 q2 q3;subst q1 q2 q3;exact f.step lw Z (by simp) (by simp)
   |succ i=>simp at q1 q2 q3;exact Y.rep i v' b' G q1 q2 q3
  ·rcases bT.mp hb with e|hb
   ·subst e;exact nf
   ·exact Y.nf b' hb
  ·obtain⟨o,e⟩:=f.there Z nf a ha
   exact ns ((H G C a B).symm.trans e)
  ·rcases bT.mp C with e|C
   ·subst e;exact fr a B
   ·exact qg a (H G C a B)
set_option tactic.hygienic true in
def uO(w:a9)(mu:List ag)(aw:av)(aE g:aY)(ab:Env)(sc:bf)(A:bN)(E:ai->av->Prop)(fs:List (ai->Sem Unit))(aH:List Str)(vs:List ai)(bs:List Bd)(bX:List (List ag)):Prop:=
 ∀(s:av) (ρ:ay) (aB:Str->List ag),bj w mu aw aE s g ab sc ρ aB->oy w s g ab vs bs bX->(∀x∈aH,mine sc x=ae)->
  (∀(i:Nat) f x,fs[i]?=aa f->aH[i]?=aa x->∀v (Q:Unit->av->Prop) s,wpAny (model PG w) A (rt ab x v) Q E s->wpAny (model PG w) A (f v) Q E s)->
  (∀ad∈bX,∀a∈ad,(aw.heap.get? a=ak\/a∈mu)/\(a≠ab.locals/\∀y c,ab.cells.lookup y=aa c->c≠a)/\∀y Y,ρ.lookup y=aa Y->a∉aB y)->
  wpAny (model PG w) A (Qy fs vs) (λ_ s'=>∃V,bj w mu aw aE s' g ab sc ((aH.zip bs).reverse++ρ) V) E s
theorem uO.cons{f:ai->Sem Unit}{b:Bd}{ad:List ag}{fs:List (ai->Sem Unit)}{bX:List (List ag)}
 (ih:uO w mu aw aE g ab sc A E fs aH vs bs bX):uO w mu aw aE g ab sc A E (f::fs) (x::aH) (v::vs) (b::bs) (ad::bX):=by
 intro s ρ aB H B hm hf C
 have rb:=B.rep 0 v b ad rfl rfl rfl
 have nf:=B.nf b bi
 refine zd (hf 0 f x rfl rfl v _ s (H.B9 (n:=0) (b:=b) (ad:=ad) (hm x bi) rb (λa W=>?_) (λs' he H' K X=>?_) E))
 ·have q:=C ad bi a W
  exact⟨⟨λ_=>q.1,rb.there H.st nf a W⟩,q.2.1,λy Y Z _ _=>q.2.2 y Y Z⟩
 ·refine Iy.symm▸ih s' ((x,b)::ρ) _ H' ⟨pi B.len,pi B.len',λi v' Y V q1 q2 q3=>K v' V Y (B.rep (i+1) v' Y V q1 q2 q3) λa W=>(C V (bM _ (c5 q3)) a W).2.1,λY hb=>B.nf Y (bM _ hb),(fU.mp B.sL).2⟩ (λy Z=>hm y (bM _ Z)) (λi f x q1 q2=>hf (i+1) f x q1 q2) λV G a W=>?_
  have q:=C V (bM _ G) a W
  refine⟨q.1,q.2.1,λy Y Z=>?_⟩
  rw[j5] at Z
  by_cases e:y=x
  ·rw[bo e]
   exact λq=>(fU.mp B.sL).1 V G a q W
  ·rw[be e] at Z⊢
   exact q.2.2 y Y Z
theorem storeAll{fs:List (ai->Sem Unit)}{bX:List (List ag)}
 (B:oy w s g ab vs bs bX)(hl:aH.length=vs.length)(V:fs.length=vs.length):uO w mu aw aE g ab sc A E fs aH vs bs bX:=
 LQ (P:=uO w mu aw aE g ab sc A E) (λs ρ aB H _ _ _ _=>Ev ⟨aB,H⟩) (λ_ _ _ _ _ _ _ _ _ _ Y=>Y.cons) vs V hl B.len.symm (B.len'.trans B.len.symm)
theorem Bg{s':av}{g':aY}{aB:Str->List ag}(H:bj w mu aw aE s g ab sc ρ aB)(e:s.heap.get? a=ak):
 (aw.heap.get? a=ak\/a∈mu)/\(a≠ab.locals/\∀y c,ab.cells.lookup y=aa c->c≠a)/\∀y b',ρ.lookup y=aa b'->a∉aB y:=by
 refine⟨?_,⟨λq=>?_,λy c W q=>?_⟩,λy b' Z q=>?_⟩
 ·by_cases q:a∈mu
  ·exact .inr q
  ·induction V:aw.heap.get? a with
   |none=>exact .inl rfl
   |some o=>obtain⟨G,Y⟩:=H.nx.there a o V q;exact ns (e.symm.trans Y)
 ·obtain⟨m,o,_,_,V,_⟩:=H.gy
  rw[<-q,e] at V;exact ns V
 ·obtain⟨_,⟨_,o,V,_⟩,_⟩:=H.cP y c W
  rw[q,e] at V;exact ns V
 ·obtain⟨⟨_,o,V⟩,_⟩:=H.dH y b' Z a q
  exact ns (e.symm.trans V)
theorem aO.uf{k:Fl->ay->Prop}(B:mine sc x=ae)(hs:∀ab,iy cX (aa (aS x p)) aM.line ab=pure aI)
 (h:cK n sc ρ cX λb=>k .next ((x,b)::ρ)):aO n sc ρ (e_ [aS x p] cX aM) k:=.mk λw A ab mu aw aE s g aB H R E=>
 zG (bg (h.run w A ab s g H.st R H.cI E) (λv aA ⟨aN,b,ad,W,V,Y,nf,f,Z⟩=>
  (H.step W V).store (n:=0) B Y (λa C=>by
   refine ba λN_=>?_
   obtain⟨q1,⟨q2,q3⟩,q4⟩:=Bg (s':=s) (g':=g) H (f a C)
   apply N_
   exact⟨⟨λ_=>q1,Y.there V nf a C⟩,⟨q2,q3⟩,λy b' hy _ _=>q4 y b' hy⟩) (λaT _ G=>⟨aN,_,.next,_,G,trivial,Z⟩) E)) (hs ab)
theorem aO.AF{es:List au}{k:Fl->ay->Prop}(hn:aH.length=es.length)(vp:es.all cu=ae)(C:aH.all (mine sc)=ae)(iH:aH.Nodup)(B:es.length<=1000)
 (hH:∀ab,Aa [b7 ts c p] (b7 es c' p') aM.line ab=pure aI)(hw:∀ab:Env,ab.scope.kind=fk->(∀x,KS (ab.kindOf x) (sc.names.lookup x))->mM [b7 ts c p] (b7 es c' p') ab=pure (aa aH))
 (h:f7 n sc ρ es λbs=>k .next (aH.zip bs++ρ)):aO n sc ρ (e_ [b7 ts c p] (b7 es c' p') aM) k:=.mk λw A ab mu aw aE s g aB H R E=>by
 refine Assign_Tuple_swapped (names:=aH) ?_ (hH ab) (hw ab H.kind H.ks)
 refine zt (bg (f7.ok vp h.len w A ab s g p' H.st R H.cI E) (λvs aA ⟨aN,bs,bX,u8,W,V,fr,Y,iX⟩=>⟨?_,?_⟩))
 ·simp only[V.len,Y];have:sizeLine=2^24:=rfl;exact bd (aV B (by decide))
 ·have nl:aH.length=vs.toArray.size:=by simp[V.len,Y,hn]
  rw[nl]
  refine unpackItems_tuple R.2.2 ⟨_,cB _ rfl,rfl,_,rfl⟩ λh' he=>?_
  have kp:∀b o,aA.heap.get? b=aa o->h'.get? b=aa o:=λb o e=>ExtBut.keeps he b o (bZ _ e)
  refine(W.ext' (h':=h') (tk:=aA.toks) kp).elim λZ gd=>?_
  have G:oy w {aA with heap:=h'} aN ab vs bs bX:=⟨V.len,V.len',λi v b ad q1 q2 q3=>(V.rep i v b ad q1 q2 q3).step Z W (by simp) (by simp),V.nf,V.sL⟩
  have hz:(aH.reverse.zip bs.reverse).reverse=aH.zip bs:=by
   have:=List.reverse_zipWith (f:=Prod.mk) (l:=aH.reverse) (l':=bs.reverse) (by simp[hn,Y])
   simpa[List.zip] using this
  refine bg (storeAll (fs:=aH.reverse.map λn=>bindName ab n) G.reverse (by simp[hn,V.len,Y]) (by simp[hn,V.len,Y]) _ ρ aB ((H.step u8 W).step Z gd) G.reverse (λx hx=>ee.mp C x (iK.mp hx)) (λi f x q1 q2 v Q s hq=>?_) (λad lF a ha=>Bg (s':=s) (g':=g) H (fr ad (iK.mp lF) a ha)) (E:=E)) (λ_ kU q_=>q_.elim λdW H3=>?_)
  ·rw[ci,q2] at q1
   obtain rfl:=aW q1
   exact bindName_ hq
  ·exact⟨aN,_,.next,dW,(hz▸H3),trivial,iX⟩
end
noncomputable def je(ρ:ay):ay:=ρ.map λp=>(p.1,match p.2 with
 |.dat d=>.dat d
 |_=>.any)
theorem F8{b:Bd}(h:(je ρ).lookup x=aa b):b=.any\/∃d,b=.dat d/\ρ.lookup x=aa (.dat d):=by
 induction ρ with
 |nil=>exact ns h
 |cons p r Y=>
  have h:i_ x ((p.1,match p.2 with|.dat d=>Bd.dat d|_=>.any)::je r)=aa b:=h
  rw[io] at h⊢
  induction V:x==p.1 with
  |true=>
   rw[V] at h
   have h:=aW h
   induction q:p.2 with
   |dat d=>exact .inr ⟨d,(q▸h).symm,rfl⟩
   |_=>exact .inl (q▸h).symm
  |false=>rw[V] at h;exact Y h
theorem Ap:∀{ρ:ay} {x:Str} {b:Bd},(je ρ).lookup x=aa b->∃c,ρ.lookup x=aa c
 |[],x,b,h=>by exact ns h
 |(y,c)::r,x,b,h=>by
  unfold je at h
  rw[d7,io] at h
  dsimp only[io]
  induction V:x==y with
  |true=>exact⟨c,rfl⟩
  |false=>exact Ap (V▸h)
noncomputable def D.scalar(d:D):Bool:=d.ctorIdx.ble 3
theorem Rep.scalar(h:Rep w g v d)(hd:d.scalar=ae):Rep w g' v d:=by
 induction h with
 |none=>exact .none
 |bool b=>exact .bool b
 |int i t=>exact .int i t
 |str x t=>exact .str x t
 |tup=>exact ft hd
 |lst=>exact ft hd
 |cL=>exact ft hd
 |et=>exact ft hd
section
variable {n:Nat} {sc:bf} {ρ:ay}
set_option tactic.hygienic true in
theorem mi(S:St w s g)(V:c8 w s g ab sc ρ)(hx:ρ.lookup x=aa (.own a l)):∃aN,St w s aN/\c8 w s aN ab sc ((x,.dat (.lst l))::je ρ)/\(∀b,b≠a->aN b=g b)/\g a=ak/\∃o,s.heap.get? a=aa o:=by
 refine ba λN_=>?_
 obtain⟨v,ad,h1,af,rfl,h3,⟨nn,W⟩,h5,_⟩:=V.var x _ hx
 obtain⟨G,up⟩:=S.freeze (n:=a) W h3 (S.dN W (.inl (by simp)))
 apply N_
 have ne:∀b o,s.heap.get? b=aa o->o.cls≠aK "list"→b≠a:=λb o e C q=>by
  subst q;rw[W] at e;obtain rfl:=aW e;exact C rfl
 have vs:∀y u,fF s g ab y u->fF s (iz g a {cls:=aK "list",data:=.seq af nn}) ab y u:=λy u h=>by
  rcases h with ⟨Y,Z,m,B,f⟩|⟨Y,c,Z,B,f⟩
  ·refine .inl ⟨Y,?_,m,B,f⟩
   obtain⟨o,es,ep,e,d,_⟩:=B
   rw[fD];exact Z
   intro q;rw[q] at e;rw[W] at e;obtain rfl:=aW e;cases d
  ·refine .inr ⟨Y,c,Z,?_,f⟩
   obtain⟨o,e,d⟩:=f
   rw[fD];exact B
   intro q;rw[q] at e;rw[W] at e;obtain rfl:=aW e;cases d
 refine⟨_,G,⟨V.kind,V.glob,V.gq,V.ks,V.lam,V.e6,λy c C=>?_,V.ff,λy b H=>?_⟩,λb H=>fD _ _ _ H,h3,_,W⟩
 ·obtain⟨Y,u,o,e,d⟩:=V.cP y c C
  refine⟨?_,u,o,e,d⟩
  rw[fD];exact Y
  intro q;rw[q] at e;rw[W] at e;obtain rfl:=aW e;cases d
 ·rw[j5] at H
  split at H
  ·rename_i e
   obtain rfl:=aW H;subst e
   exact⟨.ref a,[],vs _ _ h1,.lst a nn af l (gZ _ _ _) h5.1 λi v d Y Z=>(h5.2 i v d Y Z).mono up,rfl⟩
  ·rcases F8 H with rfl|⟨d,rfl,hd⟩
   ·obtain⟨c,C⟩:=Ap H
    obtain⟨u,_,Y,_⟩:=V.var y _ C
    exact⟨u,[],vs _ _ Y,rfl⟩
   ·obtain⟨u,_,Y,Z,_⟩:=V.var y _ hd
    exact⟨u,[],vs _ _ Y,Z.mono up,rfl⟩
theorem AX(W:∀b,b≠a->aN b=g b)(Z:g a=ak)(hs:∃o,s.heap.get? a=aa o)(N:Nx [] s aN s' bb)(Y:St w s' bb):∃g',Nx [] s g s' g'/\St w s' g':=by
 refine⟨λb=>if b=a then ak else bb b,⟨N.keep,N.there,λb o e=>?_,λb o e H G=>?_,N.os⟩,⟨Y.df,Y.gx,Y.blt,Y.lim,Y.bmain,Y.tab,λb o e=>?_,λP C=>?_,Y.gens⟩⟩
 ·have V:b≠a:=λq=>by subst q;exact ns (Z.symm.trans e)
  simp only[be V]
  exact N.gg b o (by exact(W b V).trans e)
 ·by_cases V:b=a
  ·simp[V]
  ·exact(be V).trans (N.old b o e (by exact(W b V).trans H) G)
 ·by_cases V:b=a
  ·simp[V] at e
  ·simp only[be V] at e;exact Y.sub b o e
 ·by_cases V:P=a
  ·simp[V]
  ·exact(be V).trans (Y.off P C)
theorem aj.mi(H:ρ.lookup x=aa (.own a l))(h:aj n sc ((x,.dat (.lst l))::je ρ) e λd=>d.scalar=ae/\k d):aj n sc ρ e k:=.mk λw A ab s g S R V E=>by
 refine ba λG=>?_
 obtain⟨aN,Y,W,C,B,hs⟩:=Mine.Internal.mi S V H
 apply G
 refine h.wp Y R W λv s' bb d N Z r f=>f.elim λhd hk=>?_
 obtain⟨g',N',S'⟩:=AX C B hs N Z
 exact⟨g',d,N',S',r.scalar hd,hk⟩
theorem bH.mi{k:Bool->Prop}(H:ρ.lookup x=aa (.own a l))(h:bH n sc ((x,.dat (.lst l))::je ρ) e k):bH n sc ρ e k:=.mk λw A ab s g S R V E=>by
 refine ba λG=>?_
 obtain⟨aN,Y,W,C,B,hs⟩:=Mine.Internal.mi S V H
 apply G
 refine h.wp Y R W λv s' bb N Z f=>?_
 obtain⟨g',N',S'⟩:=AX C B hs N Z
 exact⟨g',N',S',f⟩
theorem bj.freeze{aB:Str->List ag}(H:bj w mu aw aE s g ab sc ρ aB)(B:ρ.lookup x=aa (.own a l)):
 ∃g' V,bj w mu aw aE s g' ab sc ((x,.dat (.lst l))::ρ) V/\(∀b o,g b=aa o->g' b=aa o):=by
 refine ba λN_=>?_
 obtain⟨v,h1,af,rfl,h3,⟨f,Z⟩,h5,h6⟩:=H.var x _ B
 obtain⟨Y,up⟩:=H.st.freeze (n:=a) Z h3 (H.st.dN Z (.inl (by simp)))
 apply N_
 have N:Nx [a] s g s (iz g a {cls:=aK "list",data:=.seq af f}):=⟨λb o e _ _=>e,λb o e _=>⟨o,e⟩,up,λb o e W hm=>by
  rw[fD];exact W
  exact λq=>hm (by simp[q]),rfl⟩
 refine⟨_,_,H.change (il:=[]) B rfl rfl N Y (λb C=>h6▸C) (λb C o e=>?_) (λv' _ r=>?_) (fS),up⟩
 ·have:b=a:=a_.1 C
  subst this;rw[Z] at e;obtain rfl:=aW e;exact cV.of λvs q=>by cases q
 ·obtain⟨G,rfl,_,⟨nn',W⟩,r5,_⟩:=r
  replace W:=Z▸W;cases W
  exact⟨.lst a f af l (gZ _ _ _) r5.1 λi v d q1 q2=>(r5.2 i v d q1 q2).mono up,rfl⟩
theorem aL.freeze{b:List bw}{k:Fl->ay->Prop}(Y:ρ.lookup x=aa (.own a l))(h:aL n sc ((x,.dat (.lst l))::ρ) b k):aL n sc ρ b k:=.mk λw A ab mu aw aE s g aB H R E=>by
 obtain⟨g',V,W,up⟩:=bj.freeze H Y
 exact h.run w A ab mu aw aE s g' V W R E
structure kN(n:Nat)(id:String)(l:List D)(ds:List D)(l':List D):Prop where
 run:∀(w:a9) (A:bN) (s:av) (g:aY) (a:ag) (af:Array ai) (vs:List ai),St w s g->Rm n A->s.heap.PlainList a af->aP w g af.toList l->aP w g vs ds->g a=ak->∀(Q:ai->av->Prop) E,
  (∀h' tk l7,kG a s.heap h'->h'.PlainList a l7->aP w g l7.toList l'->Q .none {s with heap:=h',toks:=tk})->wpAny (model PG w) A (call (.builtin id) (.ref a::vs)) Q E s
theorem bj.own{aB:Str->List ag}{V:Array ai}(H:bj w mu aw aE s g ab sc ρ aB)(G:ρ.lookup x=aa (.own a l))
 (hs:kG a s.heap h')(hp:h'.PlainList a V)(hr:aP w g V.toList l'):∃W,bj w mu aw aE {s with heap:=h',toks:=tk} g ab sc ((x,.own a l')::ρ) W:=by
 obtain⟨v,h1,af,rfl,h3,⟨nn,B⟩,h5,C⟩:=H.var x _ G
 have am:a∈aB x:=by rw[C];simp
 obtain⟨⟨q1,_⟩,_⟩:=H.dH x _ G a am
 have f:cV {cls:=aK "list",data:=.seq af nn}:=cV.of λvs q=>by cases q
 obtain⟨N,S'⟩:=St.changes (mt:=[a]) (h':=h') (tk:=tk) H.gR H.st H.nx H.fw (λb Y=>by
  have:b=a:=a_.1 Y
  subst this;exact⟨q1 rfl,h3,_,B,f⟩) (λb o Y e=>(hs.2 b (by simpa using Y)).trans e)
 refine⟨_,H.change (il:=[a]) G rfl rfl N S' (λb Y=>by rw[C];exact Y) (λb Y o e=>?_) (λv' _ r=>?_) (λb Y=>.inl (by rw[C];exact Y))⟩
 ·have:b=a:=a_.1 Y
  subst this;rw[B] at e;obtain rfl:=aW e;exact f
 ·obtain⟨Z,rfl,_⟩:=r
  exact⟨V,rfl,h3,hp,hr,rfl⟩
theorem kN.append(hl:l.length<=100000):kN n "list.append" l [d] (l++[d]):=.mk λw A s g a af vs S R V hr Y C Q E W=>by
 obtain⟨v,rfl,Z⟩:=Y.one
 have hs:af.size=l.length:=by have:=hr.1;exact this
 refine zg V (λh' H G=>W h' s.toks _ G H ?_) (by rw[hs];have:sizeLine=2^24:=rfl;exact bd (aV hl (by decide)))
 rw[s9];exact hr.append (aP.cons Z aP.nil)
theorem cO.append:cO "list" "append" "list.append":=⟨F.plainAttrs_list,slot_list_append,type_list_append⟩
end
theorem bK.of{t:au}{k:List D->Prop}(h:∀(w:a9) (A:bN) (ab:Env) (s:av) (g:aY),St w s g->Rm n A->c8 w s g ab sc ρ->∀E,wpAny (model PG w) A (eval e ab) (λx aA=>wpAny (model PG w) A (pyIter x) (iR w A s g t k) E aA) E s):bK n sc ρ t e k:=⟨h⟩
theorem iR.trans{t:au}{k:List D->Prop}{V:ai}(N:Nx [] s g aA aN)(h:iR w A aA aN t k V aT):iR w A s g t k V aT:=by
 obtain⟨I,fp,wr,J,af,bb,Z,H,h3,G,C,Y,B,f,h9⟩:=h
 refine⟨I,fp,wr,J,af,bb,Z,N.trans H,h3,G,C,λb W=>⟨?_,(Y b W).2⟩,B,f,h9⟩
 induction q:s.heap.get? b with
 |none=>rfl
 |some o=>obtain⟨o',e⟩:=N.there b o q (ca);exact ns (((Y b W).1).symm.trans e)
structure fN(n:Nat)(f:ai)(ds:List D)(t:au)(k:List D->Prop):Prop where
 run:∀(w:a9) (A:bN) (s:av) (g:aY) (vs:List ai),St w s g->Rm n A->aP w g vs ds->∀E,wpAny (model PG w) A (call f vs) (λx aA=>wpAny (model PG w) A (pyIter x) (iR w A s g t k) E aA) E s
theorem hY(S:St w s g)(h:s.heap.objs.size<=a):s.heap.get? a=ak/\g a=ak:=by
 have e:s.heap.get? a=ak:=by
  induction q:s.heap.get? a with
  |none=>rfl
  |some o=>exact aZ (cq q) (de.mpr h)
 refine⟨e,?_⟩
 induction q:g a with
 |none=>rfl
 |some o=>exact sn ((S.sub _ _ q).symm.trans e)
theorem iR.one{t:au}{k:List D->Prop}{qn:List ag}{af:List D}(S:St w s g)(C:o.cls≠.none)(B:o.isFreed=aI)
 (W:dz w A g s.heap.objs.size t af (s.heap.objs.size::qn) [s.heap.objs.size] J)(f:J 0 (s.heap.push o))(V:∀b∈qn,∃o,g b=aa o)(hl:af.length<=10000)(hk:k af):
 iR w A s g t k (.ref s.heap.objs.size) {s with heap:=s.heap.push o}:=by
 refine(S.ext' (h':=s.heap.push o) (tk:=s.toks) λb G e=>bZ _ e).elim λN Y=>?_
 have e:=cB s.heap B
 refine⟨_,_,_,J,af,g,rfl,N,Y,W,f,λb Z=>?_,λb Z=>?_,hl,hk⟩
 ·have:b=s.heap.objs.size:=a_.1 Z
  subst this;exact hY S (bv _)
 ·rcases bT.mp Z with q|q
  ·subst q
   exact⟨Y.dN (a:=s.heap.objs.size) e (.inl C),cq e,.inl (bi)⟩
  ·refine(V b q).elim λG H=>?_
   refine⟨λhT=>?_,cq (Y.sub _ _ H),.inr ⟨G,H⟩⟩
   have:=S.off b hT;exact sn (H.symm.trans this)
section
variable {n:Nat} {sc:bf} {ρ:ay} {t:au} {k:List D->Prop}
theorem bK.call{args:List au}{f:ai}(C:bO sc x f)(G:args.all cu=ae)(h:cn n sc ρ args λds=>fN n f ds t k):bK n sc ρ t (bU (aS x np) args [] aM) k:=.of λw A ab s g S R V E=>by
 refine lM (C.run w A ab s g ρ S V np _ E ?_)
 refine j6 (P:=λhp=>∃k,(k=jC\/k=jA\/k=jx)/\jL (model PG w) hp (keeperOf f) k) (by rw[(cE G).2];rfl) (λ_ q=>q) ?_
 refine fj (cE G).1 rfl (bg (cn.ok G h w A ab s g aM S R V E) (λvs aA ⟨aN,ds,W,Y,Z,H⟩=>?_))
 refine fz ⟨C.keep w aA aN Y,?_⟩
 exact bg (H.run w A aA aN vs Y R Z E) (λr aT o=>eg o (λit B q=>q.trans W) λ_ _ x=>x)
theorem bK.str(h:aj n sc ρ e λd=>∃x:Str,d=.str x/\x.length<=10000/\k (x.cps.toList.map λc=>.str ⟨#[c]⟩)):bK n sc ρ t e k:=.of λw A ab s g S R V E=>
 bg (h.run w A ab s g S R V E) (λv aA q_=>by
  obtain⟨aN,d,Y,Z,H,x,hd,hl,hk⟩:=q_
  subst hd
  refine H.dB λtk=>?_
  have len:(x.cps.toList.map λc=>D.str ⟨#[c]⟩).length=x.cps.size:=aR _
  have G:∀i v d,(x.cps.toList.map λc=>D.str ⟨#[c]⟩)[i]?=aa d->B5 x i v->Rep w aN v d:=λi v d hi hv=>by
   obtain⟨c,u,B,rfl⟩:=hv
   rw[ci] at hi
   rw[show x.cps.toList[i]?=aa c by simpa using B] at hi
   obtain rfl:=aW hi;exact .str _ _
  have C:∀(ty:String),wQ.contains ty=aI->(Walks PG w A aA.heap.objs.size [aA.heap.objs.size] [aA.heap.objs.size] x.cps.size (B5 x) (λi h=>h.IsStrIter aA.heap.objs.size ty x tk i))->
   iR w A aA aN t k (.ref aA.heap.objs.size) {aA with heap:=aA.heap.push {cls:=aK ty,data:=bC #[.str x tk,.int 0 0]}}:=λty f W=>by
   rw[<-len] at W
   refine iR.one (qn:=[]) Z (by simp) rfl (dz.of W G (λi h ⟨o,ho,B,hd⟩ b hb=>?_) λi h ⟨o,ho,B,hd⟩=>⟨o,ty,_,ho,B,hd,f⟩) ⟨_,cB _ rfl,rfl,rfl⟩ (fS) (by simpa[iw] using hl) hk
   have:b=aA.heap.objs.size:=a_.1 hb
   subst this
   exact⟨o,ho,λvs q t e e'=>by replace e:=hd▸e;cases e;simp at e'⟩
  cases ha:x.cps.all (·<128)
  ·exact Pj ha ((C "str_iterator" (rfl) (Walks.strWide R.2.2 _ x tk)).trans Y)
  ·exact EU ha ((C "str_ascii_iterator" (rfl) (Walks.strAscii R.2.2 _ x tk)).trans Y))
noncomputable def pV(a b:Int):List D:=(dK (b-a).toNat).map λi:Nat=>.int (a+(i:Int))
theorem Jq{a b:Int}(V:a.natAbs<=1000)(Y:b.natAbs<=1000):(b-a).toNat<=2000:=
 nJ.mpr (dh wt (fW.mpr (aD (Pk b a) (fV Y V))))
theorem uE{i:Int}(hi:i.natAbs<=4000):adp i=ae:=
 (bB _ _).mpr ⟨eP (dh (by decide:(-2^63:Int)≤-4000) (EG (dh (tn i▸wt) (fW.mpr hi)))),eP (jw (dh wt (fW.mpr hi)) (by decide:(4000:Int)<2^63))⟩
theorem ZH{b:Int}(V:b.natAbs<=1000):(b+(1-1)).natAbs<=4000:=aD (v0 b _) (aD (gB V _) (by decide))
theorem G'(a b:Int):NW a b 1=((b-a).toNat:Int):=by
 unfold NW
 rw[bo (by decide)]
 by_cases h:a<b
 ·rw[bo h,Gm,zy,mC (du (zH h))]
 ·rw[be h,Int.toNat_of_nonpos (Int.sub_nonpos_of_le (dU.mp h))];rfl
theorem R0(a b:Int):(pV a b).length=(b-a).toNat:=(aR _).trans kD
theorem fN.B_{a b:Int}(G:a.natAbs<=1000)(Z:b.natAbs<=1000)(hk:k (pV a b)):fN n (aK "range") [.int a,.int b] t k:=.mk λw A s g vs S R r E=>by
 obtain⟨v,u,rfl,h1,H⟩:=r.two
 refine h1.b9 λC=>?_;refine H.b9 λB=>?_
 refine call_range_2 ?_
 obtain⟨N,S'⟩:=S.ext' (h':=s.heap.push {cls:=aK "range",data:=bC #[.int a C,.int b B,.int 1 s.toks]}) (tk:=s.toks+1) λb o' e=>bZ _ e
 refine wpAny_pyIter_range (cB _ rfl) ?_ ?_
 ·unfold adT
  rw[(G' a b),uE (aD G (by decide)),uE (aD Z (by decide)),uE (i:=1) (by simp),uE (i:=((b-a).toNat:Int)) (aD (Jq G Z) (by simp)),uE (i:=b+(1-1)) (ZH Z),bo (by decide),Bool.or_true]
  rfl
 ·have W:=Walks.range (prog:=PG) (w:=w) R.2.2 ({s with heap:=s.heap.push {cls:=aK "range",data:=bC #[.int a C,.int b B,.int 1 s.toks]},toks:=s.toks+1}:av).heap.objs.size a 1 (b-a).toNat
  have len:=R0 a b
  rw[<-len] at W
  refine(iR.one (qn:=[]) S' (by simp) rfl (dz.of W (λi v d hi q_=>q_.elim λu hv=>?_) (λi h f b Z=>?_) λi h f=>⟨_,"range_iterator",_,f,rfl,rfl,rfl⟩) ?_ (fS) (len▸aD (Jq G Z) (by simp)) hk).trans N
  ·subst hv
   unfold pV at hi
   rw[ci] at hi
   induction q:(dK (b-a).toNat)[i]? with
   |none=>replace hi:=q▸hi;exact ns hi
   |some j=>
    rw[q] at hi;obtain rfl:=aW hi
    have:=ey.mp q
    obtain⟨h1,H⟩:=this
    simp at H;subst H
    rw[GL];exact .int _ _
  ·have:b=_:=a_.mp Z
   subst this
   exact⟨_,f,λvs q t e e'=>by cases e;cases e'⟩
  ·show IsRangeIter _ _ (a+((0:Nat):Int)*1) (((pV a b).length:Int)-((0:Nat):Int)) 1
   rw[len,(G' a b)]
   have:=cB (s.heap.push {cls:=aK "range",data:=bC #[.int a C,.int b B,.int 1 s.toks]}) (o:={cls:=aK "range_iterator",data:=bC #[rawInt a,rawInt ((b-a).toNat:Int),rawInt 1]}) rfl
   simpa using this
end
noncomputable def jj(l:List D):List D:=l.zipIdx.map λp=>.tup [.int (p.2:Int),p.1]
theorem tW(h:(jj l)[i]?=aa d):∃x,l[i]?=aa x/\d=.tup [.int (i:Int),x]:=by
 unfold jj at h
 rw[ci,List.getElem?_zipIdx] at h
 induction q:l[i]? with
 |none=>replace h:=q▸h;simp at h
 |some x=>rw[q] at h;simp at h;exact⟨x,rfl,h.symm⟩
theorem nP:(jj l).length=l.length:=by simp[jj]
section
variable {n:Nat} {k:List D->Prop} {ts:List au} {c:Nat} {p:Pos}
theorem fN.CC(hl:l.length<=10000)(hk:k (jj l)):fN n (aK "enumerate") [.lst l] (b7 ts c p) k:=.mk λw A s g vs S R r E=>by
 obtain⟨v,rfl,h1⟩:=r.one
 refine h1.j9 λa nn V Y rl=>?_
 have sz:V.size=(jj l).length:=by have:=rl.1;rw[nP];exact this
 refine call_enumerate_list (⟨_,S.sub _ _ Y,rfl,nn,rfl⟩:s.heap.IsList a V) λh' f H eR D3=>?_
 have W:=WalksT.enumerate (prog:=PG) (w:=w) R.2.2 (s.heap.objs.size+1) s.heap.objs.size a (Fj _) (eB (lP (cq (S.sub _ _ Y)))) (eB (cq (S.sub _ _ Y))) V
 simp only[sz] at W
 obtain⟨N,Z⟩:=S.ext' (h':=h') (tk:=s.toks) D3
 have hJ:(λ(i:Nat) (h:dp)=>(∃G,IsEnum h (s.heap.objs.size+1) s.heap.objs.size i G)/\h.IsListIter s.heap.objs.size a i/\h.IsList a V) 0 h':=⟨⟨_,f⟩,H,⟨_,Z.sub _ _ Y,rfl,nn,rfl⟩⟩
 refine W.self 0 _ _ E hJ ⟨_,_,_,_,jj l,g,rfl,N,Z,dz.ofT W.toU (λi gU d hi C=>C.elim λt C=>C.elim λx C=>C.elim λhx hv=>?_) (λi h ⟨⟨G,e1⟩,⟨o,e2,e3,e4⟩,_⟩ b B=>?_),hJ,λb B=>?_,λb B=>?_,by rw[nP];exact hl,hk⟩
 ·obtain⟨y,hy,rfl⟩:=tW hi
  subst hv
  refine⟨_,rfl,aP.cons (.int _ _) (aP.cons ?_ aP.nil)⟩
  exact rl.2 i x y (by simpa using hx) hy
 ·rcases bT.mp B with q|q
  ·subst q;exact⟨_,e1,λvs q t e e'=>by cases e;simp at e'⟩
  ·have:b=s.heap.objs.size:=a_.mp q
   subst this
   exact⟨o,e2,λvs q t e e'=>by replace e:=e4▸e;cases e;simp at e'⟩
 ·rcases bT.mp B with q|q
  ·subst q;exact hY S (jD _)
  ·have:b=s.heap.objs.size:=a_.mp q
   subst this;exact hY S (bv _)
 ·obtain⟨oi,i1,i2,i3⟩:=H
  rcases bT.mp B with q|q
  ·subst q;exact⟨Z.dN f (.inl (by simp)),cq f,.inl (bi)⟩
  ·refine(bT.mp q).elim (λq=>?_) λq=>?_
   ·subst q;exact⟨Z.dN (a:=s.heap.objs.size) i1 (.inl (by rw[i2];simp)),cq i1,.inl ((bM _ bi))⟩
   ·have:b=a:=a_.mp q
    subst this
    exact⟨Z.dN (Z.sub _ _ Y) (.inl (by simp)),cq (Z.sub _ _ Y),.inr ⟨_,Y⟩⟩
theorem fN.KY(hl:x.length<=10000)(hk:k (jj (x.cps.toList.map λc=>.str ⟨#[c]⟩))):fN n (aK "enumerate") [.str x] (b7 ts c p) k:=.mk λw A s g vs S R r E=>by
 refine r.one.elim λv G=>G.elim λC h1=>?_;subst C
 refine h1.dB λtk=>?_
 have sz:x.cps.size=(jj (x.cps.toList.map λc=>D.str ⟨#[c]⟩)).length:=by rw[nP];simp
 refine call_enumerate_str λh' B V eR f=>?_
 refine(S.ext' (h':=h') (tk:=s.toks) f).elim λN S'=>?_
 have Y:∀ty,h'.IsStrIter s.heap.objs.size ty x tk 0->(Draws PG w A.in1 s.heap.objs.size [s.heap.objs.size] x.cps.size (B5 x) (λi h=>h.IsStrIter s.heap.objs.size ty x tk i))->
  wpAny (model PG w) A (pyIter (.ref (s.heap.objs.size+1))) (iR w A s g (b7 ts c p) k) E {s with heap:=h'}:=λty V Dr=>by
  have W:=Pl Dr (s.heap.objs.size+1) (Fj _) (by simp) (bi)
  simp only[sz] at W
  have hJ:(λ(i:Nat) (h:dp)=>(∃Z,IsEnum h (s.heap.objs.size+1) s.heap.objs.size i Z)/\h.IsStrIter s.heap.objs.size ty x tk i) 0 h':=⟨⟨_,B⟩,V⟩
  refine W.self 0 _ _ E hJ ⟨_,_,_,_,jj (x.cps.toList.map λc=>.str ⟨#[c]⟩),g,rfl,N,S',dz.ofT W.toU (λi gU d hi ⟨t,y,⟨c',u,hc,hy⟩,hv⟩=>?_) (λi h ⟨⟨Z,e1⟩,o,e2,e3,e4⟩ b H=>?_),hJ,λb H=>?_,λb H=>?_,by rw[nP];simpa[iw] using hl,hk⟩
  ·obtain⟨z,hz,rfl⟩:=tW hi
   subst hv;subst hy
   rw[ci,show x.cps.toList[i]?=aa c' by simpa using hc] at hz
   obtain rfl:=aW hz
   exact⟨_,rfl,aP.cons (.int _ _) (aP.cons (.str _ _) aP.nil)⟩
  ·rcases bT.mp H with q|q
   ·subst q;exact⟨_,e1,λvs q t e e'=>by cases e;simp at e'⟩
   ·have:b=s.heap.objs.size:=a_.mp q
    subst this
    exact⟨o,e2,λvs q t e e'=>by replace e:=e4▸e;cases e;simp at e'⟩
  ·rcases bT.mp H with q|q
   ·subst q;exact hY S (jD _)
   ·have:b=s.heap.objs.size:=a_.mp q
    subst this;exact hY S (bv _)
  ·refine V.elim λoi DH=>DH.elim λi1 va=>va.elim λi2 i3=>?_
   rcases bT.mp H with q|q
   ·subst q;exact⟨S'.dN B (.inl (by simp)),cq B,.inl (bi)⟩
   ·have:b=s.heap.objs.size:=a_.mp q
    subst this;exact⟨S'.dN (a:=s.heap.objs.size) i1 (.inl (by rw[i2];simp)),cq i1,.inl ((bM _ bi))⟩
 cases ha:x.cps.all (·<128)
 ·exact Y _ (by unfold strIterType at V;rw[ha] at V;exact V) (Draws.strWide (show A.in1.handled=aU from R.2.2) _ x tk)
 ·exact Y _ (by unfold strIterType at V;rw[ha] at V;exact V) (Draws.strAscii (show A.in1.handled=aU from R.2.2) _ x tk)
end
section
variable {n:Nat} {k:D->Prop}
theorem GV(xs:List Int):∀j,j<=xs.length->preSum (λi=>xs.getD i 0) j=(xs.take j).sum
 |0,_=>rfl
 |j+1,h=>by
  simp only[preSum,GV xs j (qG h),lN]
  have:xs[j]?=aa xs[j]:=by simp[s_ h]
  simp only[this,List.sum_append]
  simp[SM,this]
theorem bk.C7{xs:List Int}(hk:k (.int xs.sum)):bk n (.builtin "sum") [.lst (xs.map D.int)] k:=.mk λw A s g vs S R r E=>by
 obtain⟨v,rfl,h1⟩:=r.one
 refine h1.j9 λa G V W C=>?_
 have B:V.size=xs.length:=by have:=C.1;simpa using this
 refine call_sum_walkG (s6 (⟨_,S.sub _ _ W,rfl,G,rfl⟩:s.heap.IsList a V) ?_)
 have Z:(s.heap.push {cls:=aK "list_iterator",data:=bC #[.ref a,.int 0 0]}).objs.size=s.heap.objs.size+1:=gX ..
 refine⟨_,_,_,_,_,_,λi=>xs.getD i 0,rfl,RV (prog:=PG) (w:=w) (A:=A.in1) R.2.2 s.heap.objs.size a (eB (cq (S.sub _ _ W))) V,⟨⟨_,cB _ rfl,rfl,rfl⟩,⟨_,bZ _ (S.sub _ _ W),rfl,G,rfl⟩⟩,λb hb=>?_,λi v hv=>?_,λh' tk t' H=>?_⟩
 ·show b<(s.heap.push _).objs.size
  rw[Z]
  rcases bT.mp hb with q|q
  ·subst q;exact gW _
  ·have:b=a:=a_.mp q
   subst this;exact lP (cq (S.sub _ _ W))
 ·have hi:i<V.size:=(Ep.mp hv).1
  have Y:i<xs.length:=by exact B▸hi
  refine(C.2 i v (.int xs[i]) (by simpa using hv) (by simp[Y])).b9 λt=>?_
  exact⟨t,by simp[SM,Y]⟩
 ·simp only[B,GV xs xs.length (bv _),jY]
  refine Out.keep S (λb o e=>H b o ?_ (bZ _ e)) (.int _ _) hk
  intro q
  have:b=s.heap.objs.size:=a_.1 q
  subst this;rw[lg] at e;exact ns e
end
section
variable {n:Nat} {k:D->Prop}
theorem Out.sorted{V:Array ai}(S:St w s g)(h:aP w g V.toList l)(B:k (.lst l)):Out w s g k (.ref (s.heap.objs.size+1)) {s with heap:=sortedAll s.heap vs V}:=by
 refine(S.ext' (h':=sortedAll s.heap vs V) (tk:=s.toks) λb o e=>sortedAll_old e).elim λN Z=>?_
 obtain⟨e,H⟩:=sortedAll_at s.heap vs V
 have G:=hY S (a:=s.heap.objs.size+1) (jD _)
 refine(Z.freeze (n:=s.heap.objs.size+1) H G.2 (Z.dN (a:=s.heap.objs.size+1) H (.inl (by simp[seqObj])))).elim λf C=>?_
 refine⟨_,_,⟨N.keep,N.there,C,λa o Y W _=>?_,rfl⟩,f,.lst _ e V l (gZ _ _ _) h.1 λi v d Y W=>(h.2 i v d Y W).mono C,B⟩
 exact(fD _ _ _ (λq=>by rw[q,G.1] at Y;exact ns Y)).trans W
theorem bk.V9{xs:List Int}(hl:xs.length<64)(Z:∀ys:List Int,ys.Perm xs->ys.Pairwise (·≤·)->k (.lst (ys.map D.int))):bk n (.builtin "sorted") [.lst (xs.map D.int)] k:=.mk λw A s g vs S R r E=>by
 obtain⟨v,rfl,H⟩:=r.one
 refine H.j9 λa G V C W=>?_
 exact sorted_ints (⟨_,S.sub _ _ C,rfl,G,rfl⟩:s.heap.IsList a V.toList.toArray) W.ints (by rw[W.1];simpa using hl) λB Y f q2 q3=>Out.sorted S (aP.V6 f) (Z Y q2 q3)
end
set_option tactic.hygienic true in
theorem QJ{a b:Int}{c:ai}(l:List ai)(h:wW l)(e:tP aM (l++[rawInt a,rawInt b,c])=aa cv):tP aM l=aa cv\/cv=c:=by
 fun_induction wW l with
 |case1=>
  dsimp only[zU,rawInt,tP] at e
  split at e
  ·obtain rfl:=aW e;exact .inr rfl
  ·exact ns e
 |case2 W t Z u x bW Y=>
  dsimp only[wb,tP] at e⊢
  split at e
  ·rename_i V;rw[bo V];exact .inl e
  ·rename_i V;rw[be V];exact Y h e
 |case3 l H G=>exact h.elim
theorem Uh{t V:ag×ag×Str}(h:t∈fu)(h':V∈fu)(e:V.2.1=t.2.1):V=t:=Xv (f:=λt=>t.2.1) (by decide) h' h e
theorem Jr{t:ag×ag×Str}(h:t∈fu):t.2.1∈TB:=by
 simp only[fu,bT,ca,or_false] at h
 rcases h with rfl|rfl|rfl|rfl<;>decide
theorem St.grow(S:St w s g){t:ag×ag×Str}(ht:t∈fu){Y:Array ai}(f:∀b o,b≠t.2.1->s.heap.get? b=aa o->h'.get? b=aa o)
 (hP:h'.get? t.2.1=aa (tabObj Y))(hG:BI h' t.2.2 Y):Nx [] s g {s with heap:=h',toks:=tk} g/\St w {s with heap:=h',toks:=tk} g:=by
 have W:∀b o,b∉TB->s.heap.get? b=aa o->h'.get? b=aa o:=λb o V e=>f b o (λq=>V (q▸(Jr ht))) e
 have ns:∀a m,s.heap.Ns a m->h'.Ns a m:=λa m hn=>by
  obtain⟨o,es,ep,e,d,r⟩:=hn
  exact⟨o,es,ep,W _ _ (S.dN e (.inr λvs q=>by replace q:=d▸q;cases q)) e,d,r⟩
 have cr:∀cv q,s.heap.CodeRec cv q->h'.CodeRec cv q:=λcv q hc=>by
  obtain⟨c,o,vs,t,e1,B,e3,e4⟩:=hc
  exact⟨c,o,vs,t,e1,W _ _ (AE S B e3 e4) B,e3,e4⟩
 refine ba λN_=>?_
 obtain⟨mg,Z⟩:=S.gx
 obtain⟨mb,hmb,V⟩:=S.blt
 obtain⟨mc,hmc,hc⟩:=S.lim
 apply N_
 refine⟨⟨λb o e V _=>W b o V e,λb o e _=>?_,λ_ _ e=>e,λ_ _ _ e _=>e,rfl⟩,⟨λa o e=>W _ _ (XT w a o e) (S.df a o e),⟨mg,ns _ _ Z⟩,⟨mb,ns _ _ hmb,V⟩,⟨mc,ns _ _ hmc,hc⟩,λH G=>?_,λt' C=>?_,λa o e=>?_,S.off,S.gens⟩⟩
 ·by_cases V:b=t.2.1
  ·exact⟨_,V▸hP⟩
  ·exact⟨o,f b o V e⟩
 ·have B:s.heap.Ns e9 H:=by
   obtain⟨o,es,ep,e,r⟩:=Z
   obtain⟨o',y4,sM,e',r'⟩:=G
   have:=W _ _ (S.dN e (.inr λvs q=>by replace q:=r.1▸q;cases q)) e
   rw[(e':h'.get? e9=aa o')] at this;obtain rfl:=aW this
   exact⟨_,y4,sM,e,r'⟩
  refine ba λN_=>?_
  obtain⟨bm,ob,h1,h2,h3,h4,h5,h6⟩:=S.bmain H B
  apply N_
  exact⟨bm,ob,h1,h2,W _ _ (S.dN h3 (.inl (by rw[h4];decide))) h3,h4,h5,h6⟩
 ·by_cases V:t'.2.1=t.2.1
  ·have:=Uh ht C V
   subst this
   exact⟨Y,hP,hG⟩
  ·obtain⟨ps,e,t1,t2⟩:=S.tab t' C
   exact⟨ps,f _ _ V e,t1,λaM cv DD=>cr _ _ (t2 aM cv DD)⟩
 ·refine W _ _ (λhm=>?_) (S.sub a o e)
  replace e:=(S.off a hm)▸e;cases e
inductive IB(w:a9)(s:av)(g:aY)(name bI:Str)(params:ix)(body:rI)(scope:bf)(br:List (Str×ag))(v:ai)(s':av):Prop
 |mk (f g' doc pm ct cv:_) (hv:v=.ref f) (hf:s.heap.get? f=ak) (N:Nx [] s g s' g') (S:St w s' g') (hg:g' f=aa (l8 (jM name bI params body scope br doc pm ct cv:_))) (hc:s'.heap.CodeRec cv bI)
theorem xh{name:Str}{body:rI}{br:List (Str×ag)}{aN:aY}(S:St w s g)(N:Nx [] s g {s with heap:=h'} g)(W:St w {s with heap:=h'} g)(C:h'.CodeRec cv bI)(V:s.heap.objs.size<=h'.objs.size):
 IB w s g name bI params body scope br (.ref h'.objs.size) {s with heap:=h'.push (l8 (jM name bI params body scope br doc pm ct cv)),toks:=tk}:=by
 refine(W.ext' (h':=h'.push (l8 (jM name bI params body scope br doc pm ct cv))) (tk:=tk) λb o e=>bZ _ e).elim λZ H=>?_
 have G:=cB h' (o:=l8 (jM name bI params body scope br doc pm ct cv)) rfl
 refine(hY S V).elim λnf B=>?_
 refine(H.freeze (n:=h'.objs.size) G B (H.dN (a:=h'.objs.size) G (.inl (by simp[l8])))).elim λf u2=>?_
 have Y:=N.trans Z
 refine⟨h'.objs.size,_,doc,pm,ct,cv,rfl,nf,⟨Y.keep,Y.there,u2,λa o e e' _=>?_,Y.os⟩,f,gZ _ _ _,Z.code W C (by simp)⟩
 exact(fD _ _ _ (λq=>by rw[q,nf] at e;exact ns e)).trans e'
theorem Nx.x5(S:St w s g)(V:∀b o,s.heap.get? b=aa o->h'.get? b=aa o):Nx [] s g {s with heap:=h'} g/\St w {s with heap:=h'} g:=S.ext' (tk:=s.toks) V
theorem Js{t:ag×ag×Str}(h:t∈fu):e9≠t.2.1:=by
 simp only[fu,bT,ca,or_false] at h
 rcases h with rfl|rfl|rfl|rfl<;>decide
theorem XZ{name:Str}{body:rI}{br:List (Str×ag)}{fl:Nat}{t:ag×ag×Str}
 (S:St w s g)(ht:t∈fu)(i7:codeHdIn (KH w) t.1 t.2.1=ae)(Z:wK scope ab=pure br)(H:ab.globals=e9)(V:ab.code=.ref t.1):
 wpAny (model PG w) A (makeFunction name t.2.2 params body scope ab [] [] [] aM fl) (IB w s g name t.2.2 params body scope br) E s:=by
 have C:=codeHd_of_K S.df i7
 obtain⟨mg,Y⟩:=S.gx
 refine ba λN_=>?_
 obtain⟨ps,hP,hT,hR⟩:=S.tab t ht
 obtain⟨bm,ob,b1,b2,b3,b4,b5,b6⟩:=S.bmain mg Y
 apply N_
 have bG:bm≠e9:=λq=>by
  obtain⟨o,_,_,e,hd,_⟩:=Y
  rw[q,e] at b3;obtain rfl:=aW b3;replace b6:=hd▸b6;cases b6
 have bP:bm≠t.2.1:=λq=>by
  rw[q,hP] at b3;obtain rfl:=aW b3;cases b4
 have hb:s.heap.BuiltinsAt mg t.2.1:=⟨bm,ob,b1,b2,bG,bP,b3,b4,b5,b6⟩
 have B:∀c' h',wB t.2.1 s.heap h'->h'.CodeRec (.ref c') t.2.2->h'.get? t.2.1=aa (tabObj (ps++#[rawInt aM.line,rawInt aM.col,.ref c']))->Nx [] s g {s with heap:=h'} g/\St w {s with heap:=h'} g:=λc' h' hx f W=>by
  refine S.grow (tk:=s.toks) ht (λb o hb e=>hx b o hb e) W ⟨?_,λp cv e=>?_⟩
  ·rw[zr];exact TriplesOk_snoc _ _ _ _ hT
  ·rw[zr] at e
   rcases QJ _ hT e with q|rfl
   ·obtain⟨c,o,vs,tt,e1,e2,e3,e4⟩:=hR p cv q
    refine⟨c,o,vs,tt,e1,hx _ _ (λq=>?_) e2,e3,e4⟩
    exact AE S e2 e3 e4 (q▸Jr ht)
   ·exact f
 induction hf:tP aM ps.toList with
 |none=>
  induction body with
  |expr b=>
   exact kla_makeFunction Z H Y V C hP hT hf (Js ht) hb λc' D4 h' tk hx h1 h2 f W=>by
    obtain⟨G,S1⟩:=B c' h' hx f W
    exact xh (aN:=g) S G S1 f (bd (aV h1 h2))
  |stmts b=>
   exact makeFunction_K Z H Y V C hP hT hf (Js ht) hb λc' D4 doc h' tk hx h1 h2 f W=>by
    refine(B c' h' hx f W).elim λG S1=>?_
    exact xh (aN:=g) S G S1 f (bd (aV h1 h2))
 |some cv=>
  induction body with
  |expr b=>
   exact kla_makeFunctionHit Z H Y V C hP hT hf hb λD4 h' tk hk eR=>by
    have G:=(Nx.x5 S hk).1;have S1:=(Nx.x5 S hk).2
    exact xh (aN:=g) S G S1 (G.code S (hR aM cv hf) (by simp)) eR
  |stmts b=>
   exact makeFunction_hit Z H Y V C hP hT hf hb λD4 doc h' tk hk eR=>by
    have G:=(Nx.x5 S hk).1;have S1:=(Nx.x5 S hk).2
    exact xh (aN:=g) S G S1 (G.code S (hR aM cv hf) (by simp)) eR
theorem lY(h:∀a,bindArgs fd ⟨[a],[]⟩=pure [(x,a)])(vs:List ai)(hl:vs.length=1):fP s fd ⟨vs,[]⟩ ([x].zip vs):=
 j8 hl λa r V=>tT V (.of_eq (h a))
theorem jd(h:∀a b,bindArgs fd ⟨[a,b],[]⟩=pure [(x,a),(y,b)])(vs:List ai)(hl:vs.length=2):fP s fd ⟨vs,[]⟩ ([x,y].zip vs):=
 j8 hl λa r V=>j8 V λb r V=>tT V (.of_eq (h a b))
theorem pC(h:∀a b c,bindArgs fd ⟨[a,b,c],[]⟩=pure [(x,a),(y,b),(z,c)])(vs:List ai)(hl:vs.length=3):fP s fd ⟨vs,[]⟩ ([x,y,z].zip vs):=
 j8 hl λa r V=>j8 V λb r V=>j8 V λc r V=>tT V (.of_eq (h a b c))
theorem Ui{u:Str}(h:∀a b c d,bindArgs fd ⟨[a,b,c,d],[]⟩=pure [(x,a),(y,b),(z,c),(u,d)])(vs:List ai)(hl:vs.length=4):fP s fd ⟨vs,[]⟩ ([x,y,z,u].zip vs):=
 j8 hl λa r V=>j8 V λb r V=>j8 V λc r V=>j8 V λd r V=>tT V (.of_eq (h a b c d))
set_option tactic.hygienic true in
theorem pk{r:List bw}{k:Fl->ay->Prop}(h:aL n sc ρ r k):pI n sc r k .next ρ:=h
theorem fQ{k:List D->Prop}(h:k []):cn n sc ρ [] k:=h
theorem hZ{r:List au}{k:List D->Prop}(h:aj n sc ρ e λd=>cn n sc ρ r λds=>k (d::ds)):cn n sc ρ (e::r) k:=h
theorem Uj{k:List Bd->Prop}(h:k []):f7 n sc ρ [] k:=h
theorem HL{r:List au}{k:List Bd->Prop}(h:cK n sc ρ e λd=>f7 n sc ρ r λds=>k (d::ds)):f7 n sc ρ (e::r) k:=h
set_option tactic.hygienic true in
theorem intBits_le{a:Int}(h:a.natAbs<2^60):fy a<=64:=by
 unfold fy
 split
 ·exact bd (eA _)
 ·rename_i Y
  have V:a.natAbs≠0:=by
   intro q
   have:a=0:=by exact LL (by assumption)
   subst this;exact Y rfl
  have:=(wE V).mpr h
  exact qH (eK this (by simp))
theorem mulL{a b:Int}(V:a.natAbs<2^60):xe a b:=IntMulOk.of_left (intBits_le V)
theorem mulR{a b:Int}(V:b.natAbs<2^60):xe a b:=IntMulOk.of_right (intBits_le V)
theorem Uk(V:sc.names.lookup (a6 "max")=aa cj):bO sc (a6 "max") (.builtin "max"):=bO.boot V (by intro w;ac_rfl) (by ac_rfl) Boot.«max» (by decide) (by intro a e;cases e)
theorem Ul(V:sc.names.lookup (a6 "min")=aa cj):bO sc (a6 "min") (.builtin "min"):=bO.boot V (by intro w;ac_rfl) (by ac_rfl) Boot.«min» (by decide) (by intro a e;cases e)
theorem Um(V:sc.names.lookup (a6 "abs")=aa cj):bO sc (a6 "abs") (.builtin "abs"):=bO.boot V (by intro w;ac_rfl) (by ac_rfl) Boot.«abs» (by decide) (by intro a e;cases e)
theorem Un(V:sc.names.lookup (a6 "len")=aa cj):bO sc (a6 "len") (.builtin "len"):=bO.boot V (by intro w;ac_rfl) (by ac_rfl) Boot.«len» (by decide) (by intro a e;cases e)
theorem Ru(V:sc.names.lookup (a6 "divmod")=aa cj):bO sc (a6 "divmod") (.builtin "divmod"):=bO.boot V (by intro w;ac_rfl) (by ac_rfl) Boot.«divmod» (by decide) (by intro a e;cases e)
theorem Uo(V:sc.names.lookup (a6 "sum")=aa cj):bO sc (a6 "sum") (.builtin "sum"):=bO.boot V (by intro w;ac_rfl) (by ac_rfl) Boot.«sum» (by decide) (by intro a e;cases e)
theorem tJ(V:sc.names.lookup (a6 "sorted")=aa cj):bO sc (a6 "sorted") (.builtin "sorted"):=bO.boot V (by intro w;ac_rfl) (by ac_rfl) Boot.«sorted» (by decide) (by intro a e;cases e)
theorem IC(V:sc.names.lookup (a6 "str")=aa cj):bO sc (a6 "str") (aK "str"):=bO.boot V (by intro w;ac_rfl) (by ac_rfl) Boot.«str» (by decide) (by intro a e;cases e)
theorem AG(V:sc.names.lookup (a6 "range")=aa cj):bO sc (a6 "range") (aK "range"):=bO.boot V (by intro w;ac_rfl) (by ac_rfl) Boot.«range» (by decide) (by intro a e;cases e)
theorem qX(V:sc.names.lookup (a6 "enumerate")=aa cj):bO sc (a6 "enumerate") (aK "enumerate"):=bO.boot V (by intro w;ac_rfl) (by ac_rfl) Boot.«enumerate» (by decide) (by intro a e;cases e)
theorem Up(V:sc.names.lookup (a6 "zip")=aa cj):bO sc (a6 "zip") (aK "zip"):=bO.boot V (by intro w;ac_rfl) (by ac_rfl) Boot.«zip» (by decide) (by intro a e;cases e)
theorem QK(V:sc.names.lookup (a6 "reversed")=aa cj):bO sc (a6 "reversed") (aK "reversed"):=bO.boot V (by intro w;ac_rfl) (by ac_rfl) Boot.«reversed» (by decide) (by intro a e;cases e)
theorem ID(V:sc.names.lookup (a6 "set")=aa cj):bO sc (a6 "set") (aK "set"):=bO.boot V (by intro w;ac_rfl) (by ac_rfl) Boot.«set» (by decide) (by intro a e;cases e)
theorem w7(V:sc.names.lookup (a6 "type")=aa cj):bO sc (a6 "type") (aK "type"):=bO.boot V (by intro w;ac_rfl) (by ac_rfl) Boot.«type» (by decide) (by intro a e;cases e)
theorem OR(V:sc.names.lookup (a6 "_ellipsis_match")=aa cj):bO sc (a6 "_ellipsis_match") (.ref 45):=bO.top V (by intro w;ac_rfl) (by ac_rfl) (by intro w;ac_rfl)
theorem Q6(V:sc.names.lookup (a6 "_div2n1n")=aa cj):bO sc (a6 "_div2n1n") (.ref 52):=bO.top V (by intro w;ac_rfl) (by ac_rfl) (by intro w;ac_rfl)
theorem P7(V:sc.names.lookup (a6 "_int2digits")=aa cj):bO sc (a6 "_int2digits") (.ref 66):=bO.top V (by intro w;ac_rfl) (by ac_rfl) (by intro w;ac_rfl)
theorem P8(V:sc.names.lookup (a6 "_digits2int")=aa cj):bO sc (a6 "_digits2int") (.ref 73):=bO.top V (by intro w;ac_rfl) (by ac_rfl) (by intro w;ac_rfl)
theorem P9(V:sc.names.lookup (a6 "_divmod_pos")=aa cj):bO sc (a6 "_divmod_pos") (.ref 80):=bO.top V (by intro w;ac_rfl) (by ac_rfl) (by intro w;ac_rfl)
theorem FO(V:sc.names.lookup (a6 "int_divmod")=aa cj):bO sc (a6 "int_divmod") (.ref 87):=bO.top V (by intro w;ac_rfl) (by ac_rfl) (by intro w;ac_rfl)
theorem Ff(V:sc.names.lookup (a6 "insort_right")=aa cj):bO sc (a6 "insort_right") (.ref 96):=bO.top V (by intro w;ac_rfl) (by ac_rfl) (by intro w;ac_rfl)
theorem v7(V:sc.names.lookup (a6 "bisect_right")=aa cj):bO sc (a6 "bisect_right") (.ref 105):=bO.top V (by intro w;ac_rfl) (by ac_rfl) (by intro w;ac_rfl)
theorem Fy(V:sc.names.lookup (a6 "bisect_left")=aa cj):bO sc (a6 "bisect_left") (.ref 114):=bO.top V (by intro w;ac_rfl) (by ac_rfl) (by intro w;ac_rfl)
theorem QL(V:sc.names.lookup (a6 "_law_over")=aa cj):bO sc (a6 "_law_over") (.ref 269):=bO.top V (by intro w;ac_rfl) (by ac_rfl) (by intro w;ac_rfl)
theorem Qr(V:sc.names.lookup (a6 "_law_apart")=aa cj):bO sc (a6 "_law_apart") (.ref 276):=bO.top V (by intro w;ac_rfl) (by ac_rfl) (by intro w;ac_rfl)
theorem FP(V:sc.names.lookup (a6 "_law_sticks")=aa cj):bO sc (a6 "_law_sticks") (.ref 281):=bO.top V (by intro w;ac_rfl) (by ac_rfl) (by intro w;ac_rfl)
theorem QM(V:sc.names.lookup (a6 "_law_rows")=aa cj):bO sc (a6 "_law_rows") (.ref 286):=bO.top V (by intro w;ac_rfl) (by ac_rfl) (by intro w;ac_rfl)
theorem P'(V:sc.names.lookup (a6 "_law_points")=aa cj):bO sc (a6 "_law_points") (.ref 291):=bO.top V (by intro w;ac_rfl) (by ac_rfl) (by intro w;ac_rfl)
theorem Qs(V:sc.names.lookup (a6 "_law_order")=aa cj):bO sc (a6 "_law_order") (.ref 296):=bO.top V (by intro w;ac_rfl) (by ac_rfl) (by intro w;ac_rfl)
theorem PP(V:sc.names.lookup (a6 "_law_painted")=aa cj):bO sc (a6 "_law_painted") (.ref 301):=bO.top V (by intro w;ac_rfl) (by ac_rfl) (by intro w;ac_rfl)
theorem Qt(V:sc.names.lookup (a6 "_law_takes")=aa cj):bO sc (a6 "_law_takes") (.ref 308):=bO.top V (by intro w;ac_rfl) (by ac_rfl) (by intro w;ac_rfl)
theorem QN(V:sc.names.lookup (a6 "_law_once")=aa cj):bO sc (a6 "_law_once") (.ref 315):=bO.top V (by intro w;ac_rfl) (by ac_rfl) (by intro w;ac_rfl)
theorem dC.clos(V:c8 w s g ab sc ρ)(Y:dC aF sc=ae):wK aF ab=pure (kj ab.cells aF.names)/\xI aF ab.cells (kj ab.cells aF.names):=by
 refine(dQ.of V Y).elim λW C=>?_
 exact⟨W,λx c h=>⟨((nL ((dC.spec Y).1)).mp h).2,C.free x c h⟩,C.e6⟩
section
variable {n m:Nat} {sc scope:bf} {ρ bE:ay}
theorem Ca{name:Str}{body:rI}{fl:Nat}{t:ag×ag×Str}
 (S:St w s g)(V:c8 w s g ab sc ρ)(hl:d4 sc=aa (t.1,bI))(Z:t∈fu)(Y:∀w,codeHdIn (KH w) t.1 t.2.1=ae)(W:dC scope sc=ae):
 wpAny (model PG w) A (makeFunction name t.2.2 params body scope ab [] [] [] aM fl) (λv s'=>∃g',Nx [] s g s' g'/\St w s' g'/\cU w s' g' ab v [] (.lam name params body scope)) E s:=by
 refine(dC.clos V W).elim λH G=>?_
 refine bg (XZ S Z (Y w) H V.glob (V.lam _ _ hl).1) (λv s' ⟨f,g',doc,pm,ct,cv,e,_,N,C,B,q2⟩=>?_)
 exact⟨g',N,C,f,t.2.2,_,doc,pm,ct,cv,e,B,q2,G,rfl⟩
theorem cK.lambda{body:au}{t:ag×ag×Str}{k:Bd->Prop}(hl:d4 sc=aa (t.1,bI))(Z:t∈fu)(H:bI++("<lambda>":Str)=t.2.2)(Y:∀w,codeHdIn (KH w) t.1 t.2.1=ae)(W:dC scope sc=ae)(hd:∀ab,defaultsOf params ab=([],[]))
 (h:k (.lam "<lambda>" params (.expr body) scope)):cK n sc ρ (.Lambda params body scope aM) k:=.mk λw A ab s g S R V E=>by
 refine kla_eval (hd ab) ?_
 rw[(V.lam _ _ hl).2,H]
 exact bg (Ca S V hl Z Y W) (λv s' G=>by obtain⟨g',N,C,r⟩:=G;exact⟨g',_,[],N,C,r,rfl,fS,h⟩)
theorem aO.def{name:Str}{t:ag×ag×Str}{k:Fl->ay->Prop}(hl:d4 sc=aa (t.1,bI))(ht:t∈fu)(hq:bI++name=t.2.2)(Z:∀w,codeHdIn (KH w) t.1 t.2.1=ae)(G:dC scope sc=ae)(hx:mine sc name=ae)
 (C:params.defaults=[])(B:params.kw_defaults=[])(f:∀ab,annTrees params aU ab=[])
 (h:k .next ((name,.lam name params (gP body) scope)::ρ)):aO n sc ρ (.FunctionDef name params body [] aU [] scope aU name aM) k:=.mk λw A ab mu aw aE s g aB H R E=>by
 refine nestDef_K C B (f ab) ?_
 have e:qualnameIn ab name name=t.2.2:=by
  unfold qualnameIn
  have hk:(ab.kindOf name==aa NameKind.globalExplicit)=aI:=by
   rcases BN hx with q|q
   ·have:=H.ks name;rw[q] at this;rw[KS.local this];rfl
   ·have:=H.ks name;rw[q] at this;rw[KS.cell this];rfl
  rw[hk,(H.lam _ _ hl).2]
  exact hq
 rw[e]
 refine bg (Ca H.st H.cI hl ht Z G) (λv aA V=>V.elim λaN V=>V.elim λN V=>V.elim λY r=>?_)
 exact(H.step N Y).store (n:=0) hx r (λa f=>by simp at f) (λaT _ W=>⟨aN,_,.next,_,W,trivial,h⟩) E
noncomputable def sd(scope:bf):Bd->Bool
 |.dat _=>ae
 |.lam _ _ _ V=>V.names.all λp=>p.2 != .free||scope.names.lookup p.1==aa .free
 |_=>aI
noncomputable def cellIn(sc:bf)(x:Str):Bool:=sc.names.lookup x==aa .cell||sc.names.lookup x==aa .free
noncomputable def mj(scope sc:bf)(ρ:ay):ay->Prop
 |[]=>True
 |(x,b)::r=>ρ.lookup x=aa b/\(scope.names.lookup x==aa .free&&cellIn sc x&&sd scope b)=ae/\mj scope sc ρ r
set_option tactic.hygienic true in
theorem mj.at:∀{bE:ay},mj scope sc ρ bE->∀x b,bE.lookup x=aa b->ρ.lookup x=aa b/\scope.names.lookup x=aa .free/\cellIn sc x=ae/\sd scope b=ae
 |[],_,x,b,h=>by simp at h
 |(y,c)::r,V,x,b,h=>by
  rw[j5] at h
  split at h
  ·rename_i e;obtain rfl:=aW h;subst e
   have:=V.2.1
   simp only[bB,beq_iff_eq] at this
   exact⟨V.1,this.1.1,this.1.2,this.2⟩
  ·exact mj.at V.2.2 x b h
theorem cellIn.spec(h:cellIn sc x=ae):sc.names.lookup x=aa .cell\/sc.names.lookup x=aa .free:=by simpa[cellIn] using h
theorem fF.cellOf(V:c8 w s g ab sc ρ)(Y:cellIn sc x=ae)(h:fF s g ab x v):∃c,ab.cells.lookup x=aa c/\s.heap.IsCell c (aa v):=by
 rcases h with ⟨W,_⟩|⟨_,c,Z,_,H⟩
 ·exfalso
  have:=V.ks x
  rw[W] at this
  rcases cellIn.spec Y with e|e<;>rw[e] at this<;>rcases this with q|q<;>simp at q
 ·exact⟨c,Z,H⟩
theorem cU.ab4{V:Env}{br:List (Str×ag)}{ad:List ag}{b:Bd}(Z:xI scope ab.cells br)(H:sd scope b=ae)(h:cU w s g ab v ad b)(he:∀y c,br.lookup y=aa c->V.cells.lookup y=aa c):cU w s g V v [] b:=by
 induction b with
 |dat d=>exact⟨h.1,rfl⟩
 |lam nm params body sc2=>
  obtain⟨f,q,Y,doc,pm,ct,cv,h2,h3,h4,G,h6⟩:=h
  refine⟨f,q,Y,doc,pm,ct,cv,h2,h3,h4,⟨λx c hx=>?_,G.2⟩,rfl⟩
  refine(G.1 x c hx).elim λe1 C=>?_
  refine⟨?_,C⟩
  have:=ee.mp H _ (ez C)
  simp at this
  obtain⟨c',W⟩:=Z.2 x this
  have B:=(Z.1 x c' W).1
  rw[e1] at B;obtain rfl:=aW B
  exact he x _ W
 |_=>exact ft H
theorem sd.nf{b:Bd}(h:sd scope b=ae):b.isFn=aI:=by induction b<;>first|rfl|exact ft h
theorem dQ.cap{br:List (Str×ag)}(V:c8 w s g ab sc ρ)(Y:xI scope ab.cells br)(h:mj scope sc ρ bE):dQ w s g [] scope br bE (λ_=>[]):=by
 refine⟨λx c e=>V.cP x c (Y.1 x c e).1,λx y c f e2=>V.ff x y c (Y.1 x c f).1 (Y.1 y c e2).1,Y.2,λx c e=>(Y.1 x c e).2,λx b e=>?_,λx b e a Z=>by simp at Z,λx y b b' _ _ _ a Z=>by simp at Z⟩
 have h1:=(h.at x b e).1;have h2:=(h.at x b e).2.1;have h3:=(h.at x b e).2.2.1;have G:=(h.at x b e).2.2.2
 refine ba λH=>?_
 obtain⟨v,ad,q1,q2⟩:=V.var x b h1
 apply H
 refine ba λH=>?_
 obtain⟨c,c1,c2⟩:=q1.cellOf V h3
 obtain⟨c',W⟩:=Y.2 x h2
 apply H
 have C:=(Y.1 x c' W).1
 rw[c1] at C;obtain rfl:=aW C
 exact⟨c,v,W,c2,sd.nf G,λB he=>q2.ab4 Y G he⟩
theorem Jt{M:n_}{f:ag}(e:h.get? f=aa (l8 fd)):∃k,(k=jC\/k=jA\/k=jx)/\jL M h (keeperOf (.ref f)) k:=⟨.frame,.inl rfl,(Uc (part:=ak) e).andThen .now⟩
theorem aj.BO{args:List au}(hx:ρ.lookup x=aa (.lam nm params (gP body) scope))(G:ce x=ae)(ha:args.all cu=ae)(C:mj scope sc ρ bE)(hm:m+2<=n)
 (hb:∀q br doc pm ct cv (s:av) vs,vs.length=aH.length->fP s (jM nm q params (gP body) scope br doc pm ct cv) ⟨vs,[]⟩ (aH.zip vs))(D5:g4 aH scope bE=ae)(nj:(d4 scope).isNone=ae)
 (h:cn n sc ρ args λds=>aH.length=ds.length/\aL m scope (bindR aH (ds.map Bd.dat)++bE) body (fK k)):aj n sc ρ (bU (aS x np) args [] aM) k:=.mk λw A ab s g S R V E=>by
 refine ba λN_=>?_
 obtain⟨v,ad,h1,f,q,br,doc,pm,ct,cv,rfl,h3,h4,h5,h6⟩:=V.var x _ hx
 apply N_
 refine lM (eN (dZ V.kind h1 G ?_) (d3 G))
 refine j6 (P:=λhp=>∃k,(k=jC\/k=jA\/k=jx)/\jL (model PG w) hp (keeperOf (.ref f)) k) (by rw[(cE ha).2];rfl) (λ_ q=>q) ?_
 refine fj (cE ha).1 rfl (bg (cn.ok ha h w A ab s g aM S R V E) (λvs aA ⟨aN,ds,Y,W,Z,hl,B⟩=>?_))
 refine fz ⟨Jt (W.sub _ _ (Y.gg _ _ h3)),?_⟩
 refine lU (mO (w0 (n:=m) W (R.le hm) (cW.dat Z) (W.sub _ _ (Y.gg _ _ h3)) rfl (Y.code S h4 (by simp)) (dQ.cap (V.step Y S) h5 C) (.inr λ_ _ q=>by simp at q) (hb _ _ _ _ _ _ aA vs (by simp only[Z.1,hl])) (by simpa using hl) (λc q e=>by rw[vC.mp nj] at e;exact ns e) D5 B E) λr s' hr=>?_)
 refine nS r hr (λv q_=>?_) λ_ h=>h
 refine ba λN_=>?_
 obtain⟨u9,g',aC,d,dW,H,R',hk⟩:=q_
 apply N_
 exact⟨g',d,Y.trans H.nx,H.st,R',hk⟩
theorem cW.LV{ds:List D}(M:dq w s g mu)(r:aP w g vs ds):cW w s g mu vs (ds.map Bd.dat) (λ_=>[]):=
 ⟨(cW.dat (s:=s) r).len,(cW.dat (s:=s) r).rep,λ_ _ _ a h=>by simp at h,(cW.dat (s:=s) r).e7,M⟩
set_option tactic.hygienic true in
theorem aO.AH{args:List au}{k:Fl->ay->Prop}(hx:ρ.lookup x=aa (.lam nm params (gP body) scope))(hA:ce x=ae)(hy:ρ.lookup y=aa (.own a l))(D6:(scope.names.lookup y==aa .free&&cellIn sc y)=ae)
 (ha:args.all cu=ae)(ada:mj scope sc ρ bE)(hm:m+2<=n)(hH:∀ab,iy (bU (aS x np) args [] eY) aU aM.line ab=pure aI)
 (Z:∀q br doc pm ct cv (s:av) vs,vs.length=aH.length->fP s (jM nm q params (gP body) scope br doc pm ct cv) ⟨vs,[]⟩ (aH.zip vs))(D5:g4 aH scope ((y,.own a l)::bE)=ae)(nj:(d4 scope).isNone=ae)
 (h:cn n sc ρ args λds=>aH.length=ds.length/\∃l',aL m scope (bindR aH (ds.map Bd.dat)++(y,.own a l)::bE) body (ls λ_ aC=>aC.lookup y=aa (.own a l'))/\k .next ((y,.own a l')::ρ)):aO n sc ρ (.Expr (bU (aS x np) args [] eY) aM) k:=.mk λw A ab mu aw aE s g aB H R E=>by
 refine qS ?_ (by dsimp only[rf];rw[H.kind];rfl) (hH ab)
 obtain⟨v,h1,f,q,br,doc,pm,ct,cv,rfl,h3,h4,h5,h6⟩:=H.var x _ hx
 refine lM (eN (dZ H.kind h1 hA ?_) (d3 hA))
 refine j6 (P:=λhp=>∃k,(k=jC\/k=jA\/k=jx)/\jL (model PG w) hp (keeperOf (.ref f)) k) (by rw[(cE ha).2];rfl) (λ_ q=>q) ?_
 refine fj (cE ha).1 rfl (bg (cn.ok ha h w A ab s g eY H.st R H.cI E) (λvs aA ⟨aN,ds,V,Y,ml,hl,l',iX,hk⟩=>?_))
 refine fz ⟨Jt (Y.sub _ _ (V.gg _ _ h3)),?_⟩
 have H1:=H.step V Y
 refine ba λG=>?_
 obtain⟨u,u1,af,rfl,u3,u4,u5,u6⟩:=H1.var y _ hy
 apply G
 have am:a∈aB y:=by rw[u6];simp
 have M:dq w aA aN [a]:=λb Z=>by
  have:b=a:=a_.1 Z
  subst this
  exact H1.rebase.1.fw b (tV hy rfl am)
 rw[bB,beq_iff_eq] at D6
 have C0:dQ w aA aN [] scope br bE (λ_=>[]):=dQ.cap H1.cI h5 ada
 have C:dQ w aA aN [a] scope br ((y,.own a l)::bE) (λz=>if z=y then [a] else []):=by
  refine⟨C0.cP,C0.ff,C0.e6,C0.free,λz b e=>?_,λz b e b' sU=>?_,λz z' b b' _ _ e8 c hc W=>?_⟩
  ·replace e:=j5▸e
   split at e
   ·rename_i e';obtain rfl:=aW e;subst e'
    refine ba λG=>?_
    obtain⟨c,c1,c2⟩:=u1.cellOf H1.cI D6.2
    obtain⟨c',W⟩:=h5.2 z D6.1
    apply G
    have e3:=(h5.1 z c' W).1
    rw[c1] at e3;obtain rfl:=aW e3
    exact⟨c,_,W,c2,rfl,λ_ _=>⟨af,rfl,u3,u4,u5,by simp⟩⟩
   ·rename_i e'
    refine ba λG=>?_
    obtain⟨c,v,q1,q2,q3,q4⟩:=C0.var z b e
    apply G
    exact⟨c,v,q1,q2,q3,λab he=>by simpa[be e'] using q4 ab he⟩
  ·split at sU
   ·have:b'=a:=a_.1 sU
    subst this
    exact⟨bi,λy' c hc=>((H1.dH y _ hy b' am).2.2 y' c (h5.1 y' c hc).1)⟩
   ·simp at sU
  ·split at hc
   ·split at W
    ·rename_i e1 e2;exact e8 (e1.trans e2.symm)
    ·simp at W
   ·simp at hc
 refine lU (mO (w0 (n:=m) Y (R.le hm) (cW.LV M ml) (Y.sub _ _ (V.gg _ _ h3)) rfl (V.code H.st h4 (by simp)) C (.inr λ_ _ q=>by simp at q) (Z _ _ _ _ _ _ aA vs (by simp only[ml.1,hl])) (by simpa using hl) (λc q e=>by rw[vC.mp nj] at e;exact ns e) D5 iX E) λr s' hr=>?_)
 refine nS r hr (λv q_=>?_) λ_ h=>h
 refine ba λG=>?_
 obtain⟨u9,g',aC,d,dW,H2,R',jU⟩:=q_
 apply G
 refine ba λG=>?_
 obtain⟨u',_,B,rfl,w3,w4,w5,w6⟩:=H2.var y _ jU
 obtain⟨nn,en⟩:=u4
 apply G
 refine⟨g',_,.next,_,H1.change (mt:=[a]) (il:=[a]) hy rfl rfl H2.nx H2.st (λb Z=>by rw[u6];exact Z) (λb Z o e=>?_) (λv' _ r=>?_) (λb Z=>.inl (by rw[u6];exact Z)),trivial,hk⟩
 ·have:b=a:=a_.1 Z
  subst this;rw[en] at e;obtain rfl:=aW e;exact cV.of λvs q=>by cases q
 ·obtain⟨KP,rfl,_⟩:=r
  exact⟨B,rfl,w3,w4,w5,rfl⟩
end
theorem fitsIdx(h:j<=100000):vA (j:Int)=ae:=fitsIndex_of (dA _) (jw (b:=100000) (fW.mpr h) (by decide))
theorem QO{l:ag}{k:Int}{t:Tok}{Q:Unit->av->Prop}(hl:s.heap.PlainList l af)
 (H:0<=k)(V:vA k=ae)(B:k<af.size)
 (G:∀h',h'.PlainList l (af.setIfInBounds k.toNat v)->kG l s.heap h'->Q () {s with heap:=h'}):wpAny (model fR w) A (setItem (.ref l) (.int k t) v) Q E s:=by
 refine hl.elim λn Y=>?_
 have W:s.TypeIs (.ref l) "list":=⟨_,Y,rfl⟩
 unfold setItem
 try with_reducible refine eH ?_
 first|refine aJ (a8 ?_)|skip
 refine aJ (Pm W (rfl) ?_)
 refine aJ (qw (name:=a6 "__setitem__") W zI
  (jZ zI W O6 ?_ (Pn _ _ _)))
 show wpAny _ _ (zb (.int k t)>>=_) _ _ s
 refine aJ (wpAny_listSubscript_int V ?_)
 clear V
 obtain⟨j,rfl⟩:=zh H
 have C:j<af.size:=by exact a_pos (by assumption) (by assumption)
 have Z:af[j]?=aa af[j]:=nq C
 refine aJ (aJ (wpAny_seqItemAt Y rfl (a8 ?_)))
 refine Z▸?_
 refine aJ (wpAny_setSeqItemAt Y rfl ?_)
 have dk:=G _ ⟨_,wM (n:=n) Y (·.setIfInBounds j v)⟩ (gE ..)
 first
  |exact fY (a8 ⟨.none,rfl,a8 dk⟩)
  |exact a8 ⟨.none,rfl,a8 dk⟩
section
variable {n:Nat} {sc:bf} {ρ:ay}
theorem aP.set{ds:List D}(h:aP w g vs ds)(W:Rep w g v d)(j:Nat):aP w g (vs.set j v) (ds.set j d):=by
 refine⟨by simp[h.1],λi u e V Y=>?_⟩
 rw[List.getElem?_set] at V Y
 by_cases hi:j=i
 ·subst hi
  by_cases hl:j<vs.length
  ·simp[hl] at V;simp[(h.1▸hl:j<ds.length)] at Y;subst V Y;exact W
  ·simp[hl] at V
 ·simp[hi] at V Y;exact h.2 i u e V Y
set_option tactic.hygienic true in
theorem aP.eraseIdx{ds:List D}(h:aP w g vs ds)(j:Nat):aP w g (vs.eraseIdx j) (ds.eraseIdx j):=by
 refine⟨by simp[Ow,h.1],λi u e Y V=>?_⟩
 rw[List.getElem?_eraseIdx] at Y V
 split at Y
 ·rename_i hi;rw[bo hi] at V;exact h.2 _ _ _ Y V
 ·rename_i hi;rw[be hi] at V;exact h.2 _ _ _ Y V
set_option tactic.hygienic true in
theorem aP.take{ds:List D}(h:aP w g vs ds)(j:Nat):aP w g (vs.take j) (ds.take j):=by
 refine⟨by simp[h.1],λi u e V Y=>?_⟩
 rw[EV] at V Y
 split at V
 ·rename_i hi;rw[bo hi] at Y;exact h.2 _ _ _ V Y
 ·exact ns V
theorem aP.drop{ds:List D}(h:aP w g vs ds)(j:Nat):aP w g (vs.drop j) (ds.drop j):=by
 refine⟨by simp[h.1],λi u e V Y=>?_⟩
 rw[zA] at V Y
 exact h.2 _ _ _ V Y
theorem aP.reverse{ds:List D}(h:aP w g vs ds):aP w g vs.reverse ds.reverse:=by
 refine⟨by simp[h.1],λi u e V Y=>?_⟩
 have hi:i<vs.length:=by have:=(ey.mp V).1;simpa using this
 rw[o0 hi] at V
 rw[o0 (h.1▸hi),<-h.1] at Y
 exact h.2 _ _ _ V Y
set_option tactic.hygienic true in
theorem aO.X4{i:au}{k:Fl->ay->Prop}(hy:ρ.lookup y=aa (.own a l))(G:ce y=ae)(hl:l.length<=100000)(hs:∀ab,iy cX (aa (dM (aS y p) i oO)) aM.line ab=pure aI)
 (h:aj n sc ρ cX λd=>aj n sc ρ i λdi=>∃j:Nat,di=.int j/\j<l.length/\k .next ((y,.own a (l.set j d))::ρ)):aO n sc ρ (e_ [dM (aS y p) i oO] cX aM) k:=.mk λw A ab mu aw aE s g aB H R E=>by
 refine zi (h.wp H.st R H.cI λv aA aN d C Y B f=>?_) (hs ab)
 have H1:=H.step C Y
 refine ba λN_=>?_
 obtain⟨u,u1,af,rfl,u3,u4,u5,u6⟩:=H1.var y _ hy
 apply N_
 refine eN (dZ H1.kind u1 G ?_) (d3 G)
 refine f.wp Y R H1.cI λiv aT bb di V Z p_ q_=>q_.elim λj q_=>q_.elim λD7 q_=>q_.elim λhj hk=>?_
 subst D7
 refine p_.b9 λt=>?_
 refine ba λN_=>?_
 obtain⟨_,_,W,e2,i3,i4,i5,i6⟩:=(H1.step V Z).var y _ hy
 have hs:W.size=l.length:=by have:=i5.1;exact this
 refine(V.plain Y u4 (ca)).elim λn1 q1=>?_
 obtain⟨n2,q2⟩:=id i4
 apply N_
 rename_i hyy _ _
 have hss:af.size=l.length:=by have:=u5.1;exact this
 refine QO (⟨n1,q1⟩:aT.heap.PlainList a af) (dA _) (fitsIdx (bd (cg hj hl))) (by omega) λh' q3 q4=>?_
 obtain⟨dW,H3⟩:=(H1.step V Z).own (tk:=aT.toks) (l':=l.set j d) hy q4 q3 (by
  have:=(u5.mono V.gg).set (B.mono V.gg) j
  simpa using this)
 exact⟨bb,_,.next,dW,H3,trivial,hk⟩
set_option tactic.hygienic true in
theorem aO.Kg{i:au}{k:Fl->ay->Prop}(hy:ρ.lookup y=aa (.own a l))(Z:ce y=ae)(hl:l.length<=100000)
 (h:aj n sc ρ i λdi=>∃(x:Int) (j:Nat),di=.int x/\vA x=ae/\lj x l.length=aa j/\k .next ((y,.own a (l.eraseIdx j))::ρ)):aO n sc ρ (.Delete [dM (aS y p) i oO] aM) k:=.mk λw A ab mu aw aE s g aB H R E=>by
 refine wpAny_Delete (Oe (N2 ?_))
 refine ba λN_=>?_
 obtain⟨u,u1,af,rfl,u3,u4,f,u6⟩:=H.var y _ hy
 apply N_
 refine eN (dZ H.kind u1 Z ?_) (d3 Z)
 refine h.wp H.st R H.cI λiv aT bb di V G C Y=>Y.elim λx Y=>Y.elim λj Y=>Y.elim λD7 Y=>Y.elim λhf Y=>Y.elim λhj hk=>?_
 subst D7
 refine C.b9 λt=>?_
 have W:af.size=l.length:=by have:=f.1;exact this
 refine wpAny_delItem_plain (V.plain H.st u4 (ca)) hf (by exact W▸hj) (λh' q3 q4=>Ox ?_) (by rw[W];have:sizeLine=2^24:=rfl;exact bd (aV hl (by decide)))
 obtain⟨B,H3⟩:=(H.step V G).own (tk:=aT.toks) (l':=l.eraseIdx j) hy q4 q3 (by
  have:=(f.mono V.gg).eraseIdx j
  simp only[Array.eraseIdxIfInBounds]
  split
  ·simpa using this
  ·rename_i hn
   have:l.eraseIdx j=l:=List.eraseIdx_of_length_le (aD (bn W.symm) (de.mp hn))
   simp only[this];exact f.mono V.gg)
 exact⟨bb,_,.next,B,H3,trivial,hk⟩
theorem aO.X5{i:Int}{k:Fl->ay->Prop}(hx:ρ.lookup x=aa (.dat (.int i)))(f:ce x=ae)(hm:mine sc x=ae)
 (h:aj n sc ρ e λd=>∃j:Int,d=.int j/\k .next ((x,.dat (.int (i+j)))::ρ)):aO n sc ρ (.AugAssign (aS x p) .Add e aM) k:=.mk λw A ab mu aw aE s g aB H R E=>by
 refine ba λN_=>?_
 obtain⟨v,u1,u2,_⟩:=H.var x _ hx
 obtain⟨t,rfl⟩:=u2.int_inv
 apply N_
 refine EH (dZ H.kind u1 f ?_)
 refine h.wp H.st R H.cI λv aA aN d W Y Z q_=>q_.elim λj q_=>q_.elim λhd hk=>?_
 subst hd
 refine Z.b9 λt'=>?_
 refine P.iadd_int ?_
 refine(Y.ext' (h':=aA.heap) (tk:=aA.toks+1) λ_ _ e=>e).elim λG C=>?_
 exact((H.step W Y).step G C).uo hm (.int _ _) (λaT V _ B=>⟨aN,_,.next,V,B,trivial,hk⟩) E
theorem aO.X6{i:Int}{k:Fl->ay->Prop}(hx:ρ.lookup x=aa (.dat (.int i)))(f:ce x=ae)(hm:mine sc x=ae)
 (h:aj n sc ρ e λd=>∃j:Int,d=.int j/\k .next ((x,.dat (.int (i-j)))::ρ)):aO n sc ρ (.AugAssign (aS x p) .Sub e aM) k:=.mk λw A ab mu aw aE s g aB H R E=>by
 obtain⟨v,u1,u2,_⟩:=H.var x _ hx
 refine ba λN_=>?_
 obtain⟨t,rfl⟩:=u2.int_inv
 apply N_
 refine EH (dZ H.kind u1 f ?_)
 refine h.wp H.st R H.cI λv aA aN d W Y Z q_=>q_.elim λj q_=>q_.elim λhd hk=>?_
 subst hd
 refine Z.b9 λt'=>?_
 refine P.isub_int ?_
 refine(Y.ext' (h':=aA.heap) (tk:=aA.toks+1) λ_ _ e=>e).elim λG C=>?_
 exact((H.step W Y).step G C).uo hm (.int _ _) (λaT V _ B=>⟨aN,_,.next,V,B,trivial,hk⟩) E
theorem kN.insert(Z:j<=l.length)(hl:l.length<=100000):kN n "list.insert" l [.int j,d] (l.take j++d::l.drop j):=.mk λw A s g a af vs S R H hr G hg Q E C=>by
 obtain⟨v,u,rfl,B,f⟩:=G.two
 refine B.b9 λt=>?_
 refine H.elim λY V=>?_
 have hs:af.size=l.length:=by have:=hr.1;exact this
 have hz:af.size<=sizeLine:=by rw[hs];have:sizeLine=2^24:=rfl;exact bd (aV hl (by decide))
 have W:¬(!vA (j:Int))=ae:=by rw[fitsIdx (aD Z hl)];decide
 have e:(if (j:Int)<0 then ((j:Int)+((af.size:Nat):Int)).toNat else min (j:Int).toNat af.size)=j:=by
  rw[be (dU.mpr (dA _))];simp;exact abe (by assumption) (by assumption)
 generalize (j:Int)=x at W e
 refine pv F.slot_list_insert ⟨_,V,rfl⟩ F.entry_list_insert (F.args_list_insert_3 _ _ _) (AutoListH.list_insert_list_int_val_1 a af Y x t u W hz) ⟨V,?_⟩
 refine C _ s.toks _ (gE ..) ⟨_,wM (n:=Y) V _⟩ ?_
 rw[e]
 have e2:((af.extract 0 j).push u++af.extract j).toList=af.toList.take j++u::af.toList.drop j:=by
  simp
  rw[k9]
  simp
 exact e2▸((hr.take j).append (aP.cons f (hr.drop j)))
theorem kN.reverse(hl:l.length<=100000):kN n "list.reverse" l [] l.reverse:=.mk λw A s g a af vs S R W hr Z C Q E H=>by
 have:vs=[]:=lI.mp Z.1
 subst this
 obtain⟨Y,V⟩:=W
 have hs:af.size=l.length:=by have:=hr.1;exact this
 have G:af.size<=sizeLine:=by rw[hs];have:sizeLine=2^24:=rfl;exact bd (aV hl (by decide))
 refine pv F.slot_list_reverse ⟨_,V,rfl⟩ F.entry_list_reverse (F.args_list_reverse_1 _) (AutoListH.list_reverse_list_0 a af Y G) ⟨V,?_⟩
 refine H _ s.toks _ (gE ..) ⟨_,wM (n:=Y) V _⟩ ?_
 simpa using hr.reverse
theorem cO.insert:cO "list" "insert" "list.insert":=⟨F.plainAttrs_list,F.slot_list_insert,F.type_list_insert⟩
theorem cO.reverse:cO "list" "reverse" "list.reverse":=⟨F.plainAttrs_list,F.slot_list_reverse,F.type_list_reverse⟩
end
theorem QP{l b:ag}{V:Array ai}{n2:Nat}
 (hl:s.heap.get? l=aa {cls:=aK "list",data:=.seq af n})(H:s.heap.get? b=aa {cls:=aK "list",data:=.seq V n2})(Y:af.size+V.size<=100000)
 (h:Q (.ref l) {s with heap:=s.heap.update l (ja λx=>x++V)}):wpAny (model fR w) A (inplaceOp .Add (.ref l) (.ref b)) Q E s:=by
 have W:s.TypeIs (.ref l) "list":=⟨_,hl,rfl⟩
 have z:sizeLine=2^24:=rfl
 dsimp only[inplaceOp]
 refine eH ?_
 have Z:fillsInplaceSlot (aK "list") "add" (Operator.Add==.Add)=pure aI:=by
  show (mP (aK "list") (dunderI "add")>>=λG=>pure (G.isSome&&!HA G))=pure aI
  rw[F.slot_list_iadd.lookup]
  show (pure (ae&&!HA (aa (.builtin "list.__iadd__"))):Sem Bool)=pure aI
  rw[show HA (aa (.builtin "list.__iadd__"))=ae by decide+kernel];rfl
 refine pB W (rP Z ?_)
 refine aJ (wpAny_binaryOp1_none (nm:="add") W (⟨_,H,rfl⟩:s.TypeIs (.ref b) "list") noFill_list_add ?_)
 refine rP (PySem.seqSlot_of F.slot_list_iadd.lookup (by decide+kernel):seqSlot? (aK "list") (dunderI "add")=pure (aa (.builtin "list.__iadd__"))) ?_
 refine ka ?_
 exact(pv F.slot_list_iadd W F.entry_list_iadd (F.args_list_iadd_2 _ _) (AutoSeq1.list___iadd___list_list_0 l af n b V n2 (by simp[zc,sizeLine];omega) (z▸(bd (aV (aD (cy _ _) Y) (by simp)))) (by exact z▸(bd (aV Y (by simp))))) ⟨hl,H,h⟩)
section
variable {n:Nat} {sc:bf} {ρ:ay}
set_option tactic.hygienic true in
theorem bj.restore{aB:Str->List ag}(H:bj w mu aw aE s g ab sc ρ aB)(Y:ρ.lookup x=aa (.own a l))(B:mine sc x=ae)
 {Q:Unit->av->Prop}(f:∀s' V,bj w mu aw aE s' g ab sc ρ V->Q () s')(E:ai->av->Prop):wpAny (model PG w) A' (rt ab x (.ref a)) Q E s:=by
 obtain⟨v,h1,af,rfl,h3,h4,h5,h6⟩:=H.var x _ Y
 have G:a∈aB x:=by rw[h6];simp
 refine H.store (n:=0) (b:=.own a l) (ad:=[a]) B ⟨af,rfl,h3,h4,h5,rfl⟩ (λb hb=>?_) (λs' _ H'=>f s' _ (H'.weaken λy c C=>?_)) E
 ·have:b=a:=a_.1 hb
  subst this
  refine(H.dH x _ Y b G).elim λW q3=>W.elim λq1 q2=>?_
  exact⟨⟨q1,q2⟩,q3,λy b' hy _ Z q=>H.e7 x y _ _ Y hy rfl (Ne.symm Z) b G q⟩
 ·refine j5.trans ?_
  split
  ·rename_i e;subst e;exact(Y.symm.trans C)
  ·exact C
theorem aO.V'{k:Fl->ay->Prop}(f:ρ.lookup x=aa (.own a l))(B:ce x=ae)(hm:mine sc x=ae)
 (h:aj n sc ρ e λd=>∃l',d=.lst l'/\l.length+l'.length<=100000/\k .next ((x,.own a (l++l'))::ρ)):aO n sc ρ (.AugAssign (aS x p) .Add e aM) k:=.mk λw A ab mu aw aE s g aB H R E=>by
 refine ba λN_=>?_
 obtain⟨v,u1,af,rfl,u3,u4,u5,u6⟩:=H.var x _ f
 apply N_
 refine EH (dZ H.kind u1 B ?_)
 refine h.wp H.st R H.cI λv aA aN d V W Z G=>G.elim λl' G=>G.elim λhd G=>G.elim λjr hk=>?_
 subst hd
 refine Z.j9 λb nb ib hb rb=>?_
 refine(V.plain H.st u4 (ca)).elim λna ha=>?_
 have s1:af.size=l.length:=by have:=u5.1;exact this
 have s2:ib.size=l'.length:=by have:=rb.1;exact this
 refine QP ha (W.sub _ _ hb) (by exact LG (by assumption) (by assumption) (by assumption)) ?_
 obtain⟨dW,H3⟩:=(H.step V W).own (tk:=aA.toks) (l':=l++l') f (gE ..) ⟨_,wM (n:=na) ha (λx=>x++ib)⟩ (by
  rw[zr];exact(u5.mono V.gg).append rb)
 exact H3.restore (lookup_cons_self) hm (λaT Y C=>⟨aN,_,.next,Y,C,trivial,hk⟩) E
theorem St.big(S:St w s g):s.heap.objs.size≠iu:=λe=>by
 obtain⟨Y,V⟩:=S.gx
 have:=V.lt
 exact aZ (e▸this) (by decide)
theorem ur{k:Bd->Prop}(N:Nx [] s g aA aN)(V:St w aA aN)(r:aP w aN af.toList l)(W:∀a,k (.own a l)):
 C6 w s g ab k (.ref aA.heap.objs.size) {aA with heap:=aA.heap.push {cls:=aK "list",data:=.seq af},toks:=tk}:=by
 refine(V.ext' (h':=aA.heap.push {cls:=aK "list",data:=.seq af}) (tk:=tk) λb o e=>bZ _ e).elim λZ H=>?_
 have Y:=hY V (a:=aA.heap.objs.size) (bv _)
 refine⟨aN,.own aA.heap.objs.size l,[aA.heap.objs.size],N.trans Z,H,⟨af,rfl,Y.2,⟨0,cB _ rfl⟩,r,rfl⟩,rfl,λa G=>?_,W _⟩
 have:a=aA.heap.objs.size:=a_.1 G
 subst this
 induction q:s.heap.get? aA.heap.objs.size with
 |none=>rfl
 |some o=>obtain⟨B,C⟩:=N.there _ _ q (ca);exact ns (Y.1.symm.trans C)
theorem cK.lst{l:List au}{k:Bd->Prop}(C:l.all cu=ae)(hl:l.length<=1000)(h:cn n sc ρ l λds=>∀a,k (.own a ds)):cK n sc ρ (.List l aM) k:=.mk λw A ab s g S R V E=>by
 refine O0 (bg (cn.ok C h.len w A ab s g aM S R V E) (λvs aA ⟨aN,ds,W,Z,Y,H,G⟩=>⟨?_,?_⟩))
 ·rw[Y.1,H];have:sizeLine=2^24:=rfl;exact bd (aV hl (by decide))
 ·exact ur (tk:=aA.toks) W Z (by exact Y) G
theorem cK.repl{l r:au}{k:Bd->Prop}(h:aj n sc ρ l λd=>∃ds,d=.lst ds/\aj n sc ρ r λd'=>∃j:Int,d'=.int j/\j<2^63∧-(2^63:Int)<=j/\ds.length*j.toNat<=2^24/\∀a,k (.own a (gJ j.toNat ds).flatten)):cK n sc ρ (.BinOp l .Mult r aM) k:=.mk λw A ab s g S R V E=>by
 refine wpAny_BinOp (h.wp S R V λv aA aN d Y H G f=>f.elim λds f=>f.elim λhd C=>?_)
 subst hd
 refine C.wp H R (V.step Y S) λu aT bb d' W Z B ⟨j,hj,j1,j2,j3,hk⟩=>?_
 subst hj
 refine(G.mono W.gg).j9 λa n1 i1 e1 r1=>?_
 refine B.b9 λt=>?_
 have hs:i1.size=ds.length:=by have:=r1.1;exact this
 refine GB (Z.sub _ _ e1) j2 j1 (by exact hs▸j3) (ur (tk:=aT.toks) (Y.trans W) Z ?_ hk)
 rw[FM]
 by_cases h0:i1.isEmpty=ae
 ·rw[bo h0]
  have:i1.toList=[]:=by simpa using h0
  have hl0:ds=[]:=by exact lI.mp (this▸r1).1.symm
  subst hl0
  have:(gJ j.toNat ([]:List D)).flatten=[]:=by simp
  simp only[this];exact aP.nil
 ·rw[be h0];exact r1.replicate _
theorem cK.C8{k:Bd->Prop}{R:a9->av->aY->ai->List ag->Prop}(W:p0 R)(Z:∀w s g a,g a=ak->a≠iu->s.heap.get? a=aa {cls:=aK "dict",data:=.dict #[]}->R w s g (.ref a) [a])(h:k (.obj R)):cK n sc ρ (.Dict [] [] aM) k:=.mk λw A ab s g S Rm V E=>by
 refine(S.ext' (h':=s.heap.push {cls:=aK "dict",data:=.dict #[]}) (tk:=s.toks) λb o e=>bZ _ e).elim λH G=>?_
 have Y:=hY S (a:=s.heap.objs.size) (bv _)
 exact wpAny_Dict_empty ⟨g,.obj R,[s.heap.objs.size],H,G,⟨Z w _ g _ Y.2 S.big (cB _ rfl),W⟩,rfl,λa C=>a_.mp C▸Y.1,h⟩
theorem aP.numbered:∀(tk:Nat) (xs:List Str),aP w g (strsFrom tk xs) (xs.map D.str):=by
 intro tk Y
 induction Y generalizing tk with
 |nil=>
  exact aP.nil
 |cons x r V=>
  exact aP.cons (.str _ _) (V (tk+1))
theorem cK.split{o:au}{k:Bd->Prop}(hb:∀ab,mN o "split" ab (eval o ab)=eval o ab)(hl:(eQ.endLine==aM.line)=ae)(he:cu e=ae)
 (h:aj n sc ρ o λd=>∃x:Str,d=.str x/\aj n sc ρ e λZ=>∃y:Str,Z=.str y/\(y.length==0)=aI/\x.length<=10000/\(vE x (kr x y 0 x.length (x.length+1)) y.length).length<=sizeLine/\∀a,k (.own a ((px x y).map D.str))):
 cK n sc ρ (bU (cC o "split" eQ) [e] [] aM) k:=.mk λw A ab s g S R V E=>by
 have ha:[e].all cu=ae:=by simp[he]
 refine nr (hb ab) ?_ hl rfl (h.wp S R V λv aA aN d W H G q_=>q_.elim λx q_=>q_.elim λhd C=>?_)
 ·rw[(cE ha).1]
  rfl
 subst hd
 refine G.dB λt=>?_
 refine⟨"str","str.split",F.plainAttrs_str,F.slot_str_split,F.type_str_split,nM _ _ _,λb e=>(nomatch e),?_⟩
 refine nG (cE ha).2 (fj (cE ha).1 rfl (bg (cn.ok (k:=λds=>∃Z,ds=[Z]/\∃y:Str,Z=.str y/\(y.length==0)=aI/\x.length<=10000/\(vE x (kr x y 0 x.length (x.length+1)) y.length).length<=sizeLine/\∀a,k (.own a ((px x y).map D.str))) ha (hZ (C.mono λZ q=>fQ ⟨Z,rfl,q⟩)) w A ab aA aN aM H R (V.step W S) E) (λvs aT ⟨bb,ds,B,Y,f,Z,qo,y,qm,q1,q2,q3,q4⟩=>?_)))
 subst qo;subst qm
 obtain⟨u,rfl,hu⟩:=f.one
 refine hu.dB λt'=>?_
 refine fz ?_
 have N:=W.trans B
 cases c1:(decide (x.length<y.length)||decide (vT x<vT y))
 ·cases c2:(kr x y 0 x.length (x.length+1)).isEmpty
  ·refine pv F.slot_str_split (nM _ _ _) F.entry_str_split (F.args_str_split_2 _ _) (meets_str_split_sep x y t t' c1 q1 c2 (bd (aV q2 (by decide))) q3) ?_
   have e:px x y=vE x (kr x y 0 x.length (x.length+1)) y.length:=(be (ne_true_of_eq_false c1)).trans (be (ne_true_of_eq_false c2))
   exact ur N Y (by exact aP.numbered _ _) (e▸q4)
  ·refine pv F.slot_str_split (nM _ _ _) F.entry_str_split (F.args_str_split_2 _ _) (meets_str_split_not_found x y t t' c1 q1 c2) ?_
   have e:px x y=[x]:=(be (ne_true_of_eq_false c1)).trans (bo c2)
   rw[e] at q4
   exact ur (tk:=aT.toks) N Y (aP.cons (.str _ _) aP.nil) q4
 ·refine pv F.slot_str_split (nM _ _ _) F.entry_str_split (F.args_str_split_2 _ _) (meets_str_split_cannot_occur x y t t' c1) ?_
  have e:px x y=[x]:=bo c1
  rw[e] at q4
  exact ur (tk:=aT.toks) N Y (aP.cons (.str _ _) aP.nil) q4
theorem fN.reversed{t:au}{k:List D->Prop}(hl:l.length<=10000)(hk:k l.reverse):fN n (aK "reversed") [.lst l] t k:=.mk λw A s g vs S R r E=>by
 obtain⟨v,rfl,h1⟩:=r.one
 refine h1.j9 λa f V Y rl=>?_
 have sz:V.size=l.length:=by have:=rl.1;exact this
 have Z:a≠s.heap.objs.size:=λe=>by have:=S.sub _ _ Y;rw[e,lg] at this;exact ns this
 refine call_reversed_list (⟨_,S.sub _ _ Y,rfl,f,rfl⟩:s.heap.IsList a V) ?_
 have W:=Walks.listRev (prog:=PG) (w:=w) R.2.2 s.heap.objs.size a Z V
 obtain⟨N,S'⟩:=S.ext' (h':=s.heap.push (revObj a ((V.size:Int)-1))) (tk:=s.toks) λb o e=>bZ _ e
 have hI:(s.heap.push (revObj a ((V.size:Int)-1))).IsRevIter s.heap.objs.size a ((V.size:Int)-1):=⟨_,cB _ rfl,rfl,rfl⟩
 have H:(λ(i:Nat) (h:dp)=>i<=V.size/\h.IsRevIter s.heap.objs.size a ((V.size:Int)-1-(i:Int))/\h.IsList a V) 0 (s.heap.push (revObj a ((V.size:Int)-1))):=⟨ck _,by simpa using hI,⟨_,S'.sub _ _ Y,rfl,f,rfl⟩⟩
 rw[show V.size=l.reverse.length by simp only[i8];exact sz] at W H⊢
 refine W.self 0 _ _ E H ?_
 refine iR.one (qn:=[a]) S (nofun) rfl (dz.of W (λi v d hi hv=>?_) (λi h ⟨_,⟨o,G,hc,hd⟩,_⟩ b C=>?_) λi h ⟨_,⟨o,G,hc,hd⟩,_⟩=>⟨o,"list_reverseiterator",_,G,hc,hd,rfl⟩) H (λb C=>?_) (by rw[i8];exact hl) hk
 ·have B:=(ey.mp hi).1
  exact rl.2 _ v d (by simpa using(i8▸hv)) ((o0 (i8▸B)).symm.trans hi)
 ·have:b=s.heap.objs.size:=a_.1 C
  subst this
  exact⟨o,G,λvs q t e e'=>by replace e:=hd▸e;cases e;cases e'⟩
 ·have:b=a:=a_.1 C
  subst this;exact⟨_,Y⟩
end
section
variable {n m:Nat} {sc scope:bf} {ρ bE:ay}
theorem R2{f:ag}{q:Str}{br:List (Str×ag)}{ds:List D}
 (S:St w s g)(R:Rm (m+2) A)(r:aP w g vs ds)(G:s.heap.get? f=aa (l8 (jM nm q params (.expr e) scope br doc pm ct cv)))(W:s.heap.CodeRec cv q)(C:dQ w s g [] scope br bE jS)
 (B:fP s (jM nm q params (.expr e) scope br doc pm ct cv) ⟨vs,[]⟩ (aH.zip vs))(V:aH.length=ds.length)(Y:g4 aH scope bE=ae)(Z:(d4 scope).isNone=ae)
 (h:aj m scope (bindR aH (ds.map Bd.dat)++bE) e k)(E:ai->av->Prop):wpAny (model PG w) A (call (.ref f) vs) (Out w s g k) E s:=by
 simp only[g4,bB,decide_eq_true_eq,beq_iff_eq,nA,ee] at Y
 refine ba λN_=>?_
 obtain⟨⟨⟨⟨⟨⟨h1,h3⟩,h4⟩,h5⟩,h6⟩,h7⟩,h8⟩:=Y
 apply N_
 refine lU (kla_callFunE R.room G rfl h5 h4 rfl W (B _ _ _ _ ?_))
 refine Iz (aH:=aH) (vs:=vs) S (cW.dat (s:=s) r) C h7 h3 h1 (by simp only[V,r.1]) (λx hx hm=>by have:=h8 x hx;exact tf ((qz.mpr hm).symm.trans this)) h6 (.inr λ_ _ q=>by simp at q) (λc q e=>by have e:d4 scope=aa (c,q):=e;rw[vC.mp Z] at e;exact ns e) λab aA aB _ H=>?_
 refine⟨H.st.lim,kla_codeExpr ?_⟩
 exact Out.back H.nx (h.run w _ ab aA g H.st ((R.le (jD _)).deeper) H.cI _)
noncomputable def pJ(ρ:ay):Bool:=ρ.all λp=>match p.2 with
 |.dat _=>ae
 |_=>aI
theorem pJ.at(h:pJ ρ=ae){b:Bd}(e:ρ.lookup x=aa b):∃d,b=.dat d:=by
 have:=ee.mp h _ (ez e)
 induction b<;>first|exact⟨_,rfl⟩|simp at this
theorem dQ.ZI{br:List (Str×ag)}(C:dQ w s g [] scope br bE (λ_=>[]))(hd:pJ bE=ae)(S:St w s g)(N:Nx mu s g s' g')(W:∀x c,br.lookup x=aa c->c∉mu):dQ w s' g' [] scope br bE (λ_=>[]):=by
 refine⟨λx c h=>?_,C.ff,C.e6,C.free,λx b h=>?_,C.ME,C.e7⟩
 ·obtain⟨V,v,Y⟩:=C.cP x c h
  obtain⟨o,e,_⟩:=id Y
  exact⟨N.old _ _ e V (W x c h),v,N.cell S Y (W x c h)⟩
 ·refine ba λZ=>?_
  obtain⟨c,v,V,Y,h3,H⟩:=C.var x b h
  obtain⟨d,rfl⟩:=pJ.at hd h
  apply Z
  exact⟨c,v,V,N.cell S Y (W x c V),rfl,λab G=>⟨(H ab G).1.mono N.gg,rfl⟩⟩
noncomputable def x6(f c:ag)(br:List (Str×ag)):List ag:=f::c::((br.map (·.2)).filter λa=>br.any λp=>p.2==a&&br.lookup p.1==aa a)
theorem S3{f c b:ag}{br:List (Str×ag)}(h:b∈x6 f c br):b=f\/b=c\/∃x,br.lookup x=aa b:=by
 refine(bT.1 h).imp_right λh=>(bT.1 h).imp_right λh=>?_
 obtain⟨p,_,q⟩:=tg.1 (ef.1 h).2
 exact⟨p.1,eq_of_beq ((bB _ _).mp q).2⟩
theorem R3{f c:ag}{br:List (Str×ag)}(h:br.lookup x=aa a):a∈x6 f c br:=
 bM _ (bM _ (ef.mpr ⟨kC (f:=(·.2)) (ez h),tg.mpr ⟨(x,a),ez h,(bB _ _).mpr ⟨beq_self_eq_true _,beq_iff_eq.mpr h⟩⟩⟩))
structure x7(w:a9)(f:ag)(fo:Obj)(c:ai)(q:Str)(scope:bf)(br:List (Str×ag))(bE:ay)(s:av)(g:aY):Prop where
 off:g f=aa fo
 at_:s.heap.get? f=aa fo
 code:s.heap.CodeRec c q
 DI:dQ w s g [] scope br bE (λ_=>[])
theorem x7.foot{f c:ag}{q:Str}{br:List (Str×ag)}(L:x7 w f fo (.ref c) q scope br bE s g)(Y:fo.data=.func fd):∀b∈x6 f c br,∃o,s.heap.get? b=aa o/\∀V n,o.data≠.seq V n:=λb W=>by
 refine(S3 W).elim (λe=>?_) λh=>h.elim (λe=>?_) λh=>h.elim λx h=>?_
 ·exact⟨fo,e▸L.at_,λ_ _ h=>zL (Y.symm.trans h)⟩
 ·obtain⟨c',o,vs,t,Z,H,G,_⟩:=L.code
  exact⟨o,e▸tz Z▸H,λ_ _ h=>zL (G.symm.trans h)⟩
 ·obtain⟨_,v,o,e,d⟩:=L.DI.cP x b h
  exact⟨o,e,λ_ _ h=>zL (d.symm.trans h)⟩
theorem KZ{p:Str}(S:St w s g)(V:c8 w s g ab sc ρ)(h:cU w s g ab v [] (.lam nm params (.expr e) scope))(Z:mj scope sc ρ bE)(hd:pJ bE=ae)
 (H:∀q br doc pm ct cv (s:av) vs,vs.length=1->fP s (jM nm q params (.expr e) scope br doc pm ct cv) ⟨vs,[]⟩ ([p].zip vs))(G:g4 [p] scope bE=ae)(B:(d4 scope).isNone=ae)
 (iJ:∀d r,φ d=aa r->aj 50 scope (bindR [p] [.dat d]++bE) e λx=>x=r):
 ∃bz,(∀W,cU w s g W v bz (.fn bz φ))/\∀b∈bz,∃o,s.heap.get? b=aa o/\∀iI n,o.data≠.seq iI n:=by
 refine ba λN_=>?_
 obtain⟨f,q,br,doc,pm,ct,cv,rfl,h3,h4,h5,_⟩:=h
 have C:=dQ.cap V h5 Z
 obtain⟨c,o,vs,t,rfl,e2,e3,e4⟩:=id h4
 apply N_
 have fd:(l8 (jM nm q params (.expr e) scope br doc pm ct (.ref c))).data=.func _:=rfl
 refine⟨x6 f c br,λW=>⟨rfl,x7 w f (l8 (jM nm q params (.expr e) scope br doc pm ct (.ref c))) (.ref c) q scope br bE,⟨h3,S.sub _ _ h3,h4,C⟩,?_,?_,f,rfl,?_⟩,x7.foot (g:=g) ⟨h3,S.sub _ _ h3,h4,C⟩ fd⟩
 ·intro mu s g s' g' hm L S N
  exact⟨N.gg _ _ L.off,N.get S L.at_ (.inl nofun) λY=>hm _ Y bi,N.code S L.code λa ha Y=>hm _ Y (bM _ (tz ha▸bi)),L.DI.ZI hd S N λx a ha Y=>hm _ Y (R3 ha)⟩
 ·intro A s g u d r L S R ru hr E
  exact R2 (m:=50) (ds:=[d]) (aH:=[p]) S (R.le (by decide)) (aP.cons ru aP.nil) (S.sub _ _ L.off) L.code L.DI (H _ _ _ _ _ _ _ _ rfl) rfl G B (iJ d r hr) E
 ·exact λs g L=>⟨⟨_,_,L.at_,fd⟩,λb H=>(L.foot fd b H).elim λo q=>⟨o,q.1⟩⟩
end
inductive ab5(w:a9)(fa:ag)(name bI:Str)(params:ix)(body:List bw)(sc:bf):Prop
 |mk (T K:ag) (t:Tok) (nT:Nat) (es:Array dy) (nK:Nat) (oK:Obj) (doc pm bA ct:ai) (an:Option ag) (h0:(KH w).lookup fa=aa {cls:=aK "function",data:=.func (gm name bI params body sc (.ref T) (.ref K) doc pm bA ct an)})
  (h1:(KH w).lookup T=aa {cls:=aK "tuple",data:=.seq #[.int 0 t,.none] nT}) (h2:(KH w).lookup K=aa oK) (h3:oK.data=.dict es nK) (h4:ue es) (h5:nsFind es "key"=aa .none) (h6:uA w bA bI)
structure rY(fa:ag)(name bI:Str)(params:ix)(body:List bw)(sc:bf):Prop where
 at_:∀w:a9,ab5 w fa name bI params body sc
theorem xJ{args:Args}{binds:List (Str×ai)}{T:ag}{t:Tok}{k:Option (Array ai)->Sem (List (Str×ai))}(hd:fd.defaults=.ref T)(W:s.heap.get? T=aa {cls:=aK "tuple",data:=.seq #[.int 0 t,.none] n})
 (V:bindArgs fd args=wX fd.defaults>>=k)(Y:k (aa #[.int 0 t,.none])=pure binds):fP s fd args binds:=.of_defaults hd W rfl V Y
section
variable {n m:Nat} {sc scope:bf} {ρ bE:ay}
theorem HM{f:ai}{bz:List ag}(h:cU w s g ab f bz (.fn bz φ)):∀b∈bz,∃o,s.heap.get? b=aa o:=by
 refine ba λV=>?_
 obtain⟨_,Z,Y,_,_,a,_,W⟩:=h
 apply V
 exact(W s g Y).2
theorem cW.app{ds:List D}{Y:List ai}{W:List Bd}(r:aP w g vs ds)(t:cW w s g mu Y W bX):∃V,cW w s g mu (vs++Y) (ds.map Bd.dat++W) V/\∀j c,c∈V j->∃i,c∈bX i:=by
 induction ds generalizing vs with
 |nil=>
  obtain rfl:=Ej r.1
  exact⟨bX,t,λj c h=>⟨j,h⟩⟩
 |cons d ds Z=>
  refine j8 (l:=vs) r.1 (λv vs _ r=>?_) r
  exact(Z r.ia.2).elim λV q=>⟨mq [] V,.cons (λ_=>⟨r.ia.1,rfl⟩) (λ_ h=>aZ h ca) (λ_ _ _ _ _ h=>aZ h ca) q.1,λj c=>by
   induction j with
   |zero=>exact λh=>aZ h ca
   |succ j _=>exact q.2 j c⟩
structure iF(n:Nat)(fa:ag)(ds:List D)(φ:D->Option D)(k:D->Prop):Prop where
 run:∀(w:a9) (A:bN) (s:av) (g:aY) (vs:List ai) (f:ai) (bz:List ag),St w s g->Rm n A->aP w g vs ds->(∀ab,cU w s g ab f bz (.fn bz φ))->∀E,wpAny (model PG w) A (call (.ref fa) vs [("key",f)]) (Out w s g k) E s
theorem iF.intro{name:Str}{ds g9:List D}{pre:Tok->List ai->List ai}(hD:rY fa name bI params body sc)
 (hb:∀T K t C doc pm bA ct an (s:av) vs f,vs.length=ds.length->s.heap.get? T=aa {cls:=aK "tuple",data:=.seq #[.int 0 t,.none] C}->fP s (gm name bI params body sc (.ref T) (.ref K) doc pm bA ct an) ⟨vs,[("key",f)]⟩ (aH.zip (pre t vs++[f])))
 (Z:∀w g t vs,aP w g vs ds->aP w g (pre t vs) g9)(B:g4 aH sc []=ae)(G:aH.length=g9.length+1)(W:sc.names.all (λx=>!(x.2==.free))=ae)(nj:(d4 sc).isNone=ae)
 (h:∀bz,aL m sc (bindR aH (g9.map Bd.dat++[.fn bz φ])) body (fK k)):iF (m+2) fa ds φ k:=.mk λw A s g vs f bz S R r hf E=>by
 refine ba λN_=>?_
 obtain⟨T,K,t,C,es,nK,oK,doc,pm,bA,ct,an,hl,hT,hK,k1,k2,k3,i7⟩:=hD.at_ w
 apply N_
 obtain⟨bX,ra,_⟩:=cW.app (s:=s) (Z w g t vs r) (.cons hf (λa ha=>⟨HM (hf (newEnv {kind:=fk,names:=[],isGenerator:=aI,isCoroutine:=aI} 0 0 [] "" ak .none ak 0:Env)) a ha,ca⟩) (λ_ _ h=>aZ h.symm (k_ _)) (.nil dq.nil))
 exact nO S R ra hl rfl i7 (hb T K t C doc pm bA ct an s vs f r.1 (S.df _ _ hT)) (G.trans (by rw[bR,aR];rfl)) B W nj (h bz) λv s' ab g' aC d dW H R' hk=>⟨g',d,H.nx,H.st,R',hk⟩
theorem bJ.introD{name:Str}{ds g9:List D}{pre:Tok->List ai->List ai}(hD:rY fa name bI params body sc)
 (hb:∀T K t G es C Z doc pm bA ct an (s:av) vs,vs.length=ds.length->s.heap.get? T=aa {cls:=aK "tuple",data:=.seq #[.int 0 t,.none] G}->s.heap.get? K=aa Z->Z.data=.dict es C->ue es->nsFind es "key"=aa .none->fP s (gm name bI params body sc (.ref T) (.ref K) doc pm bA ct an) ⟨vs,[]⟩ (aH.zip (pre t vs)))
 (Y:∀w g t vs,aP w g vs ds->aP w g (pre t vs) g9)(B:g4 aH sc []=ae)(W:aH.length=g9.length)(V:sc.names.all (λx=>!(x.2==.free))=ae)(f:(d4 sc).isNone=ae)
 (h:aL m sc (bindR aH (g9.map Bd.dat)) body (fK k)):bJ (m+2) fa ds k:=.mk λw A s g vs S R r E=>by
 refine ba λN_=>?_
 obtain⟨T,K,t,G,es,C,Z,doc,pm,bA,ct,an,hl,hT,hK,k1,k2,k3,i7⟩:=hD.at_ w
 apply N_
 exact nO S R (cW.dat (Y w g t vs r)) hl rfl i7 (hb T K t G es C Z doc pm bA ct an s vs r.1 (S.df _ _ hT) (S.df _ _ hK) k1 k2 k3) (W.trans (aR ..).symm) B V f h λv s' ab g' aC d dW H R' hk=>⟨g',d,H.nx,H.st,R',hk⟩
inductive ab6(w:a9)(s:av)(g:aY)(a:ag)(l':List D)(s':av):Prop
 |mk (g' l7:_) (N:Nx [a] s g s' g') (S:St w s' g') (hg:g' a=ak) (hp:s'.heap.PlainList a l7) (hr:aP w g' l7.toList l')
structure mr(n:Nat)(fa:ag)(l:List D)(ds:List D)(φ:D->Option D)(l':List D):Prop where
 run:∀(w:a9) (A:bN) (s:av) (g:aY) (a:ag) (af:Array ai) (vs:List ai) (f:ai) (bz:List ag),St w s g->Rm n A->dq w s g [a]->s.heap.PlainList a af->aP w g af.toList l->g a=ak->aP w g vs ds->(∀ab,cU w s g ab f bz (.fn bz φ))->a∉bz->∀E,
  wpAny (model PG w) A (call (.ref fa) (.ref a::vs) [("key",f)]) (λ_=>ab6 w s g a l') E s
theorem mr.intro{name:Str}{ds g9:List D}{pre:Tok->List ai->List ai}(hD:rY fa name bI params body sc)
 (B:∀T K t nT doc pm bA ct an (s:av) v vs f,vs.length=ds.length->s.heap.get? T=aa {cls:=aK "tuple",data:=.seq #[.int 0 t,.none] nT}->fP s (gm name bI params body sc (.ref T) (.ref K) doc pm bA ct an) ⟨v::vs,[("key",f)]⟩ (aH.zip (v::pre t vs++[f])))
 (G:∀w g t vs,aP w g vs ds->aP w g (pre t vs) g9)(hA:g4 aH sc []=ae)(C:aH.length=g9.length+2)(Z:sc.names.all (λx=>!(x.2==.free))=ae)(nj:(d4 sc).isNone=ae)
 (h:∀a bz,a∉bz->aL m sc (bindR aH (.own a l::g9.map Bd.dat++[.fn bz φ])) body (ls λ_ aC=>aC.lookup x=aa (.own a l'))):mr (m+2) fa l ds φ l':=.mk λw A s g a af vs f bz S R M hp hr hg r hf ha E=>by
 refine ba λN_=>?_
 obtain⟨T,K,t,nT,es,nK,oK,doc,pm,bA,ct,an,hl,hT,hK,k1,k2,k3,i7⟩:=hD.at_ w
 apply N_
 obtain⟨bX,ra,hs⟩:=cW.app (s:=s) (G w g t vs r) (.cons hf (λb B=>⟨HM (hf (newEnv {kind:=fk,names:=[],isGenerator:=aI,isCoroutine:=aI} 0 0 [] "" ak .none ak 0:Env)) b B,λq=>ha ((show b=a from a_.mp q)▸B)⟩) (λ_ _ h=>aZ h.symm (k_ _)) (.nil M))
 have rb:cW w s g [a] (.ref a::(pre t vs++[f])) (.own a l::(g9.map Bd.dat++[.fn bz φ])) (mq [a] bX):=
  .cons (λ_=>⟨af,rfl,hg,hp,hr,rfl⟩) (λc hc=>hc) (λj _ _ _ c hc q=>(hs j c q).elim λi q=>ha ((show c=a from a_.mp hc)▸(show c∈bz by
   induction i with
   |zero=>exact q
   |succ i _=>exact aZ q ca))) ra
 refine nO S R rb hl rfl i7 (B T K t nT doc pm bA ct an s (.ref a) vs f r.1 (S.df _ _ hT)) (C.trans (by rw[gF,bR,aR];rfl)) hA Z nj (h a bz ha) λv s' ab g' aC d dW H R' hk=>?_
 refine ba λN_=>?_
 obtain⟨u',_,W,rfl,w3,w4,w5,w6⟩:=H.var x _ hk
 exact N_ ⟨g',W,H.nx,H.st,w3,w4,w5⟩
theorem aj.Cb{bz:List ag}(hx:ρ.lookup x=aa (.fn bz φ))(W:ce x=ae)(Z:cu e=ae)(hn:60<=n)
 (h:aj n sc ρ e λd=>∃r,φ d=aa r/\k r):aj n sc ρ (bU (aS x np) [e] [] aM) k:=.mk λw A ab s g S R V E=>by
 have Z:[e].all cu=ae:=by simp[Z]
 refine ba λC=>?_
 obtain⟨v,ad,h1,rfl,Lv,L0,L1,L2,f,rfl,L3⟩:=V.var x _ hx
 apply C
 refine lM (eN (dZ V.kind h1 W ?_) (d3 W))
 refine j6 (P:=λhp=>∃k,(k=jC\/k=jA\/k=jx)/\jL (model PG w) hp (keeperOf (.ref f)) k) (by rw[(cE Z).2];rfl) (λ_ q=>q) ?_
 refine fj (cE Z).1 rfl (bg (cn.ok (k:=λds=>∃d,ds=[d]/\∃r,φ d=aa r/\k r) Z (hZ (h.mono λd q=>fQ ⟨d,rfl,q⟩)) w A ab s g aM S R V E) (λvs aA ⟨aN,ds,Y,H,G,d,hd,r,hr,hk⟩=>?_))
 subst hd
 obtain⟨u,rfl,hu⟩:=G.one
 have L':=L1 [] s g aA aN (fS) L0 S Y
 refine ba λC=>?_
 obtain⟨⟨o,fd,ho,hd⟩,_⟩:=L3 aA aN L'
 apply C
 refine fz ⟨⟨.frame,.inl rfl,?_⟩,?_⟩
 ·obtain⟨oc,od,B,sl⟩:=o
  subst hd
  exact(Uc (part:=aU) ho).andThen .now
 ·exact bg (L2 A aA aN u d r L' H (R.le hn) hu hr E) (λv s' o=>o.trans Y λ_ x=>x▸hk)
end
theorem G_{a b:Int}{t u:Tok}(h:Q (.bool (decide (a<b))) s):wpAny (model fR w) A (richCompare .Lt (.int a t) (.int b u)) Q E s:=
 richCompare_gives (op:=.Lt) (wJ s a t) (wJ s b u) F.slot_int_lt F.entry_int_lt (F.args_int_lt_2 _ _) (gives_int_lt a b t u) (λx=>nomatch x) h
theorem S4{x y:ag}{a b c d:Int}{t u C B:Tok}{f:Nat}(W:s.heap.get? x=aa {cls:=aK "tuple",data:=.seq #[.int a t,.int b u] n})(Z:s.heap.get? y=aa {cls:=aK "tuple",data:=.seq #[.int c C,.int d B] f})
 (hu:A.units<cLine)(h:Q (.bool (decide (a<c\/a=c/\b<d))) s):wpAny (model fR w) A (compareOp .Lt (.ref x) (.ref y)) Q E s:=by
 have H:s.TypeIs (.ref x) "tuple":=⟨_,W,rfl⟩
 have V:s.TypeIs (.ref y) "tuple":=⟨_,Z,rfl⟩
 refine wpAny_richCompare_same_room (op:=.Lt) H V F.slot_tuple_lt (jZ F.slot_tuple_lt H F.entry_tuple_lt ?_ (F.args_tuple_lt_2 _ _)) hu
 show wpAny _ _ (wI (.ref y) (aK "tuple")>>=_) _ _ s
 refine q7 V isSubtype_tuple_tuple ?_
 refine aJ (O7 W rfl ?_)
 refine aJ (O7 Z rfl ?_)
 refine aJ ?_
 refine aJ (aJ (PA ?_))
 by_cases Y:a=c
 ·subst Y
  refine(show (a==a)=ae by simp).symm▸?_
  refine a8 ?_
  refine aJ (aJ (PA ?_))
  by_cases G:b=d
  ·subst G
   rw[show (b==b)=ae by simp]
   refine a8 (a8 (a8 ⟨_,rfl,λe=>(nomatch e),?_⟩))
   have e:decide (a<a\/a=a/\b<b)=aI:=by simp
   rw[e] at h;exact h
  ·rw[show (b==d)=aI by simpa using G]
   refine ka ?_
   refine aJ (G_ ?_)
   refine fY (a8 (a8 (a8 ⟨_,rfl,λe=>(nomatch e),?_⟩)))
   have e:decide (a<a\/a=a/\b<d)=decide (b<d):=by simp
   rw[e] at h;exact h
 ·rw[show (a==c)=aI by simpa using Y]
  refine ka ?_
  refine aJ (G_ ?_)
  refine fY (a8 (a8 (a8 ⟨_,rfl,λe=>(nomatch e),?_⟩)))
  have e:decide (a<c\/a=c/\b<d)=decide (a<c):=by simp[Y]
  rw[e] at h;exact h
noncomputable def D.one?:D->Option Int
 |.int i=>aa i
 |_=>aU
noncomputable def D.C9:D->Option (Int×Int)
 |.tup (x::y::[])=>x.one?.bind λi=>y.one?.map λj=>(i,j)
 |_=>aU
noncomputable def gz(a b:D):Option Bool:=(a.one?.bind λi=>b.one?.map λj=>decide (i<j)).or (a.C9.bind λp=>b.C9.map λq=>decide (p.1<q.1\/p.1=q.1/\p.2<q.2))
theorem D.xK{a:D}{i:Int}(h:a.one?=aa i):a=.int i:=by
 cases a with
 |int j=>exact aQ D.int (aW h)
 |_=>exact ns h
theorem D.Kh{a:D}{p:Int×Int}(h:a.C9=aa p):a=.tup [.int p.1,.int p.2]:=by
 cases a with
 |tup l=>
  match l with
  |[]=>exact ns h
  |[x]=>exact ns h
  |[x,y]=>
   refine(kt.mp h).elim λi V=>V.elim λhi h=>?_
   obtain⟨j,Y,h⟩:=mz.mp h
   rw[xK hi,xK Y,<-h]
  |x::y::z::r=>exact ns h
 |_=>exact ns h
theorem bq.gz{a b:D}{c:Bool}{k:Bool->Prop}(h:Mine.Internal.gz a b=aa c)(W:k c):bq n .Lt a b k:=by
 rcases Option.or_eq_some_iff.mp h with h|⟨_,h⟩
 ·obtain⟨i,hi,h⟩:=kt.mp h
  obtain⟨j,Z,h⟩:=mz.mp h
  rw[D.xK hi,D.xK Z]
  exact bq.lt (h▸W)
 ·obtain⟨p,H,h⟩:=kt.mp h
  obtain⟨q,G,h⟩:=mz.mp h
  rw[D.Kh H,D.Kh G]
  refine .mk λw A s g v u S R C B E=>?_
  refine C.t_ λa1 n1 ⟨i1⟩ f q1=>?_
  refine B.t_ λa2 n2 ⟨i2⟩ e2 q2=>?_
  obtain⟨x,y,rfl,hx,hy⟩:=q1.two
  refine ba λN_=>?_
  obtain⟨x',y',rfl,V,Y⟩:=q2.two
  obtain⟨_,rfl⟩:=hx.int_inv;obtain⟨_,rfl⟩:=hy.int_inv
  obtain⟨_,rfl⟩:=V.int_inv;obtain⟨_,rfl⟩:=Y.int_inv
  apply N_
  exact S4 (S.sub _ _ f) (S.sub _ _ e2) (aV (aD (cy _ _) R.2.1) (by decide:9000<cLine)) ⟨_,g,rfl,Nx.refl _ _ _,S,h▸W⟩
theorem Bh{e:dy}{t:Tok}(h:e.key=.str x t):ue #[e]:=λV Y=>by
 have:V=e:=by simpa using Y
 subst this;exact⟨x,t,h⟩
theorem LW{X Y:Prop}{c:Bool}(h:c=ae)(V:X):if c=ae then X else Y:=(bo h)▸V
theorem LX{X Y:Prop}{c:Bool}(h:c=aI)(V:Y):if c=ae then X else Y:=by rw[be (by rw[h];simp)];exact V
theorem Bi{args:Args}{binds:List (Str×ai)}{T K:ag}{t:Tok}{H:Nat}{es:Array dy}{Z:Obj}{G C:Type}{k:Option (Array ai)->Sem (List (Str×ai))}{B:Option ai->Sem G}{f:G->Sem C}{k3:C->Sem (List (Str×ai))}(hd:fd.defaults=.ref T)(ho:s.heap.get? T=aa {cls:=aK "tuple",data:=.seq #[.int 0 t,.none] n})
 (hK:s.heap.get? K=aa Z)(h1:Z.data=.dict es H)(h2:ue es)(h3:nsFind es "key"=aa .none)
 (Y:bindArgs fd args=wX fd.defaults>>=k)(W:k (aa #[.int 0 t,.none])=((nsGet K "key">>=B)>>=f)>>=k3)(V:(B (aa .none)>>=f)>>=k3=pure binds):fP s fd args binds:=λ_ _ _ _ hq=>by
 rw[Y,hd]
 refine lV ho rfl ?_
 rw[W,bind_assoc,bind_assoc]
 refine aJ (wpAny_nsGet (m:=nsFind es) ⟨Z,es,H,hK,h1,h2,λ_=>rfl⟩ ?_)
 rw[bind_assoc] at V;rw[h3,V]
 exact a8 hq
section
variable {n m:Nat} {sc:bf} {ρ:ay}
theorem aO.sub{b:bw}{k:Fl->ay->Prop}(h:aO n sc ρ b k)(hs:Sub ρ aC):aO n sc aC b k:=.mk λw A ab mu aw aE s g aB H R E=>h.run w A ab mu aw aE s g aB (H.weaken hs) R E
theorem aO.le{b:bw}{k:Fl->ay->Prop}(h:aO m sc ρ b k)(V:m<=n):aO n sc ρ b k:=.mk λw A ab mu aw aE s g aB H R E=>h.run w A ab mu aw aE s g aB H (R.le V) E
theorem aL.le{b:List bw}{k:Fl->ay->Prop}(h:aL m sc ρ b k)(V:m<=n):aL n sc ρ b k:=.mk λw A ab mu aw aE s g aB H R E=>h.run w A ab mu aw aE s g aB H (R.le V) E
theorem aj.le(h:aj m sc ρ e k)(Y:m<=n):aj n sc ρ e k:=.mk λw A ab s g S R V E=>h.run w A ab s g S (R.le Y) V E
theorem b8.oz(hl:l.length<=100000)(hd:l[i]?=aa d)(V:k d):b8 n (.lst l) (.int (i:Int)) k:=by
 have hi:i<l.length:=(ey.mp hd).1
 refine b8.lst (j:=i) (by exact dA _) (by exact YW (by assumption) (by assumption)) ?_ hd V
 exact(E_ (dA _) (by omega)).trans (rfl)
set_option tactic.hygienic true in
theorem AI{J:ay->Prop}{k:Fl->ay->Prop}(aC:ay)(hs:Sub aC ρ)(h:J aC):uD J k .next ρ:=⟨aC,hs,h⟩
theorem bH.Bj{W:Pos}{bz:List ag}{k:Bool->Prop}(Z:ρ.lookup x=aa (.fn bz φ))(Y:ce x=ae)(H:k aI):bH n sc ρ (iO (aS x p) [.Is] [jF .none c W] aM) k:=.mk λw A ab s g S R V E=>by
 refine ba λG=>?_
 obtain⟨v,ad,C,rfl,B,L0,L1,L2,f,rfl,L3⟩:=V.var x _ Z
 apply G
 refine vG (eN (dZ V.kind C Y (EN (is_none_gen ?_))) (d3 Y)) rfl
 exact nB ⟨g,Nx.refl _ _ _,S,H⟩
end
section
variable {n m:Nat} {sc scope:bf} {ρ bE:ay}
structure vd(n:Nat)(sc:bf)(ρ:ay)(e:au)(φ:D->Option D):Prop where
 run:∀(w:a9) (A:bN) (ab:Env) (s:av) (g:aY),St w s g->Rm n A->c8 w s g ab sc ρ->∀E,wpAny (model PG w) A (eval e ab) (λv s'=>∃g' bz,Nx [] s g s' g'/\St w s' g'/\∀u9,cU w s' g' u9 v bz (.fn bz φ)) E s
structure g8(n:Nat)(sc:bf)(ρ:ay)(e:au)(φ:D->Option D):Prop where
 run:∀(w:a9) (A:bN) (ab:Env) (s:av) (g:aY),St w s g->Rm n A->c8 w s g ab sc ρ->∀E,wpAny (model PG w) A (eval e ab) (λv s'=>∃g' bz,Nx [] s g s' g'/\St w s' g'/\(∀u9,cU w s' g' u9 v bz (.fn bz φ))/\∀b∈bz,∃o,s'.heap.get? b=aa o/\∀iI n,o.data≠.seq iI n) E s
theorem g8.f(h:g8 n sc ρ e φ):vd n sc ρ e φ:=⟨λw A ab s g S R V E=>bg (h.run w A ab s g S R V E) (λv s' G=>by refine G.elim λg' Y=>Y.elim λbz W=>W.elim λa Z=>Z.elim λb H=>H.elim λc _=>?_;exact⟨g',bz,a,b,c⟩)⟩
theorem vd.fnName{bz:List ag}(H:ρ.lookup x=aa (.fn bz φ))(Y:ce x=ae):vd n sc ρ (aS x p) φ:=.mk λw A ab s g S R V E=>by
 refine ba λG=>?_
 obtain⟨v,ad,C,W⟩:=V.var x _ H
 have e:ad=bz:=W.1
 subst e
 apply G
 exact eN (dZ V.kind C Y ⟨g,ad,Nx.refl _ _ _,S,λZ=>W⟩) (d3 Y)
theorem g8.BP{p:Str}(C:ρ.lookup x=aa (.lam nm params (.expr e) scope))(Y:ce x=ae)(W:mj scope sc ρ bE)(hd:pJ bE=ae)
 (B:∀q br doc pm ct cv (s:av) vs,vs.length=1->fP s (jM nm q params (.expr e) scope br doc pm ct cv) ⟨vs,[]⟩ ([p].zip vs))(Z:g4 [p] scope bE=ae)(H:(d4 scope).isNone=ae)
 (iJ:∀d r,φ d=aa r->aj 50 scope (bindR [p] [.dat d]++bE) e λx=>x=r):g8 n sc ρ (aS x aM) φ:=.mk λw A ab s g S R V E=>by
 refine ba λf=>?_
 obtain⟨v,ad,h1,G⟩:=V.var x _ C
 have e:ad=[]:=by obtain⟨_,_,_,_,_,_,_,_,_,_,_,e⟩:=G;exact e
 subst e
 obtain⟨bz,q1,q2⟩:=KZ S V G W hd B Z H iJ
 apply f
 exact eN (dZ V.kind h1 Y ⟨g,bz,Nx.refl _ _ _,S,q1,q2⟩) (d3 Y)
theorem g8.lambda{p:Str}{body:au}{t:ag×ag×Str}(hl:d4 sc=aa (t.1,bI))(ht:t∈fu)(hq:bI++("<lambda>":Str)=t.2.2)(Z:∀w,codeHdIn (KH w) t.1 t.2.1=ae)(H:dC scope sc=ae)(G:∀ab,defaultsOf params ab=([],[]))
 (Y:mj scope sc ρ bE)(hd:pJ bE=ae)
 (hb:∀q br doc pm ct cv (s:av) vs,vs.length=1->fP s (jM "<lambda>" q params (.expr body) scope br doc pm ct cv) ⟨vs,[]⟩ ([p].zip vs))(C:g4 [p] scope bE=ae)(B:(d4 scope).isNone=ae)
 (iJ:∀d r,φ d=aa r->aj 50 scope (bindR [p] [.dat d]++bE) body λx=>x=r):g8 n sc ρ (.Lambda params body scope aM) φ:=.mk λw A ab s g S R V E=>by
 refine kla_eval (G ab) ?_
 rw[(V.lam _ _ hl).2,hq]
 refine bg (Ca S V hl ht Z H) (λv s' W=>W.elim λg' W=>W.elim λN W=>W.elim λS' r=>?_)
 refine(KZ S' (V.step N S) r Y hd hb C B iJ).elim λbz f=>f.elim λq1 q2=>?_
 exact⟨g',bz,N,S',q1,q2⟩
structure sx(n:Nat)(f:ai)(ds:List D)(φ:D->Option D)(k:D->Prop):Prop where
 run:∀(w:a9) (A:bN) (s:av) (g:aY) (vs:List ai) (kf:ai) (bz:List ag),St w s g->Rm n A->aP w g vs ds->(∀ab,cU w s g ab kf bz (.fn bz φ))->∀E,wpAny (model PG w) A (call f vs [("key",kf)]) (Out w s g k) E s
theorem iF.oR{ds:List D}(h:iF n fa ds φ k):sx n (.ref fa) ds φ k:=⟨λw A s g vs V bz S R r Y E=>h.run w A s g vs V bz S R r Y E⟩
theorem iF.le{ds:List D}(h:iF m fa ds φ k)(V:m<=n):iF n fa ds φ k:=⟨λw A s g vs Y bz S R r W E=>h.run w A s g vs Y bz S (R.le V) r W E⟩
theorem aj.se{kp:Pos}{args:List au}{ke:au}{f:ai}(hf:bO sc x f)(ha:args.all cu=ae)(D8:vd n sc ρ ke φ)(h:cn n sc ρ args λds=>sx n f ds φ k):aj n sc ρ (bU (aS x np) args [⟨aa "key",ke,kp⟩] aM) k:=.mk λw A ab s g S R V E=>by
 refine O8 (hf.run w A ab s g ρ S V np _ E ?_)
 refine j6 (P:=λhp=>∃k,(k=jC\/k=jA\/k=jx)/\jL (model PG w) hp (keeperOf f) k) (by rw[(cE ha).2];rfl) (λ_ q=>q) ?_
 refine fj (cE ha).1 rfl (bg (cn.ok ha h w A ab s g aM S R V E) (λvs aA ⟨aN,ds,Y,G,C,B⟩=>?_))
 show wpAny _ A (evalAll [do let v <-eval ke ab;standAt aM;pure v]) _ E aA
 refine EW (aJ (bg (D8.run w A ab aA aN G R (V.step Y S) E) (λkv aT H=>H.elim λbb H=>H.elim λbz H=>H.elim λW H=>H.elim λZ hr=>jb (a8 ?_))))
 refine fz ⟨hf.keep w aT bb Z,?_⟩
 exact Out.back (Y.trans W) (B.run w A aT bb vs kv bz Z R (C.mono W.gg) hr E)
theorem aO.K0{yp kp:Pos}{args:List au}{ke:au}{k:Fl->ay->Prop}(hf:bO sc x (.ref fa))(hy:ρ.lookup y=aa (.own a l))(hA:ce y=ae)(ha:args.all cu=ae)(D8:g8 n sc ρ ke φ)
 (hH:∀ab,iy (bU (aS x np) (aS y yp::args) [⟨aa "key",ke,kp⟩] eY) aU aM.line ab=pure aI)
 (h:cn n sc ρ args λds=>∃l',mr n fa l ds φ l'/\k .next ((y,.own a l')::ρ)):aO n sc ρ (.Expr (bU (aS x np) (aS y yp::args) [⟨aa "key",ke,kp⟩] eY) aM) k:=.mk λw A ab mu aw aE s g aB H R E=>by
 have sT:(SN y yp::args).all cu=ae:=ha
 refine qS ?_ (by dsimp only[rf];rw[H.kind];rfl) (hH ab)
 refine ba λN_=>?_
 obtain⟨u,u1,af,rfl,u3,u4,u5,u6⟩:=H.var y _ hy
 apply N_
 have am:a∈aB y:=by rw[u6];simp
 refine O8 (hf.run w A ab s g ρ H.st H.cI np _ E ?_)
 refine j6 (P:=λhp=>∃k,(k=jC\/k=jA\/k=jx)/\jL (model PG w) hp (keeperOf (.ref fa)) k) (by rw[(cE sT).2];rfl) (λ_ q=>q) ?_
 refine fj (cE sT).1 rfl ?_
 refine qO (eN (dZ H.kind u1 hA ?_) (d3 hA)) (nH (rfl))
 refine bg (cn.ok ha h w A ab s g eY H.st R H.cI E) (λvs aA ⟨aN,ds,V,W,ml,l',iX,hk⟩=>?_)
 show wpAny _ A (evalAll [do let v <-eval ke ab;standAt eY;pure v]) _ E aA
 refine EW (aJ (bg (D8.run w A ab aA aN W R (H.step V W).cI E) (λkv aT G=>G.elim λbb G=>G.elim λbz G=>G.elim λY G=>G.elim λZ G=>G.elim λhr hi=>jb (a8 ?_))))
 refine fz ⟨hf.keep w aT bb Z,?_⟩
 have H2:=(H.step V W).step Y Z
 have MK:=(V.trans Y).plain H.st u4 (ca)
 refine(id MK).elim λnn en=>?_
 have M:dq w aT bb [a]:=λb B=>by
  have:b=a:=a_.1 B
  subst this
  exact H2.rebase.1.fw b (tV hy rfl am)
 have f:a∉bz:=λq=>by
  obtain⟨o,e,d⟩:=hi a q
  rw[en] at e;obtain rfl:=aW e
  exact d _ _ rfl
 refine bg (iX.run w A aT bb a af vs kv bz Z R M MK (u5.mono (V.trans Y).gg) ((M a (bi)).1:bb a=ak) (ml.mono Y.gg) hr f E) (λr kU ⟨ie,C,gr,ig,w3,w4,w5⟩=>?_)
 refine⟨ie,_,.next,_,H2.change (mt:=[a]) (il:=[a]) hy rfl rfl gr ig (λb B=>by rw[u6];exact B) (λb B o e=>?_) (λv' _ r=>?_) (λb B=>.inl (by rw[u6];exact B)),trivial,hk⟩
 ·have:b=a:=a_.1 B
  subst this;rw[en] at e;obtain rfl:=aW e;exact cV.of λvs q=>by cases q
 ·obtain⟨KP,rfl,_⟩:=r
  exact⟨C,rfl,w3,w4,w5,rfl⟩
set_option tactic.hygienic true in
theorem aj.ZJ{bz:List ag}(hx:ρ.lookup x=aa (.own a l))(hy:ρ.lookup y=aa (.fn bz φ))(hf:a∉bz)(h:aj n sc ((x,.dat (.lst l))::(y,.fn bz φ)::je ρ) e λd=>d.scalar=ae/\k d):aj n sc ρ e k:=.mk λw A ab s g S R V E=>by
 obtain⟨aN,adb,Y,hg,ha,hs⟩:=Mine.Internal.mi S V hx
 have ab7:c8 w s aN ab sc ((x,.dat (.lst l))::(y,.fn bz φ)::je ρ):=by
  refine⟨Y.kind,Y.glob,Y.gq,Y.ks,Y.lam,Y.e6,Y.cP,Y.ff,λz b W=>?_⟩
  rw[j5] at W
  split at W
  ·rename_i e;obtain rfl:=aW W;subst e
   exact Y.var z _ lookup_cons_self
  ·rename_i Z
   rw[j5] at W
   split at W
   ·rename_i e;obtain rfl:=aW W;subst e
    obtain⟨c,hc⟩:∃c,(je ρ).lookup z=aa c:=by
     clear Y V hx Z h
     induction ρ with
     |nil=>simp at hy
     |cons p r ih=>
      obtain⟨y',c⟩:=p
      unfold je
      rw[d7,io]
      rw[io] at hy
      induction hb:z==y' with
      |true=>exact⟨_,rfl⟩
      |false=>rw[hb] at hy;exact ih hy
    refine(Y.var z c (by exact(fi Z).trans hc)).elim λv DH=>DH.elim λad va=>va.elim λq1 _=>?_
    refine ba λN_=>?_
    obtain⟨v',il,q1',h0,Lv,h1,h2⟩:=V.var z _ hy
    have h0:il=bz:=h0
    subst h0
    have nm:∀{u u'},fF s aN ab z u->fF s g ab z u'->u=u':=λa b=>by
     rcases a with ⟨H,a2,m,a3,a4⟩|⟨H,c,a2,a3,a4⟩<;>rcases b with ⟨G,b2,m',b3,b4⟩|⟨G,c',b2,b3,b4⟩
     ·obtain⟨o,es,ep,e,d,_,f⟩:=a3
      obtain⟨o',y4,sM,C,B,_,f'⟩:=b3
      rw[e] at C;obtain rfl:=aW C;replace B:=d▸B;cases B
      have:=(f z).symm.trans (f' z)
      rw[a4,b4] at this;obtain rfl:=aW this;rfl
     ·rw[H] at G;rcases G with G|G<;>cases G
     ·rw[G] at H;rcases H with H|H<;>cases H
     ·rw[a2] at b2;obtain rfl:=aW b2
      refine a4.elim λo C_=>C_.elim λe d=>?_
      obtain⟨o',C,B⟩:=b4
      rw[e] at C;obtain rfl:=aW C;replace B:=d▸B;cases B;rfl
    have ev:=nm q1 q1'
    subst ev
    apply N_
    refine⟨v,_,q1,rfl,Lv,h2.st [a] s g s aN (λb hb q=>?_) h1 S ⟨λb o e _ _=>e,λb o e _=>⟨o,e⟩,λb o e=>?_,λb o e C hm=>?_,rfl⟩,h2⟩
    ·have:b=a:=a_.1 hb
     subst this
     exact hf q
    ·have hb:b≠a:=λq=>by subst q;exact ns (ha.symm.trans e)
     exact(hg b hb).trans e
    ·exact(hg b (λq=>hm (by simp[q]):b≠a)).trans C
   ·exact Y.var z b (by exact(fi Z).trans W)
 refine h.wp adb R ab7 λv s' bb d N gd r q_=>q_.elim λhd hk=>?_
 obtain⟨g',N',S'⟩:=AX hg ha hs N gd
 exact⟨g',d,N',S',r.scalar hd,hk⟩
end
section
variable {n m:Nat} {sc scope:bf} {ρ bE:ay}
theorem aO.V_{k:Fl->ay->Prop}(h:k (.ret .none) ρ):aO n sc ρ (.Return aU aM) k:=.mk λw A ab mu aw aE s g aB H R E=>
 wpAny_Return_none ⟨g,ρ,.ret .none,aB,H,Rep.none,h⟩
set_option tactic.hygienic true in
theorem S5{k:D->ay->Prop}(h:k .none ρ):ls k .next ρ:=h
theorem bF.LY{x s:Nat}(V:k (.int ((x/2^s:Nat):Int))):bF n .RShift (.int (x:Int)) (.int (s:Int)) k:=bF.shr (dA _) (by
 rw[no _ (by exact du (Int.pow_pos (by simp)))]
 exact V)
set_option tactic.hygienic true in
theorem vX{x:Nat}(h:x<2^b):fy (x:Int)<=b:=by
 unfold fy
 split
 ·exact ck _
 ·rename_i V
  have V:x≠0:=by simpa using V
  have:=(wE V).mpr h
  exact qH this
theorem bF.ab8{x s:Nat}(V:x<2^b)(Y:b<=100000)(hs:s<=100000)(W:k (.int ((x*2^s:Nat):Int))):bF n .LShift (.int (x:Int)) (.int (s:Int)) k:=bF.abL (dA _) (Zr Y hs (vX V)) (by
 exact W)
structure us(fa c:ag)(name bI:Str)(params:ix)(body:List bw)(sc:bf):Prop where
 at_:∀w:a9,∃doc pm ct an,(KH w).lookup fa=aa {cls:=aK "function",data:=.func {name,qualname:=bI,params,body:=gP body,scope:=sc,globals:=e9,closure:=[],defaults:=.none,kwdefaults:=.none,doc,pyModule:=pm,annotations:=an,code:=.ref c,closureTuple:=ct,builtins:=iM}}/\
  ∃oc vs t,(KH w).lookup c=aa oc/\oc.data=bC vs/\vs[1]?=aa (.str bI t)
theorem bJ.xL{c:ag}{name:Str}{ds:List D}(hD:us fa c name bI params body sc)
 (hb:∀doc pm bA ct an (s:av) vs,vs.length=ds.length->fP s (gm name bI params body sc .none .none doc pm bA ct an) ⟨vs,[]⟩ (aH.zip vs))
 (W:g4 aH sc []=ae)(Y:aH.length=ds.length)(V:sc.names.all (λx=>!(x.2==.free))=ae)(hl:d4 sc=aa (c,bI++(".<locals>.":Str)))
 (h:aL n sc (bindR aH (ds.map Bd.dat)) body (fK k)):bJ (n+2) fa ds k:=.mk λw A s g vs S R r E=>by
 obtain⟨doc,pm,ct,an,Z,G⟩:=hD.at_ w
 have C:dQ w s g [] sc [] [] (λ_=>[]):=dQ.nil λx e=>by
  have:=ee.mp V _ (ez e)
  simp at this
 refine ba λB=>?_
 obtain⟨oc,f,t,h1,h2,h3⟩:=G
 apply B
 refine lU (mO (w0 S R (cW.dat r) (S.df _ _ Z) rfl (CodeRec.of_K S ⟨c,oc,f,t,rfl,h1,h2,h3⟩) C (.inl rfl) (hb doc pm _ ct an s vs r.1) (by simpa using Y) (λc' q e=>by replace e:=hl▸e;cases e;exact⟨rfl,rfl⟩) W (by exact rA▸h) E) λr s' hr=>?_)
 refine nS r hr (λv q_=>?_) λ_ h=>h
 refine ba λB=>?_
 obtain⟨ab,g',aC,d,dW,H,R',Z⟩:=q_
 apply B
 exact⟨g',d,H.nx,H.st,R',Z⟩
theorem aO.X7{k:Fl->ay->Prop}(W:ρ.lookup x=aa (.own a l))(Y:ce x=ae)(h:k (.ret (.lst l)) ((x,.dat (.lst l))::ρ)):aO n sc ρ (.Return (aa (aS x p)) aM) k:=.mk λw A ab mu aw aE s g aB H R E=>by
 obtain⟨g',V,Z,up⟩:=bj.freeze H W
 exact(aO.ret (aj.name (by simp) Y h)).run w A ab mu aw aE s g' V Z R E
theorem aO.xi{name:Str}{args:List au}{id:String}{k:Fl->ay->Prop}(hx:ρ.lookup x=aa (.own a l))(W:ce x=ae)(m:cO "list" name id)(f:args.all cu=ae)
 (hb:∀ab,mN (aS x p) name ab (eval (aS x p) ab)=eval (aS x p) ab)(hl:(args.length<30/\(eQ.endLine==eY.line)=ae))(hH:∀ab,iy (bU (cC (aS x p) name eQ) args [] eY) aU aM.line ab=pure aI)
 (h:cn n sc ρ args λds=>∃l',kN n id l ds l'/\k .next ((x,.own a l')::ρ)):aO n sc ρ (.Expr (bU (cC (aS x p) name eQ) args [] eY) aM) k:=.mk λw A ab mu aw aE s g aB H R E=>by
 refine qS ?_ (by dsimp only[rf];rw[H.kind];rfl) (hH ab)
 refine ba λN_=>?_
 obtain⟨v,h1,af,rfl,h3,⟨nn,h4⟩,h5,h6⟩:=H.var x _ hx
 apply N_
 refine nr (hb ab) ?_ hl.2 rfl (eN (dZ H.kind h1 W ?_) (d3 W))
 ·exact Kd (cE f).1 hl.1
 ·refine⟨"list",id,m.pa,m.slot,m.ty,⟨_,h4,rfl⟩,λb e=>?_,?_⟩
  ·cases e;exact⟨_,h4,rfl⟩
  refine nG (cE f).2 (fj (cE f).1 rfl (bg (cn.ok f h w A ab s g eY H.st R H.cI E) (λvs aT ⟨bb,ds,Z,Y,G,l',C,hk⟩=>?_)))
  refine fz ?_
  have H2:=H.step Z Y
  obtain⟨_,_,V,e2,i3,i4,i5,i6⟩:=H2.var x _ hx
  exact C.run w A aT bb a V vs Y R i4 i5 G i3 _ E λh' tk l7 q1 q2 q3=>by
   obtain⟨B,H3⟩:=H2.own (tk:=tk) hx q1 q2 q3
   exact⟨bb,_,.next,B,H3,trivial,hk⟩
theorem pD{k:ay->Prop}(h:k ρ):kM n sc ρ [] [] k:=h
theorem jE{t:au}{ds:List D}{k:ay->Prop}(h:fJ n sc ρ t d λaC=>kM n sc aC ts ds k):kM n sc ρ (t::ts) (d::ds) k:=h
theorem aj.Uq{f:au}{r:List au}(V:ρ.lookup x=aa (.own a l))(h:aj n sc ((x,.dat (.lst l))::je ρ) (bU f (aS x p::r) [] aM) λd=>d.scalar=ae/\k d):aj n sc ρ (bU f (aS x p::r) [] aM) k:=aj.mi V h
theorem AY(h:∀d,k d->k' d){fl:Fl}(e:fK k fl ρ):fK k' fl ρ:=by
 induction fl with
 |next=>exact h _ e
 |ret d=>exact h _ e
 |brk=>exact e
 |cont=>exact e
theorem Cc{i:Int}{k:Bool->Prop}(h:k (i != 0)):∃b,(D.int i).truth=aa b/\(∀x,D.int i=.str x->x.length<2^63)/\(∀x,D.int i=.lst x->x.length<2^63)/\k b:=⟨_,rfl,λx e=>(by cases e),λx e=>(by cases e),h⟩
theorem Ki{i:Bool}{k:Bool->Prop}(h:k i):∃b,(D.bool i).truth=aa b/\(∀x,D.bool i=.str x->x.length<2^63)/\(∀x,D.bool i=.lst x->x.length<2^63)/\k b:=⟨_,rfl,λx e=>(by cases e),λx e=>(by cases e),h⟩
theorem X8{i:Str}{k:Bool->Prop}(hl:i.length<2^63)(h:k ((i.length:Int) != 0)):∃b,(D.str i).truth=aa b/\(∀x,D.str i=.str x->x.length<2^63)/\(∀x,D.str i=.lst x->x.length<2^63)/\k b:=⟨_,rfl,λx e=>(by cases e;exact hl),λx e=>(by cases e),h⟩
theorem X9{i:List D}{k:Bool->Prop}(hl:i.length<2^63)(h:k (!i.isEmpty)):∃b,(D.lst i).truth=aa b/\(∀x,D.lst i=.str x->x.length<2^63)/\(∀x,D.lst i=.lst x->x.length<2^63)/\k b:=⟨_,rfl,λx e=>(by cases e),λx e=>(by cases e;exact hl),h⟩
end
noncomputable def f8{α:Type}(lt:Nat->Nat->Bool):sr α->α
 |.ret a=>a
 |.ask i j k=>f8 lt (k (lt i j))
theorem rD(lt:Nat->Nat->Bool)(f:α->sr β):∀t:sr α,f8 lt (t.bind f)=f8 lt (f (f8 lt t))
 |.ret a=>rfl
 |.ask i j k=>by
  exact rD lt f (k (lt i j))
structure gf(lt:Nat->Nat->Bool):Prop where
 sy:∀a b,lt a b=ae->lt b a=aI
 kO:∀a b c,lt a b=aI->lt b c=aI->lt a c=aI
def iY(lt:Nat->Nat->Bool)(a b:Nat):Prop:=lt b a=aI/\(lt a b=ae\/a<b)
section
variable {lt:Nat->Nat->Bool}
theorem iY.trans(W:gf lt){a:Nat}(h:iY lt a b)(h':iY lt b c):iY lt a c:=by
 refine⟨W.kO _ _ _ h'.1 h.1,?_⟩
 rcases h.2 with q|q
 ·left
  induction e:lt a c with
  |true=>rfl
  |false=>have:=W.kO _ _ _ e h'.1;exact tf (q.symm.trans this)
 ·rcases h'.2 with V|V
  ·left
   induction e:lt a c with
   |true=>rfl
   |false=>have:=W.kO _ _ _ h.1 e;exact tf (V.symm.trans this)
  ·right;exact eK q V
section
variable {α:Type} {x y z:List α} {i k:Nat}
theorem xj(h:k<x.length):(x++y++z)[k]?=x[k]?:=by rw[c6,qr h]
theorem rS(h:i<y.length):(x++y++z)[x.length+i]?=y[i]?:=by
 rw[c6,oZ (cy _ _),k6,qr h]
theorem tX:(x++y++z)[x.length+(y.length+i)]?=z[i]?:=by
 rw[c6,oZ (cy _ _),k6,oZ (cy _ _),k6]
theorem Ha{P:Nat->Prop}{a:Nat}(Y:∀k,k<a->P k)(W:∀j,j<b->P (a+j))(h3:∀j,P (a+(b+j)))(k:Nat):P k:=by
 by_cases q:k<a
 ·exact Y k q
 ·obtain⟨j,rfl⟩:=qx (de.mp q)
  by_cases V:j<b
  ·exact W j V
  ·obtain⟨d,rfl⟩:=qx (de.mp V)
   exact h3 d
theorem Wa(a j d:Nat):a+(a+(j+d+1))-1-(a+j)=a+d:=Nat.sub_eq_of_eq_add (show a+(a+(j+d))=a+d+(a+j) by exact XC _ _ _)
end
theorem HN{x y z:List Nat}:xx (x++y++z).toArray x.length (x.length+y.length)=(x++y.reverse++z).toArray:=by
 unfold xx
 refine O9 λk=>?_
 rw[getElem?_mirror_all (by rw[Po,bR,bR];exact cy _ _),nt,nt,nt]
 revert k
 refine Ha (a:=x.length) (b:=y.length) (λk h=>?_) (λj h=>?_) (λj=>?_)
 ·rw[be λq=>aZ q.1 (kH.mpr h),xj h,xj h]
 ·refine(NX h).elim λd hd=>?_
  rw[bo ⟨cy _ _,vQ h _⟩,rS (y:=y.reverse) (by rw[i8];exact h),o0 h]
  rw[(hd▸(Wa _ _ _):x.length+(x.length+y.length)-1-(x.length+j)=x.length+d),rS (by rw[hd];exact jW (jz _ _)),hd,zB,k6]
 ·rw[be λq=>aZ q.2 (de.mpr (fh (cy _ _) _)),tX]
  rw[<-i8 (as:=y),tX]
theorem Q7{u v w:List Nat}{e:Nat}:bubble (u++v++e::w).toArray (u.length+v.length) (u.length+v.length-u.length)=(u++e::v++w).toArray:=by
 refine O9 λk=>?_
 rw[getElem?_bubble (by simp only[Po,bR,bR];exact sW (eA _)) _ (ri _ _),Nat.sub_sub_self (cy _ _),nt,nt,nt,nt]
 revert k
 refine Ha (a:=u.length) (b:=v.length+1) (λk h=>?_) (λj h=>?_) (λj=>?_)
 ·rw[be (eB h),be λq=>aZ q.1 (de.mpr (bd h)),xj h,xj h]
 ·induction j with
  |zero=>
   rw[bo (Gk _),rS (y:=e::v) (eA _)]
   exact tX (i:=0)
  |succ j=>
   rw[be (jB (sW (eA _))),bo ⟨sW (eA _),fh (o_ h) _⟩,rS (y:=e::v) h]
   exact rS (N3 h)
 ·rw[be (jB (sW (cg (eA _) (cy _ _)))),be λq=>aZ q.2 (kH.mpr (vQ (cg (gW _) (cy _ _)) _))]
  refine Eq.trans ?_ (tX (y:=e::v) (i:=j)).symm
  rw[Nat.succ_add]
  exact tX (i:=j+1)
noncomputable def c9(N n:Nat)(a:List Nat):List Nat:=a++hV n (N-n)
theorem Db{N:Nat}(h:n<N):N-n=N-(n+1)+1:=(vV (Pe h)).symm
theorem Bk{l:List Nat}{k x:Nat}(h:l[k]?=aa x):l.toArray.getD k 0=x:=by simp only[NH,nt,h];rfl
theorem Bl{N:Nat}{a:List Nat}(hl:a.length=n){k:Nat}(Y:n<=k)(W:k<N):(c9 N n a).toArray.getD k 0=k:=by
 refine(qx Y).elim λj V=>?_;subst V
 subst hl
 refine Bk ?_
 unfold c9
 rw[oZ Y,k6,List.getElem?_range' (Nat.lt_sub_of_add_lt (gL _ _▸W)),po]
theorem Wb{N:Nat}{a:List Nat}{k:Nat}(h:k<a.length):(c9 N n a).toArray.getD k 0=a[k]:=Bk ((qr h).trans (dt h))
theorem py{N:Nat}{a:List Nat}(h:n<N):c9 N n a=c9 N (n+1) (a++[n]):=by
 unfold c9
 simp only[Db h,Fk,c6];rfl
theorem AZ{N:Nat}{a:List Nat}{e:Nat}(hl:(a++[e]).length=n):(c9 N n (a++[e])).toArray.getD (n-1) 0=e:=by
 subst hl
 simp only[bR,Of,zB]
 exact Bk (rS (x:=a) (y:=[e]) (i:=0) tG)
structure dI(lt:Nat->Nat->Bool)(n:Nat)(a:List Nat):Prop where
 len:a.length=n
 js:∀x∈a,x<n
 pw:a.Pairwise (iY lt)
 nd:a.Nodup
theorem Wc{a:List Nat}(h:a.Nodup)(hl:∀x∈a,x<n):(a++[n]).Nodup:=
 kE.mpr ⟨h,my _ _,λx V y Y e=>eB (hl x V) (e.trans (a_.mp Y))⟩
theorem Wd{a:List Nat}(hl:∀x∈a,x<n):∀x∈a++[n],x<n+1:=λx V=>(cQ.mp V).elim (λh=>lP (hl x h)) λh=>a_.mp h▸gW _
theorem IE{a:List α}{x:α}(h:a.length=n):(a++[x]).length=n+1:=by simp only[bR,h];rfl
theorem dI.snoc(W:gf lt){a:List Nat}{e:Nat}(h:dI lt n (a++[e]))(Z:lt n e=aI):dI lt (n+1) (a++[e]++[n]):=by
 refine⟨IE h.len,Wd h.js,lJ.mpr ⟨h.pw,my _ _,λx V y H=>?_⟩,Wc h.nd h.js⟩
 rw[a_.mp H]
 have Y:iY lt e n:=⟨Z,.inr (h.js e (o3 _ bi))⟩
 rcases cQ.mp V with V|V
 ·exact iY.trans W ((lJ.mp h.pw).2.2 x V e bi) Y
 ·exact a_.mp V▸Y
theorem AJ{c:List α}(h:c≠[]):∃c' l,c=c'++[l]:=⟨c.dropLast,c.getLast h,(y_ h).symm⟩
structure qa(lt:Nat->Nat->Bool)(N n:Nat)(a:List Nat)(m:Nat):Prop where
 ge:n<=m
 le:m<=N
 ML:dI lt m (a++hV n (m-n))
 end_:m<N->∀x∈(a++hV n (m-n)).getLast?,lt m x=ae
theorem qa.stop{N:Nat}{a:List Nat}(S:dI lt n a)(h:n<=N)(V:n<N->∀x∈a.getLast?,lt n x=ae):qa lt N n a n:=by
 have e:a++hV n (n-n)=a:=by rw[tE];exact cR a
 exact⟨bv _,h,by rw[e];exact S,by rw[e];exact V⟩
theorem qa.more{N:Nat}{a:List Nat}(h:qa lt N (n+1) (a++[n]) m):qa lt N n a m:=by
 have e:a++[n]++hV (n+1) (m-(n+1))=a++hV n (m-n):=by simp only[Db h.ge,Fk,c6];rfl
 exact⟨bd h.ge,h.le,e▸h.ML,e▸h.end_⟩
theorem rT{f N:Nat}(h:n+(f+1)=N):n<N:=h▸sW (eA f)
theorem CE{f N:Nat}(h:n+(f+1)=N):n+1+f=N:=(Nat.succ_add_eq_add_succ n f).trans h
theorem Ju(W:gf lt){N:Nat}(f n:Nat)(a:List Nat)(H:1<=n)(V:n+f=N)(S:dI lt n a):qa lt N n a (f8 lt (BE (c9 N n a).toArray f n)):=by
 induction f generalizing n a with
 |zero=>exact .stop S (bn V) λh=>aZ V (eB h)
 |succ f G=>
  obtain⟨Z,e,rfl⟩:=AJ (c:=a) λq=>aZ (S.len.symm.trans (aQ gk q)) (jB H)
  show qa lt N n _ (f8 lt (if lt ((c9 N n (Z++[e])).toArray.getD n 0) ((c9 N n (Z++[e])).toArray.getD (n-1) 0)=ae then _ else _))
  rw[Bl S.len (bv _) (rT V),AZ S.len]
  by_cases Y:lt n e=ae
  ·rw[bo Y]
   refine .stop S (bd (rT V)) λ_ x C=>?_
   exact aW (Oy.symm.trans C)▸Y
  ·rw[be Y,py (rT V)]
   exact(G (n+1) _ (jz _ _) (CE V) (S.snoc W (qN _▸Y))).more
structure lE(lt:Nat->Nat->Bool)(n:Nat)(b c:List Nat):Prop where
 len:b.length+c.length=n
 ne:c≠[]
 bl:∀x∈b,x<n
 cl:∀x∈c,x<n
 bc:∀x∈b,∀y∈c,x<y
 ym:∀x∈c,∀y∈c,lt x y=aI
 pw:(c++b.reverse).Pairwise (iY lt)
 nd:(c++b.reverse).Nodup
theorem lE.down(W:gf lt){b c:List Nat}(D:lE lt n b c){l:Nat}(hl:l∈c)(h:lt n l=ae):lE lt (n+1) (b++c.reverse) [n]:=by
 have Z:∀x∈c,lt n x=ae:=λx V=>by
  induction q:lt n x with
  |true=>rfl
  |false=>have:=W.kO _ _ _ q (D.ym x V l hl);exact tf (h.symm.trans this)
 have H:∀x∈b,lt n x=ae:=λx V=>by
  induction q:lt n x with
  |true=>rfl
  |false=>
   have:=(lJ.mp D.pw).2.2 l hl x (by simpa using V)
   have:=W.kO _ _ _ q this.1;exact tf (h.symm.trans this)
 have all:∀x∈c++b.reverse,x<n:=λx V=>by
  rcases cQ.mp V with V|V
  ·exact D.cl x V
  ·exact D.bl x (by simpa using V)
 have e:[n]++(b++c.reverse).reverse=n::(c++b.reverse):=by simp
 refine⟨?_,by simp,λx V=>?_,by simp,λx V y Y=>?_,λx V y Y=>?_,?_,?_⟩
 ·have:=D.len;simp;exact lc (bn this) (bn this.symm)
 ·have:=all x (by simp at V⊢;exact V.symm);exact cg this (cy _ _)
 ·have:y=n:=a_.1 Y
  subst this
  exact all x (by simp at V⊢;exact V.symm)
 ·have G:x=n:=a_.1 V
  have C:y=n:=a_.1 Y
  simp only[G,C]
  induction q:lt n n with
  |false=>rfl
  |true=>have:=W.sy _ _ q;exact tf (q.symm.trans this)
 ·rw[e]
  refine fU.mpr ⟨λx V=>?_,D.pw⟩
  have q:lt n x=ae:=by
   rcases cQ.mp V with V|V
   ·exact Z x V
   ·exact H x (by simpa using V)
  exact⟨W.sy _ _ q,.inl q⟩
 ·rw[e]
  refine gH.mpr ⟨λV=>?_,D.nd⟩
  have:=all n V;exact gK _ this
theorem lE.same(W:gf lt){b c:List Nat}(D:lE lt n b c){l:Nat}(hl:l∈c)(h:lt n l=aI)(h':lt l n=aI):lE lt (n+1) b (c++[n]):=by
 have B:lt n n=aI:=by
  induction q:lt n n with
  |false=>rfl
  |true=>have:=W.sy _ _ q;exact tf (q.symm.trans this)
 have c1:∀x∈c,lt n x=aI:=λx V=>W.kO _ _ _ h (D.ym l hl x V)
 have Z:=lJ.mp D.pw
 refine⟨?_,by simp,λx V=>?_,λx V=>?_,λx V y Y=>?_,λx V y Y=>?_,?_,?_⟩
 ·have:=D.len;simp;exact XI (by assumption)
 ·have:=D.bl x V;exact cg this (cy _ _)
 ·rcases cQ.mp V with V|V
  ·have:=D.cl x V;exact cg this (cy _ _)
  ·have:x=n:=a_.1 V
   exact aV (bn this) (gW _)
 ·rcases cQ.mp Y with Y|Y
  ·exact D.bc x V y Y
  ·have:y=n:=a_.1 Y
   subst this;exact D.bl x V
 ·rcases cQ.mp V with V|V<;>rcases cQ.mp Y with Y|Y
  ·exact D.ym x V y Y
  ·have e:y=n:=a_.1 Y
   rw[e];exact(λx V=>W.kO _ _ _ (D.ym x V l hl) h':∀x∈c,lt x n=aI) x V
  ·have e:x=n:=by simpa using V
   rw[e];exact c1 y Y
  ·have C:x=n:=by simpa using V
   have f:y=n:=a_.1 Y
   simp only[C,f];exact B
 ·rw[c6,lJ]
  refine⟨Z.1,?_,λx V y Y=>?_⟩
  ·rw[Og,fU]
   refine⟨λx V=>?_,Z.2.1⟩
   have q:=Z.2.2 l hl x V
   have H:x∈b:=by simpa using V
   have lx:lt l x=ae:=by
    rcases q.2 with q|q
    ·exact q
    ·have:=D.bc x H l hl;omega
   refine⟨W.kO _ _ _ q.1 h',.inl ?_⟩
   induction q2:lt n x with
   |true=>rfl
   |false=>have:=W.kO _ _ _ h' q2;exact tf (lx.symm.trans this)
  ·rcases cQ.mp Y with Y|Y
   ·obtain rfl:=(a_.1 Y).symm
    exact⟨c1 x V,.inr (D.cl x V)⟩
   ·exact Z.2.2 x V y Y
 ·rw[c6,kE]
  have G:=kE.mp D.nd
  refine⟨G.1,?_,λx V y Y e=>?_⟩
  ·rw[Og,gH]
   refine⟨λV=>?_,G.2.1⟩
   have:=D.bl n (by simpa using V);exact gK _ this
  ·rcases cQ.mp Y with Y|Y
   ·have C:y=n:=a_.1 Y
    have:=D.cl x V;omega
   ·exact G.2.2 x V y Y e
theorem IF{N:Nat}{b c:List Nat}(hl:b.length+c.length=n)(q:Nat)(V:c.length=q+1):xx (c9 N n (b++c)).toArray (n-(q+1)) n=(c9 N n (b++c.reverse)).toArray:=by
 subst hl
 rw[<-V,zB]
 exact HN
inductive sh(lt:Nat->Nat->Bool)(N n:Nat)(r:Array Nat×Nat×Nat):Prop
 |mk (n' q' b' c':_) (e:r=((c9 N n' (b'++c')).toArray,n',q')) (ge:n<=n') (le:n'<=N) (hq:c'.length=q'+1) (D:lE lt n' b' c')
theorem sh.more{N:Nat}{r:Array Nat×Nat×Nat}(h:sh lt N (n+1) r):sh lt N n r:=let ⟨V,Y,W,c',e,ge,le,Z,D⟩:=h;⟨V,Y,W,c',e,bd ge,le,Z,D⟩
set_option tactic.hygienic true in
theorem Ur(W:gf lt){N:Nat}(f n q:Nat)(b c:List Nat)(G:n+f=N)(Z:c.length=q+1)(D:lE lt n b c):sh lt N n (f8 lt (kas_desc f (c9 N n (b++c)).toArray n q)):=by
 induction f generalizing n q b c with
 |zero=>exact⟨n,q,b,c,rfl,bv _,bn G,Z,D⟩
 |succ f ih=>
  have V:=rT G
  have next:=λq b c=>ih (n+1) q b c (CE G)
  obtain⟨c',l,rfl⟩:=AJ D.ne
  have hl:l∈c'++[l]:=o3 _ bi
  have Y:(b++c'++[l]).length=n:=by rw[c6,bR];exact D.len
  have g1:=Bl (N:=N) Y (bv _) V
  have g2:=AZ (N:=N) Y
  rw[c6] at g1 g2
  show sh lt N n (f8 lt (if lt ((c9 N n (b++(c'++[l]))).toArray.getD n 0) ((c9 N n (b++(c'++[l]))).toArray.getD (n-1) 0)=ae then _ else .ask ((c9 N n (b++(c'++[l]))).toArray.getD (n-1) 0) ((c9 N n (b++(c'++[l]))).toArray.getD n 0) _))
  rw[g1,g2]
  by_cases H:lt n l=ae
  ·rw[bo H]
   by_cases C:q>0
   ·rw[bo C,IF D.len q Z,py V]
    exact(next 0 _ [n] rfl (D.down W hl H)).more
   ·rw[be C]
    have B:c'=[]:=lI.mp (N4 λh=>C (by exact pi (bR.symm.trans Z)▸h))
    subst B
    exact(py V)▸((next 0 _ [n] rfl (D.down W hl H)).more)
  ·rw[be H]
   show sh lt N n (f8 lt (if lt l n=ae then _ else _))
   by_cases h2:lt l n=ae
   ·rw[bo h2]
    exact⟨n,q,b,c'++[l],rfl,bv _,bd V,Z,D⟩
   ·rw[be h2,py V,c6]
    exact(next (q+1) b _ (IE Z) (D.same W hl (qN _▸H) (qN _▸h2))).more
end
section
variable {lt:Nat->Nat->Bool}
inductive sB(lt:Nat->Nat->Bool)(N:Nat)(r:Nat×Array Nat):Prop
 |mk (m a:_) (e:r=(m,(c9 N m a:_).toArray)) (h1:1<=m) (h2:m<=N) (S:dI lt m a)
theorem dI.X'{b c:List Nat}(D:lE lt n b c):dI lt n (c++b.reverse):=
 ⟨by simp only[bR,i8,gL];exact D.len,λx V=>(cQ.mp V).elim (D.cl x) λh=>D.bl x (iK.mp h),D.pw,D.nd⟩
theorem IG{N:Nat}{a:List Nat}(hl:a.length=n):xx (c9 N n a).toArray 0 n=(c9 N n a.reverse).toArray:=by
 subst hl
 have:=HN (x:=[]) (y:=a) (z:=hV a.length (N-a.length))
 simp only[wl,fA] at this
 exact this
theorem HO{N:Nat}{a:List Nat}(Y:n<=m)(W:m<=N):c9 N n a=c9 N m (a++hV n (m-n)):=by
 refine(qx Y).elim λd V=>?_;subst V
 obtain⟨t,rfl⟩:=qx W
 unfold c9
 rw[c6,k6,k6,vK,eS,k6]
theorem HP(W:gf lt){N:Nat}{a:List Nat}(V:1<=n)(Y:n<=N)(S:dI lt n a.reverse):sB lt N (f8 lt (HB n N (c9 N n a).toArray)):=by
 unfold HB
 rw[rD,IG (i8.symm.trans S.len)]
 have A:=Ju W (N:=N) (N-n) n a.reverse V (lL Y) S
 generalize f8 lt (BE (c9 N n a.reverse).toArray (N-n) n)=m at A
 exact⟨m,_,aQ (λl:List Nat=>(m,l.toArray)) (HO A.ge A.le),aD V A.ge,A.le,A.ML⟩
theorem GD(W:gf lt){N:Nat}{b:List Nat}(C:n+1<=N)(D:lE lt (n+1) b [n]):sB lt N (f8 lt (Gn n N (c9 N (n+1) (b++[n])).toArray)):=by
 unfold Gn
 rw[rD]
 obtain⟨m,q,B,c',e,ge,le,Z,H⟩:=Ur W (N:=N) (N-(n+1)) (n+1) 0 b [n] (lL C) rfl D
 refine e▸?_
 have S:dI lt m (B++c'.reverse).reverse:=by
  rw[EO,vL]
  exact .X' H
 have G:1<=m:=aD (jz _ _) ge
 by_cases V:q>0
 ·rw[bo V,IF H.len q Z]
  exact HP W G le S
 ·rw[be V]
  refine(Ex.mp (Z.trans (aQ (·+1) (N4 V)))).elim λl Y=>?_;subst Y
  exact HP W G le S
theorem gf.yE(W:gf lt)(a:Nat):lt a a=aI:=by
 induction q:lt a a with
 |false=>rfl
 |true=>exact q.symm.trans (W.sy _ _ q)
theorem gf.up(W:gf lt){a:Nat}(h:lt a c=ae)(h':lt b c=aI):lt a b=ae:=by
 induction q:lt a b with
 |true=>rfl
 |false=>exact(W.kO _ _ _ q h').symm.trans h
theorem dI.below(W:gf lt){a:List Nat}(S:dI lt m a)(h:∀x∈a,lt m x=ae):lE lt (m+1) a.reverse [m]:=
 ⟨by rw[i8,S.len];rfl,mG _ _,λx V=>lP (S.js x (iK.mp V)),λx V=>a_.mp V▸gW _,λx V y Y=>a_.mp Y▸S.js x (iK.mp V),λx V y Y=>by rw[a_.mp V,a_.mp Y];exact W.yE m,
  by rw[vL];exact fU.mpr ⟨λx V=>⟨W.sy _ _ (h x V),.inl (h x V)⟩,S.pw⟩,by rw[vL];exact gH.mpr ⟨λq=>gK _ (S.js m q),S.nd⟩⟩
theorem S6(W:gf lt){N:Nat}(B:1<=N):sB lt N (f8 lt (HC N (QV (dK N)))):=by
 rw[show dK N=c9 N 1 [0] from List.range_eq_range'.trans (py (n:=0) (a:=[]) B)]
 unfold HC
 rw[rD]
 have A:=Ju W (N:=N) (N-1) 1 [0] (bv _) (lL B) ⟨rfl,λx V=>a_.mp V▸tG,my _ _,my _ _⟩
 generalize f8 lt (BE (c9 N 1 [0]).toArray (N-1) 1)=m at A
 obtain⟨ge,le,S,en⟩:=A
 refine(HO ge le)▸?_
 by_cases G:(m==N)=ae
 ·rw[bo G];exact(⟨m,_,rfl,ge,le,S⟩:sB lt N (m,(c9 N m ([0]++hV 1 (m-1))).toArray))
 ·rw[be G]
  have Y:m<N:=OS le λe=>G (beq_iff_eq.mpr e)
  obtain⟨f,z,Z⟩:=AJ (c:=[0]++hV 1 (m-1)) nofun
  have H:lt m z=ae:=en Y z (by rw[Z,Oy];rfl)
  by_cases C:m>1
  ·rw[bo C]
   have g1:(c9 N m ([0]++hV 1 (m-1))).toArray.getD (m-1) 0=z:=by exact Z▸(AZ (by exact Z▸S.len))
   show sB lt N (f8 lt (if lt 0 ((c9 N m ([0]++hV 1 (m-1))).toArray.getD (m-1) 0)=ae then _ else _))
   rw[g1]
   by_cases q:lt 0 z=ae
   ·rw[bo q];exact(⟨m,_,rfl,ge,le,S⟩:sB lt N (m,(c9 N m ([0]++hV 1 (m-1))).toArray))
   ·rw[be q,IG S.len,py Y]
    refine GD W Y (S.below W λx V=>W.up H (W.kO _ 0 _ ?_ (qN _▸q)))
    rcases bT.mp V with rfl|V
    ·exact W.yE 0
    ·exact((fU.mp S.pw).1 x V).1
  ·rw[be C]
   obtain rfl:=lc (de.mp C) ge
   have H:lt 1 0=ae:=by cases List.append_inj_right' (show []++[0]=f++[z] from Z) rfl;exact H
   exact(py Y)▸(GD W Y (S.below W λx V=>a_.mp V▸H))
theorem half(h:i<j):i<=(i+j)/2/\(i+j)/2<j:=⟨(Nat.le_div_iff_mul_le wA).mpr (Nat.mul_two i▸fh (bd h) i),vM (Ri j▸Ov h j)⟩
structure yF(lt:Nat->Nat->Bool)(k:Nat)(a:List Nat)(m:Nat):Prop where
 le:m<=k
 lo:∀x∈a.take m,lt k x=aI
 hi:∀x∈a.drop m,lt k x=ae
theorem S7(W:gf lt){N k:Nat}{a:List Nat}(hk:k<N)(S:dI lt k a)(f l r:Nat)(C:r-l<=f)(Z:l<=r)(hr:r<=k)(B:∀x∈a.take l,lt k x=aI)(h2:∀x∈a.drop r,lt k x=ae):
 yF lt k a (f8 lt (AQ (c9 N k a).toArray k f l r)):=by
 induction f generalizing l r with
 |zero=>
  obtain rfl:=lc Z (Nat.sub_eq_zero_iff_le.mp (Nat.le_zero.mp C))
  exact⟨hr,B,h2⟩
 |succ f ih=>
  show yF lt k a (f8 lt (if l>=r then .ret l else .ask ((c9 N k a).toArray.getD k 0) ((c9 N k a).toArray.getD ((l+r)/2) 0) _))
  by_cases G:l>=r
  ·rw[bo G]
   obtain rfl:=lc Z G
   exact⟨hr,B,h2⟩
  ·rw[be G]
   refine(half (kH.mp G)).elim λH Y=>?_
   generalize (l+r)/2=d at H Y
   have hd:d<a.length:=S.len▸cg Y hr
   rw[Bl S.len (bv _) hk,Wb hd]
   have pw:=S.pw
   rw[<-kA d a,qv hd] at pw
   show yF lt k a (f8 lt (if lt k a[d]=ae then _ else _))
   by_cases q:lt k a[d]=ae
   ·rw[bo q]
    refine ih l d (o_ (cg (Oz H Y) C)) H (aD (bd Y) hr) B λx V=>?_
    rw[qv hd] at V
    rcases bT.mp V with rfl|V
    ·exact q
    ·exact W.up q ((fU.mp (lJ.mp pw).2.1).1 x V).1
   ·rw[be q]
    refine ih (d+1) r (o_ (cg (zo (aV H Y) (jW H)) C)) Y hr (λx V=>?_) h2
    rw[List.take_succ_eq_append_getElem hd] at V
    rcases cQ.mp V with V|V
    ·exact W.kO _ _ _ (qN _▸q) ((lJ.mp pw).2.2 x V _ bi).1
    ·exact a_.mp V▸(qN _▸q)
theorem dI.put(W:gf lt){k:Nat}{a:List Nat}(S:dI lt k a)(P:yF lt k a m):dI lt (k+1) (a.take m++k::a.drop m):=by
 have e:=kA m a
 have G:∀x∈a,x<k+1:=λx V=>lP (S.js x V)
 have len:=aQ gk e
 rw[bR] at len
 have Z:=lJ.mp (e.symm▸S.pw)
 have H:=kE.mp (e.symm▸S.nd)
 have C:∀x∈a,x≠k:=λx V=>eB (S.js x V)
 refine⟨?_,λx V=>?_,lJ.mpr ⟨Z.1,fU.mpr ⟨λy Y=>⟨W.sy _ _ (P.hi y Y),.inl (P.hi y Y)⟩,Z.2.1⟩,λx V y Y=>?_⟩,kE.mpr ⟨H.1,gH.mpr ⟨λh=>C k (vN h) rfl,H.2.1⟩,λx V y Y=>?_⟩⟩
 ·simp only[bR,gF,<-eS,len,S.len]
 ·rcases cQ.mp V with V|V
  ·exact G x (mB V)
  ·rcases bT.mp V with rfl|V
   ·exact gW _
   ·exact G x (vN V)
 ·rcases bT.mp Y with rfl|Y
  ·exact⟨P.lo x V,.inr (S.js x (mB V))⟩
  ·exact Z.2.2 x V y Y
 ·rcases bT.mp Y with rfl|Y
  ·exact C x (mB V)
  ·exact H.2.2 x V y Y
theorem Rv{N k:Nat}{a:List Nat}(Y:k<N)(hl:a.length=k)(V:m<=k):bubble (c9 N k a).toArray k (k-m)=(c9 N (k+1) (a.take m++k::a.drop m)).toArray:=by
 have h:=Q7 (u:=a.take m) (v:=a.drop m) (e:=k) (w:=hV (k+1) (N-(k+1)))
 simp only[Ey (hl▸V),qP,hl,lL V,kA] at h
 unfold c9
 rw[Db Y,Fk]
 exact h
theorem Jv(W:gf lt){N:Nat}(f k:Nat)(a:List Nat)(V:k+f=N)(S:dI lt k a):∃b,f8 lt (kas_bin f (c9 N k a).toArray k)=b.toArray/\dI lt N b:=by
 induction f generalizing k a with
 |zero=>
  subst V
  exact⟨a,by show (a++hV k (k-k)).toArray=_;rw[tE];exact aQ _ (cR a),S⟩
 |succ f Y=>
  have P:=S7 W (rT V) S k 0 k (ri _ _) (ck _) (bv _) nofun (by rw[N5 (bn S.len)];nofun)
  show ∃b,f8 lt ((AQ (c9 N k a).toArray k k 0 k).bind _)=_/\_
  rw[rD,Rv (rT V) S.len P.le]
  exact Y (k+1) _ (CE V) (S.put W P)
theorem IH(W:gf lt){N:Nat}(Y:1<=N):∃b,f8 lt (Iv N)=b.toArray/\dI lt N b:=by
 unfold Iv
 rw[rD]
 obtain⟨m,a,e,Z,V,S⟩:=S6 W Y
 refine e▸?_
 by_cases h:m<N
 ·rw[bo h,PS Z]
  exact Jv W (N-m) m a (lL V) S
 ·rw[be h]
  obtain rfl:=lc V (de.mp h)
  exact Jv W 0 _ a rfl S
theorem S8{b l:List Nat}(h:b.Nodup)(hs:∀x∈b,x∈l):b.length<=l.length:=by
 induction b generalizing l with
 |nil=>exact ck _
 |cons x b W=>
  have h:=gH.mp h
  have V:=hs x bi
  exact aD (nF ((Ew V)▸(W (l:=l.erase x) h.2 λy Y=>(EI (λe=>h.1 (by exact e▸Y))).mpr (hs y (bM _ Y))))) (bn (vV (Ez V)))
theorem dI.perm{N:Nat}{b:List Nat}(S:dI lt N b):b.Perm (dK N):=by
 refine(Er S.nd zO).mpr λx=>⟨λV=>gi.mpr (S.js x V),λV=>ba λh=>?_⟩
 have W:=S8 (b:=x::b) (l:=dK N) (gH.mpr ⟨h,S.nd⟩) λy Y=>(bT.mp Y).elim (λe=>e▸V) λY=>gi.mpr (S.js y Y)
 simp only[kD,gF,S.len] at W
 exact gK _ W
end
noncomputable def jt{α:Type}(N:Nat)(R:α->Prop):sr α->Prop
 |.ret a=>R a
 |.ask i j k=>i<N/\j<N/\∀b,jt N R (k b)
theorem jt.bind{N:Nat}{R:α->Prop}{R':β->Prop}{f:α->sr β}:∀{t:sr α},jt N R t->(∀a,R a->jt N R' (f a))->jt N R' (t.bind f)
 |.ret a,h,V=>V a h
 |.ask i j k,h,V=>⟨h.1,h.2.1,λb=>jt.bind (h.2.2 b) V⟩
def gV(N:Nat)(p:Array Nat):Prop:=∀x∈p.toList,x<N
section
variable {N:Nat} {p:Array Nat}
theorem gV.get(h:gV N p)(V:0<N)(k:Nat):p.getD k 0<N:=by
 rw[NH]
 induction q:p[k]? with
 |none=>exact V
 |some x=>exact h x (by simpa using Array.mem_of_getElem? q)
theorem gV.perm{q:Array Nat}(h:gV N p)(V:q.Perm p):gV N q:=λx Y=>h x ((Array.perm_iff_toList_perm.mp V).mem_iff.mp Y)
theorem gV.rev(h:gV N p)(i j:Nat):gV N (xx p i j):=h.perm (mirror_perm _ _ _ _)
theorem Cd(V:0<N)(h:gV N p):∀f n,jt N (λ_=>True) (BE p f n)
 |0,n=>trivial
 |f+1,n=>⟨h.get V _,h.get V _,λb=>by
  induction b with
  |true=>exact trivial
  |false=>exact Cd V h f (n+1)⟩
theorem xA(V:0<N):∀f (p:Array Nat) n q,gV N p->jt N (λr:Array Nat×Nat×Nat=>gV N r.1) (kas_desc f p n q)
 |0,p,n,q,h=>h
 |f+1,p,n,q,h=>⟨h.get V _,h.get V _,λb=>by
  induction b with
  |true=>
   split
   ·exact xA V f _ _ _ (h.rev _ _)
   ·exact xA V f _ _ _ h
  |false=>
   refine⟨h.get V _,h.get V _,λd=>?_⟩
   induction d with
   |true=>exact h
   |false=>exact xA V f _ _ _ h⟩
theorem II(V:0<N)(h:gV N p)(n m:Nat):jt N (λr:Nat×Array Nat=>gV N r.2) (HB n m p):=(Cd V (h.rev _ _) _ _).bind λ_ _=>h.rev _ _
theorem GW(V:0<N)(h:gV N p)(n m:Nat):jt N (λr:Nat×Array Nat=>gV N r.2) (Gn n m p):=(xA V _ p _ _ h).bind λr hr=>by
 split
 ·exact II V (gV.rev hr _ _) _ _
 ·exact II V hr _ _
theorem Us(V:0<N)(h:gV N p)(m:Nat):jt N (λr:Nat×Array Nat=>gV N r.2) (HC m p):=(Cd V h _ _).bind λn _=>by
 split
 ·exact h
 ·split
  ·refine⟨h.get V _,h.get V _,λb=>?_⟩
   induction b with
   |true=>exact h
   |false=>exact GW V (h.rev _ _) _ _
  ·exact GW V h _ _
theorem Bm(V:0<N)(h:gV N p)(k:Nat):∀f l r,jt N (λ_=>True) (AQ p k f l r)
 |0,l,r=>trivial
 |f+1,l,r=>by
  dsimp only[AQ]
  split
  ·exact trivial
  ·refine⟨h.get V _,h.get V _,λb=>?_⟩
   induction b with
   |true=>exact Bm V h k f _ _
   |false=>exact Bm V h k f _ _
theorem Kj(V:0<N):∀f (p:Array Nat) k,gV N p->jt N (λ_=>True) (kas_bin f p k)
 |0,p,k,h=>trivial
 |f+1,p,k,h=>(Bm V h k _ _ _).bind λl _=>Kj V f _ _ (h.perm (bubble_perm _ _ _))
theorem Jw(V:0<N):jt N (λ_=>True) (Iv N):=(Us V (p:=QV (dK N)) (λx Y=>by simpa using Y) N).bind λr hr=>by
 split
 ·exact Kj V _ _ _ hr
 ·exact trivial
end
structure fZ(aw:av)(a:ag)(af:List ai)(s:av)(g:aY):Prop where
 new:aw.heap.get? a=ak
 off:g a=ak
 at_:∃n,s.heap.get? a=aa (seqObj "list" af.toArray n)
structure SA(w:a9)(aw:av)(aE:aY)(s:av)(g:aY):Prop where
 gR:St w aw aE
 nx:Nx [] aw aE s g
 st:St w s g
section
variable {w:a9} {aw s s':av} {aE g g':aY}
theorem SA.step(X:SA w aw aE s g)(N:Nx [] s g s' g')(S:St w s' g'):SA w aw aE s' g':=⟨X.gR,X.nx.trans N,S⟩
theorem fZ.step{af:List ai}(O:fZ aw a af s g)(S:St w s g)(N:Nx [] s g s' g'):fZ aw a af s' g':=by
 refine O.at_.elim λn e=>?_
 exact⟨O.new,N.old _ _ e O.off (by simp),n,N.get S e (.inl (by simp)) (by simp)⟩
theorem SA.set(X:SA w aw aE s g){af:List ai}(O:fZ aw a af s g)(f:Array ai->Array ai):
 SA w aw aE {s with heap:=s.heap.update a (ja f),toks:=tk} g/\fZ aw a (f af.toArray).toList {s with heap:=s.heap.update a (ja f),toks:=tk} g/\
  ∀b V,b≠a->fZ aw b V s g->fZ aw b V {s with heap:=s.heap.update a (ja f),toks:=tk} g:=by
 refine O.at_.elim λn e=>?_
 have H:=gE s.heap a (ja f)
 refine(St.changes (mt:=[a]) (h':=s.heap.update a (ja f)) (tk:=tk) X.gR X.st X.nx dq.nil (λb Y=>by
  have:b=a:=a_.1 Y
  subst this
  exact⟨.inl O.new,O.off,_,e,cV.of λvs q=>by cases q⟩) (λb o Y W=>(H.2 b (by simpa using Y)).trans W)).elim λN G=>?_
 refine⟨⟨X.gR,X.nx.over N λb Y=>?_,G⟩,⟨O.new,O.off,(if (f af.toArray).size==af.toArray.size then n else n+1),?_⟩,λb V Y Z=>?_⟩
 ·have:b=a:=a_.1 Y
  subst this;exact .inl O.new
 ·have:=FD e f
  exact this
 ·refine Z.at_.elim λC W=>?_
  exact⟨Z.new,Z.off,C,(H.2 b Y).trans W⟩
theorem SA.push(X:SA w aw aE s g)(o:Obj):SA w aw aE {s with heap:=s.heap.push o,toks:=tk} g/\∀b V,fZ aw b V s g->fZ aw b V {s with heap:=s.heap.push o,toks:=tk} g:=by
 refine(X.st.ext' (h':=s.heap.push o) (tk:=tk) λb W e=>bZ _ e).elim λN Y=>?_
 exact⟨X.step N Y,λb V O=>O.step X.st N⟩
theorem SA.newList(X:SA w aw aE s g)(af:List ai):fZ aw s.heap.objs.size af {s with heap:=s.heap.push (seqObj "list" af.toArray 0),toks:=tk} g:=by
 have V:=hY X.st (a:=s.heap.objs.size) (bv _)
 refine⟨?_,V.2,0,cB _ rfl⟩
 induction q:aw.heap.get? s.heap.objs.size with
 |none=>rfl
 |some o=>obtain⟨W,Y⟩:=X.nx.there _ _ q (ca);exact ns (V.1.symm.trans Y)
theorem A0{N:Nat}{R:α->Prop}{Ni:Nat->Nat->(Bool->av->Prop)->av->Prop}{lt:Nat->Nat->Bool}(h:∀i j C,i<N->j<N->C (lt i j) s->Ni i j C s){Q:α->av->Prop}:∀t:sr α,jt N R t->Q (f8 lt t) s->t.kasWp Ni Q s
 |.ret a,_,V=>V
 |.ask i j k,Y,V=>h i j _ Y.1 Y.2.1 (A0 h (k (lt i j)) (Y.2.2 _) V)
end
noncomputable def ltZ(kz:List Int)(i j:Nat):Bool:=decide (kz.getD i 0<kz.getD j 0)
theorem Kk(kz:List Int):gf (ltZ kz):=⟨λa b h=>by simp[ltZ] at*;exact du h,λa b c h h'=>by simp[ltZ] at*;exact dh h' h⟩
theorem GF{ns:List Int}(h:IntsAre vs ns)(hi:i<vs.length):∃t,vs.getD i fB=.int (ns.getD i 0) t:=by
 induction h generalizing i with
 |nil=>exact aZ hi (zV _)
 |cons n t h V=>
  induction i with
  |zero=>exact⟨t,rfl⟩
  |succ i _=>exact V (N3 hi)
section
variable {w:a9} {A:bN} {E:ai->av->Prop} {aw s:av} {aE g:aY}
theorem mZ(h:n<64):n<=sizeLine:=pr▸bd (eK h (by simp))
theorem HQ{lt:Nat->Nat->Bool}(h:n<2):dI lt n (dK n):=⟨kD,λ_=>gi.mp,by
 induction n with
 |zero=>exact .nil
 |succ n=>induction n with
  |zero=>exact my _ _
  |succ n=>exact aZ h (de.mpr (jz 2 n)),zO⟩
theorem z9:∀vs:List ai,((dK vs.length).map λi=>vs.getD i fB)=vs
 |[]=>rfl
 |v::vs=>by
  simp only[gF,List.range_succ_eq_map,d7,cJ]
  exact aQ (v::·) (z9 vs)
theorem HR{V:List ai}(hl:V.length=vs.length):(V.toArray.zip vs.toArray).map (·.2)=((dK vs.length).map λi=>vs.getD i fB).toArray:=by
 simp only[List.zip_toArray,List.map_toArray,Fm (bn hl.symm),z9]
theorem We{D f:ag}{e1:Nat}{V:List ai}{P:tS->av->Prop}(X:SA w aw aE s g)(hD:s.heap.get? D=aa (seqObj "list" #[] e1))(OD:fZ aw D [] s g)(OK:fZ aw f V s g)(e8:D≠f)
 (hk:IntsAre V kz)(hl:V.length=vs.length)(B:vs.length<64)
 (h:∀s' (b:List Nat),dI (ltZ kz) vs.length b->SA w aw aE s' g->fZ aw D (b.map λi=>vs.getD i fB) s' g->P (.done (.ret .none)) s'):
 wpAny (model PG w) A (ksk_end D aI vs.toArray e1 (.ref f) V.toArray) P E s:=by
 have u_:∀(st:SortSt) (b:List Nat),dI (ltZ kz) vs.length b->(arrOf st).map (·.2)=(b.map λi=>vs.getD i fB).toArray->failedOf st=ak->wpAny (model PG w) A (ksk_tail D aI e1 (.ref f) st) P E s:=λst b hS Dz hf=>by
  refine OK.at_.elim λnk ek=>?_
  have Y:=X.set OK (λ_=>#[]) (tk:=s.toks)
  have Z:=Y.1.set (Y.2.2 D _ e8 OD) (λ_=>(b.map λi=>vs.getD i fB).toArray) (tk:=s.toks)
  have MM:=((gE s.heap f (ja λ_=>(#[]:Array ai))).2 D e8).trans hD
  delta ksk_tail
  rw[Dz,hf]
  refine aJ (tB ek rfl (xy (aJ (Aw MM rfl (aJ (tB MM rfl ?_ (ck _) (v6 (mZ (aV (bn ((aR _).trans hS.len)) B)))))))) (mZ (aV (bn hl) B)) (ck _))
  rw[bne_self_eq_false]
  exact a8 (h _ b hS Z.1 Z.2.1)
 delta ksk_end
 by_cases h2:vs.length<2
 ·have W:vs.toArray.size<2:=h2
  rw[be nofun,bo W,bo W]
  exact fY (fY (u_ _ _ (HQ h2) (HR hl) rfl))
 ·have W:¬vs.toArray.size<2:=h2
  have n2:=de.mp h2
  rw[be nofun,be W,be W,ksk_kind hk (aD n2 (bn hl.symm))]
  obtain⟨b,hb,hS⟩:=IH (Kk kz) (qG n2)
  refine fY (aJ (bg (kat_run (Q:=λH s'=>s'=s/\∃p:Array Nat,p=b.toArray/\arrOf H=p.map (kas_item (V.toArray.zip vs.toArray))/\failedOf H=ak) (G:=λp s'=>p=b.toArray/\s'=s) (ks:=V) (κ:=oneType')
   hl n2 B (λp' H s' a1 a2 a3 a4=>⟨a4.2,p',a4.1,a2,a3⟩) ?_) ?_))
  ·refine A0 (lt:=ltZ kz) (λi j C hi hj hC=>?_) _ (Jw (qG n2)) ⟨hb,rfl⟩
   obtain⟨ti,ei⟩:=GF hk (hl▸hi:i<V.length)
   obtain⟨tj,ej⟩:=GF hk (hl▸hj:j<V.length)
   show wpAny _ _ (keyLt' oneType' (V.getD i fB) (V.getD j fB)) C (λ_ _=>False) s
   exact ei▸ej▸kat_lt_int hC
  ·rintro⟨⟨⟩,H⟩ s' ⟨rfl,p,rfl,D9,hf⟩
   exact u_ H b hS (kat_snds hl D9) hf
theorem SA.lv{bz:List ag}{V:av->aY->Prop}(X:SA w aw aE s g)(h:V aw aE)(Y:∀mu s g s' g',(∀a∈mu,a∉bz)->V s g->St w s g->Nx mu s g s' g'->V s' g'):V s g:=Y [] aw aE s g (fS) h X.gR X.nx
inductive KInv(w:a9)(aw:av)(aE g:aY)(Da kS:ag)(e1:Nat)(kz:List Int)(i:Nat)(s':av):Prop
 |mk (g' My:_) (X:SA w aw aE s' g') (up:∀a o,g a=aa o->g' a=aa o) (hD:s'.heap.get? Da=aa (seqObj "list" #[] e1)) (O:fZ aw Da [] s' g') (OK:fZ aw kS My s' g') (hk:IntsAre My (kz.take i))
theorem S9{Da q:ag}{ds:List D}{bz:List ag}{P:tS->av->Prop}(X:SA w aw aE s g)(OD:fZ aw Da vs s g)(R:Rm 60 A)(r:aP w g vs ds)(C:vs.length<64)
 (hf:∀ab,cU w aw aE ab (.ref q) bz (.fn bz φ))(kW:kz.length=ds.length)(hk:∀(i:Nat) (d:D) (k:Int),ds[i]?=aa d->kz[i]?=aa k->φ d=aa (.int k))
 (h:∀s' g' (b:List Nat),dI (ltZ kz) vs.length b->SA w aw aE s' g'->(∀a o,g a=aa o->g' a=aa o)->fZ aw Da (b.map λi=>vs.getD i fB) s' g'->P (.done (.ret .none)) s'):
 wpAny (model PG w) A (ksk_tree Da (.ref q) aI) P E s:=by
 refine ba λNG=>?_
 refine(hf (newEnv {kind:=fk,names:=[],isGenerator:=aI,isCoroutine:=aI} 0 0 [] "" ak .none ak 0)).2.elim λLv F=>?_
 have kl:kz.length=vs.length:=kW.trans r.1.symm
 obtain⟨nD,eD⟩:=OD.at_
 have Y:=X.set OD (λ_=>#[]) (tk:=s.toks)
 obtain⟨e1,h1⟩:=Y.2.1.at_
 have Y2:=Y.1.push (seqObj "tuple" vs.toArray 0) (tk:=s.toks)
 have Y3:=Y2.1.push (seqObj "list" #[] 0) (tk:=s.toks)
 have h2:=bZ (seqObj "tuple" vs.toArray 0) h1
 refine NG ?_
 delta ksk_tree
 refine aJ (Go eD rfl (aJ (tB eD rfl (aJ (Aw h1 rfl (wP (tU (eH ?_) (ck _)) (mZ C)))) (mZ C) (ck _))))
 refine(?_:∀(kS:ag) (s3:av),Da≠kS->SA w aw aE s3 g->fZ aw Da [] s3 g->s3.heap.get? Da=aa (seqObj "list" #[] e1)->fZ aw kS [] s3 g->wpAny (model PG w) A (ksk_rest Da (.ref q) aI vs.toArray e1 (.ref kS)) P E s3) _ _ (eB (cq h2)) Y3.1 (Y3.2 _ _ (Y2.2 _ _ Y.2.1)) (bZ _ h2) (Y2.1.newList [])
 intro kS s3 e8 X3 O3 h3 OK3
 delta ksk_rest
 refine ka ?_
 rw[List.forIn_toArray]
 refine aJ (ksk_fold (KInv w aw aE g Da kS e1 kz) vs 0 _ ⟨g,[],X3,λ_ _ e=>e,h3,O3,OK3,.nil⟩ (λj x s' hx I=>?_) λs' I=>?_)
 ·rw[fA] at I⊢
  refine ba λNG=>?_
  obtain⟨g',W,G,up,DJ,O',H,V⟩:=I
  obtain⟨d,hd,rd⟩:=r.get hx
  have hj:j<kz.length:=kW▸(ey.mp hd).1
  have Nj:=dt hj
  have lk:W.length<64:=aV (aD (bn (V.length.trans (gG ..))) (we _ _)) (eK (kl▸hj) C)
  refine NG ?_
  refine aJ (ww (eg (F.2.fv A s' g' x d (.int kz[j]) (F.2.st [] aw aE s' g' nofun F.1 G.gR G.nx) G.st R (rd.mono up) (hk j d _ hd Nj) (λ_ _=>False)) (λv sV o=>?_) λ_ _ hF=>hF.elim))
  refine ba λNG=>?_
  obtain⟨g'',d',N,S'',rv,rfl⟩:=o
  obtain⟨t,rfl⟩:=rv.int_inv
  obtain⟨nk,ek⟩:=(H.step G.st N).at_
  have Z:=(G.step N S'').set (H.step G.st N) (·.push (.int kz[j] t)) (tk:=sV.toks)
  refine NG ?_
  exact aJ (tB ek rfl (a8 ⟨rfl,g'',W++[.int kz[j] t],Z.1,λa o e=>N.gg _ _ (up _ _ e),((gE sV.heap kS (ja (·.push (.int kz[j] t)))).2 Da e8).trans (N.get G.st DJ (.inl nofun) nofun),Z.2.2 _ _ e8 (O'.step G.st N),
   by simpa using Z.2.1,by simp only[lN,Nj];exact ksk_snoc V⟩) (mZ lk) (aD (bn (PT ..)) (nF (mZ lk))))
 ·refine ba λNG=>?_
  obtain⟨g',W,G,up,DJ,O',H,V⟩:=I
  rw[fA,k9 (bn kl)] at V
  obtain⟨nk,ek⟩:=H.at_
  refine NG ?_
  exact aJ (Go ek rfl (We G DJ O' H e8 V (V.length.trans kl) C λsV b hS Y OY=>h sV g' b hS Y up OY))
end
section
variable {n:Nat} {k:D->Prop}
theorem sx.sorted{ds:List D}(C:ds.length<64)(hn:70<=n)(kW:kz.length=ds.length)(hk:∀(i:Nat) (d:D) (k:Int),ds[i]?=aa d->kz[i]?=aa k->φ d=aa (.int k))
 (h:∀b:List Nat,dI (ltZ kz) ds.length b->k (.lst (b.map λi=>ds.getD i .none))):sx n (.builtin "sorted") [.lst ds] φ k:=.mk λw A s g vs kf bz S R r hf E=>by
 obtain⟨v,rfl,W⟩:=r.one
 obtain⟨l,nn,B,rfl,hg,rl⟩:=W.lst_inv
 have hL:s.heap.IsList l B.toList.toArray:=⟨_,S.sub _ _ hg,rfl,nn,by simp⟩
 have ab9:Env:=newEnv {kind:=fk,names:=[],isGenerator:=aI,isCoroutine:=aI} 0 0 [] "" ak .none ak 0
 obtain⟨q,rfl⟩:∃q,kf=.ref q:=by
  obtain⟨_,Lv,_,_,_,f,e,_⟩:=hf ab9
  exact⟨f,e⟩
 have V:=rl.1
 generalize B.toList=vs at hL rl V
 refine call_function_entry_kw GN Gp Gq (ksk_s1 _ _) ?_
 unfold Builtin.«sorted»
 refine aJ (m:=G6 "sorted" 1 1 _) (a8 ?_)
 refine aJ (collect_list hL ?_ (by rw[pr];exact bd (eK (aV (bn V) C) (by decide))))
 refine tU ?_ (by rw[pr];exact bd (eK (aV (bn V) C) (by decide)))
 have X0:SA w s g s g:=⟨S,Nx.refl _ _ _,S⟩
 obtain⟨X1,_⟩:=X0.push (seqObj "list" #[] 0) (tk:=s.toks)
 have O1:=X0.newList [] (tk:=s.toks)
 obtain⟨X2,_,_⟩:=X1.set O1 (·++vs.toArray) (tk:=s.toks)
 have eR:((s.heap.push (seqObj "list" #[] 0)).update s.heap.objs.size (ja (·++vs.toArray))).objs.size=s.heap.objs.size+1:=by rw[PB,size_push']
 refine(X2.push (seqObj "list" vs.toArray 0) (tk:=s.toks)).elim λX3 _=>?_
 have O3:=X2.newList vs (tk:=s.toks)
 rw[eR] at O3
 show wpAny _ _ _ _ _ {s with heap:=((s.heap.push (seqObj "list" #[] 0)).update s.heap.objs.size (ja (·++vs.toArray))).push (seqObj "list" vs.toArray 0)}
 refine eR▸?_
 refine O3.at_.elim λ_ sN=>?_
 refine aJ (eH (wpAny_call_entry_kw FT ⟨_,sN,rfl⟩ FE ?body (ksk_l1 _ _)))
 case body=>
  refine S9 X3 O3 (Rm.le (n:=60) ⟨by have:=R.1;simp;exact Y5 (by assumption) (by assumption),by have:=R.2.1;simp;exact Y6 (by assumption) (by assumption),R.2.2⟩ (bv _)) rl (aV (bn V) C) hf kW hk λs' g' b hS Y up OY=>?_
  refine⟨_,rfl,a8 ⟨_,rfl,?_⟩⟩
  refine OY.at_.elim λn' e'=>?_
  obtain⟨F1,F2⟩:=Y.st.freeze (n:=s.heap.objs.size+1) e' OY.off (Y.st.dN (a:=s.heap.objs.size+1) e' (.inl (by simp)))
  have rb:aP w g' (b.map λi=>vs.getD i fB) (b.map λi=>ds.getD i .none):=by
   refine⟨by simp,λj v d W G=>?_⟩
   rw[ci] at W G
   induction hb:b[j]? with
   |none=>exact ns (hb▸W)
   |some i=>
    rw[hb] at W G
    have hi:i<vs.length:=hS.js i (c5 hb)
    simp at W G
    rw[dt hi] at W
    rw[dt (cg hi (bn V):i<ds.length)] at G
    simp at W G
    exact(rl.2 i v d ((dt hi).trans (aQ _ W)) ((dt (cg hi (bn V):i<ds.length)).trans (aQ _ G))).mono up
  refine⟨_,_,⟨Y.nx.keep,Y.nx.there,λa o e=>F2 _ _ (Y.nx.gg _ _ e),λa o e e' _=>?_,Y.nx.os⟩,F1,.lst _ n' _ (b.map λi=>ds.getD i .none) (gZ _ _ _) (by simp) λj v d W G=>(rb.2 j v d (by exact W) G).mono F2,h b (by exact V▸hS)⟩
  exact(fD _ _ _ (λq=>by rw[q,OY.new] at e;exact ns e)).trans (Y.nx.old a o e e' (nofun))
end
section
variable {n:Nat} {sc:bf} {ρ:ay}
theorem bH.X_{l m r:au}{o1 o2:oa}{k:Bool->Prop}(h:aj n sc ρ l λa=>aj n sc ρ m λb=>bq n o1 a b λc=>if c then aj n sc ρ r λd=>bq n o2 b d k else k aI)(hm:lastMarks [o1,o2] [m,r]=aI):bH n sc ρ (iO l [o1,o2] [m,r] aM) k:=.mk λw A ab s g S R V E=>by
 refine isTrue_chain (h.wp S R V λa aA aN da Z H ml iX=>test_link ?_) hm
 have V1:=V.step Z S
 refine iX.wp H R V1 λb aT bb db Y G C f_=>?_
 refine bg (f_.run w A aT bb a b G R (ml.mono Y.gg) C E) (λc kU ⟨t,ie,e,W,B,hk⟩=>?_)
 subst e
 refine nB ?_
 induction t with
 |false=>exact⟨ie,((Z.trans Y).trans W),B,hk⟩
 |true=>
  refine test_last ((hk:aj n sc ρ r λd=>bq n o2 db d k).wp B R ((V1.step Y H).step W G) λv oQ mY dd f mX Dc Mz=>?_)
  refine bg (Mz.run w A oQ mY b v mX R ((C.mono W.gg).mono f.gg) Dc E) (λc ac8 ⟨t,acd,e,p9,uM,hk⟩=>?_)
  subst e
  exact nB ⟨acd,(((Z.trans Y).trans W).trans f).trans p9,uM,hk⟩
theorem Hb:∀{l:List (Str×D)} {es:List dy},es.length=l.length->(∀(i:Nat) (e:dy) (x:Str) (d:D),es[i]?=aa e->l[i]?=aa (x,d)->∃t,e.key=.str x t)->
 xZ (strKind PG w) es (Gr (λ(p:Str×D) (e:dy)=>(p.1,e.val)) l es)/\(Gr (λ(p:Str×D) (e:dy)=>(p.1,e.val)) l es).map (·.1)=l.map (·.1)/\(Gr (λ(p:Str×D) (e:dy)=>(p.1,e.val)) l es).map (·.2)=es.map (·.val)
 |[],[],_,_=>⟨.nil,rfl,rfl⟩
 |p::l,e::es,hl,h=>by
  obtain⟨a,b,c⟩:=Hb (l:=l) (es:=es) (by simpa using hl) λi e x d V Y=>h (i+1) e x d V Y
  refine(h 0 e p.1 p.2 rfl rfl).elim λt W=>?_
  refine⟨.cons ?_ rfl a,aQ _ b,aQ _ c⟩
  show gj p.1 e.key=ae
  rw[W];simp[gj]
 |[],_::_,hl,_=>by simp at hl
 |_::_,[],hl,_=>by simp at hl
theorem ut{l:List (Str×D)}(S:St w s g)(h:Rep w g v (.cL l)):
 ∃a n es,v=.ref a/\g a=aa {cls:=aK "dict",data:=.dict es n}/\a≠iu/\(∃bh:List (Str×ai),s.heap.DictAt (strKind PG w) a bh n/\bh.map (·.1)=l.map (·.1)/\aP w g (bh.map (·.2)) (l.map (·.2))):=by
 cases h with
 |cL a n es l B W h3 f h5=>
  obtain⟨p1,p2,p3⟩:=Hb (w:=w) W λi e x d V Y=>(f i e x d V Y).1
  refine⟨a,n,es,rfl,B,h3.2,_,⟨_,es,S.sub _ _ B,⟨rfl,rfl,rfl⟩,rfl,λe he=>?_,p1,p2▸h3.1⟩,p2,?_⟩
  ·obtain⟨i,hi,rfl⟩:=zj.mp he
   have Z:i<l.length:=by exact W▸hi
   refine(f i es[i] l[i].1 l[i].2 (by simp[hi]) (by simp[Z])).elim λH hh=>H.elim λt ht=>?_
   refine⟨l[i].1,?_,hh⟩
   show gj l[i].1 _=ae
   rw[ht];simp[gj]
  ·rw[p3]
   refine⟨by simpa using W,λi v d V Y=>?_⟩
   rw[ci] at V Y
   induction G:es.toList[i]? with
   |none=>rw[G] at V;exact ns V
   |some e=>
    induction C:l[i]? with
    |none=>rw[C] at Y;exact ns Y
    |some p=>
     rw[G] at V;rw[C] at Y;obtain rfl:=aW V;obtain rfl:=aW Y
     exact h5 i e p.1 p.2 G C
theorem bK.dictKeys{t:au}{k:List D->Prop}(h:aj n sc ρ e λd=>∃l:List (Str×D),d=.cL l/\l.length<=10000/\k (l.map λp=>.str p.1)):bK n sc ρ t e k:=.of λw A ab s g S R V E=>
 bg (h.run w A ab s g S R V E) (λv aA Z=>by
  refine ba λN_=>?_
  obtain⟨aN,d,H,Y,G,l,hd,hl,hk⟩:=Z
  subst hd
  obtain⟨a,nn,es,rfl,hg,C,bh,hD,e1,e2⟩:=ut Y G
  apply N_
  have hz:bh.length=(l.map λp=>D.str p.1).length:=by
   have:=aQ gk e1;simpa using this
  refine wpAny_pyIter_dict (beq_false_of_ne C) hD ?_
  have hI:a≠aA.heap.objs.size:=λe=>by have:=Y.sub _ _ hg;rw[e,lg] at this;exact ns this
  have W:=Walks.dictKeys (prog:=PG) (w:=w) (knd:=strKind PG w) R.2.2 aA.heap.objs.size a hI bh nn
  replace W:=hz▸W
  refine(iR.one (qn:=[a]) Y (by simp) rfl (dz.of W (λi v d hi Z=>Z.elim λx Z=>Z.elim λu Z=>Z.elim λhx hv=>?_) (λi h ⟨⟨o,B,hc,hd⟩,_⟩ b f=>?_) λi h ⟨⟨o,B,hc,hd⟩,_⟩=>⟨o,"dict_keyiterator",_,B,hc,hd,rfl⟩) ?_ (λb f=>?_) (by simpa using hl) hk).trans H
  ·obtain⟨tk,rfl⟩:=OM hv
   have e3:(bh.map (·.1))[i]?=aa x:=by rw[ci,hx];rfl
   rw[e1,ci] at e3
   rw[ci] at hi
   induction q:l[i]? with
   |none=>rw[q] at hi;exact ns hi
   |some p=>
    rw[q] at hi e3;obtain rfl:=aW hi;obtain rfl:=aW e3
    exact .str _ _
  ·have:b=aA.heap.objs.size:=a_.1 f
   subst this
   exact⟨o,B,λvs q t e e'=>by replace e:=hd▸e;cases e;cases e'⟩
  ·refine⟨?_,hD.keep λb o e=>bZ _ e⟩
   rw[<-hz]
   exact⟨_,cB _ rfl,rfl,rfl⟩
  ·have:b=a:=a_.1 f
   subst this;exact⟨_,hg⟩)
end
set_option genInjectivity false in
structure c_ where
 x0:Int
 x1:Int
 h0:Int
 h1:Int
noncomputable def jO(s:c_):D:=.tup [.int s.x0,.int s.x1,.int s.h0,.int s.h1]
noncomputable abbrev b0:=List (Str×c_)
variable {ss:b0}
noncomputable def jf(ss:b0):D:=.cL (ss.map λp=>(p.1,jO p.2))
noncomputable def dR(s:c_):List Int:=(dK (s.x1-s.x0+1).toNat).map λi:Nat=>s.x0+(i:Int)
noncomputable def pairD(p:Int×Int):D:=.tup [.int p.1,.int p.2]
noncomputable def h_(ss:b0)(hs:Str->Int->Int×Int):D:=.cL (ss.map λp=>(p.1,.et ((dR p.2).map λc=>(c,pairD (hs p.1 c)))))
noncomputable def iS(s:c_)(c:Int):Bool:=decide (s.x0<=c)&&decide (c<=s.x1)
noncomputable def eU(ss:b0)(c:Int):List Str:=(ss.filter λp=>iS p.2 c).map (·.1)
noncomputable def bu(ss:b0)(x:Str):c_:=(ss.lookup x).getD ⟨0,0,0,0⟩
theorem pz(V:(ss.map (·.1)).Nodup){p:Str×c_}(h:p∈ss):bu ss p.1=p.2:=by
 unfold bu
 induction ss with
 |nil=>exact aZ h ca
 |cons q r Y=>
  rw[io]
  rcases bT.mp h with e|h
  ·rw[e,beq_self_eq_true];rfl
  ·rw[(beq_eq_false_iff_ne (a:=p.1) (b:=q.1)).mpr λe=>(gH.mp V).1 (show q.1∈_ from e▸kC (f:=(·.1)) h)]
   exact Y (gH.mp V).2 h
theorem tO{c:Int}(Y:(ss.map (·.1)).Nodup):x∈eU ss c<->(x,bu ss x)∈ss/\iS (bu ss x) c=ae:=by
 refine bL.trans ?_
 constructor
 ·rintro⟨p,W,rfl⟩
  have:=ef.mp W
  exact(pz Y this.1)▸this
 ·intro V;refine V.elim λZ H=>?_
  exact⟨_,ef.mpr ⟨Z,H⟩,rfl⟩
theorem w8{s:c_}{c:Int}:c∈dR s<->iS s c=ae:=by
 delta dR iS
 simp only[bL,gi,bB,decide_eq_true_eq]
 constructor
 ·rintro⟨i,hi,rfl⟩;exact x3 (by assumption)
 ·intro V;refine V.elim λY W=>?_;exact⟨(c-s.x0).toNat,by exact aa3 (by assumption) (by assumption),by exact XA (by assumption)⟩
theorem Q8{c:Int}(V:(ss.map (·.1)).Nodup):(eU ss c).Nodup:=V.sublist (adU _ (vU))
noncomputable def iD(K:Str->Int)(x:Str):List Str->List Str
 |[]=>[x]
 |y::r=>if K x<K y then x::y::r else y::iD K x r
noncomputable def eV(K:Str->Int)(l:List Str):List Str:=l.foldl (λV x=>iD K x V) []
def lz(K:Str->Int)(l:List Str):Prop:=l.Pairwise λa b=>K a<=K b
theorem xM{K:Str->Int}{r:List Str}(q:K x<K z):iD K x (z::r)=x::z::r:=bo q
theorem xO{K:Str->Int}{r:List Str}(q:¬K x<K z):iD K x (z::r)=z::iD K x r:=be q
theorem HS{K:Str->Int}{l:List Str}:(iD K x l).Perm (x::l):=by
 induction l with
 |nil=>exact qT _
 |cons z r V=>exact if q:K x<K z then xM q▸qT _ else xO q▸(zZ z V).trans (Qg x z r)
theorem Ut{K:Str->Int}{l:List Str}:y∈iD K x l<->y=x\/y∈l:=HS.mem_iff.trans bT
theorem Uu{K:Str->Int}{l:List Str}(h:lz K l):lz K (iD K x l):=by
 induction l with
 |nil=>exact my _ _
 |cons z r W=>
  have V:=fU.mp h
  exact if q:K x<K z then xM q▸fU.mpr ⟨fm (du q) λy Y=>du (la q (V.1 y Y)),h⟩
   else xO q▸fU.mpr ⟨λy Y=>(Ut.mp Y).elim (λe=>e▸dU.mp q) (V.1 y),W V.2⟩
inductive K3(K:Str->Int)(x:Str)(l:List Str):Prop where
 |mk (a b:List Str) (e:l=a++b) (i:iD K x l=a++x::b) (lo:∀y∈a,¬K x<K y) (hi:∀y∈b,K x<K y)
theorem Wf{K:Str->Int}{l:List Str}(h:lz K l):K3 K x l:=by
 induction l with
 |nil=>exact⟨[],[],rfl,rfl,fS,fS⟩
 |cons z r Y=>
  have V:=fU.mp h
  exact if q:K x<K z then ⟨[],z::r,rfl,xM q,fS,fm q λy W=>la q (V.1 y W)⟩
   else K3.casesOn (Y V.2) λa b e i lo hi=>⟨z::a,b,aQ (z::·) e,(xO q).trans (aQ (z::·) i),fm q lo,hi⟩
theorem wS(K:Str->Int)(l:List Str)(x:Str):eV K (l++[x])=iD K x (eV K l):=by simp[eV]
theorem nQ(K:Str->Int)(l:List Str):lz K (eV K l)/\(eV K l).Perm l:=by
 have:∀(l V:List Str),lz K V->lz K (l.foldl (λV x=>iD K x V) V)/\(l.foldl (λV x=>iD K x V) V).Perm (V++l):=by
  intro l
  induction l with
  |nil=>intro V h;simpa using h
  |cons x r Z=>
   intro V h
   obtain⟨H,G⟩:=Z _ (Uu h)
   refine⟨H,G.trans ?_⟩
   exact(HS.append_right r).trans (by exact(Fo (l₁:=V) (l₂:=r) (a:=x)).symm)
 exact(this l [] jX)
theorem xB:iY (ltZ kz) i j<->kz.getD i 0<kz.getD j 0\/(kz.getD i 0=kz.getD j 0/\i<j):=by
 delta iY ltZ
 rw[decide_eq_false_iff_not,decide_eq_true_eq]
 exact Y'
theorem R4{R:Nat->Nat->Prop}(yE:∀a b,R a b->¬R b a):∀{a b:List Nat},a.Perm b->a.Pairwise R->b.Pairwise R->a=b:=by
 intro G
 induction G with
 |nil=>
  intro b h _ _
  exact(List.nil_perm.mp h).symm
 |cons x a Y=>
  intro b h V H
  induction b with
  |nil=>exact aZ h (by simp)
  |cons y b=>
   have V:=fU.mp V
   have e:x=y:=by
    have W:x∈y::b:=h.mem_iff.mp bi
    have Z:y∈x::a:=h.mem_iff.mpr bi
    rcases bT.mp W with e|W
    ·exact e
    ·rcases bT.mp Z with e|Z
     ·exact e.symm
     ·exact aZ ((fU.mp H).1 x W) (yE _ _ (V.1 y Z))
   subst e
   exact aQ _ (Y (List.Perm.cons_inv h) V.2 (fU.mp H).2)
noncomputable def qb(kz:List Int)(i:Nat):List Nat->List Nat
 |[]=>[i]
 |j::r=>if kz.getD i 0<kz.getD j 0 then i::j::r else j::qb kz i r
theorem Ce{x z:Nat}{r:List Nat}(q:kz.getD x 0<kz.getD z 0):qb kz x (z::r)=x::z::r:=bo q
theorem Cf{x z:Nat}{r:List Nat}(q:¬kz.getD x 0<kz.getD z 0):qb kz x (z::r)=z::qb kz x r:=be q
theorem HT{x:Nat}{l:List Nat}:(qb kz x l).Perm (x::l):=by
 induction l with
 |nil=>exact qT _
 |cons z r V=>exact if q:kz.getD x 0<kz.getD z 0 then Ce q▸qT _ else Cf q▸(zZ z V).trans (Qg x z r)
theorem Wg{x:Nat}{l:List Nat}(hl:∀y∈l,y<x)(h:l.Pairwise (iY (ltZ kz))):(qb kz x l).Pairwise (iY (ltZ kz)):=by
 induction l with
 |nil=>exact my _ _
 |cons z r Z=>
  have Y:=fU.mp h
  exact if q:kz.getD x 0<kz.getD z 0 then
   have W:iY (ltZ kz) x z:=xB.mpr (.inl q)
   Ce q▸fU.mpr ⟨fm W λy V=>iY.trans (Kk kz) W (Y.1 y V),h⟩
   else Cf q▸fU.mpr ⟨λy V=>(bT.mp (HT.mem_iff.mp V)).elim (λe=>e▸xB.mpr (XF q (hl z bi))) (Y.1 y),Z (λy V=>hl y (bM _ V)) Y.2⟩
theorem Q9{K:Str->Int}{l:List Str}{b:List Nat}(B:dI (ltZ (l.map K)) l.length b):b.map (λi=>l.getD i default)=eV K l:=by
 have H:∀m,m<=l.length->∃a:List Nat,a.Perm (dK m)/\a.Pairwise (iY (ltZ (l.map K)))/\a.map (λi=>l.getD i default)=eV K (l.take m):=by
  intro m
  induction m with
  |zero=>intro _;exact⟨[],by simp,by simp,rfl⟩
  |succ m W=>
   intro G
   obtain⟨a,Y,Z,h3⟩:=W (by exact YO (by assumption))
   have V:∀y∈a,y<m:=λy hy=>gi.mp (Y.mem_iff.mp hy)
   refine⟨qb (l.map K) m a,HT.trans ((zZ m Y).trans ?_),Wg V Z,?_⟩
   ·simp only[PU];exact(List.perm_append_singleton m (dK m)).symm
   ·have hx:l.take (m+1)=l.take m++[l.getD m default]:=by
     rw[lN,dt (s_ G)]
     simp[dt (show m<l.length by assumption)]
    simp only[hx,wS,<-h3]
    have f:∀i,i<l.length->(l.map K).getD i 0=K (l.getD i default):=λi hi=>by
     simp[dt hi]
    clear Y Z h3 W
    induction a with
    |nil=>rfl
    |cons y a C=>
     have km:=f m (s_ G)
     have ky:=f y (eK (V y bi) (s_ G))
     have W:=C λz hz=>V z (bM _ hz)
     exact if q:K (l.getD m default)<K (l.getD y default) then (aQ (lX _) (Ce (km.symm▸ky.symm▸q))).trans (xM q).symm
      else (aQ (lX _) (Cf (km.symm▸ky.symm▸q))).trans ((aQ (_::·) W).trans (xO q).symm)
 obtain⟨a,Y,Z,h3⟩:=H l.length (bv _)
 rw[jY] at h3
 rw[<-h3]
 congr 1
 refine R4 (R:=iY (ltZ (l.map K))) (λa b h h'=>?_) (B.perm.trans Y.symm) B.pw Z
 exact Y9 (xB.mp h) (xB.mp h')
theorem Q_{f:α->Option β}{l:List α}(h:∃x∈l,f x=ak):(l.filterMap f).length<l.length:=by
 obtain⟨x,V,e⟩:=h
 obtain⟨a,b,rfl⟩:=zC V
 rw[Oh,NR e,bR,bR]
 exact Nat.add_lt_add_of_le_of_lt (vD f a) (jW (vD f b))
noncomputable def Uv(sc:bf)(e:au):Bool:=if h:e.ctorIdx=23 then mJ e h λx _=>sc.names.lookup x==aa .cell else ae
theorem ZK{a b c:Bool}{X:Sem (Option (List Str))}(h:c=ae):(if a=ae then pure ak else if b=ae then pure ak else if c=ae then pure ak else X)=pure ak:=by
 rw[bo h];induction a<;>induction b<;>rfl
theorem xk{vs:List au}(V:∀x,KS (ab.kindOf x) (sc.names.lookup x))(h:ts.any (Uv sc)=ae):mM [b7 ts c p] (b7 vs c' p') ab=pure ak:=by
 refine ZK ((wm _ _).mpr (.inl (bne_iff_ne.mpr (eB (Q_ ?_)))))
 obtain⟨e,Y,W⟩:=tg.mp h
 refine⟨e,Y,cT W ?_⟩
 clear W Y h
 cases e with
 |Name x q=>
  have k:(sc.names.lookup x==aa .cell)=ae->ab.kindOf x=aa .cell:=λc=>KS.cell ((eq_of_beq c:sc.names.lookup x=aa .cell)▸V x)
  have n:aa lf≠aa .local:=by decide
  show cond (sc.names.lookup x==aa .cell) _ True
  induction c:(sc.names.lookup x==aa lf) with
  |false=>trivial
  |true=>exact be λr=>n ((k c).symm.trans (eq_of_beq ((bB _ _).mp r).1))
 |_=>exact Eq.refl ak
section
variable {n:Nat} {sc:bf} {ρ:ay}
inductive mR:List au->List Str->Prop
 |nil:mR [] []
 |cons {x:Str} {p:Pos} {ts:List au} {ys:List Str} (h:mR ts ys):mR (aS x p::ts) (x::ys)
theorem mR.len(h:mR ts ys):ts.length=ys.length/\ts.all cu=ae:=by
 induction h with
 |nil=>exact⟨rfl,rfl⟩
 |cons _ V=>exact⟨aQ _ V.1,V.2⟩
theorem mR.at(h:mR ts ys):∀(i:Nat) f x,((rk ts ab).map (·.2))[i]?=aa f->ys[i]?=aa x->∃p,f=assign (aS x p) ab:=by
 induction h with
 |nil=>exact λi f x h=>BL (i:=i) h
 | @cons z p ts ys h W=>
  intro i f x V Y
  rw[zX rfl] at V
  induction i with
  |zero=>exact⟨p,(aW Y)▸(aW V).symm⟩
  |succ i=>exact W i f x V Y
theorem aO.rr{es:List au}{k:Fl->ay->Prop}(C:mR ts aH)(hn:aH.length=es.length)(vp:es.all cu=ae)(B:aH.all (mine sc)=ae)(jr:es.length<=1000)
 (hH:∀ab,Aa [b7 ts c p] (b7 es c' p') aM.line ab=pure aI)(hw:∀ab:Env,ab.scope.kind=fk->(∀x,KS (ab.kindOf x) (sc.names.lookup x))->mM [b7 ts c p] (b7 es c' p') ab=pure ak)
 (h:f7 n sc ρ es λbs=>k .next ((aH.zip bs).reverse++ρ)):aO n sc ρ (e_ [b7 ts c p] (b7 es c' p') aM) k:=.mk λw A ab mu aw aE s g aB H R E=>by
 have tl:=C.len.1;have ta:=C.len.2
 refine Ai (zt (bg (f7.ok vp h.len w A ab s g p' H.st R H.cI E) (λvs aA ⟨aN,bs,bX,u8,W,V,fr,Y,iX⟩=>⟨?_,?_⟩))) (hH ab) (hw ab H.kind H.ks)
 ·simp only[V.len,Y];have:sizeLine=2^24:=rfl;exact bd (aV jr (by decide))
 ·have e1:=(tu (ab:=ab) ta).1;have e2:=(tu (ab:=ab) ta).2
  have hT:(aA.heap.push {cls:=aK "tuple",data:=.seq vs.toArray}).IsTuple aA.heap.objs.size vs.toArray:=⟨_,cB _ rfl,rfl,_,rfl⟩
  refine zz R.2.2 hT (by simp only[e1,tl,hn,<-Y,<-V.len];rfl) e2 λh' he=>?_
  have kp:∀b o,aA.heap.get? b=aa o->h'.get? b=aa o:=λb o e=>ExtBut.keeps he b o (bZ _ e)
  obtain⟨Z,gd⟩:=W.ext' (h':=h') (tk:=aA.toks) kp
  have G:oy w {aA with heap:=h'} aN ab vs bs bX:=⟨V.len,V.len',λi v b ad q1 q2 q3=>(V.rep i v b ad q1 q2 q3).step Z W (by simp) (by simp),V.nf,V.sL⟩
  refine bg (storeAll (fs:=(rk ts ab).map (·.2)) G (by simp only[hn,V.len,Y]) (by simp[e1,tl,hn,V.len,Y]) _ ρ aB ((H.step u8 W).step Z gd) G (λx hx=>ee.mp B x hx) (λi f x q1 q2 v Q s hq=>?_) (λad lF a ha=>Bg (s':=s) (g':=g) H (fr ad lF a ha)) (E:=E)) (λ_ kU q_=>q_.elim λdW H3=>?_)
  ·obtain⟨p,rfl⟩:=C.at i f x q1 q2
   exact E7 hq
  ·exact⟨aN,_,.next,dW,H3,trivial,iX⟩
theorem mr.le{ds:List D}(h:mr m fa l ds φ l')(V:m<=n):mr n fa l ds φ l':=⟨λw A s g a af vs f bz S R M Y hr W r Z H E=>h.run w A s g a af vs f bz S (R.le V) M Y hr W r Z H E⟩
theorem Jx{x:au}{r:List au}{k:Bool->Prop}(h:bH n sc ρ x λb=>if b then k ae else mW n sc ρ .Or r k):mW n sc ρ .Or (x::r) k:=h.mono λb V=>by
 induction b<;>exact V
theorem IJ{x:au}{r:List au}{k:Bool->Prop}(h:bH n sc ρ x λb=>if b then mW n sc ρ .And r k else k aI):mW n sc ρ .And (x::r) k:=h.mono λb V=>by
 induction b<;>exact V
end
section
variable {n m:Nat} {sc:bf} {ρ:ay}
theorem Wh{l:ag}{x y:ai}{Q:List ai->av->Prop}(hh:A.handled=ak)(hl:s.heap.IsList l af)(hi:af=#[x,y])
 (hQ:∀h',wB s.heap.objs.size s.heap h'->Q [x,y] {s with heap:=h'}):wpAny (model PG w) A (unpackItems (.ref l) 2 aU) Q E s:=by
 have H:l≠s.heap.objs.size:=by refine hl.elim λo f=>f.elim λho _=>?_;exact eB (cq ho)
 subst hi
 dsimp only[unpackItems]
 refine aJ ?_
 ·unfold notIterableAtAll
  refine wF hl.typeIs slot_list_iter.lookup ?_
  refine a8 ?_
  refine aJ (eH (s6 hl ?_))
  have G:=hl.push {cls:=aK "list_iterator",data:=bC #[.ref l,.int 0 0]}
  refine aJ (eH (aJ (N6 ⟨_,cB _ rfl,rfl,rfl⟩ G (x:=x) rfl λiX W V=>?_)))
  refine aJ (eH (aJ (N6 W (G.extBut V.extBut H) (x:=y) rfl λf_ Z Y=>?_)))
  refine aJ (eH (a8 (a8 (a8 ?_))))
  refine aJ (eH (Oi hh Z ((G.extBut V.extBut H).extBut Y.extBut H) rfl λB C=>?_))
  exact a8 (hQ B λb o hb e=>C b o hb (Y.extBut b o hb (V.extBut b o hb (bZ _ e))))
theorem fJ.ace{V Y:au}{a b:D}{k:ay->Prop}(W:[V,Y].all cu=ae)(h:kM n sc ρ [V,Y] [a,b] k):fJ n sc ρ (b7 [V,Y] c p) (.lst [a,b]) k:=.mk λw A ab mu aw aE s g aB v H R r E=>by
 obtain⟨l,af,rfl,G,C⟩:=r.n0 H.st
 refine ba λB=>?_
 obtain⟨x,y,Z,f,ry⟩:=aP.two C
 obtain⟨e1,e2⟩:=tu (ab:=ab) W
 apply B
 refine jb ?_
 unfold unpack
 rw[e1,e2]
 refine aJ (eH (Wh R.2.2 G (x:=x) (y:=y) (by induction af;simp at Z;exact aQ _ Z) λh' hx=>?_))
 refine(H.st.ext' (tk:=s.toks) (ExtBut.keeps hx)).elim λN S'=>?_
 exact h.ok W w A ab mu aw aE _ g aB (H.step N S') R (.cons f (.cons ry .nil)) E
theorem Wi{i j:Int}(h:j.natAbs<2^60):Em i j=aI:=by
 refine(Bool.and_eq_false_iff.mpr (.inl (eW ?_)):(decide ((if (j==0)=ae then 0 else j.natAbs.log2/30+1)>300)&&_)=aI)
 by_cases V:(j==0)=ae
 ·rw[bo V];decide
 ·rw[be V]
  exact Zf ((wE λe=>V (beq_iff_eq.mpr (OX.mp e))).mpr h)
theorem bF.ZL{i j:Int}(h:(decide (0<j)&&decide (j.natAbs<2^60))=ae)(V:k (.int (i/j))):bF n .FloorDiv (.int i) (.int j) k:=by
 simp only[bB,decide_eq_true_eq] at h
 exact bF.fdiv (pj h.1) (Wi h.2) ((no _ (du h.1))▸V)
theorem bF.acf{i j:Int}(h:decide (0<j)=ae)(V:k (.int (i%j))):bF n .Mod (.int i) (.int j) k:=by
 have h:=cZ h
 exact bF.mod (pj h) (by exact(qp _ (du h))▸V)
end
section
open PySem.Builtin PySem.Builtin.Str
noncomputable def cl(x:Str):List Nat:=x.cps.toList
theorem cD(x:Str):x.length=(cl x).length:=rfl
theorem Cg(h:cl x=cl y):x=y:=by
 obtain⟨a⟩:=x;have b:=y
 exact aQ _ (zP.mp h)
theorem fE(x y:Str):cl (x++y)=cl x++cl y:=by
 show (x.cps++y.cps).toList=_
 simp[cl]
theorem pE:subAt x y i=ae<->((cl x).drop i).take (cl y).length=cl y:=by
 unfold subAt
 rw[beq_iff_eq,<-zP]
 simp[cl,Array.toList_extract,List.take_drop,List.extract,iw]
noncomputable def cG:List (List Nat)->List Nat->Prop
 |[],_=>True
 |p::ps,l=>∃a b,l=a++p++b/\cG ps b
theorem cG.more{b:List Nat}{ps:List (List Nat)}(a:List Nat)(h:cG ps b):cG ps (a++b):=by
 cases ps with
 |nil=>trivial
 |cons p ps=>exact h.elim λc q=>q.elim λd q=>⟨a++c,d,by rw[q.1,c6,c6,c6],q.2⟩
theorem cG.xm{ps:List (List Nat)}{l:List Nat}:cG ([]::ps) l<->cG ps l:=
 ⟨λq=>q.elim λa q=>q.elim λb q=>(q.1.trans (aQ (·++b) (cR a)))▸q.2.more a,λh=>⟨[],l,rfl,h⟩⟩
theorem cG.Uw{ps:List (List Nat)}{l:List Nat}:cG (ps++[[]]) l<->cG ps l:=by
 induction ps generalizing l with
 |nil=>exact⟨λ_=>trivial,λ_=>⟨l,[],by rw[cR,cR],trivial⟩⟩
 |cons p ps V=>exact⟨λq=>q.elim λa q=>q.elim λb q=>⟨a,b,q.1,V.mp q.2⟩,λq=>q.elim λa q=>q.elim λb q=>⟨a,b,q.1,V.mpr q.2⟩⟩
theorem cG.first{p a b:List Nat}{ps:List (List Nat)}(h:∀Y b',a++p++b=Y++p++b'->a.length<=Y.length):cG (p::ps) (a++p++b)<->cG ps b:=by
 refine⟨λV=>V.elim λY V=>V.elim λb' V=>V.elim λZ W=>?_,λq=>⟨a,b,rfl,q⟩⟩
 have hl:=h Y b' Z
 rcases Et.mp Z with ⟨c,_,e⟩|⟨c,e,H⟩
 ·exact e▸(W.more _)
 ·have G:=aQ gk e
  simp only[bR,bR,bR] at G
  have:c=[]:=lI.mp (by exact abf (by assumption) (by assumption))
  rw[H,this] at W
  exact W
noncomputable def win(g:List Nat)(lo hi:Nat):List Nat:=(g.take hi).drop lo
theorem IK{g:List Nat}{lo k:Nat}:win g (lo+k) hi=(win g lo hi).drop k:=FU.symm
theorem S_{w a p b:List Nat}(h:w=a++p++b):b=w.drop (a.length+p.length):=by rw[h,<-bR,mK]
theorem Ch{lo:Nat}(hl:lo<=hi)(H:hi<=(cl x).length):tM x y hi (lo+i)<->∃a b,a.length=i/\win (cl x) lo hi=a++cl y++b:=by
 have Z:(win (cl x) lo hi).length=hi-lo:=by unfold win;simp only[qP,gG,iL H]
 have sub:lo+i+(cl y).length<=hi->((win (cl x) lo hi).drop i).take (cl y).length=((cl x).drop (lo+i)).take (cl y).length:=λh=>by
  rw[<-IK]
  unfold win
  simp only[Qh,List.take_take,iL (ED h)]
 unfold tM
 rw[pE,cD y]
 constructor
 ·intro W;refine W.elim λY G=>?_
  have e:=(sub Y).trans G
  refine⟨(win (cl x) lo hi).take i,((win (cl x) lo hi).drop i).drop (cl y).length,?_,?_⟩
  ·simp only[gG,Z,iL (ED (aD (cy _ _) Y))]
  ·generalize (cl y).length=m at e
   simp only[<-e,c6,kA,kA]
 ·rintro⟨a,b,rfl,h⟩
  have V:=aQ gk h
  simp only[Z,bR,bR] at V
  have Y:lo+a.length+(cl y).length<=hi:=by
   rw[<-lL hl,V,eS]
   exact fh (cy _ _) _
  refine⟨Y,?_⟩
  simp only[<-sub Y,h,c6,mK,qU]
theorem Yb{V:Array Nat}(h:V[0]?=aa c):∃r,V.toList=c::r:=by
 obtain⟨l⟩:=V
 cases l with
 |nil=>exact ns h
 |cons q r=>exact⟨r,aQ (·::r) (aW h)⟩
inductive acg(x y:Str)(lo hi:Nat):Prop where
 |none (e:occurrences x y lo hi 1=[]) (n:∀i,lo<=i->¬tM x y hi i)
 |some (i:Nat) (r:List Nat) (e:occurrences x y lo hi 1=(lo+i)::r) (h:tM x y hi (lo+i)) (n:∀j,j<i->¬tM x y hi (lo+j))
theorem BQ(x y:Str)(lo hi:Nat):acg x y lo hi:=by
 have E:=Qi x y lo hi 1
 rcases StrLaws.occ_first x y hi 1 (bv _) (hV lo (hi+1-lo)) lo (λi hi=>(qI.mp hi).1) with ⟨V,Y⟩|⟨pre,c,post,e,V,W,Y⟩
 ·refine .none (E.trans (aQ _ V)) λi Z h=>Y i (qI.mpr ⟨Z,?_⟩) h
  have H:=jW (aD (cy _ _) h.1)
  exact(lL (aD Z (bd H))).symm▸H
 ·obtain⟨r,G⟩:=Yb V
  obtain⟨i,_,rfl,C⟩:=List.range'_eq_append_iff.mp e
  obtain rfl:=(List.range'_eq_cons_iff.mp C.symm).1
  rw[Rj] at G W
  exact .some i r (E.trans G) W λj h=>Y _ (qI.mpr ⟨cy _ _,vQ h _⟩)
theorem Dd{lo:Nat}(hl:lo<=hi)(V:hi<=(cl x).length):(∃i r,occurrences x y lo hi 1=(lo+i)::r/\i+(cl y).length<=hi-lo/\∃a,a.length=i/\win (cl x) lo hi=a++cl y++win (cl x) (lo+i+(cl y).length) hi/\∀ps,cG (cl y::ps) (win (cl x) lo hi)<->cG ps (win (cl x) (lo+i+(cl y).length) hi))\/
 (occurrences x y lo hi 1=[]/\∀ps,¬cG (cl y::ps) (win (cl x) lo hi)):=by
 cases BQ x y lo hi with
 |none e Y=>exact .inr ⟨e,λps q=>q.elim λa q=>q.elim λb q=>Y _ (cy _ _) ((Ch hl V).mpr ⟨a,b,rfl,q.1⟩)⟩
 |some i r e Z Y=>
  refine .inl ⟨i,r,e,ED ((eS ..).symm▸Z.1),((Ch hl V).mp Z).elim λa q=>q.elim λb q=>⟨a,q.1,?_⟩⟩
  have H:=S_ q.2
  rw[q.1,<-IK,<-eS] at H
  exact H▸⟨q.2,λps=>q.2▸cG.first λG C h'=>de.mp λW=>Y _ (q.1▸W) ((Ch hl V).mpr ⟨G,C,rfl,q.2.trans h'⟩)⟩
def ms(ps:List (List Nat))(g:List Nat):Prop:=∃p V r m,ps=p::(V++[r])/\g=p++m++r/\cG V m
theorem pK{p r g:List Nat}{qs:List (List Nat)}:ms (p::(qs++[r])) g<->∃m,g=p++m++r/\cG qs m:=by
 constructor
 ·rintro⟨p',Y,B,m,W,V,h3⟩
  refine(j4 W).elim λZ H=>?_
  obtain⟨G,C⟩:=List.append_inj' H rfl
  simp only[Z,G,(j4 C).1]
  exact⟨m,V,h3⟩
 ·rintro⟨m,V,h3⟩
  exact⟨p,qs,r,m,rfl,V,h3⟩
theorem Jy{p r g Z V:List Nat}{qs:List (List Nat)}(H:g=p++Z)(Y:g=V++r):(p.length<=g.length-r.length/\cG qs (win g p.length (g.length-r.length)))<->ms (p::(qs++[r])) g:=by
 rw[pK]
 have e:g.length-r.length=V.length:=by simp only[Y,bR,zB]
 have G:win g p.length V.length=V.drop p.length:=by unfold win;simp only[Y,qU]
 rw[e,G]
 constructor
 ·rintro⟨W,h3⟩
  have t:V.take p.length=p:=by
   have:=aQ (SO p.length) (H.symm.trans Y)
   rw[qU,NE W] at this
   exact this.symm
  exact⟨V.drop p.length,Y.trans (aQ (·++r) ((kA p.length V).symm.trans (aQ (·++_) t))),h3⟩
 ·rintro⟨m,W,h3⟩
  simp only[(List.append_cancel_right (Y.symm.trans W):V=p++m),mK,bR]
  exact⟨cy _ _,h3⟩
end
section
variable {n m:Nat} {sc:bf} {ρ:ay}
noncomputable def ach(J:ay->Prop)(k:Fl->ay->Prop):Fl->ay->Prop:=λfl ρ=>match fl with
 |.next=>∃aC,Sub aC ρ/\J aC
 |fl=>k fl ρ
theorem aL.cut(J:ay->Prop){b:bw}{r:List bw}{k:Fl->ay->Prop}(h:aO n sc ρ b (ach J k))(hr:∀aC,J aC->aL n sc aC r k):aL n sc ρ (b::r) k:=
 .cons (h.mono λfl aC q=>by
  induction fl with
  |next=>obtain⟨V,s,j⟩:=q;exact(hr _ j).sub s
  |brk=>exact q
  |cont=>exact q
  |ret d=>exact q)
theorem Ta{len:Nat}(h:j<=len):min (max 0 (if (j:Int)<0 then (j:Int)+len else (j:Int))).toNat len=j:=by
 exact(be (dU.mpr (dA _)))▸(V2 (by assumption))
theorem bk.ZM{lo:Nat}(hh:hi<=x.length)(V:k (.int (match kr x y lo hi 1 with|i::_=>(i:Int)|[]=>-1))):bk n (.builtin "str.find") [.str x,.str y,.int lo,.int hi] k:=.mk λw A s g vs S R r E=>by
 refine ba λY=>?_
 obtain⟨v,u,v1,C,rfl,W,Z,h3,H⟩:=r.four
 apply Y
 refine W.dB λt=>?_;refine Z.dB λB=>?_;refine h3.b9 λf=>?_;refine H.b9 λt2=>?_
 refine call_gives F.slot_str_find (nM _ _ _) F.entry_str_find (F.args_str_find_4 _ _ _ _) (m:=.int (match kr x y lo hi 1 with|i::_=>(i:Int)|[]=>-1)) ?_ (Out.toks S (.int _ _) V)
 have G:(max 0 (if (lo:Int)<0 then (lo:Int)+x.length else (lo:Int))).toNat=lo:=by exact(be (dU.mpr (dA _)))▸(B6 _)
 show Gives (match kr x y (max 0 (if (lo:Int)<0 then (lo:Int)+x.length else (lo:Int))).toNat (min (max 0 (if (hi:Int)<0 then (hi:Int)+x.length else (hi:Int))).toNat x.length) 1 with|k::_=>retInt k|[]=>(do rule "str.find.not-found";retInt (-1))) _
 rw[G,Ta hh]
 induction kr x y lo hi 1 with
 |nil=>exact .rule (.of_eq rfl)
 |cons k _=>exact .of_eq rfl
end
theorem Hc:wq x y=ae<->∃m,cl x=cl y++m:=by
 unfold wq
 rw[bB,decide_eq_true_eq,pE,cD,cD]
 constructor
 ·rintro⟨Y,V⟩
  exact⟨(cl x).drop (cl y).length,by
   conv=>rhs;lhs;rw[<-V,tq]
   rw[kA]⟩
 ·rintro⟨m,h⟩
  rw[h];simp
theorem IL:wy x y=ae<->∃m,cl x=m++cl y:=by
 unfold wy
 rw[bB,decide_eq_true_eq,pE,cD,cD]
 constructor
 ·rintro⟨Y,V⟩
  refine⟨(cl x).take ((cl x).length-(cl y).length),?_⟩
  rw[k9 (by simp;exact Zj (by assumption))] at V
  conv=>rhs;rhs;rw[<-V]
  rw[kA]
 ·rintro⟨m,h⟩
  rw[h];simp
noncomputable def LZ:Obj:=excClassObj (a6 "Headers") (a6 "Headers") 258 257 [aK "object"] [aK "object"] ae [] [] aI aU aU aU aU (aa (.str (a6 "Headers") 536)) (aa (.str (a6 "Headers") 544)) (aa (.bool ae)) "object.__new__"
noncomputable def yG(P:bS)(x:Str):Option ai:=match (CU P).data with
 |.dict es _=>nsFind es x
 |_=>aU
theorem pW(S:St w s g):s.heap.get? 258=aa LZ:=S.df 258 LZ rfl
noncomputable def BR(e:dy):Bool:=match e.key with
 |.str _ _=>ae
 |_=>aI
theorem R5{e:dy}(h:BR e=ae):∃x t,e.key=.str x t:=by
 unfold BR at h
 generalize e.key=v at h
 induction v with
 |str x t=>exact⟨x,t,rfl⟩
 |_=>exact te h
theorem Wj{es:Array dy}(h:es.toList.all BR=ae):ue es:=λe V=>R5 (ee.mp h e (sY.mpr V))
theorem uF(S:St w s g):s.heap.Ns 257 (yG w.params):=
 ⟨CU w.params,_,_,S.df 257 _ rfl,rfl,Wj rfl,λx=>rfl⟩
noncomputable def heads(hl:ag)(y:Str):Option ai:=if y="_headers" then aa (.ref hl) else aU
theorem jh.yH{x hl:ag}(S:St w s g)(P:jh w s g x dx hl af):s.heap.Inst x 258 (heads hl):=by
 refine ba λY=>?_
 obtain⟨⟨o,W,Z,h3,H,G⟩,⟨C,es,n,B,f,h8,h9,V⟩,_,_⟩:=P
 apply Y
 exact⟨o,S.sub _ _ W,Z,H,.inr ⟨dx,h3,G,C,es,n,S.sub _ _ B,f,h8,h9,V⟩⟩
theorem w9{x hl:ag}{expr:Bool}(S:St w s g)(P:jh w s g x dx hl af)(h:Q (.ref hl) {s with toks:=s.toks+1}):
 wpAny (model PG w) A (getAttr (.ref x) "_headers" expr) Q E s:=
 load_attr (pW S) (uF S) (by ac_rfl) (by ac_rfl) (by rw[j0,jV];kernel_rfl) (P.yH S) (by ac_rfl) rfl h
structure m5(name:Str)(f:ag):Prop where
 ns:∀P:bS,yG P name=aa (.ref f)
 fn:∀w:a9,∃o,(KH w).lookup f=aa o/\o.cls=aK "function"
 lk:∃y,mP (aK "object") name=pure y
 ne:(name==("_headers":Str))=aI
 keep:∀w:a9,keepIn (KH w) (.ref f)=ae
theorem Tb{x:ag}{mA:Str->Option ai}{name:Str}{f:ag}{Y:Sem Bool}{Q:ai×List ai->av->Prop}(S:St w s g)(M:m5 name f)(I:s.heap.Inst x 258 mA)(W:mA name=aU)(h:Q (.ref f,[.ref x]) s):
 wpAny (model PG w) A (getMethod (.ref x) name Y) Q E s:=by
 refine(M.fn w).elim λo V=>V.elim λZ H=>?_
 obtain⟨y,h3⟩:=M.lk
 exact method_of (pW S) (uF S) (by ac_rfl) (by ac_rfl) (M.ns _) (S.df _ _ Z) H h3 I W h
theorem AK{hl:ag}{name:Str}{f:ag}(M:m5 name f):heads hl name=aU:=be λe=>by have:=M.ne;rw[e] at this;revert this;decide
section
open PySem.Builtin PySem.Builtin.Re
noncomputable def ug:Nat->r9->Option r9
 |0,_=>ak
 |n+1,m=>let m:=m.runFor 4;if m.outcome.isSome then aa m else ug n m
noncomputable def codeN:Array Nat:=#[14,10,4,1,1,22,0,31,16,127,0,13,7,22,0,31,16,127,0,1]
noncomputable def codeV:Array Nat:=#[14,14,4,1,1,9,4294966783,0,0,2147483648,0,0,0,0,0,13,11,9,4294966783,0,0,2147483648,0,0,0,0,0,1]
noncomputable def IM(o:Rk):Bool:=o.ctorIdx==1
theorem Rw{o:Rk}(h:IM o=ae):o=.failed:=by
 cases o with
 |failed=>rfl
 |_=>exact ft h
noncomputable def yI(code:Array Nat)(x:Str):Bool:=((ug 100 (QC code x.cps 0 0 x.cps.size aI)).bind (·.outcome)).any IM
noncomputable def okN(x:Str):Bool:=yI codeN x
noncomputable def oS(x:Str):Bool:=yI codeV x
section
variable {w:a9} {A:bN} {E:ai->av->Prop} {s:av}
theorem HU{V:r9}:∀{k turns:Nat} {m:r9} {Q:r9->av->Prop},ug k m=aa V->k<=turns->Q V s->wpAny (model PG w) A (reDrive turns m) Q E s
 |0,_,_,_,h,_,_=>by exact ns h
 |k+1,0,_,_,_,h,_=>aZ h (kH.mpr (cg (bv _) (jz _ _)))
 |k+1,turns+1,m,Q,h,W,Y=>by
  show wpAny _ _ (if (m.runFor 4).outcome.isSome=ae then pure (m.runFor 4) else (do rule "sre.turn";reDrive turns (m.runFor 4))) _ _ _
  have h:(if (m.runFor 4).outcome.isSome=ae then aa (m.runFor 4) else ug k (m.runFor 4))=aa V:=h
  by_cases q:(m.runFor 4).outcome.isSome=ae
  ·rw[bo q] at h⊢
   obtain rfl:=aW h;exact a8 Y
  ·rw[be q] at h⊢
   exact ka (HU h (by exact LI (by assumption)) Y)
theorem Wk{m V:r9}{Q:Option r9->av->Prop}(h:ug 100 m=aa V)(Y:V.outcome=aa .failed)(W:Q ak s):wpAny (model PG w) A (reRunToEnd m) Q E s:=by
 refine aJ (HU h (by decide) ?_)
 refine aJ (wpAny_forIn_list _ (λ_ _ s'=>s'=s) _ (λx bW b s' e=>?_) (λb s' e=>?_) _ _ rfl)
 ·split
  ·exact ka (a8 e)
  ·exact a8 e
 ·subst e
  exact Y▸(a8 W)
end
theorem QQ:PlainAttrs "re.Pattern":=
 ⟨⟨"object.__getattribute__",by rw[j0,jV];kernel_rfl,by decide+kernel⟩,by rw[j0,jV];kernel_rfl⟩
theorem F9:Slot "re.Pattern" "search" "re.Pattern.search":=
 .of (owner:="re.Pattern") (n:="search") (by rw[j0,jV];kernel_rfl) (by decide+kernel) (by decide+kernel) (by decide+kernel)
  (by first|exact .inl (by decide+kernel)|exact .inr (by decide+kernel)) (by rw[qV];kernel_rfl)
theorem Qu:typeOf (.builtin "re.Pattern.search")=pure (aK "method_descriptor"):=by show builtinType _=_;rw[builtinType_eq_fast];kernel_rfl
theorem P_:entryFor table "re.Pattern.search"=aa Builtin.«re.Pattern.search»:=PC (by kernel_rfl)
theorem Qv(a b:ai):argsOk "re.Pattern.search" ⟨[a,b],[]⟩:=by kernel_rfl
theorem cO.search:cO "re.Pattern" "search" "re.Pattern.search":=⟨QQ,F9,Qu⟩
structure yn(a:ag)(code:Array Nat):Prop where
 at_:∀w:a9,∃T o Nk fl af n,(KH w).lookup a=aa {cls:=aK "re.Pattern",data:=bC #[Nk,fl,.int 0 0,.none,.none,.ref T,.int 0 0]}/\(KH w).lookup T=aa o/\o.data=.seq af n/\(af.map reRawOf).map (·.toNat)=code
theorem reN:yn 124 codeN:=⟨λw=>⟨123,_,_,_,_,_,rfl,rfl,rfl,by kernel_rfl⟩⟩
theorem reV:yn 129 codeV:=⟨λw=>⟨128,_,_,_,_,_,rfl,rfl,rfl,by kernel_rfl⟩⟩
set_option tactic.hygienic true in
theorem Tc{code:Array Nat}{t:Tok}(S:St w s g)(R:yn a code)(Y:yI code x=ae)(hl:x.length<2^63)(H:Q .none s):
 wpAny (model PG w) A (call (.builtin "re.Pattern.search") [.ref a,.str x t]) Q E s:=by
 refine ba λG=>?_
 obtain⟨T,o,C,fl,af,n,Z,B,h3,f⟩:=R.at_ w
 apply G
 refine jZ F9 ⟨_,(S.df _ _ Z),rfl⟩ P_ ?_ (Qv _ _)
 have V:reNamed "re.Pattern.search" "search" ["string","pos","endpos"] 1 [.str x t] []=pure [aa (.str x t),ak,ak]:=by
  kernel_rfl
 show wpAny _ _ (reTarget "re.Pattern.search" "search" ⟨[.ref a,.str x t],[]⟩>>=_) _ _ _
 refine aJ ?_
 show wpAny _ _ (reNamed "re.Pattern.search" "search" ["string","pos","endpos"] 1 [.str x t] []>>=_) _ _ _
 refine rP V ?_
 show wpAny _ _ (fieldsOf (.ref a)>>=_) _ _ _
 refine aJ (FV (S.df _ _ Z) rfl ?_)
 show wpAny _ _ (reRawItems (.ref T)>>=_) _ _ _
 refine aJ (lV (S.df _ _ B) h3 (a8 (a8 ?_)))
 have e5:min (2^63-1:Int).toNat x.cps.size=x.cps.size:=abj hl
 obtain⟨o,W,hf⟩:=(Option.any_eq_true _ _).mp Y
 obtain⟨m,hm,W⟩:=kt.mp W
 obtain rfl:=Rw hf
 show wpAny _ _ (reAnswer _ (QC ((af.map reRawOf).map (·.toNat)) x.cps 0 (min (0:Int).toNat x.cps.size) (min (2^63-1:Int).toNat x.cps.size) aI)) _ _ _
 rw[f,e5]
 exact aJ (Wk hm W (a8 ⟨_,rfl,H⟩))
end
section
variable {n m:Nat} {sc:bf} {ρ:ay}
theorem bH.Td{k:Bool->Prop}(C:sc.names.lookup (a6 "type")=aa cj)(B:sc.names.lookup (a6 "str")=aa cj)(f:ρ.lookup x=aa (.dat (.str y)))(G:ce x=ae)(hk:k ae):
 bH n sc ρ (iO (bU (aS (a6 "type") np) [aS x xp] [] cp) [.Is] [aS (a6 "str") sp] aM) k:=.mk λw A ab s g S R V E=>by
 refine vG ?_ rfl
 refine lM ((w7 C).run w A ab s g ρ S V np _ E ?_)
 refine j6 (P:=λhp=>∃k,(k=jC\/k=jA\/k=jx)/\jL (model PG w) hp (keeperOf (aK "type")) k) (by rw[(cE (l:=[aS x xp]) rfl).2];rfl) (λ_ q=>q) ?_
 refine fj (cE (l:=[aS x xp]) rfl).1 rfl (bg (cn.ok (k:=λds=>ds=[.str y]) rfl (hZ (aj.name f G (fQ rfl))) w A ab s g cp S R V E) (λvs aA ⟨aN,ds,W,Y,Z,H⟩=>?_))
 subst H
 obtain⟨v,rfl,hv⟩:=Z.one
 refine hv.dB λt=>?_
 refine fz ⟨(w7 C).keep w aA aN Y,call_type_of (nM _ _ _) (rfl) ?_⟩
 refine(IC B).run w A ab aA aN ρ Y (V.step W S) sp _ E ?_
 exact a8 (a:=eC (cF "str"==cF "str")) (by exact(rfl:(cF "str"==cF "str")=ae)▸(nB ⟨aN,W,Y,hk⟩))
theorem cK.top{k:Bd->Prop}(Z:sc.names.lookup x=aa cj)(H:∀w,nsIn (KH w) e9 x=aa (aa (.ref a)))(G:ce x=ae)(h:k (.re a)):cK n sc ρ (aS x p) k:=.mk λw A ab s g S R V E=>by
 obtain⟨W,Y⟩:=S.gx
 exact zm V.kind (KS.glob (Z▸V.ks x)) (E9 (mg:=W) (by exact V.glob▸Y) (mg_of S.df Y (H w)) ⟨g,.re a,[],Nx.refl _ _ _,S,⟨rfl,rfl⟩,rfl,λa h=>(by simp at h),h⟩) (d3 G)
theorem cK.Cz{t b o:au}{k:Bd->Prop}(h:bH n sc ρ t λc=>if c then cK n sc ρ b k else cK n sc ρ o k):cK n sc ρ (.IfExp t b o aM) k:=.mk λw A ab s g S R V E=>
 GI (bg (h.run w A ab s g S R V E) (λc aA H=>by
  obtain⟨aN,W,Z,Y⟩:=H
  have qg:∀a,aA.heap.get? a=aU->s.heap.get? a=aU:=λa e=>by
   induction q:s.heap.get? a with
   |none=>rfl
   |some o=>refine(W.there _ _ q (ca)).elim λo' C=>?_;exact ns (e.symm.trans C)
  have dk:∀e,cK n sc ρ e k->wpAny (model PG w) A (eval e ab) (C6 w s g ab k) E aA:=λe Y=>
   bg (Y.run w A ab aA aN Z R (V.step W S) E) (λr G H=>by obtain⟨g',b,ad,N,B,f,hf,ha,hk⟩:=H;exact⟨g',b,ad,W.trans N,B,f,hf,λa hm=>qg a (ha a hm),hk⟩)
  induction c with
  |true=>exact dk b Y
  |false=>exact dk o Y))
theorem aj.IN{r v:Str}{code:Array Nat}{rp B:Pos}(hr:ρ.lookup r=aa (.re a))(Z:ce r=ae)(hv:ρ.lookup v=aa (.dat (.str y)))(f:ce v=ae)(Re:yn a code)(hA:yI code y=ae)(hl:y.length<2^63)
 (W:(eQ.endLine==aM.line)=ae)(hk:k .none):aj n sc ρ (bU (cC (aS r rp) "search" eQ) [aS v B] [] aM) k:=.mk λw A ab s g S R V E=>by
 refine ba λN_=>?_
 obtain⟨u,ad,h1,h2,h3⟩:=V.var r _ hr
 subst h2
 apply N_
 refine nr rfl ?_ W rfl (eN (dZ V.kind h1 Z ?_) (d3 Z))
 ·rw[(cE (l:=[aS v B]) rfl).1]
  rfl
 ·refine ba λN_=>?_
  obtain⟨T,o,Nk,fl,af,n',q1,q2,q3,q4⟩:=Re.at_ w
  apply N_
  refine⟨"re.Pattern","re.Pattern.search",cO.search.pa,cO.search.slot,cO.search.ty,⟨_,(S.df _ _ q1),rfl⟩,λb e=>by (cases e;exact⟨_,(S.df _ _ q1),rfl⟩),?_⟩
  refine nG (cE (l:=[aS v B]) rfl).2 (fj (cE (l:=[aS v B]) rfl).1 rfl (bg (cn.ok (k:=λds=>ds=[.str y]) rfl (hZ (aj.name hv f (fQ rfl))) w A ab s g aM S R V E) (λvs aT ⟨bb,ds,H,Y,G,C⟩=>?_)))
  subst C
  obtain⟨z,rfl,hz⟩:=G.one
  refine hz.dB λt=>?_
  exact fz (Tc Y Re hA hl ⟨bb,.none,H,Y,.none,hk⟩)
theorem Ci{k:Bool->Prop}(h:k aI):∃b,D.none.truth=aa b/\(∀x,D.none=.str x->x.length<2^63)/\(∀x,D.none=.lst x->x.length<2^63)/\k b:=⟨_,rfl,λx e=>(by cases e),λx e=>(by cases e),h⟩
structure ng(n:Nat)(fa:ag)(d:D)(b:Bool)(k:D->Prop):Prop where
 run:∀(w:a9) (A:bN) (s:av) (g:aY) (u v:ai),St w s g->Rm n A->Rep w g v d->∀E,wpAny (model PG w) A (call (.ref fa) [u,v] [("name",.bool b)]) (Out w s g k) E s
theorem ng.intro{name:Str}{b:Bool}(C:r_ fa name bI params body sc)
 (B:∀doc pm bA ct an (s:av) u v,fP s (gm name bI params body sc .none .none doc pm bA ct an) ⟨[u,v],[("name",.bool b)]⟩ (([("self":Str),"value","name"]:List Str).zip [u,v,.bool b]))
 (W:g4 [("self":Str),"value","name"] sc []=ae)(V:sc.names.all (λx=>!(x.2==.free))=ae)(Z:(d4 sc).isNone=ae)
 (h:aL n sc ([("self",.any),("value",.dat d),("name",.dat (.bool b))]:List (Str×Bd)) body (fK k)):ng (n+2) fa d b k:=.mk λw A s g u v S R r E=>by
 have Y:∀(P:ag->Prop),∀c∈([]:List ag),P c:=λ_ _ h=>aZ h ca
 have f:cW w s g [] [u,v,.bool b] [.any,.dat d,.dat (.bool b)] (mq [] (mq [] (mq [] λ_=>[]))):=
  .cons (λ_=>rfl) (Y _) (λ_ _ _ _=>Y _) (.cons (λ_=>⟨r,rfl⟩) (Y _) (λ_ _ _ _=>Y _) (.cons (λ_=>⟨.bool _,rfl⟩) (Y _) (λ_ _ _ _=>Y _) (.nil dq.nil)))
 exact(C.at_ w).rec λdoc pm bA ct an h0 h1=>
  nO (aH:=[("self":Str),"value","name"]) S R f h0 rfl h1 (B doc pm bA ct an s u v) rfl W V Z (rA▸h) λv s' ab g' aC d G H R' hk=>⟨g',d,H.nx,H.st,R',hk⟩
end
def sC(b:Bd)(x dx hl:ag)(l:List D):Prop:=b=.dT x dx hl l\/b=.hdr x dx hl l
theorem sC.rep{b:Bd}{x hl:ag}(h:sC b x dx hl l){ad:List ag}(r:cU w s g ab v ad b):Cy w s g v ad x dx hl l:=by
 rcases h with rfl|rfl<;>exact r
theorem jh.step{x hl:ag}(P:jh w s g x dx hl af)(N:Nx [] s g s' g')(S:St w s g):jh w s' g' x dx hl af:=by
 obtain⟨⟨o,V,Y⟩,⟨W,es,n,Z,H⟩,⟨G,e⟩,C⟩:=P
 exact⟨⟨o,N.gg _ _ V,Y⟩,⟨W,es,n,N.gg _ _ Z,H⟩,N.plain S ⟨G,e⟩ (by simp),N.old _ _ e C (by simp)⟩
section
variable {n m:Nat} {sc:bf} {ρ:ay}
theorem A1{x:ag}{mA:Str->Option ai}{o:au}{name:Str}{f:ag}{args:List au}{V:List Keyword}(M:m5 name f)(hm:mA name=aU)
 (hb:mN o name ab (eval o ab)=eval o ab)(ha:args.all cu=ae)(Y:(backToKw aM (Au V ab)).all (λx=>x.1.isSome)=ae)(hfew:args.length+V.length<29)(W:(eQ.endLine==aM.line)=ae)
 (h:wpAny (model PG w) A (eval o ab) (λov aA=>ov=.ref x/\(∃aN,St w aA aN/\aA.heap.Inst x 258 mA)/\wpAny (model PG w) A (evalArgs (.ref f) ae (backTo aM (starEach args ab)) (backToKw aM (Au V ab))) (λa aT=>(∃bb,St w aT bb)/\wpAny (model PG w) A (call (.ref f) (.ref x::a.pos) a.kw) Q E aT) E aA) E s):
 wpAny (model PG w) A (eval (bU (cC o name eQ) args V aM) ab) Q E s:=by
 have Z:FQ (args.length+V.length) (backTo aM (starEach args ab)) (backToKw aM (Au V ab))=ae:=by
  unfold FQ
  rw[Y,(cE ha).1]
  split<;>simp<;>omega
 have H:QD ae o ab eQ aM=pure aM:=by unfold QD;simp[W]
 simp only[arm_eval_Call,hb]
 refine aJ (eg h (λov aA ⟨e,⟨aN,G,I⟩,C⟩=>?_) λ_ _ e=>e)
 subst e
 refine jb ?_
 unfold methodCall
 refine Z▸?_
 refine aJ (eH (Tb G M I hm ?_))
 refine rP H ?_
 refine j6 (P:=λhp=>(KH w).In hp) ?_ (λhp X=>?_) (eg C (λa aT q_=>by obtain⟨⟨bb,B⟩,f_⟩:=q_;exact⟨B.df,f_⟩) λ_ _ e=>e)
 ·rw[(cE ha).2]
  rw[ee] at Y
  rw[Ab,Fa]
  intro y hy
  have:=Y y hy
  induction q:y.1 with
  |none=>replace this:=q▸this;exact ft this
  |some z=>simp
 ·obtain⟨o,h1,h2⟩:=M.fn w
  exact keeps_K (K:=KH w) (M.keep w) hp X
theorem K4:m5 "_convert_string_type" 159:=⟨λP=>by ac_rfl,λw=>⟨_,rfl,rfl⟩,⟨aU,by rw[j0,jV];kernel_rfl⟩,rfl,λw=>by ac_rfl⟩
theorem Wl:m5 "get_all" 197:=⟨λP=>by ac_rfl,λw=>⟨_,rfl,rfl⟩,⟨aU,by rw[j0,jV];kernel_rfl⟩,rfl,λw=>by ac_rfl⟩
theorem uu:m5 "items" 222:=⟨λP=>by ac_rfl,λw=>⟨_,rfl,rfl⟩,⟨aU,by rw[j0,jV];kernel_rfl⟩,rfl,λw=>by ac_rfl⟩
theorem aci:m5 "add_header" 255:=⟨λP=>by ac_rfl,λw=>⟨_,rfl,rfl⟩,⟨aU,by rw[j0,jV];kernel_rfl⟩,rfl,λw=>by ac_rfl⟩
theorem aj.conv{hl:ag}{b:Bool}{f:Pos}(hx:ρ.lookup x=aa bx)(hp:sC bx X dx hl l)(Z:ce x=ae)(he:cu e=ae)(W:(eQ.endLine==aM.line)=ae)
 (h:aj n sc ρ e λd=>ng n 159 d b k):aj n sc ρ (bU (cC (aS x xp) "_convert_string_type" eQ) [e] [⟨aa "name",jF (.bool b) c cp,f⟩] aM) k:=.mk λw A ab s g S R V E=>by
 have B:[e].all cu=ae:=by simp[he]
 refine ba λN_=>?_
 obtain⟨v,ad,h1,h2⟩:=V.var x _ hx
 obtain⟨af,rfl,P,rl,_⟩:=hp.rep h2
 apply N_
 refine A1 K4 (AK K4) rfl B rfl (by simp) W (eN (dZ V.kind h1 Z ⟨rfl,⟨g,S,P.yH S⟩,?_⟩) (d3 Z))
 refine fj (cE B).1 rfl (bg (cn.ok (k:=λds=>∃d,ds=[d]/\ng n 159 d b k) B (hZ (h.mono λd q=>fQ ⟨d,rfl,q⟩)) w A ab s g aM S R V E) (λvs aA ⟨aN,ds,H,Y,G,d,e1,C⟩=>?_))
 subst e1
 obtain⟨u,rfl,hu⟩:=G.one
 show wpAny _ A (evalAll [do let v <-eval (jF (.bool b) c cp) ab;standAt aM;pure v]) _ E aA
 refine EW (aJ (OJ (jb (a8 ?_))))
 exact fz ⟨⟨aN,Y⟩,Out.back H (C.run w A aA aN (.ref X) u Y R hu E)⟩
structure iZ(n:Nat)(fa:ag)(l:List D)(ds:List D)(k:D->Prop):Prop where
 run:∀(w:a9) (A:bN) (s:av) (g:aY) (X dx hl:ag) (af:Array ai) (vs:List ai),St w s g->Rm n A->jh w s g X dx hl af->aP w g af.toList l->aP w g vs ds->∀E,wpAny (model PG w) A (call (.ref fa) (.ref X::vs)) (Out w s g k) E s
theorem iZ.le{ds:List D}(h:iZ m fa l ds k)(V:m<=n):iZ n fa l ds k:=⟨λw A s g X dx hl af vs S R P r q E=>h.run w A s g X dx hl af vs S (R.le V) P r q E⟩
theorem cW.Cj{ds:List D}{hl:ag}{b:Bd}(M:dq w s g mu)(V:b=.dT X dx hl l/\mu=[hl]\/b=.hdr X dx hl l/\mu=[])(P:jh w s g X dx hl af)(hr:aP w g af.toList l)(r:aP w g vs ds):
 cW w s g mu (.ref X::vs) (b::ds.map Bd.dat) (mq [hl] λ_=>[]):=
 .cons (λ_=>V.elim (λq=>q.1▸⟨af,rfl,P,hr,rfl⟩) (λq=>q.1▸⟨af,rfl,P,hr,rfl⟩)) (λc Y=>by
  refine P.list.elim λW e=>?_
  rcases V with ⟨rfl,rfl⟩|⟨rfl,rfl⟩
  ·exact Y
  ·exact⟨⟨_,(a_.mp Y).symm▸e⟩,ca⟩) (λ_ _ _ _ _ _ h=>ca h) (.LV M r)
theorem iZ.intro{name:Str}{ds:List D}(C:r_ fa name bI params body sc)
 (B:∀doc pm bA ct an (s:av) vs,vs.length=ds.length+1->fP s (gm name bI params body sc .none .none doc pm bA ct an) ⟨vs,[]⟩ (aH.zip vs))
 (W:g4 aH sc []=ae)(Y:aH.length=ds.length+1)(V:sc.names.all (λx=>!(x.2==.free))=ae)(Z:(d4 sc).isNone=ae)
 (h:∀X dx hl,aL n sc (bindR aH (.hdr X dx hl l::ds.map Bd.dat)) body (fK k)):iZ (n+2) fa l ds k:=.mk λw A s g X dx hl af vs S R P r q E=>
 (C.at_ w).rec λdoc pm bA ct an f h1=>
  nO S R (cW.Cj dq.nil (.inr ⟨rfl,rfl⟩) P r q) f rfl h1 (B doc pm bA ct an s (.ref X::vs) (aQ _ q.1)) (Y.trans (aQ (·+1) (aR ..).symm)) W V Z (h X dx hl) λv s' ab g' aC d G H R' hk=>⟨g',d,H.nx,H.st,R',hk⟩
theorem aj.rJ{name:Str}{hl:ag}{args:List au}(M:m5 name fa)(hx:ρ.lookup x=aa bx)(hp:sC bx X dx hl l)(H:ce x=ae)(f:args.all cu=ae)(G:args.length<29)(Z:(eQ.endLine==aM.line)=ae)
 (h:cn n sc ρ args λds=>iZ n fa l ds k):aj n sc ρ (bU (cC (aS x xp) name eQ) args [] aM) k:=.mk λw A ab s g S R V E=>by
 refine ba λN_=>?_
 obtain⟨v,ad,h1,h2⟩:=V.var x _ hx
 obtain⟨af,rfl,P,rl,_⟩:=hp.rep h2
 apply N_
 refine A1 M (AK M) rfl f rfl (by exact G) Z (eN (dZ V.kind h1 H ⟨rfl,⟨g,S,P.yH S⟩,?_⟩) (d3 H))
 refine fj (cE f).1 rfl (bg (cn.ok f h w A ab s g aM S R V E) (λvs aA ⟨aN,ds,Y,W,C,B⟩=>?_))
 exact fz ⟨⟨aN,W⟩,Out.back Y (B.run w A aA aN X dx hl af vs W R (P.step Y S) (rl.mono Y.gg) C E)⟩
theorem Te{lower V step:Option au}{T id:String}(hl:mP (aK T) "__getitem__"=pure (aa (.builtin id)))
 (h:wpAny (model PG w) A (eval cX ab) (λo aA=>wpAny (model PG w) A (eval (.Slice lower V step p) ab) (λi aT=>aT.TypeIs o T/\wpAny (model PG w) A (getItem o i) Q E aT) E aA) E s):
 wpAny (model PG w) A (eval (dM cX (.Slice lower V step p) aM) ab) Q E s:=by
 refine AD (eg h (λo aA W=>eg W (λi aT G=>G.elim λH C=>?_) λ_ _ x=>x) λ_ _ x=>x)
 refine aJ ?_
 rw[getitemInPython_of_ne H.not_modules]
 refine wF H hl ?_
 have dk:∀l,wpAny (model PG w) A (operate l (getItem o i)) (λr Y=>wpAny (model PG w) A (FR cX o r>>=λ_=>pure r) Q E Y) E aT:=λl=>
  wpAny_operating (eg C (λr Y Z=>aJ (wpAny_letTemporaryGo (a8 Z))) λ_ _ x=>x)
 refine a8 (aJ ?_)
 induction step with
 |none=>exact dk [i,o]
 |some e=>exact dk [o,i]
theorem aj.Wm{hl:ag}(hx:ρ.lookup x=aa bx)(hp:sC bx X dx hl l)(Z:ce x=ae)(H:l.length<=10000)(hk:k (.lst l)):
 aj n sc ρ (dM (cC (aS x xp) "_headers" ap) (.Slice aU aU aU sp) aM) k:=.mk λw A ab s g S R V E=>by
 refine ba λN_=>?_
 obtain⟨v,ad,h1,h2⟩:=V.var x _ hx
 apply N_
 refine ba λN_=>?_
 obtain⟨af,rfl,P,rl,_⟩:=hp.rep h2
 apply N_
 refine Te E4.lookup (z0 (eN (dZ V.kind h1 Z (w9 S P ?_)) (d3 Z)))
 obtain⟨G,C⟩:=S.ext' (h':=s.heap) (tk:=s.toks+1) λ_ _ e=>e
 refine GK (a8 (a8 (a8 ?_)))
 have Nh:({s with heap:=s.heap.push {cls:=aK "slice",data:=bC #[fX aU,fX aU,fX aU]},toks:=s.toks+1}:av).heap.IsSlice s.heap.objs.size aU aU aU:=⟨_,cB _ rfl,rfl,rfl⟩
 obtain⟨f,gd⟩:=C.ext' (h':=s.heap.push {cls:=aK "slice",data:=bC #[fX aU,fX aU,fX aU]}) (tk:=s.toks+1) λb o e=>bZ _ e
 refine P.list.elim λnn e1=>?_
 have e2:=bZ {cls:=aK "slice",data:=bC #[fX aU,fX aU,fX aU]} e1
 have hL:({s with heap:=s.heap.push {cls:=aK "slice",data:=bC #[fX aU,fX aU,fX aU]},toks:=s.toks+1}:av).heap.IsList hl af:=⟨_,e2,rfl,nn,rfl⟩
 have eR:af.size=l.length:=by have:=rl.1;exact this
 refine⟨hL.typeIs,?_⟩
 refine NT hL ⟨_,cB _ rfl,rfl,rfl⟩ (rC aU) (rC aU) (rC aU) (by decide) ?_ (by rw[eR];have:sizeLine=2^24:=rfl;exact bd (aV H (by decide)))
 refine Out.trans (G.trans f) (Out.newList (tk:=s.toks+1) gd (l:=l) ?_ hk) λ_ x=>x
 show aP w g (slicePick af aU aU aU).toList l
 rw[slicePick_all];exact rl
theorem gu.dT{t:au}{hl:ag}{k:List D->Prop}(hx:ρ.lookup x=aa bx)(hp:sC bx X dx hl l)(Z:ce x=ae)(H:l.length<=10000)(hk:k l):
 gu n sc ρ t (cC (aS x xp) "_headers" ap) k:=.mk λw A ab s g S R V E=>by
 refine ba λN_=>?_
 obtain⟨v,ad,h1,h2⟩:=V.var x _ hx
 apply N_
 refine ba λN_=>?_
 obtain⟨af,rfl,P,rl,_⟩:=hp.rep h2
 apply N_
 refine z0 (eN (dZ V.kind h1 Z (w9 S P ?_)) (d3 Z))
 obtain⟨G,C⟩:=S.ext' (h':=s.heap) (tk:=s.toks+1) λ_ _ e=>e
 refine P.list.elim λnn e1=>?_
 have hL:({s with toks:=s.toks+1}:av).heap.IsList hl af:=⟨_,e1,rfl,nn,rfl⟩
 refine s6 hL ?_
 refine(C.ext' (h':=s.heap.push {cls:=aK "list_iterator",data:=bC #[.ref hl,.int 0 0]}) (tk:=s.toks+1) λb o e=>bZ _ e).elim λf Y=>?_
 have hI:=cB s.heap (o:={cls:=aK "list_iterator",data:=bC #[.ref hl,.int 0 0]}) rfl
 have e8:hl≠s.heap.objs.size:=λe=>by simp only[e,lg] at e1;exact ns e1
 have eh:=bZ {cls:=aK "list_iterator",data:=bC #[.ref hl,.int 0 0]} e1
 refine⟨_,[s.heap.objs.size,hl],[s.heap.objs.size],_,l,g,rfl,G.trans f,Y,dz.list R.2.2 _ hl e8 t af l rl,⟨⟨_,hI,rfl,rfl⟩,⟨_,eh,rfl,nn,rfl⟩⟩,λb hb=>?_,λb hb=>?_,H,hk⟩
 ·have:b=s.heap.objs.size:=a_.1 hb
  subst this;exact(hY S (a:=s.heap.objs.size) (bv _))
 ·rcases bT.mp hb with e|hb
  ·subst e;exact⟨Y.dN hI (.inl (by simp)),cq hI,.inl (bi)⟩
  ·have:b=hl:=a_.1 hb
   subst this
   exact⟨Y.dN eh (.inl (by simp)),cq eh,.inr (.inr ⟨af,nn,eh⟩)⟩
end
theorem Ux{M:n_}{c:Prop}[Decidable c]{m n:Sem α}{f:α->Sem β}{v:α}{Q:β->av->Prop}(V:∀{Q:α->av->Prop},Q v s->wpAny M A m Q E s)(Y:∀{Q:α->av->Prop},Q v s->wpAny M A n Q E s)(k:wpAny M A (f v) Q E s):wpAny M A (if c then m>>=f else n>>=f) Q E s:=by
 split
 ·exact aJ (V k)
 ·exact aJ (Y k)
theorem Yc{l Z nl:ag}{new:Array ai}{Q:Unit->av->Prop}(hl:s.heap.PlainList l af)(hs:s.heap.IsSliceOf Z .none .none .none)(hn:s.heap.IsList nl new)(B:af.size<=100000)(W:new.size<=100000)
 (hQ:∀h',h'.PlainList l new->kG l s.heap h'->Q () {s with heap:=h'}):wpAny (model PG w) A (setItem (.ref l) (.ref Z) (.ref nl)) Q E s:=by
 refine hl.elim λn ho=>?_
 refine ba λN_=>?_
 obtain⟨os,Y,hcs,H⟩:=id hs
 obtain⟨on,MN,hcn,nn,y5⟩:=id hn
 apply N_
 have hT:s.TypeIs (.ref l) "list":=⟨_,ho,rfl⟩
 have MO:s.TypeIs (.ref Z) "slice":=⟨os,Y,hcs⟩
 refine eH ?_
 refine aJ (Pm hT (rfl) ?_)
 refine aJ (qw (name:=a6 "__setitem__") hT zI
  (jZ zI hT O6 ?_ (Pn _ _ _)))
 show wpAny _ _ (zb (.ref Z)>>=_) _ _ s
 have sub:∀{Q:Option Int->av->Prop},Q aU s->wpAny (model PG w) A.in1 (zb (.ref Z)) Q E s:=λ{Q} V=>by
  unfold zb
  exact wF MO slice_no_index (a8 V)
 have G:∀{Q:ai×ai×ai->av->Prop},Q (.none,.none,.none) s->wpAny (model PG w) A.in1 (NI (.ref Z)) Q E s:=λ{Q} V=>by
  rw[listSliceParts_eq]
  refine aJ (As Y H (x:=.none) rfl (aJ (FW .none ?_)))
  refine w_field Y H (x:=.none) rfl (aJ (FW .none ?_))
  exact w_field Y H (x:=.none) rfl (aJ (FW .none (a8 V)))
 refine aJ (sub ?_)
 refine pB MO ?_
 show wpAny _ _ (NI (.ref Z)>>=_) _ _ s
 refine aJ (G ?_)
 have li:∀{Q:Array ai->av->Prop},Q new s->wpAny (model PG w) A.in1 (N7 (.ref nl)) Q E s:=λ{Q} V=>by
  exact lV MN y5 (a8 V)
 have lal:∀{Q:Array ai->av->Prop},Q new s->wpAny (model PG w) A.in1 (ady (.ref nl) "must assign iterable to extended slice") Q E s:=λ{Q} V=>by
  refine pB (T:="list") ⟨on,MN,hcn⟩ ?_
  exact li V
 have lx:∀{Q:Array ai->av->Prop},Q af s->wpAny (model PG w) A.in1 (N7 (.ref l)) Q E s:=λ{Q} V=>by
  exact lV ho rfl (a8 V)
 have lu:∀{f:Array ai->Array ai} {Q:Unit->av->Prop},(∀h',h'.PlainList l (f af)->kG l s.heap h'->Q () {s with heap:=h'})->(f af).size<=100000->wpAny (model PG w) A.in1 (NY (.ref l) f) Q E s:=λ{f Q} V hz=>by
  exact FG ho rfl (V _ ⟨_,wM (n:=n) ho f⟩ (gE ..)) (bd (aV B (by decide))) (bd (aV hz (by decide)))
 have dk:∀h',h'.PlainList l (af.extract 0 (0:Int).toNat++new++af.extract (max (0:Int) (af.size:Int)).toNat af.size)->kG l s.heap h'->Q () {s with heap:=h'}:=λh' q1 q2=>hQ h' (by
  have e1:(max (0:Int) (af.size:Int)).toNat=af.size:=Iw
  rw[e1] at q1
  simpa using q1) q2
 have hz:(af.extract 0 (0:Int).toNat++new++af.extract (max (0:Int) (af.size:Int)).toNat af.size).size<=100000:=by
  have e1:(max (0:Int) (af.size:Int)).toNat=af.size:=Iw
  rw[e1];simpa using W
 have C:¬(zc (af.size+new.size)=ae):=by unfold zc;simp;exact aD (fV B W) (by decide)
 refine Ux (v:=new) li lal ?_
 refine aJ (lx ?_)
 refine aJ (tI (sliceIndices_raw aU aU aU af.size (by decide)) ?_)
 show wpAny _ _ (if ((1:Int)==1)=ae then _ else _) _ _ _
 refine wpAny_ite_true rfl (ka (wpAny_ite_false (eW C) ?_))
 exact aJ (lu (λh' q1 q2=>xy (a8 ⟨_,rfl,a8 (dk h' q1 q2)⟩)) hz)
section
variable {n m:Nat} {sc:bf} {ρ:ay}
inductive l9(w:a9)(s:av)(g:aY)(X dx hl:ag)(l':List D)(s':av):Prop
 |mk (g' l7:_) (N:Nx [hl] s g s' g') (S:St w s' g') (P:jh w s' g' X dx hl l7) (hr:aP w g' l7.toList l')
theorem l9.trans{hl:ag}(N:Nx [] s g aA aN)(o:l9 w aA aN X dx hl l' aT):l9 w s g X dx hl l' aT:=
 let ⟨g',V,Y,S,P,hr⟩:=o;⟨g',V,(N.more (fS)).trans Y,S,P,hr⟩
structure g_(n:Nat)(fa:ag)(l ds l':List D):Prop where
 run:∀(w:a9) (A:bN) (s:av) (g:aY) (X dx hl:ag) (af:Array ai) (vs:List ai),St w s g->Rm n A->dq w s g [hl]->jh w s g X dx hl af->aP w g af.toList l->aP w g vs ds->∀E,
  wpAny (model PG w) A (call (.ref fa) (.ref X::vs)) (λ_=>l9 w s g X dx hl l') E s
theorem g_.le{ds:List D}(h:g_ m fa l ds l')(V:m<=n):g_ n fa l ds l':=⟨λw A s g X dx hl af vs S R M P r q E=>h.run w A s g X dx hl af vs S (R.le V) M P r q E⟩
theorem g_.intro{name:Str}{ds:List D}(B:r_ fa name bI params body sc)
 (f:∀doc pm bA ct an (s:av) vs,vs.length=ds.length+1->fP s (gm name bI params body sc .none .none doc pm bA ct an) ⟨vs,[]⟩ (aH.zip vs))
 (Z:g4 aH sc []=ae)(W:aH.length=ds.length+1)(Y:sc.names.all (λx=>!(x.2==.free))=ae)(G:(d4 sc).isNone=ae)
 (h:∀X dx hl,aL n sc (bindR aH (.dT X dx hl l::ds.map Bd.dat)) body (ls λ_ aC=>aC.lookup (a6 "self")=aa (.dT X dx hl l'))):g_ (n+2) fa l ds l':=.mk λw A s g X dx hl af vs S R M P r q E=>
 (B.at_ w).rec λdoc pm bA ct an h0 h1=>
  nO S R (cW.Cj M (.inl ⟨rfl,rfl⟩) P r q) h0 rfl h1 (f doc pm bA ct an s (.ref X::vs) (aQ _ q.1)) (W.trans (aQ (·+1) (aR ..).symm)) Z Y G (h X dx hl) λv s' ab g' aC d C H R' hk=>by
  refine ba λN_=>?_
  obtain⟨u',_,V,rfl,w3,w4,w5⟩:=H.var _ _ hk
  exact N_ ⟨g',V,H.nx,H.st,w3,w4⟩
section
variable {w:a9} {mu:List ag} {aw s s':av} {aE g g':aY} {ab:Env} {aB:Str->List ag} {x:Str} {X dx hl:ag} {l l':List D}
theorem bj.uP(H:bj w mu aw aE s g ab sc ρ aB)(V:ρ.lookup x=aa (.dT X dx hl l)):dq w s g [hl]:=λb Y=>by
 have:b=hl:=a_.1 Y
 subst this
 refine ba λW=>?_
 obtain⟨u,G,af,rfl,C,B,Z⟩:=H.var x _ V
 apply W
 exact H.rebase.1.fw b (tV V rfl (by rw[Z];simp))
theorem bj.pg(H:bj w mu aw aE s g ab sc ρ aB)(G:ρ.lookup x=aa (.dT X dx hl l))(o:l9 w s g X dx hl l' s'):∃g' Y,bj w mu aw aE s' g' ab sc ((x,.dT X dx hl l')::ρ) Y:=by
 obtain⟨g',V,N,B,f,hr⟩:=o
 obtain⟨u,u1,af,rfl,u3,u4,C⟩:=H.var x _ G
 obtain⟨nn,en⟩:=u3.list
 refine⟨g',_,H.change (mt:=[hl]) (il:=[hl]) G rfl rfl N B (λb W=>by rw[C];exact W) (λb W o e=>?_) (λv' _ r=>?_) (λb W=>.inl (by rw[C];exact W))⟩
 ·have:b=hl:=a_.1 W
  subst this;rw[en] at e;obtain rfl:=aW e;exact cV.of λvs q=>by cases q
 ·obtain⟨Z,rfl,_⟩:=r
  exact⟨V,rfl,f,hr,rfl⟩
theorem l9.own{V:Array ai}(S:St w s g)(M:dq w s g [hl])(P:jh w s g X dx hl af)(hs:kG hl s.heap h')(W:h'.PlainList hl V)(hr:aP w g V.toList l'):l9 w s g X dx hl l' {s with heap:=h',toks:=tk}:=by
 refine P.list.elim λH e=>?_
 obtain⟨N,Z⟩:=St.changes (mt:=[hl]) (h':=h') (tk:=tk) S S (Nx.refl [hl] s g) M (λb Y=>by
  have:b=hl:=a_.1 Y
  subst this;exact⟨.inr (bi),P.yi,_,e,cV.of λvs q=>by cases q⟩) (λb o Y e=>(hs.2 b (by simpa using Y)).trans e)
 exact⟨g,V,N,Z,⟨P.inst,P.dict,W,P.yi⟩,hr⟩
end
end
section
variable {n m:Nat} {sc:bf} {ρ:ay}
theorem aO.Yd{name:Str}{hl:ag}{args:List au}{k:Fl->ay->Prop}(M:m5 name fa)(hx:ρ.lookup x=aa (.dT X dx hl l))(Z:ce x=ae)(ha:args.all cu=ae)(G:args.length<29)(W:(eQ.endLine==eY.line)=ae)
 (hH:∀ab,iy (bU (cC (aS x xp) name eQ) args [] eY) aU aM.line ab=pure aI)
 (h:cn n sc ρ args λds=>∃l',g_ n fa l ds l'/\k .next ((x,.dT X dx hl l')::ρ)):aO n sc ρ (.Expr (bU (cC (aS x xp) name eQ) args [] eY) aM) k:=.mk λw A ab mu aw aE s g aB H R E=>by
 refine qS ?_ (by dsimp only[rf];rw[H.kind];rfl) (hH ab)
 refine ba λN_=>?_
 obtain⟨v,h1,af,rfl,P,rl,h6⟩:=H.var x _ hx
 apply N_
 refine A1 M (AK M) rfl ha rfl (by exact G) W (eN (dZ H.kind h1 Z ⟨rfl,⟨g,H.st,P.yH H.st⟩,?_⟩) (d3 Z))
 refine fj (cE ha).1 rfl (bg (cn.ok ha h w A ab s g eY H.st R H.cI E) (λvs aA ⟨aN,ds,V,Y,C,l',B,hk⟩=>?_))
 have H1:=H.step V Y
 refine fz ⟨⟨aN,Y⟩,bg (B.run w A aA aN X dx hl af vs Y R (H1.uP hx) (P.step V H.st) (rl.mono V.gg) C E) (λr aT o=>?_)⟩
 refine(H1.pg hx o).elim λbb lD=>lD.elim λf H2=>?_
 exact⟨bb,_,.next,f,H2,trivial,hk⟩
theorem L4{name:Str}{f:ag}(S:St w s g)(I:InstAt g X dx)(W:∀P:bS,yG P name=aa (.ref f))(Z:∀w:a9,∃o,(KH w).lookup f=aa o/\o.cls=aK "function")(hl:∃y,mP (aK "object") name=pure y):s.heap.OwnSpecial X 258 f "object" name:=by
 refine I.elim λo V=>V.elim λH Y=>Y.elim λG _=>?_
 obtain⟨of,h3,C⟩:=Z w
 obtain⟨y,B⟩:=hl
 exact⟨o,of,_,_,257,_,_,_,_,_,_,_,_,_,_,_,_,_,_,yG w.params,y,S.sub _ _ H,G,pW S,uF S,W _,S.df _ _ h3,C,by kernel_rfl,B⟩
theorem Kl{k:ai}{name:Str}(S:St w s g)(I:InstAt g X dx)(W:Q k s):wpAny (model PG w) A (sequenceKey (.ref X) k name) Q E s:=by
 refine ba λZ=>?_
 refine I.elim λo V=>V.elim λH Y=>Y.elim λG _=>?_
 apply Z
 refine aJ (wpAny_typeOf_ref (S.sub _ _ H) ?_)
 refine G▸?_
 refine aJ ?_
 refine aJ (wpAny_isSubtype_exc (pW S) ?_)
 exact a8 (a8 W)
theorem aO.Jz{hl:ag}{i:au}{k:Fl->ay->Prop}(f:ρ.lookup x=aa (.dT X dx hl l))(Z:ce x=ae)
 (h:aj n sc ρ i λd=>∃l',g_ n 178 l [d] l'/\k .next ((x,.dT X dx hl l')::ρ)):aO n sc ρ (.Delete [dM (aS x p) i oO] aM) k:=.mk λw A ab mu aw aE s g aB H R E=>by
 refine wpAny_Delete (Oe (N2 ?_))
 refine ba λN_=>?_
 obtain⟨v,h1,af,rfl,P,rl,h6⟩:=H.var x _ f
 apply N_
 refine eN (dZ H.kind h1 Z ?_) (d3 Z)
 refine h.wp H.st R H.cI λiv aA aN d Y V G q_=>q_.elim λl' q_=>q_.elim λC hk=>?_
 have W:=P.step Y H.st
 refine eH (aJ (Kl V W.inst (aJ (N8 (L4 V W.inst (λP=>by ac_rfl) (λw=>⟨_,rfl,rfl⟩) ⟨aU,by rw[j0,jV];kernel_rfl⟩) ?_))))
 refine bg (C.run w A aA aN X dx hl af [iv] V R ((H.step Y V).uP f) W (rl.mono Y.gg) (.cons G .nil) E) (λr aT o=>a8 (Ox ?_))
 obtain⟨bb,B,H2⟩:=(H.step Y V).pg f o
 exact⟨bb,_,.next,B,H2,trivial,hk⟩
theorem aO.Wn{hl:ag}{i:au}{k:Fl->ay->Prop}(hx:ρ.lookup x=aa (.dT X dx hl l))(G:ce x=ae)(hs:∀ab,iy cX (aa (dM (aS x p) i oO)) aM.line ab=pure aI)
 (h:aj n sc ρ cX λdv=>aj n sc ρ i λd=>∃l',g_ n 173 l [d,dv] l'/\k .next ((x,.dT X dx hl l')::ρ)):aO n sc ρ (e_ [dM (aS x p) i oO] cX aM) k:=.mk λw A ab mu aw aE s g aB H R E=>by
 refine zi (h.wp H.st R H.cI λv aA aN dv C W B f=>?_) (hs ab)
 have H1:=H.step C W
 refine ba λN_=>?_
 obtain⟨_,u1,af,rfl,P,rl,h6⟩:=H1.var x _ hx
 apply N_
 refine eN (dZ H1.kind u1 G ?_) (d3 G)
 refine f.wp W R H1.cI λiv aT bb d V Y p_ q_=>q_.elim λl' q_=>q_.elim λf_ hk=>?_
 have H2:=H1.step V Y
 have Z:=P.step V W
 refine eH (aJ (Kl Y Z.inst (aJ (N8 (L4 Y Z.inst (λP=>by ac_rfl) (λw=>⟨_,rfl,rfl⟩) ⟨aU,by rw[j0,jV];kernel_rfl⟩) ?_))))
 refine bg (f_.run w A aT bb X dx hl af [iv,v] Y R (H2.uP hx) Z (rl.mono V.gg) (.cons p_ (.cons (B.mono V.gg) .nil)) E) (λr kU o=>a8 ?_)
 obtain⟨ie,dW,H3⟩:=H2.pg hx o
 exact⟨ie,_,.next,dW,H3,trivial,hk⟩
theorem aO.Hd{hl:ag}{k:Fl->ay->Prop}(hx:ρ.lookup x=aa (.dT X dx hl l))(hA:ce x=ae)(ha:cu e=ae)(f:(eQ.endLine==eY.line)=ae)(jr:l.length<=10000)
 (hb:∀ab,mN (cC (aS x xp) "_headers" ap) "append" ab (eval (cC (aS x xp) "_headers" ap) ab)=eval (cC (aS x xp) "_headers" ap) ab)
 (hH:∀ab,iy (bU (cC (cC (aS x xp) "_headers" ap) "append" eQ) [e] [] eY) aU aM.line ab=pure aI)
 (h:aj n sc ρ e λd=>k .next ((x,.dT X dx hl (l++[d]))::ρ)):aO n sc ρ (.Expr (bU (cC (cC (aS x xp) "_headers" ap) "append" eQ) [e] [] eY) aM) k:=.mk λw A ab mu aw aE s g aB H R E=>by
 have G:[e].all cu=ae:=by simp[ha]
 refine qS ?_ (by dsimp only[rf];rw[H.kind];rfl) (hH ab)
 obtain⟨v,h1,af,rfl,P,rl,h6⟩:=H.var x _ hx
 refine nr (hb ab) ?_ f rfl (z0 (eN (dZ H.kind h1 hA (w9 H.st P ?_)) (d3 hA)))
 ·rw[(cE G).1]
  rfl
 ·refine(H.st.ext' (h':=s.heap) (tk:=s.toks+1) λ_ _ e=>e).elim λC W=>?_
  have H1:=H.step C W
  have B:=P.step C H.st
  refine B.list.elim λnn en=>?_
  refine⟨"list","list.append",cO.append.pa,cO.append.slot,cO.append.ty,⟨_,en,rfl⟩,λb e=>(by cases e;exact⟨_,en,rfl⟩),?_⟩
  refine nG (cE G).2 (fj (cE G).1 rfl (bg (cn.ok (k:=λds=>∃d,ds=[d]/\k .next ((x,.dT X dx hl (l++[d]))::ρ)) G (hZ (h.mono λd q=>fQ ⟨d,rfl,q⟩)) w A ab _ g eY W R H1.cI E) (λvs aT ⟨bb,ds,V,Y,p_,d,e1,hk⟩=>?_)))
  subst e1
  have Z:=B.step V W
  refine fz ((kN.append (n:=n) (d:=d) (bd (aV jr (by simp)))).run w A aT bb hl af vs Y R Z.list (rl.mono V.gg) p_ Z.yi _ E λh' tk l7 q1 q2 q3=>?_)
  refine((H1.step V Y).pg hx (l9.own (tk:=tk) Y ((H1.step V Y).uP hx) Z q1 q2 q3)).elim λie lD=>lD.elim λdW H3=>?_
  exact⟨ie,_,.next,dW,H3,trivial,hk⟩
theorem aO.Tf{hl:ag}{k:Fl->ay->Prop}(hx:ρ.lookup x=aa (.dT X dx hl l))(Z:ce x=ae)(G:l.length<=10000)
 (hs:∀ab,iy cX (aa (dM (cC (aS x xp) "_headers" ap) (.Slice aU aU aU sp) oO)) aM.line ab=pure aI)
 (h:aj n sc ρ cX λd=>∃l',d=.lst l'/\l'.length<=10000/\k .next ((x,.dT X dx hl l')::ρ)):aO n sc ρ (e_ [dM (cC (aS x xp) "_headers" ap) (.Slice aU aU aU sp) oO] cX aM) k:=.mk λw A ab mu aw aE s g aB H R E=>by
 refine zi (h.wp H.st R H.cI λv aA aN d C V B ⟨l',e1,lG,hk⟩=>?_) (hs ab)
 subst e1
 have H1:=H.step C V
 refine ba λN_=>?_
 obtain⟨_,u1,af,rfl,P,rl,h6⟩:=H1.var x _ hx
 apply N_
 refine z0 (eN (dZ H1.kind u1 Z (w9 V P ?_)) (d3 Z))
 refine B.j9 λnl nn iI hg rn=>?_
 refine GK (a8 (a8 (a8 ?_)))
 obtain⟨Y,W⟩:=V.ext' (h':=aA.heap.push {cls:=aK "slice",data:=bC #[.none,.none,.none]}) (tk:=aA.toks+1) λb o e=>bZ _ e
 have eR:af.size=l.length:=by have:=rl.1;exact this
 have f:iI.size=l'.length:=by have:=rn.1;exact this
 refine Yc (P.step Y V).list ⟨_,cB _ rfl,rfl,rfl⟩ ⟨_,W.sub _ _ hg,rfl,nn,rfl⟩ (bd (aV (aD (bn eR) G) (by decide))) (bd (aV (aD (bn f) lG) (by decide))) λh' q1 q2=>?_
 refine((H1.step Y W).pg hx (l9.own (tk:=aA.toks+1) W ((H1.step Y W).uP hx) (P.step Y V) q2 q1 rn)).elim λie lD=>lD.elim λdW H3=>?_
 exact⟨ie,_,.next,dW,H3,trivial,hk⟩
end
section
variable {n m:Nat} {sc:bf} {ρ:ay}
set_option tactic.hygienic true in
theorem Km{aB:Str->List ag}{bp:au}{I:ag}{k:Fl->ay->Prop}(H:bj w mu aw aE s g ab sc ρ aB)(N:Nx [] s g aT bb)(S:St w aT bb)(W:s.heap.get? I=aU)(B:bb I=aU)(hc:∃o,aT.heap.get? I=aa o/\cV o)
 (V:∀Q:Option ai->av->Prop,(∀h',wB I aT.heap h'->Q aU {aT with heap:=h'})->∀E,wpAny (model PG w) A (pyNext (.ref I)) Q E aT)(hk:k .next ρ):
 codeAny (model PG w) A (.forLoop bp (.ref I) body [] ab) (λr s'=>match r with|.ok f=>Fin w mu aw aE ab sc k f s'|.error e=>cameBackBy (model PG w) A ab E e s') aT:=by
 refine OL (λ_ s'=>s'=aT) (λm s' e=>?_) 0 rfl
 subst e
 refine V _ (λh' hx=>?_) _
 have H3:bj w mu aw aE {s' with heap:=h'} bb ab sc ρ aB:=by
  refine(H.step N S).rR (wr:=[I]) (tk:=s'.toks) (λb o Z e=>hx b o (by simpa using Z) e) (λa G=>?_) (λq=>?_) (λx c C q=>?_) λx b Z a G q=>?_
  ·have:a=I:=a_.1 G
   subst this
   refine⟨?_,B,hc⟩
   by_cases q:a∈mu
   ·exact .inr q
   ·induction e':aw.heap.get? a with
    |none=>exact .inl rfl
    |some o=>obtain⟨o',Y⟩:=H.nx.there a o e' q;rw[W] at Y;exact ns Y
  ·have:ab.locals=I:=a_.1 q
   obtain⟨mL,o,_,_,e,_⟩:=H.gy
   rw[this,W] at e;exact ns e
  ·have:c=I:=a_.1 q
   obtain⟨_,⟨_,o,e,_⟩,_⟩:=H.cP x c C
   rw[this,W] at e;exact ns e
  ·have:a=I:=a_.1 q
   obtain⟨⟨_,o,e⟩,_⟩:=H.dH x b Z a G
   rw[this,W] at e;exact nomatch e
 exact wg ⟨bb,ρ,.next,aB,H3,trivial,hk⟩
set_option tactic.hygienic true in
theorem aO.Rx{bp:au}{k:Fl->ay->Prop}(hx:ρ.lookup x=aa (.dat (.cL [])))(G:ce x=ae)(Z:(eQ.endLine==eY.line)=ae)(hs:∀ab v,im (bU (cC (aS x xp) "items" eQ) [] [] eY) ab v=pure v)(hk:k .next ρ):
 aO n sc ρ (.For bp (bU (cC (aS x xp) "items" eQ) [] [] eY) body [] aM) k:=.mk λw A ab mu aw aE s g aB H R E=>by
 refine Hz ?_ (hs ab)
 refine ba λN_=>?_
 obtain⟨v,h1,r,_⟩:=H.var x _ hx
 apply N_
 refine ba λN_=>?_
 obtain⟨a,nn,es,rfl,hg,e8,bh,hD,e1,e2⟩:=ut H.st r
 have e0:bh=[]:=by simpa using e1
 subst e0
 apply N_
 refine nr rfl rfl Z rfl (eN (dZ H.kind h1 G ?_) (d3 G))
 have hT:=(Rep.typeIs H.st r)
 refine⟨"dict","dict.items",F.plainAttrs_dict,F.slot_dict_items,F.type_dict_items,hT.1,hT.2,?_⟩
 refine nG rfl (fj rfl rfl (a8 (fz ?_)))
 have C:(a==iu)=aI:=beq_false_of_ne e8
 refine Gs F.slot_dict_items hT.1 F.entry_dict_items (F.args_dict_items_1 _) (meets_dict_items (strKind PG w) a C) ⟨⟨[],hD.dictOf⟩,?_⟩
 refine(H.st.ext' (h':=s.heap.push {cls:=aK "dict_items",data:=bC #[.ref a]}) (tk:=s.toks) λb o e=>bZ _ e).elim λB W=>?_
 refine wpAny_pyIter_items (knd:=strKind PG w) (d:=a) (kvs:=[]) (ep:=nn) ⟨_,cB _ rfl,rfl,rfl⟩ (hD.push _) ?_
 obtain⟨f,gd⟩:=W.ext' (h':=(s.heap.push {cls:=aK "dict_items",data:=bC #[.ref a]}).push {cls:=aK "dict_itemiterator",data:=bC #[.none,.bool aI,.ref a,.int 0 0,.int 0 0,.int nn 0,.none,.none]}) (tk:=s.toks) λb o e=>bZ _ e
 have q:=hY W (a:=(s.heap.push {cls:=aK "dict_items",data:=bC #[.ref a]}).objs.size) (bv _)
 have qs:=hY H.st (a:=(s.heap.push {cls:=aK "dict_items",data:=bC #[.ref a]}).objs.size) (by rw[gX];exact cy _ _)
 have eI:=cB (s.heap.push {cls:=aK "dict_items",data:=bC #[.ref a]}) (o:={cls:=aK "dict_itemiterator",data:=bC #[.none,.bool aI,.ref a,.int 0 0,.int 0 0,.int nn 0,.none,.none]}) rfl
 refine Km H (B.trans f) gd qs.1 qs.2 ⟨_,eI,λvs q t e e'=>by cases e;cases e'⟩ (λQ hQ E=>?_) hk
 exact wpAny_pyNext_items_end (knd:=strKind PG w) (kvs:=[]) R.2.2 eI ((hD.push _).push _) rfl hQ
theorem dq.step(M:dq w s g mu)(N:Nx [] s g s' g')(S:St w s g):dq w s' g' mu:=λa V=>
 have m:=M a V
 m.here.elim λo e=>.of S (N.more fS) M (.inr V) (N.old _ _ e m.off ca) (N.there _ _ e ca)
theorem g_.Ye{name:Str}{G B:D}{n1 n2 n3 n4:Str}(hD:r_ fa name bI params body sc)
 (hb:∀doc pm bA ct an (s:av) (u v1 Z:ai) (M:n_) (A:bN) (E:ai->av->Prop) (Q:List (Str×ai)->av->Prop),Q ([n1,n2,n3,n4].zip [u,v1,Z,.ref s.heap.objs.size]) {s with heap:=s.heap.push {cls:=aK "dict",data:=.dict #[]}}->wpAny M A (bindArgs (gm name bI params body sc .none .none doc pm bA ct an) ⟨[u,v1,Z],[]⟩) Q E s)
 (f:g4 [n1,n2,n3,n4] sc []=ae)(Y:sc.names.all (λx=>!(x.2==.free))=ae)(nj:(d4 sc).isNone=ae)
 (h:∀X dx hl,aL n sc (bindR [n1,n2,n3,n4] [.dT X dx hl l,.dat G,.dat B,.dat (.cL [])]) body (ls λ_ aC=>aC.lookup n1=aa (.dT X dx hl l'))):g_ (n+2) fa l [G,B] l':=.mk λw A s g X dx hl af vs S R M P r q E=>by
 refine ba λN_=>?_
 obtain⟨doc,pm,bA,ct,an,lG,i7⟩:=hD.at_ w
 obtain⟨v1,Z,rfl,q1,q2⟩:=q.two
 have D0:s.heap.objs.size≠iu:=λe=>by
  obtain⟨mg,o,_,_,e',_⟩:=S.gx
  have:=cq e'
  exact aZ (e▸this) (by decide)
 have e0:=cB s.heap (o:={cls:=aK "dict",data:=.dict #[]}) rfl
 obtain⟨N,W⟩:=S.alloc (o:={cls:=aK "dict",data:=.dict #[]}) (tk:=s.toks) rfl (by simp)
 apply N_
 have rd:Rep w (iz g s.heap.objs.size {cls:=aK "dict",data:=.dict #[]}) (.ref s.heap.objs.size) (.cL []):=
  .cL _ 0 #[] [] (gZ _ _ _) rfl ⟨by simp,D0⟩ (λi e x d h1 h2=>by simp at h2) λi e x d h1 h2=>by simp at h2
 have C:dQ w {s with heap:=s.heap.push {cls:=aK "dict",data:=.dict #[]}} (iz g s.heap.objs.size {cls:=aK "dict",data:=.dict #[]}) [hl] sc [] [] (λ_=>[]):=dQ.nil λx e=>by
  have:=ee.mp Y _ (ez e)
  simp at this
 refine lU (mO (HI (aH:=[n1,n2,n3,n4]) W R (cW.Cj (ds:=[G,B,.cL []]) (M.step N S) (.inl ⟨rfl,rfl⟩) (P.step N S) (r.mono N.gg) (.cons (q1.mono N.gg) (.cons (q2.mono N.gg) (.cons rd .nil)))) (S.df _ _ lG) rfl (CodeRec.of_K S i7) C (.inl rfl) (λM A E Q hq=>hb doc pm bA ct an s (.ref X) v1 Z M A E Q hq) rfl (λc q e=>by rw[vC.mp nj] at e;exact ns e) f (by exact h X dx hl) E) λr s' hr=>?_)
 refine nS r hr (λv q_=>?_) λ_ h=>h
 refine ba λN_=>?_
 obtain⟨ab,g',aC,d,dW,H,R',hk⟩:=q_
 obtain⟨u',_,V,rfl,w3,w4,w5⟩:=H.var _ _ hk
 apply N_
 exact l9.trans N ⟨g',V,H.nx,H.st,w3,w4⟩
end
section
variable {n m:Nat} {sc:bf} {ρ:ay}
theorem dq.new(V:St w aw aE)(N:Nx [] aw aE s g)(h:∀a∈mu,aw.heap.get? a=aU/\g a=aU/\a∉TB/\∃o,s.heap.get? a=aa o):dq w s g mu:=λa Y=>.of V N .nil (.inl (h a Y).1) (h a Y).2.1 (h a Y).2.2.2
set_option tactic.hygienic true in
theorem aO.Wo{Y W f ip:Pos}{k:Fl->ay->Prop}(G:ρ.lookup x=aa (.own a l))(V:ce x=ae)(hm:mine sc x=ae)
 (hs:∀ab,iy (.IfExp (iO (aS x Y) [.IsNot] [jF .none c np] cp) (aS x W) (.List [] f) ip) (aa (aS x p)) aM.line ab=pure aI)(hk:k .next ρ):
 aO n sc ρ (e_ [aS x p] (.IfExp (iO (aS x Y) [.IsNot] [jF .none c np] cp) (aS x W) (.List [] f) ip) aM) k:=.mk λw A ab mu aw aE s g aB H R E=>by
 obtain⟨v,h1,h2⟩:=H.var x _ G
 obtain⟨af,e0,h3⟩:=id h2
 refine zG (GI (vG (eN (dZ H.kind h1 V (EN (Qb ?_))) (d3 V)) rfl)) (hs ab)
 subst e0
 refine nB ?_
 refine eN (dZ H.kind h1 V ?_) (d3 V)
 refine H.store (n:=0) hm h2 (λb hb=>?_) (λaT _ Z=>⟨g,_,.next,_,Z.weaken λy c e=>?_,trivial,hk⟩) E
 ·refine(H.dH x _ G b hb).elim λq1 C=>C.elim λq2 q3=>?_
  exact⟨⟨λ_=>q1.1 rfl,q1.2⟩,⟨q2,q3⟩,λy b' hy hf B q=>H.e7 x y _ b' G hy rfl (Ne.symm B) b hb q⟩
 ·by_cases q:y=x
  ·subst q;rw[G] at e;obtain rfl:=aW e;exact EE
  ·simp only[io,beq_eq_false_iff_ne.mpr q];exact e
theorem aO.Uy{yp:Pos}{k:Fl->ay->Prop}(hx:ρ.lookup x=aa (.raw X dx aU))(hA:ce x=ae)(hy:ρ.lookup y=aa (.own a l))(Y:ce y=ae)
 (hs:∀ab,iy (aS y yp) (aa (cC (aS x xp) "_headers" ap)) aM.line ab=pure aI)(hk:k .next ((x,.raw X dx (aa a))::ρ)):
 aO n sc ρ (e_ [cC (aS x xp) "_headers" ap] (aS y yp) aM) k:=.mk λw A ab mu aw aE s g aB H R E=>by
 obtain⟨v,h1,af,rfl,h3⟩:=H.var y _ hy
 refine ba λN_=>?_
 obtain⟨u,u1,rfl,⟨ox,i1,i2,B,i4,i5⟩,hd,Nl,G⟩:=H.var x _ hx
 apply N_
 refine plainObj_wpAny_Assign_Attribute (eN (dZ H.kind h1 Y (eN (dZ H.kind u1 hA ?_) (d3 hA))) (d3 Y)) (hs ab)
 have f:=H.st.sub _ _ i1
 have xC:X≠258:=λe=>by
  rw[e,(pW H.st)] at f
  have:=aW f
  replace i2:=this▸i2;cases i2
 refine store_attr (ns:=[]) PySem.F.store_object (pW H.st) (uF H.st) (by ac_rfl) (by ac_rfl) (by rw[j0,jV];kernel_rfl) xC (mA:=p7 aU) ⟨ox,f,i2,i4,.inr ⟨dx,B,i5,hd⟩⟩ (λh' D' I' D3 C=>?_) (λy h=>aZ rfl h) (ck _)
 refine ba λN_=>?_
 obtain⟨W,q1,q2,q3,q4,q5⟩:=C ox f
 have eo:W=ox:=by
  have q6:=q5 dx B
  rw[<-B] at q6
  obtain⟨c1,d1,t1,s1⟩:=W
  obtain⟨c2,d2,t2,s2⟩:=ox
  simp only at q2 q3 q4 q6
  subst q2 q3 q4 q6;rfl
 subst eo
 apply N_
 have keep:∀b o,b∉[dx]->s.heap.get? b=aa o->h'.get? b=aa o:=λb o V e=>by
  by_cases q:b=X
  ·subst q;rw[f] at e;obtain rfl:=aW e;exact q1
  ·refine D3 b o q (λo₀ d' Z ed q'=>?_) e
   rw[f] at Z;obtain rfl:=aW Z;rw[B] at ed;obtain rfl:=aW ed
   exact V (by simp[q'])
 have qm:h'.Ns1 dx (p7 (aa a)):=by
  obtain⟨o2,r1,r2,r3,r4⟩:=I'
  rw[q1] at r1;obtain rfl:=aW r1
  rcases r4 with ⟨r5,_⟩|⟨d2,r5,_,r6⟩
  ·exact sn (B.symm.trans r5)
  ·rw[B] at r5;obtain rfl:=aW r5
   obtain⟨oo,es,ep,z1,z2,z3,z4,z5⟩:=r6
   exact⟨oo,es,ep,z1,z2,z3,z4,λy=>(z5 y).trans (by rfl)⟩
 refine ba λN_=>?_
 obtain⟨od,es,ep,ed,dd,r⟩:=hd
 have nc:cV od:=cV.of λvs q=>by cases dd.symm.trans q
 have am:dx∈aB x:=by rw[G];simp
 have M:dq w s g [dx]:=λb V=>by
  have:b=dx:=a_.1 V
  subst this
  exact H.rebase.1.fw b (tV hx rfl am)
 obtain⟨N,S'⟩:=St.changes (mt:=[dx]) (h':=h') (tk:=D') H.st H.st (Nx.refl [dx] s g) M (λb V=>by
  have:b=dx:=a_.1 V
  subst this;exact⟨.inr (bi),Nl,_,ed,nc⟩) keep
 apply N_
 refine⟨g,_,.next,_,H.change (mt:=[dx]) (il:=[dx]) hx rfl rfl N S' (λb V=>by rw[G];exact V) (λb V o e=>?_) (λv' _ r=>?_) (λb V=>.inl (by rw[G];exact V)),trivial,hk⟩
 ·have:b=dx:=a_.1 V
  subst this;rw[ed] at e;obtain rfl:=aW e;exact nc
 ·obtain⟨rfl,z1,_⟩:=r
  exact⟨rfl,z1,qm,Nl,rfl⟩
set_option tactic.hygienic true in
theorem aO.Tg{bp:au}{k:Fl->ay->Prop}(f:ρ.lookup x=aa (.own a []))(V:ce x=ae)(hs:∀ab v,im (aS x xp) ab v=pure v)(hk:k .next ρ):
 aO n sc ρ (.For bp (aS x xp) body [] aM) k:=.mk λw A ab mu aw aE s g aB H R E=>by
 obtain⟨v,h1,af,rfl,h3,⟨nn,en⟩,h5,h6⟩:=H.var x _ f
 have e0:af=#[]:=by
  have:=h5.1
  induction af with
  |mk l=>simp at this;exact aQ _ this
 subst e0
 have C:s.heap.IsList a #[]:=⟨_,en,rfl,nn,rfl⟩
 refine Hz (eN (dZ H.kind h1 V (s6 C ?_)) (d3 V)) (hs ab)
 obtain⟨Y,W⟩:=H.st.ext' (h':=s.heap.push {cls:=aK "list_iterator",data:=bC #[.ref a,.int 0 0]}) (tk:=s.toks) λb o e=>bZ _ e
 have q:=hY H.st (a:=s.heap.objs.size) (bv _)
 have B:=cB s.heap (o:={cls:=aK "list_iterator",data:=bC #[.ref a,.int 0 0]}) rfl
 refine Km H Y W q.1 q.2 ⟨_,B,λvs q t e e'=>by cases e;simp at e'⟩ (λQ hQ E=>?_) hk
 exact Oi R.2.2 ⟨_,B,rfl,rfl⟩ (C.push _) rfl hQ
theorem bH.QR{k:Bool->Prop}(W:sc.names.lookup (a6 "type")=aa cj)(Z:sc.names.lookup (a6 "list")=aa cj)(H:ρ.lookup x=aa (.own a l))(Y:ce x=ae)(G:k aI):
 bH n sc ρ (iO (bU (aS (a6 "type") np) [aS x xp] [] cp) [.IsNot] [aS (a6 "list") sp] aM) k:=.mk λw A ab s g S R V E=>by
 refine ba λC=>?_
 obtain⟨v,ad,B,af,rfl,u3,⟨nn,en⟩,u5,u6⟩:=V.var x _ H
 apply C
 refine vG ?_ rfl
 refine lM ((w7 W).run w A ab s g ρ S V np _ E ?_)
 refine j6 (P:=λf=>∃k,(k=jC\/k=jA\/k=jx)/\jL (model PG w) f (keeperOf (aK "type")) k) (by rw[(cE (l:=[aS x xp]) rfl).2];rfl) (λ_ q=>q) ?_
 refine fj (cE (l:=[aS x xp]) rfl).1 rfl ?_
 refine qO (eN (dZ V.kind B Y ?_) (d3 Y)) (nH (by rfl))
 refine a8 ?_
 refine fz ⟨(w7 W).keep w s g S,call_type_of (Tx:="list") ⟨_,en,rfl⟩ (rfl) ?_⟩
 refine(bO.boot (v:=aK "list") Z (by intro w;ac_rfl) (by ac_rfl) Boot.«list» (by decide) (by intro a e;cases e)).run w A ab s g ρ S V sp _ E ?_
 exact a8 (a:=eC (!(cF "list"==cF "list"))) (by exact(rfl:(!(cF "list"==cF "list"))=aI)▸(nB ⟨g,Nx.refl _ _ _,S,G⟩))
end
section
variable {n m:Nat} {sc:bf} {ρ:ay}
inductive acj(w:a9)(fa:ag)(name bI:Str)(params:ix)(body:List bw)(sc:bf):Prop
 |mk (T:ag) (nT:Nat) (doc pm bA ct:ai) (an:Option ag) (h0:(KH w).lookup fa=aa {cls:=aK "function",data:=.func (gm name bI params body sc (.ref T) .none doc pm bA ct an)}) (h1:(KH w).lookup T=aa {cls:=aK "tuple",data:=.seq #[.none] nT}) (h2:uA w bA bI)
structure Yg(fa:ag)(name bI:Str)(params:ix)(body:List bw)(sc:bf):Prop where
 at_:∀w:a9,acj w fa name bI params body sc
inductive yo(w:a9)(s:av)(g:aY)(X dx a:ag)(r:ai)(s':av):Prop
 |mk (g':_) (N:Nx [dx,a] s g s' g') (S:St w s' g') (hr:r=.none) (hd:s'.heap.Ns1 dx (p7 (aa a:_))) (hg:g' dx=aU) (hga:g' a=aU) (hp:s'.heap.PlainList a #[])
theorem yo.intro{name:Str}(hD:Yg 152 name bI params body sc)
 (hb:∀T doc pm bA ct an Z (s:av) u v,s.heap.get? T=aa {cls:=aK "tuple",data:=.seq #[.none] Z}->fP s (gm name bI params body sc (.ref T) .none doc pm bA ct an) ⟨[u,v],[]⟩ ((["self","headers"]:List Str).zip [u,v]))
 (G:g4 ["self","headers"] sc []=ae)(V:sc.names.all (λx=>!(x.2==.free))=ae)(C:(d4 sc).isNone=ae)
 (h:aL n sc (bindR ["self","headers"] [.raw X dx aU,.own a []]) body (ls λd aC=>d=.none/\aC.lookup (a6 "self")=aa (.raw X dx (aa a))/\aC.lookup (a6 "headers")=aa (.own a [])))
 (S:St w s g)(R:Rm (n+2) A)(M:dq w s g [dx,a])(I:InstAt g X dx)(hd:s.heap.Ns1 dx (p7 aU))(hg:g dx=aU)(B:g a=aU)(hp:s.heap.PlainList a #[])(ne:dx≠a)(E:ai->av->Prop):
 wpAny (model PG w) A (call (.ref 152) [.ref X,.ref a]) (yo w s g X dx a) E s:=by
 obtain⟨T,Z,doc,pm,bA,ct,an,f,hT,i7⟩:=hD.at_ w
 have ar:cW w s g [dx,a] [.ref X,.ref a] [.raw X dx aU,.own a []] (mq [dx] (mq [a] λ_=>[])):=
  .cons (λ_=>⟨rfl,I,hd,hg,rfl⟩) (λc Y=>a_.mp Y▸bi) (λj b' _ _ c Y W=>by
   have Y:=a_.mp Y
   induction j with
   |zero=>exact ne (Y.symm.trans (a_.mp W))
   |succ j _=>exact ca W) (.cons (λ_=>⟨#[],rfl,B,hp,aP.nil,rfl⟩) (λc Y=>.tail _ Y) (λ_ _ _ _ _ _ h=>ca h) (.nil M))
 refine nO S R ar f rfl i7 (hb T doc pm bA ct an Z s (.ref X) (.ref a) (S.df _ _ hT)) rfl G V C h λv s' ab g' aC d dW H R' q_=>?_
 have q0:=q_.1
 subst q0
 refine ba λN_=>?_
 obtain⟨u,_,_,_,v1,v2,_⟩:=H.var _ _ q_.2.1
 obtain⟨u',_,af,_,v3,v4,v5,_⟩:=H.var _ _ q_.2.2
 have e0:af=#[]:=Array.eq_empty_of_size_eq_zero v5.1
 subst e0
 exact N_ ⟨g',H.nx,H.st,R'.none_inv,v1,v2,v3,v4⟩
theorem Uz(S:St w s g)(R:Rm 30 A)(M:dq w s g [dx,a])(I:InstAt g X dx)(hd:s.heap.Ns1 dx (p7 aU))(Y:g dx=aU)(V:g a=aU)(W:s.heap.PlainList a #[])(Z:dx≠a)(E:ai->av->Prop):
 wpAny (model PG w) A (call (.ref 152) [.ref X,.ref a]) (yo w s g X dx a) E s:=by
 refine yo.intro (n:=28) ⟨λw=>⟨_,_,_,_,_,_,_,rfl,rfl,_,_,_,_,rfl,rfl,rfl,rfl⟩⟩ (λT doc pm bA ct an G s u v H=>.of_defaults rfl H rfl rfl rfl) (by ac_rfl) (by rfl) (by ac_rfl) ?_ S R M I hd Y V W Z E
 refine aL.cons (aO.Wo (a:=a) (l:=[]) (by ac_rfl) (by ac_rfl) (by ac_rfl) (by intro;ac_rfl) (pk ?_))
 refine aL.cons (aO.iff (bH.QR (by ac_rfl) (by ac_rfl) (a:=a) (l:=[]) (by ac_rfl) (by ac_rfl) (LX rfl (aL.nil (pk ?_)))))
 refine aL.cons (aO.Uy (X:=X) (dx:=dx) (a:=a) (l:=[]) (by ac_rfl) (by ac_rfl) (by ac_rfl) (by ac_rfl) (by intro;ac_rfl) (pk ?_))
 refine aL.cons (aO.iff (bH.val (e:=jF _ _ _) (aj.bool (Ki (LW rfl ?_))) (by intros;ac_rfl)))
 refine aL.cons (aO.Tg (a:=a) (by ac_rfl) (by ac_rfl) (by intro _ _;ac_rfl) (pk (aL.nil (pk (aL.nil ?_)))))
 exact S5 ⟨rfl,by ac_rfl,by ac_rfl⟩
theorem Rm.made{C:ag}{bW:List ai}(h:Rm (n+1) A):Rm n (A.under (.builtin "type.__call__" ⟨.ref C::bW,[]⟩)):=by
 have Y:(Ak "type.__call__" ⟨.ref C::bW,[]⟩).weight=1:=by rfl
 have W:(Ak "type.__call__" ⟨.ref C::bW,[]⟩).cUnits<=12:=by
  have:(Ak "type.__call__" ⟨.ref C::bW,[]⟩).cUnits=(Ak "type.__call__" ⟨.ref 0::[],[]⟩).cUnits:=by rfl
  rw[this];decide+kernel
 refine h.elim λZ V=>V.elim λH h3=>?_
 exact⟨by show A.depth+_+n<=900;rw[Y];exact LK (by assumption),by show A.units+_+12*n<=9000;exact Jj (by assumption),h3⟩
theorem GG(h:sc.names.lookup (a6 "Headers")=aa cj):bO sc (a6 "Headers") (.ref 258):=bO.top h (λw=>by ac_rfl) (by ac_rfl) λw=>by ac_rfl
theorem cK.K5{lp:Pos}{k:Bd->Prop}(hk:sc.names.lookup (a6 "Headers")=aa cj)(hn:31<=n)(h:∀X dx hl,k (.dT X dx hl [])):cK n sc ρ (bU (aS (a6 "Headers") np) [.List [] lp] [] aM) k:=.mk λw A ab s g S R V E=>by
 refine lM ((GG hk).run w A ab s g ρ S V np _ E ?_)
 refine j6 (P:=λhp=>∃k,(k=jC\/k=jA\/k=jx)/\jL (model PG w) hp (keeperOf (.ref 258)) k) (by rw[(cE (l:=[.List [] lp]) rfl).2];rfl) (λ_ q=>q) ?_
 refine fj (cE (l:=[.List [] lp]) rfl).1 rfl (qO (bg ((cK.lst (k:=λb=>∃a,b=.own a []) (l:=[]) rfl (ck _) (fQ λa=>⟨a,rfl⟩)).run w A ab s g S R V E) (λv aA ⟨aN,b,ad,G,Y,ml,nf,fr,a,e⟩=>?_)) (nH (by rfl)))
 subst e
 obtain⟨af,rfl,Nm,ha2,ha3,rfl⟩:=ml
 have e0:af=#[]:=by
  have:=ha3.1
  induction af with
  |mk l=>simp at this;exact aQ _ this
 subst e0
 refine a8 (fz ⟨(GG hk).keep w aA aN Y,?_⟩)
 refine wpAny_call_obj_init PySem.F.objNew (pW Y) (uF Y) (fI:=152) (by ac_rfl) (Y.df 152 _ rfl) rfl λh' X dx H=>?_
 refine(Y.ext' (h':=h') (tk:=aA.toks) H.keeps).elim λB gd=>?_
 refine H.inst.elim λoX lD=>lD.elim λi1 nh=>nh.elim λi2 qh=>qh.elim λi3 i4=>?_
 have yJ:=H.dict oX i1
 have i5:dx≠X/\h'.Ns1 dx (p7 aU):=by
  rcases i4 with ⟨q,_⟩|⟨d,q1,q2,q3⟩
  ·replace q:=yJ▸q;exact sn q
  ·rw[yJ] at q1;obtain rfl:=aW q1;exact⟨q2,q3⟩
 have off:∀b,aA.heap.get? b=aU->aN b=aU/\b∉TB:=λb e=>by
  refine⟨?_,λhT=>?_⟩
  ·cases q:aN b with
   |none=>rfl
   |some o=>replace e:=(Y.sub _ _ q)▸e;cases e
  ·obtain⟨ps,q,e',_⟩:=Y.tb hT
   exact ns (e.symm.trans e')
 have f:∀b,aA.heap.get? b=aU->s.heap.get? b=aU:=λb e=>by
  induction q:s.heap.get? b with
  |none=>rfl
  |some o=>obtain⟨o',e'⟩:=G.there b o q (ca);exact ns (e.symm.trans e')
 have x1:=(off X H.newX).1;have x2:=(off X H.newX).2
 have d1:=(off dx H.newD).1;have d2:=(off dx H.newD).2
 refine(gd.freeze i1 x1 x2).elim λig up=>?_
 have W:∀b,b≠X->aN b=aU->iz aN X oX b=aU:=λb C e=>by exact(fD _ _ _ C).trans e
 obtain⟨nn,en⟩:=ha2
 have aX:a≠X:=λe=>by rw[e,H.newX] at en;exact ns en
 have il:dx≠a:=λe=>by rw[e] at d1;rw[<-e,H.newD] at en;exact ns en
 have gr:Nx [] aA aN {aA with heap:=h',toks:=aA.toks} (iz aN X oX):=⟨B.keep,B.there,up,λb o e e' C=>W b (λq=>by rw[q,H.newX] at e;exact nomatch e) e',B.os⟩
 have sA:s.heap.get? a=aU:=(fr a (bi))
 have gA:g a=aU:=by
  cases q:g a with
  |none=>rfl
  |some o=>replace sA:=(S.sub _ _ q)▸sA;cases sA
 have gD:g dx=aU:=by
  induction q:g dx with
  |none=>rfl
  |some o=>have:=G.gg _ _ q;exact ns (d1.symm.trans this)
 have tA:a∉TB:=λhT=>by
  obtain⟨ps,q,e',_⟩:=S.tb hT
  exact ns (sA.symm.trans e')
 obtain⟨od,es,ep,ed,dd,_⟩:=id i5.2
 have M:dq w {aA with heap:=h',toks:=aA.toks} (iz aN X oX) [dx,a]:=by
  refine dq.new (aw:=s) (aE:=g) S (G.trans gr) λb C=>?_
  simp only[bT,ca,or_false] at C
  rcases C with rfl|rfl
  ·exact⟨f _ H.newD,W _ i5.1 d1,d2,_,ed⟩
  ·exact⟨sA,W _ aX Nm,tA,_,H.keeps _ _ en⟩
 refine bg (Uz (s:={aA with heap:=h',toks:=aA.toks}) ig (Rm.made (R.le hn)) M ⟨oX,gZ _ _ _,i2,yJ,i3,i5.1⟩ i5.2 (W _ i5.1 d1) (W _ aX Nm) ⟨nn,H.keeps _ _ en⟩ il E) (λr oQ ⟨mY,ly,mX,hr,hd4,hg4,ack,hp4⟩=>⟨hr,?_⟩)
 refine ba λN_=>?_
 obtain⟨o4,es4,ep4,ed4,dd4,f1,f2,f3⟩:=hd4
 have Z:Nx [] s g oQ mY:=Nx.over (G.trans gr) ly λb C=>by
  simp only[bT,ca,or_false] at C
  rcases C with rfl|rfl
  ·exact .inl (f _ H.newD)
  ·exact .inl sA
 obtain⟨uM,MP⟩:=mX.freeze ed4 hg4 d2
 apply N_
 refine⟨iz mY dx o4,.dT X dx a [],[a],⟨Z.keep,Z.there,λb o e=>MP _ _ (Z.gg _ _ e),λb o e e' C=>?_,Z.os⟩,uM,⟨#[],rfl,⟨⟨oX,MP _ _ (ly.gg _ _ (gZ _ _ _)),i2,yJ,i3,i5.1⟩,⟨o4,es4,ep4,gZ _ _ _,dd4,f1,f2,f3⟩,hp4,?_⟩,aP.nil,rfl⟩,rfl,λb C=>?_,h X dx a⟩
 ·rw[fD]
  ·exact Z.old b o e e' C
  ·intro q;rw[q,f _ H.newD] at e;exact nomatch e
 ·exact(fD _ _ _ (Ne.symm il)).trans ack
 ·have:b=a:=a_.1 C
  subst this;exact sA
end
section
open PySem.Builtin PySem.Builtin.Str
noncomputable def chars(y:Str):List Str:=y.cps.toList.map λc=>⟨#[c]⟩
theorem join_tree_str(V y:Str)(t u:Tok):«str.join» ⟨[.str V t,.str y u],[]⟩=(do
 let ty <-typeOf (.str y u)
 if (ty==aK "list"||ty==aK "tuple")=ae then (do
  match <-wX (.str y u) with
  |some xs=>joinTail V xs.toList
  |none=>GO "internal:str.join")
 else (do
  let Y <-(pyIter (.str y u)).tryCatch λe=>do
   if <-wI e (aK "TypeError") then rule "str.join.not-iterable";raiseError "TypeError" "can only join an iterable" else throw e
  let af <-collect Y
  joinTail V af)):=rfl
theorem R6{V:Array ai}(h:ItemsOf (B5 y) V y.cps.size):∃l:List (Str×Tok),tR l=V.toList/\l.map (·.1)=chars y:=by
 obtain⟨l,hl⟩:=exists_strValues V.toList λv W=>by
  obtain⟨j,Z,rfl⟩:=zj.mp (sY.mp W)
  obtain⟨c,u,_,e⟩:=h.2 j _ (nq Z)
  exact⟨_,u,e⟩
 refine⟨l,hl,qF λi=>?_⟩
 have Y:l.length=y.cps.size:=by
  have:=aQ gk hl
  simp only[tR,aR,zu] at this
  simp only[this,h.1]
 unfold chars
 simp only[ci,ci]
 by_cases hi:i<l.length
 ·have H:V[i]?=aa (.str l[i].1 l[i].2):=by
   rw[<-ku,<-hl];simp[tR,dt hi]
  obtain⟨c,u,G,e⟩:=h.2 i _ H
  have:l[i].1=⟨#[c]⟩:=by injection e
  simp only[dt hi,ku,G]
  simp[this]
 ·rw[o6 (de.mp hi),o6 (by simp;exact aD (bn Y.symm) (de.mp hi))];rfl
section
variable {n:Nat} {sc:bf} {ρ:ay} {t:au}
theorem bk.K6(hy:y.length<=10000)(H:nZ x (chars y)=ae)(hk:k (.str (jI x (chars y)))):bk n (.builtin "str.join") [.str x,.str y] k:=.mk λw A s g vs S R r E=>by
 obtain⟨v,u,rfl,h1,h2⟩:=r.two
 obtain⟨t,rfl⟩:=h1.str_inv
 refine h2.dB λG=>?_
 refine lU (OA Oj.plain PySem.F.entry_str_join (Oj.check _ _ _ _ _ _ _ _ (nM _ _ _) (PySem.F.args_str_join_2 _ _) ?_))
 rw[join_tree_str]
 refine pB (T:="str") rfl ?_
 have dk:∀ty,(ty="str_ascii_iterator"∨ty="str_iterator")->wpAny (model PG w) A.in1 (collect (.ref s.heap.objs.size)>>=λaf=>joinTail x af) (λdk s'=>match dk with|.done f=>wants (Out w s g k) E (.ok f) s'|.again c'=>c'.quiet=ae/\codeAny (model PG w) A c' (wants (Out w s g k) E) s') (λe s'=>wants (Out w s g k) E (.error e) s') {s with heap:=s.heap.push {cls:=aK ty,data:=bC #[.str y G,.int 0 0]}}:=λty B=>by
  have hit:(s.heap.push {cls:=aK ty,data:=bC #[.str y G,.int 0 0]}).IsStrIter s.heap.objs.size ty y G 0:=⟨_,cB _ rfl,rfl,rfl⟩
  refine aJ (wpAny_collect_strIter (show A.in1.handled=ak from R.2.2) B hit (λs' acc jU hg hd ho Z=>?_) (by have:sizeLine=2^24:=rfl;have:y.cps.size=y.length:=rfl;exact bd (aV (aD (bn this) hy) (by decide))))
  obtain⟨l,hl,hm⟩:=R6 Z
  refine hl▸?_
  have V:=(hm▸H:nZ x (l.map (·.1))=ae)
  unfold nZ at V
  simp only[nA] at V
  have g0:=gives_joinTail x l V
  have gg:Gives (joinTail x (tR l)) (joinMade x l):=by
   cases l with
   |nil=>exact g0
   |cons p r=>induction r with
    |nil=>exact g0
    |cons q r'=>exact g0
  refine gg PG w A (wants (Out w s g k) E) s' (post_join l ⟨joinFit_length V,λt'' k'=>?_⟩)
  refine hm▸?_
  refine(S.ext (h':=s'.heap) (tk:=k') (dr:=s'.drawn) λb o e=>jU b o (λq=>by rw[q,lg] at e;exact ns e) (bZ _ e)).elim λN S'=>?_
  have:({s' with toks:=k'}:av)={s with heap:=s'.heap,toks:=k',drawn:=s'.drawn}:=by
   obtain⟨a1,a2,a3,a4,a5⟩:=s'
   simp only at hg ho
   subst hg ho;rfl
  simp only[this]
  exact⟨g,_,N,S',.str _ _,hk⟩
 cases ha:y.cps.all (·<128)
 ·exact aJ (Qj (Pj ha (dk _ (.inr rfl))))
 ·exact aJ (Qj (EU ha (dk _ (.inl rfl))))
theorem bK.tup{k:List D->Prop}(h:aj n sc ρ e λd=>∃l,d=.tup l/\l.length<=10000/\k l):bK n sc ρ t e k:=.of λw A ab s g S R V E=>
 bg (h.run w A ab s g S R V E) (λv aA q_=>by
  obtain⟨aN,d,H,Y,G,l,hd,hl,hk⟩:=q_
  subst hd
  refine G.t_ λa nn Z C rl=>?_
  have B:a≠aA.heap.objs.size:=λe=>by have:=Y.sub _ _ C;rw[e,lg] at this;exact ns this
  have sz:Z.size=l.length:=by have:=rl.1;exact this
  have W:=Walks.tuple (prog:=PG) (w:=w) R.2.2 aA.heap.objs.size a B Z
  replace W:=sz▸W
  refine EX (⟨_,Y.sub _ _ C,rfl,nn,rfl⟩:aA.heap.IsTuple a Z) ((iR.one (qn:=[a]) Y (by simp) rfl (dz.of W (λi v d hi hv=>rl.2 i v d (by simpa using hv) hi) (λi h ⟨⟨o,f,hc,hd⟩,_⟩ b hb=>?_) λi h ⟨⟨o,f,hc,hd⟩,_⟩=>⟨o,_,_,f,hc,hd,rfl⟩) ⟨⟨_,cB _ rfl,rfl,rfl⟩,⟨_,bZ _ (Y.sub _ _ C),rfl,nn,rfl⟩⟩ (λb hb=>?_) hl hk).trans H)
  ·have:b=aA.heap.objs.size:=a_.1 hb
   subst this
   exact⟨o,f,λvs q t e e'=>by replace e:=hd▸e;cases e;simp at e'⟩
  ·have:b=a:=a_.1 hb
   subst this;exact⟨_,C⟩)
end
end
noncomputable def bY(p:Str×Str):D:=.tup [.str p.1,.str p.2]
noncomputable def ltQ(p q:Str×Str):Bool:=if p.1=q.1 then decide (p.2.cps.toList<q.2.cps.toList) else decide (p.1.cps.toList<q.1.cps.toList)
noncomputable def qi(ps:List (Str×Str))(i j:Nat):Bool:=ltQ (ps.getD i default) (ps.getD j default)
theorem JA{a b:Str}(h:a.cps.toList=b.cps.toList):a=b:=by
 induction a;induction b;simp only[Str.mk.injEq];exact zP.mp h
theorem He(a:List Nat):¬a<a:=List.lt_irrefl a
set_option tactic.hygienic true in
theorem Ck:(∀p q,ltQ p q=ae->ltQ q p=aI)/\(∀p q r,ltQ p q=aI->ltQ q r=aI->ltQ p r=aI)/\∀p q,ltQ p q=aI->ltQ q p=aI->p=q:=by
 refine⟨λp q h=>?_,λp q r h h'=>?_,λp q h h'=>?_⟩
 ·unfold ltQ at*
  split at h<;>rename_i e
  ·rw[bo e.symm,eW];intro Y;exact Ac (cZ h) Y
  ·rw[be (Ne.symm e),eW];intro Y;exact Ac (cZ h) Y
 ·unfold ltQ at*
  have B:∀a b c:List Nat,¬a<b->¬b<c->¬a<c:=λa b c Z H h3=>by
   exact pt.mpr (QE (pt.mp H) (pt.mp Z)) h3
  have V:∀{a b:Str},a≠b->¬a.cps.toList<b.cps.toList->b.cps.toList<a.cps.toList:=λG f=>by
   rcases OB.mp (pt.mp f) with h|h
   ·exact h
   ·exact aZ (JA h.symm) G
  split at h<;>split at h'<;>rename_i e W
  ·exact(bo (e.trans W)).trans (eW (B _ _ _ (ic h) (ic h')))
  ·rw[be (λY=>W (e.symm.trans Y))];exact e▸h'
  ·rw[be (λY=>e (Y.trans W.symm))];exact W▸h
  ·have h3:=List.lt_trans (V W (ic h')) (V e (ic h))
   exact(be (λY=>by rw[Y] at h3;exact He _ h3)).trans (eW (Ac h3))
 ·unfold ltQ at*
  have C:∀{a b:Str},¬a.cps.toList<b.cps.toList->¬b.cps.toList<a.cps.toList->a=b:=λZ H=>by
   rcases OB.mp (pt.mp Z) with h|h
   ·exact aZ h H
   ·exact(JA h).symm
  obtain⟨p1,p2⟩:=p
  have q1:=q.1;have q2:=q.2
  simp only at*
  split at h<;>rename_i e
  ·rw[bo e.symm] at h'
   rw[e,C (ic h) (ic h')]
  ·rw[be (Ne.symm e)] at h'
   exact aZ (C (ic h) (ic h')) e
theorem Yh(ps:List (Str×Str)):gf (qi ps):=⟨λa b h=>Ck.1 _ _ h,λa b c h h'=>Ck.2.1 _ _ _ h h'⟩
section
variable {w:a9} {A:bN} {E:ai->av->Prop} {aw s:av} {aE g:aY}
theorem HV{Da:ag}{lt:Nat->Nat->Bool}{κ:SortKind}{P:tS->av->Prop}(X:SA w aw aE s g)(OD:fZ aw Da vs s g)(f:vs.length<64)(W:gf lt)
 (aai:2<=vs.length->∀s',St w s' g->∀Q,Q κ s'->wpAny (model PG w) A (keyKind' vs.toArray) Q (λ_ _=>False) s')
 (acm:∀s',St w s' g->∀i j C,i<vs.length->j<vs.length->C (lt i j) s'->BF PG w A κ vs i j C s')
 (h:∀s' (b:List Nat),dI lt vs.length b->SA w aw aE s' g->fZ aw Da (b.map λi=>vs.getD i fB) s' g->P (.done (.ret .none)) s'):
 wpAny (model PG w) A (Builtin.«list.sort» ⟨[.ref Da],[]⟩) P E s:=by
 refine OD.at_.elim λnD eD=>?_
 rw[list_sort_plain]
 have Y:=X.set OD (λ_=>#[]) (tk:=s.toks)
 obtain⟨e1,h1⟩:=Y.2.1.at_
 have Y2:=Y.1.push (seqObj "tuple" vs.toArray 0) (tk:=s.toks)
 have Y3:=Y2.1.push (seqObj "list" #[] 0) (tk:=s.toks)
 have O3:=Y3.2 _ _ (Y2.2 _ _ Y.2.1)
 have h3:=bZ (seqObj "list" #[] 0) (bZ (seqObj "tuple" vs.toArray 0) h1)
 refine aJ (Go eD rfl (aJ (tB eD rfl (aJ (Aw h1 rfl (wP (tU (eH ?_) (ck _)) (mZ f)))) (mZ f) (ck _))))
 refine(?_:∀s3:av,SA w aw aE s3 g->fZ aw Da [] s3 g->s3.heap.get? Da=aa (seqObj "list" #[] e1)->wpAny (model PG w) A _ P E s3) _ Y3.1 O3 h3
 intro s3 X3 O3 h3
 have u_:∀(st:SortSt) (b:List Nat),dI lt vs.length b->(arrOf st).map (·.2)=(b.map λi=>vs.getD i fB).toArray->failedOf st=ak->wpAny (model PG w) A (do
  let sorted:=(arrOf st).map (·.2)
  let V:=(<-seqEpoch Da) != e1
  NY (.ref Da) λ_=>sorted
  if let aa e:=failedOf st then rule "list.sort.comparison-raised";throw e
  if V then rule "list.sort.modified";raiseError "ValueError" "list modified during sort"
  ret .none) P E s3:=λst b hS Dz hf=>by
  have Z:=X3.set O3 (λ_=>(b.map λi=>vs.getD i fB).toArray) (tk:=s3.toks)
  rw[Dz,hf]
  refine aJ (Aw h3 rfl (aJ (tB h3 rfl ?_ (ck _) (v6 (mZ (aV (bn ((aR _).trans hS.len)) f))))))
  rw[bne_self_eq_false]
  exact a8 (h _ b hS Z.1 Z.2.1)
 by_cases h2:vs.length<2
 ·have H:vs.toArray.size<2:=h2
  rw[bo H,bo H]
  exact fY (fY (u_ _ _ (HQ h2) (HR rfl) rfl))
 ·have H:¬vs.toArray.size<2:=h2
  have n2:=de.mp h2
  rw[be H,be H]
  refine aJ (eg (aai n2 _ X3.st (λD_ s'=>D_=κ/\s'=_) ⟨rfl,rfl⟩) ?_ λ_ _ e=>e.elim)
  rintro D_ s' ⟨rfl,rfl⟩
  obtain⟨b,hb,hS⟩:=IH W (qG n2)
  refine aJ (bg (kat_run (Q:=λB t=>t=s'/\∃p:Array Nat,p=b.toArray/\arrOf B=p.map (kas_item (vs.toArray.zip vs.toArray))/\failedOf B=ak) (G:=λp t=>p=b.toArray/\t=s') (ks:=vs) (κ:=D_)
   rfl n2 f (λp' B s' a1 a2 a3 a4=>⟨a4.2,p',a4.1,a2,a3⟩) ?_) ?_)
  ·exact A0 (lt:=lt) (λi j C hi hj hC=>acm _ X3.st i j C hi hj hC) _ (Jw (qG n2)) ⟨hb,rfl⟩
  ·rintro⟨⟨⟩,B⟩ t ⟨rfl,p,rfl,D9,hf⟩
   exact u_ B b hS (kat_snds rfl D9) hf
theorem Cm(S:St w s g)(r:aP w g vs (ps.map bY))(hi:i<vs.length):
 ∃a n Y W,vs.getD i fB=.ref a/\s.heap.get? a=aa {cls:=aK "tuple",data:=.seq #[.str (ps.getD i default).1 Y,.str (ps.getD i default).2 W] n}:=by
 have hl:=r.1
 rw[aR] at hl
 have hd:(ps.map bY)[i]?=aa (bY (ps.getD i default)):=by
  simp only[ci,dt (cg hi (bn hl)),k5,dt (cg hi (bn hl))];rfl
 have hr:=r.2 i _ _ (dt hi) hd
 refine ba λV=>?_
 obtain⟨a,n,af,Z,H,G⟩:=Rep.rQ (l:=[.str (ps.getD i default).1,.str (ps.getD i default).2]) hr
 apply V
 refine ba λV=>?_
 obtain⟨u1,u2,C,B,f⟩:=G.two
 apply V
 refine ba λV=>?_
 obtain⟨Y,rfl⟩:=B.str_inv
 obtain⟨W,rfl⟩:=f.str_inv
 have:af=#[.str (ps.getD i default).1 Y,.str (ps.getD i default).2 W]:=zP.mp C
 subst this
 apply V
 exact⟨a,n,Y,W,by rw[k5,dt hi];exact Z,S.sub _ _ H⟩
theorem UA(S:St w s g)(r:aP w g vs (ps.map bY))(G:2<=vs.length){Q:SortKind->av->Prop}(C:Q (tuples' ae) s):wpAny (model PG w) A (keyKind' vs.toArray) Q E s:=by
 have hl:=r.1
 rw[aR] at hl
 have V:∀(vs:List ai) (ps:List (Str×Str)),aP w g vs (ps.map bY)->∃fs:List ai,KatTups s.heap vs fs/\fs.length=vs.length/\∀v∈fs,∃x t,v=.str x t:=by
  intro vs
  induction vs with
  |nil=>exact λps _=>⟨[],trivial,rfl,fS⟩
  |cons v vs B=>
   intro ps r
   induction ps with
   |nil=>exact aZ r.1 (by simp)
   |cons p ps=>
    refine ba λf=>?_
    obtain⟨fs,Y,W,Z⟩:=B ps r.ia.2
    obtain⟨a,n,t1,t2,e1,e2⟩:=Cm (i:=0) S r (by simp)
    apply f
    exact⟨.str p.1 t1::fs,⟨⟨a,_,_,n,(e1:v=.ref a),e2,rfl,rfl,rfl⟩,Y⟩,by simp[W],λu H=>by
     refine(bT.mp H).elim (λrfl=>?_) λH=>?_
     ·exact⟨_,_,rfl⟩
     ·exact Z u H⟩
 obtain⟨fs,Y,W,Z⟩:=V vs ps r
 refine kat_kind (T:=aK "str") Y (cg (cg (by simp) G) (bn W.symm)) (λv hv=>?_) (rfl) C
 obtain⟨x,t,rfl⟩:=Z v hv
 exact Qz rfl
theorem Wp(S:St w s g)(r:aP w g vs (ps.map bY))(hi:i<vs.length)(H:j<vs.length){C:Bool->av->Prop}(V:C (qi ps i j) s):BF PG w A (tuples' ae) vs i j C s:=by
 refine ba λG=>?_
 obtain⟨a,n,t1,t2,B,f⟩:=Cm S r hi
 obtain⟨a',n',t1',t2',Y,W⟩:=Cm S r H
 apply G
 unfold BF
 rw[B,Y]
 unfold qi at V
 refine kat_lt f rfl W rfl (kat_cons (PD (kat_go (λq=>kat_yes (kat_cons (PD (kat_go (λZ=>kat_yes (kat_nil ?_)) λZ=>?_)))) λq=>?_)))
 ·have e:ltQ (ps.getD i default) (ps.getD j default)=aI:=by
   exact(bo (cZ q)).trans ((cZ Z)▸(eW (He _)))
  rw[e] at V
  exact V
 ·refine kat_no (kat_one _ _ (lt_str ?_))
  exact((bo (cZ q):ltQ (ps.getD i default) (ps.getD j default)=decide ((ps.getD i default).2.cps.toList<(ps.getD j default).2.cps.toList))▸V)
 ·have h1:=ic q
  refine kat_no (oneLt_str ?_)
  exact((be h1:ltQ (ps.getD i default) (ps.getD j default)=decide ((ps.getD i default).1.cps.toList<(ps.getD j default).1.cps.toList))▸V)
end
section
variable {n:Nat} {k:D->Prop}
theorem bk.JB(H:ps.length<64)(h:∀b:List Nat,dI (qi ps) ps.length b->k (.lst (b.map λi=>bY (ps.getD i default)))):bk n (.builtin "sorted") [.lst (ps.map bY)] k:=.mk λw A s g vs S R r E=>by
 obtain⟨v,rfl,W⟩:=r.one
 refine W.j9 λl nn G hg B=>?_
 have hL:s.heap.IsList l G.toList.toArray:=⟨_,S.sub _ _ hg,rfl,nn,rfl⟩
 have V:=B.1
 simp only[aR] at V
 generalize G.toList=vs at hL B V
 refine NN GN Gp Gq (args_sorted1 _) ?_
 unfold Builtin.«sorted»
 refine aJ (m:=G6 "sorted" 1 1 _) (a8 ?_)
 refine aJ (collect_list hL ?_ (by rw[pr];exact bd (eK (aV (bn V) H) (by decide))))
 refine tU ?_ (by rw[pr];exact bd (eK (aV (bn V) H) (by decide)))
 have X2:=((((⟨S,Nx.refl _ _ _,S⟩:SA w s g s g).push (seqObj "list" #[] 0) (tk:=s.toks)).1).set ((⟨S,Nx.refl _ _ _,S⟩:SA w s g s g).newList [] (tk:=s.toks)) (·++vs.toArray) (tk:=s.toks)).1
 have f:((s.heap.push (seqObj "list" #[] 0)).update s.heap.objs.size (ja (·++vs.toArray))).objs.size=s.heap.objs.size+1:=by simp only[PB,size_push']
 have X3:=(X2.push (seqObj "list" vs.toArray 0) (tk:=s.toks)).1
 have O3:=X2.newList vs (tk:=s.toks)
 replace O3:=f▸O3
 refine f▸?_
 refine O3.at_.elim λ_ sN=>?_
 refine aJ (eH (jZ FT ⟨_,sN,rfl⟩ FE ?body (Qk _)))
 case body=>
  refine HV X3 O3 (aV (bn V) H) (Yh ps) (λZ s' S' Q hq=>UA S' B Z hq) (λs' S' i j C hi hj hC=>Wp S' B hi hj hC) λs' b hS Y OY=>?_
  refine⟨_,rfl,a8 ⟨_,rfl,?_⟩⟩
  refine OY.at_.elim λn' e'=>?_
  obtain⟨F1,F2⟩:=Y.st.freeze (n:=s.heap.objs.size+1) e' OY.off (Y.st.dN (a:=s.heap.objs.size+1) e' (.inl (by simp)))
  have rb:aP w g (b.map λi=>vs.getD i fB) (b.map λi=>bY (ps.getD i default)):=by
   refine⟨by simp,λj v d W Z=>?_⟩
   rw[ci] at W Z
   induction hb:b[j]? with
   |none=>exact ns (hb▸W)
   |some i=>
    rw[hb] at W Z
    have hi:i<vs.length:=hS.js i (c5 hb)
    simp only[PV,E3] at W Z
    subst W Z
    have e1:vs.getD i fB=vs[i]:=by rw[k5,dt hi];rfl
    have e2:ps.getD i default=ps[i]'(cg hi (bn V)):=by rw[k5,dt (cg hi (bn V))];rfl
    simp only[e1,e2]
    exact B.2 i _ _ (dt hi) (by simp only[ci,dt (cg hi (bn V))];rfl)
  refine⟨_,_,⟨Y.nx.keep,Y.nx.there,λa o e=>F2 _ _ (Y.nx.gg _ _ e),λa o e e' _=>?_,Y.nx.os⟩,F1,.lst _ n' _ _ (gZ _ _ _) (by simp) λj v d W Z=>(rb.2 j v d (by exact W) Z).mono F2,h b (by exact V▸hS)⟩
  exact(fD _ _ _ (λq=>by rw[q,OY.new] at e;exact ns e)).trans (Y.nx.old a o e e' (ca))
end
noncomputable def jg(l:List (Str×D))(x:Str)(d:D):List (Str×D):=if l.any (λp=>p.1=x) then l.map (λp=>if p.1=x then (p.1,d) else p) else l++[(x,d)]
inductive eu{K:Type}(w:a9)(g:aY):List (K×ai)->List (K×D)->Prop
 |nil:eu w g [] []
 |cons (x v d bh l:_):Rep w g v d->eu w g bh l->eu w g ((x,v)::bh) ((x,d)::l)
inductive xP(w:a9)(g:aY)(o:Obj)(l:List (Str×D)):Prop
 |mk (hx:o.ExactDict) (es ep bh) (hd:o.data=.dict es ep) (hk:KeysOf (strKind PG w) es) (hp:xZ (strKind PG w) es.toList bh) (hn:(bh.map (·.1)).Nodup) (hv:eu w g bh l)
section
variable {K:Type} {w:a9} {g g':aY} {bh:List (K×ai)} {l:List (K×D)}
theorem eu.mono(h:∀a o,g a=aa o->g' a=aa o)(k:eu w g bh l):eu w g' bh l:=by
 induction k with
 |nil=>exact .nil
 |cons x v d bh l r _ V=>exact .cons x v d bh l (r.mono h) V
theorem eu.fst(k:eu w g bh l):bh.map (·.1)=l.map (·.1):=by
 induction k with
 |nil=>rfl
 |cons x v d bh l r _ V=>exact aQ (x::·) V
theorem eu.snoc{x:K}(r:Rep w g v d)(k:eu w g bh l):eu w g (bh++[(x,v)]) (l++[(x,d)]):=by
 induction k with
 |nil=>exact .cons _ _ _ _ _ r .nil
 |cons y u e bh l q _ V=>exact .cons _ _ _ _ _ q V
theorem eu.put[DecidableEq K]{x:K}{v:ai}{d:D}(r:Rep w g v d)(k:eu w g bh l):eu w g (bh.map λV=>if V.1=x then (V.1,v) else V) (l.map λp=>if p.1=x then (p.1,d) else p):=by
 induction k with
 |nil=>exact .nil
 |cons y u e bh l q _ Y=>
  show eu w g ((if y=x then (y,v) else (y,u))::_) ((if y=x then (y,d) else (y,e))::_)
  split
  ·exact .cons _ _ _ _ _ r Y
  ·exact .cons _ _ _ _ _ q Y
theorem pairs_at[DecidableEq K]{w:a9}{lH:KeyKind PG w K}{es:List dy}{bh:List (K×ai)}(p:xZ lH es bh):es.length=bh.length/\∀(i:Nat) (e:dy) (x:K) (v:ai),es[i]?=aa e->bh[i]?=aa (x,v)->lH.is x e.key=ae/\e.val=v:=by
 induction p with
 |nil=>exact⟨rfl,λi e x v h=>aZ (E2.symm.trans h) (k_ _).symm⟩
 | @cons e C es bh Z H _ V=>
  refine⟨aQ (·+1) V.1,λi G x v Y W=>?_⟩
  induction i with
  |zero=>
   obtain rfl:=aW Y
   obtain rfl:=aW W
   exact⟨Z,H⟩
  |succ i=>exact V.2 i G x v Y W
theorem eu.at(k:eu w g bh l):bh.length=l.length/\∀(i:Nat) (x:K) (d:D),l[i]?=aa (x,d)->∃v,bh[i]?=aa (x,v)/\Rep w g v d:=by
 induction k with
 |nil=>exact⟨rfl,λi x d h=>aZ (E2.symm.trans h) (k_ _).symm⟩
 |cons y u W bh l q _ V=>
  refine⟨aQ (·+1) V.1,λi x d Y=>?_⟩
  induction i with
  |zero=>
   obtain⟨rfl,rfl⟩:=wD (aW Y)
   exact⟨u,rfl,q⟩
  |succ i=>exact V.2 i x d Y
theorem eu.idx[DecidableEq K]{lH:KeyKind PG w K}{es:List dy}(p:xZ lH es bh)(k:eu w g bh l):es.length=l.length/\∀(i:Nat) (e:dy) (x:K) (d:D),es[i]?=aa e->l[i]?=aa (x,d)->lH.is x e.key=ae/\Rep w g e.val d:=
 ⟨(pairs_at p).1.trans k.at.1,λi e x d V Y=>(k.at.2 i x d Y).elim λv q=>⟨((pairs_at p).2 i e x v V q.1).1,((pairs_at p).2 i e x v V q.1).2▸q.2⟩⟩
end
section
variable {w:a9} {g g':aY}
theorem eu.stored{l:List (Str×D)}(k:eu w g bh l)(r:Rep w g v d):eu w g (stored bh x v) (jg l x d):=by
 have e:bh.any (λV=>decide (V.1=x))=l.any (λp=>decide (p.1=x)):=by
  have Y:bh.any (λV=>decide (V.1=x))=(bh.map (·.1)).any λy=>decide (y=x):=by rw[Al];rfl
  have W:l.any (λp=>decide (p.1=x))=(l.map (·.1)).any λy=>decide (y=x):=by rw[Al];rfl
  simp only[Y,W,k.fst]
 delta QW jg
 refine e▸?_
 split
 ·exact k.put r
 ·exact k.snoc r
theorem Ry(l:List (Str×D))(x:Str)(d:D):(jg l x d).length<=l.length+1:=by
 unfold jg;split<;>simp
theorem Hf{es:Array dy}(h:o.ExactDict)(hd:o.data=.dict es ep):o={cls:=aK "dict",data:=.dict es ep}:=by
 obtain⟨c,d,t,s⟩:=o
 obtain⟨rfl,rfl,rfl⟩:=h
 subst hd;rfl
theorem xP.rep{D:ag}{l:List (Str×Mine.Internal.D)}(C:g D=aa o)(Y:D≠iu)(h:xP w g o l):Rep w g (.ref D) (.cL l):=by
 obtain⟨B,es,ep,bh,hd,f,hp,hn,H⟩:=h
 have W:=eu.idx hp H
 refine .cL D ep es l (C.trans (aQ _ (Hf B hd))) W.1 ⟨H.fst▸hn,Y⟩ (λi e x d V Z=>?_) λi e x d V Z=>(W.2 i e x d V Z).2
 obtain⟨k',q1,q2⟩:=f e (sY.mp (c5 V))
 refine(OM (W.2 i e x d V Z).1).elim λt G=>?_
 exact⟨⟨t,G⟩,(rg.mp (G▸q1:gj k' (.str x t)=ae))▸q2⟩
theorem ZN{kx W bp:au}:kL 10000 (.DictComp kx W [⟨bp,iter,bV,0⟩] ow aM) bp iter bV newDict (xP w) w n aF (λF d aC=>aj n aF aC kx λa=>∃x,a=.str x/\aj n aF aC W λy=>∀l,F l d=jg l x y)
 (λD ab=>match D with
  |.ref D=>do
   let kv <-eval kx ab
   let vv <-holding [kv] (eval W ab)
   standAt {kx.pos with endLine:=W.pos.endLine,endCol:=W.pos.endCol}
   holding [kv,vv] (dictSet D kv vv)
  |_=>pure ()):=
 kL.of
  (⟨λg g' o l h ⟨a,es,ep,bh,b,c,d,e,k⟩=>⟨a,es,ep,bh,b,c,d,e,k.mono h⟩,λg o l ⟨a,_,_,_,_,_,_,_,_⟩=>by rw[a.1];simp,λg o l ⟨a,es,ep,bh,b,_,_,_,_⟩=>by rw[b];simp⟩)
  (rfl)
  (λ_ _ _=>rfl)
  (λ_ _ _ _=>rfl)
  (λ_ _ _=>rfl)
  (λ_ _ _=>rfl)
  (λ_ _ _ _=>rfl)
  (λA E s Q h=>lb (h _ (λg=>⟨⟨rfl,rfl,rfl⟩,#[],0,[],rfl,λe he=>by simp at he,.nil,by decide,.nil⟩) rfl))
  (λF d ρ D A ab s g o l E hP S R V e ⟨h1,es,ep,bh,h4,h5,h6,h7,h8⟩ hg hT hl=>by
  refine aJ (hP.wp S R V λkv aA aN a Y Z H ⟨x,ex,G⟩=>?_)
  subst ex
  refine aJ (eH (G.wp Z R (V.step Y S) λvv aT bb y C B f hy=>?_))
  refine jb (eH ?_)
  have N:=Y.trans C
  refine H.dB λt=>?_
  have kW:bh.length=l.length:=by have:=aQ gk h8.fst;simpa using this
  refine wpAny_dictSet_pairs (knd:=strKind PG w) (k:=x) (kvs:=bh) (by show gj x (.str x t)=ae;simp[gj]) ⟨o,es,ep,N.get S e (.inl (by rw[h1.1];simp)) (ca),h1,h4,h5,h6,h7⟩ (λh' hd hs=>?_) (by rw[kW];have:sizeLine=2^24:=rfl;exact bd (aV hl (by decide)))
  refine ba λN_=>?_
  obtain⟨o',y4,sM,q1,q2,q3,q4,q5,q6⟩:=hd
  apply N_
  refine⟨aT,bb,h',_,o',N,B,rfl,λb hb=>hs.2 b hb,q1,q2,y4,sM,_,q3,q4,q5,q6,?_⟩
  rw[hy]
  exact(h8.mono N.gg).stored f)
end
section
variable {n:Nat} {sc:bf} {ρ:ay}
def CF(n:Nat)(sc:bf)(ρ:ay)(aF:bf)(bp iter V Y:au)(bV:List au)(k:D->Prop):Prop:=
 bK n sc ρ bp iter λaf=>∃f:D->Str×D,(∀d∈af,c0 n aF (cY aF ρ) bp d λaC=>eF aC/\Sub (cY aF ρ) aC/\fM n aF aC bV λb=>b=ae/\aj n aF aC V λa=>a=.str (f d).1/\aj n aF aC Y λy=>y=(f d).2)/\k (.cL (af.foldl (λl d=>jg l (f d).1 (f d).2) []))
theorem CF.gg{bp W Z:au}(h:CF n sc ρ aF bp iter W Z bV k):uC 10000 n sc ρ aF bp iter bV (λF d aC=>aj n aF aC W λa=>∃x,a=.str x/\aj n aF aC Z λy=>∀l,F l d=jg l x y) λl=>k (.cL l):=by
 refine gu.mono (bK.cc h).len λaf V=>V.elim λhl V=>V.elim λf V=>V.elim λH G=>⟨hl,λl d=>jg l (f d).1 (f d).2,λl d=>Ry _ _ _,λd hd=>?_,G⟩
 refine c0.mono (H d hd) λaC V=>V.elim λC V=>V.elim λB h3=>⟨C,B,fM.mono h3 λb V=>V.elim λhb Y=>?_⟩
 subst hb
 exact aj.mono Y λa V=>V.elim λha h4=>⟨_,ha,aj.mono h4 λy hy l=>by subst hy;rfl⟩
theorem aj.IP{W Z bp:au}(V:dC aF sc=ae)(hs:∀ab x,im iter ab x=pure x)(h:CF n sc ρ aF bp iter W Z bV k):
 aj n sc ρ (.DictComp W Z [⟨bp,iter,bV,0⟩] aF aM) k:=aj.CB (λw=>ZN) (λab=>rfl) V hs h.gg.hh λw g D o l H Y G C=>⟨_,G.rep H Y,C⟩
theorem aO.Hg{k:Fl->ay->Prop}(hx:sc.names.lookup x=aa .cell)
 (B:∀ab,iy e (aa (aS x p)) oN.line ab=pure (ab.blockKind==fk&&ab.kindOf x==aa .local&&(p.line==e.pos.line)&&!(aF.names.any λ(n,k)=>n==x&&(k==.local||k==.cell))))
 (h:aj n sc ρ e λd=>k .next ((x,.dat d)::ρ)):aO n sc ρ (e_ [aS x p] e oN) k:=.mk λw A ab mu aw aE s g aB H R E=>by
 have f:ab.kindOf x=aa .cell:=by
  rcases hx▸H.ks x with q|q
  ·exact q
  ·exact q.1
 refine zG (bg (h.run w A ab s g H.st R H.cI E) (λv aA ⟨aN,d,Y,W,Z,G⟩=>
  (H.step Y W).uo (by unfold mine;rw[hx];rfl) Z (λaT V _ C=>⟨aN,_,.next,V,C,trivial,G⟩) E)) ?_
 rw[B,f]
 have:(aa lf==aa NameKind.local)=aI:=rfl
 refine this.symm▸?_
 simp
end
def CG(o:Obj):Prop:=o.cls=aK "list"∧∃xs n,o.data=.seq xs n
open Classical in
noncomputable def g5(g:aY):aY:=λa=>match g a with
 |some o=>if CG o then aU else aa o
 |aU=>aU
section
variable {w:a9} {s:av} {g:aY}
theorem GX(h:g5 g a=aa o):g a=aa o/\¬CG o:=by
 unfold g5 at h
 induction q:g a with
 |none=>simp only[q] at h;exact ns h
 |some V=>
  rw[q] at h
  simp only at h
  split at h
  ·exact ns h
  ·obtain rfl:=aW h;exact⟨rfl,by assumption⟩
theorem A2(h:g a=aa o)(V:¬CG o):g5 g a=aa o:=by
 unfold g5
 rw[h];exact be V
theorem tK(h:g a=aU):g5 g a=aU:=by unfold g5;rw[h]
theorem St.g5(S:St w s g):St w s (g5 g):=⟨S.df,S.gx,S.blt,S.lim,S.bmain,S.tab,λa o h=>S.sub a o (GX h).1,λP V=>tK (S.off P V),S.gens⟩
theorem jh.g5{hl:ag}(P:jh w s g X dx hl af):jh w s (g5 g) X dx hl af:=by
 refine ba λW=>?_
 obtain⟨⟨o,Z,V,H⟩,⟨G,es,n,C,Y,B⟩,f,q8⟩:=P
 apply W
 exact⟨⟨o,A2 Z (λh=>by have:=h.1;cases V.symm.trans this),V,H⟩,⟨G,es,n,A2 C (λq_=>by obtain⟨_,xs,m,h⟩:=q_;cases Y.symm.trans h),Y,B⟩,f,tK q8⟩
theorem Rep.BS{p:Str×Str}(r:Rep w g v (bY p)):Rep w (g5 g) v (bY p):=by
 refine ba λZ=>?_
 obtain⟨a,n,af,rfl,H,W⟩:=Rep.rQ (l:=[.str p.1,.str p.2]) r
 obtain⟨f,u2,G,C,B⟩:=W.two
 obtain⟨t1,rfl⟩:=C.str_inv
 obtain⟨t2,rfl⟩:=B.str_inv
 apply Z
 refine .tup a n af _ (A2 H λh=>by have:=h.1;simp at this) W.1 λi v d V Y=>?_
 rw[G] at V
 match i,V,Y with
 |0,V,Y=>obtain rfl:=aW V;obtain rfl:=aW Y;exact .str _ _
 |1,V,Y=>obtain rfl:=aW V;obtain rfl:=aW Y;exact .str _ _
 |i+2,V,Y=>exact ns V
theorem aP.BS(r:aP w g vs (ps.map bY)):aP w (Mine.Internal.g5 g) vs (ps.map bY):=by
 refine⟨r.1,λi v d W Y=>?_⟩
 have V:=Y
 rw[ci] at V
 induction q:ps[i]? with
 |none=>rw[q] at V;exact ns V
 |some p=>rw[q] at V;obtain rfl:=aW V;exact(r.2 i v _ W Y).BS
theorem Yi(N:Nx [] s (g5 g) s' g')(r:Rep w g' (.ref a) (.lst l)):s.heap.get? a=aU:=by
 obtain⟨b,n,af,e,V,_⟩:=r.lst_inv
 cases e
 induction q:s.heap.get? a with
 |none=>rfl
 |some o=>
  have W:g5 g a=aU:=by
   induction Y:g5 g a with
   |none=>rfl
   |some Z=>
    have:=N.gg _ _ Y
    rw[V] at this
    obtain rfl:=aW this
    exact aZ ⟨rfl,_,_,rfl⟩ (GX Y).2
  have:=N.old _ _ q W (ca)
  replace this:=V▸this;exact sn this
end
section
variable {n:Nat} {sc:bf} {ρ:ay}
set_option tactic.hygienic true in
theorem aO.Rb{hl:ag}{k:Fl->ay->Prop}(hx:ρ.lookup x=aa (.dT X dx hl (ps.map bY)))(hA:ce x=ae)(ha:cu e=ae)(oU:(ap.endLine==cp.line)=ae)(f:(eQ.endLine==eY.line)=ae)(jr:ps.length<=10000)
 (hF:iZ n 222 (ps.map bY) [] λd=>d=.lst (ps.map bY))
 (hb:∀ab,mN (bU (cC (aS x xp) "items" ap) [] [] cp) "append" ab (eval (bU (cC (aS x xp) "items" ap) [] [] cp) ab)=eval (bU (cC (aS x xp) "items" ap) [] [] cp) ab)
 (hH:∀ab,iy (bU (cC (bU (cC (aS x xp) "items" ap) [] [] cp) "append" eQ) [e] [] eY) aU aM.line ab=pure aI)
 (h:aj n sc [] e λd=>True)(hk:k .next ρ):aO n sc ρ (.Expr (bU (cC (bU (cC (aS x xp) "items" ap) [] [] cp) "append" eQ) [e] [] eY) aM) k:=.mk λw A ab mu aw aE s g aB H R E=>by
 have C:[e].all cu=ae:=by simp[ha]
 refine qS ?_ (by dsimp only[rf];rw[H.kind];rfl) (hH ab)
 obtain⟨v,h1,af,rfl,P,rl,h6⟩:=H.var x _ hx
 have V:=H.cI
 have Vn:c8 w s (g5 g) ab sc ([(x,.dT X dx hl (ps.map bY))]:ay):=by
  refine⟨V.kind,V.glob,V.gq,V.ks,V.lam,V.e6,λy c hc=>⟨tK (V.cP y c hc).1,(V.cP y c hc).2⟩,V.ff,λy b e=>?_⟩
  have:y=x/\b=.dT X dx hl (ps.map bY):=by
   by_cases q:y=x
   ·subst q;rw[EE] at e;obtain rfl:=aW e;exact⟨rfl,rfl⟩
   ·simp only[io,beq_eq_false_iff_ne.mpr q] at e;exact ns e
  obtain⟨rfl,rfl⟩:=this
  refine⟨.ref X,[hl],?_,af,rfl,P.g5,rl.BS,rfl⟩
  rcases h1 with ⟨q1,q2,m,q3,q4⟩|⟨q1,c,q2,q3,q4⟩
  ·exact .inl ⟨q1,tK q2,m,q3,q4⟩
  ·exact .inr ⟨q1,c,q2,tK q3,q4⟩
 refine nr (hb ab) ?_ f rfl ((aj.rJ uu EE (.inl rfl) hA rfl (eA _) oU (fQ hF):aj n sc ([(x,.dT X dx hl (ps.map bY))]:ay) (bU (cC (aS x xp) "items" ap) [] [] cp) λd=>d=.lst (ps.map bY)).wp H.st.g5 R Vn λlv aA aN d W Z B hd=>?_)
 ·rw[(cE C).1]
  rfl
 subst hd
 obtain⟨a,nn,iI,rfl,en,rn⟩:=B.lst_inv
 have fr:=Yi W B
 refine⟨"list","list.append",cO.append.pa,cO.append.slot,cO.append.ty,⟨_,(Z.sub _ _ en),rfl⟩,λb e=>(by cases e;exact⟨_,(Z.sub _ _ en),rfl⟩),?_⟩
 refine nG (cE C).2 (fj (cE C).1 rfl (bg (cn.ok (k:=λds=>∃d,ds=[d]) C (hZ (h.mono λd _=>fQ ⟨d,rfl⟩)) w A ab aA aN eY Z R ((λV=>⟨V.kind,V.glob,V.gq,V.ks,V.lam,V.e6,V.cP,V.ff,λy b e=>by exact ns e⟩:∀{s':av} {g':aY},c8 w s' g' ab sc ([(x,.dT X dx hl (ps.map bY))]:ay)->c8 w s' g' ab sc []) (Vn.step W H.st.g5)) E) (λvs aT ⟨bb,ds,G,Y,p_,d,e1⟩=>?_)))
 subst e1
 obtain⟨u,rfl,_⟩:=p_.one
 have N:=W.trans G
 refine fz ?_
 have eR:iI.size<=sizeLine:=by
  have:=rn.1
  simp at this
  exact bd (aV (aD (bn this) jr) (by decide))
 refine zg (items:=iI) ⟨nn,(Y.sub _ _ (G.gg _ _ en))⟩ (λh' hp hs=>?_) (by have:=rn.1;simp at this;have h2:sizeLine=2^24:=rfl;exact eR)
 have gN:Nx [] s g aT g:=⟨N.keep,N.there,λ_ _ e=>e,λ_ _ _ e _=>e,N.os⟩
 have ga:g a=aU:=by
  induction q:g a with
  |none=>rfl
  |some o=>exact sn ((H.st.sub _ _ q).symm.trans fr)
 obtain⟨gr,ig⟩:=St.changes (mt:=[a]) (h':=h') (tk:=aT.toks) H.st (⟨Y.df,Y.gx,Y.blt,Y.lim,Y.bmain,Y.tab,λb o e=>N.keep b o (H.st.sub b o e) (λhT=>by rw[H.st.off b hT] at e;exact ns e) (ca),H.st.off,Y.gens⟩:St w aT g) gN dq.nil (λb hb=>by
  have:b=a:=a_.1 hb
  subst this
  exact⟨.inl fr,ga,_,(Y.sub _ _ (G.gg _ _ en)),cV.of λvs q=>by cases q⟩) (λb o hb e=>(hs.2 b (by simpa using hb)).trans e)
 have ly:=gN.over gr λb hb=>by
  have:b=a:=a_.1 hb
  subst this;exact .inl fr
 exact⟨g,_,.next,aB,H.step ly ig,trivial,hk⟩
end
noncomputable def ma(w:a9):Bool:=!(w.params.followText "set-order")
noncomputable def sv:ai->Str
 |.str x _=>x
 |_=>""
inductive acn(w:a9)(o:Obj)(xs:List Str):Prop
 |mk (hx:o.ExactSet) (es ep t) (hd:o.data=.set es ep t) (hf:t.fits es.size=ae) (hl:t.led=ma w) (hp:es.size≠0->t.plain=aI) (he:∀e∈es.toList,∃x u,e=(hashStr w x,.str x u)) (hm:(es.toList.map λe=>sv e.2).Perm xs) (hn:xs.Nodup)
abbrev iB(w:a9)(g:aY)(o:Obj)(xs:List Str):Prop:=acn w o xs
noncomputable def dG(xs:List Str)(x:Str):List Str:=if x∈xs then xs else xs++[x]
theorem Bn(xs:List Str)(x:Str):(dG xs x).length<=xs.length+1:=by unfold dG;split<;>simp
set_option tactic.hygienic true in
theorem IQ:y∈dG xs x<->y∈xs\/y=x:=by
 unfold dG
 split
 ·rename_i h;exact⟨.inl,λq=>q.elim id λe=>e▸h⟩
 ·simp
set_option tactic.hygienic true in
theorem rU(h:xs.Nodup):(dG xs x).Nodup:=by
 unfold dG
 split
 ·exact h
 ·rename_i q
  exact kE.mpr ⟨h,by simp,λa V b Y e=>by
   have:b=x:=a_.1 Y
   subst this;subst e;exact q V⟩
theorem QS(t:jc)(n:Nat):(t.orStandIn n).led=t.led/\(t.plain=aI->(t.orStandIn n).plain=aI):=by
 unfold SetTable.orStandIn
 split
 ·exact⟨rfl,id⟩
 ·exact⟨rfl,λ_=>rfl⟩
theorem R7(t:jc)(es:Array (Int×ai))(h:Int)(x:ai):(layNew t es h x).2.1.led=t.led:=by
 unfold layNew
 split
 ·exact(QS _ _).1
 ·rfl
theorem UB{Y V W:Nat}{Z plain:Bool}{hs:Array Int}{r:jc×Array Nat}(h:QF Y V W Z plain hs=aa r):r.1.led=Z/\r.1.plain=plain:=by
 unfold QF at h
 induction q:SetTable.layClean Y hs with
 |none=>replace h:=q▸h;exact ns h
 |some o=>rw[q] at h;obtain rfl:=aW h;exact⟨rfl,rfl⟩
theorem Rc(t:jc)(es:Array (Int×ai))(n:Nat):(relayAll t es n).2.1.led=t.led/\(t.plain=aI->(relayAll t es n).2.1.plain=aI):=by
 unfold relayAll
 induction q:t.relaid (es.map (·.1)) n with
 |none=>exact⟨rfl,λ_=>rfl⟩
 |some r=>
  have V:=r.1;have aG:=r.2
  have:=UB q
  simp only
  split
  ·exact⟨this.1,λh=>this.2.trans h⟩
  ·exact⟨rfl,λ_=>rfl⟩
section
variable {w:a9} {A:bN} {E:ai->av->Prop} {s:av} {g:aY}
theorem Kn{l:List (Int×ai)}(h:∀e∈l,∃x u,e=(hashStr w x,.str x u)):ElemsOf (ir PG w) l:=λe V=>by
 obtain⟨x,u,rfl⟩:=h e V
 exact⟨⟨x,by show gj x (.str x u)=ae;simp[gj],rfl⟩,rfl⟩
theorem JC{l:List (Int×ai)}(h:∀e∈l,∃x u,e=(hashStr w x,.str x u)):(l.findIdx? λe=>(ir PG w).is x e.2)=aU<->x∉l.map λe=>sv e.2:=by
 refine List.findIdx?_eq_none_iff.trans ?_
 constructor
 ·intro q W
  obtain⟨e,V,Y⟩:=bL.mp W
  have:=q e V
  obtain⟨y,u,rfl⟩:=h e V
  have Y:y=x:=Y
  subst Y
  have this:gj y (.str y u)=aI:=this
  simp[gj] at this
 ·intro q e V
  obtain⟨y,u,rfl⟩:=h e V
  refine qJ.mpr λhh=>?_
  have hh:gj x (.str y u)=ae:=hh
  have:y=x:=by simpa[gj] using hh
  exact q (bL.mpr ⟨_,V,this⟩)
set_option tactic.hygienic true in
theorem Hh{u:Tok}{Q:Bool->av->Prop}(ho:s.heap.get? a=aa o)(h:iB w g o xs)(hl:xs.length<=1000)
 (hQ:∀b h' tk o',s.toks<=tk->(∀c,c≠a->h'.get? c=s.heap.get? c)->h'.get? a=aa o'->iB w g o' (dG xs x)->Q b {s with heap:=h',toks:=tk}):wpAny (model PG w) A (setAdd a (.str x u)) Q E s:=by
 obtain⟨hex,es,ep,t,hd,hf,B,Ea,H,f,iH⟩:=h
 have MA:(ir PG w).is x (.str x u)=ae:=by show gj x (.str x u)=ae;simp[gj]
 have eR:es.size=xs.length:=by
  have:=f.length_eq
  simpa using this
 have hb:es.size<AR:=by have:AR=4096:=rfl;exact aV (aD (bn eR) hl) (by decide)
 have Eb:es.size+1<AR:=by have:AR=4096:=rfl;exact aV (fV (aD (bn eR) hl) (bv _)) (by decide)
 refine eH (aJ ((ir PG w).pyHash MA ?_))
 refine eH (tC (s:={s with toks:=s.toks+1}) ho hd hf ?_)
 dsimp only
 refine(byScan_of (rfl:(Value.str x u).scannable=ae) hb (Kn H)).symm▸?_
 refine aJ ?_
 refine ka ?_
 refine aJ (wpAny_setScan_of (s:={s with toks:=s.toks+1}) MA ho hd hf (Kn H) ?_)
 induction hr:List.findIdx? (λe=>(ir PG w).is x e.2) es.toList with
 |some j=>
  have hm:x∈xs:=by
   refine Decidable.byContradiction λq=>?_
   have:=(JC H (x:=x)).mpr λhm=>q (f.mem_iff.mp hm)
   replace this:=hr▸this;exact sn this
  have e:dG xs x=xs:=bo hm
  exact a8 (a8 (hQ aI s.heap (s.toks+1) o (jD _) (λ_ _=>rfl) ho (by rw[e];exact⟨hex,es,ep,t,hd,hf,B,Ea,H,f,iH⟩)))
 |none=>
  have e:dG xs x=xs++[x]:=be (λq=>(JC H).mp hr (f.mem_iff.mpr q):x∉xs)
  have MQ:∀(b:Bool) {aA:av} {Q':Unit->av->Prop},Q' () aA->wpAny (model PG w) A (match b with|true=>rule "set.scan.the-table-gave-way"|aI=>pure ()) Q' E aA:=
   λb aA Q' hq=>by induction b<;>first|exact a8 hq|exact wpAny_rule hq
  have Y:=layNew_perm t es ((ir PG w).hash x) (.str x u)
  have W:=layNew_fits t es ((ir PG w).hash x) (.str x u)
  have y6:=R7 t es ((ir PG w).hash x) (.str x u)
  generalize hL:layNew t es ((ir PG w).hash x) (.str x u)=L at Y W y6⊢
  have ⟨V,t1,G,ad0⟩:=L
  dsimp only at Y W y6⊢
  rw[s9] at Y
  have L5:∀e∈V.toList,∃x u,e=(hashStr w x,.str x u):=λe he=>by
   rcases cQ.mp (Y.mem_iff.mp he) with he|he
   ·exact H e he
   ·exact⟨x,u,a_.mp he⟩
  have L6:(V.toList.map λe=>sv e.2).Perm (dG xs x):=by
   rw[e]
   refine(Y.map λe=>sv e.2).trans ?_
   rw[dJ]
   exact f.append_right _
  have MB:V.size<=sizeLine:=by
   have h1:=Y.length_eq
   simp at h1
   have:sizeLine=2^24:=rfl
   exact bd (eK (aV (bn h1) Eb) (by decide))
  have dk:∀(Z:jc),Z.fits V.size=ae->Z.led=ma w->Z.plain=aI->wpAny (model PG w) A (do
   storeSet a V Z
   if (!G&&Z.tooFull)=ae then do
    (match (relayAll Z V (qW V.size)).2.2 with|true=>rule "set.scan.the-table-gave-way"|aI=>pure ())
    storeSet a (relayAll Z V (qW V.size)).1 (relayAll Z V (qW V.size)).2.1
    pure (aa ae)
    else pure (aa ae)) (λr s'=>∃h' o',r=aa ae/\s'={s with heap:=h',toks:=s.toks+1}/\(∀c,c≠a->h'.get? c=s.heap.get? c)/\h'.get? a=aa o'/\iB w g o' (dG xs x)) E {s with toks:=s.toks+1}:=λZ f2 l2 p2=>by
   have st:∀(hp:dp) (o:Obj) (es:Array (Int×ai)) (ep:Nat) (t:jc),hp.get? a=aa o->o.ExactSet->o.data=.set es ep t->∀C t',(hp.update a (G7 C t')).get? a=aa {o with data:=.set C (ep+1) t'}:=λhp o es ep t ho hex hd C t'=>by
    have:=sX (G7 C t') ho (by rw[putSet_of C t' hd];rfl)
    exact((putSet_of C t' hd)▸this)
   refine aJ (Pp (s:={s with toks:=s.toks+1}) ho hd ?_ MB)
   have DK:=st s.heap o es ep t ho hex hd V Z
   split
   ·have hp:=relayAll_perm Z V (qW V.size)
    have jv:=relayAll_fits Z V (qW V.size)
    have y7:=Rc Z V (qW V.size)
    generalize hRl:relayAll Z V (qW V.size)=Rl at hp jv y7⊢
    obtain⟨sJ,t3,adY⟩:=Rl
    dsimp only at hp jv y7⊢
    have ade:sJ.size<=sizeLine:=by
     have h1:=hp.length_eq
     simp at h1
     exact aD (bn h1) MB
    refine aJ (MQ _ ?_)
    refine aJ (Pp (s:={s with heap:=s.heap.update a (G7 V Z),toks:=s.toks+1}) DK rfl ?_ ade)
    refine a8 ⟨_,_,rfl,rfl,λc hc=>?_,st _ _ _ _ _ DK hex rfl sJ t3,hex,sJ,_,t3,rfl,jv,by refine y7.1.trans ?_;exact l2,λ_=>y7.2 p2,λe he=>L5 e (hp.mem_iff.mp he),(hp.map _).trans L6,rU iH⟩
    exact((gE _ a _).2 c hc).trans ((gE _ a _).2 c hc)
   ·exact a8 ⟨_,_,rfl,rfl,λc hc=>(gE _ a _).2 c hc,DK,hex,V,_,Z,rfl,f2,l2,λ_=>p2,L5,L6,rU iH⟩
  refine aJ (MQ _ ?_)
  split
  ·refine aJ ?_
   refine a8 ?_
   refine bg (dk {t1 with plain:=aI} (SetTable.fits_plain_off W) (y6.trans B) rfl) (λr s' ⟨h',o',e1,e2,q1,q2,q3⟩=>?_)
   subst e1 e2
   exact a8 (hQ ae h' _ o' (jD _) q1 q2 q3)
  ·rename_i hp
   refine fY ?_
   refine bg (dk t1 W (y6.trans B) (by simpa using hp)) (λr s' ⟨h',o',e1,e2,q1,q2,q3⟩=>?_)
   subst e1 e2
   exact a8 (hQ ae h' _ o' (jD _) q1 q2 q3)
theorem iB.isSet(h:iB w g o xs):o.cls=aK "set":=h.1.1
theorem R8(h:∀o,(∀g,iB w g o [])->o.isFreed=aI->Q (.ref s.heap.objs.size) {s with heap:=s.heap.push o}):wpAny (model PG w) A (newSet (aK "set")) Q E s:=by
 dsimp only[newSet,G8]
 refine aJ (aJ (pc (a8 ?_)))
 exact lb (h _ (λg=>⟨⟨rfl,rfl,rfl⟩,#[],0,_,rfl,by rfl,rfl,λq=>aZ rfl q,λe V=>by simp at V,by decide,by simp⟩) rfl)
end
namespace FS
theorem slot_next:Slot "set_iterator" "__next__" "set_iterator.__next__":=
 .of (owner:="set_iterator") (n:="__next__") (by rw[j0,jV];kernel_rfl) (by decide+kernel) (by decide+kernel) (by decide+kernel)
  (by first|exact .inl (by decide+kernel)|exact .inr (by decide+kernel)) (by rw[qV];kernel_rfl)
theorem entry_next:entryFor table "set_iterator.__next__"=aa Builtin.«set_iterator.__next__»:=PC (by kernel_rfl)
theorem args_next(a:ai):argsOk "set_iterator.__next__" ⟨[a],[]⟩:=by kernel_rfl
theorem R9:entryFor table "set.__iter__"=aa Builtin.«frozenset.__iter__»:=Ql (id':="frozenset.__iter__") (by kernel_rfl) rfl (by decide+kernel) (by kernel_rfl)
theorem Th(a:ai):argsOk "set.__iter__" ⟨[a],[]⟩:=by kernel_rfl
theorem Wq:mP (aK "set") "__len__"=pure (aa (.builtin "set.__len__")):=by rw[j0,jV];kernel_rfl
end FS
section
variable {w:a9} {A:bN} {E:ai->av->Prop} {s:av} {g:aY}
theorem Rd{Q:Nat->av->Prop}(V:n≠0)(h:∀i,i<n->∀d,Q i {s with drawn:=d}):wpAny (model PG w) A (choose .order n) Q E s:=λW p Y=>⟨V,h _ (tN _ (OZ V)) _⟩
theorem Gg:∀(n:Nat) (xs:List α) (s:av) (Q:List α->av->Prop),xs.length=n->(∀ys d,ys.Perm xs->Q ys {s with drawn:=d})->wpAny (model PG w) A (drawOrder n xs) Q E s
 |0,xs,s,Q,hl,h=>by
  have:xs=[]:=lI.mp hl
  subst this
  exact a8 (h [] s.drawn (qT _))
 |n+1,[],s,Q,hl,h=>by simp at hl
 |n+1,x::r,s,Q,hl,h=>by
  show wpAny _ _ (do
   let i <-choose .order (x::r).length
   match (x::r)[i]? with
   |some V=>return V::(<-drawOrder n ((x::r).eraseIdx i))
   |none=>GO "internal:drawOrder") Q E s
  refine aJ (Rd (by simp) λi hi d=>?_)
  refine(dt hi)▸?_
  refine aJ (Gg n _ _ _ (by exact Ow.trans ((bo hi).trans (J_ (by assumption)))) λys Y W=>a8 ?_)
  refine h _ Y ?_
  refine(zZ _ W).trans ?_
  rw[NB]
  have:(x::r).Perm ((x::r).take i++((x::r)[i]::(x::r).drop (i+1))):=by
   rw[<-qv hi,kA]
  exact Fo.symm.trans this.symm
noncomputable def f4(f:ai)(i:Nat)(a:ag)(n ep:Nat):Obj:={cls:=aK "set_iterator",data:=bC #[f,.int i 0,.ref a,.int n 0,.int ep 0]}
section
variable {I a n i ep:Nat} {o:Obj} {es:Array (Int×ai)} {sM:Nat} {t:jc}
theorem f4.typeIs{f:ai}(h:s.heap.get? I=aa (f4 f i a n ep)):s.TypeIs (.ref I) "set_iterator":=⟨_,h,rfl⟩
set_option tactic.hygienic true in
theorem JD{slot:Nat}{r:Option (ai×Nat)}{Q:Option ai->av->Prop}(hh:A.handled=ak)(V:s.heap.get? I=aa (f4 (.int slot 0) i a n ep))(H:s.heap.get? a=aa o)(hd:o.data=.set es sM t)(G:t.fits es.size=ae)(C:es.size=n)
 (B:∀(A:bN) (E:ai->av->Prop) (Q:Option (ai×Nat)->av->Prop),Q r s->wpAny (model PG w) A (setNext a slot i ep) Q E s)
 (f:∀v next,r=aa (v,next)->∀h',h'.get? I=aa (f4 (.int next 0) (i+1) a n ep)->(∀b,b≠I->h'.get? b=s.heap.get? b)->Q (aa v) {s with heap:=h'})
 (h2:r=aU->∀h',(∀b o,b≠I->s.heap.get? b=aa o->h'.get? b=aa o)->Q aU {s with heap:=h'}):wpAny (model PG w) A (pyNext (.ref I)) Q E s:=by
 refine aJ (ww (qw (name:=a6 "__next__") (f4.typeIs V) FS.slot_next
  (jZ FS.slot_next (f4.typeIs V) FS.entry_next ?_ (FS.args_next _))))
 unfold Builtin.«set_iterator.__next__»
 refine aJ (m:=slotArgs "__next__" 0 _) (a8 ?_)
 refine aJ (FV V rfl ?_)
 dsimp only[G9]
 refine aJ (aJ (vY H hd G (a8 ?_)))
 have W:((es.size:Int) != (n:Int))=aI:=by rw[C];simp
 rw[W,be (by simp)]
 rw[lQ,lQ,lQ]
 refine aJ (B _ _ _ ?_)
 induction hr:r with
 |some p=>
  obtain⟨v,next⟩:=p
  have Z:(s.heap.update I (Ad (·.setIfInBounds 0 (rawInt next)))).get? I=aa (f4 (.int next 0) i a n ep):=sX _ V (vH (s0 (o:=f4 (.int slot 0) i a n ep) rfl _))
  refine aJ (pe V rfl (eA _) ?_)
  refine aJ (pe (s:={s with heap:=s.heap.update I (Ad (·.setIfInBounds 0 (rawInt next)))}) Z rfl (by simp) ?_)
  refine a8 ⟨v,rfl,a8 (f v next hr _ ?_ λb Y=>?_)⟩
  ·exact sX _ Z (vH (s0 (o:=f4 (.int next 0) i a n ep) rfl _))
  ·exact((gE _ I _).2 b Y).trans ((gE _ I _).2 b Y)
 |none=>
  refine aJ (pe V rfl (by simp) ?_)
  refine aJ ?_
  refine aJ (lb ?_ (by size_fits))
  refine aJ (m:=FX _ _) (tI (a:=fB) (by first|rfl|(rfl)) ?_)
  refine lb ?_ (by size_fits)
  dsimp only[raiseNew]
  refine AT ?_
  first|rw[show A.in1.handled=ak from hh]|rw[hh]
  refine fY (GP ?_)
  refine q7 (T:="StopIteration") (b:=ae) ⟨_,cB _ rfl,rfl⟩ FY ?_
  exact a8 (h2 hr _ λb ob Y e=>bZ _ (bZ _ (((gE _ I _).2 b Y).trans e)))
theorem JE{T:ag}{W:Array ai}{Q:Option ai->av->Prop}(hh:A.handled=ak)(V:s.heap.get? I=aa (f4 (.ref T) i a n ep))(H:s.heap.get? a=aa o)(hd:o.data=.set es ep t)(G:t.fits es.size=ae)(B:es.size=n)
 (f:s.heap.get? T=aa {cls:=aK "tuple",data:=.seq W m})
 (h1:∀j u e,W[i]?=aa (.int (j:Nat) u)->es[j]?=aa e->∀h',h'.get? I=aa (f4 (.ref T) (i+1) a n ep)->(∀b,b≠I->h'.get? b=s.heap.get? b)->Q (aa e.2) {s with heap:=h'})
 (hp:∀v,W[i]?=aa v->∃j u e,v=.int ((j:Nat):Int) u/\es[j]?=aa e)
 (h2:W[i]?=aU->∀h',(∀b o,b≠I->s.heap.get? b=aa o->h'.get? b=aa o)->Q aU {s with heap:=h'}):wpAny (model PG w) A (pyNext (.ref I)) Q E s:=by
 refine aJ (ww (qw (name:=a6 "__next__") (f4.typeIs V) FS.slot_next
  (jZ FS.slot_next (f4.typeIs V) FS.entry_next ?_ (FS.args_next _))))
 unfold Builtin.«set_iterator.__next__»
 refine aJ (m:=slotArgs "__next__" 0 _) (a8 ?_)
 refine aJ (FV V rfl ?_)
 dsimp only[G9]
 refine aJ (aJ (vY H hd G (a8 ?_)))
 have Z:((es.size:Int) != (n:Int))=aI:=by rw[B];simp
 rw[Z,be (by simp)]
 refine lV f rfl ?_
 dsimp only
 rw[lQ]
 induction q:W[i]? with
 |some v=>
  refine ba λN_=>?_
  obtain⟨j,u,e,rfl,C⟩:=hp v q
  apply N_
  simp only[lQ,lQ]
  refine aJ (aJ (vY H hd G ?_))
  dsimp only
  have Y:(ep != ep)=aI:=by simp
  rw[Y,be (by simp),C]
  refine a8 ?_
  refine aJ (pe V rfl (by simp) ?_)
  refine a8 ⟨_,rfl,a8 (h1 j u e q C _ ?_ λb Y=>(gE _ I _).2 b Y)⟩
  exact sX _ V (vH (s0 (o:=f4 (.ref T) i a n ep) rfl _))
 |none=>
  have e1:(s.heap.update I (Ad (·.setIfInBounds 0 (rawInt 0)))).get? I=aa (f4 (.int 0 0) i a n ep):=sX _ V (vH (s0 (o:=f4 (.ref T) i a n ep) rfl _))
  refine aJ (pe V rfl (eA _) ?_)
  refine aJ (pe (s:={s with heap:=s.heap.update I (Ad (·.setIfInBounds 0 (rawInt 0)))}) e1 rfl (by simp) ?_)
  refine aJ ?_
  refine aJ (lb ?_ (by size_fits))
  refine aJ (m:=FX _ _) (tI (a:=fB) (by first|rfl|(rfl)) ?_)
  refine lb ?_ (by size_fits)
  dsimp only[raiseNew]
  refine AT ?_
  first|rw[show A.in1.handled=ak from hh]|rw[hh]
  refine fY (GP ?_)
  refine q7 (T:="StopIteration") (b:=ae) ⟨_,cB _ rfl,rfl⟩ FY ?_
  exact a8 (h2 q _ λb ob Y e=>bZ _ (bZ _ (((gE _ I _).2 b Y).trans (((gE _ I _).2 b Y).trans e))))
end
end
namespace FS
theorem slot_self:Slot "set_iterator" "__iter__" "set_iterator.__iter__":=
 .of (owner:="set_iterator") (n:="__iter__") (by rw[j0,jV];kernel_rfl) (by decide+kernel) (by decide+kernel) (by decide+kernel)
  (by first|exact .inl (by decide+kernel)|exact .inr (by decide+kernel)) (by rw[qV];kernel_rfl)
theorem entry_self:entryFor table "set_iterator.__iter__"=aa Builtin.«dict_keyiterator.__iter__»:=
 Ql (id':="dict_keyiterator.__iter__") (by kernel_rfl) (by first|rfl|decide+kernel) (by decide+kernel) (by kernel_rfl)
theorem args_self(a:ai):argsOk "set_iterator.__iter__" ⟨[a],[]⟩:=by kernel_rfl
end FS
theorem Wr(next:Nat->Nat):∀(f k:Nat) (left:List α) (V:Array α),left.length=f->(Am next f k left V).toList.Perm (V.toList++left):=by
 intro Z
 induction Z with
 |zero=>
  intro k left V h
  obtain rfl:=Ej h
  simp only[cR];exact .refl _
 |succ f Y=>
  intro k left V h
  have hi:next k%left.length<left.length:=tN _ (h▸eA f)
  have e:Am next (f+1) k left V=Am next f (k+1) (left.eraseIdx (next k%left.length)) (V.push left[next k%left.length]):=by
   show (match left[next k%left.length]? with|some x=>Am next f (k+1) (left.eraseIdx (next k%left.length)) (V.push x)|ak=>V)=_
   rw[dt hi]
  rw[e]
  refine(Y _ _ _ ((List.length_eraseIdx_of_lt hi).trans (h▸rfl))).trans ?_
  simp only[s9,c6,NB]
  refine .append_left _ (Fo (l₁:=left.take (next k%left.length)) |>.symm.trans (.of_eq ?_))
  simp only[<-qv hi,kA]
theorem Ti(next:Nat->Nat)(xs:Array α):(HD next xs).toList.Perm xs.toList:=Wr next _ 0 xs.toList #[] rfl
section
variable {w:a9} {A:bN} {E:ai->av->Prop} {s:av} {g:aY}
theorem pyIter_self{I a:Nat}{f:ai}(h:s.heap.get? I=aa (f4 f i a n ep))(V:Q (.ref I) s):wpAny (model PG w) A (pyIter (.ref I)) Q E s:=by
 refine Pq (f4.typeIs h) FS.slot_self (jZ FS.slot_self (f4.typeIs h) FS.entry_self ?_ (FS.args_self _))
 exact a8 ⟨_,rfl,"set_iterator",_,f4.typeIs h,FS.slot_next.lookup,V⟩
inductive ZO(w:a9)(s:av)(a:ag)(xs:List Str)(I:ag)(aT:av):Prop
 |mk (L:List ai) (fp:List ag) (St:Nat->av->Prop) (hW:∀A:bN,A.handled=aU->xH PG w A I fp [I] (λa b=>b=a) L.length (λi v=>L[i]?=aa v) St) (h0:St 0 aT) (mw:∀b∈fp,b<aT.heap.objs.size/\(b=a\/s.heap.objs.size<=b)) (hs:∀v∈L,∃x u,v=.str x u) (hp:(L.map sv).Perm xs)
structure BU(w:a9)(s:av)(a:ag)(xs:List Str)(I:ag)(aT:av):Prop where
 walk:ZO w s a xs I aT
 new:s.heap.get? I=aU
 keep:∀b o,s.heap.get? b=aa o->aT.heap.get? b=aa o
 same:∃h d,aT={s with heap:=h,drawn:=d}
 lt:s.heap.objs.size<=I
theorem UC{L:List ai}(V:∀e∈es.toList,∃x u,e=(hashStr w x,.str x u))(Y:(es.toList.map λe=>sv e.2).Perm xs)(W:L.Perm (es.toList.map (·.2))):(∀v∈L,∃x u,v=.str x u)/\(L.map sv).Perm xs:=
 ⟨λv Z=>by
  obtain⟨e,H,rfl⟩:=bL.mp (W.mem_iff.mp Z)
  obtain⟨x,u,rfl⟩:=V e H
  exact⟨x,u,rfl⟩,(W.map sv).trans (by rw[cJ];exact Y)⟩
theorem HW{I:ag}(h:s.heap.objs.size<=I):s.heap.get? I=aU:=by
 induction q:s.heap.get? I with
 |none=>rfl
 |some V=>exact aZ (cq q) (de.mpr h)
structure x8(w:a9)(a:ag)(o:Obj)(ep:Nat)(L:List ai)(ok:Nat->Nat->Prop)(i slot:Nat)(r:Option (ai×Nat)):Prop where
 run:∀(s:av) (A:bN) (E:ai->av->Prop) (Q:Option (ai×Nat)->av->Prop),s.heap.get? a=aa o->Q r s->wpAny (model PG w) A (setNext a slot i ep) Q E s
 got:∀v next,r=aa (v,next)->L[i]?=aa v/\ok (i+1) next
 end_:r=aU->L.length<=i
 last:i=L.length->r=aU
inductive ISt(I a:ag)(o:Obj)(n ep N:Nat)(ok:Nat->Nat->Prop)(i:Nat)(s':av):Prop
 |mk (slot:_) (h1:ok i slot) (h2:i<=N) (h3:s'.heap.get? I=aa (f4 (.int (slot:Nat) 0) i a n ep)) (h4:s'.heap.get? a=aa o)
theorem Tj{I:ag}{t:jc}{L:List ai}{ok:Nat->Nat->Prop}(hd:o.data=.set es ep t)(hf:t.fits es.size=ae)(V:∀i slot,i<=L.length->ok i slot->∃r,x8 w a o ep L ok i slot r)(f:a≠I)(hh:A.handled=aU):
 xH PG w A I [I,a] [I] (λa b=>b=a) L.length (λi v=>L[i]?=aa v) (ISt I a o es.size ep L.length ok):=
 ⟨λb C=>a_.mp C▸bi,λ_=>rfl,λa b c h1 h2=>h2.trans h1,λi s' h' tk st _ hk=>by
  obtain⟨slot,H,G,Z,Y⟩:=st
  exact⟨slot,H,G,hk _ bi _ Z,hk _ (bM _ bi) _ Y⟩,λi s' Q' E' hi st W=>by
  obtain⟨slot,H,G,Z,Y⟩:=st
  obtain⟨r,R⟩:=V i slot G H
  exact JD hh Z Y hd hf rfl (λA E Q W=>R.run s' A E Q Y W) (λv next e h' q1 B=>W v _ (R.got v next e).1 ⟨next,(R.got v next e).2,hi,q1,(B a f).trans Y⟩ ⟨λb o' C e=>(B b λq=>C (a_.mpr q)).trans e,rfl,rfl,rfl,bv _⟩) λe=>aZ (R.end_ e) (kH.mpr hi),λs' Q' E' st W=>by
  obtain⟨slot,H,G,Z,Y⟩:=st
  obtain⟨r,R⟩:=V L.length slot G H
  exact JD hh Z Y hd hf rfl (λA E Q W=>R.run s' A E Q Y W) (λv next e=>ns ((R.last rfl).symm.trans e)) λe h' B=>W _ ⟨λb o' C e=>B b o' (λq=>C (a_.mpr q)) e,rfl,rfl,rfl,bv _⟩,λi s' Q' E' st W=>by
  obtain⟨slot,H,G,Z,Y⟩:=st
  exact pyIter_self Z W⟩
theorem HX{t:jc}{L:List ai}{ok:Nat->Nat->Prop}(Y:s.heap.get? a=aa o)(hd:o.data=.set es ep t)(H:t.fits es.size=ae)(W:(∀v∈L,∃x u,v=.str x u)/\(L.map sv).Perm xs)(G:ok 0 0)
 (V:∀i slot,i<=L.length->ok i slot->∃r,x8 w a o ep L ok i slot r)(C:∀I aT,BU w s a xs I aT->Q (.ref I) aT):
 wpAny (model PG w) A.in1 (newFields "set_iterator" [rawInt 0,rawInt 0,.ref a,rawInt es.size,rawInt ep]>>=ret) (λdk s'=>∃v,dk=.done (.ret v)/\∃Z r,s'.TypeIs v Z/\mP (aK Z) (a6 "__next__")=pure (aa r)/\Q v s') E s:=
 aJ (lb (a8 ⟨_,rfl,"set_iterator",_,⟨_,cB _ rfl,rfl⟩,FS.slot_next.lookup,C _ _ ⟨⟨L,_,_,λA' hh=>Tj hd H V (eB (cq Y)) hh,⟨0,G,ck _,cB _ rfl,bZ _ Y⟩,
  List.forall_mem_cons.mpr ⟨⟨EY (gW _) (gX ..).symm,.inr (bv _)⟩,λb B=>by
  obtain rfl:=a_.mp B
  exact⟨EY (lP (cq Y)) (gX ..).symm,.inl rfl⟩⟩,W.1,W.2⟩,
  HW (bv _),λb o e=>bZ _ e,⟨_,s.drawn,rfl⟩,bv _⟩⟩))
structure DM(es:Array (Int×ai))(ys:List Nat)(L:List ai):Prop where
 yl:ys.length=es.size
 len:L.length=es.size
 perm:L.Perm (es.toList.map (·.2))
 at_:∀i j:Nat,ys[i]?=aa j->∃e:Int×ai,es[j]?=aa e/\L[i]?=aa e.2
theorem Ws{ys:List Nat}(V:ys.Perm (dK es.size)):DM es ys (ys.map λj=>(es.toList.map (·.2)).getD j fB):=by
 have Y:=V.length_eq.trans kD
 refine⟨Y,(aR _).trans Y,(V.map _).trans (.of_eq ?_),λi j h=>?_⟩
 ·have:=z9 (es.toList.map (·.2))
  simp only[aR,zu] at this
  exact this
 ·have W:=gi.mp (V.mem_iff.mp (c5 h))
  refine⟨_,nq W,?_⟩
  simp only[ci,h]
  refine aQ aa ((k5 ..).trans ?_)
  simp only[ci,ku,nq W];rfl
inductive TSt(I T a:ag)(o:Obj)(n ep:Nat)(pl:Array ai)(N i:Nat)(s':av):Prop
 |mk (h2:i<=N) (h3:s'.heap.get? I=aa (f4 (.ref T) i a n ep)) (h4:s'.heap.get? a=aa o) (h5:s'.heap.get? T=aa {cls:=aK "tuple",data:=.seq pl})
theorem K7{ys:List Nat}(h:(ys.map λ(i:Nat)=>rawInt i).toArray[i]?=aa v):∃j:Nat,ys[i]?=aa j/\v=rawInt j:=by
 rw[nt,ci] at h
 obtain⟨j,V,Y⟩:=mz.mp h
 exact⟨j,V,Y.symm⟩
theorem UD{I T:ag}{t:jc}{L:List ai}{ys:List Nat}(hd:o.data=.set es ep t)(hf:t.fits es.size=ae)(hD:DM es ys L)(e8:a≠I)(hnT:T≠I)(hh:A.handled=aU):
 xH PG w A I [I,a,T] [I] (λa b=>b=a) L.length (λi v=>L[i]?=aa v) (TSt I T a o es.size ep (ys.map λ(i:Nat)=>rawInt i).toArray L.length):=by
 have mI:∀{b},b∉[I]->b≠I:=λV q=>V (a_.mpr q)
 have H:∀(i:Nat) (v:ai),(ys.map λ(i:Nat)=>rawInt i).toArray[i]?=aa v->∃(j:Nat) (u:Tok) (e:Int×ai),v=Value.int ((j:Nat):Int) u/\es[j]?=aa e:=λi v hv=>by
  refine(K7 hv).elim λj m_=>m_.elim λG C=>?_
  obtain⟨e,h3,_⟩:=hD.at_ i j G
  exact⟨j,_,e,C,h3⟩
 have B:(ys.map λ(i:Nat)=>rawInt i).toArray.size=L.length:=(aR _).trans (hD.yl.trans hD.len.symm)
 refine⟨λb V=>a_.mp V▸bi,λ_=>rfl,λa b c G C=>C.trans G,λi s' h' tk st _ hk=>?_,λi s' Q' E' hi st f=>?_,λs' Q' E' st f=>?_,λi s' Q' E' st f=>?_⟩
 ·obtain⟨k2,Y,W,Z⟩:=st
  exact⟨k2,hk _ bi _ Y,hk _ (bM _ bi) _ W,hk _ (bM _ (bM _ bi)) _ Z⟩
 ·obtain⟨k2,Y,W,Z⟩:=st
  refine JE hh Y W hd hf rfl Z (λj u e q0 q1 h' q2 q3=>?_) (H i) λe=>aZ (B▸Es.mp e) (kH.mpr hi)
  refine f _ _ ?_ ⟨hi,q2,(q3 a e8).trans W,(q3 T hnT).trans Z⟩ ⟨λb o' V e=>(q3 b (mI V)).trans e,rfl,rfl,rfl,bv _⟩
  obtain⟨j',G,C⟩:=K7 q0
  obtain rfl:j=j':=lR (Qx C).1
  obtain⟨e',h3,h4⟩:=hD.at_ i j G
  exact(aW (q1.symm.trans h3))▸h4
 ·obtain⟨k2,Y,W,Z⟩:=st
  exact JE hh Y W hd hf rfl Z (λj u e q0=>aZ q0 (by rw[EA (bn B)];nofun)) (H _) λe h' q2=>f _ ⟨λb o' V e=>q2 b o' (mI V) e,rfl,rfl,rfl,bv _⟩
 ·obtain⟨k2,Y,W,Z⟩:=st
  exact pyIter_self Y f
theorem Tk{t:jc}(V:w.params.followText "set-order"=ae)(hd:o.data=.set es ep t)(W:t.fits es.size=ae)(i:Nat):
 x8 w a o ep ((HD (w.params.setOrder a ep) es).toList.map (·.2)) (λ_ slot=>slot=0) i 0 (((HD (w.params.setOrder a ep) es)[i]?).map λe=>(e.2,0)):=by
 refine⟨λs' A E Q Y Z=>?_,λv next e=>?_,λe=>?_,λe=>?_⟩
 ·delta setNext setWalk G8
  refine tC Y hd W (aJ (aJ (pc (a8 ?_))))
  show wpAny _ _ (if w.params.followText "set-order"=ae then _ else _) _ _ _
  rw[bo V,be (by simp)]
  refine aJ (aJ (vY Y hd W (aJ (aJ (pc (a8 ?_))))))
  exact(bo V)▸(aJ (pc (a8 (a8 Z))))
 ·obtain⟨u,q,H⟩:=mz.mp e
  obtain⟨rfl,rfl⟩:=wD H
  exact⟨by simp only[ci,ku,q];rfl,rfl⟩
 ·exact aD (bn ((aR _).trans zu)) (Es.mp (N9.mp e))
 ·exact N9.mpr (Es.mpr (bn (((aR _).trans zu).symm.trans e.symm)))
theorem R_{slot:Nat}{t:jc}{Q:Option (ai×Nat)->av->Prop}(V:w.params.followText "set-order"=aI)(hl:t.led=ae)(Y:¬es.size>1)(hd:o.data=.set es ep t)(W:t.fits es.size=ae)(Z:s.heap.get? a=aa o)
 (H:Q (match es[ws t.place slot]?,t.place[ws t.place slot]? with|some (_,x),aa j=>aa (x,j+1)|_,_=>ak) s):wpAny (model PG w) A (setNext a slot i ep) Q E s:=by
 delta setNext G8
 refine tC Z hd W (aJ (aJ (pc (a8 ?_))))
 show wpAny _ _ (if w.params.followText "set-order"=ae then _ else _) _ _ _
 rw[V,be (by simp)]
 show wpAny _ _ (if (!t.plain&&decide (es.size>1))=ae then _ else _) _ _ _
 rw[eW Y,Qm,be (by simp)]
 show wpAny _ _ ((if (!t.led&&!es.isEmpty)=ae then GO "set:maker-not-led" else pure ())>>=_) _ _ _
 rw[hl,be (by simp)]
 exact fY (a8 H)
theorem HY(p j:Nat):ws #[p] j=if p<j then 1 else 0:=by kernel_rfl
theorem Rz{t:jc}(W:w.params.followText "set-order"=aI)(hl:t.led=ae)(f:¬es.size>1)(hd:o.data=.set es ep t)(hf:t.fits es.size=ae):
 ∃ok:Nat->Nat->Prop,ok 0 0/\∀i slot,i<=(es.toList.map (·.2)).length->ok i slot->∃r,x8 w a o ep (es.toList.map (·.2)) ok i slot r:=by
 have Z:=λ(slot i:Nat) (s:av) (A:bN) (E:ai->av->Prop) (Q:Option (ai×Nat)->av->Prop) (Y:s.heap.get? a=aa o)=>R_ (slot:=slot) (i:=i) (s:=s) (A:=A) (E:=E) (Q:=Q) W hl f hd hf Y
 obtain⟨le⟩:=es
 cases le with
 |nil=>exact⟨λ_ _=>True,trivial,λi slot hi _=>⟨aU,Z slot i,λ_ _ h=>aZ h.symm (k_ _),λ_=>ck _,λ_=>rfl⟩⟩
 |cons e r=>
  induction r with
  |cons e2 r2=>exact aZ (PE (eA _)) f
  |nil=>
   have H:t.place.size=1:=by
    exact cZ ((bB _ _).mp hf).1
   refine ba λN_=>?_
   obtain⟨tm,⟨lp⟩,td,tf,tl,tmv,tp⟩:=t
   obtain⟨V,rfl⟩:=Ex.mp H
   apply N_
   refine⟨λi slot=>(i=0/\slot=0)\/(i=1/\slot=V+1),.inl ⟨rfl,rfl⟩,λi slot hi hs=>?_⟩
   rcases hs with ⟨rfl,rfl⟩|⟨rfl,rfl⟩
   ·refine⟨aa (e.2,V+1),λs A E Q Y G=>Z 0 0 s A E Q Y ?_,λv next h=>?_,λh=>aZ h (k_ _),λh=>aZ h Nat.zero_ne_one⟩
    ·show Q (match (#[e]:Array (Int×ai))[ws #[V] 0]?,(#[V]:Array Nat)[ws #[V] 0]? with|some (_,x),aa j=>aa (x,j+1)|_,_=>ak) s
     rw[HY,be (zV _)];exact G
    ·refine(wD (aW h)).elim λC B=>?_;subst C;subst B
     exact⟨rfl,.inr ⟨rfl,rfl⟩⟩
   ·refine⟨aU,λs A E Q Y G=>Z (V+1) 1 s A E Q Y ?_,λ_ _ h=>aZ h.symm (k_ _),λ_=>bv _,λ_=>rfl⟩
    rw[HY,bo (gW _)];exact G
theorem Sa{t:jc}{L:List ai}{ys:List Nat}{d:Drawn}(C:s.heap.get? a=aa o)(hd:o.data=.set es ep t)(B:t.fits es.size=ae)(f:DM es ys L)(Z:(∀v∈L,∃x u,v=.str x u)/\(L.map sv).Perm xs)
 (hQ:∀I aT,BU w s a xs I aT->Q (.ref I) aT):
 wpAny (model PG w) A.in1 (newFields "set_iterator" [.ref s.heap.objs.size,rawInt 0,.ref a,rawInt es.size,rawInt ep]>>=ret) (λdk s'=>∃v,dk=.done (.ret v)/\∃H r,s'.TypeIs v H/\mP (aK H) (a6 "__next__")=pure (aa r)/\Q v s') E {s with heap:=s.heap.push {cls:=aK "tuple",data:=.seq (ys.map λ(i:Nat)=>rawInt i).toArray},drawn:=d}:=by
 have V:=bZ {cls:=aK "tuple",data:=.seq (ys.map λ(i:Nat)=>rawInt i).toArray} C
 have G:(s.heap.push {cls:=aK "tuple",data:=.seq (ys.map λ(i:Nat)=>rawInt i).toArray}).get? s.heap.objs.size=aa {cls:=aK "tuple",data:=.seq (ys.map λ(i:Nat)=>rawInt i).toArray}:=cB _ rfl
 have Y:=cq G
 refine aJ (lb (a8 ⟨_,rfl,"set_iterator",_,⟨_,cB _ rfl,rfl⟩,FS.slot_next.lookup,hQ _ _ ⟨⟨L,_,_,λA' hh=>UD hd B f (eB (cq V)) (eB Y) hh,⟨ck _,cB _ rfl,bZ _ V,bZ _ G⟩,λb W=>?_,Z.1,Z.2⟩,
  HW (bd Y),λb o e=>bZ _ (bZ _ e),⟨_,d,rfl⟩,bd Y⟩⟩))
 refine And.imp_left (λh=>EY (jW h) (gX ..).symm) ?_
 rcases bT.mp W with rfl|W
 ·exact⟨bv _,.inr (bd Y)⟩
 ·rcases bT.mp W with rfl|W
  ·exact⟨bd (cq V),.inl rfl⟩
  ·obtain rfl:=a_.mp W
   exact⟨bd Y,.inr (bv _)⟩
theorem UE(V:s.heap.get? a=aa o)(h:iB w g o xs)(hl:xs.length<=1000)(f:∀I aT,BU w s a xs I aT->Q (.ref I) aT):wpAny (model PG w) A (pyIter (.ref a)) Q E s:=by
 obtain⟨hex,es,ep,t,hd,Y,G,Ea,vp,C,iH⟩:=h
 have hT:s.TypeIs (.ref a) "set":=⟨_,V,hex.1⟩
 have perm:=λ{L:List ai}=>UC (L:=L) vp C
 have Z:∀{α:Type} {s':av} {A:bN} {E:ai->av->Prop} {k:Nat->Sem α} {Q':α->av->Prop},s'.heap.get? a=aa o->wpAny (model PG w) A (k ep) Q' E s'->wpAny (model PG w) A (setEpoch a>>=k) Q' E s':=λho' hk=>aJ (wpAny_setEpoch_of ho' hd Y hk)
 refine Pq hT Ol (jZ Ol hT FS.R9 ?_ (FS.Th _))
 unfold Builtin.«frozenset.__iter__» adJ
 refine aJ (m:=slotArgs "__iter__" 0 _>>=λr=>adA r.1) (a8 ?_)
 delta adB G9
 refine aJ (aJ (tC V hd Y (a8 (a8 (aJ ?_)))))
 refine tC V hd Y (aJ (aJ (pc (a8 (a8 ?_)))))
 show wpAny _ _ (if (!(w.params.followText "set-order")&&(!t.plain&&decide (es.size>1)))=ae then _ else _) _ _ _
 induction H:w.params.followText "set-order" with
 |true=>
  exact fY (Z V (HX (ok:=λ_ W=>W=0) V hd Y (perm ((Ti (w.params.setOrder a ep) es).map _)) rfl (λi W _ hs=>by subst hs;exact⟨_,Tk H hd Y i⟩) f))
 |false=>
  by_cases B:es.size>1
  ·rw[Ea (jB (eK Nat.zero_lt_one B)),eP B,bo (by decide)]
   refine aJ (Gg es.size (dK es.size) s _ kD λys d hy=>?_)
   have hD:=Ws hy
   exact wP (Z (bZ _ V) (Sa (s:=s) (d:=d) V hd Y hD (perm hD.perm) f)) (pr▸bd (aV (aD (bn ((aR _).trans (hD.yl.trans ((aR (as:=es.toList) _).symm.trans C.length_eq:es.size=xs.length)))) hl) (by simp)))
  ·rw[eW B,Qm,be (by decide)]
   obtain⟨ok,h0,hs⟩:=Rz H (G.trans (by unfold ma;rw[H];rfl)) B hd Y
   exact fY (Z V (HX V hd Y (perm (qT _)) h0 hs f))
end
section
variable {w:a9} {A:bN} {E:ai->av->Prop} {s:av} {g:aY}
theorem RA{Q:List ai->av->Prop}(S:St w s g)(hh:A.handled=aU)(ho:s.heap.get? a=aa o)(h:iB w g o xs)(hl:xs.length<=1000)
 (hQ:∀s' vs,Nx [] s g s' g->St w s' g->(∀v∈vs,∃x u,v=.str x u)->(vs.map sv).Perm xs->Q vs s'):wpAny (model PG w) A (collect (.ref a)) Q E s:=by
 unfold collect
 refine aJ (Qn (th PySem.F.entry_proto_collect ?_))
 refine(vO PySem.F.plain_proto_collect _)▸?_
 show wpAny _ A.in1 (newList []>>=λl=>again (.builtin "list.__iadd__" ⟨[l,.ref a],[]⟩)) _ _ s
 refine aJ (lb ?_)
 refine a8 ⟨Ae NZ _,th PySem.F.entry_list_iadd ?_⟩
 refine(vO NZ _)▸?_
 have f:(s.heap.push {cls:=aK "list",data:=.seq ([]:List ai).toArray}).get? a=aa o:=bZ _ ho
 have oU:(s.heap.push {cls:=aK "list",data:=.seq ([]:List ai).toArray}).get? s.heap.objs.size=aa {cls:=aK "list",data:=.seq ([]:List ai).toArray}:=cB _ rfl
 have up:∀b o,s.heap.get? b=aa o->b<s.heap.objs.size/\(s.heap.push {cls:=aK "list",data:=.seq ([]:List ai).toArray}).get? b=aa o:=λb o e=>⟨cq e,bZ _ e⟩
 have eR:(s.heap.push {cls:=aK "list",data:=.seq ([]:List ai).toArray}).objs.size=s.heap.objs.size+1:=gX ..
 have Ec:=(up _ _ ho).1
 generalize s.heap.push {cls:=aK "list",data:=.seq ([]:List ai).toArray}=Nn at f oU up eR
 generalize s.heap.objs.size=l at Ec oU up eR
 have h1:adD (.ref l) (.ref a)=aI:=beq_false_of_ne (jB Ec)
 show wpAny _ A.in1 (NJ (.ref l) (.ref a) (.ref l)) _ _ _
 unfold NJ
 have hT:Gc {s with heap:=Nn} (.ref a) "set":=⟨_,f,h.isSet⟩
 refine pB hT ?_
 rw[h1]
 refine aJ (UE (s:={s with heap:=Nn}) f h hl λI aT W=>?_)
 obtain⟨⟨L,fp,Sta,wk,DN,fpl,kZ,MR⟩,new,keep,⟨Y,d2,sJ⟩,Ed⟩:=W
 subst sJ
 have Ee:Gc {s with heap:=Y,drawn:=d2} (.ref a) "set":=⟨_,keep _ _ f,h.isSet⟩
 have MS:=keep _ _ oU
 refine aJ (eH ?_)
 refine wF (s:={s with heap:=Y,drawn:=d2}) Ee FS.Wq ?_
 show wpAny _ _ (wI (.ref a) (aK "set")>>=_) _ _ _
 refine q7 (T:="set") (b:=ae) Ee (by rw[qV];kernel_rfl) ?_
 refine pB (s:={s with heap:=Y,drawn:=d2}) Ee ?_
 refine a8 ?_
 refine ka ?_
 refine aJ ?_
 refine aJ (FG (s:={s with heap:=Y,drawn:=d2}) MS rfl ?_)
 have MT:=FD (n:=0) MS (·.push fB)
 refine FG (s:={s with heap:=Y.update l (ja (·.push fB)),drawn:=d2}) MT rfl ?_
 have MU:=FD MT (·.pop)
 have H:∀b o,b≠l->Y.get? b=aa o->((Y.update l (ja (·.push fB))).update l (ja (·.pop))).get? b=aa o:=λb o hb e=>
  ((gE _ _ _).2 b hb).trans (((gE _ _ _).2 b hb).trans e)
 generalize (Y.update l (ja (·.push fB))).update l (ja (·.pop))=hp3 at MU H
 have MV:l∉fp:=λhm=>(fpl _ hm).2.elim (jB Ec) λe=>OC _ (eR▸e)
 have Ed:l+1<=I:=eR▸Ed
 have WW:=wk A.in1 (show A.in1.handled=aU from hh)
 have hLl:L.length<=sizeLine:=by
  have:=MR.length_eq
  rw[aR] at this
  rw[pr];exact aD (aD (bn this) hl) (by decide)
 refine a8 ⟨Ae PySem.F.plain_extend_loop _,codeAny_extend_loopS WW hLl _ MV _ L.length 0 _ _ _ rfl (ck _) (WW.frame 0 {s with heap:=Y,drawn:=d2} hp3 s.toks DN (bv _) λb hb o e=>H b o (λq=>MV (q▸hb)) e) MU ⟨rfl,λj v hj=>by exact ns hj⟩ λs' C c' hm Ef B=>?_⟩
 refine aJ (wpAny_load Ef (a8 ?_))
 have eL:C.toList=L:=by
  refine qF λi=>?_
  refine ku.trans ?_
  by_cases q:i<L.length
  ·have hi:i<C.size:=by exact B.1▸q
   have:=B.2 i C[i] (nq hi)
   exact(nq hi).trans this.symm
  ·simp only[o6 (de.mp q),EA (B.1▸(de.mp q))]
 obtain⟨N,S'⟩:=S.ext (h':=s'.heap) (tk:=s'.toks) (dr:=s'.drawn) λb o e=>by
  have u:=up b o e
  have hb:b≠l:=eB u.1
  exact hm.heap b o (λq=>(bT.1 q).elim hb λq=>eB (cg (lP u.1) Ed) (a_.1 q)) (H b o hb (keep _ _ u.2))
 have es:s'={s with heap:=s'.heap,toks:=s'.toks,drawn:=s'.drawn}:=by
  have e1:s'.gens=s.gens:=hm.gens
  have e2:s'.os=s.os:=hm.os
  exact e1▸e2▸rfl
 rw[es]
 exact hQ _ _ N S' (by exact eL▸kZ) (eL▸MR)
end
noncomputable def yK(ss:List Str)(i j:Nat):Bool:=decide ((ss.getD i "").cps.toList<(ss.getD j "").cps.toList)
theorem Yj(ss:List Str):gf (yK ss):=⟨λa b h=>by
 unfold yK at*
 exact eW λq=>Ac (cZ h) q,λa b c h h'=>by
 unfold yK at*
 exact eW (pt.mpr (QE (pt.mp (ic h')) (pt.mp (ic h))))⟩
theorem CH(h:∀v∈vs,∃x u,v=.str x u)(hi:i<vs.length):∃u,vs.getD i .none=.str ((vs.map sv).getD i "") u:=by
 refine(h vs[i] (PF hi)).elim λx V=>V.elim λu e=>?_
 refine⟨u,?_⟩
 simp only[k5,k5,ci,dt hi,e];rfl
theorem UG:∀{vs:List ai},2<=vs.length->(∀v∈vs,∃x u,v=.str x u)->keyKind' vs.toArray=pure oneType'
 |[],h,_=>by simp at h
 |[_],h,_=>by simp at h
 |v1::V::r,_,hs=>keyKind_strs (strsAre_map _ hs)
inductive Yk(w:a9)(s:av)(g:aY)(k:List Str->Prop)(v:ai)(s':av):Prop
 |mk (g' a o xs:_) (N:Nx [] s g s' g') (S:St w s' g') (hv:v=.ref a) (ho:s'.heap.get? a=aa o) (ha:iB w g' o xs) (h:k xs)
structure p6(n:Nat)(sc:bf)(ρ:ay)(e:au)(k:List Str->Prop):Prop where
 run:∀(w:a9) (A:bN) (ab:Env) (s:av) (g:aY),St w s g->Rm n A->c8 w s g ab sc ρ->∀E,wpAny (model PG w) A (eval e ab) (Yk w s g k) E s
section
variable {n:Nat} {sc:bf} {ρ:ay}
theorem aj.HZ(W:sc.names.lookup (a6 "sorted")=aa cj)(he:cu e=ae)
 (h:p6 n sc ρ e λxs=>xs.length<60/\∀ys:List Str,ys.Perm xs->ys.Nodup->sortedS ys=ae->k (.lst (ys.map D.str))):
 aj n sc ρ (bU (aS (a6 "sorted") np) [e] [] aM) k:=.mk λw A ab aw aE H R V E=>by
 have ha:[e].all cu=ae:=by simp[he]
 refine lM ((tJ W).run w A ab aw aE ρ H V np _ E ?_)
 refine j6 (P:=λG=>∃k,(k=jC\/k=jA\/k=jx)/\jL (model PG w) G (keeperOf (.builtin "sorted")) k) (by rw[(cE ha).2];rfl) (λ_ q=>q) ?_
 refine fj (cE ha).1 rfl (qO (bg (h.run w A ab aw aE H R V E) (λv s ⟨g,a,o,xs,B,S,hv,ho,f,hx,hk⟩=>?_)) (nH he))
 subst hv
 refine a8 (fz ⟨(tJ W).keep w s g S,?_⟩)
 refine eg (Q:=Out w s g k) ?_ (λr aT o=>o.trans B λ_ x=>x) λ_ _ x=>x
 refine NN GN Gp Gq (args_sorted1 _) ?_
 unfold Builtin.«sorted»
 refine aJ (m:=G6 "sorted" 1 1 _) (a8 ?_)
 refine aJ (RA S (show A.in1.handled=aU from R.2.2) ho f (bd (eK hx (by simp))) λs' vs N S' hs G=>?_)
 have iH:(vs.map sv).Nodup:=by
  obtain⟨_,_,_,_,_,_,_,_,_,_,q⟩:=f
  exact G.nodup_iff.mpr q
 have No:vs.length<60:=by
  have:=G.length_eq
  rw[aR] at this;exact aV (bn this) hx
 refine tU ?_ (pr▸(bd (eK No (by simp))))
 have X0:SA w s g s' g:=⟨S,N,S'⟩
 have O3:=X0.newList vs (tk:=s'.toks)
 refine O3.at_.elim λ_ sN=>?_
 generalize hLD:s'.heap.objs.size=Da at O3 sN⊢
 refine aJ (eH (jZ FT ⟨_,sN,rfl⟩ FE ?body (Qk _)))
 case body=>
  refine HV (lt:=yK (vs.map sv)) (κ:=oneType') ((X0.push (seqObj "list" vs.toArray 0) (tk:=s'.toks)).1) O3 (eK No (by simp)) (Yj _) (λZ s' S' Q hq=>?_) (λs' S' i j C hi hj hC=>?_) λs' b hS Y OY=>?_
  ·exact tI (UG Z hs) hq
  ·obtain⟨u,e1⟩:=CH hs hi
   obtain⟨u',e2⟩:=CH hs hj
   unfold BF
   rw[e1,e2]
   exact kas_lt_str hC
  refine⟨_,rfl,a8 ⟨_,rfl,?_⟩⟩
  refine OY.at_.elim λn' e'=>?_
  obtain⟨F1,F2⟩:=Y.st.freeze (n:=Da) e' OY.off (Y.st.dN (a:=Da) e' (.inl (by simp)))
  have rb:∀g',aP w g' (b.map λi=>vs.getD i fB) ((b.map λi=>(vs.map sv).getD i "").map D.str):=λg'=>by
   refine⟨by simp,λj v d W Z=>?_⟩
   rw[ci] at W Z
   rw[ci] at Z
   induction hb:b[j]? with
   |none=>replace W:=hb▸W;exact ns W
   |some i=>
    rw[hb] at W Z
    simp only[PV,E3] at W Z
    subst W Z
    obtain⟨u,e1⟩:=CH hs (hS.js i (c5 hb):i<vs.length)
    rw[e1];exact .str _ _
  have MW:(b.map λi=>(vs.map sv).getD i "").Perm (vs.map sv):=by
   refine(hS.perm.map _).trans ?_
   have:(dK vs.length).map (λi=>(vs.map sv).getD i "")=vs.map sv:=by
    refine qF λi=>?_
    simp only[ci]
    by_cases q:i<vs.length
    ·rw[zv q];simp[k5,q]
    ·rw[o6 (by simpa using q),o6 (by simpa using q)];rfl
   rw[this]
  have hsS:sortedS (b.map λi=>(vs.map sv).getD i "")=ae:=by
   refine sortedS_of_pairwise _ ?_
   rw[qK]
   refine hS.pw.imp λ{i j} h=>?_
   rw[ltCps_eq]
   exact h.1
  refine⟨_,_,⟨Y.nx.keep,Y.nx.there,λa o e=>F2 _ _ (Y.nx.gg _ _ e),λa o e e' _=>?_,Y.nx.os⟩,F1,.lst _ n' _ _ (gZ _ _ _) (by simp) λj v d W Z=>((rb g).2 j v d (by exact W) Z).mono F2,hk _ (MW.trans G) (MW.nodup_iff.mpr iH) hsS⟩
  exact(fD _ _ _ (λq=>by rw[q,OY.new] at e;exact ns e)).trans (Y.nx.old a o e e' (ca))
theorem aco{bp:au}:kL 900 (.SetComp co [⟨bp,iter,bV,0⟩] ow aM) bp iter bV (newSet (aK "set")) (iB w) w n aF (λF d aC=>aj n aF aC co λa=>∃x,a=.str x/\∀l,F l d=dG l x)
 (λD ab=>do let v <-eval co ab;standAt co.pos;let _ <-call (.builtin "set.add") [D,v]):=
 kL.of
  (⟨λg g' o l h a=>a,λg o l ⟨a,_,_,_,_,_,_,_,_,_,_⟩=>by rw[a.1];simp,λg o l ⟨_,es,ep,t,e,_,_,_,_,_,_⟩=>by rw[e];simp⟩)
  (rfl)
  (λ_ _ _=>rfl)
  (λ_ _ _ _=>rfl)
  (λ_ _ _=>rfl)
  (λ_ _ _=>rfl)
  (λ_ _ _ _=>rfl)
  (λA E s Q h=>R8 λo B f=>h o B f)
  (λF d ρ D A ab s g o l E hP S R V e H hg hT hl=>by
  refine aJ (hP.wp S R V λv aA aN a Y W Z G=>G.elim λx G=>G.elim λex hF=>?_)
  subst ex
  refine Z.dB λu=>?_
  have C:=Y.get S e (.inl (by rw[H.1.1];simp)) (ca)
  refine jb (aJ ?_)
  refine jZ PySem.F.slot_set_add ⟨_,C,H.1.1⟩ PySem.F.entry_set_add ?_ (PySem.F.args_set_add_2 _ _)
  unfold Builtin.«set.add» adt
  simp only[List.isEmpty_nil,bind_assoc]
  refine fY ?_
  try dsimp only
  refine fY ?_
  try dsimp only
  refine aJ (Hh C H (bd (aV hl (by simp))) λb h' tk o' _ q1 q2 q3=>?_)
  refine a8 ⟨_,rfl,a8 ⟨aA,aN,h',tk,o',Y,W,rfl,q1,q2,?_⟩⟩
  rw[hF];exact q3)
theorem p6.comp{k:List Str->Prop}{bp:au}(G:dC aF sc=ae)(hs:∀ab x,im iter ab x=pure x)
 (h:uC 900 n sc ρ aF bp iter bV (λF d aC=>aj n aF aC co λa=>∃x,a=.str x/\∀l,F l d=dG l x) k):p6 n sc ρ (.SetComp co [⟨bp,iter,bV,0⟩] aF aM) k:=.mk λw A ab s g S R V E=>by
 refine AV aco G hs h.hh S R V (use:=aU) λs' g' D o l C N f Dn B Y hk Cn gC q_=>q_.elim λm hm=>⟨m,hm,λh' W=>?_⟩
 refine ba λN_=>?_
 obtain⟨oL,_,_,eL,dL,_⟩:=id hm
 have CD:D≠C:=λe=>by rw[e,gC] at B;exact ns B
 obtain⟨Z,H⟩:=St.changes (mt:=[C]) (h':=h') (tk:=s'.toks) S f N dq.nil (λa Y=>by
  have:a=C:=a_.1 Y
  subst this
  exact⟨.inl Cn,gC,oL,eL,cV.of λvs q=>by cases dL.symm.trans q⟩) (λb o hb e=>(W.2 b (by simpa using hb)).trans e)
 apply N_
 exact⟨g',D,o,l,N.over Z (λa Y=>by
  have:a=C:=a_.1 Y
  subst this;exact .inl Cn),H,rfl,(W.2 D CD).trans (f.sub _ _ B),Y,hk⟩
end
namespace FS
theorem Sb:Hx (aK "dict_values") (aK "set")=pure aI:=by rw[qV];kernel_rfl
theorem PQ:Hx (aK "dict_values") (aK "frozenset")=pure aI:=by rw[qV];kernel_rfl
end FS
section
variable {w:a9} {A:bN} {E:ai->av->Prop} {R:um->av->Prop} {g:aY}
theorem setLoop{I S:ag}{fp:List ag}{L:List ai}{St:Nat->av->Prop}(W:xH PG w A.in1 I fp [I] (λa b=>b=a) L.length (λi v=>L[i]?=aa v) St)(Z:S∉fp)(kZ:∀v∈L,∃x u,v=.str x u)(hL:L.length<=500):
 ∀(k i:Nat) (s:av) (o:Obj),L.length-i=k->i<=L.length->St i s->s.heap.get? S=aa o->iB w g o ((L.take i).foldl (λxs v=>dG xs (sv v)) [])->
  (∀s' o',Moved [S,I] (λa b=>b=a) s s'->s'.heap.get? S=aa o'->iB w g o' (L.foldl (λxs v=>dG xs (sv v)) [])->R (.ok (.ret .none)) s')->
  codeAny (model PG w) A (.builtin "set.update.loop" ⟨[.ref S,.ref I],[]⟩) R s:=by
 have H:S∉[I]:=λh=>Z (W.sub _ h)
 have V:∀b∈[I],b∈[S,I]:=λb G=>bM _ G
 have C:∀i,((L.take i).foldl (λxs v=>dG xs (sv v)) []).length<=i:=λi=>by
  have qk:∀(vs:List ai) (xs:List Str),(vs.foldl (λxs v=>dG xs (sv v)) xs).length<=xs.length+vs.length:=by
   intro vs
   induction vs with
   |nil=>intro xs;simp
   |cons v r ih=>
    intro xs
    have h1:=ih (dG xs (sv v))
    have h2:=Bn xs (sv v)
    simp only[iq,gF];exact BH (by assumption) (by assumption)
  have:=qk (L.take i) []
  simp only[gG,wl] at this;exact aa9 (by assumption)
 intro k
 induction k with
 |zero=>
  intro i s o hk hi Y hS ha hR
  have ni:i=L.length:=by exact aba (by assumption) (by assumption)
  subst ni
  refine th Nz ?_
  refine(vO Ei _)▸?_
  refine aJ (W.done s _ _ Y λs' B=>?_)
  rw[jY] at ha
  exact a8 (hR s' o (B.mono V) (B.heap S _ H hS) ha)
 |succ k ih=>
  intro i s o hk hi Y hS ha hR
  have f:i<L.length:=by exact Zi (by assumption)
  refine th Nz ?_
  refine(vO Ei _)▸?_
  refine aJ (W.item i s _ _ f Y λv s' hP acp B=>?_)
  obtain⟨x,u,rfl⟩:=kZ v (c5 hP)
  have e1:L.take (i+1)=L.take i++[.str x u]:=by rw[lN,hP];rfl
  refine aJ (eH (Hh (B.heap S _ H hS) ha (by have:=C i;exact abq (by assumption) (by assumption) (by assumption)) λb h' tk o' q0 q1 q2 q3=>?_))
  refine a8 ⟨Ae Ei _,ih (i+1) _ o' (by exact J_ (by assumption)) f (W.frame _ s' _ tk acp q0 λb G o e=>?_) q2 ?_ λsV o'' acq acr acs=>?_⟩
  ·exact(q1 b (λq=>Z (q▸G))).trans e
  ·simp only[e1,lO];exact q3
  ·refine hR sV o'' (Moved.trans W.gtrans ((B.mono V).then_heap q0 λb o G e=>?_) acq) acr acs
   exact(q1 b (λq=>G (by exact q▸bi))).trans e
theorem Tl:∀(vs:List ai) (xs:List Str),xs.Nodup->(vs.foldl (λxs v=>dG xs (sv v)) xs).Nodup/\∀y,y∈vs.foldl (λxs v=>dG xs (sv v)) xs<->y∈xs\/y∈vs.map sv:=by
 intro Y
 induction Y with
 |nil=>
  intro xs h
  exact⟨h,λy=>by simp⟩
 |cons v r V=>
  intro xs h
  obtain⟨W,Z⟩:=V (dG xs (sv v)) (rU h)
  refine⟨W,λy=>?_⟩
  rw[iq,Z,IQ,d7,bT]
  constructor
  ·rintro((q|q)|q)
   ·exact .inl q
   ·exact .inr (.inl q)
   ·exact .inr (.inr q)
  ·rintro(q|q|q)
   ·exact .inl (.inl q)
   ·exact .inl (.inr q)
   ·exact .inr q
end
section
variable {w:a9} {A:bN} {E:ai->av->Prop} {s:av} {g:aY}
theorem code_set_new(a:ai){DA:ai->av->Prop}
 (h:DA (.ref s.heap.objs.size) {s with heap:=s.heap.push {cls:=aK "set",dict:=ak,data:=.set #[] 0 (.fresh 0 0 (ma w))}}):
 codeAny (model PG w) A (.call (.builtin "set.__new__") ⟨[aK "set",a],[]⟩) (wants DA E) s:=by
 refine FC ?_
 show wpAny _ A.in1 (do checkBuiltinCall "set.__new__" ⟨[aK "set",a],[]⟩;again (.builtin "set.__new__" ⟨[aK "set",a],[]⟩)) _ _ s
 refine rP (PySem.F.newCall_set_1 a) (a8 ⟨Ae Om _,th PySem.F.entry_set_new ?_⟩)
 rw[vO Om _]
 unfold Builtin.«set.__new__» adu
 have V:=sub_set_self
 obtain⟨Y,g,d,tk,os⟩:=s
 wp_walk
 refine pc (a8 ?_)
 refine BK (a8 ?_)
 exact a8 h
theorem Wt{S v d:ag}{R:Unit->av->Prop}(hh:A.handled=aU)(hS:s.heap.get? S=aa {cls:=aK "set",dict:=ak,data:=.set #[] 0 (.fresh 0 0 (ma w))})(Z:S≠d)(Y:s.heap.IsValuesView v d)(H:s.heap.DictAt (ir PG w) d bh ep)(kZ:∀p∈bh,∃x u,p.2=.str x u)(G:bh.length<=500)
 (hR:∀h' tk o,(∀b o,b≠S->s.heap.get? b=aa o->h'.get? b=aa o)->h'.get? S=aa o->iB w g o ((bh.map (·.2)).foldl (λxs v=>dG xs (sv v)) [])->R () {s with heap:=h',toks:=tk}):
 wpAny (model PG w) A (En "set.__init__" S (.ref v)) R E s:=by
 have lS:=cq hS
 have ld:d<s.heap.objs.size:=H.elim λod q=>q.elim λes q=>cq q.1
 have nI:∀{b},b≠S->b<s.heap.objs.size->b∉[S,s.heap.objs.size]:=λh1 h2 q=>(bT.mp q).elim h1 λq=>eB h2 (a_.mp q)
 have W0:∀A':bN,A'.handled=aU->xH PG w A' s.heap.objs.size [s.heap.objs.size,d] [s.heap.objs.size] (λa b=>b=a) (bh.map (·.2)).length (λi v=>(bh.map (·.2))[i]?=aa v)
  (λi s'=>s'.heap.IsValIter s.heap.objs.size d i bh.length ep/\s'.heap.DictAt (ir PG w) d bh ep):=λA' C=>by
  have W:=(PH (prog:=PG) (w:=w) (knd:=ir PG w) C _ d (eB ld) bh ep).toS
  rw[aR]
  exact⟨W.sub,W.grefl,W.gtrans,W.frame,λi s' Q' E' hi st hq=>W.item i s' Q' E' hi st λv B q=>q.elim λk' f=>hq v B (by rw[ci,f];rfl),W.done,W.self⟩
 have hT:s.TypeIs (.ref v) "dict_values":=Y.elim λo q=>⟨o,q.1,q.2.1⟩
 show wpAny _ _ (adv (.ref v)>>=_) _ _ _
 refine aJ ?_
 show wpAny _ _ (wI (.ref v) (aK "set")>>=_) _ _ _
 refine q7 hT FS.Sb (Px hT FS.PQ ?_)
 show wpAny _ _ (typeOf (.ref v)>>=_) _ _ _
 refine pB hT ?_
 show wpAny _ _ (pyIter (.ref v)>>=_) _ _ _
 refine aJ ?_
 refine ON Y H (aJ (Qn ?_))
 refine setLoop (g:=g) (W0 _ hh) (λq=>(bT.mp q).elim (eB lS) λq=>Z (a_.mp q)) (λv Y=>?_) (by rw[aR];exact G) ((bh.map (·.2)).length-0) 0 _ _ rfl (ck _) ⟨⟨_,cB _ rfl,rfl,rfl⟩,H.push _⟩ (bZ _ hS) ⟨⟨rfl,rfl,rfl⟩,#[],0,_,rfl,by rfl,rfl,λq=>aZ rfl q,(λe he=>nomatch he),qT _,jX⟩ λs' o' V Ef sT=>?_
 ·obtain⟨p,hp,rfl⟩:=bL.mp Y
  exact kZ p hp
 ·obtain⟨h',g',d',D',os'⟩:=s'
  obtain rfl:g'=s.gens:=V.gens
  obtain rfl:d'=s.drawn:=V.drawn
  obtain rfl:os'=s.os:=V.os
  exact a8 (hR h' D' o' (λb o hb e=>V.heap b o (nI hb (cq e)) (bZ _ e)) Ef sT)
theorem UH{S v d:ag}{R:tS->av->Prop}(hh:A.handled=aU)(Z:s.heap.get? S=aa {cls:=aK "set",dict:=ak,data:=.set #[] 0 (.fresh 0 0 (ma w))})(V:S≠d)(H:s.heap.IsValuesView v d)(G:s.heap.DictAt (ir PG w) d bh ep)(kZ:∀p∈bh,∃x u,p.2=.str x u)(Y:bh.length<=500)
 (W:∀h' tk o,(∀b o,b≠S->s.heap.get? b=aa o->h'.get? b=aa o)->h'.get? S=aa o->iB w g o ((bh.map (·.2)).foldl (λxs v=>dG xs (sv v)) [])->R (.done (.ret .none)) {s with heap:=h',toks:=tk}):
 wpAny (model PG w) A (Builtin.«set.__init__» ⟨[.ref S,.ref v],[]⟩) R E s:=by
 have lS:=cq Z
 have U:∀{R:Unit->av->Prop},(∀h' tk o,(∀b o,b≠S->s.heap.get? b=aa o->h'.get? b=aa o)->h'.get? S=aa o->iB w g o ((bh.map (·.2)).foldl (λxs v=>dG xs (sv v)) [])->R () {s with heap:=h',toks:=tk})->
  wpAny (model PG w) A (En "set.__init__" S (.ref v)) R E s:=λW=>Wt (g:=g) hh Z V H G kZ Y W
 clear G kZ Y V H
 unfold Builtin.«set.__init__» noKeywords
 generalize En=UF at U
 wp_walk
 refine U λh' tk o C B f=>?_
 exact a8 (W h' tk o C B f)
theorem UI{v d:ag}(hh:A.handled=aU)(hv:s.heap.IsValuesView v d)(hm:s.heap.DictAt (ir PG w) d bh ep)(kZ:∀p∈bh,∃x u,p.2=.str x u)(C:bh.length<=500)
 (hQ:∀h' tk o,(∀b o,s.heap.get? b=aa o->h'.get? b=aa o)->h'.get? s.heap.objs.size=aa o->iB w g o ((bh.map (·.2)).foldl (λxs v=>dG xs (sv v)) [])->Q (.ref s.heap.objs.size) {s with heap:=h',toks:=tk}):
 wpAny (model PG w) A (call (aK "set") [.ref v]) Q E s:=by
 refine o8.mro.elim λc B=>B.elim λtl ad3=>?_
 have f:=o8.made
 have hsub:=o8.sub
 refine lU (FC ?_)
 show wpAny _ _ (callAny (aK "set") _) _ _ _
 refine a8 ⟨Code.quiet_builtin _ (by decide+kernel),th PySem.F.entry_type_call ?_⟩
 refine(Around.under_plain (weight_type_call_type "set" [.ref v] []) rfl)▸?_
 have h1:=o8.notType
 have h2:=o8.canCreate
 have hct:=PySem.F.typeCall_set_1 (.ref v)
 repeat (any_goals (first|assumption|wp_step))
 refine mO (code_set_new (.ref v) (E:=E) (DA:=λobj aA=>obj=.ref s.heap.objs.size/\aA={s with heap:=s.heap.push {cls:=aK "set",dict:=ak,data:=.set #[] 0 (.fresh 0 0 (ma w))}}) ⟨rfl,rfl⟩) λr aA hr=>?_
 cases r with
 |error e=>exact hr
 |ok fl=>
  cases fl with
  |ret obj=>
   obtain⟨rfl,rfl⟩:=hr
   have hS:(s.heap.push {cls:=aK "set",dict:=ak,data:=.set #[] 0 (.fresh 0 0 (ma w))}).get? s.heap.objs.size=aa {cls:=aK "set",dict:=ak,data:=.set #[] 0 (.fresh 0 0 (ma w))}:=cB _ rfl
   have hT:Gc {s with heap:=s.heap.push {cls:=aK "set",dict:=ak,data:=.set #[] 0 (.fresh 0 0 (ma w))}} (.ref s.heap.objs.size) "set":=⟨_,hS,rfl⟩
   have hli:=o8.init.lookup
   have hbi:=o8.init.bind (.ref s.heap.objs.size)
   repeat (any_goals (first|assumption|wp_step))
   refine mO (OA (R:=wants (λr aT=>r=.none/\∃h' tk o,aT={s with heap:=h',toks:=tk}/\(∀b o,s.heap.get? b=aa o->h'.get? b=aa o)/\h'.get? s.heap.objs.size=aa o/\iB w g o ((bh.map (·.2)).foldl (λxs v=>dG xs (sv v)) [])) E) o8.init.plain PySem.F.entry_set_init (check_set_init_1 hT ?_)) λG aT V=>?_
   ·exact UH (A:=A.in1.in1) hh hS (jB (hm.elim λod q=>q.elim λes q=>cq q.1:d<s.heap.objs.size)) (hv.elim λo q=>⟨o,bZ _ q.1,q.2⟩) (hm.push _) kZ C λh' tk o k1 k2 k3=>⟨rfl,h',tk,o,rfl,λb o hb=>k1 b o (eB (cq hb)) (bZ _ hb),k2,k3⟩
   ·induction G with
    |error e=>exact V
    |ok H=>
     induction H with
     |ret r=>
      obtain⟨rfl,h',tk,o,rfl,k1,k2,k3⟩:=V
      repeat (any_goals (first|assumption|wp_step))
      exact hQ _ _ o k1 k2 k3
     |_=>exact V.elim
  |_=>exact hr.elim
end
section
variable {n:Nat} {sc:bf} {ρ:ay}
noncomputable def nX(l:List (Str×Str)):List (Str×D):=l.map λp=>(p.1,.str p.2)
theorem p6.vals{k:List Str->Prop}(h2:sc.names.lookup (a6 "set")=aa cj)
 (hl:(ap.endLine==cp.line)=ae)(hb:∀ab,mN e "values" ab (eval e ab)=eval e ab)
 (h:aj n sc ρ e λa=>∃l:List (Str×Str),a=.cL (nX l)/\l.length<=500/\∀xs:List Str,xs.Nodup->(∀x,x∈xs<->∃p∈l,p.2=x)->k xs):
 p6 n sc ρ (bU (aS (a6 "set") sp) [bU (cC e "values" ap) [] [] cp] [] oN) k:=.mk λw A ab aw aE Z R V E=>by
 refine lM ((ID h2).run w A ab aw aE ρ Z V sp _ E ?_)
 refine j6 (P:=λhp=>∃k,(k=jC\/k=jA\/k=jx)/\jL (model PG w) hp (keeperOf (aK "set")) k) (by rw[(cE (l:=[bU (cC e "values" ap) [] [] cp]) rfl).2];rfl) (λ_ q=>q) ?_
 refine fj (cE (l:=[bU (cC e "values" ap) [] [] cp]) rfl).1 rfl (qO ?_ (nH (by rfl)))
 refine nr (hb ab) rfl hl rfl (eg (h.run w A ab aw aE Z R V E) (λv s ⟨g,a,N,S,Ra,l,ea,DO,hk⟩=>?_) λ_ _ x=>x)
 subst ea
 obtain⟨ad,nn,es,rfl,hg,e8,bh,hD,e1,e2⟩:=ut S Ra
 have hT:=Rep.typeIs S Ra
 refine⟨"dict","dict.values",N0,ze,NU,hT.1,hT.2,?_⟩
 refine nG rfl (fj rfl rfl (a8 (fz ?_)))
 have G:(ad==iu)=aI:=beq_false_of_ne e8
 refine Gs ze hT.1 NO (NK _) (Pr (ir PG w) ad G) ⟨⟨bh,hD.dictOf⟩,?_⟩
 refine(S.ext' (h':=s.heap.push {cls:=aK "dict_values",data:=bC #[.ref ad]}) (tk:=s.toks) λb o e=>bZ _ e).elim λC H=>?_
 refine a8 (fz ⟨(ID h2).keep w _ g H,?_⟩)
 have Y:bh.length=l.length:=by
  have:=aQ gk e1
  simpa[nX] using this
 have kZ:∀p∈bh,∃x u,p.2=.str x u:=λp hp=>by
  refine(qy.mp hp).elim λi hi=>?_
  have W:=(ey.mp hi).1
  have:=e2.2 i p.2 (.str (l[i]'(Y▸W)).2) (by rw[ci,hi];rfl) (by simp[nX,show i<l.length from Y▸W])
  obtain⟨t,ht⟩:=this.str_inv
  exact⟨_,t,ht⟩
 have gU:(bh.map (·.2)).map sv=l.map (·.2):=by
  refine qF λi=>?_
  simp only[ci,ci,ci]
  induction hi:bh[i]? with
  |none=>
   rw[o6 (by exact Y▸(qq.mp hi))];rfl
  |some p=>
   have W:=(ey.mp hi).1
   have:=e2.2 i p.2 (.str (l[i]'(Y▸W)).2) (by rw[ci,hi];rfl) (by simp[nX,show i<l.length from Y▸W])
   obtain⟨t,ht⟩:=this.str_inv
   rw[dt (show i<l.length from Y▸W)]
   show aa (sv p.2)=aa _
   rw[ht];rfl
 refine UI (g:=g) R.2.2 ⟨_,cB _ rfl,rfl,rfl⟩ (hD.push _) kZ (aD (bn Y) DO) λh' tk o k1 k2 k3=>?_
 obtain⟨B,f⟩:=H.ext' (h':=h') (tk:=tk) k1
 have hf:=Tl (bh.map (·.2)) [] (jX)
 refine⟨g,_,o,_,(N.trans C).trans B,f,rfl,k2,k3,hk _ hf.1 λx=>?_⟩
 rw[hf.2,gU]
 simp
theorem aj.Sc(f:sc.names.lookup (a6 "sorted")=aa cj)(h2:sc.names.lookup (a6 "set")=aa cj)
 (hl:(ap.endLine==cp.line)=ae)(hb:∀ab,mN e "values" ab (eval e ab)=eval e ab)
 (h:aj n sc ρ e λa=>∃l:List (Str×Str),a=.cL (nX l)/\l.length<60/\∀ys:List Str,ys.Nodup->sortedS ys=ae->(∀x,x∈ys<->∃p∈l,p.2=x)->k (.lst (ys.map D.str))):
 aj n sc ρ (bU (aS (a6 "sorted") np) [bU (aS (a6 "set") sp) [bU (cC e "values" ap) [] [] cp] [] oN] [] aM) k:=
 aj.HZ f rfl (p6.vals h2 hl hb (h.mono λa q_=>by obtain⟨l,ea,V,hk⟩:=q_;exact⟨l,ea,bd (eK V (by simp)),λxs n1 G=>⟨by
  have Z:xs.length<=l.length:=by
   have H:∀(b c:List Str),b.Nodup->(∀x∈b,x∈c)->b.length<=c.length:=by
    intro b
    induction b with
    |nil=>intro c _ _;simp
    |cons x r ih=>
     intro c Y C
     have W:=C x bi
     have Y:=gH.mp Y
     have:=ih (c.erase x) Y.2 λy B=>(EI (λe=>Y.1 (by exact e▸B))).mpr (C y (bM _ B))
     rw[Ew W] at this
     have:0<c.length:=Ez W
     simp only[gF];exact LM (by assumption) (by assumption)
   have:=H xs (l.map (·.2)) n1 λx W=>by
    obtain⟨p,hp,e⟩:=(G x).mp W
    exact bL.mpr ⟨p,hp,e⟩
   rw[aR] at this;exact this
  exact aV Z V,λys p1 p2 p3=>hk ys p2 p3 λx=>(p1.mem_iff).trans (G x)⟩⟩))
end
section
open PySem.Builtin PySem.Builtin.Str
noncomputable def stp(s sub:Str)(hi jm:Nat)(st:Array Nat×Nat)(i:Nat):Array Nat×Nat:=
 if ((st.fst.size<jm/\st.snd<=i)/\i+sub.length<=hi)/\subAt s sub i=ae then (st.fst.push i,i+sub.length) else st
theorem UJ(s sub:Str)(hi jm:Nat)(l:List Nat)(st:Array Nat×Nat):(forIn l st (PW s sub hi jm)).run=l.foldl (stp s sub hi jm) st:=by
 induction l generalizing st with
 |nil=>rfl
 |cons i l V=>
  rw[wi,iq,<-V]
  dsimp only[PW,stp]
  split<;>rfl
theorem Bo(s sub:Str)(hi jm:Nat)(l:List Nat)(st:Array Nat×Nat)(h:∀i∈l,st.snd<=i->subAt s sub i=aI):l.foldl (stp s sub hi jm) st=st:=by
 induction l with
 |nil=>rfl
 |cons i l V=>
  have e:stp s sub hi jm st i=st:=be λq=>ft ((h i bi q.1.1.2).symm.trans q.2)
  exact(aQ (rj _ · l) e).trans (V λj Y=>h j (bM _ Y))
noncomputable def dS:List Nat:=[46,46,46]
theorem JF:cl "..."=dS:=rfl
noncomputable def c7:List (List Nat)->List Nat
 |[]=>[]
 |[p]=>p
 |p::q::r=>p++dS++c7 (q::r)
noncomputable def x9:Nat->List (List Nat)->List Nat
 |_,[]=>[]
 |_,[_]=>[]
 |a,p::q::r=>(a+p.length)::x9 (a+p.length+3) (q::r)
theorem Wu{g pre p post:List Nat}(Y:g=pre++p++post)(W:46∉p)(V:pre.length<=i)(Z:i<pre.length+p.length):(g.drop i).take 3≠dS:=λe=>by
 have:g[i]?=aa 46:=by
  have:=aQ (λl=>l[0]?) e
  simpa[dS] using this
 rw[Y,c6,oZ V,qr (Nat.sub_lt_left_of_lt_add V Z)] at this
 exact W (c5 this)
theorem Hi(p q:List Nat)(r:List (List Nat))(pre:List Nat):pre++c7 (p::q::r)=(pre++p++dS)++c7 (q::r):=by
 show pre++(p++dS++c7 (q::r))=_
 rw[c6,c6,c6]
theorem xo(pre p:List Nat):(pre++p++dS).length=pre.length+p.length+3:=by rw[bR,bR];rfl
theorem IR(h:((cl x).drop i).take 3≠dS):subAt x "..." i=aI:=qJ.mpr λq=>h (pE.mp q)
theorem Hj{jm:Nat}{pre p post:List Nat}{V:Array Nat}(Y:cl x=pre++p++post)(W:46∉p):(hV pre.length p.length).foldl (stp x "..." x.length jm) (V,pre.length)=(V,pre.length):=
 Bo _ _ _ _ _ _ λi hi _=>IR (Wu Y W (qI.mp hi).1 (qI.mp hi).2)
theorem UK{jm:Nat}(W:x.length<jm)(ps:List (List Nat))(p pre:List Nat)(V:Array Nat)(hd:∀q∈p::ps,46∉q)(Z:cl x=pre++c7 (p::ps))(G:V.size<=pre.length):
 ((hV pre.length ((c7 (p::ps)).length+1)).foldl (stp x "..." x.length jm) (V,pre.length)).fst.toList=V.toList++x9 pre.length (p::ps):=by
 induction ps generalizing p pre V with
 |nil=>
  have Z:cl x=pre++p++[]:=Z.trans (cR _).symm
  rw[show (c7 [p]).length+1=p.length+1 from rfl,<-vK,lO,Hj Z (hd p bi),Bo]
  ·exact(cR _).symm
  ·intro i hi _
   refine IR ?_
   rw[EB]
   ·exact nofun
   ·simp only[Z,cR,bR];exact(qI.mp hi).1
 |cons q r C=>
  have Y:=Z.trans (Hi p q r pre)
  have hl:x.length=pre.length+p.length+3+(c7 (q::r)).length:=by rw[cD,Y,bR,xo]
  have e:(c7 (p::q::r)).length+1=p.length+(1+(2+((c7 (q::r)).length+1))):=by
   simp only[show c7 (p::q::r)=p++dS++c7 (q::r) from rfl,bR,bR,show dS.length=3 from rfl]
   exact abC
  have B:stp x "..." x.length jm (V,pre.length) (pre.length+p.length)=(V.push (pre.length+p.length),pre.length+p.length+3):=by
   refine bo ⟨⟨⟨aV G (aV (by rw[hl,eS,eS];exact cy _ _) W),cy _ _⟩,by rw[hl];exact cy _ _⟩,pE.mpr ?_⟩
   rw[JF,Y,c6,<-bR,mK];rfl
  rw[e,<-vK,<-vK,<-vK,lO,lO,lO,Hj (post:=dS++c7 (q::r)) (Y.trans (by rw[c6])) (hd p bi)]
  show (rj _ (rj _ (stp x "..." x.length jm (V,pre.length) (pre.length+p.length)) _) _).fst.toList=_
  rw[B,Bo _ _ _ _ (hV (pre.length+p.length+1) 2) _ λi hi f=>aZ (qI.mp hi).2 (de.mpr f)]
  have:=C q (pre++p++dS) (V.push (pre.length+p.length)) (λp' H=>hd p' (bM _ H)) Y (by simp only[xo,PT];exact fV (aD G (cy _ _)) (eA _))
  rw[xo] at this
  refine this.trans ?_
  rw[s9,c6];rfl
theorem Sd(ps:List Str)(pre:List Nat)(h:ps≠[])(Y:cl x=pre++c7 (ps.map cl)):StrLaws.partsFrom x 3 pre.length (x9 pre.length (ps.map cl))=ps:=by
 induction ps generalizing pre with
 |nil=>exact aZ rfl h
 |cons p r W=>
  cases r with
  |nil=>
   have Y:cl x=pre++cl p:=Y
   refine aQ (·::[]) (Cg ((On ..).trans ?_))
   show ((cl x).drop pre.length).take (x.length-pre.length)=cl p
   rw[cD,Y,mK,bR,k6,jY]
  |cons q r=>
   have V:=Y.trans (Hi (cl p) (cl q) (r.map cl) pre)
   have g:=W (pre++cl p++dS) (mG _ _) V
   rw[xo] at g
   refine(aQ (strSub x pre.length (pre.length+(cl p).length)::·) g).trans (aQ (·::q::r) (Cg ((On ..).trans ?_)))
   show ((cl x).drop pre.length).take (pre.length+(cl p).length-pre.length)=cl p
   rw[V,c6,c6,mK,k6,qU]
theorem BV:∀ps:List Str,cl (jI "..." ps)=c7 (ps.map cl):=by
 have:∀ps:List Str,cl (Bf "..." ps)=c7 (ps.map cl):=λps=>by
  induction ps with
  |nil=>rfl
  |cons p r V=>induction r with
   |nil=>rfl
   |cons q r=>
    show cl (p++"..."++Bf "..." (q::r))=_
    simp only[fE,fE,V];rfl
 intro ps
 show cl (glued "..." ps)=_
 rw[Oo];exact this ps
theorem Yl{l:List α}(h:2<=l.length):∃p q r,l=p::q::r:=by
 rcases l with _|⟨p,_|⟨q,r⟩⟩
 ·exact aZ h (OE 1)
 ·exact aZ h (gK 1)
 ·exact⟨p,q,r,rfl⟩
theorem Tm(x:Str):¬vT x<1:=by
 unfold vT
 split
 ·exact gK 1
 ·split
  ·exact(by decide)
  ·exact(by decide)
theorem Se{ps:List Str}(C:2<=ps.length)(hd:∀p∈ps,46∉cl p)(Y:cl x=c7 (ps.map cl)):
 ji "..." x=ae/\px x "..."=ps/\(vE x (kr x "..." 0 x.length (x.length+1)) (iw "...")).length=ps.length:=by
 obtain⟨p,q,r,rfl⟩:=Yl C
 have W:∀u∈(p::q::r).map cl,46∉u:=λu B=>(bL.mp B).elim λv e=>e.2▸hd v e.1
 have H:occurrences x "..." 0 x.length (x.length+1)=x9 0 ((p::q::r).map cl):=by
  rw[Qi,UJ]
  have h:=UK (x:=x) (jm:=x.length+1) (gW _) ((q::r).map cl) (cl p) [] #[] W Y (ck _)
  rw[show (c7 (cl p::(q::r).map cl)).length=x.length from ((cD x).trans (aQ gk Y)).symm] at h
  exact h
 have G:partsBetween x (occurrences x "..." 0 x.length (x.length+1)) (iw "...")=p::q::r:=by
  rw[H,StrLaws.partsBetween_eq]
  exact Sd _ [] (mG _ _) Y
 have V:cl x=cl p++(dS++c7 ((q::r).map cl)):=Y.trans (c6 ..)
 have hl:x.length=(cl p).length+(3+(c7 ((q::r).map cl)).length):=(cD x).trans ((aQ gk V).trans ((bR ..).trans (aQ ((cl p).length+·) (bR ..))))
 have h3:(cl p).length+3<=x.length:=hl▸fh (cy _ _) _
 have hs:subAt x "..." (cl p).length=ae:=pE.mpr (by rw[V,mK];rfl)
 refine⟨?_,?_,aQ _ G⟩
 ·unfold ji
  cases BQ x "..." 0 x.length with
  |none e f=>exact aZ ⟨h3,hs⟩ (f _ (ck _))
  |some i r e _ _=>rw[e];rfl
 ·unfold px
  rw[be,be,G]
  ·rw[H];exact nofun
  ·have hk:vT "..."=1:=by decide+kernel
   exact λc=>((wm _ _).mp c).elim (λc=>de.mpr (aD (jz 3 _) h3) (cZ c)) λc=>Tm x (hk▸cZ c)
end
section
open PySem.Builtin PySem.Builtin.Str
noncomputable def og(i:Int)(n:Nat):Nat:=(max 0 (min (if i<0 then i+n else i) n)).toNat
noncomputable def fG(o:Option Int)(d n:Nat):Nat:=match o with
 |none=>d
 |some i=>og i n
theorem UL{o:Option Int}{d:Nat}(h:d<=n):fG o d n<=n:=by
 induction o with
 |none=>exact h
 |some i=>exact nJ.mpr (tL.mpr ⟨dA n,Fi _ _⟩)
theorem Bp(i:Int)(n:Nat):max 0 (min (if i<0 then i+(n:Int) else i) n)=(og i n:Int):=(mC (zT 0 _)).symm
theorem Ko{A B:Nat}:rm (A:Int) (B:Int) 1=(dK (B-A)).map (A+·):=by
 unfold rm
 simp only[show ((1:Int)>0)=True from by decide,if_true]
 have e:(if (A:Int)<B then ((B:Int)-A+1-1)/1 else 0).toNat=B-A:=by
  by_cases q:(A:Int)<B
  ·rw[bo q,Gm,mD,F_]
  ·rw[be q]
   exact(Nat.sub_eq_zero_of_le (fW.mp (dU.mp q))).symm
 rw[e]
 refine lK λk _=>?_
 rw[GH];rfl
theorem L7(lo hi:Option Int)(n:Nat):strSliceIndices lo hi 1 n=(dK (fG hi n n-fG lo 0 n)).map (fG lo 0 n+·):=by
 rw[<-Ko]
 unfold strSliceIndices
 dsimp only[show ((1:Int)>0)=True from by decide,if_true]
 congr 1
 ·induction lo with
  |none=>rfl
  |some i=>exact Bp i n
 ·induction hi with
  |none=>rfl
  |some i=>exact Bp i n
theorem UM{f g:α->Option β}{l:List α}(h:∀a∈l,f a=g a):l.filterMap f=l.filterMap g:=by
 induction l with
 |nil=>rfl
 |cons a r V=>rw[ny,ny,h a bi,V λb Y=>h b (bM _ Y)]
theorem IS(h:List α)(n:Nat):(dK n).filterMap (h[·]?)=h.take n:=by
 induction n with
 |zero=>rfl
 |succ n V=>
  rw[PU,Oh,V,lN]
  have e:∀o:Option α,(match o with|none=>[]|aa b=>[b])=o.toList:=λo=>by cases o<;>rfl
  exact aQ (h.take n++·) (e h[n]?)
theorem Hk(g:List α)(A B:Nat):((dK (B-A)).map (A+·)).filterMap (g[·]?)=(g.take B).drop A:=
 zD.trans ((aQ (Qo · _) (funext λ_=>zA.symm)).trans ((IS (g.drop A) _).trans Qh.symm))
theorem JG(x:Str):(λi:Nat=>x.cps[i]?)=λi:Nat=>(cl x)[i]?:=funext λ_=>ku.symm
set_option tactic.hygienic true in
theorem nU(x:Str)(lo hi:Option Int):cl (d5 x lo hi ak)=win (cl x) (fG lo 0 x.length) (fG hi x.length x.length):=by
 have Y:fG hi x.length x.length<=(cl x).length:=UL (bv _)
 unfold d5
 split
 ·rename_i h
  have V:=(aQ gk (L7 lo hi x.length)).symm.trans (eq_of_beq ((bB _ _).mp h).2)
  rw[aR,kD] at V
  exact(((List.drop_sublist _ _).trans (Ps _ _)).eq_of_length (by rw[qP,gG,iL Y];exact V)).symm
 ·show (strSliceIndices lo hi 1 x.length).filterMap (λi=>x.cps[i]?)=_
  rw[L7,JG]
  exact Hk ..
theorem AL(c:Nat){ps:List (List Nat)}{g:List Nat}(h:cG ps g):(ps.map (wO c)).sum<=g.count c:=by
 induction ps generalizing g with
 |nil=>exact ck _
 |cons p ps V=>
  refine h.elim λa q=>q.elim λb q=>?_
  rw[q.1,d7,pf,nC,nC]
  exact fV (jz _ _) (V q.2)
theorem Ym{l:List α}{c:α}:l.take 1=[c]<->l[0]?=aa c:=by
 cases l with
 |nil=>exact⟨λh=>aZ h (mG _ _).symm,ns⟩
 |cons a r=>exact⟨λh=>aQ aa (j4 h).1,λh=>aQ (·::[]) (aW h)⟩
theorem Kp{l:Str}(hl:cl l=[c]):subAt x l i=ae<->(cl x)[i]?=aa c:=by
 rw[pE,hl]
 exact Ym.trans (by rw[zA];rfl)
theorem rV{l:Str}(hl:cl l=[c]):tM x l x.length i<->(cl x)[i]?=aa c:=
 ⟨λh=>(Kp hl).mp h.2,λh=>⟨(cD l).trans (aQ gk hl)▸(ey.mp h).1,(Kp hl).mpr h⟩⟩
theorem Wv{a b:List α}{c:α}:(a++c::b)[a.length]?=aa c:=by rw[oZ (bv _),tE];rfl
theorem Yn{a b:List α}{c:α}(h:i<a.length)(q:(a++b)[i]?=aa c):c∈a:=c5 ((qr h).symm.trans q)
theorem Bq{l:Str}(hl:cl l=[c]):(jH x l=-1/\c∉cl x)\/∃a b,cl x=a++c::b/\c∉a/\jH x l=a.length:=by
 unfold jH
 cases BQ x l 0 x.length with
 |none e Y=>exact .inl ⟨by rw[e],λV=>(qy.mp V).elim λi hi=>Y i (ck _) ((rV hl).mpr hi)⟩
 |some i r e W Y=>
  rw[fA] at e W
  have V:=(rV hl).mp W
  refine .inr ((List.eq_append_cons_of_mem (c5 V)).elim λu q=>q.elim λb q=>⟨u,b,q.1,q.2,?_⟩)
  have Z:i=u.length:=lc (de.mp λh=>Y _ h ((fA _).symm▸(rV hl).mpr (q.1▸Wv))) (de.mp λh=>q.2 (Yn h (q.1▸V)))
  rw[e,Z]
theorem w'{l:Str}(hl:cl l=[c]):(j7 x l=-1/\c∉cl x)\/∃a b,cl x=a++c::b/\c∉b/\j7 x l=a.length:=by
 unfold j7
 refine(StrLaws.last_spec x l).elim (λq=>.inl ⟨by rw[q.1],λV=>(qy.mp V).elim λi hi=>q.2 i ((rV hl).mpr hi)⟩) λq=>q.elim λa q=>.inr ?_
 have V:=(rV hl).mp q.2.1
 refine(ey.mp V).elim λhi Y=>⟨(cl x).take a,(cl x).drop (a+1),?_,λW=>(qy.mp W).elim λj Z=>q.2.2 _ (s_ (cy _ _)) ((rV hl).mpr (zA.symm.trans Z)),?_⟩
 ·rw[<-Y,<-qv hi,kA]
 ·rw[q.1,gG,iL (bd hi)]
theorem rE{a:Nat}(h:a<=n):og (a:Int) n=a:=by
 unfold og
 rw[be (dU.mpr (dA _)),wf (fW.mpr h),qM (dA a)];rfl
theorem Ww{a p b:List Nat}:win (a++p++b) a.length (a.length+p.length)=p:=by
 unfold win
 rw[<-bR,qU,mK]
structure uG(c:Nat)(g p h t:List Nat):Prop where
 mid:∃a b,g=a++p++b
 up:∃m,h=m++p
 fro:∃m,t=p++m
 c1:g.count c<=p.count c
 c2:h.count c<=p.count c
 c3:t.count c<=p.count c
theorem uG.none{g t:List Nat}(h:c∉g)(V:∀x∈t,x∈g):uG c g [] [] t:=
 ⟨⟨[],g,rfl⟩,⟨[],rfl⟩,⟨t,rfl⟩,bn (zE.mpr h),bv _,bn (zE.mpr λq=>h (V c q))⟩
theorem uG.some{a p b:List Nat}(W:c∉a)(Z:c∉b):uG c (a++p++b) p (a++p) (p++b):=by
 have V:=zE.mpr W
 have Y:=zE.mpr Z
 refine⟨⟨a,b,rfl⟩,⟨a,rfl⟩,⟨b,rfl⟩,?_,?_,?_⟩
 ·simp only[nC,nC,V,Y,fA];exact bv _
 ·simp only[nC,V,fA];exact bv _
 ·rw[nC,Y];exact bv _
theorem Sf{l:Str}(hl:cl l=[c]){f t:Int}(hf:jH x l=f)(ht:j7 x l=t):
 uG c (cl x) (cl (d5 x (aa f) (aa (t+1)) ak)) (cl (d5 x ak (aa (t+1)) ak)) (cl (d5 x (aa f) ak ak)):=by
 simp only[nU,nU,nU]
 subst hf ht
 rcases Bq (x:=x) hl with ⟨C,Z⟩|⟨a,b,C,Z,h3⟩
 ·rcases w' (x:=x) hl with ⟨V,H⟩|⟨W,Y,V,H,g3⟩
  ·simp only[C,V,show fG (GQ (-1+1:Int)) x.length x.length=0 from rE (a:=0) (ck _),show ∀A,win (cl x) A 0=[] from λA=>QG,show ∀A,win (cl x) A 0=[] from λA=>QG]
   exact .none Z λy hy=>mB (vN hy)
  ·exact aZ (V▸o3 _ bi) Z
 ·refine(w' (x:=x) hl).elim (λB=>B.elim λV H=>?_) λlD=>lD.elim λW nh=>nh.elim λY qh=>qh.elim λV G=>G.elim λH g3=>?_
  ·exact aZ (C▸o3 _ bi) H
  ·rw[h3,g3]
   obtain⟨P,e1,e2⟩:∃P,W++[c]=a++P/\cl x=a++P++Y:=by
    rcases Et.mp (show a++c::b=(W++[c])++Y by simp only[<-C,V,c6];rfl) with ⟨P,e,_⟩|⟨q,e,_⟩
    ·exact⟨P,e,by simp only[<-e,V,c6];rfl⟩
    ·exact aZ (e▸sZ _ (o3 _ bi)) Z
   have el:=aQ gk e1
   simp only[bR,bR] at el
   have xl:x.length=a.length+P.length+Y.length:=by simp only[(cD x),e2,bR,bR]
   have c1:fG (GQ (a.length:Int)) 0 x.length=a.length:=rE (xl▸aD (cy _ _) (cy _ _))
   have c2:fG (GQ ((W.length:Int)+1)) x.length x.length=a.length+P.length:=(rE (a:=W.length+1) (by simp only[show W.length+1=_ from el,xl];exact cy _ _)).trans el
   have w2:win (a++P++Y) 0 (a.length+P.length)=a++P:=by unfold win;rw[tq,<-bR,qU]
   have w3:win (a++P++Y) a.length x.length=P++Y:=by
    unfold win
    rw[xl,<-bR,<-bR,jY,c6,mK]
   simp only[c1,c2,show fG aU 0 x.length=0 from rfl,show fG aU x.length x.length=x.length from rfl,e2,Ww,w2,w3]
   exact .some Z H
theorem GY(l:List D)(lo hi:Option Int):kI l lo hi ak=(l.take (fG hi l.length l.length)).drop (fG lo 0 l.length):=by
 delta kI Av
 have e:∀(o:Option Int) (d:Nat),(match o with|none=>(d:Int)|aa i=>max 0 (min (if i<0 then i+(l.length:Int) else i) l.length))=((fG o d l.length:Nat):Int):=λo d=>by
  induction o with
  |none=>rfl
  |some i=>exact Bp i _
 have V:=e lo 0
 rw[show ((0:Nat):Int)=0 from rfl] at V
 refine(aQ (λr=>Qo (l[·]?) r) (congrFun (congr (aQ rm V) (e hi l.length)) 1)).trans ?_
 rw[Ko,Hk]
theorem Hl{lo hi st:Option Int}(h:d∈kI l lo hi st):d∈l:=by
 obtain⟨i,_,V⟩:=qE.mp h
 exact c5 V
set_option tactic.hygienic true in
theorem Yo(x:Str):cl (d5 x ak ak (aa (-1)))=(cl x).reverse:=by
 have e:strSliceIndices ak ak (-1) x.length=(dK x.length).map (λk=>x.length-1-k):=by
  dsimp only[strSliceIndices,rm]
  simp only[show ((-1:Int)>0)=False from by decide,if_false]
  generalize x.length=n
  have:(if (n:Int)-1>-1 then ((n:Int)-1- -1- -1-1)/ - -1 else 0).toNat=n:=by
   simp only[show-(-1:Int)=1 from rfl,Gm,Ar,Ar,zy,mD]
   induction n with
   |zero=>rfl
   |succ n=>rw[bo (show ((n+1:Nat):Int)-1>-1 from (mD (n:Int) 1).symm▸la (by decide) (dA n))];rfl
  rw[this]
  refine lK λk V=>?_
  refine(NX (gi.mp V)).elim λd Y=>?_;subst Y
  show (((k+d+1:Nat):Int)-1+-1*(k:Int)).toNat=k+d-k
  simp only[show ((k+d+1:Nat):Int)-1+-1*(k:Int)=d by exact abw,k6];rfl
 have W:∀y:Str,(strSliceIndices ak ak (-1) x.length).filterMap (x.cps[·]?)=(cl x).reverse:=λ_=>by
  rw[e,JG]
  refine zD.trans ((UM λk V=>(o0 (gi.mp V)).symm).trans ((IS (cl x).reverse _).trans ?_))
  exact k9 (bn i8)
 unfold d5
 split
 ·rename_i h
  simp at h
 ·show ((strSliceIndices ak ak (-1) x.length).filterMap (x.cps[·]?)).toArray.toList=_
  exact W x
end
theorem bq.mono{op:oa}{a b:D}{k k':Bool->Prop}(h:bq n op a b k)(V:∀c,k c->k' c):bq n op a b k':=.mk λw A s g v u S R Y W E=>
 bg (h.run w A s g v u S R Y W E) (λv s' Z=>by obtain⟨g',c,N,H,e,x⟩:=Z;exact⟨g',c,N,H,e,V _ x⟩)
def cM(c:Bool)(P Q:Prop):Prop:=match c with
 |true=>P
 |false=>Q
theorem cM.mk{c:Bool}{P Q:Prop}(t:c=ae->P)(f:c=aI->Q):cM c P Q:=by
 induction c
 ·exact f rfl
 ·exact t rfl
theorem cM.t{c:Bool}{P Q:Prop}(h:cM c P Q)(e:c=ae):P:=by subst e;exact h
theorem cM.f{c:Bool}{P Q:Prop}(h:cM c P Q)(e:c=aI):Q:=by subst e;exact h
theorem cM.ite{c:Bool}{P Q V Y:Prop}(h:cM c P Q)(W:P->V)(Z:Q->Y):if c=ae then V else Y:=by
 induction c
 ·exact Z (h.f rfl)
 ·exact W (h.t rfl)
noncomputable abbrev EP:=ay->au->(D->Prop)->Prop
noncomputable abbrev TP:=ay->au->(Bool->Prop)->Prop
structure Ok(n:Nat)(sc:bf)(E:EP)(T:TP):Prop where
 e:∀{ρ e k},E ρ e k->aj n sc ρ e k
 t:∀{ρ e k},T ρ e k->bH n sc ρ e k
set_option genCtorIdx false in
set_option genInjectivity false in
inductive Fn where
 |max|min|abs|len|divmod|sum|sorted|str|iG (a:ag)
noncomputable def Fn.val:Fn->ai
 |.max=>.builtin "max"|.min=>.builtin "min"|.abs=>.builtin "abs"|.len=>.builtin "len"|.divmod=>.builtin "divmod"
 |.sum=>.builtin "sum"|.sorted=>.builtin "sorted"|.str=>aK "str"|.iG a=>.ref a
noncomputable def CI:List (Str×Fn):=[(a6 "len",.len),(a6 "max",.max),(a6 "min",.min),(a6 "abs",.abs),(a6 "divmod",.divmod),(a6 "sum",.sum),(a6 "sorted",.sorted),(a6 "str",.str),
 (a6 "_ellipsis_match",.iG 45),(a6 "_int2digits",.iG 66),(a6 "_digits2int",.iG 73),(a6 "int_divmod",.iG 87),(a6 "bisect_right",.iG 105),(a6 "bisect_left",.iG 114),
 (a6 "_law_over",.iG 269),(a6 "_law_apart",.iG 276),(a6 "_law_sticks",.iG 281),(a6 "_law_rows",.iG 286),(a6 "_law_points",.iG 291),(a6 "_law_order",.iG 296),(a6 "_law_painted",.iG 301),(a6 "_law_takes",.iG 308),(a6 "_law_once",.iG 315)]
noncomputable def AllP{α:Type}(P:α->Prop):List α->Prop
 |[]=>True
 |a::r=>P a/\AllP P r
theorem AllP.mem{P:α->Prop}:∀{l:List α},AllP P l->∀a∈l,P a
 |[],_,_,h=>aZ h ca
 |_::_,h,a,q=>(bT.1 q).elim (λe=>e▸h.1) (h.2.mem a)
def oP{α:Type}(o:Option α)(f:α->Prop)(F:Prop):Prop:=match o with
 |some a=>f a
 |none=>F
theorem dm{o:Option α}{f:α->Prop}{R:Prop}(h:oP o f F)(V:∀a,o=aa a->f a->R)(Y:F->R):R:=by
 induction o with
 |none=>exact Y h
 |some a=>exact V a rfl h
def bP(c:Bool)(P F:Prop):Prop:=match c with
 |true=>P
 |false=>F
theorem eG{c:Bool}{P R:Prop}(h:bP c P F)(V:c=ae->P->R)(Y:F->R):R:=by
 induction c with
 |false=>exact Y h
 |true=>exact V rfl h
theorem bP.t{c:Bool}{P:Prop}(e:c=ae)(p:P):bP c P F:=by subst e;exact p
theorem bP.f{c:Bool}{P:Prop}(e:c=aI)(p:F):bP c P F:=by subst e;exact p
def jn{α:Type}(l:List α)(f:α->Prop)(F:Prop):Prop:=match l with
 |[]=>F
 |a::r=>match r with
  |[]=>f a
  |_::_=>F
theorem jJ{P:List α->Prop}{l:List α}{f:α->Prop}(h:jn l f F)(Y:∀a,f a->P [a])(V:F->P l):P l:=by
 rcases l with _|⟨a,_|⟨b,r⟩⟩
 ·exact V h
 ·exact Y a h
 ·exact V h
def sD{α:Type}(l:List α)(f:α->α->Prop)(F:Prop):Prop:=match l with
 |[]=>F
 |a::r=>jn r (f a) F
theorem uh{P:List α->Prop}{l:List α}{f:α->α->Prop}(h:sD l f F)(Y:∀a b,f a b->P [a,b])(V:F->P l):P l:=by
 induction l with
 |nil=>exact V h
 |cons a r=>exact jJ (P:=λr=>P (a::r)) h (λb h=>Y a b h) V
def De{α:Type}(l:List α)(A F:Prop):Prop:=match l with
 |[]=>A
 |_::_=>F
theorem JH{P:List α->Prop}{l:List α}{A:Prop}(h:De l A F)(V:A->P [])(Y:F->P l):P l:=by
 induction l with
 |nil=>exact V h
 |cons _ _=>exact Y h
def CJ(e:au)(f:pQ->List au->Pos->Prop)(F:Prop):Prop:=dP (c:=e.ctorIdx=0) (λh=>Fp e h f) F
theorem IT{P:au->Prop}{f:pQ->List au->Pos->Prop}(h:CJ e f F)(Y:∀a b c,f a b c->P (.BoolOp a b c))(W:F->P e):P e:=
 gQ h (λq=>Fp (motive_1:=λe=>∀q,Fp e q f->P e) e q (λa b c _=>Y a b c) q) W
def K8(e:au)(f:au->lW->au->Pos->Prop)(F:Prop):Prop:=dP (c:=e.ctorIdx=2) (λh=>FH e h f) F
theorem UN{P:au->Prop}{f:au->lW->au->Pos->Prop}(h:K8 e f F)(Y:∀a b c d,f a b c d->P (.BinOp a b c d))(W:F->P e):P e:=
 gQ h (λq=>FH (motive_1:=λe=>∀q,FH e q f->P e) e q (λa b c d _=>Y a b c d) q) W
def Dg(e:au)(f:xw->au->Pos->Prop)(F:Prop):Prop:=dP (c:=e.ctorIdx=3) (λh=>Fb e h f) F
theorem JI{P:au->Prop}{f:xw->au->Pos->Prop}(h:Dg e f F)(Y:∀a b c,f a b c->P (.UnaryOp a b c))(W:F->P e):P e:=
 gQ h (λq=>Fb (motive_1:=λe=>∀q,Fb e q f->P e) e q (λa b c _=>Y a b c) q) W
def L8(e:au)(f:au->au->au->Pos->Prop)(F:Prop):Prop:=dP (c:=e.ctorIdx=5) (λh=>FI e h f) F
theorem Wx{P:au->Prop}{f:au->au->au->Pos->Prop}(h:L8 e f F)(Y:∀a b c d,f a b c d->P (.IfExp a b c d))(W:F->P e):P e:=
 gQ h (λq=>FI (motive_1:=λe=>∀q,FI e q f->P e) e q (λa b c d _=>Y a b c d) q) W
def CK(e:au)(f:au->List oa->List au->Pos->Prop)(F:Prop):Prop:=dP (c:=e.ctorIdx=15) (λh=>Fc e h f) F
theorem IU{P:au->Prop}{f:au->List oa->List au->Pos->Prop}(h:CK e f F)(Y:∀a b c d,f a b c d->P (iO a b c d))(W:F->P e):P e:=
 gQ h (λq=>Fc (motive_1:=λe=>∀q,Fc e q f->P e) e q (λa b c d _=>Y a b c d) q) W
def xQ(e:au)(f:au->List au->List Keyword->Pos->Prop)(F:Prop):Prop:=dP (c:=e.ctorIdx=16) (λh=>FZ e h f) F
theorem A3{P:au->Prop}{f:au->List au->List Keyword->Pos->Prop}(h:xQ e f F)(Y:∀a b c d,f a b c d->P (bU a b c d))(W:F->P e):P e:=
 gQ h (λq=>FZ (motive_1:=λe=>∀q,FZ e q f->P e) e q (λa b c d _=>Y a b c d) q) W
def K9(e:au)(f:Const->Nat->Pos->Prop)(F:Prop):Prop:=dP (c:=e.ctorIdx=19) (λh=>EZ e h f) F
theorem UO{P:au->Prop}{f:Const->Nat->Pos->Prop}(h:K9 e f F)(Y:∀a b c,f a b c->P (jF a b c))(W:F->P e):P e:=
 gQ h (λq=>EZ (motive_1:=λe=>∀q,EZ e q f->P e) e q (λa b c _=>Y a b c) q) W
def Co(e:au)(f:au->Str->Pos->Prop)(F:Prop):Prop:=dP (c:=e.ctorIdx=20) (λh=>EQ e h f) F
theorem H0{P:au->Prop}{f:au->Str->Pos->Prop}(h:Co e f F)(Y:∀a b c,f a b c->P (cC a b c))(W:F->P e):P e:=
 gQ h (λq=>EQ (motive_1:=λe=>∀q,EQ e q f->P e) e q (λa b c _=>Y a b c) q) W
def CM(e:au)(f:au->au->Pos->Prop)(F:Prop):Prop:=dP (c:=e.ctorIdx=21) (λh=>ER e h f) F
theorem IV{P:au->Prop}{f:au->au->Pos->Prop}(h:CM e f F)(Y:∀a b c,f a b c->P (dM a b c))(W:F->P e):P e:=
 gQ h (λq=>ER (motive_1:=λe=>∀q,ER e q f->P e) e q (λa b c _=>Y a b c) q) W
def pX(e:au)(f:Str->Pos->Prop)(F:Prop):Prop:=dP (c:=e.ctorIdx=23) (λh=>mJ e h f) F
theorem rF{P:au->Prop}{f:Str->Pos->Prop}(h:pX e f F)(Y:∀a b,f a b->P (aS a b))(W:F->P e):P e:=
 gQ h (λq=>mJ (motive_1:=λe=>∀q,mJ e q f->P e) e q (λa b _=>Y a b) q) W
def Kq(e:au)(f:List au->Pos->Prop)(F:Prop):Prop:=dP (c:=e.ctorIdx=24) (λh=>tr e h f) F
theorem Tn{P:au->Prop}{f:List au->Pos->Prop}(h:Kq e f F)(Y:∀a b,f a b->P (.List a b))(W:F->P e):P e:=
 gQ h (λq=>tr (motive_1:=λe=>∀q,tr e q f->P e) e q (λa b _=>Y a b) q) W
def x_(e:au)(f:List au->Nat->Pos->Prop)(F:Prop):Prop:=dP (c:=e.ctorIdx=25) (λh=>FJ e h f) F
theorem Br{P:au->Prop}{f:List au->Nat->Pos->Prop}(h:x_ e f F)(Y:∀a b c,f a b c->P (b7 a b c))(W:F->P e):P e:=
 gQ h (λq=>FJ (motive_1:=λe=>∀q,FJ e q f->P e) e q (λa b c _=>Y a b c) q) W
def K_(e:au)(f:Option au->Option au->Option au->Pos->Prop)(F:Prop):Prop:=dP (c:=e.ctorIdx=26) (λh=>FK e h f) F
theorem UP{P:au->Prop}{f:Option au->Option au->Option au->Pos->Prop}(h:K_ e f F)(Y:∀a b c d,f a b c d->P (.Slice a b c d))(W:F->P e):P e:=
 gQ h (λq=>FK (motive_1:=λe=>∀q,FK e q f->P e) e q (λa b c d _=>Y a b c d) q) W
noncomputable def D.int?(d:D):Option Int:=match d with
 |.int i=>aa i
 |.none=>aU|.bool _=>aU|.str _=>aU|.tup _=>aU|.lst _=>aU|.cL _=>aU|.et _=>aU
noncomputable def D.f9(d:D):Option Str:=match d with
 |.str i=>aa i
 |.none=>aU|.bool _=>aU|.int _=>aU|.tup _=>aU|.lst _=>aU|.cL _=>aU|.et _=>aU
noncomputable def D.uQ(d:D):Option (List D):=match d with
 |.lst i=>aa i
 |.none=>aU|.bool _=>aU|.int _=>aU|.tup _=>aU|.str _=>aU|.cL _=>aU|.et _=>aU
noncomputable def D.oB(d:D):Option (List D):=match d with
 |.tup i=>aa i
 |.none=>aU|.bool _=>aU|.int _=>aU|.lst _=>aU|.str _=>aU|.cL _=>aU|.et _=>aU
noncomputable def D.bool?(d:D):Option Bool:=match d with
 |.bool i=>aa i
 |.none=>aU|.tup _=>aU|.int _=>aU|.lst _=>aU|.str _=>aU|.cL _=>aU|.et _=>aU
noncomputable def uH(d:D)(i:Nat):Int:=((d.oB.getD [])[i]?.bind D.int?).getD 0
noncomputable def f9(d:D)(i:Nat):Str:=((d.oB.getD [])[i]?.bind D.f9).getD ""
noncomputable def acu(d:D)(i:Nat):D:=((d.oB.getD [])[i]?).getD .none
theorem D.kJ{i:Int}(h:d.int?=aa i):d=.int i:=by
 cases d with
 |int j=>exact aQ D.int (aW h)
 |_=>exact ns h
theorem D.l5{i:Str}(h:d.f9=aa i):d=.str i:=by
 cases d with
 |str j=>exact aQ D.str (aW h)
 |_=>exact ns h
theorem D.xR{i:List D}(h:d.uQ=aa i):d=.lst i:=by
 cases d with
 |lst j=>exact aQ D.lst (aW h)
 |_=>exact ns h
theorem D.Kr{i:List D}(h:d.oB=aa i):d=.tup i:=by
 cases d with
 |tup j=>exact aQ D.tup (aW h)
 |_=>exact ns h
theorem D.Wy{i:Bool}(h:d.bool?=aa i):d=.bool i:=by
 cases d with
 |bool j=>exact aQ D.bool (aW h)
 |_=>exact ns h
def iT(a b:D)(f:Int->Int->Prop)(F:Prop):Prop:=oP a.int? (λi=>oP b.int? (f i) F) F
def si(a b:D)(f:Str->Str->Prop)(F:Prop):Prop:=oP a.f9 (λi=>oP b.f9 (f i) F) F
def La(a b:D)(f:List D->List D->Prop)(F:Prop):Prop:=oP a.uQ (λi=>oP b.uQ (f i) F) F
theorem j_{a b:D}{f:Int->Int->Prop}{R:D->D->Prop}(h:iT a b f F)(Y:∀i j,f i j->R (.int i) (.int j))(V:F->R a b):R a b:=
 dm h (λi e h=>dm h (λj W h=>D.kJ e▸D.kJ W▸Y i j h) V) V
theorem ua{a b:D}{f:Str->Str->Prop}{R:D->D->Prop}(h:si a b f F)(Y:∀i j,f i j->R (.str i) (.str j))(V:F->R a b):R a b:=
 dm h (λi e h=>dm h (λj W h=>D.l5 e▸D.l5 W▸Y i j h) V) V
theorem UQ{a b:D}{f:List D->List D->Prop}{R:D->D->Prop}(h:La a b f F)(Y:∀i j,f i j->R (.lst i) (.lst j))(V:F->R a b):R a b:=
 dm h (λi e h=>dm h (λj W h=>D.xR e▸D.xR W▸Y i j h) V) V
set_option tactic.hygienic true in
theorem lookup_mem{a:α}:∀{l:List (Str×α)},l.lookup x=aa a->(x,a)∈l
 |[],h=>by exact ns h
 |(y,b)::r,h=>by
  simp only[io] at h
  split at h
  ·rename_i q;obtain rfl:=aW h;exact eq_of_beq q▸bi
  ·exact bM _ (lookup_mem h)
theorem UR{f:Fn}(h:CI.lookup x=aa f)(V:sc.names.lookup x=aa cj):bO sc x f.val:=by
 have H:AllP (λp:Str×Fn=>sc.names.lookup p.1=aa cj->bO sc p.1 p.2.val) CI:=
  ⟨Un,Uk,Ul,Um,Ru,Uo,tJ,IC,OR,P7,P8,FO,v7,Fy,QL,Qr,FP,QM,P',Qs,PP,Qt,QN,trivial⟩
 exact H.mem _ (lookup_mem h) V
section
variable (n:Nat)
def L9(op:lW)(a b:D)(k:D->Prop):Prop:=match op with
 |.Add=>iT a b (λi j=>k (.int (i+j))) (si a b (λx y=>x.length+y.length<=sizeLine/\k (.str (x++y))) (La a b (λl m=>l.length+m.length<=sizeLine/\k (.lst (l++m))) (bF n .Add a b k)))
 |.Sub=>iT a b (λi j=>k (.int (i-j))) (bF n .Sub a b k)
 |.Mult=>iT a b (λi j=>xe i j/\k (.int (i*j))) (bF n .Mult a b k)
 |.FloorDiv=>iT a b (λi j=>bP (decide (0<j)&&decide (j.natAbs<2^60)) (k (.int (i/j))) (bF n .FloorDiv (.int i) (.int j) k)) (bF n .FloorDiv a b k)
 |.Mod=>iT a b (λi j=>bP (decide (0<j)) (k (.int (i%j))) (bF n .Mod (.int i) (.int j) k)) (bF n .Mod a b k)
 |op=>bF n op a b k
def sE(op:oa)(a b:D)(k:Bool->Prop):Prop:=match op with
 |.Eq=>iT a b (λi j=>k (i==j)) (si a b (λi j=>k (i==j)) (bq n .Eq a b k))
 |.NotEq=>iT a b (λi j=>k (i != j)) (si a b (λi j=>k (i != j)) (bq n .NotEq a b k))
 |.Lt=>iT a b (λi j=>k (decide (i<j))) (bq n .Lt a b k)
 |.LtE=>iT a b (λi j=>k (decide (i<=j))) (bq n .LtE a b k)
 |.Gt=>iT a b (λi j=>k (decide (j<i))) (bq n .Gt a b k)
 |.GtE=>iT a b (λi j=>k (decide (j<=i))) (bq n .GtE a b k)
 |.In=>si a b (λi j=>k (ji i j)) (bq n .In a b k)
 |.NotIn=>si a b (λi j=>k (!ji i j)) (bq n .NotIn a b k)
 |.Is=>bP b.isNone (k a.isNone) (bq n .Is a b k)
 |.IsNot=>bP b.isNone (k (!a.isNone)) (bq n .IsNot a b k)
def L_(f:Fn)(ds:List D)(k:D->Prop):Prop:=match f with
 |.max=>sD ds (λa b=>iT a b (λi j=>k (.int (max i j))) (bk n (.builtin "max") [a,b] k)) (bk n (.builtin "max") ds k)
 |.min=>sD ds (λa b=>iT a b (λi j=>k (.int (min i j))) (bk n (.builtin "min") [a,b] k)) (bk n (.builtin "min") ds k)
 |.abs=>jn ds (λa=>oP a.int? (λi=>k (.int (if i<0 then-i else i))) (bk n (.builtin "abs") [a] k)) (bk n (.builtin "abs") ds k)
 |.len=>jn ds (λa=>oP a.uQ (λl=>l.length<2^63/\k (.int l.length)) (oP a.f9 (λx=>x.length<2^63/\k (.int x.length)) (bk n (.builtin "len") [a] k))) (bk n (.builtin "len") ds k)
 |.str=>jn ds (λa=>oP a.int? (λi=>i.natAbs.log2<1920/\k (.str (toString i))) (bk n (aK "str") [a] k)) (bk n (aK "str") ds k)
 |.iG a=>bJ n a ds k
 |.divmod=>bk n (.builtin "divmod") ds k
 |.sum=>bk n (.builtin "sum") ds k
 |.sorted=>bk n (.builtin "sorted") ds k
theorem Wz{n:Nat}{a b:D}(h:L9 n op a b k):bF n op a b k:=by
 induction op<;>first
  |exact h
  |exact j_ (R:=λa b=>bF n _ a b k) h (λ_ _ h=>bF.add h) λh=>ua (R:=λa b=>bF n _ a b k) h (λ_ _ h=>bF.abM h.1 h.2) λh=>UQ (R:=λa b=>bF n _ a b k) h (λ_ _ h=>bF.abN h.1 h.2) id
  |exact j_ (R:=λa b=>bF n _ a b k) h (λ_ _ h=>bF.sub h) id
  |exact j_ (R:=λa b=>bF n _ a b k) h (λ_ _ h=>bF.mul h.1 h.2) id
  |exact j_ (R:=λa b=>bF n _ a b k) h (λ_ _ h=>eG h (λc h=>bF.ZL c h) id) id
  |exact j_ (R:=λa b=>bF n _ a b k) h (λ_ _ h=>eG h (λc h=>bF.acf c h) id) id
theorem D.none_of(h:d.isNone=ae):d=.none:=by
 cases d with
 |none=>rfl
 |_=>exact te h
theorem xD{n:Nat}{op:oa}{a b:D}{k:Bool->Prop}(h:sE n op a b k):bq n op a b k:=by
 induction op<;>first
  |exact j_ (R:=λa b=>bq n _ a b k) h (λ_ _ h=>bq.eqI h) λh=>ua (R:=λa b=>bq n _ a b k) h (λ_ _ h=>bq.eqX h) id
  |exact j_ (R:=λa b=>bq n _ a b k) h (λ_ _ h=>bq.neI h) λh=>ua (R:=λa b=>bq n _ a b k) h (λ_ _ h=>bq.neX h) id
  |exact j_ (R:=λa b=>bq n _ a b k) h (λ_ _ h=>bq.lt h) id
  |exact j_ (R:=λa b=>bq n _ a b k) h (λ_ _ h=>bq.le h) id
  |exact j_ (R:=λa b=>bq n _ a b k) h (λ_ _ h=>bq.gt h) id
  |exact j_ (R:=λa b=>bq n _ a b k) h (λ_ _ h=>bq.ge h) id
  |exact ua (R:=λa b=>bq n _ a b k) h (λ_ _ h=>bq.inX h) id
  |exact ua (R:=λa b=>bq n _ a b k) h (λ_ _ h=>bq.XU h) id
  |exact eG h (λe h=>by obtain rfl:=D.none_of e;exact bq.isNone h) id
  |exact eG h (λe h=>by obtain rfl:=D.none_of e;exact bq.isNotNone h) id
theorem WA{n:Nat}{f:Fn}{ds:List D}(h:L_ n f ds k):bk n f.val ds k:=by
 induction f<;>first
  |exact h
  |exact bJ.oR h
  |exact uh (P:=λds=>bk n _ ds k) h (λa b h=>j_ (R:=λa b=>bk n _ [a,b] k) h (λ_ _ h=>bk.max2 h) id) id
  |exact uh (P:=λds=>bk n _ ds k) h (λa b h=>j_ (R:=λa b=>bk n _ [a,b] k) h (λ_ _ h=>bk.min2 h) id) id
  |exact jJ (P:=λds=>bk n _ ds k) h (λa h=>dm h (λi q h=>D.kJ q▸bk.abs h) id) id
  |exact jJ (P:=λds=>bk n _ ds k) h (λa h=>dm h (λi q h=>D.kJ q▸bk.abX h.1 h.2) id) id
  |exact jJ (P:=λds=>bk n _ ds k) h (λa h=>dm h (λi q h=>D.xR q▸bk.abV h.1 h.2) λh=>dm h (λi q h=>D.l5 q▸bk.abW h.1 h.2) id) id
def TrP(d:D)(k:Bool->Prop):Prop:=∃b,d.truth=aa b/\(∀x,d=.str x->x.length<2^63)/\(∀x,d=.lst x->x.length<2^63)/\k b
def ve(d:D)(k:Bool->Prop):Prop:=match d with
 |.bool b=>k b
 |.int i=>k (i != 0)
 |.none=>k aI
 |.str x=>x.length<2^63/\k ((x.length:Int) != 0)
 |.lst l=>l.length<2^63/\k (!l.isEmpty)
 |.tup _=>False|.cL _=>False|.et _=>False
theorem xS{k:Bool->Prop}(h:ve d k):TrP d k:=by
 cases d<;>first|exact h.elim|exact Ki h|exact Cc h|exact Ci h|exact X8 h.1 h.2|exact X9 h.1 h.2
inductive Met where
 |lower|find|rfind|index|join|startswith|endswith
noncomputable def Met.id:Met->String
 |.lower=>"str.lower"|.find=>"str.find"|.rfind=>"str.rfind"|.index=>"str.index"|.join=>"str.join"|.startswith=>"str.startswith"|.endswith=>"str.endswith"
noncomputable def Cp:List (Str×Met):=[("lower",.lower),("find",.find),("rfind",.rfind),("index",.index),("join",.join),("startswith",.startswith),("endswith",.endswith)]
theorem To{m:Met}(h:Cp.lookup x=aa m):cO "str" x m.id:=by
 have H:AllP (λp:Str×Met=>cO "str" p.1 p.2.id) Cp:=⟨.lower,.find,.rfind,.index,.join,.startswith,.endswith,trivial⟩
 exact H.mem _ (lookup_mem h)
def Ma(m:Met)(x:Str)(ds:List D)(k:D->Prop):Prop:=match m with
 |.lower=>bP ds.isEmpty (vS (cf x).length=aI/\k (.str (cf x))) False
 |.find=>jn ds (λa=>oP a.f9 (λy=>k (.int (jH x y))) False) (bk n (.builtin "str.find") (.str x::ds) k)
 |.rfind=>jn ds (λa=>oP a.f9 (λy=>k (.int (j7 x y))) False) False
 |.startswith=>jn ds (λa=>oP a.f9 (λy=>k (.bool (wq x y))) False) False
 |.endswith=>jn ds (λa=>oP a.f9 (λy=>k (.bool (wy x y))) False) False
 |.index=>bk n (.builtin "str.index") (.str x::ds) k
 |.join=>bk n (.builtin "str.join") (.str x::ds) k
theorem WB{n:Nat}{m:Met}{ds:List D}(h:Ma n m x ds k):bk n (.builtin m.id) (.str x::ds) k:=by
 induction m<;>first
  |exact h
  |exact eG h (λe h=>Pz.1 e▸bk.lower h.1 h.2) dw
  |exact jJ (P:=λds=>bk n _ (.str x::ds) k) h (λa h=>dm h (λy q h=>D.l5 q▸bk.find h) dw) id
  |exact jJ (P:=λds=>bk n _ (.str x::ds) k) h (λa h=>dm h (λy q h=>D.l5 q▸bk.rfind h) dw) dw
  |exact jJ (P:=λds=>bk n _ (.str x::ds) k) h (λa h=>dm h (λy q h=>D.l5 q▸bk.startswith h) dw) dw
  |exact jJ (P:=λds=>bk n _ (.str x::ds) k) h (λa h=>dm h (λy q h=>D.l5 q▸bk.endswith h) dw) dw
end
noncomputable def pL(E:EP)(ρ:ay):List au->(List D->Prop)->Prop
 |[],k=>k []
 |e::r,k=>E ρ e λd=>pL E ρ r λds=>k (d::ds)
noncomputable def yq(T:TP)(ρ:ay)(o:Bool):List au->(Bool->Prop)->Prop
 |[],k=>k (!o)
 |x::r,k=>match r with
  |[]=>T ρ x k
  |_::_=>T ρ x λb=>match o with
   |true=>cM b (k ae) (yq T ρ o r k)
   |false=>cM b (yq T ρ o r k) (k aI)
noncomputable def ownOf(ρ:ay)(x:Str):Option (List D):=(ρ.lookup x).bind λb=>dO (c:=b.ctorIdx=1) λh=>Bd.own.elim b h λ_ l=>aa l
noncomputable def oh(ρ:ay)(x:Str):Option D:=(ρ.lookup x).bind λb=>dO (c:=b.ctorIdx=0) λh=>Bd.dat.elim b h aa
noncomputable def nameOf(e:au):Option Str:=dO (c:=e.ctorIdx=23) λh=>mJ e h λx _=>aa x
noncomputable def rZ(e:au):Bool:=!([8,9,10,11,22,25,26].any (e.ctorIdx==·))
noncomputable def BW(e:au):Bool:=!(e.ctorIdx==16)
noncomputable def keepR(x:Str)(l:List D)(ρ:ay):ay:=(x,.dat (.lst l))::je ρ
section
variable {n:Nat} {sc:bf} {ρ:ay}
theorem US(h:ownOf ρ x=aa l):∃a,ρ.lookup x=aa (.own a l):=
 (kt.mp h).elim λb h=>pZ h.2 λq=>Bd.own.elim (motive:=λb=>ρ.lookup x=aa b->∀q,Bd.own.elim b q (λ_ l=>aa l)=aa l->_) b q (λa l V _ h=>⟨a,V.trans (aW h▸rfl)⟩) h.1 q
theorem Bs(h:oh ρ x=aa d):ρ.lookup x=aa (.dat d):=
 (kt.mp h).elim λb h=>pZ h.2 λq=>Bd.dat.elim (motive:=λb=>ρ.lookup x=aa b->∀q,Bd.dat.elim b q aa=aa d->_) b q (λa V _ h=>V.trans (aW h▸rfl)) h.1 q
theorem H6(h:nameOf e=aa x):∃p,e=aS x p:=
 pZ h λq=>mJ (motive_1:=λe=>∀q,mJ e q (λx _=>aa x)=aa x->∃p,e=aS x p) e q (λy p _ h=>⟨p,aQ (SN · p) (aW h)⟩) q
theorem mQ{o:au}(h:BW o=ae)(name:Str)(ab:Env)(x:Sem ai):mN o name ab x=x:=
 cT h (by cases o<;>first|exact Eq.refl x|exact trivial)
theorem plainGet{s:au}(h:rZ s=ae)(o i:ai):GJ s aI o i=operate [o,i] (getItem o i):=
 congrFun (congrFun (cT h (by cases s<;>first|exact Eq.refl (λo i=>operate [o,i] (getItem o i))|exact trivial):GJ s aI=λo i=>operate [o,i] (getItem o i)) o) i
theorem gp.mono{p:Option au}{k k':Option Int->Prop}(h:gp n sc ρ p k)(Y:∀d,k d->k' d):gp n sc ρ p k':=by
 induction p with
 |none=>exact Y _ h
 |some e=>exact aj.mono h λd V=>V.elim λi V=>V.elim λe q=>⟨i,e,Y _ q⟩
end
section
variable (n:Nat) (sc:bf) (E:EP) (T:TP) (ρ:ay)
def ya(p:Option au)(k:Option Int->Prop):Prop:=match p with
 |none=>k ak
 |some e=>E ρ e λd=>oP d.int? (λi=>k (aa i)) False
def Mb(a b:D)(k:D->Prop):Prop:=oP a.oB (λl=>oP b.int? (λi=>bP (decide (0<=i)&&decide (i<1000)) (oP l[i.toNat]? k False) False) False) (b8 n a b k)
def Mc(a:D)(l u t:Option Int)(k:D->Prop):Prop:=oP a.f9 (λx=>bP (!(t.getD 1==0)) (x.length<=10000/\k (.str (d5 x l u t))) False) (oP a.uQ (λx=>bP (!(t==aa 0)) (x.length<=10000/\k (.lst (kI x l u t))) False) False)
def Md(v:au)(lo hi st:Option au)(k:D->Prop)(F:Prop):Prop:=oP ((nameOf v).bind (ownOf ρ)) (λ_=>F) (E ρ v λa=>ya E ρ lo λl=>ya E ρ hi λu=>ya E ρ st λt=>Mc a l u t k)
def Me(v s:au)(e:au)(k:D->Prop):Prop:=oP ((nameOf v).bind λx=>(ownOf ρ x).map (x,·)) (λx=>E (keepR x.1 x.2 ρ) e λd=>d.scalar=ae/\k d)
 (bP (rZ s) (E ρ v λa=>E ρ s λb=>Mb n a b k) (aj n sc ρ e k))
def Lb(fn:Str)(args:List au)(e:au)(k:D->Prop):Prop:=oP ((args.head?.bind nameOf).bind λx=>(ownOf ρ x).map (x,·)) (λx=>E (keepR x.1 x.2 ρ) e λd=>d.scalar=ae/\k d)
 (oP (CI.lookup fn) (λf=>bP (args.all cu&&sc.names.lookup fn==aa cj) (pL E ρ args λds=>L_ n f ds k) (aj n sc ρ e k)) (aj n sc ρ e k))
def Lc(o:au)(name:Str)(ap:Pos)(args:List au)(aM:Pos)(k:D->Prop)(F:Prop):Prop:=
 oP (Cp.lookup name) (λm=>bP (args.all cu&&(BW o&&(decide (args.length<30)&&(ap.endLine==aM.line)))) (E ρ o λa=>oP a.f9 (λx=>pL E ρ args λds=>Ma n m x ds k) False) F) F
def acv(c:Const)(k:D->Prop)(F:Prop):Prop:=match c with
 |.int i=>k (.int i)
 |.str x=>k (.str x)
 |.bool b=>k (.bool b)
 |.none=>k .none
 |.float _=>F|.complex _ _=>F|.bytes _=>F|.ellipsis=>F
def pUn(op:xw)(e:au)(k:D->Prop)(F:Prop):Prop:=match op with
 |.USub=>E ρ e λd=>oP d.int? (λi=>k (.int (-i))) False
 |.Not=>F|.UAdd=>F|.Invert=>F
noncomputable def Mf(op:pQ):Bool:=match op with
 |.Or=>ae
 |.And=>aI
def acw(op:pQ)(l:List au)(k:D->Prop)(F:Prop):Prop:=sD l (λx y=>match op with
 |.Or=>E ρ x λd=>ve d λb=>cM b (k d) (E ρ y k)
 |.And=>E ρ x λd=>oP d.bool? (λb=>cM b (E ρ y k) (k (.bool aI))) False) F
def Ks(e:au)(k:D->Prop):Prop:=
 CJ e (λop l p=>acw E ρ op l k (aj n sc ρ (.BoolOp op l p) k))
  (Dg e (λop x p=>pUn E ρ op x k (aj n sc ρ (.UnaryOp op x p) k))
   (x_ e (λl c p=>bP (l.all cu&&decide (l.length<=1000)) (pL E ρ l λds=>k (.tup ds)) (aj n sc ρ (b7 l c p) k))
    (Kq e (λl p=>bP (l.all cu&&decide (l.length<=1000)) (pL E ρ l λds=>k (.lst ds)) (aj n sc ρ (.List l p) k)) (aj n sc ρ e k))))
def Kt(e:au)(k:D->Prop):Prop:=
 K8 e (λl op r _=>E ρ l λa=>E ρ r λb=>L9 n op a b k)
  (CK e (λl V Y p=>jn V (λop=>jn Y (λr=>bP (!z_ op r) (E ρ l λa=>E ρ r λb=>sE n op a b λc=>k (.bool c)) False) False) (aj n sc ρ (iO l V Y p) k))
   (L8 e (λt b o _=>T ρ t λc=>cM c (E ρ b k) (E ρ o k)) (Ks n sc E ρ e k)))
def Ld(e:au)(k:D->Prop):Prop:=
 pX e (λx p=>oP (oh ρ x) (λd=>bP (ce x) (k d) False) (aj n sc ρ (aS x p) k))
  (K9 e (λc i p=>acv c k (aj n sc ρ (jF c i p) k))
   (xQ e (λf args V p=>De V (pX f (λfn np=>Lb n sc E ρ fn args (bU (aS fn np) args [] p) k)
    (Co f (λo name ap=>Lc n E ρ o name ap args p k (aj n sc ρ (bU (cC o name ap) args [] p) k)) (aj n sc ρ (bU f args [] p) k))) (aj n sc ρ (bU f args V p) k))
    (CM e (λv s p=>K_ s (λlo hi st q=>Md E ρ v lo hi st k (aj n sc ρ (dM v (.Slice lo hi st q) p) k)) (Me n sc E ρ v s (dM v s p) k)) (Kt n sc E T ρ e k))))
def Ku(e:au)(k:Bool->Prop):Prop:=
 pX e (λx p=>E ρ (aS x p) λd=>ve d k) (xQ e (λf a w p=>E ρ (bU f a w p) λd=>ve d k) (CM e (λv s p=>E ρ (dM v s p) λd=>ve d k) (bH n sc ρ e k)))
def stepT(e:au)(k:Bool->Prop):Prop:=
 CK e (λl V Y p=>jn V (λop=>jn Y (λr=>bP (!z_ op r) (E ρ l λa=>E ρ r λb=>sE n op a b k) False) False)
  (sD V (λW Z=>sD Y (λm r=>bP (!lastMarks [W,Z] [m,r]) (E ρ l λa=>E ρ m λb=>sE n W a b λc=>cM c (E ρ r λd=>sE n Z b d k) (k aI)) False) False) False))
  (Dg e (λop x p=>match op with
   |.Not=>T ρ x λb=>k (!b)
   |.USub=>bH n sc ρ (.UnaryOp .USub x p) k|.UAdd=>bH n sc ρ (.UnaryOp .UAdd x p) k|.Invert=>bH n sc ρ (.UnaryOp .Invert x p) k)
   (CJ e (λop l _=>yq T ρ (Mf op) l k) (Ku n sc E ρ e k)))
noncomputable def kX(n:Nat)(sc:bf):Nat->EP×TP
 |0=>(λρ e k=>aj n sc ρ e k,λρ e k=>bH n sc ρ e k)
 |f+1=>(Ld n sc (kX n sc f).1 (kX n sc f).2,stepT n sc (kX n sc f).1 (kX n sc f).2)
end
section
variable {n:Nat} {sc:bf} {E:EP} {T:TP} (O:Ok n sc E T) {ρ:ay}
include O
theorem d_:∀{l:List au} {k:List D->Prop},pL E ρ l k->cn n sc ρ l k:=by
 intro Y
 induction Y with
 |nil=>
  intro _ h
  exact h
 |cons e r V=>
  intro _ h
  exact(O.e h).mono λ_ h=>V h
theorem BX{op:pQ}:∀{l:List au} {k:Bool->Prop},yq T ρ (Mf op) l k->mW n sc ρ op l k
 |[],k,h=>by induction op<;>exact h
 |[x],k,h=>by
  induction op
  ·exact IJ ((O.t h).mono λb q=>by induction b<;>exact q)
  ·exact Jx ((O.t h).mono λb q=>by induction b<;>exact q)
 |x::y::r,k,h=>by
  induction op
  ·exact IJ ((O.t h).mono λb q=>q.ite (λq=>BX q) id)
  ·exact Jx ((O.t h).mono λb q=>q.ite id λq=>BX q)
theorem Bt{p:Option au}{k:Option Int->Prop}(h:ya E ρ p k):gp n sc ρ p k:=by
 induction p with
 |none=>exact h
 |some e=>exact(O.e h).mono λd q=>dm q (λi e q=>⟨i,D.kJ e,q⟩) dw
omit O in
theorem UT{o:Option Str}{x:Str×List D}(h:(o.bind λx=>(ownOf ρ x).map (x,·))=aa x):∃a,ρ.lookup x.1=aa (.own a x.2):=by
 obtain⟨y,V,h⟩:=kt.mp h
 obtain⟨l,hl,rfl⟩:=mz.mp h
 exact US hl
theorem JJ{o:Option Str}{x:Str×List D}(h:(o.bind λx=>(ownOf ρ x).map (x,·))=aa x)(q:E (keepR x.1 x.2 ρ) e λd=>d.scalar=ae/\k d):aj n sc ρ e k:=
 (UT h).elim λ_ r=>aj.mi r (O.e q)
omit O in
theorem WC{a b:D}(h:Mb n a b k):b8 n a b k:=
 dm h (λl Y h=>dm h (λi W h=>eG h (λc h=>dm h (λd hd r=>by
  have q:=(bB _ _).mp c
  have V:=cZ q.1;have Z:=cZ q.2
  have hl:=(ey.1 hd).1
  simp only[D.Kr Y,D.kJ W]
  exact b8.tup (Zm V) (Gu Z (by decide)) (E_ V (abu V hl)) hd r) dw) dw) dw) id
omit O in
theorem not_of{c:Bool}(h:(!c)=ae):c=aI:=by induction c;rfl;exact ft h
omit O in
theorem WD{a:D}{l u t:Option Int}(h:Mc a l u t k):uN a l u t k:=
 dm h (λx e h=>eG h (λc h=>D.l5 e▸⟨not_of c,h⟩) dw) λh=>dm h (λx e h=>eG h (λc h=>D.xR e▸⟨(λq=>by subst q;exact ft c),h⟩) dw) dw
theorem WE{v:au}{lo hi st:Option au}(h:Md E ρ v lo hi st k (aj n sc ρ (dM v (.Slice lo hi st sp) aM) k)):aj n sc ρ (dM v (.Slice lo hi st sp) aM) k:=
 dm h (λ_ _ h=>h) λh=>aj.slc ((O.e h).mono λa q=>(Bt O q).mono λl q=>(Bt O q).mono λu q=>(Bt O q).mono λt q=>WD q)
theorem WF{v s:au}(h:Me n sc E ρ v s (dM v s aM) k):aj n sc ρ (dM v s aM) k:=
 dm h (λ_ e h=>JJ O e h) λh=>eG h (λe h=>aj.sub ((O.e h).mono λa q=>(O.e q).mono λb q=>WC q) (plainGet e)) id
theorem UU{fn:Str}{args:List au}(h:Lb n sc E ρ fn args (bU (aS fn np) args [] aM) k):aj n sc ρ (bU (aS fn np) args [] aM) k:=
 dm h (λ_ e h=>JJ O e h) λh=>dm h (λf V h=>eG h (λq h=>
  have q:=(bB _ _).mp q
  aj.call (UR V (eq_of_beq q.2)) q.1 ((d_ O h).mono λ_=>WA)) id) id
theorem UV{o:au}{name:Str}{args:List au}(h:Lc n E ρ o name ap args aM k (aj n sc ρ (bU (cC o name ap) args [] aM) k)):aj n sc ρ (bU (cC o name ap) args [] aM) k:=
 dm h (λm em h=>eG h (λq h=>
  have q:=(bB _ _).mp q
  have V:=(bB _ _).mp q.2
  have Y:=(bB _ _).mp V.2
  aj.yj (To em) q.1 (λab=>mQ V.1 _ _ _) ⟨cZ Y.1,Y.2⟩ ((O.e h).mono λa r=>dm r (λx e r=>by obtain rfl:=D.l5 e;exact⟨rfl,(d_ O r).mono λ_=>WB⟩) dw)) id) id
theorem Tp(h:Ks n sc E ρ e k):aj n sc ρ e k:=
 IT (P:=λe=>aj n sc ρ e k) h (λop l p h=>uh (P:=λl=>aj n sc ρ (.BoolOp op l p) k) h (λx y h=>by
  induction op
  ·exact aj.abO ((O.e h).mono λd q=>dm q (λb e q=>⟨b,D.Wy e,q.ite O.e id⟩) dw)
  ·exact aj.or2 ((O.e h).mono λd q=>(xS q).elim λb V=>V.elim λY V=>V.elim λW V=>V.elim λh3 Z=>⟨b,Y,W,h3,Z.ite id O.e⟩)) id) λh=>
 JI (P:=λe=>aj n sc ρ e k) h (λop x p h=>by
  induction op<;>first|exact h|exact aj.un ((O.e h).mono λd q=>dm q (λi e q=>D.kJ e▸mo.neg q) dw)) λh=>
 Br (P:=λe=>aj n sc ρ e k) h (λl c p h=>eG h (λq h=>have q:=(bB _ _).mp q;aj.tup q.1 (cZ q.2) (d_ O h)) id) λh=>
 Tn (P:=λe=>aj n sc ρ e k) h (λl p h=>eG h (λq h=>have q:=(bB _ _).mp q;aj.lst q.1 (cZ q.2) (d_ O h)) id) id
theorem Tq(h:Kt n sc E T ρ e k):aj n sc ρ e k:=
 UN (P:=λe=>aj n sc ρ e k) h (λ_ _ _ _ h=>aj.bin ((O.e h).mono λa q=>(O.e q).mono λb=>Wz)) λh=>
 IU (P:=λe=>aj n sc ρ e k) h (λl V Y p h=>jJ (P:=λV=>aj n sc ρ (iO l V Y p) k) h (λop h=>jJ (P:=λY=>aj n sc ρ (iO l [op] Y p) k) h (λr h=>eG h (λq h=>
  aj.cmp ((O.e h).mono λa q=>(O.e q).mono λb=>xD) (not_of q)) dw) dw) id) λh=>
 Wx (P:=λe=>aj n sc ρ e k) h (λ_ _ _ _ h=>aj.Cz ((O.t h).mono λc q=>q.ite O.e O.e)) (Tp O)
theorem UW(h:Ld n sc E T ρ e k):aj n sc ρ e k:=
 rF (P:=λe=>aj n sc ρ e k) h (λx p h=>dm h (λd e h=>eG h (λok h=>aj.name (Bs e) ok h) dw) id) λh=>
 UO (P:=λe=>aj n sc ρ e k) h (λc i p h=>by induction c<;>first|exact h|exact aj.int h|exact aj.str h|exact aj.bool h|exact aj.none h) λh=>
 A3 (P:=λe=>aj n sc ρ e k) h (λf args V p h=>JH (P:=λV=>aj n sc ρ (bU f args V p) k) h (λh=>
  rF (P:=λf=>aj n sc ρ (bU f args [] p) k) h (λfn np h=>UU O h) λh=>H0 (P:=λf=>aj n sc ρ (bU f args [] p) k) h (λo nm ap h=>UV O h) id) id) λh=>
 IV (P:=λe=>aj n sc ρ e k) h (λv s p h=>UP (P:=λs=>aj n sc ρ (dM v s p) k) h (λlo hi st q h=>WE O h) (WF O)) (Tq O)
theorem Tr{k:Bool->Prop}(h:Ku n sc E ρ e k):bH n sc ρ e k:=
 rF (P:=λe=>bH n sc ρ e k) h (λ_ _ h=>bH.val ((O.e h).mono λd q=>xS q) (λ_ _=>rfl)) λh=>
 A3 (P:=λe=>bH n sc ρ e k) h (λ_ _ _ _ h=>bH.val ((O.e h).mono λd q=>xS q) (λ_ _=>rfl)) λh=>
 IV (P:=λe=>bH n sc ρ e k) h (λ_ _ _ h=>bH.val ((O.e h).mono λd q=>xS q) (λ_ _=>rfl)) id
theorem UX{k:Bool->Prop}(h:stepT n sc E T ρ e k):bH n sc ρ e k:=
 IU (P:=λe=>bH n sc ρ e k) h (λl V Y p h=>jJ (P:=λV=>bH n sc ρ (iO l V Y p) k) h
  (λop h=>jJ (P:=λY=>bH n sc ρ (iO l [op] Y p) k) h (λr h=>eG h (λq W=>bH.cmp ((O.e W).mono λa q=>(O.e q).mono λb=>xD) (not_of q)) dw) dw) λh=>
  uh (P:=λV=>bH n sc ρ (iO l V Y p) k) h (λZ H h=>uh (P:=λY=>bH n sc ρ (iO l [Z,H] Y p) k) h (λm r h=>eG h (λq W=>
   bH.X_ ((O.e W).mono λa q=>(O.e q).mono λb q=>(xD q).mono λc q=>q.ite (λq=>(O.e q).mono λ_=>xD) id) (not_of q)) dw) dw) dw) λh=>
 JI (P:=λe=>bH n sc ρ e k) h (λop x p h=>by induction op<;>first|exact h|exact bH.not (O.t h)) λh=>
 IT (P:=λe=>bH n sc ρ e k) h (λop l p h=>bH.XV (BX O h)) (Tr O)
end
theorem dD:∀f,Ok n sc (kX n sc f).1 (kX n sc f).2
 |0=>⟨λh=>h,λh=>h⟩
 |f+1=>⟨UW (dD f),UX (dD f)⟩
noncomputable def Dh(sc:bf)(line:Nat)(e:au):Option Str:=dO (c:=e.ctorIdx=23) λh=>mJ e h λx p=>bif (sc.names.lookup x==aa .local&&p.line==line) then aa x else ak
theorem cS{c:Bool}{y x:α}(h:(bif c then aa y else ak)=aa x):y=x/\c=ae:=by
 induction c with
 |false=>exact ns h
 |true=>exact⟨aW h,rfl⟩
theorem WG{line:Nat}(h:Dh sc line e=aa x):∃p,e=aS x p/\(sc.names.lookup x==aa .local&&p.line==line)=ae:=
 pZ h λq=>mJ (motive_1:=λe=>∀q,(mJ e q λx p=>bif (sc.names.lookup x==aa .local&&p.line==line) then aa x else ak)=aa x->∃p,e=aS x p/\(sc.names.lookup x==aa .local&&p.line==line)=ae) e q (λy p _ h=>by
  obtain⟨rfl,c⟩:=cS h
  exact⟨p,rfl,c⟩) q
noncomputable def yL(sc:bf)(line:Nat):List au->Option (List Str)
 |[]=>aa []
 |e::r=>(Dh sc line e).bind λx=>(yL sc line r).map (x::·)
noncomputable def uw(ts:List au):Nat:=(ts.head?.map (·.pos.line)).getD 0
theorem KS.isLocal{a b:Option fO}(h:KS a b):(a==aa .local)=(b==aa .local):=by
 rcases h with rfl|⟨rfl,rfl⟩<;>rfl
theorem Kv{line:Nat}{F:au->Option Str}(Y:∀x p,F (aS x p)=if (sc.names.lookup x==aa .local&&p.line==line)=ae then aa x else ak):∀{aH:List Str},yL sc line ts=aa aH->ts.filterMap F=aH/\mR ts aH/\aH.all (mine sc)=ae:=by
 induction ts with
 |nil=>intro aH h;obtain rfl:=aW h;exact⟨rfl,.nil,rfl⟩
 |cons e r V=>
  intro aH h
  obtain⟨x,W,h⟩:=kt.mp h
  obtain⟨l,q,rfl⟩:=mz.mp h
  obtain⟨p,rfl,c⟩:=WG W
  have V:=V q
  exact⟨(NS ((Y x p).trans (bo c))).trans (aQ _ V.1),.cons V.2.1,(bB _ _).mpr ⟨(wm _ _).mpr (.inl ((bB _ _).mp c).1),V.2.2⟩⟩
noncomputable def BY(ts es:List au)(aH:List Str):Bool:=decide (aH.length=es.length)&&(decide (aH.length=ts.length)&&(es.all cu&&(decide (es.length<=1000)&&decide aH.Nodup)))
noncomputable def JK(ts es:List au)(aH:List Str):Bool:=(ts.length==2||ts.length==3)&&(decide (aH.eraseDups.length=aH.length)&&(!es.all (Af 8)&&!es.all (constantsAlone 8)))
theorem WH{es:List au}{F:au->Bool}(V:∀e,F e=!cu e)(h:es.all cu=ae):es.any F=aI:=
 Fa.mpr λe Y q=>ft ((aQ (!·) (ee.1 h e Y)).symm.trans ((V e).symm.trans q))
theorem yb[BEq α][LawfulBEq α]{a b:α}(h:a=b):(a != b)=aI:=by subst h;exact aQ (!·) (beq_self_eq_true a)
theorem Di{a b:Bool}(h:a=aI)(q:b=aI):(a||b)=aI:=by subst h;exact q
theorem ZP{a b d e:Bool}{N:List Str}{Y:Sem (Option (List Str))}(V:N=aH)(W:a=aI)(Z:b=aI)(H:aH.length=n)(G:aH.eraseDups.length=aH.length)(hd:d=aI)(C:e=aI):
 (if a=ae then pure ak else if b=ae then pure ak else if (N.length != n||N.eraseDups.length != N.length)=ae then pure ak else if d=ae then pure ak else if e=ae then Y else pure (aa N))=(pure (aa aH):Sem (Option (List Str))):=by
 subst W Z hd C V;exact be λq=>ft ((Di (yb H) (yb G)).symm.trans q)
theorem Bu{es:List au}(B:ab.scope.kind=fk)(V:∀x,KS (ab.kindOf x) (sc.names.lookup x))(f:yL sc (uw ts) ts=aa aH)
 (h1:BY ts es aH=ae)(h2:JK ts es aH=ae):mM [b7 ts c p] (b7 es c' p') ab=pure (aa aH):=by
 have Y:=(bB _ _).mp h1;have W:=(bB _ _).mp Y.2;have q3:=(bB _ _).mp W.2
 have Z:=(bB _ _).mp h2;have H:=(bB _ _).mp Z.2;have G:=(bB _ _).mp H.2
 have e1:aH.length=es.length:=cZ Y.1
 have C:aH.length=ts.length:=cZ W.1
 have e3:ab.blockKind=fk:=by unfold QB;rw[B];rfl
 refine ZP ?_ (Di (Di (aQ (!·) Z.1) (yb (e1.symm.trans C))) (yb e3)) (WH (λe=>?_) q3.1) C (cZ H.1) (not_of G.1) (not_of G.2)
 ·exact(Kv (λx p=>by rw[<-KS.isLocal (V x)];rfl) f).1
 ·cases e<;>first|exact Eq.refl aI|exact Eq.refl ae
theorem IW{es:List au}(V:(ts.length==2||ts.length==3)=aI):mM [b7 ts c p] (b7 es c' p') ab=pure ak:=
 have g:∀{a b c:Bool} {X:Sem (Option (List Str))},a=aI->(if (!a||b||c)=ae then pure ak else X)=pure ak:=λe=>by subst e;rfl
 g V
theorem UY{es:List au}(h:es.all (Af 8)=ae):mM [b7 ts c p] (b7 es c' p') ab=pure ak:=
 have g:∀{a b c:Bool} {X:Sem (Option (List Str))},(if a=ae then pure ak else if b=ae then pure ak else if c=ae then pure ak else if es.all (Af 8)=ae then pure ak else X)=pure ak:=λ{a b c X}=>by
  rw[bo h];induction a<;>induction b<;>induction c<;>rfl
 g
noncomputable def ZQ(e:au):Option Pos:=dO (c:=e.ctorIdx=24) λh=>tr e h λl p=>bif l.isEmpty then aa p else ak
noncomputable def isNil(e:au):Bool:=(ZQ e).isSome
theorem IX(h:isNil e=ae):∃p,e=.List [] p:=
 (Option.isSome_iff_exists.mp h).elim λp h=>pZ h λq=>tr (motive_1:=λe=>∀q,(tr e q λl p=>bif l.isEmpty then aa p else ak)=aa p->∃p,e=.List [] p) e q (λl p _ h=>by
  induction l with
  |nil=>exact⟨p,rfl⟩
  |cons _ _=>exact ns h) q
noncomputable def vf(E:EP)(ρ:ay):List au->(List Bd->Prop)->Prop
 |[],k=>k []
 |e::r,k=>bP (isNil e) (∀a,vf E ρ r λbs=>k (.own a []::bs)) (E ρ e λd=>vf E ρ r λbs=>k (.dat d::bs))
def Mg(sc:bf)(E:EP)(ρ:ay)(ts es:List au)(k:ay->Prop)(F:Prop):Prop:=oP (yL sc (uw ts) ts) (λaH=>bP (BY ts es aH)
 (bP (JK ts es aH) (vf E ρ es λbs=>k (aH.zip bs++ρ)) (bP (es.all (Af 8)||!(ts.length==2||ts.length==3)) (vf E ρ es λbs=>k ((aH.zip bs).reverse++ρ)) F)) F) F
noncomputable abbrev SP:=ay->List bw->(Fl->ay->Prop)->Prop
structure yM(n:Nat)(sc:bf)(S:SP):Prop where
 s:∀{ρ b k},S ρ b k->aL n sc ρ b k
noncomputable def kg(S:SP)(r:List bw)(k:Fl->ay->Prop):Fl->ay->Prop:=λfl ρ=>match fl with
 |.next=>S ρ r k
 |.brk=>k .brk ρ
 |.cont=>k .cont ρ
 |.ret d=>k (.ret d) ρ
section
variable (n:Nat) (sc:bf) (E:EP) (T:TP) (S:SP) (ρ:ay)
noncomputable def pNames(ρ:ay):List au->List D->(ay->Prop)->Prop
 |[],ds,k=>match ds with
  |[]=>k ρ
  |_::_=>False
 |t::ts,ds,k=>match ds with
  |[]=>False
  |d::ds=>oP (nameOf t) (λx=>bP (mine sc x) (pNames ((x,.dat d)::ρ) ts ds k) False) False
def Kw(t cX:au)(k:ay->Prop)(F:au->au->Prop):Prop:=pX t (λx p=>bP (isNil cX) (bP (mine sc x) (∀a,k ((x,.own a [])::ρ)) (F (aS x p) cX)) (bP (rZ cX&&mine sc x) (E ρ cX λd=>k ((x,.dat d)::ρ)) (F (aS x p) cX)))
 (x_ t (λts c p=>x_ cX (λes c' p'=>Mg sc E ρ ts es k (F (b7 ts c p) (b7 es c' p'))) (bP (rZ cX&&ts.all cu) (E ρ cX λd=>oP d.oB (λds=>pNames sc ρ ts ds k) False) (F (b7 ts c p) cX))) (F t cX))
def Mh(op:lW)(A S F:Prop):Prop:=match op with
 |.Add=>A
 |.Sub=>S
 |.Mult=>F|.MatMult=>F|.Div=>F|.Mod=>F|.Pow=>F|.LShift=>F|.RShift=>F|.BitOr=>F|.BitXor=>F|.BitAnd=>F|.FloorDiv=>F
theorem WI{P:lW->Prop}{A S:Prop}(h:Mh op A S F)(V:A->P .Add)(Y:S->P .Sub)(h3:F->P op):P op:=by
 cases op<;>first|exact V h|exact Y h|exact h3 h
def Mi(t:au)(op:lW)(e:au)(k:ay->Prop)(F:au->lW->Prop):Prop:=pX t (λx p=>bP (ce x&&mine sc x) (Mh op
 (oP ((oh ρ x).bind D.int?) (λi=>E ρ e λd=>oP d.int? (λj=>k ((x,.dat (.int (i+j)))::ρ)) False) (F (aS x p) .Add))
 (oP ((oh ρ x).bind D.int?) (λi=>E ρ e λd=>oP d.int? (λj=>k ((x,.dat (.int (i-j)))::ρ)) False) (F (aS x p) .Sub))
 (F (aS x p) op)) (F (aS x p) op)) (F t op)
noncomputable def ownAt(ρ:ay)(x:Str):Option (ag×List D):=(ρ.lookup x).bind λb=>dO (c:=b.ctorIdx=1) λh=>Bd.own.elim b h λa l=>aa (a,l)
def Le(e:au)(k:ay->Prop)(F:au->Prop):Prop:=xQ e (λf args V cp=>Co f (λo m ap=>pX o (λx np=>De V (jn args (λa=>oP (ownAt ρ x) (λq=>bP (ce x&&((m==("append":Str))&&(cu a&&(ap.endLine==cp.line))))
 (E ρ a λd=>q.2.length<=100000/\k ((x,.own q.1 (q.2++[d]))::ρ)) (F (bU (cC (aS x np) m ap) [a] [] cp))) (F (bU (cC (aS x np) m ap) [a] [] cp))) (F (bU (cC (aS x np) m ap) args [] cp)))
 (F (bU (cC (aS x np) m ap) args V cp))) (F (bU (cC o m ap) args V cp))) (F (bU f args V cp))) (F e)
def Lf(e:bw)(f:List au->au->Pos->Prop)(F:Prop):Prop:=dP (c:=e.ctorIdx=5) (λh=>Fq e h f) F
theorem UZ{P:bw->Prop}{e:bw}{f:List au->au->Pos->Prop}(h:Lf e f F)(Y:∀a b c,f a b c->P (e_ a b c))(W:F->P e):P e:=
 gQ h (λq=>Fq (motive_2:=λe=>∀q,Fq e q f->P e) e q (λa b c _=>Y a b c) q) W
def Lg(e:bw)(f:au->lW->au->Pos->Prop)(F:Prop):Prop:=dP (c:=e.ctorIdx=7) (λh=>ES e h f) F
theorem U0{P:bw->Prop}{e:bw}{f:au->lW->au->Pos->Prop}(h:Lg e f F)(Y:∀a b c d,f a b c d->P (.AugAssign a b c d))(W:F->P e):P e:=
 gQ h (λq=>ES (motive_2:=λe=>∀q,ES e q f->P e) e q (λa b c d _=>Y a b c d) q) W
def Lh(e:bw)(f:au->List bw->List bw->Pos->Prop)(F:Prop):Prop:=dP (c:=e.ctorIdx=12) (λh=>Gv e h f) F
theorem U1{P:bw->Prop}{e:bw}{f:au->List bw->List bw->Pos->Prop}(h:Lh e f F)(Y:∀a b c d,f a b c d->P (.If a b c d))(W:F->P e):P e:=
 gQ h (λq=>Gv (motive_2:=λe=>∀q,Gv e q f->P e) e q (λa b c d _=>Y a b c d) q) W
def Li(e:bw)(f:Option au->Pos->Prop)(F:Prop):Prop:=dP (c:=e.ctorIdx=3) (λh=>Fs e h f) F
theorem U2{P:bw->Prop}{e:bw}{f:Option au->Pos->Prop}(h:Li e f F)(Y:∀a b,f a b->P (.Return a b))(W:F->P e):P e:=
 gQ h (λq=>Fs (motive_2:=λe=>∀q,Fs e q f->P e) e q (λa b _=>Y a b) q) W
def Lj(e:bw)(f:au->Pos->Prop)(F:Prop):Prop:=dP (c:=e.ctorIdx=24) (λh=>F5 e h f) F
theorem U3{P:bw->Prop}{e:bw}{f:au->Pos->Prop}(h:Lj e f F)(Y:∀a b,f a b->P (.Expr a b))(W:F->P e):P e:=
 gQ h (λq=>F5 (motive_2:=λe=>∀q,F5 e q f->P e) e q (λa b _=>Y a b) q) W
def Kx(e:bw)(f:Pos->Prop)(F:Prop):Prop:=dP (c:=e.ctorIdx=27) (λh=>E0 e h f) F
theorem Ts{P:bw->Prop}{e:bw}{f:Pos->Prop}(h:Kx e f F)(Y:∀a,f a->P (.Continue a))(W:F->P e):P e:=
 gQ h (λq=>E0 (motive_2:=λe=>∀q,E0 e q f->P e) e q (λa _=>Y a) q) W
def Lk(e:bw)(f:au->Option au->Pos->Prop)(F:Prop):Prop:=dP (c:=e.ctorIdx=19) (λh=>Ft e h f) F
theorem U4{P:bw->Prop}{e:bw}{f:au->Option au->Pos->Prop}(h:Lk e f F)(Y:∀a b c,f a b c->P (.Assert a b c))(W:F->P e):P e:=
 gQ h (λq=>Ft (motive_2:=λe=>∀q,Ft e q f->P e) e q (λa b c _=>Y a b c) q) W
def Ky(st:bw)(bW:List bw)(k:Fl->ay->Prop):Prop:=
 Lh st (λt b o _=>T ρ t λc=>cM c (S ρ b (kg S bW k)) (S ρ o (kg S bW k)))
  (Kx st (λ_=>k .cont ρ) (Lk st (λt _ _=>T ρ t λc=>c=ae/\S ρ bW k) (aO n sc ρ st (kg S bW k))))
def Ll(b:List bw)(k:Fl->ay->Prop):Prop:=match b with
 |[]=>k .next ρ
 |st::bW=>Lf st (λts v p=>jn ts (λt=>Kw sc E ρ t v (λaC=>S aC bW k) λt v=>aO n sc ρ (e_ [t] v p) (kg S bW k)) (aO n sc ρ (e_ ts v p) (kg S bW k)))
  (Li st (λv p=>oP v (λe=>oP ((nameOf e).bind λx=>(ownAt ρ x).map (x,·)) (λq=>bP (ce q.1) (k (.ret (.lst q.2.2)) ((q.1,.dat (.lst q.2.2))::ρ)) False) (E ρ e λd=>k (.ret d) ρ)) (k (.ret .none) ρ))
   (Lj st (λe p=>Le E ρ e (λaC=>S aC bW k) λe=>aO n sc ρ (.Expr e p) (kg S bW k))
    (Lg st (λt op e p=>Mi sc E ρ t op e (λaC=>S aC bW k) λt op=>aO n sc ρ (.AugAssign t op e p) (kg S bW k)) (Ky n sc T S ρ st bW k))))
noncomputable def pS:Nat->SP
 |0=>λρ b k=>aL n sc ρ b k
 |f+1=>λρ b k=>Ll n sc (kX n sc 40).1 (kX n sc 40).2 (pS f) ρ b k
end
section
variable {n:Nat} {sc:bf} {E:EP} {T:TP} {S:SP} (O:Ok n sc E T) (P:yM n sc S) {ρ:ay} {k:Fl->ay->Prop} {bW:List bw}
theorem BZ(P:yM n sc S){fl:Fl}(h:kg S bW k fl ρ):pI n sc bW k fl ρ:=by
 induction fl<;>first|exact h|exact P.s h
theorem gl(P:yM n sc S){st:bw}(h:aO n sc ρ st (kg S bW k)):aL n sc ρ (st::bW) k:=.cons (h.mono λ_ _=>BZ P)
theorem Cq{v:au}(h:rZ v=ae)(t:Option au)(l:Nat)(ab:Env):iy v t l ab=pure aI:=
 cT h (by cases v<;>first|exact Eq.refl (pure aI)|exact trivial)
theorem JL{v:au}(h:rZ v=ae)(ts:List au)(c:Nat)(p:Pos)(ab:Env):mM [b7 ts c p] v ab=pure ak:=
 cT h (by cases v<;>first|exact Eq.refl (pure ak)|exact trivial)
theorem A4{k k':ay->Prop}(V:∀ρ,k ρ->k' ρ):∀{ts:List au} {ds:List D} {ρ:ay},pNames sc ρ ts ds k->ds.length=ts.length/\kM n sc ρ ts ds k'
 |[],[],_,h=>⟨rfl,V _ h⟩
 |[],_::_,_,h=>h.elim
 |_::_,[],_,h=>h.elim
 |t::ts,d::ds,ρ,h=>dm h (λx e h=>eG h (λm r=>
  ⟨aQ (·+1) (A4 V r).1,by
   refine(H6 e).elim λp Y=>?_;subst Y
   exact fJ.name m (A4 V r).2⟩) dw) dw
theorem IY{q:ag×List D}(h:ownAt ρ x=aa q):ρ.lookup x=aa (.own q.1 q.2):=
 (kt.mp h).elim λb h=>pZ h.2 λr=>Bd.own.elim (motive:=λb=>ρ.lookup x=aa b->∀r,Bd.own.elim b r (λa l=>aa (a,l))=aa q->_) b r (λa l V _ h=>V.trans (aW h▸rfl)) h.1 r
theorem aj.acy{q:ag×List D}{o:Option Str}(h:(o.bind λx=>(ownAt ρ x).map (x,·))=aa (x,q)):o=aa x/\ρ.lookup x=aa (.own q.1 q.2):=by
 obtain⟨y,V,h⟩:=kt.mp h
 obtain⟨l,hl,h⟩:=mz.mp h
 obtain⟨rfl,rfl⟩:=wD h
 exact⟨V,IY hl⟩
theorem Kz{i:Int}(q:(oh ρ x).bind D.int?=aa i):ρ.lookup x=aa (.dat (.int i)):=by
 obtain⟨d,hd,h⟩:=kt.mp q
 exact D.kJ h▸Bs hd
include O in
theorem n8{k k':List Bd->Prop}(V:∀b,k b->k' b):∀{es:List au},vf E ρ es k->f7 n sc ρ es k'
 |[],h=>V _ h
 |e::r,h=>eG h (λq h=>by
  obtain⟨p,rfl⟩:=IX q
  exact cK.lst (l:=[]) rfl (ck _) (fQ λa=>n8 (λ_=>V _) (h a))) λh=>cK.dat ((O.e h).mono λd q=>n8 (λ_=>V _) q)
include O P
theorem WJ{es:List au}{tp ep:Pos}(h:Mg sc E ρ ts es (λaC=>S aC bW k) (aO n sc ρ (e_ [b7 ts c tp] (b7 es c' ep) p) (kg S bW k))):aL n sc ρ (e_ [b7 ts c tp] (b7 es c' ep) p::bW) k:=by
 refine dm h (λaH en h=>eG h (λY h=>?_) (gl P)) (gl P)
 have q:=Y
 unfold BY at q
 simp only[bB,decide_eq_true_eq] at q
 have a:=Kv (F:=Dh sc (uw ts)) (λx p=>by
  show (bif (sc.names.lookup x==aa .local&&p.line==uw ts) then aa x else ak)=_
  cases (sc.names.lookup x==aa .local&&p.line==uw ts)<;>rfl) en
 refine eG h (λV h=>.cons (aO.AF q.1 q.2.2.1 a.2.2 q.2.2.2.2 q.2.2.2.1 (λ_=>rfl) (λab W Z=>Bu W Z en Y V) (n8 O (λ_ r=>P.s r) h))) λh=>eG h (λV h=>.cons (aO.rr a.2.1 q.1 q.2.2.1 a.2.2 q.2.2.2.1 (λ_=>rfl) (λab _ _=>?_) (n8 O (λ_ r=>P.s r) h))) (gl P)
 rcases(wm _ _).mp V with r|r
 ·exact UY r
 ·exact IW (not_of r)
theorem Tt{t v:au}(h:Kw sc E ρ t v (λaC=>S aC bW k) λt v=>aO n sc ρ (e_ [t] v p) (kg S bW k)):aL n sc ρ (e_ [t] v p::bW) k:=
 rF (P:=λt=>aL n sc ρ (e_ [t] v p::bW) k) h (λx np h=>eG h (λq h=>eG h (λm Y=>by
  refine(IX q).elim λW V=>?_;subst V
  exact .cons (aO.uf m (Cq rfl _ _) (cK.lst (l:=[]) rfl (by decide) (fQ λa=>P.s (Y a))))) (gl P)) λh=>eG h (λm h=>
  have m:=(bB _ _).mp m
  .cons (aO.assign m.2 (Cq m.1 _ _) ((O.e h).mono λd q=>P.s q))) (gl P)) λh=>
 Br (P:=λt=>aL n sc ρ (e_ [t] v p::bW) k) h (λts c tp h=>Br (P:=λv=>aL n sc ρ (e_ [b7 ts c tp] v p::bW) k) h (λes c' ep h=>WJ O P h) λh=>eG h (λm h=>
  have q:=(bB _ _).mp m
  .cons (aO.HG (λab=>Cq q.1 (aa (b7 ts c tp)) p.line ab) (λab _ _=>JL q.1 _ _ _ ab) ((O.e h).mono λd r=>dm r (λds e r=>D.Kr e▸
   have u:=A4 (n:=n) (k':=λaC=>pI n sc bW k .next aC) (λ_ r=>P.s r) r
   fJ.tup q.2 u.1 u.2) dw))) (gl P)) (gl P)
theorem WK{t:au}(h:Mi sc E ρ t op e (λaC=>S aC bW k) λt op=>aO n sc ρ (.AugAssign t op e p) (kg S bW k)):aL n sc ρ (.AugAssign t op e p::bW) k:=
 rF (P:=λt=>aL n sc ρ (.AugAssign t op e p::bW) k) h (λx np h=>eG h (λm h=>
  have m:=(bB _ _).mp m
  WI (P:=λop=>aL n sc ρ (.AugAssign (aS x np) op e p::bW) k) h
   (λh=>dm h (λi V h=>.cons (aO.X5 (Kz V) m.1 m.2 ((O.e h).mono λd q=>dm q (λj e q=>⟨j,D.kJ e,P.s q⟩) dw))) (gl P))
   (λh=>dm h (λi V h=>.cons (aO.X6 (Kz V) m.1 m.2 ((O.e h).mono λd q=>dm q (λj e q=>⟨j,D.kJ e,P.s q⟩) dw))) (gl P))
   (gl P)) (gl P)) (gl P)
theorem U5(h:Le E ρ e (λaC=>S aC bW k) λe=>aO n sc ρ (.Expr e p) (kg S bW k)):aL n sc ρ (.Expr e p::bW) k:=
 A3 (P:=λe=>aL n sc ρ (.Expr e p::bW) k) h (λf args V cp h=>H0 (P:=λf=>aL n sc ρ (.Expr (bU f args V cp) p::bW) k) h (λo m ap h=>
  rF (P:=λo=>aL n sc ρ (.Expr (bU (cC o m ap) args V cp) p::bW) k) h (λx np h=>JH (P:=λV=>aL n sc ρ (.Expr (bU (cC (aS x np) m ap) args V cp) p::bW) k) h (λh=>
   jJ (P:=λargs=>aL n sc ρ (.Expr (bU (cC (aS x np) m ap) args [] cp) p::bW) k) h (λa h=>dm h (λq H h=>eG h (λb G=>by
    have Y:=(bB _ _).mp b
    have W:=(bB _ _).mp Y.2
    have Z:=(bB _ _).mp W.2
    obtain rfl:=eq_of_beq W.1
    exact .cons (aO.xi (m:=cO.append) (IY H) Y.1 ((bB _ _).mpr ⟨Z.1,rfl⟩) (λab=>mQ rfl _ _ _) ⟨(by decide:1<30),Z.2⟩ (λab=>rfl)
     (hZ ((O.e G).mono λd r=>fQ ⟨_,kN.append r.1,P.s r.2⟩)))) (gl P)) (gl P)) (gl P)) (gl P)) (gl P)) (gl P)) (gl P)
theorem Tu{st:bw}(h:Ky n sc T S ρ st bW k):aL n sc ρ (st::bW) k:=
 U1 (P:=λst=>aL n sc ρ (st::bW) k) h (λt b o p h=>.cons (aO.iff ((O.t h).mono λc q=>q.ite (λq=>(P.s q).mono λ_ _=>BZ P) (λq=>(P.s q).mono λ_ _=>BZ P)))) λh=>
 Ts (P:=λst=>aL n sc ρ (st::bW) k) h (λp h=>.cons (aO.cont h)) λh=>
 U4 (P:=λst=>aL n sc ρ (st::bW) k) h (λt m p h=>.cons (aO.assert ((O.t h).mono λc q=>⟨q.1,P.s q.2⟩))) (gl P)
theorem U6{b:List bw}(h:Ll n sc E T S ρ b k):aL n sc ρ b k:=by
 induction b with
 |nil=>exact aL.nil h
 |cons st bW=>
  exact UZ (P:=λst=>aL n sc ρ (st::bW) k) h (λts v p h=>jJ (P:=λts=>aL n sc ρ (e_ ts v p::bW) k) h (λt h=>Tt O P h) (gl P)) λh=>
   U2 (P:=λst=>aL n sc ρ (st::bW) k) h (λv p h=>by
    induction v with
    |none=>exact .cons (aO.V_ h)
    |some e=>
     have h:oP ((nameOf e).bind _) _ _:=h
     refine dm h (λq V h=>eG h (λm Y=>?_) dw) λh=>.cons (aO.ret (O.e h))
     have r:=aj.acy V
     obtain⟨np,rfl⟩:=H6 r.1
     exact .cons (aO.X7 r.2 m Y)) λh=>
   U3 (P:=λst=>aL n sc ρ (st::bW) k) h (λe p h=>U5 O P h) λh=>
   U0 (P:=λst=>aL n sc ρ (st::bW) k) h (λt op e p h=>WK O P h) (Tu O P)
end
theorem Lo:∀f,yM n sc (pS n sc f)
 |0=>⟨λh=>h⟩
 |f+1=>⟨U6 (dD 40) (Lo f)⟩
theorem cw(f:Nat){b:List bw}{k:Fl->ay->Prop}(h:pS n sc f ρ b k):aL n sc ρ b k:=(Lo f).s h
theorem bD(h:(kX n sc 40).1 ρ e k):aj n sc ρ e k:=(dD 40).e h
theorem b_{k:Bool->Prop}(h:(kX n sc 40).2 ρ e k):bH n sc ρ e k:=(dD 40).t h
noncomputable def fp(i:Nat):ix:=match tp i with
 |some (.FunctionDef _ a _ _ _ _ _ _ _ _)=>a
 |_=>⟨[],[],ak,[],[],ak,[]⟩
noncomputable def fb(i:Nat):List bw:=match tp i with
 |some (.FunctionDef _ _ b _ _ _ _ _ _ _)=>b
 |_=>[]
noncomputable def fs(i:Nat):bf:=match tp i with
 |some (.FunctionDef _ _ _ _ _ _ s _ _ _)=>s
 |_=>{kind:=.module,names:=[],isGenerator:=aI,isCoroutine:=aI}
structure FnAt(fa i:Nat)(nm:Str)(aH:List Str):Prop where
 def_:r_ fa nm nm (fp i) (fb i) (fs i)
 binds:∀doc pm bA ct an (s:av) vs,vs.length=aH.length->fP s (gm nm nm (fp i) (fb i) (fs i) .none .none doc pm bA ct an) ⟨vs,[]⟩ (aH.zip vs)
 ok:(g4 aH (fs i) []&&((fs i).names.all (λx=>!(x.2==.free))&&(d4 (fs i)).isNone))=ae
 nm:aH=(fp i).args.map (·.arg)
theorem bJ.of{fa:Nat}(F:FnAt fa i nm aH){ds:List D}(hl:aH.length=ds.length)(h:pS n (fs i) 300 (bindR aH (ds.map Bd.dat)) (fb i) (fK k)):bJ (n+2) fa ds k:=
 have q:=(bB _ _).mp F.ok
 have V:=(bB _ _).mp q.2
 bJ.intro F.def_ F.nm (λdoc pm bA ct an s vs e=>F.binds doc pm bA ct an s vs (e.trans hl.symm)) q.1 hl V.1 V.2 (cw _ h)
theorem ZR:FnAt 269 24 "_law_over" ["one","other","column"]:=⟨⟨λw=>⟨_,_,_,_,_,rfl,_,_,_,_,rfl,rfl,rfl,rfl⟩⟩,λ_ _ _ _ _ _ vs h=>pC (λ_ _ _=>by rfl) vs h,by rfl,by rfl⟩
theorem ZT:FnAt 276 25 "_law_apart" ["one","other"]:=⟨⟨λw=>⟨_,_,_,_,_,rfl,_,_,_,_,rfl,rfl,rfl,rfl⟩⟩,λ_ _ _ _ _ _ vs h=>jd (λ_ _=>by rfl) vs h,by rfl,by rfl⟩
theorem qc:FnAt 87 12 "int_divmod" ["a","b"]:=⟨⟨λw=>⟨_,_,_,_,_,rfl,_,_,_,_,rfl,rfl,rfl,rfl⟩⟩,λ_ _ _ _ _ _ vs h=>jd (λ_ _=>by rfl) vs h,by rfl,by rfl⟩
theorem dz.acz{I:ag}{t:au}{af:List D}{fp V:List ag}{K:dp->Prop}(W:dz w A g I t af fp wr J)(G:∀h h',K h->(∀b∈V,∀o,h.get? b=aa o->h'.get? b=aa o)->K h')(hd:∀b∈wr,b∉V):
 dz w A g I t af (fp++V) wr (λi h=>J i h/\K h) where
 sub:=λb C=>cQ.mpr (.inl (W.sub b C))
 frame:=λi h h' ⟨a,b⟩ Y=>⟨W.frame i h h' a λc Z=>Y c (cQ.mpr (.inl Z)),G h h' b λc Z=>Y c (cQ.mpr (.inr Z))⟩
 nc:=λi h ⟨a,_⟩=>W.nc i h a
 item:=λi d s Q E hi ⟨a,b⟩ H=>W.item i d s Q E hi a λv h' tk B f Y=>H v h' tk B ⟨f,G _ _ b λc Z o e=>Y c o (λq=>hd c q Z) e⟩ Y
 done:=λs Q E ⟨a,_⟩ H=>W.done s Q E a H
 self:=λi s Q E ⟨a,_⟩ H=>W.self i s Q E a H
section
variable {n:Nat} {sc:bf} {ρ:ay}
def Inner(n:Nat)(aF:bf)(Z W co:au)(Y:List au)(F:List D->D->List D)(d:D)(aC:ay):Prop:=
 bK n aF aC Z W λaf=>∃f:D->Option D,af.length<=100/\(∀a∈af,c0 n aF aC Z a λV=>eF V/\Sub aC V/\fM n aF V Y λb=>if b then aj n aF V co (λy=>f a=aa y) else f a=ak)/\∀l,F l d=l++af.filterMap f
theorem H7(f:D->Option D):∀(Y l:List D),Y.foldl (λl d=>l++(f d).toList) l=l++Y.filterMap f:=by
 intro W
 induction W with
 |nil=>
  intro l
  exact(cR l).symm
 |cons d r V=>
  intro l
  rw[iq,V,ny]
  cases f d<;>simp
theorem Yp{t1 sO t2 V:au}{B Z:List au}(hs:∀ab x,im V ab x=pure x):kL 900 (.ListComp co [⟨t1,sO,B,0⟩,⟨t2,V,Z,0⟩] ow aM) t1 sO B (newList []) (pU w) w n aF (Inner n aF t2 V co Z)
 (λD ab=>do
  let x <-eval V ab
  standAt V.pos
  let x <-im V ab x
  let _ <-runOwn (.compStart (.ListComp co [⟨t1,sO,B,0⟩,⟨t2,V,Z,0⟩] ow aM) 1 (<-holding [x] (pyIter x)) D ab) ab
  pure ()) where
 ok:=rB
 cls:=⟨_,rfl⟩
 LS:=λ_ _ _=>rfl
 Ke:=λ_ _ _ _=>rfl
 turn:=λit D ab=>by
  refine aQ (bind (standAt sO.pos)) (funext λ_=>aQ (bind (pyNext it)) (funext λr=>?_))
  induction r with
  |none=>rfl
  |some v=>
   refine aQ (bind (wj t1 it v)) (funext λ_=>aQ (bind (Aj t1 ab v)) (funext λ_=>aQ (bind _) (funext λok=>?_)))
   cases ok with
   |false=>rfl
   |true=>simp only[if_true,bind_assoc,pure_bind];rfl
 den:=λ_ _ _=>rfl
 under:=λ_ _ _ _=>rfl
 make:=(CA (n:=n) (co:=co) (bp:=t1) (iter:=sO) (bV:=B) (aF:=aF) (ow:=ow) (aM:=aM) (w:=w)).make
 add:=λF d aC D A cenv sa ga fp wr wc J i l s g g0 I t af E hP hd R Fx W hex C hT hl=>by
  obtain⟨aB,H⟩:=C.act
  refine aJ (bg (hP.run w A cenv s g H.st R H.cI E) (λx aA iX=>jb (rP (hs _ _) (aJ (eH (eg iX (λit aT P=>?_) λ_ _ x=>x))))))
  refine ba λN_=>?_
  obtain⟨I2,DP,sP,J2,KP,bb,rfl,lw,gd,W2,DQ,vg,Mj,hlen2,f,hl2,hf,hF⟩:=P
  apply N_
  have C2:=C.pure (rB (w:=w)) Fx W lw gd
  have off:∀{a:ag} {o:Obj},s.heap.get? a=aa o->bb a=ak->a∉DP:=λ{a o} e1 e2 q=>by
   rcases(Mj a q).2.2 with q|⟨o',q⟩
   ·exact nomatch e1.symm.trans (vg a q).1
   ·exact nomatch e2.symm.trans q
  refine H.gy.elim λmL sI=>?_
  refine ba λN_=>?_
  obtain⟨oL,_,_,eL,_⟩:=id sI
  obtain⟨oD,eD,_⟩:=C.acc
  apply N_
  have cl:∀x c,cenv.cells.lookup x=aa c->(∃o,s.heap.get? c=aa o)/\c∉DP:=λx c hc=>by
   refine(H.cP x c hc).elim λh1 C_=>C_.elim λacA _=>acA.elim λv acB=>acB.elim λo acC=>acC.elim λe d=>?_
   exact⟨⟨o,e⟩,off e (lw.old _ _ e h1 nofun)⟩
  have CT:∀b∈sP,b∉fp:=λb Y q=>by
   obtain⟨o,e⟩:=hex _ _ C.it b q
   exact nomatch e.symm.trans (vg b Y).1
  have qg:∀a,s.heap.get? a=ak->sa.heap.get? a=ak:=λa e=>by
   induction q:sa.heap.get? a with
   |none=>rfl
   |some o=>obtain⟨o',e'⟩:=H.nx.there a o q nofun;exact nomatch e.symm.trans e'
  have oT:nW sa cenv aF D (DP++fp) sP (sP++wc):=by
   refine⟨Fx.Dn,Fx.DL,Fx.DC,λq=>?_,λb Y=>qg b (vg b Y).1,λq=>?_,λx c hc hk q=>?_,λx c hc q=>?_,λb Y=>?_,λb Y=>cQ.mpr (.inl Y),λb Y=>cQ.mpr ((cQ.mp Y).imp (W2.sub b) (Fx.s2 b))⟩
   ·exact(cQ.mp q).elim (off eD C2.off) Fx.Df
   ·exact(cQ.mp q).elim (off eL (lw.old _ _ eL H.ii nofun)) Fx.fL
   ·exact(cQ.mp q).elim (cl x c hc).2 (Fx.fC x c hc hk)
   ·obtain⟨⟨o,e⟩,_⟩:=cl x c hc
    exact nomatch e.symm.trans (vg c q).1
   ·exact(cQ.mp Y).elim (λq=>(Mj b q).1) (Fx.fT b)
  have W3:=W2.acz (K:=λh=>J i h) (W.frame i) CT
  have u7:∀R':um->av->Prop,(∀s' g',d8 w sa ga cenv aF aC D g0 wc J (pU w) i (F l d) s' g'->R' (.ok .next) s')->codeAny (model PG w) A (jG (.ListComp co [⟨t1,sO,B,0⟩,⟨t2,V,Z,0⟩] ow aM) 1 (.ref I2) (.ref D) cenv) R' aT:=λR' hR'=>by
   refine HJ (N:=10000) (lv:=1) (t:=t2) (iter:=V) (bV:=Z) (F:=λl d=>l++(f d).toList) (T:=λd DR=>aj n aF DR co λy=>f d=aa y) (l0:=l) rfl rfl rfl (rB (w:=w)) oT W3 hd R (⟨C2.act,⟨DQ,C2.it⟩,C2.acc,C2.off,λ_ _ e=>e,λb Y=>(cQ.mp Y).elim (λq=>⟨(vg b q).2,(W2.nc _ _ DQ b q).elim λo q_=>q_.elim λe _=>⟨o,e⟩⟩) (C2.wn b)⟩:d8 w sa ga cenv aF aC D bb (sP++wc) (λk h=>J2 k h/\J i h) (pU w) 0 l aT bb) (λj=>?_) (λa ha=>c0.mono (hf a ha) λDR ⟨h1,h2,h3⟩=>⟨h1,h2,fM.mono h3 λb Y=>?_⟩) (λj a DR l' s' g' E' ha hT oV lG G=>?_) λs' g' j G h' tk jU=>?_
   ·rw[H7,bR]
    exact aD (fV hl (aD (vD f _) (aD (OF ..) hl2))) (by decide)
   ·induction b with
    |true=>exact Y
    |false=>
     intro l';rw[(Y:f a=ak)];exact cR l'
   ·refine ba λN_=>?_
    obtain⟨o,e1,ys,nn,eo,hr⟩:=G.acc
    subst eo
    apply N_
    refine aJ (bg (hT.run w A cenv s' g' G.st R G.cI E') (λx oQ ⟨mY,y,ly,mX,Dc,hy⟩=>?_))
    have hs:ys.size=l'.length:=by have:=hr.1;exact this
    refine aJ (zg (items:=ys) ⟨nn,ly.get G.st e1 (.inl (by simp)) nofun⟩ (λh' ⟨n',hp⟩ hs'=>a8 ⟨mY,(G.pure (rB (w:=w)) oT W3 ly mX).stored (tk:=oQ.toks) (rB (w:=w)) oT W3 oV (λb Y=>hs'.2 b Y) hp ⟨_,_,rfl,?_⟩⟩) (by rw[hs];have:sizeLine=2^24:=rfl;exact bd (aV lG (by decide))))
    rw[hy,s9]
    exact(hr.mono ly.gg).append (aP.cons Dc aP.nil)
   ·obtain⟨dW,H'⟩:=G.act
    refine G.acc.elim λMX acD=>acD.elim λeD' aD'=>?_
    refine hR' _ g' ⟨⟨dW,H'.rR (wr:=sP) jU (λa ha=>⟨.inl (oT.wn a ha),(G.wn a (oT.s1 a ha)).1,W2.nc j _ G.it.1 a ha⟩) (λq=>oT.fL (cQ.mpr (.inl (W2.sub _ q)))) oT.wC λx b e a ha=>?_⟩,W.frame i _ _ G.it.2 λb Y o e=>jU b o (λq=>CT b q Y) e,⟨MX,jU D MX (λq=>oT.Df (cQ.mpr (.inl (W2.sub D q))):D∉sP) eD',?_⟩,G.off,λa o e=>G.up a o (lw.gg a o (C.up a o e)),λb Y=>?_⟩
    ·rw[(hd.aB H' x b e).2.2] at ha;exact nomatch ha
    ·rw[hF l,<-H7];exact aD'
    ·obtain⟨q,o,e⟩:=G.wn b (cQ.mpr (.inr Y))
     exact⟨q,o,jU b o (λq'=>CT b q' (Fx.s2 b Y)) e⟩
  refine aJ (wpAny_runOwn (env:=cenv) ?_)
  rw[mark_none]
  exact E1 (g:=⟨t2,V,Z,0⟩) rfl rfl rfl rfl (u7 _ λs' g' G=>a8 ⟨g',G⟩) (W2.self 0 aT _ _ DQ (u7 _ λs' g' G=>a8 ⟨g',G⟩))
theorem aj.Tv{B Z t2 H:au}{Y W:List au}(ni:dC aF sc=ae)(sS:∀ab x,im Z ab x=pure x)(DZ:∀ab x,im H ab x=pure x)
 (h:bK n sc ρ B Z λaf=>af.length<=9/\∃f:D->List D,(∀d∈af,(f d).length<=100/\c0 n aF (cY aF ρ) B d λaC=>eF aC/\Sub (cY aF ρ) aC/\fM n aF aC Y λb=>if b then Inner n aF t2 H co W (λl d=>l++f d) d aC else f d=[])/\k (.lst (af.flatMap f))):
 aj n sc ρ (.ListComp co [⟨B,Z,Y,0⟩,⟨t2,H,W,0⟩] aF aM) k:=by
 refine aj.CB (λw=>Yp DZ) (λab=>QA ..) ni sS (kl:=λl=>k (.lst l)) (gu.mono (bK.cc h) λaf ⟨hl,f,hf,hk⟩=>⟨λl d=>l++f d,λi=>?_,λd hd=>c0.mono (hf d hd).2 λaC ⟨C,h2,h3⟩=>⟨C,h2,fM.mono h3 λb hb=>?_⟩,?_⟩) λw g D o l gD _ ha hk=>⟨_,ha.rep gD,hk⟩
 ·have G:∀(V l:List D),(∀d∈V,(f d).length<=100)->(V.foldl (λl d=>l++f d) l).length<=l.length+100*V.length:=λV=>by
   induction V with
   |nil=>intro l _;exact bv _
   |cons d r ih=>
    intro l h
    have C:=ih (l++f d) λd hd=>h d (bM _ hd)
    have h2:=h d bi
    rw[bR] at C
    simp only[iq,gF];exact XE (by assumption) (by assumption)
  have C:=G (af.take i) [] λd hd=>(hf d (mB hd)).1
  simp only[gG,wl] at C
  omega
 ·induction b with
  |true=>exact hb
  |false=>
   intro l;show l++f d=l;rw[(hb:f d=[])];exact cR l
 ·have G:∀(V l:List D),V.foldl (λl d=>l++f d) l=l++V.flatMap f:=λV=>by
   induction V with
   |nil=>intro l;exact(cR l).symm
   |cons d r ih=>intro l;simp only[iq,ih,Fd,c6]
  rw[G];exact hk
end
def Inj{α:Type}(c:α->D):Prop:=∀x y,c x=c y->x=y
theorem Inj.int:Inj D.int:=λ_ _ h=>by injection h
theorem Inj.str:Inj D.str:=λ_ _ h=>by injection h
noncomputable def oC{α:Type}(c:α->D)(f:α->Option D)(d:D):Option D:=open Classical in if h:∃x,c x=d then f (PI h) else .none
theorem rW{c:α->D}(V:Inj c){f:α->Option D}(x:α):oC c f (c x)=f x:=by
 have h:∃y,c y=c x:=⟨x,rfl⟩
 exact(dif_pos h).trans (aQ f (V _ _ (Op h)))
section
variable {n:Nat} {sc:bf} {ρ:ay} {k:D->Prop}
theorem rK:eF ((x,.dat d)::cY aF ρ):=eF.cap.cons
theorem ub(h:(ρ.lookup x).isNone=ae):Sub ρ ((x,.dat d)::ρ):=λy b e=>by
 by_cases q:y=x
 ·subst q;replace h:=e▸h;exact ft h
 ·exact(fi q).trans e
noncomputable def jN(aF:bf)(ρ:ay)(x:Str):Bool:=mine aF x&&((cY aF ρ).lookup x).isNone
noncomputable def Yq(aF sc:bf)(ρ:ay)(x:Str):Bool:=dC aF sc&&jN aF ρ x
theorem dj.of{c:α->D}(V:Inj c){r:α->ay}{t:au}(Y:∀a (k:ay->Prop),k (r a)->c0 n aF (cY aF ρ) t (c a) k)(hd:∀a,eF (r a)/\Sub (cY aF ρ) (r a))
 (h:bK n sc ρ t iter λaf=>∃(xs:List α) (g:α->Option D),af=xs.map c/\(∀a∈xs,fM n aF (r a) bV λb=>if b then aj n aF (r a) co (λy=>g a=aa y) else g a=ak)/\k (.lst (xs.filterMap g))):dj n sc ρ aF t iter co bV k:=
 h.mono λaf W=>by obtain⟨xs,g,e,Z,H⟩:=W;exact⟨oC c g,λd G=>by
  subst e
  obtain⟨a,C,rfl⟩:=bL.mp G
  rw[rW V]
  exact Y a _ ⟨(hd a).1,(hd a).2,Z a C⟩,by
  simp only[e,zD,show (oC c g∘c)=g from funext λa=>rW V a];exact H⟩
def vi(n:Nat)(aF:bf)(ρ:ay)(t co:au)(b:Bool)(f:D):Prop:=bH n aF ρ t λq=>q=b/\(b=ae->aj n aF ρ co λy=>y=f)
theorem vi.all{t:au}{b:Bool}{f:D}(h:vi n aF ρ t co b f):fM n aF ρ [t] λq=>if q then aj n aF ρ co (λy=>(if b=ae then aa f else aU)=aa y) else (if b=ae then aa f else aU)=aU:=
 bH.mono h λq V=>by
  obtain⟨e,h⟩:=V
  subst e
  induction q with
  |true=>exact(h rfl).mono λy e=>e▸rfl
  |false=>exact rfl
theorem yr(b:α->Bool)(f:α->D):∀xs:List α,xs.filterMap (λa=>if b a=ae then aa (f a) else aU)=(xs.filter b).map f
 |[]=>rfl
 |a::r=>by cases V:b a<;>simp[V,yr b f r]
section
variable {α:Type} {c c1 c2:α->D} {co iter t:au} {x y:Str} {p p1 p2:Pos} {m:Nat} {aF:bf}
theorem mm(V:jN aF ρ x=ae)(a:D):(∀k:ay->Prop,k ((x,.dat a)::cY aF ρ)->c0 n aF (cY aF ρ) (aS x p) a k)/\eF ((x,.dat a)::cY aF ρ)/\Sub (cY aF ρ) ((x,.dat a)::cY aF ρ):=
 have q:=(bB _ _).mp V;⟨λk h=>.name q.1 h,rK,ub q.2⟩
theorem sF(Z:(jN aF ρ x&&(jN aF ρ y&&!(y==x)))=ae)(a b:D):(∀k:ay->Prop,k ((y,.dat b)::(x,.dat a)::cY aF ρ)->c0 n aF (cY aF ρ) (b7 [aS x p1,aS y p2] m p) (.tup [a,b]) k)/\eF ((y,.dat b)::(x,.dat a)::cY aF ρ)/\Sub (cY aF ρ) ((y,.dat b)::(x,.dat a)::cY aF ρ):=
 have q:=(bB _ _).mp Z
 have V:=(bB _ _).mp q.1
 have Y:=(bB _ _).mp q.2
 have W:=(bB _ _).mp Y.1
 ⟨λk h=>.tup rfl rfl (jE (.name V.1 (jE (.name W.1 (pD h))))),rK.cons,(ub V.2).trans (ub (by
  rw[fi (λe=>by have:=Y.2;rw[e,beq_self_eq_true] at this;exact ft this)];exact W.2))⟩
inductive MY(c:α->D)(E:α->(D->Prop)->Prop)(k:D->Prop)(af:List D):Prop
 |mk (xs:List α) (f:α->D) (e:af=xs.map c) (h:∀a∈xs,E a λy=>y=f a) (hk:k (.lst (xs.map f)))
inductive MZ(c:α->D)(E:α->Bool->D->Prop)(k:D->Prop)(af:List D):Prop
 |mk (xs:List α) (b:α->Bool) (f:α->D) (e:af=xs.map c) (h:∀a∈xs,E a (b a) (f a)) (hk:k (.lst ((xs.filter b).map f)))
theorem dj.mx(Y:Inj c)(V:jN aF ρ x=ae)(h:bK n sc ρ (aS x p) iter (MY c (λa=>aj n aF ((x,.dat (c a))::cY aF ρ) co) k)):dj n sc ρ aF (aS x p) iter co [] k:=
 .of Y (λa k=>(mm V (c a)).1 k) (λa=>(mm (n:=n) (p:=p) V (c a)).2) (h.mono λaf W=>by obtain⟨xs,f,e,Z,H⟩:=W;exact⟨xs,aa∘f,e,λa G=>(Z a G).mono λy e=>e▸rfl,Oq▸H⟩)
theorem dj.fx(Y:Inj c)(V:jN aF ρ x=ae)(h:bK n sc ρ (aS x p) iter (MZ c (λa=>vi n aF ((x,.dat (c a))::cY aF ρ) t co) k)):dj n sc ρ aF (aS x p) iter co [t] k:=
 .of Y (λa k=>(mm V (c a)).1 k) (λa=>(mm (n:=n) (p:=p) V (c a)).2) (h.mono λaf W=>by obtain⟨xs,b,f,e,Z,H⟩:=W;exact⟨xs,_,e,λa G=>(Z a G).all,by rw[yr];exact H⟩)
theorem dj.mt(Y:Inj λa=>D.tup [c1 a,c2 a])(V:(jN aF ρ x&&(jN aF ρ y&&!(y==x)))=ae)(h:bK n sc ρ (b7 [aS x p1,aS y p2] m p) iter (MY (λa=>D.tup [c1 a,c2 a]) (λa=>aj n aF ((y,.dat (c2 a))::(x,.dat (c1 a))::cY aF ρ) co) k)):dj n sc ρ aF (b7 [aS x p1,aS y p2] m p) iter co [] k:=
 .of Y (λa k=>(sF V (c1 a) (c2 a)).1 k) (λa=>(sF (n:=n) (p:=p) (p1:=p1) (p2:=p2) (m:=m) V (c1 a) (c2 a)).2) (h.mono λaf W=>by obtain⟨xs,f,e,Z,H⟩:=W;exact⟨xs,aa∘f,e,λa G=>(Z a G).mono λy e=>e▸rfl,Oq▸H⟩)
theorem dj.ft(Y:Inj λa=>D.tup [c1 a,c2 a])(V:(jN aF ρ x&&(jN aF ρ y&&!(y==x)))=ae)(h:bK n sc ρ (b7 [aS x p1,aS y p2] m p) iter (MZ (λa=>D.tup [c1 a,c2 a]) (λa=>vi n aF ((y,.dat (c2 a))::(x,.dat (c1 a))::cY aF ρ) t co) k)):dj n sc ρ aF (b7 [aS x p1,aS y p2] m p) iter co [t] k:=
 .of Y (λa k=>(sF V (c1 a) (c2 a)).1 k) (λa=>(sF (n:=n) (p:=p) (p1:=p1) (p2:=p2) (m:=m) V (c1 a) (c2 a)).2) (h.mono λaf W=>by obtain⟨xs,b,f,e,Z,H⟩:=W;exact⟨xs,_,e,λa G=>(Z a G).all,by rw[yr];exact H⟩)
end
theorem aj.comp{bp:au}(V:dC aF sc=ae)(hs:∀ab x,im iter ab x=pure x)(h:dj n sc ρ aF bp iter co bV k):aj n sc ρ (.ListComp co [⟨bp,iter,bV,0⟩] aF aM) k:=.Ug V hs h
theorem bK.chars{t:au}{k:List D->Prop}(h:aj n sc ρ e λd=>∃x:Str,d=.str x/\x.length<=10000/\k ((chars x).map D.str)):bK n sc ρ t e k:=bK.str (h.mono λd V=>by obtain⟨x,e,hl,Y⟩:=V;exact⟨x,e,hl,by
 have:(x.cps.toList.map λc=>D.str ⟨#[c]⟩)=(Mine.Internal.chars x).map D.str:=by unfold Mine.Internal.chars;rw[cJ];rfl
 rw[this];exact Y⟩)
theorem w_(c:β->D):∀(l:List β),jj (l.map c)=l.zipIdx.map λp=>.tup [.int p.2,c p.1]:=λl=>by
 unfold jj
 simp only[List.zipIdx_map,cJ];rfl
theorem aj.Sg{c:α->D}(B:Inj c)(Z:sc.names.lookup (a6 "sorted")=aa cj)(hx:Yq aF sc ρ x=ae)(hs:∀ab v,im iter ab v=pure v)
 (h:bK n sc ρ (aS x p) iter λaf=>∃(xs:List α) (f:α->Str),af=xs.map c/\xs.length<60/\(∀a∈xs,aj n aF ((x,.dat (c a))::cY aF ρ) co λy=>y=.str (f a))/\∀ys:List Str,ys.Nodup->sortedS ys=ae->(∀y,y∈ys<->∃a∈xs,f a=y)->k (.lst (ys.map D.str))):
 aj n sc ρ (bU (aS (a6 "sorted") np) [.SetComp co [⟨aS x p,iter,[],0⟩] aF eY] [] aM) k:=by
 have q:=(bB _ _).mp hx
 refine aj.HZ Z rfl (p6.comp q.1 hs (gu.mono (bK.cc h) λaf ⟨xs,f,e,hl,hf,hk⟩=>⟨?_,λl d=>dG l (((oC c (λa=>aa (.str (f a))) d).bind D.f9).getD ""),λl d=>Bn _ _,λd hd=>?_,?_⟩))
 ·subst e;rw[aR];exact bd (eK hl (by simp))
 ·subst e
  obtain⟨a,ha,rfl⟩:=bL.mp hd
  exact(mm q.2 (c a)).1 _ ⟨(mm (n:=n) (p:=p) q.2 (c a)).2.1,(mm (n:=n) (p:=p) q.2 (c a)).2.2,(hf a ha).mono λy e=>⟨f a,e,λl=>by
   show dG l (((oC c (λa=>aa (D.str (f a))) (c a)).bind D.f9).getD "")=_
   rw[rW B];rfl⟩⟩
 ·subst e
  have e1:∀(xs:List α) (l:List Str),(xs.map c).foldl (λl d=>dG l (((oC c (λa=>aa (.str (f a))) d).bind D.f9).getD "")) l=xs.foldl (λl a=>dG l (f a)) l:=λxs=>by
   induction xs with
   |nil=>intro l;rfl
   |cons a r V=>intro l;simp only[d7,iq,iq,rW B];exact V _
  have e2:∀(xs:List α) (l:List Str),l.Nodup->(xs.foldl (λl a=>dG l (f a)) l).Nodup/\(∀y,y∈xs.foldl (λl a=>dG l (f a)) l<->y∈l\/∃a∈xs,f a=y)/\(xs.foldl (λl a=>dG l (f a)) l).length<=l.length+xs.length:=λxs=>by
   induction xs with
   |nil=>intro l h;exact⟨h,λy=>by simp,bv _⟩
   |cons a r V=>
    intro l h
    have Z:=(V (dG l (f a)) (rU h)).1;have G:=(V (dG l (f a)) (rU h)).2.1;have h3:=(V (dG l (f a)) (rU h)).2.2
    refine⟨Z,λy=>?_,?_⟩
    ·rw[iq,G,IQ]
     constructor
     ·rintro((q|q)|⟨b,Y,H⟩)
      ·exact .inl q
      ·exact .inr ⟨a,bi,q.symm⟩
      ·exact .inr ⟨b,bM _ Y,H⟩
     ·rintro(q|⟨b,Y,H⟩)
      ·exact .inl (.inl q)
      ·rcases bT.mp Y with rfl|Y
       ·exact .inl (.inr H.symm)
       ·exact .inr ⟨b,Y,H⟩
    ·have:=Bn l (f a)
     exact BH (by assumption) (by assumption)
  rw[e1]
  refine(e2 xs [] jX).elim λZ C=>C.elim λG h3=>?_
  refine⟨by simp only[wl] at h3;exact abp (by assumption) (by assumption),λys hp hn W=>hk ys hn W λy=>?_⟩
  rw[hp.mem_iff,G];simp
end
theorem xT{a b:D}{c:Bool}{k:Bool->Prop}(h:gz a b=aa c)(V:k c):sE n .Lt a b k:=by
 show iT a b (λi j=>k (decide (i<j))) (bq n .Lt a b k)
 unfold iT
 induction Y:a.int? with
 |none=>exact bq.gz h V
 |some i=>
  show oP b.int? _ _
  induction W:b.int? with
  |none=>exact bq.gz h V
  |some j=>
   obtain rfl:=D.kJ Y;obtain rfl:=D.kJ W
   have h:aa (decide (i<j))=aa c:=h
   show k (decide (i<j))
   rw[aW h];exact V
theorem Lp{f:Nat}(h:oh ρ x=aa d)(V:ce x=ae)(Y:k d):(kX n sc (f+1)).1 ρ (aS x p) k:=by
 show oP (oh ρ x) (λd=>bP (ce x) (k d) False) (aj n sc ρ (aS x p) k)
 exact h▸(bP.t V Y)
section
variable {n:Nat} {sc:bf} {ρ:ay} {t:au} {b o r:List bw} {aM:Pos} {k:Fl->ay->Prop}
theorem aL.take(h:bH n sc ρ t λc=>c=ae)(hr:aL n sc ρ b (pI n sc r k)):aL n sc ρ (.If t b o aM::r) k:=.cons (aO.iff (h.mono λc e=>by subst e;exact hr))
theorem aL.els(h:bH n sc ρ t λc=>c=aI)(hr:aL n sc ρ o (pI n sc r k)):aL n sc ρ (.If t b o aM::r) k:=.cons (aO.iff (h.mono λc e=>by subst e;exact hr))
theorem aL.skip(h:bH n sc ρ t λc=>c=aI)(hr:aL n sc ρ r k):aL n sc ρ (.If t b [] aM::r) k:=.els h (.nil hr)
end
theorem bJ.vj{fa:Nat}(F:FnAt fa i nm aH){ds:List D}(hl:aH.length=ds.length)(h:aL n (fs i) (bindR aH (ds.map Bd.dat)) (fb i) (fK k)):bJ (n+2) fa ds k:=
 have q:=(bB _ _).mp F.ok
 bJ.intro F.def_ F.nm (λdoc pm bA ct an s vs e=>F.binds doc pm bA ct an s vs (e.trans hl.symm)) q.1 hl ((bB _ _).mp q.2).1 ((bB _ _).mp q.2).2 h
theorem yc(i j:Nat):((i:Int)+j)/2=(((i+j)/2:Nat):Int):=rfl
structure jk(up:Nat->Bool)(lo hi i j:Nat):Prop where
 a:lo<=i
 b:i<=j
 c:j<=hi
 u:∀q,lo<=q->q<i->up q=ae
 d:∀q,j<=q->q<hi->up q=aI
section
variable {n:Nat} {sc:bf}
set_option tactic.hygienic true in
theorem yt{t:au}{B:List bw}{K:Fl->ay->Prop}{W:Nat->Nat->ay}{up:Nat->Bool}{lo:Nat}(H:lo<=hi)(hT:∀i j,bH n sc (W i j) t λb=>b=decide (i<j))(mono:∀i j,i<=j->j<hi->up j=ae->up i=ae)
 (hB:∀i j m,(i+j)/2=m->m<j->j<=hi->∀K:Fl->ay->Prop,(∀ρ,cM (up m) (Sub (W (m+1) j) ρ) (Sub (W i m) ρ)->K .next ρ)->aL n sc (W i j) B K)
 (hk:∀r,jk up lo hi r r->K .next (W r r)):aO n sc (W lo hi) (.While t B [] aM) K:=by
 refine aO.while (λm aC=>∃i j,aC=W i j/\jk up lo hi i j/\m=j-i) (hi-lo) ⟨lo,hi,rfl,⟨bv _,H,bv _,λq G C=>aZ G (kH.mpr C),λq G C=>aZ G (kH.mpr C)⟩,rfl⟩ λm aC ⟨i,j,e1,V,e2⟩=>?_
 subst e1 e2
 refine(hT i j).mono λb e=>?_
 subst e
 by_cases h:i<j
 ·have Y:=half h
  rw[bo (eP h)]
  refine hB i j _ rfl Y.2 V.c _ λρ hs=>?_
  generalize (i+j)/2=m at Y hs
  have Z:=cg Y.2 V.c
  cases e:up m<;>rw[e] at hs
  ·exact⟨_,hs,_,Oz Y.1 Y.2,i,_,rfl,⟨V.a,Y.1,bd Z,V.u,λq q1 f=>qJ.mpr λr=>te (e.symm.trans (mono _ q q1 f r))⟩,rfl⟩
  ·exact⟨_,hs,_,zo h (jW Y.1),_,j,rfl,⟨v6 (aD V.a Y.1),Y.2,V.c,λq q1 f=>mono q _ (o_ f) Z e,V.d⟩,rfl⟩
 ·rw[be (by rw[eW h];nofun)]
  obtain rfl:=lc V.b (de.mp h)
  exact hk i V
end
noncomputable def yu(l:List D)(x:D)(V:Bd)(i j:Nat):ay:=([("a",.dat (.lst l)),("x",.dat x),("lo",.dat (.int i)),("hi",.dat (.int j)),("key",V)]:List (Str×Bd))
theorem yO{a:Nat}(h:a<=1000):a<=100000:=aD h (by simp)
theorem Tw{x hd:D}{up:Nat->Bool}{lo:Nat}(hl:l.length<=1000)(V:lo<=hi)(Z:hi<=l.length)(hh:hd=.int hi\/hd=.none/\hi=l.length)(H:∀q d,l[q]?=aa d->gz x d=aa (!up q))(mono:∀i j,i<=j->j<hi->up j=ae->up i=ae)
 (C:∀r:Nat,jk up lo hi r r->k (.int r)):aL 78 (fs 15) ([("a",.dat (.lst l)),("x",.dat x),("lo",.dat (.int lo)),("hi",.dat hd),("key",(.dat .none))]:List (Str×Bd)) (fb 15) (fK k):=by
 refine aL.skip (b_ (eW (dU.mpr (dA _)))) ?_
 have G:aL 78 (fs 15) (yu l x (.dat .none) lo hi) ((fb 15).drop 2) (fK k):=aL.take (b_ rfl) (.cons (yt V (λi j=>b_ (decide_eq_decide.mpr eJ)) mono (λi j m f h2 h3 K Y=>by
  have W:=cg h2 (aD h3 Z)
  refine cw 1 ?_
  show aL _ _ _ _ _
  rw[yc,f]
  refine cw 3 (b8.oz (yO hl) (dt W) (xT (H m _ (dt W)) ?_))
  cases e:up m<;>rw[e] at Y
  ·exact Y _ (cA.sub ⟨rfl,rfl,rfl,rfl,rfl,trivial⟩)
  ·exact Y _ (cA.sub ⟨rfl,rfl,rfl,rfl,rfl,trivial⟩)
  ) λr B=>aL.nil (cw 1 (C r B))))
 rcases hh with rfl|⟨rfl,rfl⟩
 ·exact aL.skip (b_ rfl) G
 ·exact aL.take (b_ rfl) (cw 1 (bQ (aV hl (by simp)) (aL.nil (aL.sub G (cA.sub ⟨rfl,rfl,rfl,rfl,rfl,trivial⟩)))))
theorem Hm{x hd:D}{bz:List ag}{up:Nat->Bool}{lo:Nat}(hl:l.length<=1000)(V:lo<=hi)(C:hi<=l.length)(hh:hd=.int hi\/hd=.none/\hi=l.length)(Y:∀q d,l[q]?=aa d->∃r,φ d=aa r/\gz x r=aa (!up q))(mono:∀i j,i<=j->j<hi->up j=ae->up i=ae)
 (f:∀r:Nat,jk up lo hi r r->k (.int r)):aL 78 (fs 15) ([("a",.dat (.lst l)),("x",.dat x),("lo",.dat (.int lo)),("hi",.dat hd),("key",(.fn bz φ))]:List (Str×Bd)) (fb 15) (fK k):=by
 refine aL.skip (b_ (eW (dU.mpr (dA _)))) ?_
 have G:aL 78 (fs 15) (yu l x (.fn bz φ) lo hi) ((fb 15).drop 2) (fK k):=aL.els (bH.Bj rfl rfl rfl) (.cons (yt V (λi j=>b_ (decide_eq_decide.mpr eJ)) mono (λi j m h1 h2 h3 K W=>by
  have H:=cg h2 (aD h3 C)
  refine cw 1 ?_
  show aL _ _ _ _ _
  rw[yc,h1]
  refine(Y m _ (dt H)).elim λr Z=>Z.elim λhr Y=>?_
  refine cw 3 (aj.Cb rfl rfl rfl (by simp) (bD (b8.oz (yO hl) (dt H) ⟨r,hr,xT Y ?_⟩)))
  cases e:up m<;>rw[e] at W
  ·exact W _ (cA.sub ⟨rfl,rfl,rfl,rfl,rfl,trivial⟩)
  ·exact W _ (cA.sub ⟨rfl,rfl,rfl,rfl,rfl,trivial⟩)
  ) λr B=>aL.nil (cw 1 (f r B))))
 rcases hh with rfl|⟨rfl,rfl⟩
 ·exact aL.skip (b_ rfl) G
 ·exact aL.take (b_ rfl) (cw 1 (bQ (aV hl (by simp)) (aL.nil (aL.sub G (cA.sub ⟨rfl,rfl,rfl,rfl,rfl,trivial⟩)))))
theorem H8{x hd:D}{up:Nat->Bool}{lo:Nat}(hl:l.length<=1000)(V:lo<=hi)(Z:hi<=l.length)(hh:hd=.int hi\/hd=.none/\hi=l.length)(H:∀q d,l[q]?=aa d->gz d x=aa (up q))(mono:∀i j,i<=j->j<hi->up j=ae->up i=ae)
 (C:∀r:Nat,jk up lo hi r r->k (.int r)):aL 78 (fs 16) ([("a",.dat (.lst l)),("x",.dat x),("lo",.dat (.int lo)),("hi",.dat hd),("key",(.dat .none))]:List (Str×Bd)) (fb 16) (fK k):=by
 refine aL.skip (b_ (eW (dU.mpr (dA _)))) ?_
 have G:aL 78 (fs 16) (yu l x (.dat .none) lo hi) ((fb 16).drop 2) (fK k):=aL.take (b_ rfl) (.cons (yt V (λi j=>b_ (decide_eq_decide.mpr eJ)) mono (λi j m f h2 h3 K Y=>by
  have W:=cg h2 (aD h3 Z)
  refine cw 1 ?_
  show aL _ _ _ _ _
  rw[yc,f]
  refine cw 3 (b8.oz (yO hl) (dt W) ?_)
  refine Lp rfl rfl (xT (H m _ (dt W)) ?_)
  cases e:up m<;>rw[e] at Y
  ·exact Y _ (cA.sub ⟨rfl,rfl,rfl,rfl,rfl,trivial⟩)
  ·exact Y _ (cA.sub ⟨rfl,rfl,rfl,rfl,rfl,trivial⟩)
  ) λr B=>aL.nil (cw 1 (C r B))))
 rcases hh with rfl|⟨rfl,rfl⟩
 ·exact aL.skip (b_ rfl) G
 ·exact aL.take (b_ rfl) (cw 1 (bQ (aV hl (by simp)) (aL.nil (aL.sub G (cA.sub ⟨rfl,rfl,rfl,rfl,rfl,trivial⟩)))))
theorem Sh{x hd:D}{bz:List ag}{up:Nat->Bool}{lo:Nat}(hl:l.length<=1000)(V:lo<=hi)(C:hi<=l.length)(hh:hd=.int hi\/hd=.none/\hi=l.length)(Y:∀q d,l[q]?=aa d->∃r,φ d=aa r/\gz r x=aa (up q))(mono:∀i j,i<=j->j<hi->up j=ae->up i=ae)
 (f:∀r:Nat,jk up lo hi r r->k (.int r)):aL 78 (fs 16) ([("a",.dat (.lst l)),("x",.dat x),("lo",.dat (.int lo)),("hi",.dat hd),("key",(.fn bz φ))]:List (Str×Bd)) (fb 16) (fK k):=by
 refine aL.skip (b_ (eW (dU.mpr (dA _)))) ?_
 have G:aL 78 (fs 16) (yu l x (.fn bz φ) lo hi) ((fb 16).drop 2) (fK k):=aL.els (bH.Bj rfl rfl rfl) (.cons (yt V (λi j=>b_ (decide_eq_decide.mpr eJ)) mono (λi j m h1 h2 h3 K W=>by
  have H:=cg h2 (aD h3 C)
  refine cw 1 ?_
  show aL _ _ _ _ _
  rw[yc,h1]
  refine(Y m _ (dt H)).elim λr Z=>Z.elim λhr Y=>?_
  refine cw 3 (aj.Cb rfl rfl rfl (by simp) (bD (b8.oz (yO hl) (dt H) ⟨r,hr,Lp rfl rfl (xT Y ?_)⟩)))
  cases e:up m<;>rw[e] at W
  ·exact W _ (cA.sub ⟨rfl,rfl,rfl,rfl,rfl,trivial⟩)
  ·exact W _ (cA.sub ⟨rfl,rfl,rfl,rfl,rfl,trivial⟩)
  ) λr B=>aL.nil (cw 1 (f r B))))
 rcases hh with rfl|⟨rfl,rfl⟩
 ·exact aL.skip (b_ rfl) G
 ·exact aL.take (b_ rfl) (cw 1 (bQ (aV hl (by simp)) (aL.nil (aL.sub G (cA.sub ⟨rfl,rfl,rfl,rfl,rfl,trivial⟩)))))
noncomputable def pF:List Str:=["a","x","lo","hi","key"]
theorem CN:rY 105 "bisect_right" "bisect_right" (fp 15) (fb 15) (fs 15):=⟨λw=>⟨_,_,_,_,_,_,_,_,_,_,_,_,rfl,rfl,rfl,rfl,Bh rfl,by ac_rfl,_,_,_,_,rfl,rfl,rfl,rfl⟩⟩
theorem CO:rY 114 "bisect_left" "bisect_left" (fp 16) (fb 16) (fs 16):=⟨λw=>⟨_,_,_,_,_,_,_,_,_,_,_,_,rfl,rfl,rfl,rfl,Bh rfl,by ac_rfl,_,_,_,_,rfl,rfl,rfl,rfl⟩⟩
theorem yv{l:List α}(h:l.length=2):∃a b,l=[a,b]:=by
 cases l with
 |nil=>cases h
 |cons a r=>cases r with
  |nil=>cases h
  |cons b r=>induction r with
   |nil=>exact⟨a,b,rfl⟩
   |cons _ _=>cases h
theorem yw{l:List α}(h:l.length=4):∃a b c d,l=[a,b,c,d]:=by
 cases l with
 |nil=>cases h
 |cons a r=>cases r with
  |nil=>cases h
  |cons b r=>
   obtain⟨c,d,rfl⟩:=yv (pi (pi h))
   exact⟨a,b,c,d,rfl⟩
section
variable {l:List D} {x hd:D} {lo hi:Nat} {φ:D->Option D} {up:Nat->Bool} {k:D->Prop}
theorem IZ(hl:l.length<=1000)(V:lo<=hi)(Y:hi<=l.length)(hh:hd=.int hi\/hd=.none/\hi=l.length)(W:∀q d,l[q]?=aa d->∃r,φ d=aa r/\gz x r=aa (!up q))(mono:∀i j,i<=j->j<hi->up j=ae->up i=ae)
 (Z:∀r:Nat,jk up lo hi r r->k (.int r)):iF 80 105 [.lst l,x,.int lo,hd] φ k:=
 iF.intro (m:=78) (pre:=λt vs=>vs) (g9:=[.lst l,x,.int lo,hd]) (aH:=pF) CN (λT K t B doc pm bA ct an s vs f G C=>by
  obtain⟨a,b,c,d,rfl⟩:=yw G
  exact xJ rfl C rfl rfl) (λw g t vs h=>h) (by ac_rfl) rfl (by rfl) (by rfl) λbz=>Hm hl V Y hh W mono Z
theorem U7(hl:l.length<=1000)(V:lo<=hi)(Y:hi<=l.length)(hh:hd=.int hi\/hd=.none/\hi=l.length)(W:∀q d,l[q]?=aa d->∃r,φ d=aa r/\gz r x=aa (up q))(mono:∀i j,i<=j->j<hi->up j=ae->up i=ae)
 (Z:∀r:Nat,jk up lo hi r r->k (.int r)):iF 80 114 [.lst l,x,.int lo,hd] φ k:=
 iF.intro (m:=78) (pre:=λt vs=>vs) (g9:=[.lst l,x,.int lo,hd]) (aH:=pF) CO (λT K t B doc pm bA ct an s vs f G C=>by
  obtain⟨a,b,c,d,rfl⟩:=yw G
  exact xJ rfl C rfl rfl) (λw g t vs h=>h) (by ac_rfl) rfl (by rfl) (by rfl) λbz=>Sh hl V Y hh W mono Z
theorem Tz(hl:l.length<=1000)(V:∀q d,l[q]?=aa d->∃r,φ d=aa r/\gz x r=aa (!up q))(mono:∀i j,i<=j->j<l.length->up j=ae->up i=ae)
 (Y:∀r:Nat,jk up 0 l.length r r->k (.int r)):iF 80 105 [.lst l,x] φ k:=
 iF.intro (m:=78) (pre:=λt vs=>vs++[.int 0 t,.none]) (g9:=[.lst l,x,.int 0,.none]) (aH:=pF) CN (λT K t G doc pm bA ct an s vs f Z H=>by
  obtain⟨a,b,rfl⟩:=yv Z
  exact xJ rfl H rfl rfl) (λw g t vs h=>h.append (aP.cons (.int _ _) (aP.cons .none aP.nil))) (by ac_rfl) rfl (by rfl) (by rfl) λbz=>Hm (lo:=0) hl (ck _) (bv _) (.inr ⟨rfl,rfl⟩) V mono Y
theorem U8(hl:l.length<=1000)(V:lo<=hi)(Y:hi<=l.length)(hh:hd=.int hi\/hd=.none/\hi=l.length)(W:∀q d,l[q]?=aa d->gz x d=aa (!up q))(mono:∀i j,i<=j->j<hi->up j=ae->up i=ae)
 (Z:∀r:Nat,jk up lo hi r r->k (.int r)):bJ 80 105 [.lst l,x,.int lo,hd] k:=
 bJ.introD (m:=78) (pre:=λt vs=>vs++[.none]) (g9:=[.lst l,x,.int lo,hd,.none]) (aH:=pF) CN (λT K t nT es nK oK doc pm bA ct an s vs G C B f k2 k3=>by
  obtain⟨a,b,c,d,rfl⟩:=yw G
  exact Bi rfl C B f k2 k3 rfl (by ac_rfl) (by ac_rfl)) (λw g t vs h=>h.append (aP.cons .none aP.nil)) (by ac_rfl) rfl (by rfl) (by rfl) (Tw hl V Y hh W mono Z)
theorem U9(hl:l.length<=1000)(V:lo<=hi)(Y:hi<=l.length)(hh:hd=.int hi\/hd=.none/\hi=l.length)(W:∀q d,l[q]?=aa d->gz d x=aa (up q))(mono:∀i j,i<=j->j<hi->up j=ae->up i=ae)
 (Z:∀r:Nat,jk up lo hi r r->k (.int r)):bJ 80 114 [.lst l,x,.int lo,hd] k:=
 bJ.introD (m:=78) (pre:=λt vs=>vs++[.none]) (g9:=[.lst l,x,.int lo,hd,.none]) (aH:=pF) CO (λT K t nT es nK oK doc pm bA ct an s vs G C B f k2 k3=>by
  obtain⟨a,b,c,d,rfl⟩:=yw G
  exact Bi rfl C B f k2 k3 rfl (by ac_rfl) (by ac_rfl)) (λw g t vs h=>h.append (aP.cons .none aP.nil)) (by ac_rfl) rfl (by rfl) (by rfl) (H8 hl V Y hh W mono Z)
theorem TA(hl:l.length<=1000)(V:∀q d,l[q]?=aa d->gz d x=aa (up q))(mono:∀i j,i<=j->j<l.length->up j=ae->up i=ae)
 (Y:∀r:Nat,jk up 0 l.length r r->k (.int r)):bJ 80 114 [.lst l,x] k:=
 bJ.introD (m:=78) (pre:=λt vs=>vs++[.int 0 t,.none,.none]) (g9:=[.lst l,x,.int 0,.none,.none]) (aH:=pF) CO (λT K t nT es nK oK doc pm bA ct an s vs Z H G C B f=>by
  obtain⟨a,b,rfl⟩:=yv Z
  exact Bi rfl H G C B f rfl (by ac_rfl) (by ac_rfl)) (λw g t vs h=>h.append (aP.cons (.int _ _) (aP.cons .none (aP.cons .none aP.nil)))) (by ac_rfl) rfl (by rfl) (by rfl) (H8 (lo:=0) hl (ck _) (bv _) (.inr ⟨rfl,rfl⟩) V mono Y)
end
theorem acE:rY 96 "insort_right" "insort_right" (fp 14) (fb 14) (fs 14):=⟨λw=>⟨_,_,_,_,_,_,_,_,_,_,_,_,rfl,rfl,rfl,rfl,Bh rfl,by ac_rfl,_,_,_,_,rfl,rfl,rfl,rfl⟩⟩
theorem Si{x Y:D}{up:Nat->Bool}(r:Nat)(hl:l.length<=1000)(H:φ x=aa Y)
 (G:∀q d,l[q]?=aa d->∃r,φ d=aa r/\gz Y r=aa (!up q))(mono:∀i j,i<=j->j<l.length->up j=ae->up i=ae)
 (hr:∀V,jk up 0 l.length V V->V=r)(W:r<=l.length):mr 90 96 l [x] φ (l.take r++x::l.drop r):=
 mr.intro (m:=88) (x:="a") (pre:=λt vs=>vs++[.int 0 t,.none]) (g9:=[x,.int 0,.none]) (aH:=pF) acE (λT K t nT doc pm bA ct an s v vs f hv hT=>by
  obtain⟨b,rfl⟩:=Ex.mp hv
  exact xJ rfl hT rfl rfl) (λw g t vs h=>h.append (aP.cons (.int _ _) (aP.cons .none aP.nil))) (by ac_rfl) rfl (by rfl) (by rfl) λa bz Z=>by
  refine aL.els (bH.Bj rfl rfl rfl) (.cons (aO.assign rfl (λ_=>rfl) (aj.ZJ (x:="a") (y:="key") rfl rfl Z (aj.se (v7 rfl) rfl (vd.fnName rfl rfl) (d_ (dD 40) (aj.Cb rfl rfl rfl (by simp) (bD ⟨Y,H,iF.oR ((IZ (lo:=0) (hi:=l.length) hl (ck _) (bv _) (.inr ⟨rfl,rfl⟩) G mono λV B=>⟨rfl,?_⟩).le (by simp))⟩)))))))
  obtain rfl:=hr V B
  exact aL.nil (.cons (aO.xi (m:=cO.insert) rfl rfl rfl (λab=>mQ rfl _ _ _) ⟨show 2<30 by simp,rfl⟩ (λab=>rfl) (d_ (dD 40) ⟨_,kN.insert W (aD hl (by simp)),aL.nil rfl⟩)))
noncomputable def dX(n:Nat):Nat->Nat->List Nat
 |0,_=>[]
 |m+1,x=>x%2^n::dX n m (x/2^n)
noncomputable def d9(n:Nat):List Nat->Nat
 |[]=>0
 |d::r=>d+2^n*d9 n r
theorem uR(n m:Nat):2^(n*(m+1))=2^n*2^(n*m):=by rw[qY,gL,Ax]
theorem xq(n m x:Nat):(dX n m x).length=m:=by
 induction m generalizing x with
 |zero=>rfl
 |succ m V=>exact aQ (·+1) (V _)
theorem Bv(n p q x:Nat):dX n (p+q) x=dX n p x++dX n q (x/2^(n*p)):=by
 induction p generalizing x with
 |zero=>rw[fA,QX,QY,Rh];rfl
 |succ p V=>exact(aQ (dX n · x) (vW p 1 q)).trans (aQ (x%2^n::·) ((V _).trans (aQ (dX n p (x/2^n)++dX n q ·) (by rw[Oa,uR]))))
theorem U'(n p m x:Nat)(h:p<=m):dX n p (x%2^(n*m))=dX n p x:=by
 induction p generalizing m x with
 |zero=>rfl
 |succ p V=>
  induction m with
  |zero=>exact aZ h (OE p)
  |succ m=>
   show x%2^(n*(m+1))%2^n::dX n p (x%2^(n*(m+1))/2^n)=x%2^n::dX n p (x/2^n)
   rw[uR,Nat.mod_mul_right_mod,Nat.mod_mul_right_div_self,V _ _ (Nat.le_of_succ_le_succ h)]
theorem Sj(n:Nat)(a b:List Nat):d9 n (a++b)=d9 n a+2^(n*a.length)*d9 n b:=by
 induction a with
 |nil=>exact(po _).symm.trans (fA _).symm
 |cons d r V=>
  show d+2^n*d9 n (r++b)=d+2^n*d9 n r+2^(n*(r.length+1))*d9 n b
  rw[V,uR,q9,Gd,eS]
theorem RB(n m x:Nat)(h:x<2^(n*m)):d9 n (dX n m x)=x:=by
 induction m generalizing x with
 |zero=>exact(Qp.mp (show x<1 from h)).symm
 |succ m V=>
  show x%2^n+2^n*d9 n (dX n m (x/2^n))=x
  rw[V _ (vM (uR n m▸h))]
  exact Nat.mod_add_div x (2^n)
theorem RC(n:Nat)(l:List Nat)(h:∀d∈l,d<2^n):dX n l.length (d9 n l)=l:=by
 induction l with
 |nil=>rfl
 |cons d r V=>
  have hd:=h d bi
  show (d+2^n*d9 n r)%2^n::dX n r.length ((d+2^n*d9 n r)/2^n)=d::r
  rw[NL,v8 hd,Ot _ _ (wo n),v9 hd,fA,V λd hd=>h d (bM _ hd)]
theorem H9(n:Nat)(l:List Nat)(h:∀d∈l,d<2^n):d9 n l<2^(n*l.length):=by
 induction l with
 |nil=>exact wo _
 |cons d r V=>exact(uR n r.length).symm▸Zs (h d bi) (qY (2^n) (d9 n r)▸nw (2^n) (V λd hd=>h d (bM _ hd)))
theorem WL(n m x:Nat):∀d∈dX n m x,d<2^n:=by
 induction m generalizing x with
 |zero=>exact fS
 |succ m V=>exact fm (tN _ (wo n)) (V _)
theorem U_(x s:Nat):x&&& (x/2^s*2^s)=x/2^s*2^s:=by
 rw[<-Nat.shiftRight_eq_div_pow,<-Nat.shiftLeft_eq]
 apply Nat.eq_of_testBit_eq
 intro i
 simp only[Nat.testBit_and,Nat.testBit_shiftLeft,Nat.testBit_shiftRight]
 by_cases h:i>=s
 ·rw[show s+(i-s)=i by exact LH (by assumption)];simp[h]
 ·simp[h]
theorem Va(x s:Nat):Qd (x:Int) (((x/2^s*2^s:Nat)):Int)=((x%2^s:Nat):Int):=by
 rw[bitXor_and]
 have e:Qc (x:Int) (((x/2^s*2^s:Nat)):Int)=(((x/2^s*2^s:Nat)):Int):=by
  rw[bitAnd_pp (dA _) (dA _)]
  simp only[lQ]
  rw[U_]
 refine e.symm▸?_
 have:=PX x (2^s)
 rw[kF] at this
 exact Zh (by assumption)
section
variable {n:Nat} {k:D->Prop}
theorem bF.Dj{i j:Int}(x s y:Nat)(hi:i=x)(V:j=s)(Y:x/2^s=y)(W:k (.int y)):bF n .RShift (.int i) (.int j) k:=by
 subst hi V Y;exact bF.LY W
theorem bF.Dk{i j:Int}(x s y:Nat)(hi:i=x)(V:j=s)(Y:x<2^b)(W:b<=100000)(hs:s<=100000)(Z:x*2^s=y)(H:k (.int y)):bF n .LShift (.int i) (.int j) k:=by
 subst hi V Z;exact bF.ab8 Y W hs H
end
structure Yr(L sz h:Nat):Prop where
 lo:1<=h
 hi:h<sz
 mid:(L+(L+sz))/2^1=L+h
theorem KC(L:Nat){V:Nat}(h:2<=V):Yr L V (V/2):=⟨Rn h wA,Nat.div_lt_self (cg wA h) (gW 1),by
 rw[<-eS,<-Ri,Nat.pow_one,PY wA]⟩
theorem yP{h:Nat}(hr:0<r):3*h+10+2<=3*(h+r)+10:=by
 simp only[q9,eS,eS]
 exact fh (aD (by decide) (gB (nw 3 hr) 10)) _
theorem Cr(L h N:Nat):(((L+h:Nat):Int)-(L:Int))*(N:Int)=((N*h:Nat):Int):=by
 rw[zR,gY,mD,<-Int.natCast_mul,kF]
theorem xU{L V:Nat}(Y:1<=V):(((L:Int)+1==((L+V:Nat):Int))=ae->V=1)/\(((L:Int)+1==((L+V:Nat):Int))=aI->2<=V):=by
 rw[beq_iff_eq,beq_eq_false_iff_ne];exact Y1 (by assumption)
theorem acF:us 73 72 "_digits2int" "_digits2int" (fp 10) (fb 10) (fs 10):=⟨λw=>⟨_,_,_,_,rfl,_,_,_,rfl,rfl,rfl⟩⟩
def vk(N:Nat)(nm:Str)(P:ix)(B:List bw)(S:bf)(ds:List Nat)(V L:Nat):Prop:=
 aL (3*V+10) S ([("L",.dat (.int L)),("R",.dat (.int ((L+V:Nat):Int))),("digits",.dat (.lst (ds.map λd:Nat=>D.int d))),("n",.dat (.int (N:Nat))),("inner",.lam nm P (gP B) S)]:List (Str×Bd)) B
  (fK λd=>d=.int (d9 N ((ds.drop L).take V):Nat))
theorem Ys{P:ix}{B:List bw}{S:bf}{bW:List bw}{k:Fl->ay->Prop}(N:Nat)(ds:List Nat)
 (step:∀(Y L:Nat),1<=Y->L+Y<=ds.length->(∀V,V<Y->∀(L:Nat),1<=V->L+V<=ds.length->vk N nm P B S ds V L)->vk N nm P B S ds Y L)
 (dk:(∀(Y L:Nat),1<=Y->L+Y<=ds.length->vk N nm P B S ds Y L)->aL n sc (("inner",.lam nm P (gP B) S)::ρ) bW k):aL n sc (("inner",.lam nm P (gP B) S)::ρ) bW k:=by
 refine dk λY L W Z=>?_
 induction Y using PZ generalizing L with
 |_ Y H=>exact step Y L W Z λV hs L G C=>H V hs L G C
theorem I0{L h:Nat}{ds:List Nat}(hl:L+h<=ds.length):((ds.drop L).take h).length=h:=Ey (qP▸(OG (gL L h▸hl)))
theorem Sk{N L h r:Nat}{ds:List Nat}(hl:L+(h+r)<=ds.length):d9 N ((ds.drop L).take (h+r))=d9 N ((ds.drop (L+h)).take r)*2^(N*h)+d9 N ((ds.drop L).take h):=by
 simp only[List.take_add,FU,Sj,(I0 (aD (fh (cy h r) L) hl):((ds.drop L).take h).length=h),kF,gL]
theorem yd{a:Nat}(V:a<=6)(Y:b<=20):a*b<=120:=F6 V Y
set_option maxHeartbeats 1000000 in
theorem JM{ds:List Nat}{N:Nat}(hN:1<=N)(Z:N<=6)(V:ds.length<=20)(qo:∀d∈ds,d<2^N)(hk:k (.int (d9 N ds:Nat))):bJ 80 73 [.lst (ds.map λd:Nat=>D.int d),.int N] k:=by
 refine bJ.xL (n:=78) (aH:=["digits","n"]) acF (λ_ _ _ _ _ _ vs hl=>jd (λ_ _=>by rfl) vs hl) (by ac_rfl) (by rfl) (by rfl) (by ac_rfl) (.cons (aO.def (t:=(72,68,"_digits2int.<locals>.inner")) (by ac_rfl) (by decide) (by ac_rfl) (λw=>by ac_rfl) (by ac_rfl) (by ac_rfl) rfl rfl (λab=>by ac_rfl) (pk (Ys N ds ?_ ?_))))
 ·intro sz L h1 H ih
  have C:sz<=20:=aD (jz _ _) (aD H V)
  refine cw 6 (cM.mk (λY=>?_) λY=>?_)
  ·obtain rfl:=(xU h1).1 Y
   refine b8.oz (d:=.int (ds[L]:Nat)) (by rw[aR];exact bd (aV V (by simp))) (by simp only[ci,dt H];rfl) ?_
   refine aQ (λa:Nat=>D.int a) ?_
   rw[qv H]
   exact(Gk _).symm
  ·have W:=KC L ((xU h1).2 Y)
   clear Y
   generalize sz/2=h at W
   refine(qx (bd W.hi)).elim λr m_=>?_;subst m_
   have hr:0<r:=NV.mp W.hi
   have e3:L+(h+r)=L+h+r:=(eS _ _ _).symm
   refine bF.Dj (L+(L+(h+r))) 1 (L+h) rfl rfl W.mid (bQ (mulR (show ((N:Int)).natAbs<2^60 from aV Z (by decide))) ?_)
   refine aj.BO (bE:=([("digits",.dat (.lst (ds.map λd:Nat=>D.int d))),("n",.dat (.int (N:Nat))),("inner",.lam _ _ (gP _) _)]:List (Str×Bd))) (m:=3*r+10) (aH:=["L","R"]) rfl rfl rfl ⟨rfl,rfl,rfl,rfl,rfl,rfl,trivial⟩ (gL r h▸yP W.lo) (λ_ _ _ _ _ _ _ vs hl=>jd (λ_ _=>by rfl) vs hl) rfl rfl (d_ (dD 40) ⟨rfl,?_⟩)
   have G:=ih r (Ob W.lo) (L+h) hr (aD (bn e3.symm) H)
   unfold vk at G
   rw[<-e3] at G
   refine G.mono λfl ρ=>AY λd hd=>?_
   subst hd
   have B:=H9 N ((ds.drop (L+h)).take r) λd hd=>qo d (vN (mB hd))
   rw[I0 (L:=L+h) (h:=r) ((eS L h r).symm▸H)] at B
   refine bF.Dk _ (N*h) _ rfl (Cr L h N) B (aD (yd Z (aD (jz _ _) C)) (by decide)) (aD (yd Z (aD (cy _ _) C)) (by decide)) rfl ?_
   refine aj.BO (bE:=([("digits",.dat (.lst (ds.map λd:Nat=>D.int d))),("n",.dat (.int (N:Nat))),("inner",.lam _ _ (gP _) _)]:List (Str×Bd))) (m:=3*h+10) (aH:=["L","R"]) rfl rfl rfl ⟨rfl,rfl,rfl,rfl,rfl,rfl,trivial⟩ (yP hr) (λ_ _ _ _ _ _ _ vs hl=>jd (λ_ _=>by rfl) vs hl) rfl rfl (d_ (dD 40) ⟨rfl,?_⟩)
   refine(ih h W.hi L W.lo (aD (aD (cy _ _) (bn e3.symm)) H)).mono λfl ρ=>AY λd hd=>?_
   subst hd
   exact aQ (λa:Nat=>D.int a) (Sk H).symm
 ·intro run
  have hm:(ds.map λd:Nat=>D.int d).length=ds.length:=aR ..
  have f:(ds.map λd:Nat=>D.int d).length<2^63:=hm▸(aV V (by decide))
  refine cw 2 (bQ f (cM.mk (λY=>?_) λY=>?_))
  ·refine aj.BO (bE:=([("digits",.dat (.lst (ds.map λd:Nat=>D.int d))),("n",.dat (.int (N:Nat))),("inner",.lam _ _ (gP _) _)]:List (Str×Bd))) (m:=3*ds.length+10) (aH:=["L","R"]) rfl rfl rfl ⟨rfl,rfl,rfl,rfl,rfl,rfl,trivial⟩ (aD (gB (nw 3 V) 12) (by simp)) (λ_ _ _ _ _ _ _ vs hl=>jd (λ_ _=>by rfl) vs hl) rfl rfl (d_ (dD 40) (bQ f ⟨rfl,?_⟩))
   have h1:1<=ds.length:=by
    cases ds with
    |nil=>exact ft Y
    |cons _ _=>exact eA _
   have G:=run ds.length 0 h1 (bn (fA _))
   unfold vk at G
   rw[fA] at G
   refine hm.symm▸?_
   refine G.mono λfl ρ=>AY λd hd=>?_
   subst hd
   rw[tq,jY]
   exact hk
  ·cases ds with
   |nil=>exact hk
   |cons _ _=>exact tf Y
noncomputable def gv(l:List Nat):List D:=l.map λd:Nat=>D.int d
def yQ(N:Nat)(nm:Str)(P:ix)(B:List bw)(S:bf)(V x L:Nat)(a:ag)(l:List D):Prop:=
 aL (3*V+10) S ([("x",.dat (.int x)),("L",.dat (.int L)),("R",.dat (.int ((L+V:Nat):Int))),("a_digits",.own a l),("n",.dat (.int (N:Nat))),("inner",.lam nm P (gP B) S)]:List (Str×Bd)) B
  (ls λ_ aC=>aC.lookup ("a_digits":Str)=aa (.own a (l.take L++gv (dX N V x)++l.drop (L+V))))
theorem Yt{P:ix}{B:List bw}{S:bf}{bW:List bw}{k:Fl->ay->Prop}(N:Nat)
 (step:∀(Y:Nat) (x L:Nat) (a:ag) (l:List D),1<=Y->x<2^(N*Y)->L+Y<=l.length->l.length<=20->
  (∀V,V<Y->∀(x L:Nat) (l:List D),1<=V->x<2^(N*V)->L+V<=l.length->l.length<=20->yQ N nm P B S V x L a l)->yQ N nm P B S Y x L a l)
 (dk:(∀(Y:Nat) (x L:Nat) (a:ag) (l:List D),1<=Y->x<2^(N*Y)->L+Y<=l.length->l.length<=20->yQ N nm P B S Y x L a l)->aL n sc (("inner",.lam nm P (gP B) S)::ρ) bW k):aL n sc (("inner",.lam nm P (gP B) S)::ρ) bW k:=by
 refine dk λY x L a l W Z h3 H=>?_
 induction Y using PZ generalizing x L l with
 |_ Y G=>exact step Y x L a l W Z h3 H λV hs x L l C f q3 q4=>G V hs x L l C f q3 q4
theorem Vb{N x L:Nat}(V:x<2^(N*1))(h:L<l.length):l.set L (.int x)=l.take L++gv (dX N 1 x)++l.drop (L+1):=by
 rw[List.set_eq_take_append_cons_drop,bo h,c6]
 show _=l.take L++(D.int (x%2^N:Nat)::l.drop (L+1))
 rw[v8 (Rj N▸V)]
theorem Vc{N x L h:Nat}(hl:L+h<=l.length):(l.take L++gv (dX N h x)++l.drop (L+h)).length=l.length:=by
 unfold gv
 simp only[bR,bR,gG,aR,xq,qP];exact Xx (by assumption)
theorem Vd{N x L h:Nat}(hl:L+(h+r)<=l.length):(l.take L++gv (dX N h (x%2^(N*h)))++l.drop (L+h)).take (L+h)++gv (dX N r (x/2^(N*h)))++(l.take L++gv (dX N h (x%2^(N*h)))++l.drop (L+h)).drop (L+h+r)=l.take L++gv (dX N (h+r) x)++l.drop (L+(h+r)):=by
 have V:(l.take L++gv (dX N h (x%2^(N*h)))).length=L+h:=by unfold gv;simp only[bR,gG,aR,xq];exact V3 (by assumption)
 rw[NE (bn V.symm),k9 (bn V),List.drop_append,V,N5 (by rw[V];exact cy _ _),zU,FU,U' N h h x (bv _),Bv N h r,k6,eS]
 unfold gv
 rw[dJ,c6 (l.take L)]
theorem acG:us 66 65 "_int2digits" "_int2digits" (fp 9) (fb 9) (fs 9):=⟨λw=>⟨_,_,_,_,rfl,_,_,_,rfl,rfl,rfl⟩⟩
theorem Yu{x N V:Nat}(Y:x<2^(N*V))(h:x≠0):1<=V:=by
 induction V with
 |zero=>exact aZ (Qp.mp Y) h
 |succ _=>exact eA _
theorem bits_le{x N:Nat}(V:1<=N):x<2^(N*((fy (x:Int)+N-1)/N)):=by
 refine(EJ (x:=(x:Int))).mp ?_
 have:=OO (fy (x:Int)+N-1) V
 exact LD (by assumption) (by assumption)
theorem JN{x N:Nat}(hN:1<=N)(Y:N<=6)(V:(fy (x:Int)+N-1)/N<=20)
 (hk:k (.lst ((dX N ((fy (x:Int)+N-1)/N) x).map λd:Nat=>D.int d))):bJ 80 66 [.int x,.int N] k:=by
 have f:((fy (x:Int):Int)+N-1)/N=(((fy (x:Int)+N-1)/N:Nat):Int):=by
  rw[Int.natCast_ediv,Int.natCast_sub (Nat.le_add_left_of_le hN),zR];rfl
 have C:=bits_le (x:=x) hN
 have h0:x=0->(fy (x:Int)+N-1)/N=0:=λe=>by
  subst e
  exact v9 (by rw[show fy ((0:Nat):Int)=0 from rfl,fA];exact G5 hN tG)
 refine bJ.xL (n:=78) (aH:=["a","n"]) acG (λ_ _ _ _ _ _ vs hl=>jd (λ_ _=>by rfl) vs hl) (by ac_rfl) (by rfl) (by rfl) (by ac_rfl) (.cons (aO.uf rfl (λ_=>rfl) (cK.repl (bD ⟨_,rfl,bD (aj.yj cO.n6 rfl (λab=>mQ rfl _ _ _) ⟨show 0<30 by decide,rfl⟩ (bD ⟨rfl,bk.n6 (bP.t ?_ ?_)⟩))⟩))))
 ·rw[eP (P0.mpr hN),eP (show ((N:Int)).natAbs<2^60 from aV Y (by decide))];rfl
 rw[f]
 generalize (fy (x:Int)+N-1)/N=W at C hk V h0
 clear f
 have H:(gJ (W:Int).toNat [D.int 0]).flatten.length=W:=by rw[NA,List.length_replicate];rfl
 refine⟨_,rfl,eJ.mpr (aV V (by decide)),dh (by decide) (dA W),aD (bn (po W)) (aD V (by decide)),λa=>?_⟩
 generalize (gJ (W:Int).toNat [D.int 0]).flatten=l at H
 refine .cons (aO.def (t:=(65,61,"_int2digits.<locals>.inner")) (by ac_rfl) (by decide) (by ac_rfl) (λw=>by ac_rfl) (by ac_rfl) (by ac_rfl) rfl rfl (λab=>by ac_rfl) (pk (Yt N ?_ ?_)))
 ·intro sz x L a l h1 h2 h3 h4 ih
  have eR:sz<=20:=aD (jz _ _) (aD h3 h4)
  refine cw 8 (cM.mk (λG=>?_) λG=>?_)
  ·obtain rfl:=(xU h1).1 G
   refine aO.X4 (y:="a_digits") rfl rfl (bd (aV h4 (by simp))) (λ_=>rfl) (bD (bD ⟨L,rfl,h3,?_⟩))
   rw[<-Vb h2 h3];rfl
  ·have Z:=KC L ((xU h1).2 G)
   clear G
   generalize sz/2=h at Z
   obtain⟨r,rfl⟩:=qx (bd Z.hi)
   have hr:0<r:=NV.mp Z.hi
   have e3:L+(h+r)=L+h+r:=(eS _ _ _).symm
   have M0:L+h<=l.length:=aD (fh (cy _ _) _) h3
   refine bF.Dj (L+(L+(h+r))) 1 (L+h) rfl rfl Z.mid (bQ (mulR (show ((N:Int)).natAbs<2^60 from aV Y (by decide))) ?_)
   refine bF.Dj x (N*h) _ rfl (Cr L h N) rfl (bF.Dk _ (N*h) _ rfl (Cr L h N) (aV (Nat.div_le_self _ _) (cg h2 (zn (by decide) (yd Y eR)):x<2^120)) (by decide) (aD (yd Y (aD (bd Z.hi) eR)) (by decide):N*h<=100000) rfl (bF.bxor ?_))
   rw[Va]
   refine aO.AH (y:="a_digits") (bE:=([("n",.dat (.int (N:Nat))),("inner",.lam _ _ (gP _) _)]:List (Str×Bd))) (m:=3*h+10) (aH:=["x","L","R"]) rfl rfl rfl rfl rfl ⟨rfl,rfl,rfl,rfl,trivial⟩ (yP (h:=h) hr) (λ_=>rfl) (λ_ _ _ _ _ _ _ vs hl=>pC (λ_ _ _=>by rfl) vs hl) rfl rfl (d_ (dD 40) ?_)
   refine⟨rfl,_,ih h Z.hi _ L l Z.lo (tN _ (wo _)) M0 h4,?_⟩
   have oU:=Vc (N:=N) (x:=x%2^(N*h)) (h:=h) (L:=L) (l:=l) M0
   refine aO.AH (y:="a_digits") (bE:=([("n",.dat (.int (N:Nat))),("inner",.lam _ _ (gP _) _)]:List (Str×Bd))) (m:=3*r+10) (aH:=["x","L","R"]) rfl rfl rfl rfl rfl ⟨rfl,rfl,rfl,rfl,trivial⟩ (gL r h▸yP Z.lo:3*r+10+2<=3*(h+r)+10) (λ_=>rfl) (λ_ _ _ _ _ _ _ vs hl=>pC (λ_ _ _=>by rfl) vs hl) rfl rfl (d_ (dD 40) ?_)
   refine e3▸?_
   refine⟨rfl,_,ih r (Ob Z.lo) _ (L+h) _ hr ?_ (by simp only[oU,<-e3];exact h3) (oU▸h4),?_⟩
   ·refine vM ?_
    rw[<-Ax,<-q9];exact h2
   ·show i_ _ _=_
    rw[<-e3,<-Vd h3,<-e3];rfl
 ·intro run
  refine cw 4 (cM.mk (λG=>?_) λG=>?_)
  ·have B:x≠0:=λe=>by subst e;exact ft G
   refine aO.AH (y:="a_digits") (bE:=([("n",.dat (.int (N:Nat))),("inner",.lam _ _ (gP _) _)]:List (Str×Bd))) (m:=3*W+10) (aH:=["x","L","R"]) rfl rfl rfl rfl rfl ⟨rfl,rfl,rfl,rfl,trivial⟩ (aD (gB (nw 3 V) 12) (by simp):3*W+10+2<=78) (λ_=>rfl) (λ_ _ _ _ _ _ _ vs hl=>pC (λ_ _ _=>by rfl) vs hl) rfl rfl (d_ (dD 40) (bQ (aV (aD (bn H) V) (by decide):l.length<2^63) ⟨rfl,rfl,?_⟩))
   have r0:=run W x 0 a l (Yu C B) C (bn ((fA W).trans H.symm)) (aD (bn H) V)
   unfold yQ at r0
   rw[fA] at r0
   refine H.symm▸?_
   refine⟨_,r0,?_⟩
   simp only[<-H,List.take_zero,zU,zQ,cR];exact H▸hk
  ·have B:x=0:=ba λe=>by
    have:((x:Int) != 0)=ae:=bne_iff_ne.mpr λq=>e (lR q)
    exact te (this.symm.trans G)
   obtain rfl:=h0 B
   obtain rfl:=lI.mp H
   exact hk
theorem acH:FnAt 52 7 "_div2n1n" ["a","b","n"]:=⟨⟨λw=>⟨_,_,_,_,_,rfl,_,_,_,_,rfl,rfl,rfl,rfl⟩⟩,λ_ _ _ _ _ _ vs h=>pC (λ_ _ _=>by rfl) vs h,by rfl,by rfl⟩
theorem acI:FnAt 80 11 "_divmod_pos" ["a","b"]:=⟨⟨λw=>⟨_,_,_,_,_,rfl,_,_,_,_,rfl,rfl,rfl,rfl⟩⟩,λ_ _ _ _ _ _ vs h=>jd (λ_ _=>by rfl) vs h,by rfl,by rfl⟩
theorem aj.n6{o:au}(V:BW o=ae)(hl:(ap.endLine==aM.line)=ae)(h:aj n sc ρ o λd=>∃i,d=.int i/\k (.int (fy i))):aj n sc ρ (bU (cC o "bit_length" ap) [] [] aM) k:=
 aj.yj cO.n6 rfl (λab=>mQ V _ _ _) ⟨show 0<30 by simp,hl⟩ (h.mono λd Y=>by obtain⟨i,e,q⟩:=Y;subst e;exact⟨rfl,bk.n6 q⟩)
theorem WM{a:Nat}(H:0<b)(V:a<2^100)(Y:b<2^20)(W:k (.tup [.int (a/b:Nat),.int (a%b:Nat)])):bJ 10 52 [.int a,.int b,.int m] k:=by
 have Z:=vX V
 refine bJ.of acH rfl (aj.n6 rfl rfl (bD ⟨_,rfl,aj.top (v:=.int 4000 _) (d:=.int 4000) rfl (λw=>by ac_rfl) rfl (λw g=>.int _ _) (cM.mk (λ_=>bk.divmod (by exact KR (by assumption)) (Oc (by exact cg (by assumption) (by decide))) ?_) λh=>aZ (ic h) (by omega))⟩))
 rw[no _ (dA _),qp _ (dA _)]
 exact W
structure oj(N b:Nat)(dl:List Nat)(i r:Nat)(qs:List Nat):Prop where
 len:qs.length=i
 lt:∀q∈qs,q<2^N
 yR:r<b
 eq:d9 N qs.reverse*b+r=d9 N (dl.reverse.take i).reverse
theorem oj.step{N:Nat}{dl:List Nat}{e:Nat}{qs:List Nat}(D:oj N b dl i r qs)(W:dl.reverse[i]?=aa e)(Z:e<2^N)(H:0<b):r*2^N+e<b*2^N/\oj N b dl (i+1) ((r*2^N+e)%b) (qs++[(r*2^N+e)/b]):=by
 have V:r*2^N+e<b*2^N:=by
  have:=qB (2^N) (qH D.yR)
  rw[Gi] at this;exact XN (by assumption) (by assumption)
 refine⟨V,by rw[bR,D.len];rfl,λq Y=>?_,tN _ H,?_⟩
 ·rcases cQ.mp Y with Y|Y
  ·exact D.lt q Y
  ·rw[a_.mp Y];exact vM V
 ·have G:=PX (r*2^N+e) b
  simp only[lN,W,EO,EO]
  show (_+2^N*d9 N qs.reverse)*b+_=e+2^N*d9 N (dl.reverse.take i).reverse
  rw[<-D.eq,GR,q9,Gd,kF _ b]
  rw[kF r] at G
  rw[kF r]
  omega
theorem oj.fin{N:Nat}{dl:List Nat}{qs:List Nat}(D:oj N b dl dl.length r qs)(V:0<b):d9 N qs.reverse=d9 N dl/b/\r=d9 N dl%b:=by
 have h:=D.eq
 rw[k9 (by rw[i8];exact bv _),vL] at h
 rw[<-h,kF,PY V,v9 D.yR,Nat.mul_add_mod,v8 D.yR]
 exact⟨rfl,rfl⟩
noncomputable def Dl(N b:Nat)(dl:List Nat)(V:ag)(r:Nat)(qs:List Nat):ay:=([("q_digits",.own V (gv qs)),("r",.dat (.int (r:Nat))),("a_digits",.dat (.lst (gv dl))),("n",.dat (.int (N:Nat))),("b",.dat (.int (b:Nat)))]:List (Str×Bd))
theorem Ve{l:List Nat}(h:(gv l)[i]?=aa d):∃e:Nat,l[i]?=aa e/\d=.int e:=by
 unfold gv at h
 rw[ci] at h
 induction q:l[i]? with
 |none=>rw[q] at h;exact ns h
 |some e=>rw[q] at h;exact⟨e,rfl,(aW h).symm⟩
theorem xr(l:List Nat):(gv l).length=l.length:=aR ..
theorem oj.zero{N:Nat}(dl:List Nat)(V:0<b):oj N b dl 0 0 []:=⟨rfl,nofun,V,by show 0*b+0=0;rw[Nat.zero_mul]⟩
theorem Vf{x:Nat}(hb:0<b)(W:b<2^6)(hx:x<2^19)(hk:k (.tup [.int (x/b:Nat),.int (x%b:Nat)])):bJ 90 80 [.int x,.int b] k:=by
 refine bJ.of acI rfl (aj.n6 rfl rfl (bD ⟨_,rfl,?_⟩))
 have G:=(EJ (x:=(b:Int))).mp (bv _)
 have Y:fy (b:Int)<=6:=vX W
 generalize fy (b:Int)=N at G Y
 have G:b<2^N:=G
 have Z:1<=N:=by
  cases N with
  |zero=>exact aZ (by assumption) (de.mpr (by assumption))
  |succ _=>exact eA _
 have ad4:=vX hx
 have V:(fy (x:Int)+N-1)/N<=20:=Nat.div_le_of_le_mul (by have:=Nat.le_mul_of_pos_left 19 Z;simp only[qY N 19];exact XD (by assumption) (by assumption))
 have C:=bits_le (x:=x) Z
 refine(JN Z Y V ?_).le (by decide)
 generalize (fy (x:Int)+N-1)/N=nd at C V
 have B:=RB N nd x C
 have f:=WL N nd x
 have y5:=xq N nd x
 generalize dX N nd x=dl at B f y5
 subst B y5
 intro aq
 refine aO.sub (ρ:=Dl N b dl aq 0 []) (aO.for (λ_ _=>rfl) (bK.call (QK rfl) rfl (d_ (dD 40) (fN.reversed (by rw[xr];exact bd (aV V (by simp))) ⟨λi aC=>∃r H,aC=Dl N b dl aq r H/\oj N b dl i r H,⟨0,[],rfl,.zero dl hb⟩,?_,?_,?_⟩)))) (cA.sub ⟨rfl,rfl,rfl,rfl,rfl,trivial⟩)
 ·rintro i _ ⟨r,H,rfl,_⟩;rfl
 ·rintro i d _ hd ⟨r,H,rfl,Dv⟩
  rw[show (gv dl).reverse=gv dl.reverse from wa.symm] at hd
  obtain⟨e,he,rfl⟩:=Ve hd
  refine(Dv.step he (f e (iK.mp (c5 he))) hb).elim λy8 Dv'=>?_
  refine c0.name rfl (cw 3 (aj.call (Q6 rfl) rfl (d_ (dD 40) (bF.Dk r N _ rfl rfl (eK Dv.yR W) (by decide) (aD Y (by decide)) rfl ((WM (a:=r*2^N+e) hb (cg y8 (aD (F6 (bd W) (zn (by decide) Y):b*2^N<=2^6*2^6) (by decide))) (eK W (by decide)) ⟨?_,?_⟩).le (by simp)).oR))))
  ·have hi:=(ey.mp he).1
   rw[i8] at hi
   rw[xr,Dv.len];exact bd (eK (cg hi V) (by decide))
  ·refine⟨Dl N b dl aq _ _,cA.sub ⟨?_,rfl,rfl,rfl,rfl,trivial⟩,_,_,rfl,Dv'⟩
   dsimp only[gv]
   rw[dJ];rfl
 ·rintro _ ⟨r,H,rfl,Dv⟩
  rw[i8,xr] at Dv
  refine(Dv.fin hb).elim λf1 f2=>?_
  refine aO.xi (m:=cO.reverse) rfl rfl rfl (λab=>mQ rfl _ _ _) ⟨show 0<30 by simp,rfl⟩ (λab=>rfl) ⟨_,kN.reverse (by rw[xr];exact bd (aV (Dv.len▸V:H.length<=20) (by decide))),?_⟩
  rw[show (gv H).reverse=gv H.reverse from wa.symm]
  refine(JM Z Y (by rw[i8];exact(Dv.len▸V:H.length<=20)) (λd hd=>Dv.lt d (iK.mp hd)) ⟨rfl,?_⟩).le (by decide)
  rw[f1]
  subst f2
  exact hk
theorem JO{a b:Int}(V:0<b)(Y:b<64)(H:0<=a)(W:a<2^19)(G:k (.tup [.int (a/b),.int (a%b)])):bJ 95 87 [.int a,.int b] k:=by
 refine bJ.of qc rfl (cM.mk (λh=>aZ (eq_of_beq h) (pj V)) λ_=>cM.mk (λh=>aZ (cZ h) (dU.mpr (du V))) λ_=>cM.mk (λh=>aZ (cZ h) (dU.mpr H)) λ_=>?_)
 refine(zh H).elim λx Z=>?_;subst Z
 obtain⟨y,rfl⟩:=zh (du V)
 exact aj.call (P9 rfl) rfl (d_ (dD 40) (((Vf (eJ.mp V) (eJ.mp Y) (eJ.mp W) G).le (by simp)).oR))
theorem WN{r b:Int}{K:Fl->ay->Prop}(h:aj n (fs 12) ρ e λd=>d=.tup [.int (-q-1),.int (b+(-r-1))])(V:K (.ret (.tup [.int (-q-1),.int (b+(-r-1))])) ρ):aL n (fs 12) ρ [.Return (aa e) p] K:=
 .cons (aO.ret (h.mono λd e=>by subst e;exact V))
theorem JP{a b:Int}(V:0<b)(Y:b<64)(W:a.natAbs<2^19)(Z:k (.tup [.int (a/b),.int (a%b)])):bJ 100 87 [.int a,.int b] k:=by
 by_cases H:0<=a
 ·exact(JO V Y H (CX W) Z).le (by simp)
 have G:Qe a=-a-1:=rfl
 refine bJ.vj qc rfl (.els (b_ (beq_eq_false_iff_ne.mpr (pj V))) (.els (b_ (eW (dU.mpr (du V)))) (.take (b_ (eP (pu.mp H))) (cw 1 (aj.un (bD (mo.inv ((JO V Y ?_ ?_ ?_).le (by simp)))))))))
 ·exact G▸Zl H
 ·exact G▸abr W
 refine WN (q:=(-a-1)/b) (r:=(-a-1)%b) (b:=b) (bD (aj.un (bD (mo.inv ?_)))) ?_
 ·exact aj.un (bD (mo.inv rfl))
 rw[(kbt_below a V).1,(kbt_below a V).2] at Z
 rw[show b+(-((-a-1)%b)-1)=b-1-(-a-1)%b by exact Zv _ _]
 exact Z
theorem WO{a b:Int}(H:b≠0)(Y:b.natAbs<64)(W:a.natAbs<2^19)(Z:k (.tup [.int (a.fdiv b),.int (a.fmod b)])):bJ 110 87 [.int a,.int b] k:=by
 by_cases V:0<=b
 ·rw[no _ V,qp _ V] at Z
  exact(JP (abt H V) (CX Y) W Z).le (by decide)
 have G:a.fdiv b=-a/ -b:=by
  rw[<-no _ (du (CY V)),Fu]
 have C:a.fmod b=-(-a%-b):=by
  rw[<-qp _ (du (CY V)),QZ,QZ,Fu,tH];exact aby _ _
 rw[G,C] at Z
 exact bJ.of qc rfl (cM.mk (λh=>aZ (eq_of_beq h) H) λ_=>cM.mk (λ_=>(JP (a:=-a) (b:=-b) (CY V) (Zk Y) (a_neg W) Z).le (by simp)) λh=>aZ (ic h) (λq=>q (pu.mp V)))
noncomputable abbrev yx:String:="ZeroDivisionError"
theorem H_(V:sc.names.lookup (a6 "ZeroDivisionError")=aa cj):bO sc (a6 "ZeroDivisionError") (aK yx):=
 bO.boot V (by intro w;ac_rfl) (by ac_rfl) vB.boot (by decide) (by intro a e;cases e)
theorem bj.slots{mt:List ag}{aB:Str->List ag}(H:bj w mu aw aE s g ab sc ρ aB)(hk:∀b o,b∉mt->s.heap.get? b=aa o->h'.get? b=aa o)(Y:s.heap.UpToSlots h')
 (W:∀a∈mt,(aw.heap.get? a=ak\/a∈mu)/\g a=ak/\(∃o,s.heap.get? a=aa o/\∀vs,o.data≠bC vs)/\∀x c,ab.cells.lookup x=aa c->c≠a)
 (hv:∀x b,ρ.lookup x=aa b->(∀a∈mt,a∉aB x)\/∀v,cU w s g ab v (aB x) b->cU w {s with heap:=h',toks:=tk} g ab v (aB x) b):
 bj w mu aw aE {s with heap:=h',toks:=tk} g ab sc ρ aB:=by
 have nc:∀a∈mt,∀o,s.heap.get? a=aa o->cV o:=λa V o e=>by
  obtain⟨_,_,⟨f,e',d⟩,_⟩:=W a V
  obtain rfl:=aW (e.symm.trans e')
  exact cV.of d
 obtain⟨N,S'⟩:=St.changes (tk:=tk) H.gR H.st H.nx H.fw (λa V=>⟨(W a V).1,(W a V).2.1,((W a V).2.2.1).elim λo G=>G.elim λe _=>⟨o,e,nc a V o e⟩⟩) hk
 have MC:∀x c,ab.cells.lookup x=aa c->∀v,s.heap.IsCell c v->h'.IsCell c v:=λx c hc v G=>G.elim λo G=>G.elim λe d=>⟨o,hk c o (λq=>(W c q).2.2.2 x c hc rfl) e,d⟩
 refine H.gy.elim λm hL=>?_
 have up:∀b o,s.heap.get? b=aa o->∃f,h'.get? b=aa f:=λb o e=>by
  by_cases q:b∈mt
  ·obtain⟨_,_,⟨f,e',d⟩,_⟩:=W b q
   refine(Y b f e' d).elim λsl h=>?_
   exact⟨_,h⟩
  ·exact⟨o,hk b o q e⟩
 refine⟨H.gR,H.fw,S',H.nx.over N λa V=>(W a V).1,H.kind,H.glob,H.gq,H.ks,H.lam,H.ii,⟨m,Y.ns hL⟩,H.iW,λx c h=>?_,H.lr,H.ff,H.e6,λx b h=>?_,λx b h a V=>?_,H.e7⟩
 ·obtain⟨h1,⟨v,h2⟩,h3⟩:=H.cP x c h
  exact⟨h1,⟨v,MC x c h v h2⟩,h3⟩
 ·obtain⟨v,h1,h2⟩:=H.var x b h
  refine⟨v,?_,(hv x b h).elim (λq=>h2.step N H.st (λa V q'=>q a q' V) λ_ a V o e=>nc a V o e) λq=>q v h2⟩
  rcases h1 with ⟨C,Z,m',B,q4⟩|⟨C,c,Z,B,q4⟩
  ·exact .inl ⟨C,Z,m',Y.ns B,q4⟩
  ·exact .inr ⟨C,c,Z,B,MC x c Z v q4⟩
 ·refine ba λN_=>?_
  obtain⟨⟨C,o,Z⟩,B⟩:=H.dH x b h a V
  apply N_
  exact⟨⟨C,up a o Z⟩,B⟩
def xV(h:dp)(l:List Env):Prop:=∀e∈l,e.scope.kind≠.module/\∃L o,e.frame=aa L/\h.get? L=aa o/\∀vs,o.data≠bC vs
noncomputable def frs(l:List Env):List ag:=l.filterMap (·.frame)
theorem xV.acJ:∀{l:List Env} {as:List ag},xV h l->(∀e∈l,∀L,e.frame=aa L->L∈as)->h.FunFrames (hideAll h as) l:=by
 intro G
 induction G with
 |nil=>
  intro _ _ _
  exact trivial
 |cons e r V=>
  intro as H W
  obtain⟨C,L,o,Z,h3,B⟩:=H e bi
  exact⟨C,⟨L,o,Z,hideAll_none _ (W e bi L Z),h3,B⟩,V (λe Y=>H e (bM _ Y)) λe Y=>W e (bM _ Y)⟩
theorem JQ{l:List Env}{e:Env}(V:e∈l)(h:e.frame=aa L):L∈frs l:=qE.mpr ⟨e,V,h⟩
theorem I1{args:List au}{f:ai}{k:List D->Prop}(C:bO sc x f)(G:args.all cu=ae)(h:cn n sc ρ args k)(S:St w s g)(R:Rm n A)(V:c8 w s g ab sc ρ)
 (B:∀vs s' g' ds,Nx [] s g s' g'->St w s' g'->aP w g' vs ds->k ds->wpAny (model PG w) A (call f vs) Q E s'):wpAny (model PG w) A (eval (bU (aS x np) args [] aM) ab) Q E s:=by
 refine lM (C.run w A ab s g ρ S V np _ E ?_)
 refine j6 (P:=λhp=>∃k,(k=jC\/k=jA\/k=jx)/\jL (model PG w) hp (keeperOf f) k) (by rw[(cE G).2];rfl) (λ_ q=>q) ?_
 refine fj (cE G).1 rfl (bg (cn.ok G h w A ab s g aM S R V E) (λvs aA ⟨aN,ds,W,Y,Z,H⟩=>?_))
 exact fz ⟨C.keep w aA aN Y,B vs aA aN ds W Y Z H⟩
theorem TC{a:Int}{l:List Env}(S:St w s g)(R:Rm (n+2) A)(r:aP w g vs [.int a,.int 0])(jv:A.frames=aa l)(hl:xV s.heap l)(hT:∀L∈frs l,L∉TB)
 (hE:∀e aA aN L h' a0,St w aA aN->Nx [] s g aA aN->s.heap.get? L=ak->aN L=ak->(∃o,aA.heap.get? L=aa o/\∀vs,o.data≠bC vs)->Heap.FlyingW (hideAll aA.heap (L::frs l)) l e (aK yx) a0 h'->aA.heap.UpToSlots h'->E (.ref e) {aA with heap:=h'}):
 wpAny (model PG w) A (call (.ref 87) vs) Q E s:=by
 obtain⟨doc,pm,bA,ct,an,hk,i7⟩:=qc.def_.at_ w
 have C:dQ w s g [] (fs 12) [] [] (λ_=>[]):=dQ.nil λx e=>by
  have:=ee.mp ((bB _ _).mp ((bB _ _).mp qc.ok).2).1 _ (ez e)
  simp at this
 refine lU (mO (wZ (n:=n) (Q:=λ_ _=>False) S R (cW.dat r) (S.df _ _ hk) rfl (CodeRec.of_K S i7) C (.inl rfl) (qc.binds doc pm bA ct an s vs r.1) rfl (λc q e=>ns e) ((bB _ _).mp qc.ok).1 E λab aA aB Z H=>?_) λr s' hr=>?_)
 ·have H:=rA▸H
  have R1:Rm n (A.deeper ab):=(R.le (jD _)).deeper
  have T:bH n (fs 12) (bindR ["a","b"] ([.int a,.int 0].map Bd.dat)) (iO (aS "b" {line:=100,col:=7,endLine:=100,endCol:=8}) [.Eq] [jF (.int 0) 0 {line:=100,col:=12,endLine:=100,endCol:=13}] {line:=100,col:=7,endLine:=100,endCol:=13}) λc=>c=ae:=b_ rfl
  refine mF (Be (bg (T.run w _ ab aA g H.st R1 H.cI _) (λc aT ⟨bb,lw,G,hc⟩=>?_)))
  subst hc
  have H2:=H.step lw G
  refine H2.gy.elim λm hm=>?_
  obtain⟨oL,_,_,eL,dL,_⟩:=id hm
  have F:xV aT.heap (ab::l):=λe W=>by
   rcases bT.mp W with rfl|W
   ·exact⟨by rw[H.kind];decide,_,oL,Z,eL,λvs q=>nomatch dL.symm.trans q⟩
   ·obtain⟨h1,L,o,h2,h3,h4⟩:=hl e W
    exact⟨h1,L,o,h2,(λe W L o q1 q2=>H2.nx.keep L o q2 (hT L (JQ W q1)) (λq=>nomatch q):∀e∈l,∀L o,e.frame=aa L->s.heap.get? L=aa o->aT.heap.get? L=aa o) e W L o h2 h3,h4⟩
  have FF:aT.heap.FunFrames (hideAll aT.heap (ab.locals::frs l)) (ab::l):=F.acJ λe W L q=>by
   rcases bT.mp W with rfl|W
   ·rw[Z] at q;obtain rfl:=aW q;exact bi
   ·exact bM _ (JQ W q)
  refine mF (Raise_classB R1.2.2 vB vB.self ((H_ (sc:=fs 12) rfl).run w _ ab aT bb _ G H2.cI _ _ _ ⟨rfl,rfl⟩) λh' e hx=>?_)
  refine ba λN_=>?_
  obtain⟨ob,tp,W,adf,hd⟩:=hx.there
  apply N_
  have Np:(hideAll aT.heap (ab.locals::frs l)).get? e=ak:=by
   induction q:(hideAll aT.heap (ab.locals::frs l)).get? e with
   |none=>rfl
   |some o=>exact ns (hx.new.symm.trans (of_hideAll _ q))
  refine wpAny_leaving_firstW (a0:=tp) (EK jv) (FF.of_keeps λb o hb _=>⟨o,hx.keeps b o hb,rfl⟩) Z W (λb o hb=>hx.keeps b o (of_hideAll _ hb)) Np hd rfl rfl λf_ hL=>?_
  refine hL.elim λk1 acK=>acK.elim λacL acM=>acM.elim λk3 k4=>acL.elim λ_ CZ=>CZ.elim λ_ k2=>?_
  exact hE e aT bb ab.locals f_ tp G H2.nx (H.iW.resolve_right (λq=>nomatch q):s.heap.get? ab.locals=ak) H2.ii ⟨oL,eL,λvs q=>nomatch dL.symm.trans q⟩ ⟨k1,Np,k2,by exact adf▸k3⟩ ((adK hx.keeps).trans k4)
 ·exact nS r hr (λ_ h=>dw h) λ_ h=>h
structure mU(L:ag)(o:Obj)(s:av)(g:aY):Prop where
 at_:∃sl,s.heap.get? L=aa {o with slots:=sl}
 off:g L=ak
 tb:L∉TB
 nf:∀vs,o.data≠bC vs
theorem mU.step(h:mU L o s g)(N:Nx mu s g s' g')(V:L∉mu):mU L o s' g':=
 h.at_.elim λY e=>⟨⟨Y,N.keep L _ e h.tb V⟩,N.old L _ e h.off V,h.tb,h.nf⟩
noncomputable def md(d:D)(L:ag)(o:Obj):a9->av->aY->ai->List ag->Prop:=λw s g v ad=>ad=[L]/\Rep w g v d/\mU L o s g
theorem md.ok:p0 (md d L o):=λw s g v ad S V=>by
 have Y:=V.1;have W:=V.2.1;have h3:=V.2.2
 subst Y
 exact⟨λa Z=>a_.mp Z▸⟨h3.off,h3.at_.elim λG e=>⟨_,e,h3.nf⟩⟩,λmu s' g' H N=>⟨rfl,W.mono N.gg,h3.step N (H L (a_.mpr rfl))⟩⟩
theorem Vg{aB:Str->List ag}{xn:Str}{d0:D}{ep zp hp Nq:Pos}{args:List au}{ret:List bw}
 (H:bj w mu aw aE s g ab sc ρ aB)(R:Rm (n+2) A)(jv:A.frames=aa [ab,eL])(he:ab.frame=aa ab.locals)(hL:eL.frame=aa L)(DS:eL.scope.kind≠.module)(hx:ρ.lookup xn=aa (.obj (md d0 L o)))
 (h1:sc.names.lookup (a6 "int_divmod")=aa cj)(h2:sc.names.lookup (a6 "ZeroDivisionError")=aa cj)(ha:args.all cu=ae)(h:cn (n+2) sc ρ args λds=>∃a:Int,ds=[.int a,.int 0]):
 wpAny (model PG w) A (exec (.Try (.Expr (bU (aS (a6 "int_divmod") np) args [] cp) ep::ret) [.ExceptHandler (aa (aS (a6 "ZeroDivisionError") zp)) ak [.Continue Nq] hp] [] [] aM) ab)
  (λf s'=>f=.cont/\∃g',bj w mu aw aE s' g' ab sc ρ aB) E s:=by
 refine ba λN_=>?_
 obtain⟨vx,_,⟨e7,_,K⟩,_⟩:=H.var xn _ hx
 apply N_
 have Lx:L∈aB xn:=by exact e7▸bi
 have Ln:=H.dH xn _ hx L Lx
 have hap:∀x b,ρ.lookup x=aa b->x≠xn->L∉aB x:=λx b e q q'=>H.e7 xn x _ b hx e rfl q.symm L Lx q'
 refine wpAny_Try_except (mF (qS (I1 (FO h1) ha h H.st R H.cI λvs aA aN ds Z G r qo=>?_) ?_ rfl))
 rotate_left
 ·dsimp only[rf];rw[H.kind];rfl
 refine ba λN_=>?_
 obtain⟨a,rfl⟩:=qo
 have H1:=H.step Z G
 have K1:=K.step Z (λq=>nomatch q)
 have ⟨m,oE,_,_,eE,dE,_⟩:=H1.gy
 have nE:∀vs,oE.data≠bC vs:=λvs q=>nomatch dE.symm.trans q
 refine K1.at_.elim λsl1 eL1=>?_
 apply N_
 have new:∀{s:av} {g:aY} {a:ag},bj w mu aw aE s g ab sc ρ aB->s.heap.get? a=ak->aw.heap.get? a=ak\/a∈mu:=λ{s g a} H e=>by
  by_cases q:a∈mu
  ·exact .inr q
  ·induction e':aw.heap.get? a with
   |none=>exact .inl rfl
   |some o=>refine(H.nx.there a o e' q).elim λo' vo=>?_;exact ns (e.symm.trans vo)
 refine TC G R r jv ?_ ?_ λe aT bb I f_ a0 gd C eI gI ⟨oI,eI2,nI⟩ oW ZU=>?_
 ·intro e Eg
  rcases bT.mp Eg with rfl|Eg
  ·exact⟨by rw[H.kind];decide,_,oE,he,eE,nE⟩
  ·obtain rfl:=a_.mp Eg
   exact⟨DS,L,_,hL,eL1,K.nf⟩
 ·intro b hb
  have:b=ab.locals\/b=L:=by
   simpa[frs,he,hL] using hb
  rcases this with rfl|rfl
  ·exact H1.st.dN eE (.inr nE)
  ·exact K.tb
 have H2:=H1.step C gd
 have K2:=K1.step C (λq=>nomatch q)
 refine K2.at_.elim λsl2 M1=>?_
 have fr:frs [ab,eL]=[ab.locals,L]:=by simp[frs,he,hL]
 replace oW:=fr▸oW
 have Y:∀h',Heap.StaysIn (hideAll aT.heap [I,ab.locals,L]) h'->aT.heap.UpToSlots h'->bj w mu aw aE {aT with heap:=h'} bb ab sc ρ aB:=λh' st up=>by
  refine H2.slots (mt:=[I,ab.locals,L]) (tk:=aT.toks) (λb o q e=>st b o (hideAll_get _ e q)) up (λa ha=>?_) λx b hb=>?_
  ·simp only[bT,ca,or_false] at ha
   rcases ha with rfl|rfl|rfl
   ·refine⟨new H1 eI,gI,⟨oI,eI2,nI⟩,λx c hc q=>?_⟩
    obtain⟨_,⟨v,o',e',_⟩,_⟩:=H1.cP x c hc
    exact sn ((q▸e').symm.trans eI)
   ·exact⟨H2.iW,H2.ii,(H2.gy.elim λm W=>W.elim λo' W=>W.elim λ_ W=>W.elim λ_ W=>W.elim λe' W=>W.elim λd' _=>⟨o',e',λvs q=>nomatch d'.symm.trans q⟩),λx c hc=>(H2.cP x c hc).2.2⟩
   ·exact⟨Ln.1.1 rfl,K2.off,⟨_,M1,K.nf⟩,Ln.2.2⟩
  ·by_cases q:x=xn
   ·subst q
    obtain rfl:=aW (hx.symm.trans hb)
    exact .inr λv W=>by refine W.elim λacN r4=>acN.elim λr1 acO=>acO.elim λr2 r3=>?_;exact⟨⟨r1,r2,((up L _ M1 K.nf).elim λsl e=>⟨sl,e⟩),r3.off,r3.tb,r3.nf⟩,r4⟩
   ·refine .inl λa ha=>?_
    simp only[bT,ca,or_false] at ha
    rcases ha with rfl|rfl|rfl
    ·intro q'
     obtain⟨⟨_,o',e'⟩,_⟩:=H1.dH x b hb a q'
     exact nomatch e'.symm.trans eI
    ·exact λq'=>(H2.dH x b hb _ q').2.1 rfl
    ·exact hap x b hb q
 refine wpAny_looks_onW jv he oW λjQ ZV ZW=>?_
 refine wpAny_landsW ZV λB V ZX=>?_
 have DT:=(ZU.trans ZW).trans ZX
 refine ba λN_=>?_
 obtain⟨ob,hob,acP⟩:=V.there
 apply N_
 refine wpAny_handleBy_builtin (X:=yx) (T:=yx) (b:=ae) vB.base (by rw[qV];kernel_rfl) vB.self ((H_ h2).run w _ ab _ bb _ (Y B V.1 DT).st (Y B V.1 DT).cI _ _ _ ⟨rfl,⟨ob,hob,acP⟩,?_⟩)
 refine lands_againW V λyD ZY ZZ=>?_
 have A5:=Y yD ZY.1 (DT.trans ZZ)
 refine mF ?_
 show wpAny _ _ (do standAt Nq;pure SK) _ _ _
 exact jb (a8 ⟨rfl,bb,A5⟩)
noncomputable abbrev M2:String:="str_ascii_iterator"
structure ZS(z TI TO i1 i2 l:ag)(xs:Array ai)(x:Str)(t:Tok)(f0:ai)(i j:Nat)(h:dp):Prop where
 z:IsZip h z TI TO f0
 ti:l4 h TI (.ref i1) (.ref i2)
 to:∃a b,l4 h TO a b
 i1:h.IsListIter i1 l i
 i2:h.IsStrIter i2 M2 x t j
 l:h.IsList l xs
theorem ZS.but{z TI TO i1 i2 l:ag}{xs:Array ai}{t:Tok}{Y:ai}(Z:ZS z TI TO i1 i2 l xs x t Y i j h)(k:∀b∈[z,TI,TO,i1,i2,l],∀o,h.get? b=aa o->h'.get? b=aa o):ZS z TI TO i1 i2 l xs x t Y i j h':=
 ⟨k _ (bi) _ Z.z,k _ ((bM _ bi)) _ Z.ti,Z.to.elim λa V=>V.elim λb e=>⟨a,b,k _ (bM _ (bM _ bi)) _ e⟩,Z.i1.at λo e=>k i1 (bM _ (bM _ (bM _ bi))) o e,(Z.i2.elim λo V=>V.elim λe r=>⟨o,k _ (by simp) _ e,r⟩),Z.l.at λo e=>k l (by simp) o e⟩
section
variable {fR:ud} {w:a9} {A:bN} {E:ai->av->Prop} {s:av} {z TI TO i1 i2 l:ag} {xs:Array ai} {x:Str} {t:Tok} {i:Nat}
theorem WP(D:t9 z TI TO i1 i2 l l)(Z:ZS z TI TO i1 i2 l xs x t .none i i s.heap)(hv:xs[i]?=aa v)(hc:x.cps[i]?=aa c)
 (hQ:∀h' tk,ZS z TI TO i1 i2 l xs x t (rawInt s.heap.objs.size) (i+1) (i+1) h'->l4 h' s.heap.objs.size v (.str ⟨#[c]⟩ s.toks)->(∀b o,b≠z->b≠TO->b≠i1->b≠i2->s.heap.get? b=aa o->h'.get? b=aa o)->Q (.ref s.heap.objs.size) {s with heap:=h',toks:=tk}):
 wpAny (model fR w) A (Builtin.«zip.__next__» ⟨[.ref z],[]⟩) (λdk s'=>∃v,dk=.done (.ret v)/\Q v s') E s:=by
 refine ba λN_=>?_
 obtain⟨G,C,⟨a,b,Nr⟩,h1,h2,hl⟩:=Z
 apply N_
 show wpAny _ _ (field (.ref z) 2>>=_) _ _ _
 refine w_field G rfl (x:=.bool aI) rfl ?_
 refine w_field G rfl (x:=.ref TI) rfl ?_
 refine lV C rfl ?_
 refine aJ ?_
 refine w_field G rfl (x:=.none) rfl (a8 ?_)
 dsimp only[if_true]
 refine ka ?_
 refine w_field G rfl (x:=.ref TO) rfl ?_
 refine z6 G (eA _) λk1 z1 V=>?_
 refine aJ ?_
 refine aJ (aJ (Ge ?_))
 refine aJ (wpAny_nextOf_list_item (h1.extBut V.extBut D.i1z) (hl.extBut V.extBut D.l1z) hv λk2 j1 B=>a8 ?_)
 have t2:l4 k2 TO a b:=B.extBut _ _ D.TOi1 (V.extBut _ _ D.TOz Nr)
 refine lV t2 rfl ?_
 refine Fw t2 λk3 t3 f=>?_
 replace t3:l4 k3 TO v b:=t3
 refine xy (a8 ?_)
 refine aJ (aJ (Ge ?_))
 refine aJ (wpAny_nextOf_ascii_item (((h2.extBut V.extBut D.i2z).extBut B.extBut D.i12.symm).extBut f.extBut D.TOi2.symm) hc λk4 j2 Y=>a8 ?_)
 refine lV (Y.extBut _ _ D.TOi2 t3:l4 k4 TO v b) rfl ?_
 refine Fw (Y.extBut _ _ D.TOi2 t3:l4 k4 TO v b) λW t5 s5=>?_
 replace t5:l4 W TO v (.str ⟨#[c]⟩ s.toks):=t5
 refine xy (a8 (a8 ?_))
 refine lV t5 rfl ?_
 refine wP ?_ (by simp[sizeLine])
 have sz:W.objs.size=s.heap.objs.size:=by simp only[s5.1,Y.1,f.1,B.1,V.1]
 have up:∀b o,b≠z->b≠TO->b≠i1->b≠i2->s.heap.get? b=aa o->W.get? b=aa o:=λb o c1 c2 c3 c4 e=>s5.extBut _ _ c2 (Y.extBut _ _ c4 (f.extBut _ _ c2 (B.extBut _ _ c3 (V.extBut _ _ c1 e))))
 have z5:=s5.extBut _ _ D.TOz.symm (Y.extBut _ _ D.i2z.symm (f.extBut _ _ D.TOz.symm (B.extBut _ _ D.i1z.symm z1)))
 have M3:z<W.objs.size:=cq z5
 refine aJ ?_
 dsimp only[adk]
 refine z6 (bZ _ z5) (eA _) λk7 z7 s7=>?_
 refine ET z7 (by simp) λk8 z8 s8=>?_
 have H:∀b o,b≠z->W.get? b=aa o->k8.get? b=aa o:=λb o c1 e=>s8.extBut _ _ c1 (s7.extBut _ _ c1 (bZ _ e))
 have p8:l4 k8 W.objs.size v (.str ⟨#[c]⟩ s.toks):=s8.extBut _ _ (jB M3) (s7.extBut _ _ (jB M3) (cB _ rfl))
 refine a8 ⟨_,rfl,?_⟩
 rw[sz] at p8 z8
 rw[sz]
 exact hQ k8 _ ⟨z8,H _ _ D.TIz (up _ _ D.TIz D.TITO D.TIi1 D.TIi2 C),⟨_,_,H _ _ D.TOz t5⟩,(((j1.extBut f.extBut D.TOi1.symm).extBut Y.extBut D.i12).extBut s5.extBut D.TOi1.symm).at λo e=>H _ o D.i1z e,
  ((j2.extBut s5.extBut D.TOi2.symm).elim λo q_=>q_.elim λe r=>⟨o,H _ _ D.i2z e,r⟩),hl.at λo e=>(λe=>H _ _ D.l1z (up _ _ D.l1z D.l1TO D.l1i1 D.l1i2 e):∀{o},s.heap.get? l=aa o->k8.get? l=aa o) e⟩ p8 λb o c1 c2 c3 c4 e=>H b o c1 (up b o c1 c2 c3 c4 e)
theorem Yv{Q:tS->av->Prop}(hh:A.handled=ak)(D:t9 z TI TO i1 i2 l l)(Z:ZS z TI TO i1 i2 l xs x t .none i i s.heap)(hv:xs[i]?=ak)
 (hE:∀h' e,(∀b o,b≠z->b≠i1->s.heap.get? b=aa o->h'.get? b=aa o)->(∃o,h'.get? e=aa o/\o.cls=aK "StopIteration")->E (.ref e) {s with heap:=h'}):
 wpAny (model fR w) A (Builtin.«zip.__next__» ⟨[.ref z],[]⟩) Q E s:=by
 refine ba λN_=>?_
 obtain⟨V,H,⟨a,b,Nr⟩,h1,h2,hl⟩:=Z
 apply N_
 show wpAny _ _ (field (.ref z) 2>>=_) _ _ _
 refine w_field V rfl (x:=.bool aI) rfl ?_
 refine w_field V rfl (x:=.ref TI) rfl ?_
 refine lV H rfl ?_
 refine aJ ?_
 refine w_field V rfl (x:=.none) rfl (a8 ?_)
 dsimp only[if_true]
 refine ka ?_
 refine w_field V rfl (x:=.ref TO) rfl ?_
 refine z6 V (eA _) λk1 f G=>?_
 refine aJ ?_
 refine aJ (aJ (Ge ?_))
 refine aJ (wpAny_nextOf_list_end hh (h1.extBut G.extBut D.i1z) (hl.extBut G.extBut D.l1z) hv λk2 e C he=>?_)
 obtain⟨oe,Y,W⟩:=he
 have B:e≠z:=λq=>by subst q;obtain rfl:=aW (Y.symm.trans (C _ _ D.i1z.symm f));simp at W
 exact ET (C _ _ D.i1z.symm f) (eA _) λk3 _ s3=>hE k3 e (λb o c1 c3 q=>s3.extBut _ _ c1 (C _ _ c3 (G.extBut _ _ c1 q))) ⟨oe,s3.extBut _ _ B Y,W⟩
theorem WQ{Q:Option ai->av->Prop}(D:t9 z TI TO i1 i2 l l)(Z:ZS z TI TO i1 i2 l xs x t .none i i s.heap)(Y:xs[i]?=aa v)(W:x.cps[i]?=aa c)
 (H:∀h' tk,ZS z TI TO i1 i2 l xs x t (rawInt s.heap.objs.size) (i+1) (i+1) h'->l4 h' s.heap.objs.size v (.str ⟨#[c]⟩ s.toks)->(∀b o,b≠z->b≠TO->b≠i1->b≠i2->s.heap.get? b=aa o->h'.get? b=aa o)->Q (aa (.ref s.heap.objs.size)) {s with heap:=h',toks:=tk}):
 wpAny (model fR w) A (pyNext (.ref z)) Q E s:=by
 have V:s.TypeIs (.ref z) "zip":=⟨_,Z.z,rfl⟩
 exact aJ (ww (qw (name:=a6 "__next__") V F.slot_zip_next (jZ F.slot_zip_next V F.entry_zip_next (WP D Z Y W λh' tk G C B=>a8 (H h' tk G C B)) (F.args_zip_next_1 _))))
theorem WR{Q:Option ai->av->Prop}(hh:A.handled=ak)(D:t9 z TI TO i1 i2 l l)(Z:ZS z TI TO i1 i2 l xs x t .none i i s.heap)(W:xs[i]?=ak)
 (H:∀h',(∀b o,b≠z->b≠i1->s.heap.get? b=aa o->h'.get? b=aa o)->Q ak {s with heap:=h'}):wpAny (model fR w) A (pyNext (.ref z)) Q E s:=by
 have Y:s.TypeIs (.ref z) "zip":=⟨_,Z.z,rfl⟩
 refine aJ (ww (qw (name:=a6 "__next__") Y F.slot_zip_next (jZ F.slot_zip_next Y F.entry_zip_next (Yv hh D Z W λh' e G V=>V.elim λo V=>V.elim λC B=>?_) (F.args_zip_next_1 _))))
 refine q7 (T:="StopIteration") (b:=ae) ⟨o,C,B⟩ FY ?_
 exact a8 (H _ G)
end
noncomputable abbrev yS(h:dp)(l:ag):dp:=h.push {cls:=aK "list_iterator",data:=bC #[.ref l,.int 0 0]}
noncomputable abbrev yT(h:dp)(l:ag)(x:Str)(t:Tok):dp:=(yS h l).push {cls:=aK M2,data:=bC #[.str x t,.int 0 0]}
noncomputable abbrev yU(h:dp)(l:ag)(x:Str)(t:Tok):dp:=(yT h l x t).push {cls:=aK "tuple",data:=.seq #[.ref h.objs.size,.ref (yS h l).objs.size]}
noncomputable abbrev vl(h:dp)(l:ag)(x:Str)(t:Tok):dp:=(yU h l x t).push {cls:=aK "tuple",data:=.seq #[.none,.none]}
noncomputable abbrev yV(h:dp)(l:ag)(x:Str)(t:Tok):dp:=(vl h l x t).push {cls:=aK "zip",data:=bC #[.none,.bool aI,.bool aI,.ref (yT h l x t).objs.size,.ref (yU h l x t).objs.size]}
set_option maxHeartbeats 4000000 in
theorem Vh(l:ag)(xs:Array ai)(x:Str)(t:Tok)(W:x.cps.all (·<128)=ae):
 Meets (Builtin.«zip.__new__» ⟨[aK "zip",.ref l,.str x t],[]⟩) (λ_ R s=>s.heap.IsList l xs/\R (.ok (.ret (.ref (vl s.heap l x t).objs.size))) {s with heap:=yV s.heap l x t}):=
 .of_wp λfR w A R s h=>by
  obtain⟨Z,g,d,tk,os⟩:=s;have V:=h.1;have h:=h.2
  have Y:=sub_zip
  wp_walk using s6 (V:Heap.IsList (Ro ⟨Z,g,d,tk,os⟩) l xs),EU W
  exact⟨_,rfl,h⟩
noncomputable def om(l:List D)(x:Str):List D:=(l.zip (x.cps.toList.map λc=>D.str ⟨#[c]⟩)).map λp=>.tup [p.1,p.2]
theorem A6(h:l.length<=x.length):(om l x).length=l.length:=by
 unfold om
 simp only[aR,P2,aR]
 exact iL h
theorem Ia(h:(om l x)[i]?=aa d):∃a c,l[i]?=aa a/\x.cps[i]?=aa c/\d=.tup [a,.str ⟨#[c]⟩]:=by
 unfold om at h
 rw[ci] at h
 induction q:(l.zip (x.cps.toList.map λc=>D.str ⟨#[c]⟩))[i]? with
 |none=>rw[q] at h;exact ns h
 |some p=>
  rw[q] at h;obtain rfl:=aW h
  have z:=NP.1 q
  induction r:x.cps.toList[i]? with
  |none=>rw[ci,r] at z;exact ns z.2
  |some c=>rw[ci,r] at z;exact⟨_,c,z.1,by simpa using r,by show D.tup [p.1,p.2]=_;rw[<-aW z.2]⟩
theorem cV.f{vs:Array ai}(hd:o.data=bC vs)(h:∀q t,vs[1]?≠aa (.str q t)):cV o:=λ_ q t e V=>h q t (Data.fields.inj (hd.symm.trans e)▸V)
theorem ZS.ob{z TI TO i1 i2 l:ag}{xs:Array ai}{t:Tok}{V:ai}(Z:ZS z TI TO i1 i2 l xs x t V i j h):∀b∈[z,TI,TO,i1,i2],∃o,h.get? b=aa o/\cV o/\o.cls≠.none:=
 fm ⟨_,Z.z,cV.f rfl λ_ _ e=>Fe (aW e),nofun⟩ (fm ⟨_,Z.ti,cV.of λ_=>sf,nofun⟩ (fm (Z.to.elim λa q=>q.elim λb e=>⟨_,e,cV.of λ_=>sf,nofun⟩)
  (fm (Z.i1.elim λo q=>⟨o,q.1,cV.f q.2.2 λ_ _ e=>Fe (aW e),q.2.1▸nofun⟩) (sG (Z.i2.elim λo q=>⟨o,q.1,cV.f q.2.2 λ_ _ e=>Fe (aW e),q.2.1▸nofun⟩)))))
structure Dm(h:dp)(a:ag)(iI:Array ai)(x:Str)(t:Tok)(h':dp)(z TI TO i1 i2:ag):Prop where
 za:t9 z TI TO i1 i2 a a
 Z:ZS z TI TO i1 i2 a iI x t .none 0 0 h'
 lo:∀b∈[z,TI,TO,i1,i2],h.objs.size<=b
 keep:∀b o,h.get? b=aa o->h'.get? b=aa o
theorem Dm.of{V:Array ai}{t:Tok}(C:h.IsList a V)(Y:a<h.objs.size):∃TI TO i1 i2,Dm h a V x t (yV h a x t) (vl h a x t).objs.size TI TO i1 i2:=by
 have W:(yS h a).objs.size=h.objs.size+1:=gX ..
 have Z:(yT h a x t).objs.size=h.objs.size+2:=(gX ..).trans (aQ (·+1) W)
 have H:(yU h a x t).objs.size=h.objs.size+3:=(gX ..).trans (aQ (·+1) Z)
 have G:(vl h a x t).objs.size=h.objs.size+4:=(gX ..).trans (aQ (·+1) H)
 have p:∀{b o B} {h:dp},h.get? b=aa o->(h.push B).get? b=aa o:=λe=>bZ _ e
 have keep:∀b o,h.get? b=aa o->(yV h a x t).get? b=aa o:=λb o e=>p (p (p (p (p e))))
 refine⟨(yT h a x t).objs.size,(yU h a x t).objs.size,h.objs.size,(yS h a).objs.size,?_,⟨cB _ rfl,p (p (cB _ rfl)),⟨_,_,p (cB _ rfl)⟩,⟨_,p (p (p (p (cB _ rfl)))),rfl,rfl⟩,⟨_,p (p (p (cB _ rfl))),rfl,rfl⟩,C.at λo e=>keep _ o e⟩,?_,keep⟩
 ·rw[W,Z,H,G];exact zipApart_new Y Y
 ·rw[W,Z,H,G];exact fm (cy _ _) (fm (cy _ _) (fm (cy _ _) (fm (bv _) (sG (cy _ _)))))
theorem DU{b z c d e f:α}(h:b∉[z,c,d,e,f]):b≠z/\b≠d/\b≠e/\b≠f:=
 ⟨λq=>h (q▸bi),λq=>h (q▸bM _ (bM _ bi)),λq=>h (q▸bM _ (bM _ (bM _ bi))),λq=>h (q▸bM _ (bM _ (bM _ (bM _ bi))))⟩
theorem Yw{z TI TO i1 i2:ag}{V:Array ai}{t:Tok}(hh:A.handled=aU)(D:t9 z TI TO i1 i2 a a)(G:aP w g V.toList l)(hl:l.length<=x.length):
 dz w A g z (b7 ts c p) (om l x) [z,TI,TO,i1,i2,a] [z,TI,TO,i1,i2] λi h=>ZS z TI TO i1 i2 a V x t .none i i h where
 sub _ Y:=sZ [a] Y
 frame _ _ _ Z hk:=Z.but hk
 nc _ _ Z b Y:=(Z.ob b Y).elim λo q=>⟨o,q.1,q.2.1⟩
 item i d C Q E hd Z H:=by
  obtain⟨y,ch,hy,hc,rfl⟩:=Ia hd
  have hi:i<V.size:=cg (ey.1 hy).1 (bn G.1.symm)
  have hv:V[i]?=aa V[i]:=nq hi
  refine WQ D Z hv hc λk1 B W P1 f=>⟨_,rfl,?_⟩
  refine wpAny_letOwnedTupleGo_zip W.z λk2 y2 s2=>?_
  exact H _ k2 B (.inr ⟨_,#[V[i],.str ⟨#[ch]⟩ C.toks],_,rfl,⟨_,s2.extBut _ _ (jB (cq Z.z)) P1,rfl,_,rfl⟩,aP.cons (G.2 i _ _ (ku.trans hv) hy) (aP.cons (.str _ _) aP.nil),rfl,_,_,_,rfl⟩)
   ⟨y2,s2.extBut _ _ D.TIz W.ti,(W.to.elim λa q_=>q_.elim λb e=>⟨a,b,s2.extBut _ _ D.TOz e⟩),W.i1.extBut s2.extBut D.i1z,W.i2.extBut s2.extBut D.i2z,W.l.extBut s2.extBut D.l1z⟩ λb o Y e=>
    have n:=DU Y
    s2.extBut _ _ n.1 (f b o n.1 n.2.1 n.2.2.1 n.2.2.2 e)
 done C Q E Z H:=WR hh D Z (EA (bn ((A6 hl).trans G.1.symm).symm)) λk1 f=>H k1 C.toks λb o Y e=>f b o (DU Y).1 (DU Y).2.2.1 e
 self _ _ _ _ Z H:=PJ Z.z H
theorem fN.acQ{k:List D->Prop}(hl:l.length<=x.length)(B:x.length<=10000)(f:x.cps.all (·<128)=ae)(hk:k (om l x)):fN n (aK "zip") [.lst l,.str x] (b7 ts c p) k:=.mk λw A s g vs S R r E=>by
 obtain⟨v,u,rfl,h1,h2⟩:=r.two
 obtain⟨a,nn,Y,rfl,Z,rl⟩:=h1.lst_inv
 obtain⟨t,rfl⟩:=h2.str_inv
 have C:s.heap.IsList a Y:=⟨_,S.sub _ _ Z,rfl,nn,rfl⟩
 have G:=cq (S.sub _ _ Z)
 refine callType_new F.called_zip (by decide) (F.typeCall_zip_2 _ _) (F.newCall_zip_2 _ _) (λobj=>F.args_object_init_3 obj _ _) F.entry_zip_new (Vh a Y x t f) ⟨C,?_⟩
 refine(Dm.of (x:=x) (t:=t) C G).elim λTI q=>q.elim λTO q=>q.elim λi1 q=>q.elim λi2 W=>?_
 generalize (vl s.heap a x t).objs.size=z at W
 generalize yV s.heap a x t=h' at W
 obtain⟨N,H⟩:=S.ext' (h':=h') (tk:=s.toks) W.keep
 refine⟨⟨_,W.Z.z,rfl⟩,PJ W.Z.z ⟨z,_,_,_,om l x,g,rfl,N,H,Yw R.2.2 W.za rl hl,W.Z,λb V=>hY S (W.lo b V),λb V=>(cQ (s:=[z,TI,TO,i1,i2]) (t:=[a]).1 V).elim (λV=>(W.Z.ob b V).elim λo q=>⟨H.dN q.1 (.inl q.2.2),cq q.1,.inl V⟩) λV=>a_.1 V▸⟨H.dN (H.sub _ _ Z) (.inl nofun),cq (H.sub _ _ Z),.inr ⟨_,Z⟩⟩,aD (bn (A6 hl)) (aD hl B),hk⟩⟩
noncomputable abbrev oF:=a9->av->aY->ai->List ag->Prop
def sj(R:oF)(b':Bd):Prop:=∀w s g v ad,St w s g->R w s g v ad->∃g' V,St w s g'/\(∀b o,g b=aa o->g' b=aa o)/\(∀b,b∉ad->g' b=g b)/\(∀a∈V,a∈ad)/\∀Y ab,R w s g Y ad->cU w s g' ab Y V b'
section
variable {n:Nat} {sc:bf} {ρ:ay}
theorem bj.turn{aB:Str->List ag}{R:oF}{b':Bd}(H:bj w mu aw aE s g ab sc ρ aB)(f:ρ.lookup x=aa (.obj R))(hf:b'.isFn=aI)(T:sj R b'):
 ∃g' V,bj w mu aw aE s g' ab sc ((x,b')::ρ) V/\(∀b o,g b=aa o->g' b=aa o):=by
 refine ba λW=>?_
 refine(H.var x _ f).elim λv Z=>Z.elim λh1 G=>G.elim λr O=>?_
 apply W
 refine ba λW=>?_
 obtain⟨g',Y,S',up,same,sub,rep⟩:=T w s g v _ H.st r
 apply W
 refine⟨g',_,H.change (mt:=aB x) (il:=Y) f rfl hf ⟨λb o e _ _=>e,λb o e _=>⟨o,e⟩,up,λb o e C hm=>(same b hm).trans C,rfl⟩ S' (λa h=>h) (λa B o e=>?_) (λv' _ q=>rep v' ab q.1) (λa B=>.inl (sub a B)),up⟩
 obtain⟨_,o',C,d⟩:=(O w s g v _ H.st r).1 a B
 obtain rfl:=aW (e.symm.trans C)
 exact cV.of d
theorem aL.turn{R:oF}{b':Bd}{b:List bw}{k:Fl->ay->Prop}(Y:ρ.lookup x=aa (.obj R))(W:b'.isFn=aI)(T:sj R b')(h:aL n sc ((x,b')::ρ) b k):aL n sc ρ b k:=.mk λw A ab mu aw aE s g aB H R E=>by
 obtain⟨g',V,Z,up⟩:=H.turn Y W T
 exact h.run w A ab mu aw aE s g' V Z R E
theorem Sl{ad:List ag}(W:∀b,b∉ad->aN b=g b)(Z:∀a∈ad,g a=ak)(N:Nx [] s aN s' bb)(Y:St w s' bb):∃g',Nx [] s g s' g'/\St w s' g':=by
 refine⟨λb=>if b∈ad then ak else bb b,⟨N.keep,N.there,λb o e=>?_,λb o e H G=>?_,N.os⟩,⟨Y.df,Y.gx,Y.blt,Y.lim,Y.bmain,Y.tab,λb o e=>?_,λP C=>?_,Y.gens⟩⟩
 ·have V:b∉ad:=λq=>ns ((Z b q).symm.trans e)
  simp only[be V]
  exact N.gg b o ((W b V).trans e)
 ·by_cases V:b∈ad
  ·simp[V]
  ·rw[be V];exact N.old b o e ((W b V).trans H) G
 ·by_cases V:b∈ad
  ·simp[V] at e
  ·simp only[be V] at e;exact Y.sub b o e
 ·by_cases V:P∈ad
  ·simp[V]
  ·rw[be V];exact Y.off P C
set_option tactic.hygienic true in
theorem bj.mi{aB:Str->List ag}{R:oF}(H:bj w mu aw aE s g ab sc ρ aB)(B:ρ.lookup x=aa (.obj R))(T:sj R (.dat d)):
 ∃aN,St w s aN/\c8 w s aN ab sc ((x,.dat d)::je ρ)/\(∀b,b∉aB x->aN b=g b)/\∀a∈aB x,g a=ak:=by
 obtain⟨v,h1,r,O⟩:=H.var x _ B
 refine ba λN_=>?_
 obtain⟨aN,f,Z,up,same,sub,rep⟩:=T w s g v _ H.st r
 apply N_
 have cx:∀y c,ab.cells.lookup y=aa c->c∉aB x:=λy c V q=>(H.dH x _ B _ q).2.2 y c V rfl
 have vs:∀y u,fF s g ab y u->fF s aN ab y u:=λy u h=>by
  rcases h with ⟨Y,W,m,q3,q4⟩|⟨Y,c,W,q3,q4⟩
  ·exact .inl ⟨Y,(same _ (λq=>(H.dH x _ B _ q).2.1 rfl:ab.locals∉aB x)).trans W,m,q3,q4⟩
  ·exact .inr ⟨Y,c,W,(same _ (cx _ _ W)).trans q3,q4⟩
 refine⟨aN,Z,⟨H.kind,H.glob,H.gq,H.ks,H.lam,H.e6,λy c V=>⟨(same _ (cx y c V)).trans (H.cP y c V).1,(H.cP y c V).2.1⟩,H.ff,λy b G=>?_⟩,same,λa ha=>(((O w s g v _ H.st r).1) a ha).1⟩
 rw[j5] at G
 split at G
 ·rename_i e
  obtain rfl:=aW G;subst e
  exact⟨v,f,vs _ _ h1,rep v ab r⟩
 ·rcases F8 G with rfl|⟨d,rfl,hd⟩
  ·obtain⟨c,V⟩:=Ap G
   refine(H.var y _ V).elim λu nh=>nh.elim λY _=>?_
   exact⟨u,[],vs _ _ Y,rfl⟩
  ·refine(H.var y _ hd).elim λu qh=>qh.elim λY C=>C.elim λW _=>?_
   exact⟨u,[],vs _ _ Y,W.mono up,rfl⟩
theorem aO.WS{R:oF}{t:au}{b o:List bw}{k:Fl->ay->Prop}(f:ρ.lookup x=aa (.obj R))(T:sj R (.dat d))(h:bH n sc ((x,.dat d)::je ρ) t λc=>cM c (aL n sc ρ b k) (aL n sc ρ o k)):aO n sc ρ (.If t b o aM) k:=.mk λw A ab mu aw aE s g aB H R E=>by
 obtain⟨aN,V,Y,same,Z⟩:=H.mi f T
 refine Be (h.wp V R Y λc s' bb N W G=>?_)
 obtain⟨g',C,B⟩:=Sl same Z N W
 induction c with
 |true=>exact(G.t rfl).run w A ab mu aw aE s' g' aB (H.step C B) R E
 |false=>exact(G.f rfl).run w A ab mu aw aE s' g' aB (H.step C B) R E
theorem bj.put{aB:Str->List ag}{R R':oF}(H:bj w mu aw aE s g ab sc ρ aB)(W:ρ.lookup x=aa (.obj R))(f:p0 R')(Z:a∈aB x)(hs:kG a s.heap h')
 (hr:∀v,R w s g v (aB x)->R' w {s with heap:=h',toks:=tk} g v (aB x)):∃Y,bj w mu aw aE {s with heap:=h',toks:=tk} g ab sc ((x,.obj R')::ρ) Y:=by
 refine ba λG=>?_
 refine(H.var x _ W).elim λv C=>C.elim λh1 B=>B.elim λr O=>?_
 apply G
 refine ba λG=>?_
 obtain⟨h3,o,e,d⟩:=(O w s g v _ H.st r).1 a Z
 obtain⟨⟨q1,_⟩,_⟩:=H.dH x _ W a Z
 obtain⟨N,S'⟩:=St.changes (mt:=[a]) (h':=h') (tk:=tk) H.gR H.st H.nx H.fw (λb V=>by
  cases a_.mp V;exact⟨q1 rfl,h3,_,e,cV.of d⟩) (λb o V e=>(hs.2 b (λq=>V (a_.mpr q))).trans e)
 apply G
 refine⟨_,H.change (il:=aB x) W rfl rfl N S' (λb V=>a_.mp V▸Z) (λb V o' e'=>?_) (λv' _ r=>⟨hr v' r.1,f⟩) (λb V=>.inl V)⟩
 cases a_.mp V
 obtain rfl:=aW (e.symm.trans e')
 exact cV.of d
end
section
variable {K:Type} [DecidableEq K] {w:a9} {lH:KeyKind PG w K} {s s':av} {g g':aY} {a:ag} {bh:List (K×ai)}
theorem rs(X:s.heap.DictOf lH a bh):∃o,s.heap.get? a=aa o/\∀vs,o.data≠bC vs:=
 X.elim λo q=>q.elim λes q=>q.elim λep q=>⟨o,q.1,λvs e=>nomatch q.2.2.1.symm.trans e⟩
theorem wG(X:s.heap.DictOf lH a bh)(N:Nx mu s g s' g')(S:St w s g)(V:a∉mu):s'.heap.DictOf lH a bh:=
 (rs X).elim λo q=>X.at λY e=>N.get S e (.inr λvs=>(aW (q.1.symm.trans e))▸q.2 vs) V
end
inductive eX(l:List (Str×D))(w:a9)(s:av)(g:aY)(v:ai)(ad:List ag):Prop
 |mk (a bh:_) (hv:v=.ref a) (lF:ad=[a]) (hg:g a=ak) (adg:a≠iu) (hd:s.heap.DictOf (strKind PG w:_) a bh) (hk:eu w g bh l)
theorem eX.ok{l:List (Str×D)}:p0 (eX l):=λw s g v ad S R=>by
 obtain⟨a,bh,H,rfl,Y,V,hd,G⟩:=R
 obtain⟨o,W,C⟩:=rs hd
 exact⟨λb B=>a_.mp B▸⟨Y,o,W,C⟩,λmu s' g' Z N=>⟨a,bh,H,rfl,N.old a o W Y (Z a bi),V,wG hd N S (Z a bi),G.mono N.gg⟩⟩
theorem eX.nil(w:a9)(s:av)(g:aY)(a:ag)(Y:g a=ak)(V:a≠iu)(W:s.heap.get? a=aa {cls:=aK "dict",data:=.dict #[]}):eX [] w s g (.ref a) [a]:=
 ⟨a,[],rfl,rfl,Y,V,⟨_,#[],0,W,⟨rfl,rfl,rfl⟩,rfl,(λe Z=>nomatch sY.mpr Z),SQ,jX⟩,eu.nil⟩
theorem eX.turn{l:List (Str×D)}:sj (eX l) (.dat (.cL l)):=λw s g v ad S R=>by
 refine ba λC=>?_
 obtain⟨a,bh,hv,rfl,B,V,⟨o,es,ep,G,f,hd,hk,hp,hn⟩,Z⟩:=R
 obtain⟨Y,up⟩:=S.freeze (n:=a) G B (S.dN G (.inr λvs q=>nomatch hd.symm.trans q))
 apply C
 refine⟨_,[],Y,up,λb hb=>fD _ _ _ λq=>hb (a_.mpr q),nofun,λv' ab r=>⟨?_,rfl⟩⟩
 obtain⟨a',_,H,W,_,_,_,_⟩:=r
 exact(H.trans (aQ _ (j4 W).1.symm))▸xP.rep (gZ _ _ _) V ⟨f,es,ep,bh,hd,hk,hp,hn,Z.mono up⟩
section
variable {n:Nat} {sc:bf} {ρ:ay}
theorem bK.values{t o:au}{k:List D->Prop}(hl:(ap.endLine==aM.line)=ae)(G:∀ab,mN o "values" ab (eval o ab)=eval o ab)
 (h:aj n sc ρ o λa=>∃l:List (Str×D),a=.cL l/\l.length<=10000/\k (l.map (·.2))):bK n sc ρ t (bU (cC o "values" ap) [] [] aM) k:=.mk λw A ab aw aE B R V E=>by
 refine nr (G ab) rfl hl rfl (eg (h.run w A ab aw aE B R V E) (λv s ⟨g,a,N,S,Ra,l,ea,DO,hk⟩=>?_) λ_ _ x=>x)
 subst ea
 obtain⟨ad,C,es,rfl,hg,e8,bh,hD,e1,e2⟩:=ut S Ra
 have hT:=Rep.typeIs S Ra
 refine⟨"dict","dict.values",N0,ze,NU,hT.1,hT.2,?_⟩
 refine nG rfl (fj rfl rfl (a8 (fz ?_)))
 refine Gs ze hT.1 NO (NK _) (Pr (ir PG w) ad (beq_false_of_ne e8)) ⟨⟨bh,hD.dictOf⟩,?_⟩
 refine ON ⟨_,cB _ rfl,rfl,rfl⟩ (hD.push _) ?_
 rw[gX]
 have keep:∀b o,s.heap.get? b=aa o->((s.heap.push {cls:=aK "dict_values",data:=bC #[.ref ad]}).push {cls:=aK "dict_valueiterator",data:=bC #[.ref ad,.int 0 0,.int bh.length 0,.int C 0]}).get? b=aa o:=λb o e=>bZ _ (bZ _ e)
 have gI:((s.heap.push {cls:=aK "dict_values",data:=bC #[.ref ad]}).push {cls:=aK "dict_valueiterator",data:=bC #[.ref ad,.int 0 0,.int bh.length 0,.int C 0]}).get? (s.heap.objs.size+1)=aa {cls:=aK "dict_valueiterator",data:=bC #[.ref ad,.int 0 0,.int bh.length 0,.int C 0]}:=by
  have:=cB (s.heap.push {cls:=aK "dict_values",data:=bC #[.ref ad]}) (o:={cls:=aK "dict_valueiterator",data:=bC #[.ref ad,.int 0 0,.int bh.length 0,.int C 0]}) rfl
  rwa [gX] at this
 generalize (s.heap.push {cls:=aK "dict_values",data:=bC #[.ref ad]}).push {cls:=aK "dict_valueiterator",data:=bC #[.ref ad,.int 0 0,.int bh.length 0,.int C 0]}=h' at*
 refine(S.ext' (h':=h') (tk:=s.toks) keep).elim λf H=>?_
 have bX:=cq (S.sub _ _ hg)
 have adh:ad≠s.heap.objs.size+1:=eB (lP bX)
 have W:=PH (prog:=PG) (w:=w) (knd:=ir PG w) R.2.2 (s.heap.objs.size+1) ad adh bh C
 have kW:bh.length=(l.map (·.2)).length:=by
  have:=aQ gk e1
  rw[aR] at this⊢;rw[this,aR]
 rw[kW] at W
 have gn:∀a,s.heap.objs.size<=a->s.heap.get? a=ak/\g a=ak:=λa ha=>hY S ha
 have qg:∀a,s.heap.get? a=ak->aw.heap.get? a=ak:=λa e=>by
  cases q:aw.heap.get? a with
  |none=>rfl
  |some o=>refine(N.there a o q nofun).elim λo' e'=>?_;exact ns (e.symm.trans e')
 refine⟨_,[s.heap.objs.size+1,ad],[s.heap.objs.size+1],_,l.map (·.2),g,rfl,N.trans f,H,dz.of W (λi v d hi hv=>let ⟨k,hv⟩:=hv;e2.2 i v d (by rw[ci,hv];rfl) hi) (λi h hJ b G=>?_) (λi h hJ=>?_),⟨⟨_,gI,rfl,by rw[<-kW];rfl⟩,hD.at' λo e=>keep _ _ e⟩,λb G=>?_,λb G=>?_,by rw[aR];exact DO,hk⟩
 ·obtain⟨o,ho,hc,hd⟩:=hJ.1
  obtain rfl:=a_.mp G
  exact⟨o,ho,λvs q t e e'=>by replace e:=hd▸e;cases e;cases e'⟩
 ·obtain⟨o,ho,hc,hd⟩:=hJ.1
  exact⟨o,_,_,ho,hc,hd,rfl⟩
 ·obtain rfl:=a_.mp G
  have:=gn (s.heap.objs.size+1) (jD _)
  exact⟨qg _ this.1,this.2⟩
 ·rcases bT.mp G with rfl|G
  ·exact⟨H.dN gI (.inl (by simp)),cq gI,.inl bi⟩
  ·cases a_.mp G
   exact⟨H.dN (H.sub _ _ hg) (.inl (by simp)),cq (H.sub _ _ hg),.inr ⟨_,hg⟩⟩
end
theorem stored_new{K:Type}[DecidableEq K]{bh:List (K×ai)}{x:K}{v:ai}(h:x∉bh.map (·.1)):stored bh x v=bh++[(x,v)]:=by
 unfold QW
 rw[be]
 rw[tg]
 rintro⟨p,V,e⟩
 exact h (bL.mpr ⟨p,V,cZ e⟩)
theorem WT{D:ag}{es:Array dy}{bh:List (Int×ai)}{l:List (Int×Mine.Internal.D)}(C:g D=aa o)(Y:D≠iu)(B:o.ExactDict)(hd:o.data=.dict es ep)(f:KeysOf (intKind PG w) es)(hp:xZ (intKind PG w) es.toList bh)(hn:(bh.map (·.1)).Nodup)(H:eu w g bh l):Rep w g (.ref D) (.et l):=by
 have W:=eu.idx hp H
 refine .et D ep es l (C.trans (aQ _ (Hf B hd))) W.1 ⟨H.fst▸hn,Y⟩ (λi e x d V Z=>?_) λi e x d V Z=>(W.2 i e x d V Z).2
 obtain⟨k',q1,q2⟩:=f e (sY.mp (c5 V))
 refine(E5 (W.2 i e x d V Z).1).elim λt G=>?_
 exact⟨⟨t,G⟩,(isInt_iff.mp (G▸q1:pq k' (.int x t)=ae))▸q2⟩
inductive ij(x:Option Str)(b:ag)(l:List (Str×D))(m:List (Int×D))(w:a9)(s:av)(g:aY)(v:ai)(ad:List ag):Prop
 |mk (a bh ks) (hv:v=.ref a) (lF:ad=[a,b]) (e8:a≠b) (hga:g a=ak) (hgb:g b=ak) (ha:a≠iu) (hb:b≠iu) (hd:s.heap.DictOf (strKind PG w) a (bh++(x.toList.map λy=>(y,.ref b)))) (hk:eu w g bh l) (hi:s.heap.DictOf (intKind PG w) b ks) (hik:eu w g ks m)
theorem ij.ok{x:Option Str}{b:ag}{l:List (Str×D)}{m:List (Int×D)}:p0 (ij x b l m):=λw s g v ad S R=>by
 obtain⟨a,bh,ks,hv,rfl,H,V,Y,ha,hb,hd,hk,hi,G⟩:=R
 refine ba λN_=>?_
 obtain⟨o,B,hf⟩:=rs hd
 obtain⟨f,W,C⟩:=rs hi
 apply N_
 have m1:a∈[a,b]:=bi
 have m2:b∈[a,b]:=bM _ bi
 exact⟨λc hc=>(bT.mp hc).elim (λe=>e▸⟨V,o,B,hf⟩) λh=>a_.mp h▸⟨Y,f,W,C⟩,λmu s' g' Z N=>⟨a,bh,ks,hv,rfl,H,N.old a o B V (Z a m1),N.old b f W Y (Z b m2),ha,hb,wG hd N S (Z a m1),hk.mono N.gg,wG hi N S (Z b m2),G.mono N.gg⟩⟩
theorem ij.turn{b:ag}{l:List (Str×D)}{m:List (Int×D)}:sj (ij (aa x) b l m) (.obj (eX (l++[(x,.et m)]))):=λw s g v ad S R=>by
 refine ba λN_=>?_
 obtain⟨a,bh,ks,hv,rfl,Z,H,G,ha,hb,hd,hk,⟨o,es,ep,ho,hx,V,C,hp,hn⟩,B⟩:=R
 obtain⟨Y,up⟩:=S.freeze (n:=b) ho G (S.dN ho (.inr λvs q=>nomatch V.symm.trans q))
 apply N_
 refine⟨_,[a],Y,up,λc f=>fD _ _ _ λq=>f (q▸bM _ bi),λc f=>a_.mp f▸bi,λv' ab r=>⟨?_,eX.ok⟩⟩
 obtain⟨a',_,_,hv2,W,_,_,_,_,_,oV,vq,_,_⟩:=r
 obtain rfl:=(j4 W).1
 exact⟨a,_,hv2,rfl,(fD _ _ _ Z).trans H,ha,oV,(vq.mono up).snoc (WT (gZ _ _ _) hb hx V C hp hn (B.mono up))⟩
theorem Sm{K Y:Type}[DecidableEq K][DecidableEq Y]{w:a9}{lH:KeyKind PG w K}{V:KeyKind PG w Y}{h:dp}{a:ag}(X:h.DictOf lH a []):h.DictOf V a []:=by
 refine ba λZ=>?_
 obtain⟨o,es,ep,H,G,hd,_,W,_⟩:=X
 have e:es=#[]:=by
  generalize C:es.toList=q at W
  cases W
  exact Array.toList_eq_nil_iff.mp C
 subst e
 apply Z
 exact⟨o,#[],ep,H,G,hd,(λe B=>nomatch sY.mpr B),SQ,jX⟩
section
variable {n:Nat} {sc:bf} {ρ:ay}
theorem bj.ui{aB:Str->List ag}{R:oF}(H:bj w mu aw aE s g ab sc ρ aB)(Y:ρ.lookup x=aa (.obj R)):∃v,fF s g ab x v/\R w s g v (aB x):=(H.var x _ Y).elim λv V=>V.elim λh V=>V.elim λr _=>⟨v,h,r⟩
theorem uj{aB:Str->List ag}(H:bj w mu aw aE s g ab sc ρ aB)(h:fF s g ab x v)(V:ce x=ae)(Y:Q v s):wpAny (model PG w) A (eval (aS x p) ab) Q E s:=
 eN (dZ H.kind h V Y) (d3 V)
theorem RD{p q:Str}{B C Y:Bd}{u:Str}{c:Bd}(h:i_ u ((p,B)::(q,C)::ρ)=aa c):i_ u ((p,B)::(q,C)::(p,Y)::ρ)=aa c:=by
 by_cases e:u=p
 ·subst e;rw[lookup_cons_self] at h⊢;exact h
 ·rw[fi e] at h⊢
  by_cases V:u=q
  ·subst V;rw[lookup_cons_self] at h⊢;exact h
  ·rw[fi V] at h⊢;exact(fi e).trans h
theorem JR{aB:Str->List ag}{t1 t2 t3:Pos}{R R':oF}{Q:Unit->av->Prop}(H:bj w mu aw aE s g ab sc ρ aB)(hx:ρ.lookup x=aa (.obj R))(hy:ρ.lookup y=aa (.dat (.str z)))(G:ce x=ae)(C:ce y=ae)
 (O':p0 R')(ea:a∈aB x)(Y:∀Z,R w s g Z (aB x)->Z=.ref a)(hd:s.heap.DictOf (strKind PG w) a bh)(hz:z∉bh.map (·.1))(hl:bh.length<=10000)
 (hr:∀h',h'.DictOf (strKind PG w) a (bh++[(z,v)])->kG a s.heap h'->R' w {s with heap:=h',toks:=s.toks+1} g (.ref a) (aB x))
 (hQ:∀h' V,bj w mu aw aE {s with heap:=h',toks:=s.toks+1} g ab sc ((x,.obj R')::ρ) V->Q () {s with heap:=h',toks:=s.toks+1}):
 wpAny (model PG w) A (Aj (dM (aS x t1) (aS y t2) t3) ab v) Q E s:=by
 refine ba λN_=>?_
 obtain⟨vx,B,rx⟩:=H.ui hx
 obtain⟨vy,f,ry⟩:=H.var y _ hy
 obtain rfl:=Y vx rx
 obtain⟨ty,rfl⟩:=ry.1.str_inv
 apply N_
 simp only[arm_assign_Subscript]
 refine aJ (eH (uj H B G ?_))
 refine aJ (eH (uj H f C ?_))
 refine jb ?_
 refine aJ (eH (OP (knd:=strKind PG w) (k:=z) (kvs:=bh) (rg.mpr rfl:gj z (.str z ty)=ae) hd (λh' W hs=>?_) (aD hl (by decide))))
 rw[stored_new hz] at W
 obtain⟨V,H'⟩:=H.put (tk:=s.toks+1) hx O' ea hs λZ r=>Y Z r▸hr h' W hs
 exact wpAny_release (hQ h' V H')
theorem aO.WU{xs G:Str}{t1 t2 t3 t4 t5 t6 tp ep:Pos}{e1 e2:au}{l m:List (Str×D)}{k:Fl->ay->Prop}(h1:ρ.lookup xs=aa (.obj (eX l)))(h2:ρ.lookup G=aa (.obj (eX m)))(h3:ρ.lookup y=aa (.dat (.str z)))(e8:xs≠G)(hy1:y≠xs)(M4:y≠G)
 (ok:(ce xs&&(ce G&&ce y))=ae)(hz1:z∉l.map (·.1))(hz2:z∉m.map (·.1))(hl:l.length<=10000/\m.length<=10000)(he:[e1,e2].all cu=ae)(hH:∀ab,Aa [b7 [dM (aS xs t1) (aS y t2) t3,dM (aS G t4) (aS y t5) t6] c tp] (b7 [e1,e2] c' ep) aM.line ab=pure aI)
 (hw:∀ab,mM [b7 [dM (aS xs t1) (aS y t2) t3,dM (aS G t4) (aS y t5) t6] c tp] (b7 [e1,e2] c' ep) ab=pure aU)
 (h:f7 n sc ρ [e1,e2] λbs=>∃d,bs=[.dat d,.obj (eX [])]/\∀b,k .next ((G,.obj (ij (aa z) b m []))::(xs,.obj (eX (l++[(z,d)])))::ρ)):
 aO n sc ρ (e_ [b7 [dM (aS xs t1) (aS y t2) t3,dM (aS G t4) (aS y t5) t6] c tp] (b7 [e1,e2] c' ep) aM) k:=.mk λw A ab mu aw aE s g aB H R E=>by
 have ok:=(bB _ _).mp ok
 have sQ:=(bB _ _).mp ok.2
 refine Ai (zt (bg (f7.ok he h w A ab s g ep H.st R H.cI E) λvs aA o=>?_)) (hH ab) (hw ab)
 refine ba λB=>?_
 obtain⟨aN,bs,bX,Y,f,W,fr,d,rfl,hk⟩:=o
 obtain⟨v1,v2,rfl⟩:=J9 W.len
 obtain⟨ad1,ad2,rfl⟩:=J9 W.len'
 apply B
 refine⟨by show 2<=2^24;decide,?_⟩
 obtain⟨b,kb,rfl,rfl,gb,acR,hdb,hkb⟩:=(W.rep 1 v2 _ ad2 rfl rfl rfl).1
 refine ba λB=>?_
 cases hkb
 apply B
 have Mk:s.heap.get? b=ak:=fr [b] (bM _ bi) b bi
 refine ba λB=>?_
 obtain⟨vh,M5,ah,kh,rfl,M6,ga,ad5,Nt,hka⟩:=H.ui h2
 apply B
 have H1:=H.change (mt:=[]) (il:=[ah,b]) (b':=.obj (ij aU b m [])) h2 rfl rfl Y f nofun nofun (λv _ r=>by
  obtain⟨⟨a',k',C,V,ga',sa',Z,jU⟩,_⟩:=r
  obtain rfl:=(j4 (M6.symm.trans V)).1
  exact⟨⟨ah,k',[],C,rfl,(λq=>(rs Nt).elim λo q2=>nomatch (q▸Mk:s.heap.get? ah=ak).symm.trans q2.1:ah≠b),ga'|>λq=>(rs Z).elim λo q2=>Y.old _ _ q2.1 q nofun,gb,sa',acR,(cR k').symm▸wG Z Y H.st nofun,jU.mono Y.gg,Sm hdb,.nil⟩,ij.ok⟩) (λa ha=>by
  rcases bT.mp ha with rfl|ha
  ·exact .inl (M6▸bi)
  ·exact .inr (a_.mp ha▸Mk))
 have hT:(aA.heap.push {cls:=aK "tuple",data:=.seq [v1,.ref b].toArray}).IsTuple aA.heap.objs.size #[v1,.ref b]:=⟨_,cB _ rfl,rfl,_,rfl⟩
 refine zz R.2.2 hT rfl rfl λjQ Z0=>?_
 refine(f.ext' (h':=jQ) (tk:=aA.toks) λb o e=>ExtBut.keeps Z0 b o (bZ _ e)).elim λgr ig=>?_
 have H3:=H1.step gr ig
 generalize (λy=>if y=G then [ah,b] else aB y)=ad6 at H3
 have l1:i_ xs ((G,.obj (ij aU b m []))::ρ)=aa (.obj (eX l)):=(fi e8).trans h1
 refine ba λB=>?_
 obtain⟨_,_,as,ks,_,DV,gs,ss,qo,jT⟩:=H3.ui l1
 apply B
 refine zd (JR H3 l1 ((fi M4).trans h3) ok.1 sQ.2 eX.ok (DV▸bi) (λv' r=>?_) qo (jT.fst▸hz1) (by rw[<-aR,jT.fst,aR];exact hl.1) (λh' Z hs=>⟨as,_,rfl,DV,gs,ss,Z,jT.snoc ((W.rep 0 v1 _ ad1 rfl rfl rfl).1:Rep w aN v1 d)⟩) λMz ad7 H4=>?_)
 ·obtain⟨a',_,C,V,_,_,_,_⟩:=r
  exact C.trans (aQ _ (j4 (V.symm.trans DV)).1)
 have l2:i_ G ((xs,Bd.obj (eX (l++[(z,d)])))::(G,.obj (ij aU b m []))::ρ)=aa (.obj (ij aU b m [])):=(fi e8.symm).trans lookup_cons_self
 refine ba λB=>?_
 obtain⟨_,_,a2,k2,i2,_,DW,Ml,ga2,gb2,sa2,sb2,oV,vq,Eh,acS⟩:=H4.ui l2
 apply B
 refine zd (JR (R':=ij (aa z) b m []) H4 l2 ((fi hy1).trans ((fi M4).trans h3)) sQ.1 sQ.2 ij.ok (DW▸bi) (λv' r=>?_) (cR k2▸oV) (vq.fst▸hz2) (by rw[<-aR,vq.fst,aR];exact hl.2) (λh' Z hs=>⟨a2,k2,i2,rfl,DW,Ml,ga2,gb2,sa2,sb2,Z,vq,Eh.sameBut hs Ml.symm,acS⟩) λyD acT H5=>Ev ⟨aN,_,.next,acT,H5.weaken λu c hu=>RD hu,trivial,hk b⟩)
 obtain⟨a',_,_,C,V,_,_,_,_,_,_,_,_,_⟩:=r
 exact C.trans (aQ _ (j4 (V.symm.trans DW)).1)
theorem Rf(h:((bh++[(x,v)]).map (·.1)).Nodup):valueAt (bh++[(x,v)]) x=aa v:=by
 have V:bh.find? (λY=>decide (Y.1=x))=aU:=List.find?_eq_none.mpr λp W q=>by
  rw[dJ] at h
  exact(kE.mp h).2.2 p.1 (bL.mpr ⟨p,W,rfl⟩) x (bi) (cZ q)
 unfold valueAt
 simp only[List.find?_append,V]
 simp
theorem aO.putIn{B f:Str}{t1 t2 t3 t4 t5:Pos}{b:ag}{l:List (Str×D)}{m:List (Int×D)}{c:Int}{k:Fl->ay->Prop}(h1:ρ.lookup B=aa (.obj (ij (aa z) b l m)))(h2:ρ.lookup y=aa (.dat (.str z)))(h3:ρ.lookup f=aa (.dat (.int c)))
 (ok:(ce B&&(ce y&&ce f))=ae)(hc:c∉m.map (·.1))(hm:m.length<=10000)(hH:∀ab,iy e (aa (dM (dM (aS B t1) (aS y t2) t3) (aS f t4) t5)) aM.line ab=pure aI)
 (h:aj n sc ρ e λd=>k .next ((B,.obj (ij (aa z) b l (m++[(c,d)])))::ρ)):aO n sc ρ (e_ [dM (dM (aS B t1) (aS y t2) t3) (aS f t4) t5] e aM) k:=.mk λw A ab mu aw aE s g aB H R E=>by
 have ok:=(bB _ _).mp ok
 have sQ:=(bB _ _).mp ok.2
 refine zi (h.wp H.st R H.cI λv aA aN d u8 W ml hk=>?_) (hH ab)
 have H1:=H.step u8 W
 refine ba λZ=>?_
 obtain⟨vh,M5,a,bh,ks,rfl,G,y8,ga,gb,sa,sb,hd,hkv,hi,C⟩:=H1.ui h1
 obtain⟨vy,hvy,ry⟩:=H1.var y _ h2
 apply Z
 refine ba λZ=>?_
 obtain⟨ty,rfl⟩:=ry.1.str_inv
 have X:=W.ext' (h':=aA.heap) (tk:=aA.toks+1) λ_ _ e=>e
 have H2:=H1.step X.1 X.2
 obtain⟨vc,hvc,rc⟩:=H2.var f _ h3
 apply Z
 refine ba λZ=>?_
 obtain⟨tc,rfl⟩:=rc.1.int_inv
 apply Z
 refine ba λZ=>?_
 obtain⟨o,es,ep,ho,hx,hdt,hky,hp,hn⟩:=id hd
 apply Z
 refine AD (uj H1 M5 ok.1 (uj H1 hvy sQ.1 (Bc ⟨o,ho,hx.1⟩ E6.lookup (Fh (knd:=strKind PG w) (v:=.ref b) (rg.mpr rfl:gj z (.str z ty)=ae) hd.mapOf (Rf hn) ?_) rfl)))
 refine uj H2 hvc sQ.2 (OP (knd:=intKind PG w) (k:=c) (kvs:=ks) (isInt_iff.mpr rfl:pq c (.int c tc)=ae) hi (λjQ V Y=>?_) (by rw[<-aR,C.fst,aR];exact aD hm (by decide)))
 rw[stored_new (C.fst▸hc)] at V
 obtain⟨acU,H3⟩:=H2.put (tk:=aA.toks+1+1) (R':=ij (aa z) b l (m++[(c,d)])) h1 ij.ok (a:=b) (G▸bM _ bi) Y λv r=>by
  obtain⟨a',_,_,hv',acV,_,_,_,_,_,_,_,_,_⟩:=r
  exact⟨a,bh,_,hv'.trans (aQ _ (j4 (acV.symm.trans G)).1),G,y8,ga,gb,sa,sb,hd.sameBut Y y8,hkv,V,C.snoc ml⟩
 exact⟨aN,_,.next,acU,H3,trivial,hk⟩
end
open SeqAt in
theorem bq.Lq{k:Bool->Prop}(Z:k (!l.isEmpty)):bq n .NotEq (.lst l) (.lst []) k:=.mk λw A s g v u S R C B E=>by
 have H:A.units<cLine:=by have:=R.2.1;show _<9900;exact aV (aD (cy _ _) this) (by simp)
 obtain⟨a,af,rfl,G,f⟩:=C.n0 S
 obtain⟨a',V,rfl,Y,W⟩:=B.n0 S
 have z:V.size=0:=by have:=W.1;exact this
 have y:af.size=l.length:=by have:=f.1;exact this
 induction l with
 |nil=>
  have:=RcNeAt.lists (A:=A) G Y (y.trans z.symm) H (e:=λ_=>ae) λj h1 h2=>by exact aZ (z▸h2) (zV _)
  exact this _ _ _ _ ⟨!(dK af.size).all λ_=>ae,g,rfl,Nx.refl _ _ _,S,by exact y▸Z⟩
 |cons x l=>
  exact RcNeAt.lists_lengths (A:=A) G Y (by rw[y,z];rfl) H _ _ _ _ ⟨ae,g,rfl,Nx.refl _ _ _,S,Z⟩
def jP(w:a9)(A:bN)(ab:Env)(mu:List ag)(aw:av)(aE:aY)(sc:bf)(ρ:ay)(b:List bw)(k:Fl->ay->Prop):Prop:=
 ∀s g aB,bj w mu aw aE s g ab sc ρ aB->∀E,wpAny (model PG w) A (execs b ab) (Fin w mu aw aE ab sc k) E s
section
variable {n:Nat} {sc:bf} {ρ:ay} {w:a9} {A:bN} {ab:Env} {mu:List ag} {aw:av} {aE:aY} {k:Fl->ay->Prop}
theorem aL.WV{b:List bw}(R:Rm n A)(h:aL n sc ρ b k):jP w A ab mu aw aE sc ρ b k:=λs g aB H E=>h.run w A ab mu aw aE s g aB H R E
noncomputable def Z1(w:a9)(A:bN)(ab:Env)(mu:List ag)(aw:av)(aE:aY)(sc:bf)(r:List bw)(k:Fl->ay->Prop):Fl->ay->Prop:=λfl ρ=>match fl with
 |.next=>jP w A ab mu aw aE sc ρ r k
 |.brk=>k .brk ρ
 |.cont=>k .cont ρ
 |.ret d=>k (.ret d) ρ
theorem jP.cons{st:bw}{r:List bw}(R:Rm n A)(h:aO n sc ρ st (Z1 w A ab mu aw aE sc r k)):jP w A ab mu aw aE sc ρ (st::r) k:=λs g aB H E=>by
 refine mF (bg (h.run w A ab mu aw aE s g aB H R E) (λf aA ⟨aN,G,fl,V,Y,W,Z⟩=>?_))
 induction f<;>induction fl<;>first|exact W.elim|exact Z _ _ _ Y E|exact⟨aN,G,_,V,Y,W,Z⟩
theorem jP.Yx{t:au}{st:bw}{r:List bw}(R:Rm n A)(h:bH n sc ρ t λc=>cM c (∀s g aB,bj w mu aw aE s g ab sc ρ aB->∀E,wpAny (model PG w) A (exec st ab) (λf s'=>f=.cont/\k .cont ρ/\∃g',bj w mu aw aE s' g' ab sc ρ aB) E s) (jP w A ab mu aw aE sc ρ r k)):
 jP w A ab mu aw aE sc ρ (.If t [st] [] aM::r) k:=λs g aB H E=>by
 refine mF (Be (h.wp H.st R H.cI λc aA aN V Y W=>?_))
 induction c with
 |true=>
  refine mF (bg (W.t rfl _ _ _ (H.step V Y) E) (λf aT Z=>Z.elim λG Z=>Z.elim λC Z=>Z.elim λbb B=>?_))
  subst G
  exact⟨bb,ρ,.cont,aB,B,trivial,C⟩
 |false=>exact wg (W.f rfl _ _ _ (H.step V Y) E)
set_option tactic.hygienic true in
theorem bj.acW{aB:Str->List ag}(H:bj w mu aw aE s g ab sc ρ aB)(B:ρ.lookup x=aa (.obj (md d L o))):c8 w s g ab sc ((x,.dat d)::ρ):=by
 have V:=H.cI
 refine⟨V.kind,V.glob,V.gq,V.ks,V.lam,V.e6,V.cP,V.ff,λy b Y=>?_⟩
 rw[j5] at Y
 split at Y
 ·rename_i e
  obtain rfl:=aW Y;subst e
  refine ba λf=>?_
  refine(H.var y _ B).elim λv W=>W.elim λh1 Z=>Z.elim λG _=>G.elim λ_ C=>C.elim λh2 _=>?_
  apply f
  exact⟨v,[],h1,h2,rfl⟩
 ·exact V.var y b Y
end
noncomputable def sk(a0 Y W G V Z H C c:Int):Int:=(W*(Y-a0)+(G-W)*(c-a0))*(Z-V)-(H*(Z-V)+(C-H)*(c-V))*(Y-a0)
theorem kP{x y:Int}{X Y:Nat}(V:x.natAbs<=X)(W:y.natAbs<=Y):(x*y).natAbs<=X*Y:=by
 rw[Int.natAbs_mul];exact F6 V W
theorem nab{x:Int}{B:Nat}(h:-(B:Int)<=x/\x<=B):x.natAbs<=B:=(Int.natAbs_eq x).elim (λe=>fW.mp (dh (i' e.symm) h.2))
 λe=>fW.mp (dh (i' ((aQ Neg.neg e).trans (pp _)).symm) (EG h.1))
theorem kQ{x a b:Int}{B:Nat}(h:a<=x)(V:x<=b)(k:-(B:Int)<=a/\b<=B):x.natAbs<=B:=nab ⟨dh k.1 h,dh V k.2⟩
theorem uS{p:Int}{P Q:Nat}(V:p.natAbs<=P)(Y:q.natAbs<=Q):(p+q).natAbs<=P+Q:=aD (v0 p q) (fV V Y)
theorem gS{p:Int}{P Q:Nat}(V:p.natAbs<=P)(Y:q.natAbs<=Q):(p-q).natAbs<=P+Q:=aD (Pk p q) (fV V Y)
theorem lm{x y:Int}{X:Nat}(h:X<2^60)(V:x.natAbs<=X):xe x y:=mulL (aV V h)
set_option maxHeartbeats 8000000 in
theorem xt{a0 W Z H G C B f c:Int}(h0:a0.natAbs<=1000)(h1:W.natAbs<=1000)(V:Z.natAbs<=1000)(h3:H.natAbs<=1000)(g0:G.natAbs<=1000)(g1:C.natAbs<=1000)(Y:B.natAbs<=1000)(g3:f.natAbs<=1000)(gc:c.natAbs<=1000)
 {k:D->Prop}(hk:k (.int (sk a0 W Z H G C B f c))):bJ 5 269 [.tup [.int a0,.int W,.int Z,.int H],.tup [.int G,.int C,.int B,.int f],.int c] k:=by
 refine bJ.of ZR rfl ?_
 exact .intro (lm (by decide) V)<|.intro (lm (by decide) (gS h3 V))<|.intro (lm (by decide) Y)<|.intro (lm (by decide) (gS g3 Y))<|.intro (lm (by decide) (uS (kP V (gS h1 h0)) (kP (gS h3 V) (gS gc h0))))<|.intro (lm (by decide) (uS (kP Y (gS g1 g0)) (kP (gS g3 Y) (gS gc g0)))) hk
theorem RE{a0 Y W Z H G C B c:Int}(V:a0.natAbs<=1000)(f:Y.natAbs<=1000)(h2:W.natAbs<=1000)(h3:Z.natAbs<=1000)(g0:H.natAbs<=1000)(g1:G.natAbs<=1000)(g2:C.natAbs<=1000)(g3:B.natAbs<=1000)(gc:c.natAbs<=1000):
 (sk a0 Y W Z H G C B c).natAbs<2^60:=
 aV (gS (kP (uS (kP h2 (gS f V)) (kP (gS h3 h2) (gS gc V))) (gS g1 g0)) (kP (uS (kP g2 (gS g1 g0)) (kP (gS g3 g2) (gS gc g0))) (gS f V))) (by decide)
noncomputable def xW(a0 V Z H Y W G C:Int):Bool:=decide (min V W<max a0 Y)||decide (0<sk a0 V Z H Y W G C (max a0 Y)*sk a0 V Z H Y W G C (min V W))
theorem CP{a b:Int}{X:Nat}(h:a.natAbs<=X)(g:b.natAbs<=X):(max a b).natAbs<=X/\(min a b).natAbs<=X:=by
 rcases Q0 a b with q|q
 ·rw[qM q,wf q];exact⟨g,h⟩
 ·rw[Fz q,zK q];exact⟨h,g⟩
set_option maxHeartbeats 8000000 in
theorem TD{a0 W B f Z H b2 b3:Int}(Y:a0.natAbs<=1000)(G:W.natAbs<=1000)(h2:B.natAbs<=1000)(h3:f.natAbs<=1000)(g0:Z.natAbs<=1000)(C:H.natAbs<=1000)(g2:b2.natAbs<=1000)(g3:b3.natAbs<=1000)
 {k:D->Prop}(V:k (.bool (xW a0 W B f Z H b2 b3))):bJ 8 276 [.tup [.int a0,.int W,.int B,.int f],.tup [.int Z,.int H,.int b2,.int b3]] k:=by
 refine bJ.of ZT rfl ?_
 refine cM.mk (λh=>?_) (λh=>?_)
 ·show k (.bool (decide (min W H<max a0 Z)))
  unfold xW at V;rw[h] at V⊢;exact V
 ·refine(xt Y G h2 h3 g0 C g2 g3 ((CP Y g0).1) ?_).le (by decide)
  refine(xt Y G h2 h3 g0 C g2 g3 ((CP G C).2) ?_).le (by decide)
  refine bQ (mulL (RE Y G h2 h3 g0 C g2 g3 ((CP Y g0).1))) ?_
  unfold xW at V
  rw[h,Ab] at V
  exact V
noncomputable def xN(n:Int):Int:=n%8
noncomputable def wN(n:Int):Int:=n/8%9-4
noncomputable def yN(n:Int):Int:=n/72%9-4
noncomputable def zN(n:Int):Int:=n/648%9-4
noncomputable def fg(n:Int):c_:=if 0<wN n then ⟨xN n,xN n+wN n,yN n,zN n⟩ else ⟨xN n+wN n,xN n,zN n,yN n⟩
noncomputable def hgt(s:c_)(c:Int):Int:=(s.h0*(s.x1-s.x0)+(s.h1-s.h0)*(c-s.x0))*(60/(s.x1-s.x0))
noncomputable def oG(s:c_)(c:Int):Int×Int:=(hgt s c/60,hgt s c%60)
noncomputable def n9(a b:c_):Bool:=xW a.x0 a.x1 a.h0 a.h1 b.x0 b.x1 b.h0 b.h1
noncomputable def me(ss:b0)(p:Int×HE):b0:=if wN p.1=0 then ss else if ss.all (λq=>n9 (fg p.1) q.2) then ss++[(p.2,fg p.1)] else ss
noncomputable def eT(ps:List (Int×HE)):b0:=ps.foldl me []
theorem m9(a:Int):-4<=a%9-4/\a%9-4<=4:=⟨qA (pd a (by decide)) 4,qA (nu (show a%9<8+1 from o9 a (by simp))) 4⟩
theorem yy(n:Int):0<=xN n/\xN n<=7:=⟨pd n (by decide),nu (show n%8<7+1 from o9 n (by simp))⟩
theorem qd(n:Int):-4<=wN n/\wN n<=4:=m9 _
theorem uT(n:Int):-4<=yN n/\yN n<=4:=m9 _
theorem uU(n:Int):-4<=zN n/\zN n<=4:=m9 _
structure fH(s:c_):Prop where
 lo:-4<=s.x0
 hi:s.x1<=11
 lt:s.x0<s.x1
 wd:s.x1-s.x0<=4
 a0:-4<=s.h0/\s.h0<=4
 a1:-4<=s.h1/\s.h1<=4
theorem fH.nb{s:c_}(h:fH s):s.x0.natAbs<=1000/\s.x1.natAbs<=1000/\s.h0.natAbs<=1000/\s.h1.natAbs<=1000:=
 ⟨kQ h.lo (dh (du h.lt) h.hi) (by decide),kQ (dh h.lo (du h.lt)) h.hi (by decide),kQ h.a0.1 h.a0.2 (by decide),kQ h.a1.1 h.a1.2 (by decide)⟩
theorem KD(a b:Int):a+b-a=b:=by rw[gY,mD]
theorem xE{n:Int}(h:wN n≠0):fH (fg n):=by
 have V:=yy n;have Y:=qd n
 unfold fg
 by_cases p:0<wN n
 ·rw[bo p]
  exact⟨dh (by simp) V.1,Qq V.2 Y.2,N1 _ p,dh (i' (KD ..)) Y.2,uT n,uU n⟩
 ·rw[be p]
  exact⟨Qq V.1 Y.1,dh V.2 (by simp),la (zq (EL.mpr ⟨dU.mp p,h⟩:wN n<0) _) (i' (tF _)),dh (i' (by rw[<-Ay,An,Gw])) (EG Y.1),uU n,uT n⟩
theorem Lr{w:Int}(h:0<w)(Y:w<=4):w*(60/w)=60/\0<60/w:=by
 refine(zh (du h)).elim λm V=>?_;subst V
 have:=(by decide:∀m<5,0<m->m*(60/m)=60/\0<60/m) m (jW (fW.mp Y)) (eJ.mp h)
 exact⟨aQ SJ this.1,eJ.mpr this.2⟩
theorem JS{T w:Int}(h:0<w)(V:w<=4):(T*(60/w)/60,T*(60/w)%60)=(T/w,T%w*(60/w)):=by
 refine(Lr h V).elim λe p=>?_
 generalize 60/w=k at e p
 rw[<-e,Int.mul_ediv_mul_of_pos_left _ _ p,wz T,wz w,Int.mul_emod_mul_of_pos _ _ p,wz k]
theorem xX{T W:Int}(h:0<W):T.fdiv (-W)=-T/W/\T.fmod (-W)=-(-T%W):=by
 have e:=Fu (-T) W
 have V:=Int.neg_fmod_neg (-T) W
 rw[pp] at e V
 rw[e,V,no _ (du h),qp _ (du h)]
 exact⟨rfl,rfl⟩
theorem Yy{n c:Int}(h:wN n≠0):oG (fg n) c=((yN n*wN n+(zN n-yN n)*(c-xN n)).fdiv (wN n),(yN n*wN n+(zN n-yN n)*(c-xN n)).fmod (wN n)*(60:Int).fdiv (wN n)):=by
 have V:=qd n
 delta oG hgt fg
 generalize wN n=w at h V
 generalize xN n=x
 generalize yN n=y
 generalize zN n=z
 by_cases p:0<w
 ·rw[bo p]
  simp only[KD,JS p V.2,no _ (du p),qp _ (du p),no _ (du p)]
 ·rw[be p]
  obtain⟨W,rfl⟩:∃W,w=-W:=⟨-w,(pp w).symm⟩
  have q:0<W:=O_ (EL.mpr ⟨dU.mp p,h⟩)
  have Y:W<=4:=OU.mp V.1
  have e:z*(x-(x+-W))+(y-z)*(c-(x+-W))=-(y*-W+(z-y)*(c-x)):=by
   rw[<-Ay x,An,Gw,pp,<-Ay c,Ar,Rp,Rq y z W,Rr,Int.neg_add,pp,<-tH,Aq]
   generalize (y-z)*(c-x)=A
   generalize z*W=B
   generalize y*W=C
   exact abi
  have H:x-(x+-W)=W:=by rw[<-Ay,An,Gw,pp]
  rw[e,H,JS q Y,(xX q).1,(xX q).2,(xX q).1]
  have k:-60/W=-(60/W):=by
   have Z:=Lr q Y
   generalize 60/W=K at Z
   rw[<-Z.1,<-Rr,Int.mul_ediv_cancel_left _ (pj q)]
  simp only[k,P4]
theorem Hn{T w:Int}(Z:w≠0):0<=T.fmod w*w/\(T.fmod w).natAbs<w.natAbs:=by
 have V:∀{W T:Int},0<W->0<=T%W*W/\(T%W).natAbs<W.natAbs:=λ{W T} h=>by
  have Y:=pd T (pj h)
  refine⟨Int.mul_nonneg Y (du h),eJ.mp ?_⟩
  simp only[EF Y,EF (du h)]
  exact o9 T h
 by_cases h:0<w
 ·exact(qp _ (du h))▸(V h)
 ·obtain⟨W,rfl⟩:∃W,w=-W:=⟨-w,(pp w).symm⟩
  have q:0<W:=O_ (EL.mpr ⟨dU.mp h,Z⟩)
  simp only[(xX q).2,P4,tn,tn]
  exact V q
theorem AA{s:c_}:pV s.x0 (s.x1+1)=(dR s).map D.int:=by
 delta pV dR
 rw[cJ,nz (a:=s.x1+1),OV,<-nz];rfl
theorem ye{s:c_}(S:fH s){c:Int}(h:c∈dR s):-4<=c/\c<=11:=by
 obtain⟨j,V,rfl⟩:=bL.mp h
 have:=S.lo;have:=S.hi;have:=gi.mp V
 exact XB (by assumption) (by assumption) (by assumption)
theorem yf{s:c_}(S:fH s):s.x0.natAbs<=1000/\(s.x1+1).natAbs<=1000:=
 ⟨S.nb.1,kQ (dh S.lo (dh (du S.lt) (vz (by simp)))) (nv S.hi 1) (by decide)⟩
theorem ints_get{l:List Int}(h:(l.map D.int)[i]?=aa d):∃c,l[i]?=aa c/\d=.int c:=by
 rw[ci] at h
 induction q:l[i]? with
 |none=>rw[q] at h;exact ns h
 |some c=>rw[q] at h;exact⟨c,rfl,(aW h).symm⟩
theorem snocInd{P:List α->Prop}(V:P [])(h:∀l a,P l->P (l++[a]))(l:List α):P l:=by
 refine(vL l)▸?_
 induction l.reverse with
 |nil=>exact V
 |cons a r Y=>rw[E8];exact h _ _ Y
noncomputable def gw(ss:b0)(x:HE)(c:Int):Int×Int:=oG (bu ss x) c
theorem CQ:FnAt 281 26 "_law_sticks" ["numbers"]:=⟨⟨λw=>⟨_,_,_,_,_,rfl,_,_,_,_,rfl,rfl,rfl,rfl⟩⟩,λ_ _ _ _ _ _ vs h=>lY (λ_=>by rfl) vs h,by rfl,by rfl⟩
noncomputable def kR(ss:b0):List (Str×D):=ss.map λp=>(p.1,jO p.2)
noncomputable def kT(s:c_)(m:Nat):List (Int×D):=((dR s).take m).map λc=>(c,pairD (oG s c))
noncomputable def lA(ss:b0):List (Str×D):=ss.map λp=>(p.1,.et (kT p.2 16))
noncomputable def oH(d0:D)(L:ag)(o:Obj)(ss:b0):ay:=([("sticks",.obj (eX (kR ss))),("heights",.obj (eX (lA ss))),("numbers",.obj (md d0 L o))]:List (Str×Bd))
noncomputable def M7:List bw:=match fb 26 with
 |_::.For _ _ b _ _::_=>b
 |_=>[]
theorem Vi:Inj jO:=λ_ _ h=>aQ (λd=>c_.mk (uH d 0) (uH d 1) (uH d 2) (uH d 3)) h
theorem JT{s:c_}:(!(((ss.map (·.2)).filter λq=>!n9 s q).map jO).isEmpty)=!ss.all λq=>n9 s q.2:=by
 congr 1
 induction ss with
 |nil=>rfl
 |cons p r V=>
  simp only[d7,jy,wu,<-V]
  cases n9 s p.2<;>rfl
theorem WX{a b c d f:au}{q r s:Pos}{l:Nat}:mM [b7 [dM a b p,dM c d q] m r] (b7 [e,f] l s) ab=pure ak:=by
 have g:∀{a b:Bool} {X:Sem (Option (List Str))},(if a=ae then pure ak else if b=ae then pure ak else if ae=ae then pure ak else X)=pure ak:=λ{a b X}=>by induction a<;>induction b<;>rfl
 exact g
noncomputable def qe(d0:D)(L:ag)(o:Obj)(ss:b0)(n:Int)(z:Str)(b:ag)(m:Nat):ay:=([("heights",.obj (ij (aa z) b (lA ss) (kT (fg n) m))),("sticks",.obj (eX (kR ss++[(z,jO (fg n))]))),("stick",.dat (jO (fg n))),("letter",.dat (.str z)),("z",.dat (.int (zN n))),("y",.dat (.int (yN n))),("w",.dat (.int (wN n))),("x",.dat (.int (xN n))),("numbers",.obj (md d0 L o))]:List (Str×Bd))
theorem A7{s:c_}(h:fH s):(dR s).length<=5:=by
 unfold dR
 rw[aR,kD]
 exact nJ.mpr (nv h.wd 1)
theorem Ib{s:c_}{c:Int}(h:(dR s)[i]?=aa c):c=s.x0+i:=by
 unfold dR at h
 refine(ey.mp h).elim λhi e=>?_
 rw[List.getElem_map,List.getElem_range] at e
 exact e.symm
set_option tactic.hygienic true in
theorem Vj{s:c_}{c:Int}(h:(dR s)[i]?=aa c):c∉(kT s i).map (·.1):=by
 unfold kT
 rw[cJ]
 intro q
 obtain⟨c',Y,e⟩:=bL.mp q
 subst e
 obtain⟨j,V⟩:=qy.mp Y
 rw[EV] at V
 split at V
 ·rename_i W
  exact eB W (lR (EM ((Ib V).symm.trans (Ib h):_=_)))
 ·exact ns V
theorem TE{s:c_}{c:Int}(h:(dR s)[i]?=aa c):kT s (i+1)=kT s i++[(c,pairD (oG s c))]:=by
 unfold kT
 simp only[lN,h,dJ];rfl
theorem Bw{s:c_}(h:(dR s).length<=m):kT s m=(dR s).map λc=>(c,pairD (oG s c)):=by
 exact aQ _ (k9 h)
theorem Mm(x:Int):(if x<0 then-x else x)=(x.natAbs:Int):=XS x
structure Dv(w T q r:Int):Prop where
 eq:q*w+r=T
 sg:0<=r*w
 lt:r.natAbs<w.natAbs
theorem Dv.of{w T:Int}(V:w≠0):Dv w T (T.fdiv w) (T.fmod w):=by
 refine⟨?_,(Hn V).1,(Hn V).2⟩
 rw[wz,gY]
 exact Int.fmod_add_mul_fdiv T w
section
variable {d0:D} {L:ag} {o:Obj} {ss:b0} {n:Int} {z:Str} {k:Fl->ay->Prop}
noncomputable def Ls:List bw:=match M7.drop 5 with
 |.For _ _ b _ _::_=>b
 |_=>[]
set_option tactic.hygienic true in
theorem Vk{b:ag}{c r T:Int}(H:wN n≠0)(G:fH (fg n))(Z:(dR (fg n))[i]?=aa c)(V:Dv (wN n) T q r)(C:oG (fg n) c=(q,r*(60:Int).fdiv (wN n)))(B:∀ρ,Sub (qe d0 L o ss n z b (i+1)) ρ->k .next ρ):
 aL 150 (fs 26) (("rest",.dat (.int r))::("floor",.dat (.int q))::("top",.dat (.int T))::("column",.dat (.int c))::qe d0 L o ss n z b i:List (Str×Bd)) (Ls.drop 2) k:=by
 have Y:(wN n).natAbs<=4:=kQ (qd n).1 (qd n).2 (by decide)
 have W:r.natAbs<=4:=bd (cg V.lt Y)
 refine aL.skip (b_ (bQ (mulR (aV Y (by decide))) (cM.mk (λh=>aZ V.eq (bne_iff_ne.mp h)) λ_=>bQ (lm (by decide) W) (cM.mk (λh=>aZ V.sg (pu.mpr (cZ h))) λ_=>?_)))) ?_
 ·show decide ((if wN n<0 then-wN n else wN n)<=(if r<0 then-r else r))=aI
  simp only[Mm,Mm]
  exact eW λh=>aZ (fW.mp h) (kH.mpr V.lt)
 refine .cons (aO.putIn (c:=c) (m:=kT (fg n) i) rfl rfl rfl (rfl) (Vj Z) ?_ (λ_=>rfl) (aj.mono (k:=λd=>d=pairD (oG (fg n) c)) (bD ?_) λd e=>?_))
 ·unfold kT
  rw[aR,gG]
  exact aD (pb _ _) (aD (A7 G) (by simp))
 ·rw[C]
  by_cases h:0<wN n
  ·refine bP.t (by rw[eP h,eP (aV Y (by decide))];rfl) (bQ (lm (by decide) W) ?_)
   rw[no _ (du h)];rfl
  ·exact bP.f (by rw[eW h];rfl) (bF.fdiv H (Oc (aV Y (by simp))) (bQ (lm (by decide) W) rfl))
 ·subst e
  refine .nil (B _ ?_)
  unfold qe
  simp only[TE Z]
  exact cA.sub ⟨rfl,rfl,rfl,rfl,rfl,rfl,rfl,rfl,rfl,trivial⟩
set_option tactic.hygienic true in
theorem Vl{b:ag}{c:Int}(V:wN n≠0)(W:(dR (fg n))[i]?=aa c)(B:∀ρ,Sub (qe d0 L o ss n z b (i+1)) ρ->k .next ρ):
 aL 150 (fs 26) (("column",.dat (.int c))::qe d0 L o ss n z b i:List (Str×Bd)) Ls k:=by
 have Z:=xE V
 have H:=ye Z (c5 W)
 have f:c.natAbs<=11:=kQ H.1 H.2 (by decide)
 have G:(wN n).natAbs<=4:=kQ (qd n).1 (qd n).2 (by decide)
 have Y:(yN n).natAbs<=4:=kQ (uT n).1 (uT n).2 (by decide)
 have C:(zN n).natAbs<=4:=kQ (uU n).1 (uU n).2 (by decide)
 exact cw 2 (bQ (lm (by decide) Y) (bQ (lm (by decide) (gS C Y)) ((WO V (aV G (by simp)) (aV (uS (kP Y G) (kP (gS C Y) (gS f (kQ (yy n).1 (yy n).2 (by decide):(xN n).natAbs<=7)))) (by decide)) (Vk V Z W (Dv.of V) (Yy V) B)).le (by simp))))
end
theorem RF{d0:D}{n:Int}{k:Fl->ay->Prop}(R:Rm 150 A)(Z:A.frames=aa [ab,eL])(he:ab.frame=aa ab.locals)(hL:eL.frame=aa L)(G:eL.scope.kind≠.module)
 (C:∀p∈ss,fH p.2)(hz:z∉ss.map (·.1))(hl:ss.length<=6)(B:∀fl ρ,(fl=.next\/fl=.cont)->Sub (oH d0 L o (me ss (n,z))) ρ->k fl ρ):
 jP w A ab mu aw aE (fs 26) ((("letter",.dat (.str z))::("number",.dat (.int n))::oH d0 L o ss:List (Str×Bd))) M7 k:=by
 refine jP.cons R (aO.rr (aH:=["x","w","y","z"]) (.cons (.cons (.cons (.cons .nil)))) (by rfl) (by rfl) (by rfl) (by decide) (λ_=>rfl) (λab _ _=>IW rfl) ?_)
 refine n8 (E:=(kX 150 (fs 26) 40).1) (dD 40) (λ_ h=>h) ?_
 have b1:=yy n;have b2:=qd n;have b3:=uT n;have b4:=uU n
 refine jP.Yx (ρ:=([("z",.dat (.int (zN n))),("y",.dat (.int (yN n))),("w",.dat (.int (wN n))),("x",.dat (.int (xN n))),("letter",.dat (.str z)),("number",.dat (.int n))]:List (Str×Bd))++oH d0 L o ss) R (b_ (cM.mk (λh=>?_) (λh=>?_)))
 ·intro s g aB H E
  refine eg (Vg (n:=148) H R Z he hL G (xn:="numbers") rfl rfl rfl rfl (d_ (dD 40) (k:=λds=>∃a:Int,ds=[.int a,.int 0]) ⟨yN n,by rw[eq_of_beq h]⟩)) (λf s' q=>⟨q.1,B _ _ (.inr rfl) ?_,q.2⟩) λ_ _ x=>x
  rw[show me ss (n,z)=ss from bo (eq_of_beq h)]
  exact cA.sub ⟨rfl,rfl,rfl,trivial⟩
 have Y:wN n≠0:=λe=>by rw[e] at h;exact tf h
 have V:=xE Y
 refine aL.WV R (.cons (aO.assign (by rfl) (λ_=>rfl) (aj.mono (k:=λd=>d=jO (fg n)) (bD (cM.mk (λh=>?_) λh=>?_)) λd e=>?_)))
 ·unfold fg;rw[bo (cZ h)];rfl
 ·unfold fg;rw[be (ic h)];rfl
 subst e
 refine aL.cons (aO.WS (x:="sticks") rfl eX.turn (b_ (aj.comp rfl (λ_ _=>rfl) (dj.fx (c:=jO) Vi rfl (bK.values rfl (λ_=>rfl) (aj.name rfl rfl ⟨_,rfl,?_,?_⟩))))))
 ·unfold kR;rw[aR];exact bd (aV hl (by decide))
 refine⟨ss.map (·.2),λs=>!n9 (fg n) s,jO,by unfold kR;rw[cJ,cJ];rfl,λs hs=>?_,?_⟩
 ·obtain⟨p,hp,rfl⟩:=bL.mp hs
  have W:=C p hp
  exact b_ ((TD V.nb.1 V.nb.2.1 V.nb.2.2.1 V.nb.2.2.2 W.nb.1 W.nb.2.1 W.nb.2.2.1 W.nb.2.2.2 ⟨rfl,λ_=>bD rfl⟩).le (by simp))
 refine bq.Lq (cM.mk (λh=>?_) λh=>?_)
 ·rw[JT] at h
  refine cw 5 (B _ _ (.inr rfl) ?_)
  rw[show me ss (n,z)=ss from (be Y).trans (be (by intro q;rw[q] at h;exact ft h))]
  exact cA.sub ⟨rfl,rfl,rfl,trivial⟩
 rw[JT] at h
 refine aL.nil ?_
 have zk:z∉(kR ss).map (·.1):=by unfold kR;rw[cJ];exact hz
 have zk2:z∉(lA ss).map (·.1):=by unfold lA;rw[cJ];exact hz
 refine aL.cons (aO.WU (l:=kR ss) (m:=lA ss) (z:=z) rfl rfl rfl (by decide) (by decide) (by decide) rfl zk zk2 ⟨by unfold kR;rw[aR];exact bd (aV hl (by decide)),by unfold lA;rw[aR];exact bd (aV hl (by decide))⟩ rfl (λ_=>rfl) (λ_=>?_) ?_)
 ·exact WX
 refine cK.dat (bD (cK.C8 eX.ok eX.nil ⟨_,rfl,λb=>?_⟩))
 refine aL.cons (aO.sub (ρ:=qe d0 L o ss n z b 0) ?_ (cA.sub ⟨rfl,rfl,rfl,rfl,rfl,rfl,rfl,rfl,rfl,trivial⟩))
 refine aO.for (λ_ _=>rfl) (bK.call (AG rfl) rfl (d_ (dD 40) (fN.B_ (yf V).1 (yf V).2 ⟨λi aC=>aC=qe d0 L o ss n z b i,rfl,?_,?_,?_⟩)))
 ·rintro i _ rfl;rfl
 ·rintro i d _ hd rfl
  rw[AA] at hd
  obtain⟨c,hc,rfl⟩:=ints_get hd
  exact c0.name rfl (Vl Y hc λρ hs=>⟨_,hs,rfl⟩)
 ·rintro _ rfl
  refine aL.turn (x:="heights") rfl rfl ij.turn (aL.nil (B _ _ (.inl rfl) ?_))
  simp only[AA,aR,show me ss (n,z)=ss++[(z,fg n)] from (be Y).trans (bo (by simpa using h)),Bw (bv _)]
  unfold oH
  simp only[show kR (ss++[(z,fg n)])=kR ss++[(z,jO (fg n))] from dJ,show lA (ss++[(z,fg n)])=lA ss++[(z,.et (kT (fg n) 16))] from dJ,Bw (m:=16) (aD (A7 V) (by simp))]
  exact cA.sub ⟨rfl,rfl,rfl,trivial⟩
noncomputable def lets:Str:="ABCDEF"
theorem Ag(l:List (Int×Str))(p:Int×Str):eT (l++[p])=me (eT l) p:=lO
set_option tactic.hygienic true in
theorem I3(ss:b0)(p:Int×Str):me ss p=ss\/(wN p.1≠0/\(ss.all λq=>n9 (fg p.1) q.2)=ae/\me ss p=ss++[(p.2,fg p.1)]):=by
 unfold me
 split
 ·exact .inl rfl
 ·split
  ·rename_i V Y;exact .inr ⟨V,Y,rfl⟩
  ·exact .inl rfl
theorem tx(l:List (Int×Str)):(∀p∈eT l,fH p.2)/\((eT l).map (·.1)).Sublist (l.map (·.2)):=by
 refine snocInd (P:=λl=>(∀p∈eT l,fH p.2)/\((eT l).map (·.1)).Sublist (l.map (·.2))) ⟨λ_ h=>aZ h ca,.slnil⟩ (λl a Y=>?_) l
 rw[Ag,dJ]
 refine(I3 (eT l) a).elim (λe=>?_) λW=>W.elim λH Z=>Z.elim λ_ e=>?_
 ·rw[e];exact⟨Y.1,Y.2.trans (List.sublist_append_left _ _)⟩
 ·rw[e,dJ]
  refine⟨λp V=>?_,Y.2.append (Ph _)⟩
  rcases cQ.mp V with V|V
  ·exact Y.1 p V
  ·obtain rfl:=a_.mp V;exact xE H
noncomputable def uV(ss:b0):D:=.tup [jf ss,h_ ss (gw ss)]
theorem WY(Y:(ss.map (·.1)).Nodup)(W:∀p∈ss,fH p.2):D.tup [.cL (kR ss),.cL (lA ss)]=uV ss:=by
 delta uV jf h_ lA
 refine(show (ss.map λp=>(p.1,D.et (kT p.2 16)))=ss.map λp=>(p.1,.et ((dR p.2).map λc=>(c,pairD (gw ss p.1 c)))) from lK λp V=>by
  rw[Bw (aD (A7 (W p V)) (by simp))];unfold gw;rw[pz Y V])▸?_
 rfl
def Do(d0:D)(L:ag)(o:Obj)(r:D)(fl:Fl)(ρ:ay):Prop:=fl=.ret r/\i_ (a6 "numbers") ρ=aa (Bd.obj (md d0 L o))
noncomputable def stR:List bw:=(fb 26).drop 2
set_option tactic.hygienic true in
theorem RG{ns:List Int}(R:Rm 150 A)(jv:A.frames=aa [ab,eL])(he:ab.frame=aa ab.locals)(hL:eL.frame=aa L)(DS:eL.scope.kind≠.module)
 (hl:ns.length=6):
 jP w A ab mu aw aE (fs 26) ([("numbers",.obj (md (.lst (ns.map D.int)) L o))]:List (Str×Bd)) (fb 26) (Do (.lst (ns.map D.int)) L o (uV (eT (ns.zip (chars lets))))):=by
 refine jP.cons R (aO.AF (aH:=["sticks","heights"]) rfl rfl rfl (by decide) (by decide) (λ_=>rfl) (λab e1 e2=>Bu e1 e2 rfl (rfl) (rfl)) (cK.C8 eX.ok eX.nil (cK.C8 eX.ok eX.nil ?_)))
 obtain⟨V,Y⟩:∃V,V=ns.zip (chars lets):=⟨_,rfl⟩
 have acX:V.map (·.2)=chars lets:=by rw[Y,Fm];rw[hl];exact bv 6
 have iH:(V.map (·.2)).Nodup:=by rw[acX];decide
 have pl:V.length=6:=by rw[Y,P2,hl];rfl
 intro s g aB H E
 refine mF (bg (IA (k:=pI 150 (fs 26) stR (Do (.lst (ns.map D.int)) L o (uV (eT (ns.zip (chars lets)))))) (λ_ _=>rfl) (H.weaken (aC:=oH (.lst (ns.map D.int)) L o (eT (V.take 0))) (cA.sub ⟨rfl,rfl,rfl,trivial⟩)) λE=>?_) ?_)
 ·refine bK.run (n:=150) (sc:=fs 26) ?_ w A ab s g H.st R (H.acW (x:="numbers") rfl) E
  refine bK.call (Up rfl) rfl (d_ (dD 40) ?_)
  refine fN.acQ (l:=ns.map D.int) (x:=lets) (by rw[aR,hl];decide) (by decide) (by decide+kernel) ⟨λi aC=>aC=oH (.lst (ns.map D.int)) L o (eT (V.take i)),rfl,?_,?_,?_⟩
  ·rintro i _ rfl;rfl
  ·rintro i d _ s g dW v hd rfl H hv E E'
   refine ba λN_=>?_
   obtain⟨a,c,h1,h2,rfl⟩:=Ia hd
   obtain⟨n,hni,rfl⟩:∃n,ns[i]?=aa n/\a=.int n:=by
    replace h1:=ci▸h1
    induction q:ns[i]? with
    |none=>exact nomatch (q▸h1)
    |some n=>replace h1:=q▸h1;obtain rfl:=aW h1;exact⟨n,rfl,rfl⟩
   apply N_
   have hz:V[i]?=aa (n,⟨#[c]⟩):=by
    rw[Y,NP]
    refine⟨hni,?_⟩
    unfold chars
    simp only[ci,ku,h2];rfl
   have fc:=tx (V.take i)
   have e1:eT (V.take (i+1))=me (eT (V.take i)) (n,⟨#[c]⟩):=by
    simp only[lN,hz];exact Ag _ _
   refine bg (((λ_ _ _ _=>c0.tup rfl rfl (jE (fJ.name rfl (jE (fJ.name rfl (pD (Sub.refl _)))))):∀cc p p1 p2,c0 150 (fs 26) (oH (.lst (ns.map D.int)) L o (eT (V.take i))) (b7 [aS (a6 "number") p1,aS (a6 "letter") p2] cc p) (.tup [.int n,.str ⟨#[c]⟩]) λaC=>Sub ((("letter",.dat (.str ⟨#[c]⟩))::("number",.dat (.int n))::oH (.lst (ns.map D.int)) L o (eT (V.take i)):List (Str×Bd))) aC) _ _ _ _).run w A ab _ _ _ s g dW v H R hv E') (λ_ kU ⟨ie,Z2,adW,H3,m₃,jQ⟩=>?_)
   refine bg (RF (z:=⟨#[c]⟩) R jv he hL DS fc.1 (λq=>?_) ?_ (λfl ρ oW hs=>?_) _ _ _ (H3.weaken jQ) E) (λ_ _ x=>x)
   ·have q:=fc.2.subset q
    rw[Gf] at q
    obtain⟨j,hj⟩:=qy.mp q
    rw[EV] at hj
    split at hj
    ·rename_i hji
     have hi:(V.map (·.2))[i]?=aa ⟨#[c]⟩:=by rw[ci,hz];rfl
     obtain⟨hj1,hj2⟩:=ey.mp hj
     obtain⟨hi1,Eh⟩:=ey.mp hi
     exact NM.mp iH j i hj1 hi1 hji (hj2.trans Eh.symm)
    ·exact nomatch hj
   ·have:=fc.2.length_le
    simp only[aR,aR,gG] at this
    exact aD (aD this (pb _ _)) (bn pl)
   ·rw[<-e1] at hs
    rcases oW with rfl|rfl
    ·exact⟨_,hs,rfl⟩
    ·exact⟨_,hs,rfl⟩
  ·rintro _ rfl
   have jr:(om (ns.map D.int) lets).length=6:=by rw[A6 (by rw[aR,hl];decide),aR,hl]
   rw[jr,k9 (bn pl)]
   refine aL.turn (x:="sticks") rfl rfl eX.turn (aL.turn (x:="heights") rfl rfl eX.turn (cw 3 ?_))
   show Do _ L o _ (.ret (.tup [.cL (kR (eT V)),.cL (lA (eT V))])) _
   exact(WY (by have:=(λi=>(tx (V.take i)).2.nodup (by rw[Gf];exact iH.sublist (Ps ..)):∀i,((eT (V.take i)).map (·.1)).Nodup) 6;rwa [k9 (bn pl)] at this) (tx V).1)▸(Y▸⟨rfl,rfl⟩)
 ·rintro f aA ⟨aN,B,fl,W,Z,G,C⟩
  induction f<;>induction fl<;>first|exact G.elim|exact C.run w A ab _ _ _ _ _ _ Z R E|exact⟨aN,B,_,W,Z,G,C⟩
theorem RH{ns:List Int}(S:St w s g)(R:Rm 152 A)(Y:A.frames=aa [eL])(hL:eL.frame=aa L)(W:eL.scope.kind≠.module)(K:mU L o s g)(M:dq w s g [L])(r:aP w g vs [.lst (ns.map D.int)])
 (hl:ns.length=6)(hQ:∀v s' g',Nx [L] s g s' g'->St w s' g'->Rep w g' v (uV (eT (ns.zip (chars lets))))->mU L o s' g'->Q v s'):wpAny (model PG w) A (call (.ref 281) vs) Q E s:=by
 obtain⟨doc,pm,bA,ct,an,hk,Z⟩:=CQ.def_.at_ w
 have q:=(bB _ _).mp CQ.ok
 have C:dQ w s g [L] (fs 26) [] [] (λ_=>[]):=dQ.nil λx e=>by
  have:=ee.mp ((bB _ _).mp q.2).1 _ (ez e)
  simp at this
 obtain⟨v,rfl,h1⟩:=r.one
 have ar:cW w s g [L] [v] [.obj (md (.lst (ns.map D.int)) L o)] (mq [L] λ_=>[]):=
  .cons (λ_=>⟨⟨rfl,h1,K⟩,md.ok⟩) (λc hc=>hc) (λ_ _ _ _ _ _ h=>ca h) (.nil M)
 refine lU (mO (wZ (Q:=Q) S R ar (S.df _ _ hk) rfl (CodeRec.of_K S Z) C (.inl rfl) (CQ.binds doc pm bA ct an s _ r.1) rfl (λc q e=>nomatch e) q.1 E λab aA aB V H=>?_) λr s' hr=>?_)
 ·refine bg (RG ((R.le (jD _)).deeper:Rm 150 (A.deeper ab)) (EK Y) V hL W hl _ _ _ (rA▸H) _) (λf s' ⟨g',aC,fl,B,G,F',e1,e2⟩=>?_)
  subst e1
  obtain⟨v,_,⟨_,_,k⟩,_⟩:=G.var _ _ e2
  induction f<;>first|exact F'.elim|skip
  exact hQ _ _ _ G.nx G.st F' k
 ·exact nS r hr (λ_ h=>h) λ_ h=>h
theorem bj.Z3{aB:Str->List ag}(A:bj w mu aw aE s g ab sc ρ aB)(K:mU ab.locals o s g)(N:Nx [ab.locals] s g s' g')(S':St w s' g')(K':mU ab.locals o s' g'):bj w mu aw aE s' g' ab sc ρ aB:=by
 refine K.at_.elim λsl e=>?_
 refine K'.at_.elim λsl' e'=>?_
 have ns:∀m,s.heap.Ns ab.locals m->s'.heap.Ns ab.locals m:=λm q_=>by
  obtain⟨G,es,ep,Y,d1,r1⟩:=q_
  obtain rfl:=aW (e.symm.trans Y)
  exact⟨_,es,ep,e',d1,r1⟩
 refine A.gy.elim λm hm=>?_
 have V:∀x c,ab.cells.lookup x=aa c->c∉[ab.locals]:=λx c h q=>(A.cP x c h).2.2 (a_.mp q)
 refine⟨A.gR,A.fw,S',A.nx.over N λa W=>a_.mp W▸A.iW,A.kind,A.glob,A.gq,A.ks,A.lam,K'.off,⟨m,ns m hm⟩,A.iW,λx c h=>?_,A.lr,A.ff,A.e6,λx b h=>?_,λx b h a W=>?_,A.e7⟩
 ·obtain⟨h1,⟨v,h2⟩,h3⟩:=A.cP x c h
  obtain⟨G,Y,d⟩:=id h2
  exact⟨N.old _ _ Y h1 (V x c h),⟨v,N.cell A.st h2 (V x c h)⟩,h3⟩
 ·obtain⟨v,h1,h2⟩:=A.var x b h
  refine⟨v,?_,h2.step N A.st (λa W q=>(A.dH x b h a W).2.1 (a_.mp q)) λ_ a W G Y=>?_⟩
  ·rcases h1 with ⟨C,Z,m',H,q4⟩|⟨C,c,Z,H,q4⟩
   ·exact .inl ⟨C,K'.off,m',ns m' H,q4⟩
   ·obtain⟨G,Y,d⟩:=id q4
    exact .inr ⟨C,c,Z,N.old _ _ Y H (V _ _ Z),N.cell A.st q4 (V _ _ Z)⟩
  ·obtain rfl:=a_.mp W
   obtain rfl:=aW (e.symm.trans Y)
   exact cV.of K.nf
 ·refine(A.dH x b h a W).elim λB H=>B.elim λC f=>f.elim λG Z=>?_
  exact⟨⟨C,N.there a G Z λq=>H.1 (a_.mp q)⟩,H⟩
theorem RI{ns:List Int}{aB:Str->List ag}{p1 p2 tp:Pos}(H:bj w mu aw aE s g ab sc ρ aB)(R:Rm 152 A)(jv:A.frames=aa [ab])(he:ab.frame=aa ab.locals)
 (hf:sc.names.lookup (a6 "_law_sticks")=aa cj)(hx:ρ.lookup (a6 "numbers")=aa (.dat (.lst (ns.map D.int))))(hm:mine sc (a6 "sticks")=ae/\mine sc (a6 "heights")=ae)(hl:ns.length=6):
 wpAny (model PG w) A (exec (e_ [b7 [aS (a6 "sticks") p1,aS (a6 "heights") p2] c tp] (bU (aS (a6 "_law_sticks") np) [aS (a6 "numbers") xp] [] cp) aM) ab)
  (Fin w mu aw aE ab sc λfl aC=>fl=.next/\aC=(a6 "heights",.dat (h_ (eT (ns.zip (chars lets))) (gw (eT (ns.zip (chars lets))))))::(a6 "sticks",.dat (jf (eT (ns.zip (chars lets)))))::ρ) E s:=by
 refine Ai (I1 (n:=152) (k:=λds=>ds=[.lst (ns.map D.int)]) (FP hf) rfl (hZ (aj.name hx rfl (fQ rfl))) H.st R H.cI λvs aA aN ds Z V G e=>?_) rfl rfl
 subst e
 have W:=H.step Z V
 refine ba λN_=>?_
 obtain⟨m,oL,es,ep,eL,dL,_⟩:=W.gy
 apply N_
 have nf:∀vs,oL.data≠bC vs:=λvs q=>nomatch dL.symm.trans q
 have K:mU ab.locals oL aA aN:=⟨⟨_,eL⟩,W.ii,V.dN eL (.inr nf),nf⟩
 refine RH V R jv he (by rw[H.kind];nofun) K (λa ha=>?_) G hl λv aT bb C B f adi=>?_
 ·obtain rfl:=a_.mp ha
  exact W.LP W.iW W.ii eL
 refine bg ((fJ.tup (n:=152) rfl rfl (jE (fJ.name hm.1 (jE (fJ.name hm.2 (pD (Eq.refl _))))))).run w A ab mu aw aE aT bb aB v (W.Z3 K C B adi) R f E) (λ_ kU q_=>by obtain⟨ie,Z2,Y,H3,_,e⟩:=q_;exact⟨ie,_,.next,Y,H3,trivial,rfl,e.symm⟩)
section
variable {fR:ud} {w:a9} {A:bN} {E:ai->av->Prop} {s:av}
theorem I4{V t:ag}(Y:s.heap.IsTupleIter V t i)(C:s.heap.IsTuple t af)(hh:A.handled=ak)
 (B:∀x h',af[i]?=aa x->h'.IsTupleIter V t (i+1)->kG V s.heap h'->Q x {s with heap:=h'})
 (f:af[i]?=ak->∀h' e,wB V s.heap h'->(∃o,h'.get? e=aa o/\o.cls=aK "StopIteration")->E (.ref e) {s with heap:=h'}):wpAny (model fR w) A (adz (.ref V)) Q E s:=by
 refine ba λN_=>?_
 obtain⟨o,W,hc,hd⟩:=id Y
 obtain⟨_,Z,_,_,H⟩:=C
 apply N_
 refine aJ (qw (name:=a6 "__next__") Y.typeIs F.slot_tuple_iterator_next (jZ F.slot_tuple_iterator_next Y.typeIs F.entry_tuple_iterator_next ?_ (F.args_tuple_iterator_next_1 _)))
 refine aJ (m:=field (.ref V) 0) (As W hd (x:=.ref t) rfl ?_)
 refine aJ (m:=field (.ref V) 1) (As W hd (x:=.int i 0) rfl ?_)
 refine aJ (m:=wX (.ref t)) (Qa Z H ?_)
 dsimp only[lQ]
 induction G:af[i]? with
 |some x=>
  refine aJ (pe W hd (bv _) (a8 ⟨x,rfl,a8 (B x _ G ?_ (gE ..))⟩))
  exact⟨_,sX _ W (vH (s0 hd _)),(Obj.cls_mapFields ..).trans hc,by rw[s0 hd];rfl⟩
 |none=>
  refine ka (aJ (pe W hd (eA _) ?_))
  refine aJ (m:=newExc (aK "StopIteration") []) ?_
  refine aJ (lb ?_ (by size_fits))
  refine aJ (m:=FX _ _) (tI (a:=fB) (by first|rfl|(rfl)) ?_)
  refine lb ?_ (by size_fits)
  dsimp only[raiseNew]
  refine AT ?_
  rw[show A.in1.handled=ak from hh]
  refine fY (GP ?_)
  exact f G _ _ (((gE ..).extBut.push _).push _) ⟨_,cB _ rfl,rfl⟩
theorem TF(hh:A.handled=ak)(V l:ag)(Y:l≠V)(af:Array ai):
 Draws fR w A V [V,l] af.size (λi v=>af[i]?=aa v) (λi h=>h.IsTupleIter V l i/\h.IsTuple l af) where
 live:=λ_ _ st=>st.1.elim λo G=>G.elim λC _=>⟨o,C⟩
 frame:=λ_ _ _ st H=>⟨st.1.at λo e=>H V (bi) o e,st.2.at λo e=>H l ((bM _ bi)) o e⟩
 item:=λi s Q E hi st B=>I4 st.1 st.2 hh (λx h' W Z hs=>B x h' s.toks W ⟨Z,st.2.extBut hs.extBut Y⟩ hs) λf=>aZ f (by simp[hi])
 done:=λs Q E st hE=>I4 st.1 st.2 hh (λx h' W=>aZ W (by simp)) λ_=>hE
end
theorem Vm{w:n_}{Q:α->av->Prop}{a:α}(h:∀a,Q a s):wpAny w A (pure a) Q E s:=a8 (h a)
open AutoSeq1 (wpAny_loadPart') in
set_option tactic.hygienic true in
theorem RJ(l:ag)(af:Array ai)(n:Nat):
 Meets (Builtin.«enumerate.__new__» ⟨[aK "enumerate",.ref l],[]⟩) (λ_ R s=>s.heap.get? l=aa {cls:=aK "tuple",data:=.seq af n}/\
  R (.ok (.ret (.ref (s.heap.push {cls:=aK "tuple_iterator",data:=bC #[.ref l,.int 0 0]}).objs.size)))
   {s with heap:=(s.heap.push {cls:=aK "tuple_iterator",data:=bC #[.ref l,.int 0 0]}).push {cls:=aK "enumerate",data:=bC #[.none,.bool aI,.ref s.heap.objs.size,rawInt 0,.none,.none]}}):=
 .of_wp λfR w A R s h=>by
  obtain⟨W,g,d,tk,os⟩:=s;have hl:=h.1;have h:=h.2
  have V:=sub_enumerate
  have Y:Heap.IsTuple (Ro ⟨W,g,d,tk,os⟩) l af:=⟨_,hl,rfl,n,rfl⟩
  wp_walk using zW hl
  refine wpAny_stack_any λst=>Vm λb=>?_
  induction b
  ·wp_walk using zW hl,EX Y
   exact⟨_,rfl,h⟩
  ·wp_walk using zW hl,EX Y
   exact⟨_,rfl,h⟩
theorem fN.Z4{k:List D->Prop}(hl:l.length<=10000)(hk:k (jj l)):fN n (aK "enumerate") [.tup l] (b7 ts c p) k:=.mk λw A s g vs S R r E=>by
 obtain⟨v,rfl,h1⟩:=r.one
 refine h1.t_ λa nn Z H rl=>?_
 have sz:Z.size=(jj l).length:=by have:=rl.1;rw[nP];exact this
 have C:=cq (S.sub _ _ H)
 refine callType_new F.called_enumerate (rfl) (F.typeCall_enumerate_1 _) (F.newCall_enumerate_1 _) (λobj=>F.args_object_init_2 obj _) F.entry_enumerate_new (RJ a Z nn) ⟨S.sub _ _ H,?_⟩
 have hz:(s.heap.push {cls:=aK "tuple_iterator",data:=bC #[.ref a,.int 0 0]}).objs.size=s.heap.objs.size+1:=gX ..
 have B:=cB (s.heap.push {cls:=aK "tuple_iterator",data:=bC #[.ref a,.int 0 0]}) (o:={cls:=aK "enumerate",data:=bC #[.none,.bool aI,.ref s.heap.objs.size,rawInt 0,.none,.none]}) rfl
 have hi:((s.heap.push {cls:=aK "tuple_iterator",data:=bC #[.ref a,.int 0 0]}).push {cls:=aK "enumerate",data:=bC #[.none,.bool aI,.ref s.heap.objs.size,rawInt 0,.none,.none]}).get? s.heap.objs.size=aa {cls:=aK "tuple_iterator",data:=bC #[.ref a,.int 0 0]}:=bZ _ (cB _ rfl)
 have keep:∀b o,s.heap.get? b=aa o->((s.heap.push {cls:=aK "tuple_iterator",data:=bC #[.ref a,.int 0 0]}).push {cls:=aK "enumerate",data:=bC #[.none,.bool aI,.ref s.heap.objs.size,rawInt 0,.none,.none]}).get? b=aa o:=λb o e=>bZ _ (bZ _ e)
 rw[hz] at B⊢
 generalize (s.heap.push {cls:=aK "tuple_iterator",data:=bC #[.ref a,.int 0 0]}).push {cls:=aK "enumerate",data:=bC #[.none,.bool aI,.ref s.heap.objs.size,rawInt 0,.none,.none]}=h' at*
 refine⟨⟨_,B,rfl⟩,?_⟩
 refine(S.ext' (h':=h') (tk:=s.toks) keep).elim λN G=>?_
 have W:=Pl (TF (fR:=PG) (w:=w) (A:=A.in1) R.2.2 s.heap.objs.size a (eB C) Z) (s.heap.objs.size+1) (Fj _) (by simp;exact jB (lP C)) (bi)
 simp only[sz] at W
 have hJ:(λ(i:Nat) (h:dp)=>(∃f,IsEnum h (s.heap.objs.size+1) s.heap.objs.size i f)/\h.IsTupleIter s.heap.objs.size a i/\h.IsTuple a Z) 0 h':=⟨⟨_,B⟩,⟨_,hi,rfl,rfl⟩,⟨_,keep _ _ (S.sub _ _ H),rfl,nn,rfl⟩⟩
 refine W.self 0 _ _ E hJ ⟨_,_,_,_,jj l,g,rfl,N,G,dz.ofT W.toU (λi gU d hi q_=>q_.elim λt q_=>q_.elim λx q_=>q_.elim λhx hv=>?_) (λi h ⟨⟨f,e1⟩,⟨o,e2,e3,e4⟩,_⟩ b hb=>?_),hJ,λb hb=>?_,λb hb=>?_,by rw[nP];exact hl,hk⟩
 ·obtain⟨y,hy,rfl⟩:=tW hi
  subst hv
  exact⟨_,rfl,aP.cons (.int _ _) (aP.cons (rl.2 i x y (by simpa using hx) hy) aP.nil)⟩
 ·rcases bT.mp hb with rfl|q
  ·exact⟨_,e1,λvs q t e e'=>by cases e;simp at e'⟩
  ·obtain rfl:=a_.mp q
   exact⟨o,e2,λvs q t e e'=>by replace e:=e4▸e;cases e;simp at e'⟩
 ·rcases bT.mp hb with rfl|q
  ·exact hY S (jD _)
  ·obtain rfl:=a_.mp q
   exact hY S (bv _)
 ·rcases bT.mp hb with rfl|q
  ·exact⟨G.dN B (.inl (by simp)),cq B,.inl (bi)⟩
  ·refine(bT.mp q).elim (λnh=>?_) λq=>?_
   ·subst nh;exact⟨G.dN hi (.inl (by simp)),cq hi,.inl ((bM _ bi))⟩
   ·cases a_.mp q
    exact⟨G.dN (G.sub _ _ H) (.inl (by simp)),cq (G.sub _ _ H),.inr ⟨_,H⟩⟩
theorem bk.acY{l:List (Str×D)}(hl:l.length<=10000)(Y:k (.int l.length)):bk n (.builtin "len") [.cL l] k:=.mk λw A s g vs S R r E=>by
 obtain⟨v,rfl,h⟩:=r.one
 refine ba λW=>?_
 obtain⟨a,G,es,rfl,C,V,bh,Z,H,_⟩:=ut S h
 apply W
 have e:bh.length=l.length:=by have:=aQ gk H;simpa using this
 exact call_len_dict (knd:=ir PG w) (beq_false_of_ne V) Z.dictOf (by exact YX (by assumption) (by assumption)) (Out.toks S (.int _ _) (e▸Y))
theorem Mn:FnAt 45 4 "_ellipsis_match" ["want","got"]:=⟨⟨λw=>⟨_,_,_,_,_,rfl,_,_,_,_,rfl,rfl,rfl,rfl⟩⟩,λ_ _ _ _ _ _ vs h=>jd (λ_ _=>by rfl) vs h,by rfl,by rfl⟩
theorem aj.marks(h:k (.str "...")):aj n (fs 4) ρ (aS "ELLIPSIS_MARKER" p) k:=aj.top (v:=.str "..." 291) (by ac_rfl) (by intro w;ac_rfl) (by ac_rfl) (λw g=>.str _ _) h
theorem TG{V got:Str}(Y:ji "..." V=aI)(W:k (.bool (V==got))):bJ 30 45 [.str V,.str got] k:=
 bJ.of Mn rfl (aj.marks (cM.mk (λ_=>W) λh=>by replace h:=Y▸h;exact tf h))
section
variable {got:Str} {k:D->Prop}
noncomputable def Dp(L:List Str)(s e:Nat)(got:Str):ay:=([("ws",.dat (.lst (L.map D.str))),("startpos",.dat (.int s)),("endpos",.dat (.int e)),("got",.dat (.str got))]:List (Str×Bd))
theorem mS{L:List Str}(h:(L.map D.str)[i]?=aa d):∃x,L[i]?=aa x/\d=.str x:=by
 rw[ci] at h
 induction q:L[i]? with
 |none=>rw[q] at h;exact ns h
 |some x=>rw[q] at h;exact⟨x,rfl,(aW h).symm⟩
theorem xu{P:Prop}(h:¬P):(aI=ae<->P):=⟨te,λq=>aZ q h⟩
theorem Vo{L:List Str}{s e:Nat}(f:got.length<=10000)(hL:L.length<=1001)(Z:e<=(cl got).length)(H:s<=e)(B:∀b:Bool,(b=ae<->cG (L.map cl) (win (cl got) s e))->k (.bool b)):aL 28 (fs 4) (Dp L s e got) ((fb 4).drop 9) (fK k):=by
 refine .cons (aO.for (λ_ _=>rfl) (bK.list (aj.name rfl rfl ⟨_,rfl,by rw[aR];exact bd (aV hL (by simp)),λi aC=>∃s':Nat,aC=Dp L s' e got/\s'<=e/\(cG ((L.drop i).map cl) (win (cl got) s' e)<->cG (L.map cl) (win (cl got) s e)),⟨s,rfl,H,Ji⟩,?_,?_,?_⟩)))
 ·rintro i _ ⟨s',rfl,_⟩;rfl
 ·rintro i d _ hd ⟨s',rfl,Y,V⟩
  obtain⟨x,hx,rfl⟩:=mS hd
  have hi:=ey.mp hx
  rw[qv hi.1,hi.2,d7] at V
  refine c0.name rfl (cw 4 (bk.ZM (by simp only[cD];exact Z) ?_))
  rcases Dd (x:=got) (y:=x) Y Z with ⟨j,r',G,hj,a,ha,hw1,W⟩|⟨G,W⟩
  ·rw[G]
   have C:x.length<2^63:=YR f Z Y hj
   refine bQ C ?_
   refine⟨Dp L (s'+j+(cl x).length) e got,cA.sub ⟨rfl,?_,rfl,rfl,trivial⟩,_,rfl,by exact aa4 (by assumption) (by assumption),(W _).symm.trans V⟩
   simp only[<-cD x];rfl
  ·exact G▸(B aI (xu λq=>W _ (V.mpr q)))
 ·rintro _ ⟨s',rfl,Y,V⟩
  rw[aR,zQ] at V
  exact cw 1 (B ae ⟨λ_=>V.mp trivial,λ_=>rfl⟩)
noncomputable def uW(a:ag)(L:List Str)(s e:Nat)(got:Str):ay:=([("ws",.own a (L.map D.str)),("startpos",.dat (.int s)),("endpos",.dat (.int e)),("got",.dat (.str got))]:List (Str×Bd))
theorem JU{L:List Str}{s e:Nat}(Y:got.length<=10000)(W:L.length<=1001)(Z:e<=(cl got).length)(V:∀b:Bool,(b=ae<->s<=e/\cG (L.map cl) (win (cl got) s e))->k (.bool b)):aL 28 (fs 4) (uW a L s e got) ((fb 4).drop 8) (fK k):=by
 by_cases h:s<=e
 ·exact aL.skip (b_ (eW (by exact abB (by assumption)))) (aL.freeze (x:="ws") rfl (aL.sub (Vo Y W Z h λb H=>V b (H.trans ⟨λq=>⟨h,q⟩,λq=>q.2⟩)) (cA.sub ⟨rfl,rfl,rfl,rfl,trivial⟩)))
 ·exact aL.take (b_ (eP (by omega))) (cw 1 (V aI (xu λq=>h q.1)))
theorem M8{r:Str}:((r.length:Int) != 0)=ae<->cl r≠[]:=by
 refine bne_iff_ne.trans ?_;simp only[cD]
 exact⟨λh e=>h (by rw[e];rfl),λh e=>h (lI.mp (lR e))⟩
theorem M9{r:Str}(h:cl r=[]):((r.length:Int) != 0)=aI:=by rw[cD,h];rfl
theorem Ic{l:List α}{r:α}(h:(l++[r]).length<=100000):lj (-1) (l++[r]).length=aa l.length:=by
 have e:lj (-1) (l++[r]).length=if (decide (0<=(-1:Int)+(l++[r]).length)&&decide ((-1:Int)+(l++[r]).length<(l++[r]).length))=ae then aa ((-1:Int)+(l++[r]).length).toNat else ak:=rfl
 refine e.trans ?_;rw[bR,Of,eP (by omega),eP (by omega)]
 show aa _=_
 congr 1;exact J' _
theorem b8.Lu{r:D}(h:(l++[r]).length<=100000)(V:k r):b8 n (.lst (l++[r])) (.int (-1)) k:=
 b8.lst (j:=l.length) (by simp) (by simp) (Ic h) (by rw[oZ (bv _),tE];rfl) V
theorem b8.Lw(hd:l.getLast?=aa d)(hl:l.length<=10000)(V:k d):b8 n (.lst l) (.int (-1)) k:=by
 obtain⟨s,rfl⟩:=Eu.mp hd
 exact b8.Lu (aD hl (by simp)) V
theorem bk.vm{f:ai}{ds sR:List D}(e:ds=sR)(h:bk n f sR k):bk n f ds k:=e▸h
structure Z5(got p r:Str)(qs l:List Str):Prop where
 hg:got.length<=10000
 hr:r.length<=10000
 hl:l.length<=1000
 hm:∃m,cl got=cl p++m
 sc:∀x w,(cG (l.map cl++x) w<->cG (qs.map cl++x) w)
theorem I5{p r:Str}{qs l:List Str}(H:Z5 got p r qs l)(B:∀b:Bool,(b=ae<->ms (cl p::(qs.map cl++[cl r])) (cl got))->k (.bool b)):aL 28 (fs 4) (uW a (l++[r]) (cl p).length got.length got) ((fb 4).drop 6) (fK k):=by
 refine H.hm.elim λm0 W=>?_
 have V:r.length<2^63:=aV H.hr (by simp)
 have Y:(l.map D.str++[D.str r]).length<=100000:=by rw[bR,aR];have:=H.hl;exact qH (aV this (by simp))
 refine aL.sub (ρ:=uW a (l++[r]) (cl p).length got.length got) ?_ (cA.sub ⟨rfl,rfl,rfl,rfl,trivial⟩)
 have em:(l++[r]).map D.str=l.map D.str++[D.str r]:=dJ
 unfold uW
 refine em▸?_
 refine cw 1 (b8.Lu Y ⟨rfl,?_⟩)
 by_cases h:cl r=[]
 ·refine aL.skip (b_ (bQ V (M9 h))) (aL.sub (JU (a:=a) (L:=l++[r]) (s:=(cl p).length) (e:=got.length) H.hg (by rw[bR];have:=H.hl;exact qH (aV this (bv _))) (bn (cD got)) λb f=>B b (f.trans ?_)) (cA.sub ⟨?_,rfl,rfl,rfl,trivial⟩))
  ·rw[dJ,H.sc,d7,Gx,h,cG.Uw]
   have:=Jy (qs:=qs.map cl) W (cR (cl got)).symm
   simp only[cD];exact this
  ·rw[em];rfl
 refine aL.take (b_ (bQ V (M8.mpr h))) ?_
 cases Z:wy got r
 ·refine aL.els (b_ Z) (cw 1 (B aI (xu λq=>?_)))
  obtain⟨m,q,_⟩:=pK.mp q
  rw[IL.mpr ⟨cl p++m,q⟩] at Z;exact tf Z
 ·obtain⟨m1,G⟩:=IL.mp Z
  have hrl:(cl r).length<=(cl got).length:=by rw[G,bR];exact jz _ _
  refine aL.take (b_ Z) (cw 1 (bQ V (.cons (aO.Kg rfl rfl Y (bD ⟨-1,l.length,rfl,rfl,?_,aL.nil (aL.nil ?_)⟩)))))
  ·exact(aQ (lj (-1)) (by simp only[bR,bR,aR];rfl)).trans (Ic (l:=l) (r:=r) (by rw[bR] at Y⊢;rw[aR] at Y;exact Y))
  refine aL.sub (JU (a:=a) (L:=l) (s:=(cl p).length) (e:=(cl got).length-(cl r).length) H.hg (v6 H.hl) (ri _ _) λb f=>B b (f.trans ?_)) (cA.sub ⟨?_,rfl,?_,rfl,trivial⟩)
  ·have C:=H.sc [] (win (cl got) (cl p).length ((cl got).length-(cl r).length))
   rw[cR,cR] at C
   rw[C]
   exact Jy W G
  ·show aa (Bd.own a ((l.map D.str++[D.str r]).eraseIdx l.length))=_
   rw[List.eraseIdx_append_of_length_le (by rw[aR];exact bv _),aR,tE]
   show aa (Bd.own a (l.map D.str++[]))=_
   rw[cR]
  ·show aa (Bd.dat (.int ((got.length:Int)-r.length)))=_
   simp only[cD got,cD r,<-Int.ofNat_sub hrl]
theorem TH{p r:Str}{qs:List Str}(H:got.length<=10000)(G:p.length<=10000)(hr:r.length<=10000)(hl:qs.length<=998)(Z:∀b:Bool,(b=ae<->ms (cl p::(qs.map cl++[cl r])) (cl got))->k (.bool b)):aL 28 (fs 4) (uW a (p::(qs++[r])) 0 got.length got) ((fb 4).drop 4) (fK k):=by
 have V:p.length<2^63:=aV G (by simp)
 have Y:(p::(qs++[r])).length<=1000:=by simp only[gF,bR];show _+1+1<=_;exact ZB (by assumption)
 refine cw 1 (b8.oz (i:=0) (d:=.str p) (by rw[aR];exact bd (aV Y (by decide))) rfl ⟨rfl,?_⟩)
 by_cases h:cl p=[]
 ·refine aL.skip (b_ (bQ V (M9 h))) (aL.sub (I5 (a:=a) (p:=p) (r:=r) (qs:=qs) (l:=p::qs) ⟨H,hr,by exact qH (aV hl (by decide)),⟨cl got,by rw[h];rfl⟩,λx w=>by rw[d7,h];exact cG.xm⟩ Z) (cA.sub ⟨rfl,?_,rfl,rfl,trivial⟩))
  rw[h];rfl
 refine aL.take (b_ (bQ V (M8.mpr h))) ?_
 cases W:wq got p
 ·refine aL.els (b_ W) (cw 1 (Z aI (xu λq=>?_)))
  obtain⟨m,q,_⟩:=pK.mp q
  rw[Hc.mpr ⟨m++cl r,by rw[q,c6]⟩] at W;exact tf W
 ·refine aL.take (b_ W) (cw 1 (bQ V (.cons (aO.Kg rfl rfl (by rw[aR];exact bd (aV Y (by decide))) (bD ⟨0,0,rfl,rfl,?_,aL.nil (aL.nil ?_)⟩)))))
  ·rw[aR]
   show (if (decide ((0:Int)<=0)&&decide ((0:Int)<((p::(qs++[r])).length:Nat)))=ae then aa (0:Int).toNat else _)=_
   rw[gF,eP (by omega:(0:Int)<((_+1:Nat):Int))];rfl
  ·refine aL.sub (I5 (a:=a) (p:=p) (r:=r) (qs:=qs) (l:=qs) ⟨H,hr,bd (aV hl (by decide)),Hc.mp W,λ_ _=>Ji⟩ Z) (cA.sub ⟨rfl,?_,rfl,rfl,trivial⟩)
   simp only[<-cD];rfl
theorem WZ{V:Str}{ps:List Str}(hw:V.length<=10000)(B:got.length<=10000)(G:ji "..." V=ae)(C:px V "..."=ps)
 (Z:(vE V (kr V "..." 0 V.length (V.length+1)) (iw "...")).length<=sizeLine)(h2:2<=ps.length)(H:∀x∈ps,x.length<=10000)(Y:ps.length<=1000)
 (f:∀b:Bool,(b=ae<->ms (ps.map cl) (cl got))->k (.bool b)):bJ 30 45 [.str V,.str got] k:=by
 obtain⟨p,W,r,rfl⟩:∃p W r,ps=p::(W++[r]):=by
  match ps,h2 with
  |p::q::l,_=>exact⟨p,(q::l).dropLast,(q::l).getLast (by simp),by rw[y_]⟩
 have hn:(!ji "..." V)=aI:=by rw[G];rfl
 refine bJ.vj Mn rfl (aL.skip (b_ (aj.marks hn)) (.cons (aO.uf rfl (λ_=>rfl) (cK.split (λ_=>mQ rfl _ _ _) rfl rfl (bD ⟨V,rfl,aj.marks ⟨"...",rfl,rfl,hw,Z,λa=>?_⟩⟩)))))
 rw[C]
 simp only[gF,bR] at Y
 have hl:((p::(W++[r])).map D.str).length=W.length+2:=by simp only[aR,gF,bR];rfl
 have Y:W.length+2<=1000:=Y
 refine cw 2 (bQ ?_ (bQ rfl (bQ ?_ (bQ (aV B (by simp)) (aL.sub (TH (a:=a) (p:=p) (qs:=W) (r:=r) B (H p bi) (H r (bM _ (o3 _ bi))) (by exact OG (by assumption)) ?_) (cA.sub ⟨rfl,rfl,rfl,rfl,trivial⟩))))))
 ·rw[hl];exact aV Y (by simp)
 ·exact eP (by rw[hl];omega)
 ·rw[d7,dJ] at f
  exact f
end
theorem filterMap_some{T:List α}{f V:α->D}{g:D->Option D}{p:α->Bool}(h:∀x∈T,g (f x)=if p x then aa (V x) else ak):(T.map f).filterMap g=(T.filter p).map V:=by
 induction T with
 |nil=>rfl
 |cons x r Y=>
  rw[d7,ny,Y λy W=>h y (bM _ W),h x bi,jy]
  cases p x<;>rfl
noncomputable def d6:List Int:=(dK 16).map λi:Nat=>-4+(i:Int)
noncomputable def K1(hs:Str->Int->Int×Int)(c:Int)(x:Str):Int:=60*(hs x c).1+(hs x c).2
noncomputable def K2(hs:Str->Int->Int×Int)(c:Int)(x:Str):Int:=(hs x c).1
noncomputable def er(a b:c_)(c:Int):Int:=sk a.x0 a.x1 a.h0 a.h1 b.x0 b.x1 b.h0 b.h1 c
noncomputable def qf(ss:b0)(c:Int)(x:Str):Int:=(((eU ss c).filter λy=>decide (0<er (bu ss x) (bu ss y) c)).length:Nat)
noncomputable def gT(ss:b0)(hs:Str->Int->Int×Int)(c:Int):List Str:=eV (K1 hs c) (eU ss c)
noncomputable def cz(l:List Str):D:=.lst (l.map D.str)
noncomputable def ki(T:List Str)(f:Str->D)(d:D):Option D:=d.f9.bind λy=>if y∈T then aa (f y) else ak
theorem rM{f:Str->D}(h:y∈T):ki T f (.str y)=aa (f y):=bo h
set_option tactic.hygienic true in
theorem Ie{f:Str->D}{r:D}(h:ki T f d=aa r):∃y,d=.str y/\y∈T/\r=f y:=
 (kt.mp h).elim λy h=>have q:=ND.mp h.2
  ⟨y,D.l5 h.1,q.1,(aW q.2).symm⟩
theorem Mo{a b x y:Int}(h:a<b)(V:x<60)(Y:0<=y):60*a+x<60*b+y:=
 la (zq V _) (dh (dh (i' (Rp 60 a 1).symm) (Ek h (by simp))) (vz Y))
theorem Bx{p q:Int×Int}(V:0<=p.2/\p.2<60)(Y:0<=q.2/\q.2<60):gz (pairD p) (pairD q)=aa (decide (60*p.1+p.2<60*q.1+q.2)):=
 aQ aa (decide_eq_decide.mpr ⟨λh=>h.elim (λh=>Mo h V.2 Y.1) λh=>h.1▸zq h.2 _,λh=>(zJ p.1 q.1).elim .inl λe=>e.elim (λe=>.inr ⟨e,Int.lt_of_add_lt_add_left (a:=60*q.1) (e▸h)⟩) λe=>aZ (Mo e Y.2 V.1) (qZ h)⟩)
theorem Z6{K:Str->Int}{b:List Nat}(V:dI (ltZ (T.map K)) (T.map D.str).length b):(b.map λi=>(T.map D.str).getD i .none)=(eV K T).map D.str:=by
 rw[aR] at V
 simp only[<-Q9 V,cJ]
 refine lK λi hi=>?_
 have:=V.js i hi
 simp[dt this]
theorem kc(l:List Str):iA (.lst .str) (.lst (l.map D.str)):=⟨_,rfl,λd hd=>by obtain⟨x,_,rfl⟩:=bL.mp hd;exact⟨x,rfl⟩⟩
noncomputable def cnt(K:Str->Int)(X:Int)(l:List Str):Nat:=(l.filter λy=>decide (K y<X)).length
theorem Cs{K:Str->Int}{X:Int}{l:List Str}:cnt K X l<=l.length:=kB _ _
theorem Yz{K:Str->Int}{X:Int}{l:List Str}(hs:lz K l)(j:Nat)(y:Str)(h:l[j]?=aa y):K y<X<->j<cnt K X l:=by
 induction l generalizing j with
 |nil=>exact ns h
 |cons z r W=>
  have hs:=fU.mp hs
  by_cases V:K z<X
  ·have e:cnt K X (z::r)=cnt K X r+1:=aQ gk (List.filter_cons_of_pos (p:=λy=>decide (K y<X)) (eP V))
   rw[e]
   cases j with
   |zero=>exact⟨λ_=>eA _,λ_=>aW h▸V⟩
   |succ j=>exact(W hs.2 j h).trans Nat.succ_lt_succ_iff.symm
  ·have Y:∀u∈z::r,¬K u<X:=fm V λa Z q=>V (jw (hs.1 a Z) q)
   have e:cnt K X (z::r)=0:=aQ gk (vF.mpr λu H q=>Y u H (cZ q))
   rw[e]
   exact⟨λq=>aZ q (Y y (c5 h)),λq=>aZ q (zV _)⟩
noncomputable def clamp(lo hi c:Nat):Nat:=min (max lo c) hi
noncomputable def ko(K:Str->Int)(X:Int)(a7:List Str)(j:Nat):Bool:=decide (j<cnt K X a7)
theorem Vp{K:Str->Int}{X:Int}{a7:List Str}{lo:Nat}(V:lo<=r)(Y:r<=hi)(hh:hi<=a7.length)(h3:∀j,lo<=j->j<r->ko K X a7 j=ae)(W:∀j,r<=j->j<hi->ko K X a7 j=aI):r=clamp lo hi (cnt K X a7):=
 lc (Nat.le_min.mpr ⟨(Nat.eq_or_lt_of_le V).elim (λe=>e▸PR ..) λh=>aD (Pf (cZ (h3 (r-1) (Ou h) (G5 (Nat.zero_lt_of_lt h) tG)))) (Py ..),Y⟩)
  ((Nat.lt_or_ge r hi).elim (λhr=>aD (we ..) (Nat.max_le.mpr ⟨V,de.mp (ic (W r (bv _) hr))⟩)) λhr=>aD (pb ..) hr)
theorem Ig{len:Nat}(h:c<=len):clamp 0 len c=c:=(aQ (min · len) (Nat.zero_max c)).trans (iL h)
noncomputable def iU(c s:Int):c_:=⟨c,c+1,s,s⟩
noncomputable def oq(hs:Str->Int->Int×Int)(c:Int)(a7:List Str):List D:=a7.map λy=>pairD (hs y c)
theorem KE(l:List Int):iA (.lst .int) (.lst (l.map D.int)):=⟨_,rfl,λd hd=>by obtain⟨x,_,rfl⟩:=bL.mp hd;exact⟨x,rfl⟩⟩
theorem TJ{l:List (List Nat)}(h:∀p∈l,p.length<=b):(c7 l).length<=l.length*(b+3):=by
 induction l with
 |nil=>exact ck _
 |cons p r V=>cases r with
  |nil=>exact aD (h p bi) (aD (cy b 3) (bn (po _).symm))
  |cons q r=>
   rw[show c7 (p::q::r)=p++dS++c7 (q::r) from rfl,bR,bR,gF (a:=p),GR]
   exact abh (V λx Y=>h x (bM _ Y)) (h p bi)
theorem Sn{l:List (List Nat)}(h:l≠[]):c7 (l++[[]])=c7 l++dS:=by
 induction l with
 |nil=>exact aZ rfl h
 |cons p r V=>cases r with
  |nil=>exact cR _
  |cons q r=>
   show p++dS++c7 ((q::r)++[[]])=p++dS++c7 (q::r)++dS
   rw[V (mG _ _),<-c6]
theorem So{l:List (List Nat)}(h:l≠[]):c7 ([]::(l++[[]]))=dS++c7 l++dS:=by
 simp only[show dS++c7 l++dS=dS++(c7 l++dS) by simp,<-Sn h]
 induction l with
 |nil=>exact aZ rfl h
 |cons p r=>rfl
theorem GZ(Y:∀x∈xs,x.length<=b)(h:xs.length*(b+3)<=9000):nZ "..." xs=ae:=by
 have V:∀(l:List Str) (a:Nat),(∀x∈l,x.length<=b)->l.foldl (λa x=>a+x.length+iw "...") a<=a+l.length*(b+3):=by
  intro l
  induction l with
  |nil=>exact λa _=>cy _ _
  |cons x l W=>
   intro a hl
   have Z:rj _ (a+x.length+3) l<=a+x.length+3+l.length*(b+3):=W (a+x.length+iw "...") λy H=>hl y (bM _ H)
   rw[iq,gF,GR]
   exact abg Z (hl x bi)
 have:=XM h (V xs 0 Y)
 unfold nZ
 rw[List.foldl_toArray' _ _ _ rfl]
 exact aQ (!·) (eW (de.mpr this))
noncomputable def mv:Str:=""
theorem B0(x:Str)(lo hi:Option Int):(d5 x lo hi aU).length<=x.length:=by
 simp only[cD,nU,cD x]
 simp only[win,qP,gG];exact aD (ri _ _) (pb _ _)
theorem JV(l:List Bool):iA (.lst .bool) (.lst (l.map D.bool)):=⟨_,rfl,λd hd=>by obtain⟨x,_,rfl⟩:=bL.mp hd;exact⟨x,rfl⟩⟩
theorem TK{g P a b H T:List Nat}(Y:g=a++P++b)(C:∃m,H=m++P)(B:∃m,T=P++m)(W:g.count c<=P.count c)(Z:H.count c<=P.count c)(G:T.count c<=P.count c){X:List Nat}(f:X=[]\/X=[c]):
 (cG [P++X] g<->X=[])/\(cG [P,X] g<->X=[])/\((∃m,H=[]++m++P/\cG [X] m)<->X=[])/\((∃m,T=P++m++[]/\cG [X] m)<->X=[]):=by
 have k:∀{A:Prop},(X=[]->A)->(X=[c]->¬A)->(A<->X=[]):=λp n=>⟨λa=>f.elim id λe=>aZ a (n e),p⟩
 have c1:wO c [c]=1:=by rw[List.count_singleton_self]
 have V:∀{n:Nat},P.count c+1<=n->n<=P.count c->False:=λh q=>OC _ (aD h q)
 have Nu:∀{m:List Nat},X=[c]->cG [X] m->1<=m.count c:=λe h=>c1▸AL c (e▸h:cG [[c]] _)
 refine⟨k (λe=>⟨a,b,by rw[e,cR];exact Y,trivial⟩) λe h=>?_,k (λe=>⟨a,b,Y,b,[],by rw[e,cR,cR],trivial⟩) λe h=>?_,k (λe=>C.elim λm h=>⟨m,h,e▸cG.xm.mpr trivial⟩) λe h=>?_,k (λe=>B.elim λm h=>⟨m,h.trans (cR _).symm,e▸cG.xm.mpr trivial⟩) λe h=>?_⟩
 ·have q:wO c (P++[c])<=_:=AL c (e▸h)
  rw[nC,c1] at q
  exact V q W
 ·have q:wO c P+wO c [c]<=_:=AL c (e▸h)
  rw[c1] at q
  exact V q W
 ·refine h.elim λm h=>?_
  rw[show H=m++P from h.1,nC] at Z
  exact V (gL _ _▸gB (Nu e h.2) _) Z
 ·refine h.elim λm h=>?_
  rw[h.1,cR,nC] at G
  exact V (fh (Nu e h.2) _) G
noncomputable def sm(i:Nat):List Bool:=gJ (4*min i 1) ae++gJ (4*(i-1)) aI
noncomputable def ll(pg:List (Str×Str))(p:Str×Str):List (Str×Str):=pg.filter (λq=>cf q.1 != cf p.1)++[p]
noncomputable def iV(t:Nat)(c:Int):Str:=⟨#[if t%2=0 then 67 else 99]⟩++(toString c:Str)
noncomputable def dY(c:Int):Str:="c"++(toString c:Str)
theorem Vq:((dK 2).all λt=>(dK 20).all λc=>okN (iV t ((c:Int)-4))&&okN (cf (iV t ((c:Int)-4)))&&decide (cf (iV t ((c:Int)-4))=dY ((c:Int)-4))&&decide ((iV t ((c:Int)-4)).length<=10)&&decide ((dY ((c:Int)-4)).length<=10))=ae:=by decide+kernel
theorem xF{t:Nat}{c:Int}(V:-4<=c)(Y:c<=15):okN (iV t c)=ae/\okN (cf (iV t c))=ae/\cf (iV t c)=dY c/\(iV t c).length<=10/\(dY c).length<=10:=by
 have h:=ee.mp (ee.mp Vq (t%2) (gi.mpr (tN _ (by decide)))) (c+4).toNat (gi.mpr (Zd Y))
 have W:iV (t%2)=iV t:=by unfold iV;rw[Nat.mod_mod]
 rw[aa5 V,W] at h
 have h:=(bB _ _).mp h;have u:=(bB _ _).mp h.1;have v:=(bB _ _).mp u.1;have w:=(bB _ _).mp v.1
 exact⟨w.1,w.2,cZ v.2,cZ u.2,cZ h.2⟩
noncomputable def jo(ss:b0)(t:Nat)(x:Str):List (Str×Str):=(dR (bu ss x)).map λc=>(iV t c,x)
noncomputable def ux(ss:b0)(aG:List Str):List (Str×Str):=(aG.zipIdx.map λp=>jo ss p.2 p.1).flatten
noncomputable def jK(ss:b0)(aG:List Str):List (Str×Str):=(ux ss aG).foldl ll []
noncomputable def oJ(rows:List (List Str)):List (Str×Str):=(rows.zipIdx.filter λp=>!p.1.isEmpty).map λp=>(dY ((p.2:Int)-4),p.1.getLastD default)
noncomputable def fe(x:Str):Bool:=(["A","B","C","D","E","F"]:List Str).contains x
noncomputable def caps:List Str:=["A","B","C","D","E","F"]
theorem A8(h:fe x=ae):x∈caps:=qz.mp h
theorem Vr:(caps.all λx=>okN x&&okN (cf x)&&oS x&&decide (x.length=1)&&decide ((cf x).length=1)&&decide (cf (cf x)=cf x)&&caps.all λy=>(cf x==cf y)==(x==y))=ae:=by decide+kernel
theorem l6(h:fe x=ae):(okN x=ae/\okN (cf x)=ae/\oS x=ae/\x.length=1/\(cf x).length=1/\cf (cf x)=cf x)/\∀y,fe y=ae->((cf x==cf y)=(x==y)):=
 have a:=(bB _ _).mp (ee.mp Vr x (A8 h))
 have b:=(bB _ _).mp a.1;have c:=(bB _ _).mp b.1;have d:=(bB _ _).mp c.1;have e:=(bB _ _).mp d.1;have f:=(bB _ _).mp e.1
 ⟨⟨f.1,f.2,e.2,cZ d.2,cZ c.2,cZ b.2⟩,λy V=>eq_of_beq (ee.mp a.2 y (A8 V))⟩
theorem Vs:((dK 16).all λc=>oS (toString (c:Int))&&decide ((toString (c:Int):Str).length<=2))=ae:=by decide+kernel
theorem YA(h:c<16):oS (toString (c:Int))=ae/\(toString (c:Int):Str).length<=2:=
 have a:=(bB _ _).mp (ee.mp Vs c (gi.mpr h))
 ⟨a.1,cZ a.2⟩
noncomputable def f5(c:Nat)(a7:List Str):List (Str×Str):=a7.map λl=>(l,(toString (c:Int):Str))
noncomputable def kq(rows:List (List Str)):List (Str×Str):=(rows.zipIdx.map λp=>f5 p.2 p.1).flatten
noncomputable def jp{α:Type}(l:List (Str×α))(x:Str)(a:α):List (Str×α):=if l.any (λp=>p.1=x) then l.map (λp=>if p.1=x then (p.1,a) else p) else l++[(x,a)]
theorem Vt(f:α->β)(l:List (Str×α))(x:Str)(a:α):(jp l x a).map (λp=>(p.1,f p.2))=jp (l.map λp=>(p.1,f p.2)) x (f a):=by
 unfold jp
 have e:(l.map λp=>(p.1,f p.2)).any (λp=>p.1=x)=l.any λp=>p.1=x:=Al
 rw[e]
 by_cases q:l.any (λp=>p.1=x)=ae
 ·rw[bo q,bo q,cJ,cJ]
  exact lK λp _=>apply_ite (λp:Str×α=>(p.1,f p.2)) (p.1=x) (p.1,a) p
 ·rw[be q,be q,dJ];rfl
noncomputable def f6(pg:List (Str×Str)):List (Str×Str):=pg.foldl (λl p=>jp l p.2 p.1) []
noncomputable def g6(pg:List (Str×Str))(y:Str):List Str:=(pg.filter λp=>p.1==y).map (·.2)
noncomputable def uX(d:D):Str×D:=((((d.oB.getD [])[1]?.bind D.f9).getD ""),((d.oB.getD [])[0]?.getD .none))
noncomputable def uI(pg:List (Str×Str))(d:D):Str×D:=(d.f9.map λy=>(y,cz (g6 pg y))).getD ("",.none)
theorem W1(pg:List (Str×Str)):(pg.map bY).foldl (λl d=>jg l (uX d).1 (uX d).2) []=nX (f6 pg):=by
 have V:∀(pg l:List (Str×Str)),(pg.map bY).foldl (λl d=>jg l (uX d).1 (uX d).2) (nX l)=nX (pg.foldl (λl p=>jp l p.2 p.1) l):=by
  intro pg
  induction pg with
  |nil=>intro l;rfl
  |cons p r Y=>
   intro l
   simp only[d7,iq,iq,<-Y]
   congr 1
   exact(Vt D.str l p.2 p.1).symm
 exact V pg []
theorem YB(pg:List (Str×Str))(W:ys.Nodup):(ys.map D.str).foldl (λl d=>jg l (uI pg d).1 (uI pg d).2) []=ys.map λy=>(y,cz (g6 pg y)):=by
 have Y:∀(ys V:List Str),(V++ys).Nodup->(ys.map D.str).foldl (λl d=>jg l (uI pg d).1 (uI pg d).2) (V.map λy=>(y,cz (g6 pg y)))=(V++ys).map λy=>(y,cz (g6 pg y)):=by
  intro ys
  induction ys with
  |nil=>intro V _;simp
  |cons y r Z=>
   intro V h
   have e:jg (V.map λy=>(y,cz (g6 pg y))) y (cz (g6 pg y))=(V++[y]).map λy=>(y,cz (g6 pg y)):=by
    unfold jg
    rw[be,dJ]
    ·rfl
    ·rw[Al,tg]
     rintro⟨z,H,e⟩
     have e:z=y:=eq_of_beq e
     subst e
     have:=(kE.mp h).2.2 z H z bi
     exact this rfl
   show (r.map D.str).foldl _ (jg (V.map λy=>(y,cz (g6 pg y))) y (cz (g6 pg y)))=_
   simp only[e,Z (V++[y]) (by simpa using h)]
   simp
 exact Y ys [] (by exact W)
set_option tactic.hygienic true in
theorem TL{l:List (Str×α)}{a:α}(h:(l.map (·.1)).Nodup):((jp l x a).map (·.1)).Nodup/\∀y,y∈(jp l x a).map (·.1)<->y=x\/y∈l.map (·.1):=by
 have V:l.any (λp=>p.1=x)=ae<->x∈l.map (·.1):=tg.trans ⟨λq=>q.elim λp q=>(cZ q.2:p.1=x)▸kC q.1,λq=>(bL.mp q).elim λp q=>⟨p,q.1,eP q.2⟩⟩
 unfold jp
 by_cases q:l.any (λp=>p.1=x)=ae
 ·have e:(l.map λp=>if p.1=x then (p.1,a) else p).map (·.1)=l.map (·.1):=cJ.trans (lK λp _=>(apply_ite Ud (p.1=x) (p.1,a) p).trans (ite_self _))
  rw[bo q,e]
  exact⟨h,λy=>⟨.inr,λr=>r.elim (λe=>e▸V.mp q) id⟩⟩
 ·rw[be q,dJ]
  exact⟨kE.mpr ⟨h,my _ _,λy Y z W e=>q (V.mpr ((a_.mp W:z=x)▸e▸Y))⟩,λy=>cQ.trans (or_comm.trans (or_congr_left a_))⟩
theorem AB(pg:List (Str×Str)):((f6 pg).map (·.1)).Nodup:=by
 have V:∀(pg l:List (Str×Str)),(l.map (·.1)).Nodup->((pg.foldl (λl p=>jp l p.2 p.1) l).map (·.1)).Nodup:=by
  intro pg
  induction pg with
  |nil=>exact λl h=>h
  |cons p r Y=>exact λl h=>Y _ (TL h).1
 exact V pg [] (jX)
theorem pG[DecidableEq α]{b l:List α}(V:b.Nodup)(h:∀x∈b,x∈l):b.length<=l.length:=by
 induction b generalizing l with
 |nil=>exact ck _
 |cons x r Z=>
  have V:=gH.mp V
  have Y:=h x bi
  exact LM (Ew Y▸Z (l:=l.erase x) V.2 λy W=>(EI λe:y=x=>V.1 (e▸W)).mpr (h y (bM _ W))) (Ez Y)
theorem TM{pg:List (Str×Str)}{p:Str×Str}(h:p∈f6 pg):∃q∈pg,q.1=p.2:=by
 have V:∀(pg l:List (Str×Str)) (p:Str×Str),p∈pg.foldl (λl p=>jp l p.2 p.1) l->p∈l\/∃q∈pg,q.1=p.2:=by
  intro pg
  induction pg with
  |nil=>exact λl p h=>.inl h
  |cons q r W=>
   intro l p h
   rcases W _ _ h with h|⟨Z,H,G⟩
   ·have h:p∈jp l q.2 q.1:=h
    unfold jp at h
    split at h
    ·refine(bL.mp h).elim λu Y=>Y.elim λC e=>?_
     split at e
     ·exact .inr ⟨q,bi,e▸rfl⟩
     ·exact .inl (e▸C)
    ·rcases cQ.mp h with h|h
     ·exact .inl h
     ·exact .inr ⟨q,bi,by rw[a_.mp h]⟩
   ·exact .inr ⟨Z,bM _ H,G⟩
 rcases V pg [] p h with h|h
 ·simp at h
 ·exact h
noncomputable def mf(pg:List (Str×Str))(ys:List Str):List Str:=ys.filter λy=>(g6 pg y).all λc=>(f6 pg).lookup c==aa y
def gh(m:Nat)(xs:List Str):Prop:=xs.length<=m/\∀x∈xs,x.length<=90/\46∉cl x
theorem gh.join(h:gh m xs):(c7 (xs.map cl)).length<=m*93:=by
 have:=TJ (b:=90) (l:=xs.map cl) λp V=>by
  obtain⟨x,Y,rfl⟩:=bL.mp V
  rw[<-cD];exact(h.2 x Y).1
 rw[aR] at this
 exact aD this (qB 93 h.1)
theorem gh.nil:gh 0 []:=⟨bv _,nofun⟩
theorem gh.cons(V:x.length<=90)(Y:46∉cl x)(h:gh m xs):gh (m+1) (x::xs):=⟨nF h.1,λy W=>(bT.mp W).elim (λe=>e▸⟨V,Y⟩) (h.2 y)⟩
theorem gh.snoc(h:gh m xs):gh (m+1) (xs++[mv]):=⟨by rw[bR];exact nF h.1,λy V=>(cQ.mp V).elim (h.2 y) λe=>(a_.mp e).symm▸⟨ck _,nofun⟩⟩
theorem uy{Y got:Str}{ps:List Str}(H:cl Y=c7 (ps.map cl))(G:2<=ps.length)(V:gh 100 ps)(C:got.length<=10000)(B:∀b:Bool,(b=ae<->ms (ps.map cl) (cl got))->k (.bool b)):bJ 30 45 [.str Y,.str got] k:=by
 refine(Se G (λx W=>(V.2 x W).2) H).elim λf Z=>Z.elim λq2 q3=>?_
 refine WZ ?_ C f q2 ?_ G (λx W=>aD (V.2 x W).1 (by simp)) (aD V.1 (by simp)) B
 ·simp only[cD,H];exact aD V.join (by decide)
 ·rw[q3];exact aD V.1 (by decide)
theorem W4(V:ys≠[])(Y:c7 (ys.map cl)=c7 (xs.map cl)):cl ("..."++jI "..." xs++"...")=c7 ((mv::(ys++[mv])).map cl):=by
 simp only[fE,fE,BV,JF,d7,dJ,d7,Gx]
 show _=c7 ([]::(ys.map cl++[[]]))
 rw[So λe=>V (zw.mp e),Y]
theorem Vu{ps:List (List Nat)}{g:List Nat}:ms ([]::(ps++[[]])) g<->cG ps g:=by
 exact pK.trans ⟨λV=>by obtain⟨m,e,q⟩:=V;rw[cR] at e;exact e▸q,λq=>⟨g,(cR g).symm,q⟩⟩
theorem TN{V:Str}(Z:gh 50 xs)(H:V.length<=10000)(G:∀b:Bool,(b=ae<->cG (xs.map cl) (cl V))->k (.bool b)):bJ 30 45 [.str ("..."++jI "..." xs++"..."),.str V] k:=by
 have Y:∀ys:List Str,ys≠[]->c7 (ys.map cl)=c7 (xs.map cl)->gh 50 ys->(cG (ys.map cl) (cl V)<->cG (xs.map cl) (cl V))->bJ 30 45 [.str ("..."++jI "..." xs++"..."),.str V] k:=λys C B h3 f=>by
  have W:gh 52 (mv::(ys++[mv])):=.cons (ck _) nofun h3.snoc
  refine uy (W4 C B) (by simp only[gF,bR];exact nF (jz 1 _)) ⟨aD W.1 (by simp),W.2⟩ H λb hb=>G b (hb.trans ?_)
  simp only[d7,dJ,<-f]
  exact Vu
 induction xs with
 |nil=>exact Y [mv] nofun rfl ⟨by decide,λy hy=>(a_.mp hy).symm▸⟨ck _,nofun⟩⟩ cG.xm
 |cons x r=>exact Y (x::r) nofun rfl Z Ji
theorem Z7:FnAt 308 31 "_law_takes" ["letters","text"]:=⟨⟨λw=>⟨_,_,_,_,_,rfl,_,_,_,_,rfl,rfl,rfl,rfl⟩⟩,λ_ _ _ _ _ _ vs h=>jd (λ_ _=>by rfl) vs h,by rfl,by rfl⟩
theorem tY{G:D}{V:Str}(C:G=.lst (xs.map D.str)\/∃y:Str,G=.str y/\y.length<=10000/\xs=chars y)(H:gh 50 xs)(f:V.length<=10000)
 (hk:∀b:Bool,(b=ae<->cG (xs.map cl) (cl V))->k (.bool b)):bJ 40 308 [G,.str V] k:=by
 have Y:(jI "..." xs).length<=4650:=by simp only[cD,BV];exact H.join
 have W:("..."++jI "..." xs:Str).length<=4653:=by rw[cD,fE,bR,gL,<-cD];exact gB Y 3
 have Z:=GZ (b:=90) (λx B=>(H.2 x B).1) (aD (qB 93 H.1) (by simp))
 refine bJ.of Z7 rfl ?_
 refine bk.mono (k:=λd=>d=.str (jI "..." xs)) ?_ λd e=>?_
 ·rcases C with rfl|⟨y,rfl,hy,rfl⟩
  ·exact bk.join Z rfl
  ·exact bk.K6 hy Z rfl
 ·subst e
  exact bQ (aD (fh Y 3) (by decide)) (bQ (aD (gB W 3) (by decide)) ((TN H f hk).le (by simp)))
theorem Z8:FnAt 315 32 "_law_once" ["letter","seen"]:=⟨⟨λw=>⟨_,_,_,_,_,rfl,_,_,_,_,rfl,rfl,rfl,rfl⟩⟩,λ_ _ _ _ _ _ vs h=>jd (λ_ _=>by rfl) vs h,by rfl,by rfl⟩
noncomputable def Dq(a:ag)(V:List Bool)(iE l seen:Str)(f t:Int):ay:=([("told",.own a (V.map D.bool)),("part",.dat (.str iE)),("first",.dat (.int f)),("last",.dat (.int t)),("letter",.dat (.str l)),("seen",.dat (.str seen))]:List (Str×Bd))
structure Ly(c:Nat)(seen iE:Str)(f t:Int):Prop where
 hs:seen.length<=40
 dot:46∉cl iE
 len:iE.length<=40
 ok:∀X,X=[]\/X=[c]->(cG [cl iE++X] (cl seen)<->X=[])/\(cG [cl iE,X] (cl seen)<->X=[])/\((∃m,cl (d5 seen ak (aa t) ak)=[]++m++cl iE/\cG [X] m)<->X=[])/\((∃m,cl (d5 seen (aa f) ak ak)=cl iE++m++[]/\cG [X] m)<->X=[])
theorem yg{p:Prop}[Decidable p]{b:Bool}(h:b=ae<->p):b=decide p:=by
 rw[hO,h,decide_eq_true_eq]
theorem len_app(x y:Str):(x++y).length=x.length+y.length:=by simp only[cD,cD,cD,fE,bR]
theorem pM{a:Nat}(V:a<=100)(Y:b<=100):a+b<=sizeLine:=aD (fV V Y) (by decide)
theorem Mp{p q r g:List Nat}:ms [p,q,r] g<->∃m,g=p++m++r/\cG [q] m:=pK (qs:=[q])
theorem Mq{p q:Str}:cl ("..."++p++"..."++q)=c7 ([mv,p,q].map cl)/\cl (p++"..."++q++"...")=c7 ([p,q,mv].map cl):=by
 constructor
 ·rw[fE,fE,fE]
  show dS++cl p++dS++cl q=dS++(cl p++dS++cl q)
  rw[c6 dS,c6 dS]
 ·rw[fE,fE,fE]
  show cl p++dS++cl q++dS=cl p++dS++(cl q++dS++[])
  rw[cR,c6 _ (cl q)]
theorem wT{seen iE:Str}{f t:Int}(W:Ly c seen iE f t)(C:cl x=[]\/cl x=[c])(hc:c≠46):
 (∀k:D->Prop,k (.bool (decide (cl x=[])))->bJ 58 308 [.lst [.str (iE++x)],.str seen] k)/\(∀k:D->Prop,k (.bool (decide (cl x=[])))->bJ 58 308 [.lst [.str iE,.str x],.str seen] k)/\
 (∀k:D->Prop,k (.bool (decide (cl x=[])))->bJ 58 45 [.str ("..."++x++"..."++iE),.str (d5 seen ak (aa t) ak)] k)/\(∀k:D->Prop,k (.bool (decide (cl x=[])))->bJ 58 45 [.str (iE++"..."++x++"..."),.str (d5 seen (aa f) ak ak)] k):=by
 have e1:=(W.ok (cl x) C).1;have e2:=(W.ok (cl x) C).2.1;have e3:=(W.ok (cl x) C).2.2.1;have e4:=(W.ok (cl x) C).2.2.2
 have B:x.length<=1:=by simp only[cD];rcases C with e|e<;>rw[e];exact ck _;exact bv 1
 have Z:46∉cl x:=λh=>by rcases C with e|e<;>rw[e] at h;exact nomatch h;exact hc (a_.mp h).symm
 have hs:∀lo hi,(d5 seen lo hi ak).length<=10000:=λlo hi=>aD (B0 _ _ _) (aD W.hs (by decide))
 have V:=aD W.len (by simp:40<=90)
 have Y:=aD B (by simp:1<=90)
 have M':=aD W.hs (by decide:40<=10000)
 refine⟨λk H=>(tY (xs:=[iE++x]) (.inl rfl) ⟨show 1<=50 by simp,λy hy=>?_⟩ M' λb G=>?_).le (by decide),λk H=>(tY (xs:=[iE,x]) (.inl rfl) ⟨show 2<=50 by simp,(.cons V W.dot (.cons Y Z .nil):gh 2 [iE,x]).2⟩ M' λb G=>?_).le (by decide),λk H=>(uy Mq.1 (show 2<=3 by decide) ⟨show 3<=100 by decide,(gh.cons (x:=mv) (m:=2) (ck _) nofun (gh.cons Y Z (.cons V W.dot .nil))).2⟩ (hs _ _) λb G=>?_).le (by decide),λk H=>(uy Mq.2 (show 2<=3 by decide) ⟨show 3<=100 by decide,(gh.cons (m:=2) V W.dot (.cons Y Z (.cons (x:=mv) (ck _) nofun .nil))).2⟩ (hs _ _) λb G=>?_).le (by decide)⟩
 ·simp only[a_.mp hy,len_app,fE]
  exact⟨aD (fV W.len B) (by decide),λh=>(cQ.mp h).elim W.dot Z⟩
 ·rw[yg (p:=cl x=[]) (G.trans (by simp only[d7,Gx,fE];exact e1))];exact H
 ·rw[yg (p:=cl x=[]) (G.trans e2)];exact H
 ·rw[yg (p:=cl x=[]) (G.trans (Mp.trans e3))];exact H
 ·rw[yg (p:=cl x=[]) (G.trans (Mp.trans e4))];exact H
theorem W5{l:Str}(hl:cl l=[c])(h:[D.str "",D.str l][i]?=aa d):∃x:Str,d=.str x/\(cl x=[]\/cl x=[c])/\sm (i+1)=sm i++gJ 4 (decide (cl x=[]))/\(sm i).length<=4:=by
 cases i with
 |zero=>obtain rfl:=aW h;exact⟨_,rfl,.inl rfl,rfl,by decide⟩
 |succ i=>induction i with
  |zero=>obtain rfl:=aW h;exact⟨_,rfl,.inr hl,by rw[eW (show cl l≠[] by rw[hl];nofun)];rfl,bv _⟩
  |succ i=>exact ns h
theorem Vv{l seen:Str}(hl:cl l=[c])(B:c≠46)(hs:seen.length<=40)(hss:46∉cl seen)(hk:k (.bool ae)):bJ 60 315 [.str l,.str seen] k:=by
 have F:=Sf (x:=seen) hl rfl rfl
 have W:Ly c seen (d5 seen (aa (jH seen l)) (aa (j7 seen l+1)) ak) (jH seen l) (j7 seen l+1):=by
  refine⟨hs,λh=>hss ?_,aD (B0 _ _ _) hs,λX hX=>?_⟩
  ·obtain⟨a,b,e⟩:=F.mid
   rw[e];exact sZ _ (o3 _ h)
  ·obtain⟨a,b,e⟩:=F.mid
   exact TK e F.up F.fro F.c1 F.c2 F.c3 hX
 clear F
 refine bJ.vj Z8 rfl (cw 2 (bQ (aD hs (by decide)) λa=>aL.sub (ρ:=Dq a [] (d5 seen (aa (jH seen l)) (aa (j7 seen l+1)) ak) l seen (jH seen l) (j7 seen l+1)) ?_ (cA.sub ⟨rfl,rfl,rfl,rfl,rfl,rfl,trivial⟩)))
 generalize d5 seen (aa (jH seen l)) (aa (j7 seen l+1)) ak=V at W
 generalize jH seen l=f at W
 generalize j7 seen l+1=t at W
 refine .cons (aO.for (λ_ _=>rfl) (bK.tup (bD ⟨_,rfl,show 2<=10000 by simp,λi aC=>aC=Dq a (sm i) V l seen f t,rfl,?_,?_,?_⟩)))
 ·rintro i _ rfl;rfl
 ·rintro i d _ hd rfl
  obtain⟨x,rfl,G,ht,hn⟩:=W5 hl hd
  have c1:=(wT W G B).1;have c2:=(wT W G B).2.1;have c3:=(wT W G B).2.2.1;have c4:=(wT W G B).2.2.2
  have C:x.length<=1:=by simp only[cD];rcases G with e|e<;>rw[e];exact ck _;exact bv 1
  refine c0.name rfl (.cons (aO.V' rfl rfl rfl (bD ?_)))
  have lx:=len_app
  have l3:iw "..."=3:=rfl
  have Y:=aD hs (by decide:40<=10000)
  have Z:=aD W.len (by simp:40<=100)
  have H:=aD C (by simp:1<=100)
  have n3:iw "..."≤100:=by decide
  refine bQ (pM Z H) (c1 _ ?_)
  refine c2 _ ?_
  have m1:("..."++x:Str).length<=4:=by rw[lx,l3];exact aD (fV (bv _) C) (bv _)
  have m2:("..."++x++"...":Str).length<=100:=by rw[lx,l3];exact ZA (by assumption)
  have m3:(V++"...":Str).length<=43:=by rw[lx,l3];exact aD (fV W.len (bv _)) (bv _)
  have m4:(V++"..."++x:Str).length<=100:=by rw[lx];exact abE (by assumption) (by assumption)
  refine bQ (pM n3 H) (bQ (pM (aD m1 (by simp)) n3) (bQ (pM m2 Z) (bQ Y (c3 _ ?_))))
  refine bQ (pM Z n3) (bQ (pM (aD m3 (by simp)) H) (bQ (pM m4 n3) (bQ Y (c4 _ ⟨_,rfl,?_,aL.nil ⟨Dq a (sm (i+1)) V l seen f t,cA.sub ⟨?_,rfl,rfl,rfl,rfl,rfl,trivial⟩,rfl⟩⟩))))
  ·rw[aR];show _+4<=_;exact aD (fV hn (bv _)) (by simp)
  ·rw[ht,dJ];rfl
 ·rintro _ rfl
  refine .cons (aO.ret (aj.mi (x:="told") rfl (bD (bF.mulL (by decide) (by decide) (by decide) (bF.mulL (by decide) (by decide) (by decide) (bQ (by decide) ?_))))))
  refine bq.eqT (.lst .bool) (by decide) (JV _) (JV (sm 2)) λcb oY=>?_
  obtain rfl:=oY.mpr rfl
  exact⟨rfl,hk⟩
section
open PySem.Builtin PySem.Builtin.Str
noncomputable def mk1(c:Nat):Str:=⟨#[c]⟩
def let1(x:Str):Prop:=∃c,x=mk1 c
theorem uk{a:Nat}(h:mk1 a=mk1 b):a=b:=by have:=aQ cl h;exact(j4 this).1
theorem lZ(x:Str):chars x=(cl x).map mk1:=rfl
theorem iN(x:Str):(chars x).length=x.length:=by simp only[lZ,aR,cD]
theorem TQ(x y:Str):chars (x++y)=chars x++chars y:=by rw[lZ,fE,dJ];rfl
theorem rG(h:y∈chars x):let1 y:=(bL.mp h).elim λc V=>V.elim λ_ e=>⟨c,e.symm⟩
theorem Sp{a b:List Nat}(h:a.map mk1=b.map mk1):a=b:=(Pa λ_ _=>uk).mp h
theorem Ih(h:chars x=chars y):x=y:=Cg (Sp h)
theorem AM:∀{xs:List Str},(∀x∈xs,let1 x)->∃V:List Nat,xs=V.map mk1:=by
 intro W
 induction W with
 |nil=>
  intro _
  exact⟨[],rfl⟩
 |cons x r Y=>
  intro h
  obtain⟨c,rfl⟩:=h x bi
  obtain⟨V,rfl⟩:=Y λy Z=>h y (bM _ Z)
  exact⟨c::V,rfl⟩
theorem Vw:∀ps:List Str,cl (jI "" ps)=(ps.map cl).flatten:=by
 have:∀ps:List Str,cl (Bf "" ps)=(ps.map cl).flatten:=λps=>by
  induction ps with
  |nil=>rfl
  |cons p r V=>induction r with
   |nil=>exact(cR _).symm
   |cons q r=>
    show cl (p++""++Bf "" (q::r))=_
    simp only[fE,fE,V,show cl ""=[] from rfl,cR];rfl
 intro ps
 show cl (glued "" ps)=_
 rw[Oo];exact this ps
theorem Ho(h:∀x∈xs,let1 x):chars (jI "" xs)=xs:=by
 obtain⟨V,rfl⟩:=AM h
 simp only[lZ,Vw,cJ]
 congr 1
 induction V with
 |nil=>rfl
 |cons c r Y=>simp only[d7,vZ,Y λy W=>h y (bM _ W)];rfl
theorem wU:∀{V g:List Nat},cG (V.map λc=>[c]) g<->V.Sublist g
 |[],g=>⟨λ_=>List.nil_sublist _,λ_=>trivial⟩
 |c::V,g=>by
  constructor
  ·rintro⟨a,b,rfl,h⟩
   rw[c6]
   exact((wU.mp h).cons₂ c).trans (List.sublist_append_right _ _)
  ·intro h
   obtain⟨H,Y,rfl,W,Z⟩:=List.cons_sublist_iff.mp h
   obtain⟨s,t,rfl⟩:=zC W
   exact⟨s,t++Y,by simp,(wU.mpr Z).more t⟩
theorem CR:∀{a b:List Nat},(a.map mk1).Sublist (b.map mk1)<->a.Sublist b:=λ{a b}=>by
 constructor
 ·intro h
  have:=h.map λx=>(cl x).headD 0
  simp only[cJ,cJ] at this
  have e:∀l:List Nat,l.map ((λx=>(cl x).headD 0)∘mk1)=l:=λl=>by
   rw[show ((λx=>(cl x).headD 0)∘mk1)=_root_.id from rfl,Rs]
  rwa [e,e] at this
 ·exact λh=>h.map _
theorem By(h:∀x∈xs,let1 x):cG (xs.map cl) (cl y)<->xs.Sublist (chars y):=by
 refine(AM h).elim λY V=>?_;subst V
 simp only[cJ,lZ,CR]
 exact wU
theorem Ii(x:Str):chars (d5 x ak ak (aa (-1)))=(chars x).reverse:=by rw[lZ,Yo,wa];rfl
theorem Hp[BEq α][LawfulBEq α]{s l:List α}(h:s.Sublist l)(V:l.Nodup):s=l.filter λx=>s.contains x:=by
 induction h with
 |slnil=>rfl
 | @cons s l a h Y=>
  have V:=gH.mp V
  rw[jy,be]
  ·exact(Y V.2)
  ·intro q
   exact V.1 (h.subset (qz.mp q))
 | @cons_cons s l a h Y=>
  have V:=gH.mp V
  rw[jy,bo (by simp)]
  congr 1
  refine(Y V.2).trans (mE λx W=>?_)
  have:(x==a)=aI:=by
   induction q:x==a with
   |false=>rfl
   |true=>exact aZ (eq_of_beq q▸W) V.1
  simp only[Pb,this,Ab]
theorem Vx[BEq α][LawfulBEq α]{s t l:List α}(Y:s.Sublist l)(W:t.Sublist l)(V:l.Nodup)(h:∀x,x∈s<->x∈t):s=t:=by
 rw[Hp Y V,Hp W V]
 refine mE λx _=>?_
 rw[hO,qz,qz]
 exact h x
theorem W6[BEq α][LawfulBEq α]{s l:List α}(hs:s.Sublist l)(V:l.Nodup):s.reverse.Sublist l<->s.length<2:=by
 constructor
 ·intro h
  have e:=Vx h hs V λx=>iK
  have W:=hs.nodup V
  clear h hs V
  rcases s with _|⟨a,_|⟨b,r⟩⟩
  ·exact eA 1
  ·exact gW 1
  ·rw[E8] at e
   have Z:=(qr (l₂:=[a]) (List.length_pos_iff.mpr (List.reverse_ne_nil_iff.mpr (mG b r)))).symm.trans (aQ (·[0]?) e)
   exact aZ (iK.mp (c5 Z)) (gH.mp W).1
 ·intro h
  rcases s with _|⟨a,_|⟨b,r⟩⟩
  ·exact hs
  ·exact hs
  ·exact aZ h (de.mpr (jz 2 r.length))
theorem W7(h:∀x∈xs,let1 x)(Y:2<=xs.length)(hs:xs.Sublist (chars y)):ms (xs.map cl) (cl y)<->((chars y).head?=xs.head?∧(chars y).getLast?=xs.getLast?):=by
 refine(AM h).elim λH W=>?_;subst W
 simp only[lZ,CR] at hs
 rw[aR] at Y
 simp only[cJ,lZ]
 obtain⟨a,r,rfl⟩:∃a r,H=a::r:=by
  induction H with
  |nil=>exact aZ Y (by decide)
  |cons a r=>exact⟨a,r,rfl⟩
 obtain⟨m,b,rfl⟩:∃m b,r=m++[b]:=by
  induction r with
  |nil=>exact aZ Y (by simp)
  |cons x r=>exact⟨_,_,(y_ (by simp:x::r≠[])).symm⟩
 have B:(a::(m++[b])).map (cl∘mk1)=[a]::(m.map (λc=>[c])++[[b]]):=by
  rw[d7,dJ];rfl
 have hl:∀l:List Nat,(l.map mk1).getLast?=l.getLast?.map mk1:=λl=>qL
 simp only[B,pK,hl,hl,F7,F7]
 have Z:(a::(m++[b])).getLast?=aa b:=by rw[<-wb,qC];rfl
 refine Z▸?_
 constructor
 ·rintro⟨g,e,_⟩
  refine e▸?_
  refine⟨rfl,?_⟩
  rw[qC];rfl
 ·rintro⟨G,h3⟩
  generalize cl y=g at*
  cases g with
  |nil=>exact ns G
  |cons C g=>
   have f:C=a:=uk (aW G)
   subst f
   obtain⟨g',V,rfl⟩:∃g' V,g=g'++[V]:=by
    induction g with
    |nil=>exact aZ (EC.mp hs).length_le (by simp)
    |cons x r=>exact⟨_,_,(y_ (by simp:x::r≠[])).symm⟩
   have:(C::(g'++[V])).getLast?=aa V:=by rw[<-wb,qC];rfl
   replace h3:=this▸h3
   have Z:V=b:=uk (aW h3)
   subst Z
   exact⟨g',rfl,wU.mpr ((List.append_sublist_append_right _).mp (EC.mp hs))⟩
end
theorem CS:FnAt 320 33 "law" ["script"]:=⟨⟨λw=>⟨_,_,_,_,_,rfl,_,_,_,_,rfl,rfl,rfl,rfl⟩⟩,λ_ _ _ _ _ _ vs h=>lY (λ_=>by rfl) vs h,by rfl,by rfl⟩
noncomputable def m6:List bw:=(fb 33).drop 2
structure fq(ss:b0)(aG:Str):Prop where
 perm:(chars aG).Perm (ss.map (·.1))
 rows:∀c∈d6,gT ss (gw ss) c=(chars aG).filter λx=>iS (bu ss x) c
noncomputable def dn(ss:b0):List (List Str):=d6.map (gT ss (gw ss))
theorem Vy(ss:b0):(d6.map λc=>cz (gT ss (gw ss) c))=(dn ss).map cz:=cJ.symm
structure jl(ss:b0):Prop where
 hss:∀p∈ss,fH p.2
 hn:(ss.map (·.1)).Nodup
 len:ss.length<=6
 cap:∀p∈ss,fe p.1=ae
 cnt:∀c∈d6,eV (K1 (gw ss) c) (eU ss c)=eV (qf ss c) (eU ss c)
 fl:∀c∈d6,∀y∈eU ss c,∀s:Int,s.natAbs<=5->(0<er (iU c s) (bu ss y) c<->K1 (gw ss) c y<60*s)/\(0<=er (iU c s) (bu ss y) c<->K1 (gw ss) c y<60*s+1)
 ord:∀(cs:List Int) (k:D->Prop),cs.length=ss.length->(∀aG,fq ss aG->k (.str aG))->bJ 100 296 [.lst ((dn ss).map cz),.lst (cs.map D.int)] k
 Z9:∀aG (k:D->Prop),fq ss aG->k (.bool ae)->bJ 80 301 [.str aG,jf ss,.lst ((dn ss).map cz)] k
noncomputable def m7(ns:List Int)(ss:b0)(aG:Str):ay:=([("order",.dat (.str aG)),("rows",.dat (.lst ((dn ss).map cz))),("heights",.dat (h_ ss (gw ss))),("sticks",.dat (jf ss)),("numbers",.dat (.lst (ns.map D.int)))]:List (Str×Bd))
noncomputable def oM(i:Nat):bw:=match m6.drop i with
 |s::_=>s
 |[]=>.Pass {line:=0,col:=0,endLine:=0,endCol:=0}
structure ln(aG:Str):Prop where
 nd:(chars aG).Nodup
 len:aG.length<=6
 cap:∀x∈chars aG,fe x=ae
theorem fq.ok(L:jl ss)(G:fq ss aG):ln aG:=
 ⟨G.perm.nodup_iff.mpr L.hn,by rw[<-iN,G.perm.length_eq,aR];exact L.len,λx V=>by
  obtain⟨p,Y,rfl⟩:=bL.mp (G.perm.mem_iff.mp V)
  exact L.cap p Y⟩
theorem fq.row(G:fq ss aG){a7:List Str}(h:a7∈dn ss):a7.Sublist (chars aG):=by
 obtain⟨c,V,rfl⟩:=bL.mp h
 rw[G.rows c V];exact vU
theorem pH(h:fe x=ae):∃c,x=mk1 c/\65<=c/\c<=70:=by
 have:=A8 h
 simp only[caps,bT,ca,or_false] at this
 rcases this with rfl|rfl|rfl|rfl|rfl|rfl
 ·exact⟨65,rfl,bv _,by decide⟩
 ·exact⟨66,rfl,(jD _),by simp⟩
 ·exact⟨67,rfl,by simp,by simp⟩
 ·exact⟨68,rfl,by simp,by simp⟩
 ·exact⟨69,rfl,by simp,(jD _)⟩
 ·exact⟨70,rfl,by decide,bv _⟩
theorem pA(h:fe x=ae):x.length<=1/\46∉cl x:=by
 obtain⟨c,rfl,V,Y⟩:=pH h
 exact⟨bv _,λq=>by have:46=c:=a_.mp q;exact gK _ (aV V (aV (bn this.symm) (by simp)))⟩
theorem xa:Inj cz:=λ_ _ h=>(Pa λ_ _ h=>D.str.inj h).mp (D.lst.inj h)
theorem xv{c:α->D}(V:Inj c):Inj λa:α×Nat=>D.tup [.int (a.2:Nat),c a.1]:=λx y h=>
 have Y:((x.2:Nat):Int)=(y.2:Nat):=aQ (uH · 0) h
 have W:c x.1=c y.1:=aQ (acu · 1) h
 xf (V _ _ W) (lR Y)
theorem Inj.nat:Inj λd:Nat=>D.int d:=λ_ _ h=>by injection h with h;exact lR h
theorem b8.head(hd:(chars x).head?=aa y)(hl:x.length<=10000)(Y:k (.str y)):b8 n (.str x) (.int 0) k:=by
 simp only[lZ,F7] at hd
 induction q:(cl x).head? with
 |none=>rw[q] at hd;exact ns hd
 |some c=>
  rw[q] at hd;obtain rfl:=aW hd
  have V:x.cps[0]?=aa c:=by exact ku.symm.trans (List.head?_eq_getElem?.symm.trans q)
  exact b8.str (j:=0) (by decide) (by decide) (E_ (by decide) (by have:=(Ep.mp V).1;exact eJ.mpr this)) V Y
theorem b8.last(hd:(chars x).getLast?=aa y)(hl:x.length<=10000)(Y:k (.str y)):b8 n (.str x) (.int (-1)) k:=by
 simp only[lZ,qL] at hd
 induction q:(cl x).getLast? with
 |none=>rw[q] at hd;exact ns hd
 |some c=>
  rw[q] at hd;obtain rfl:=aW hd
  have V:x.cps[x.cps.size-1]?=aa c:=by exact ku.symm.trans (List.getLast?_eq_getElem?.symm.trans q)
  have W:=(Ep.mp V).1
  refine b8.str (j:=x.cps.size-1) (by decide) (by decide) ?_ V Y
  show lj (-1) x.cps.size=_
  have e:lj (-1) x.cps.size=if (decide (0<=(-1:Int)+x.cps.size)&&decide ((-1:Int)+x.cps.size<x.cps.size))=ae then aa ((-1:Int)+x.cps.size).toNat else ak:=rfl
  rw[e,bo (by simp;exact XR (by assumption))]
  congr 1;exact J' _
noncomputable def ot(aG V:Str):Bool:=if 1<V.length then ((chars aG).head?==(chars V).head?&&(chars aG).getLast?==(chars V).getLast?) else aG==V
noncomputable def Z':List bw:=match oM 4 with
 |.For _ _ b _ _=>b
 |_=>[]
theorem Vz(V:gh 50 xs)(Y:2<=xs.length)(W:y.length<=10000)(Z:∀b:Bool,(b=ae<->ms (xs.map cl) (cl y))->k (.bool b)):bJ 30 45 [.str (jI "..." xs),.str y] k:=
 uy (BV xs) Y ⟨aD V.1 (by simp),V.2⟩ W Z
theorem RK(h:x.length<3):ji "..." x=aI:=by
 unfold ji
 rcases Dd (x:=x) (y:="...") (lo:=0) (hi:=x.length) (ck _) (bn (cD x)) with ⟨i,r,_,hl,_⟩|⟨e,_⟩
 ·have:(cl "...").length=3:=rfl
  omega
 ·rw[e];rfl
theorem KG(h:0<xs.length):∃a b,xs.head?=aa a/\xs.getLast?=aa b:=by
 induction xs with
 |nil=>cases h
 |cons a r=>exact⟨a,(a::r).getLast (by simp),rfl,vr (by simp)⟩
set_option tactic.hygienic true in
theorem TR{ns:List Int}{V:Str}(O:ln aG)(hs:(chars V).Sublist (chars aG)){k:Fl->ay->Prop}(hk:∀ρ,Sub (m7 ns ss aG) ρ->k .next ρ):
 aL 210 (fs 33) ((("word",.dat (.str V))::m7 ns ss aG:List (Str×Bd))) Z' k:=by
 have Z:V.length<=aG.length:=by rw[<-iN,<-iN];exact hs.length_le
 have Y:=O.len
 have f:∀x∈chars V,x.length<=1/\46∉cl x:=λx W=>pA (O.cap x (hs.subset W))
 have G:=iN V
 refine .cons (aO.assign (by rfl) (λ_=>rfl) (aj.mono (k:=λd=>d=.bool (ot aG V)) (bD (bQ (aV (aD Z Y) (by decide)) (cM.mk (λh=>?_) λh=>?_))) λd e=>?_))
 ·have h:=cZ h
  obtain⟨w1,w2,e1,e2⟩:=KG (xs:=chars V) (by omega)
  obtain⟨o1,o2,e3,e4⟩:=KG (xs:=chars aG) (by rw[iN];omega)
  have e:ot aG V=(o1==w1&&o2==w2):=by unfold ot;rw[bo (by exact YY (by assumption)),e1,e2,e3,e4];rfl
  rw[e]
  refine b8.head e3 (bd (aV Y (by decide))) (b8.head e1 (bd (aV (aD Z Y) (by decide))) (cM.mk (λh1=>?_) λh1=>?_))
  ·rw[h1];exact b8.last e4 (bd (aV Y (by decide))) (b8.last e2 (bd (aV (aD Z Y) (by decide))) rfl)
  ·rw[h1];rfl
 ·have h:=ic h
  unfold ot
  rw[be (by omega)];rfl
 subst e
 have B:gh 50 (chars V):=⟨bd (aV (aD (aD (bn G) Z) Y) (by decide)),λx W=>⟨aD (f x W).1 (by decide),(f x W).2⟩⟩
 refine cw 5 ((tY (xs:=chars V) (.inr ⟨V,rfl,bd (aV (aD Z Y) (by decide)),rfl⟩) B (bd (aV Y (by decide))) λb C=>?_).le (by decide))
 obtain rfl:=(C.mpr ((By λx W=>rG W).mpr hs):b=ae)
 refine bq.pR (bQ (bd (aV (aD Z Y) (by decide))) ((tY (xs:=(chars V).reverse) (.inr ⟨_,rfl,?_,(Ii V).symm⟩) ⟨by rw[i8];exact B.1,λx W=>B.2 x (iK.mp W)⟩ (bd (aV Y (by decide))) λb C=>?_).le (by decide)))
 ·rw[<-iN,Ii,i8,G];exact bd (aV (aD Z Y) (by decide))
 have eb:b=decide ((V.length:Int)<2):=by
  rw[hO,C,By (λx W=>rG (iK.mp W)),W6 hs O.nd,G,decide_eq_true_eq];exact Zz
 subst eb
 refine bQ (aV (aD Z Y) (by decide)) (bq.pR (cM.mk (λh=>aZ h (by simp)) λ_=>?_))
 refine bk.K6 (bd (aV (aD Z Y) (by decide))) (GZ (b:=1) (λx W=>(f x W).1) (by rw[G];exact abo (by assumption) (by assumption))) ?_
 have dk:∀b:Bool,b=ot aG V->∀(T F:Prop),F->bq 210 .IsNot (.bool b) (.bool (ot aG V)) λc=>cM c T F:=λb e T F h=>bq.pR (cM.mk (λq=>aZ q (by rw[e];simp)) λ_=>h)
 refine bJ.le (m:=30) ?_ (by simp)
 by_cases H:2<=(chars V).length
 ·refine Vz B H (bd (aV Y (by decide))) λb C=>dk b ?_ _ _ (hk _ ?_)
  ·rw[W7 (λx W=>rG W) H hs] at C
   unfold ot
   rw[bo (cg (cg (bv _) H) (bn G)),hO,C,bB,beq_iff_eq,beq_iff_eq]
  ·exact cA.sub ⟨rfl,rfl,rfl,rfl,rfl,trivial⟩
 ·have e:jI "..." (chars V)=V:=by
   match hc:chars V,H with
   |[],_=>exact Ih (by rw[hc];rfl)
   |[x],_=>
    refine Ih (y:=V) ?_
    rw[hc]
    obtain⟨c,rfl⟩:=rG (x:=V) (y:=x) (hc▸bi)
    rfl
   |_::_::_,H=>exact aZ (by simp) H
  refine e.symm▸?_
  refine TG (RK (eK (aV (bn G.symm) (kH.mp H)) (bv _))) (dk _ ?_ _ _ (hk _ ?_))
  ·unfold ot
   rw[be (by omega),hO,beq_iff_eq,beq_iff_eq]
   exact eq_comm
  ·exact cA.sub ⟨rfl,rfl,rfl,rfl,rfl,trivial⟩
theorem JW(Y:∀x∈xs,x.length<=1)(h:xs.length<=100):nZ "" xs=ae:=by
 have V:∀(l:List Str) (a:Nat),(∀x∈l,x.length<=1)->l.foldl (λa x=>a+x.length+iw "") a<=a+l.length:=by
  intro l
  induction l with
  |nil=>intro a _;exact bv _
  |cons x r W=>
   intro a hl
   simp only[iq,gF]
   have H:=W (a+x.length+iw "") λy Z=>hl y (bM _ Z)
   have G:=hl x bi
   have:iw ""=0:=rfl
   exact abD (by assumption) (by assumption)
 unfold nZ
 rw[List.foldl_toArray]
 have:=V xs 0 Y
 unfold vS
 rw[nA,decide_eq_false_iff_not]
 have:sizeLine=2^24:=rfl
 omega
theorem uc(O:ln aG)(G:fq ss aG){a7:List Str}(h:a7∈dn ss):(∀x∈a7,fe x=ae)/\a7.length<=6:=
 ⟨λx V=>O.cap x ((G.row h).subset V),by have:=(G.row h).length_le;rw[iN] at this;have:=O.len;exact aD (by assumption) (by assumption)⟩
theorem JX(h:fe x=ae):let1 x:=(pH h).elim λc V=>V.elim λe _=>⟨c,e⟩
theorem nR(ss:b0):(dn ss).length=16:=by delta dn d6;rw[aR,aR,kD]
theorem TS{ns:List Int}(L:jl ss)(G:fq ss aG){k:Fl->ay->Prop}(B:k .next (m7 ns ss aG)):aO 210 (fs 33) (m7 ns ss aG) (oM 4) k:=by
 have O:=G.ok L
 refine aO.for (λ_ _=>rfl) (bK.list (aj.Sg xa rfl rfl (λ_ _=>rfl) (bK.list (bD ⟨_,rfl,?_,dn ss,jI "",rfl,?_,λa7 hr=>?_,λys f H C=>?_⟩))))
 ·rw[aR,nR];decide
 ·rw[nR];decide
 ·refine(uc O G hr).elim λW Z=>?_
  exact bD (bk.join (xs:=a7) (JW (λx V=>(pA (W x V)).1) (bd (aV Z (by simp)))) rfl)
 ·refine⟨_,rfl,?_,λi aC=>aC=m7 ns ss aG,rfl,?_,?_,?_⟩
  ·rw[aR]
   have:=pG f λx V=>((C x).mp V).elim λa7 q_=>q_.elim λW Z=>bL.mpr ⟨a7,W,Z⟩
   rw[aR,nR] at this
   exact bd (aV this (by simp))
  ·rintro i _ rfl;rfl
  ·rintro i d _ hd rfl
   rw[ci] at hd
   induction q:ys[i]? with
   |none=>rw[q] at hd;exact nomatch hd
   |some Y=>
    rw[q] at hd;obtain rfl:=aW hd
    obtain⟨a7,hr,rfl⟩:=(C Y).mp (c5 q)
    refine c0.name rfl (TR O (by rw[(Ho λx V=>JX ((uc O G hr).1 x V))];exact G.row hr) λρ hs=>⟨_,hs,rfl⟩)
  ·rintro _ rfl;exact B
noncomputable def seenOf(a7:List Str):Str:=a7.getLast?.getD "-"
noncomputable def mV(ss:b0):Str:=jI "" ((dn ss).map seenOf)
theorem A9(O:ln aG)(G:fq ss aG){a7:List Str}(hr:a7∈dn ss):(seenOf a7).length<=1/\46∉cl (seenOf a7)/\let1 (seenOf a7):=by
 unfold seenOf
 induction q:a7.getLast? with
 |none=>exact⟨bv _,by decide,45,rfl⟩
 |some x=>
  have:=(uc O G hr).1 x (qD q)
  exact⟨(pA this).1,(pA this).2,JX this⟩
theorem VA{ns:List Int}(L:jl ss)(G:fq ss aG){k:Fl->ay->Prop}(Y:k .next (("seen",.dat (.str (mV ss)))::m7 ns ss aG:List (Str×Bd))):aO 210 (fs 33) (m7 ns ss aG) (oM 5) k:=by
 have O:=G.ok L
 refine aO.assign (by rfl) (λ_=>rfl) (bD (aj.comp rfl (λ_ _=>rfl) (dj.mx xa rfl (bK.list (bD ⟨_,rfl,?_,dn ss,λa7=>.str (seenOf a7),rfl,λa7 hr=>?_,?_⟩)))))
 ·rw[aR,nR];decide
 ·refine(uc O G hr).elim λZ V=>?_
  refine bD (bQ (by rw[aR];exact aV V (by decide)) (cM.mk (λh=>?_) λh=>?_))
  ·induction a7 with
   |nil=>exact ft h
   |cons x r=>exact b8.Lw (d:=.str (seenOf (x::r))) (by rw[qL,vr (by simp:x::r≠[])];rfl) (by rw[aR];exact bd (aV V (by simp))) rfl
  ·induction a7 with
   |nil=>exact b8.last (y:="-") rfl (by decide) rfl
   |cons x r=>exact tf h
 ·refine bk.vm (aQ (λl=>[D.str "",D.lst l]) (show (dn ss).map (λa7=>D.str (seenOf a7))=((dn ss).map seenOf).map D.str by rw[cJ];rfl)) (bk.join (JW (λx W=>?_) (by rw[aR,nR];decide)) Y)
  obtain⟨a7,hr,rfl⟩:=bL.mp W
  exact(A9 O G hr).1
noncomputable def kk(ns:List Int)(ss:b0)(aG:Str):ay:=(("seen",.dat (.str (mV ss)))::m7 ns ss aG:List (Str×Bd))
theorem JY{p r:Str}(Y:p.length<=90/\46∉cl p)(hr:r.length<=90/\46∉cl r)(W:y.length<=10000)(Z:∀b:Bool,(b=ae<->∃m,cl y=cl p++m++cl r)->k (.bool b)):bJ 30 45 [.str (p++"..."++r),.str y] k:=
 uy (ps:=[p,r]) (by rw[fE,fE];rfl) (show 2<=2 by decide) ⟨show 2<=100 by simp,(gh.cons Y.1 Y.2 (.cons hr.1 hr.2 .nil)).2⟩ W λb H=>Z b (H.trans ((pK (qs:=[])).trans ⟨λV=>V.elim λm V=>V.elim λe _=>⟨m,e⟩,λV=>V.elim λm e=>⟨m,e,trivial⟩⟩))
theorem AN(O:ln aG)(G:fq ss aG):chars (mV ss)=(dn ss).map seenOf:=Ho λx V=>by
 obtain⟨a7,hr,rfl⟩:=bL.mp V
 exact(A9 O G hr).2.2
theorem I6(O:ln aG)(G:fq ss aG):(mV ss).length=16:=by rw[<-iN,AN O G,aR,nR]
theorem G0(h:∀y∈chars x,46∉cl y):46∉cl x:=λq=>h (mk1 46) (bL.mpr ⟨46,q,rfl⟩) (by decide)
theorem Sq(O:ln aG)(G:fq ss aG):46∉cl (mV ss):=G0 λy V=>by
 rw[AN O G] at V
 obtain⟨a7,hr,rfl⟩:=bL.mp V
 exact(A9 O G hr).2.1
theorem I7(j n:Nat):og (j:Int) n=min j n:=by
 unfold og
 rw[be (dU.mpr (dA _)),((Gy j n).elim (λh=>(wf (fW.mpr h)).trans (aQ _ (iL h).symm)) λh=>(zK (fW.mpr h)).trans (aQ _ (Fg h).symm):min (j:Int) n=(min j n:Nat)),qM (dA _)]
 exact lQ _
theorem JZ(x:Str)(j:Nat):cl (d5 x ak (aa (j:Int)) ak)=(cl x).take j:=by
 rw[nU]
 show ((cl x).take (og j x.length)).drop 0=_
 rw[tq,I7,cD,<-List.take_eq_take_min]
theorem I8(x:Str):cl (d5 x (aa 1) ak ak)=(cl x).drop 1:=by
 rw[nU]
 show ((cl x).take x.length).drop (og (1:Nat) x.length)=_
 simp only[I7,cD,jY]
 induction cl x with
 |nil=>rfl
 |cons a l=>exact aQ (HF · (a::l)) (iL (nF (ck _)))
theorem W8{l:List Nat}:(∃m,l=l.take 2++m++l.drop 1)<->l.length<2:=
 ⟨λV=>V.elim λm e=>Nat.lt_of_not_le λh=>by
  have q:=aQ gk e
  simp only[bR,bR,Ey h,qP] at q
  exact aZ q (eB (cg ((vV (qG h)).symm▸gL 2 (l.length-1)▸gW (l.length-1+1):l.length<2+(l.length-1)) (gB (cy 2 _) _))),
  λh=>⟨[],by simp only[k9 (bd h),EB (o_ h),cR,cR]⟩⟩
theorem VB{ns:List Int}(L:jl ss)(G:fq ss aG){k:Fl->ay->Prop}(Z:k .next (kk ns ss aG)):aO 210 (fs 33) (kk ns ss aG) (oM 6) k:=by
 have O:=G.ok L
 have V:=O.len
 refine aO.iff (bH.mono (k:=λc=>c=aI) (b_ ?_) λc e=>by subst e;exact aL.nil Z)
 have H:iw "..."=3:=rfl
 have len:∀lo hi,(d5 aG lo hi ak).length<=6:=λlo hi=>aD (B0 _ _ _) V
 have Y:∀lo hi,(d5 aG lo hi ak).length<=90/\46∉cl (d5 aG lo hi ak):=λlo hi=>⟨aD (len lo hi) (by simp),λq=>(G0 λy C=>(pA (O.cap y C)).2) (by
  rw[nU] at q
  exact mB (vN q))⟩
 have dl:∀lo hi,(d5 aG lo hi ak++"...").length=(d5 aG lo hi ak).length+3:=λlo hi=>by rw[cD,fE,bR,<-cD,<-cD,H]
 refine bQ (bd (aV V (by decide))) (bQ (by have:=len ak (aa 2);exact aD (fV this (bv _)) (by decide)) (bQ (bd (aV V (by decide))) (bQ (by rw[dl];exact aD (fV (gB (len ak (aa 2)) 3) (len (aa 1) ak)) (by decide)) ((JY (Y _ _) (Y _ _) (bd (aV V (by decide))) λb W=>?_).le (by decide)))))
 have B:b=decide ((aG.length:Int)<2):=by
  rw[hO,W,decide_eq_true_eq,I8,show cl (d5 aG ak (aa 2) ak)=(cl aG).take 2 from JZ _ 2,W8];exact(cD aG)▸((eJ (n:=aG.length) (m:=2)).symm)
 subst B
 refine bQ (aV V (by decide)) (bq.pR (cM.mk (λh=>aZ h (by simp)) λ_=>?_))
 refine bQ (bd (aV V (by decide))) (bQ (by have:=len ak (aa 1);exact aD (fV this (bv _)) (by decide)) (bQ (bd (aV V (by decide))) (bQ (by rw[dl];exact aD (fV (gB (len ak (aa 1)) 3) (len (aa 1) ak)) (by decide)) ((JY (Y _ _) (Y _ _) (bd (aV V (by decide))) λb W=>?_).le (by decide)))))
 obtain rfl:=(W.mpr ⟨[],by simp only[I8,show cl (d5 aG ak (aa 1) ak)=(cl aG).take 1 from JZ _ 1,cR,kA]⟩:b=ae)
 refine bq.pR ?_
 refine aj.comp rfl (λ_ _=>rfl) (dj.fx Inj.str rfl (bK.chars (bD ⟨_,rfl,bd (aV V (by decide)),chars aG,λ_=>aI,D.str,rfl,λx f=>b_ ?_,?_⟩)))
 ·obtain⟨c,rfl,h1,h2⟩:=pH (O.cap x f)
  exact(Vv (c:=c) rfl (jB (cg (by simp) h1)) (by rw[I6 O G];decide) (Sq O G) ⟨rfl,nofun⟩).le (by simp)
 ·exact(show (chars aG).filter (λ_=>aI)=[] from vF.mpr (by simp))▸(bq.Lq rfl)
noncomputable def lB(V:List Str)(a:Str):List (Str×Str):=(V.filter λb=>a != b).map λb=>(a,b)
noncomputable def Z_:List bw:=match oM 7 with
 |.For _ _ b _ _=>b
 |_=>[]
theorem ad8{f:Str->List D}(x:Str):(match (D.str x).f9 with|some a=>f a|ak=>[])=f x:=rfl
noncomputable def onStr(f:Str->List D)(d:D):List D:=match d.f9 with
 |some a=>f a
 |none=>[]
set_option tactic.hygienic true in
theorem Sr{ns:List Int}(O:ln aG){bp:au}{K:List D->Prop}(G:K (((chars aG).flatMap (lB (chars aG))).map bY)):bK 210 (fs 33) (kk ns ss aG) bp (match oM 7 with|.For _ i _ _ _=>i|_=>jF .none 0 {line:=0,col:=0,endLine:=0,endCol:=0}) K:=by
 have Y:=O.len
 have V:(chars aG).length<=6:=by rw[iN];exact Y
 refine bK.list (aj.Tv rfl (λ_ _=>rfl) (λ_ _=>rfl) (bK.chars (bD ⟨_,rfl,bd (aV Y (by decide)),by rw[aR];exact bd (aV V (by simp)),onStr λa=>(lB (chars aG) a).map bY,?_,?_⟩)))
 ·intro d hd
  refine(bL.mp hd).elim λa W=>W.elim λC Z=>?_;subst Z
  refine⟨?_,c0.name rfl ⟨rK,ub rfl,bK.chars (bD ⟨_,rfl,bd (aV Y (by decide)),λd=>match d with|.str b=>if (a != b)=ae then aa (bY (a,b)) else ak|_=>ak,by rw[aR];exact bd (aV V (by decide)),?_,?_⟩)⟩⟩
  ·show ((lB (chars aG) a).map bY).length<=100
   unfold lB
   have:=kB (λb=>a != b) (chars aG)
   simp only[aR,aR];exact bd (aV (aD this V) (by decide))
  ·intro B H
   obtain⟨b,hb,rfl⟩:=bL.mp H
   refine c0.name rfl ⟨rK.cons,ub rfl,b_ ?_⟩
   show if (a != b)=ae then _ else _
   split
   ·rename_i h
    exact bD (bo h)
   ·rename_i h
    exact be h
  ·intro l
   exact aQ (l++·) ((show onStr (λa=>(lB (chars aG) a).map bY) (.str a)=((chars aG).filter λb=>a != b).map λb=>bY (a,b) by
    refine cJ.trans ?_;rfl).trans (filterMap_some (f:=D.str) (p:=λb=>a != b) λb _=>rfl).symm)
 ·have e:((chars aG).map D.str).flatMap (onStr λa=>(lB (chars aG) a).map bY)=((chars aG).flatMap (lB (chars aG))).map bY:=by
   simp only[List.flatMap_map,List.map_flatMap];rfl
  refine⟨_,rfl,?_,?_⟩
  ·simp only[e,aR,List.length_flatMap]
   have:∀l:List Str,(l.map λa=>(lB (chars aG) a).length).sum<=l.length*6:=λl=>by
    induction l with
    |nil=>exact ck _
    |cons a r ih=>
     have h1:=kB (λb=>a != b) (chars aG)
     simp only[d7,pf,gF,show (lB (chars aG) a).length=_ from aR ..];exact Y7 (by assumption) (by assumption) (by assumption)
   have:=this (chars aG)
   exact abn (by assumption) (by assumption)
  ·rw[e];exact G
theorem VC{K:Str->Int}{a7:List Str}(hl:a7.length<=1000)(hs:lz K a7)(iJ:∀y,(y=x\/y∈a7)->∃r,φ (.str y)=aa r)(W:∀y∈a7,∀H Y,φ (.str x)=aa H->φ (.str y)=aa Y->gz H Y=aa (decide (K x<K y))):
 mr 90 96 (a7.map D.str) [.str x] φ ((iD K x a7).map D.str):=by
 obtain⟨a,b,rfl,e,C,h3⟩:=Wf (K:=K) (x:=x) hs
 obtain⟨f,G⟩:=iJ x (.inl rfl)
 have V:((a++b).map D.str).length=a.length+b.length:=(aR ..).trans (bR ..)
 have g:=Si (l:=(a++b).map D.str) (x:=.str x) (up:=λj=>decide (j<a.length)) a.length (aD (bn (aR ..)) hl) G (λj d hd=>by
  obtain⟨y,q,rfl⟩:=mS hd
  obtain⟨Y,hr⟩:=iJ y (.inr (c5 q))
  refine⟨Y,hr,(W y (c5 q) f Y G hr).trans (aQ aa ?_)⟩
  by_cases c:j<a.length
  ·rw[eP c,eW (C y (c5 ((qr c).symm.trans q)))];rfl
  ·rw[eW c,eP (h3 y (c5 ((oZ (de.mp c)).symm.trans q)))];rfl)
  (λi j Z _ hj=>eP (aV Z (cZ hj)))
  (λr' B=>lc (de.mp λh=>gK _ (cZ (B.u a.length (ck _) h))) (de.mp λh=>ic (B.d r' (bv _) (V▸cg h (cy _ _))) h)) (V▸cy _ _)
 rw[dJ,List.take_left' (aR ..),List.drop_left' (aR ..)] at g
 have e2:(iD K x (a++b)).map D.str=a.map D.str++D.str x::b.map D.str:=(aQ (lX D.str) e).trans (dJ ..)
 rw[e2,dJ]
 exact g
section
variable {n:Nat} {ss:b0} {hs:Str->Int->Int×Int} {c:Int} {y:Str} {k:D->Prop}
theorem pN(W:(ss.map (·.1)).Nodup)(h:y∈ss.map (·.1))(V:k (jO (bu ss y))):b8 n (jf ss) (.str y) k:=by
 obtain⟨p,Y,rfl⟩:=bL.mp h
 rw[pz W Y] at V
 exact b8.cL (kC (f:=λp:Str×c_=>(p.1,jO p.2)) Y) V
noncomputable def Lz(ss:b0)(hs:Str->Int->Int×Int)(y:Str):D:=.et ((dR (bu ss y)).map λc=>(c,pairD (hs y c)))
theorem pO(Y:(ss.map (·.1)).Nodup)(h:y∈ss.map (·.1))(W:k (Lz ss hs y)):b8 n (h_ ss hs) (.str y) k:=by
 obtain⟨p,V,rfl⟩:=bL.mp h
 exact b8.cL (kC (f:=λp:Str×c_=>(p.1,D.et ((dR p.2).map λc=>(c,pairD (hs p.1 c))))) V) ((pz Y V)▸W)
theorem pP(h:iS (bu ss y) c=ae)(V:k (pairD (hs y c))):b8 n (Lz ss hs y) (.int c) k:=
 b8.et (kC (f:=λc=>(c,pairD (hs y c))) (w8.mpr h)) V
end
theorem aaa:us 286 285 "_law_rows" "_law_rows" (fp 27) (fb 27) (fs 27):=⟨λw=>⟨_,_,_,_,rfl,_,_,_,rfl,rfl,rfl⟩⟩
noncomputable def yz(ss:b0)(hs:Str->Int->Int×Int)(a:ag)(rows:List (List Str)):ay:=([("rows",.own a (rows.map cz)),("sticks",.dat (jf ss)),("heights",.dat (h_ ss hs))]:List (Str×Bd))
noncomputable def Ds(ss:b0)(hs:Str->Int->Int×Int)(a V Y:ag)(rows:List (List Str))(W Z T:List Str)(c:Int):ay:=([("row",.own V (W.map D.str)),("flat",.own Y (Z.map D.str)),("there",.dat (cz T)),("column",.dat (.int c))]:List (Str×Bd))++yz ss hs a rows
structure LA(ss:b0)(c:Int)(T:List Str):Prop where
 len:T.length<=6
 nm:∀y∈T,y∈ss.map (·.1)
 col:∀y∈T,iS (bu ss y) c=ae
theorem I9(Y:(ss.map (·.1)).Nodup)(hl:ss.length<=6)(c:Int):LA ss c (eU ss c):=by
 refine⟨?_,λy V=>kC (f:=(·.1)) ((tO Y).mp V).1,λy V=>((tO Y).mp V).2⟩
 unfold eU
 rw[aR]
 exact aD (kB _ _) hl
theorem Rg(V:(ss.map (·.1)).Nodup)(c:Int):(ss.map (·.1)).filter (λy=>iS (bu ss y) c)=eU ss c:=by
 refine qR.trans ?_
 congr 1
 exact mE λp Y=>by show iS (bu ss p.1) c=_;rw[pz V Y]
theorem AO:d6.length=16:=by unfold d6;rw[aR,kD]
theorem Hq{c:Int}(h:c∈d6):c.natAbs<=1000:=by
 obtain⟨i,hi,rfl⟩:=bL.mp h
 exact aD (v0 _ _) (aD (fh (bd (gi.mp hi)) 4) (by decide))
theorem RL{c:Int}(h:c∈d6):(c+1).natAbs<=1000:=by
 obtain⟨i,hi,rfl⟩:=bL.mp h
 exact aD (v0 _ _) (aD (gB (aD (v0 _ _) (fh (bd (gi.mp hi)) 4)) 1) (by decide))
theorem B1(Y:(ss.map (·.1)).Nodup)(h:x∈ss.map (·.1)):(x,bu ss x)∈ss:=by
 obtain⟨p,V,rfl⟩:=bL.mp h
 rw[pz Y V];exact V
theorem tZ{T:List α}{x:α}(h:T[j]?=aa x):T.take (j+1)=T.take j++[x]:=by simp only[lN,h];rfl
theorem I_{K:Str->Int}{f:Str->D}(B:T.length<=6)(Z:T[j]?=aa x)(W:∀y,gz (f x) (f y)=aa (decide (K x<K y))):
 mr 90 96 ((eV K (T.take j)).map D.str) [.str x] (ki T f) ((eV K (T.take (j+1))).map D.str):=by
 simp only[tZ Z,wS]
 have H:∀y,y∈eV K (T.take j)->y∈T:=λy V=>mB ((nQ K _).2.mem_iff.mp V)
 have Y:=c5 Z
 refine VC ?_ (nQ _ _).1 (λy V=>?_) (λy V rx ry G C=>?_)
 ·rw[(nQ K _).2.length_eq]
  exact aD (OF _ _) (aD B (by simp))
 ·rcases V with rfl|V
  ·exact⟨_,rM Y⟩
  ·exact⟨_,rM (H y V)⟩
 ·rw[rM Y] at G;rw[rM (H y V)] at C
  obtain rfl:=aW G;obtain rfl:=aW C
  exact W y
section
variable {ss:b0} {hs:Str->Int->Int×Int} {c:Int} {n:Nat} {k:D->Prop}
theorem G1{K:Str->Int}(Y:T.length<=6)(W:70<=n)(Z:k (cz (eV K T))):sx n (.builtin "sorted") [cz T] (ki T λy=>.int (K y)) k:=by
 have hl:(T.map D.str).length=T.length:=aR ..
 refine sx.sorted (kz:=T.map K) (hl▸(aV Y (by simp))) W (by rw[hl,aR]) (λi d k H V=>?_) (λb G=>?_)
 ·obtain⟨y,q,rfl⟩:=mS H
  rw[ci,q] at V
  obtain rfl:=aW V
  exact rM (c5 q)
 ·rw[Z6 G];exact Z
theorem Ja{a b:List Str}{k:Bool->Prop}(Y:5<=n)(h:a=b)(W:k aI):bq n .NotEq (cz a) (cz b) k:=
 bq.neT (.lst .str) (aD (by decide) Y) (kc _) (kc _) λcc V=>by
  induction cc with
  |false=>exact W
  |true=>exact aZ (aQ cz h) (V.mp rfl)
theorem r7(Y:(ss.map (·.1)).Nodup)(W:LA ss c T)(g:Str->D)(h:∀y,y∈T->aj 50 aF (bindR ["one"] [.dat (.str y)]++([("heights",.dat (h_ ss hs)),("column",.dat (.int c))]:List (Str×Bd))) e λx=>x=g y)(d r:D)(hd:ki T g d=aa r):
 aj 50 aF (bindR ["one"] [.dat d]++([("heights",.dat (h_ ss hs)),("column",.dat (.int c))]:List (Str×Bd))) e λx=>x=r:=by
 obtain⟨y,rfl,V,rfl⟩:=Ie hd
 exact h y V
set_option maxHeartbeats 1000000 in
theorem VD(W:(ss.map (·.1)).Nodup)(Z:ss.length<=6)(hb:∀p∈ss,p.2.x0.natAbs<=1000/\p.2.x1.natAbs<=1000/\p.2.h0.natAbs<=1000/\p.2.h1.natAbs<=1000)
 (hr:∀x c,0<=(hs x c).2/\(hs x c).2<60)(C:∀c∈d6,eV (K1 hs c) (eU ss c)=eV (qf ss c) (eU ss c))
 (hk:k (.lst (d6.map λc=>cz (gT ss hs c)))):bJ 200 286 [jf ss,h_ ss hs] k:=by
 refine bJ.xL (n:=198) (aH:=["sticks","heights"]) aaa (λ_ _ _ _ _ _ vs hl=>jd (λ_ _=>by rfl) vs hl) (by ac_rfl) (by rfl) (by rfl) (by ac_rfl) (cw 1 λa=>aL.sub (ρ:=yz ss hs a []) (.cons (aO.for (λ_ _=>rfl) (bK.call (AG rfl) rfl (d_ (dD 40) (fN.B_ (by decide) (by decide) ⟨λi aC=>aC=yz ss hs a ((d6.take i).map (gT ss hs)),rfl,?_,?_,?_⟩))))) (cA.sub ⟨rfl,rfl,rfl,trivial⟩))
 ·rintro i _ rfl;rfl
 ·rintro i d _ hd rfl
  obtain⟨c,hc,rfl⟩:∃c,d6[i]?=aa c/\d=.int c:=by
   have hd:(d6.map D.int)[i]?=aa d:=hd
   rw[ci] at hd
   cases q:d6[i]? with
   |none=>rw[q] at hd;exact ns hd
   |some c=>rw[q] at hd;exact⟨c,rfl,(aW hd).symm⟩
  have V:=I9 W Z c
  refine c0.name rfl (.cons (aO.rr (aH:=["row","flat","there"]) (.cons (.cons (.cons .nil))) rfl rfl rfl (by decide) (λ_=>rfl) (λab _ jT=>xk jT rfl) (n8 (dD 40) (λ_ h=>h) λa1 a2=>?_)))
  refine aj.comp rfl (λ_ _=>rfl) (dj.fx Inj.str rfl (bK.dictKeys (aj.name rfl rfl ⟨_,rfl,?_,ss.map (·.1),λy=>iS (bu ss y) c,D.str,?_,λy Y=>b_ ?_,?_⟩)))
  ·rw[aR];exact bd (aV Z (by decide))
  ·rw[cJ,cJ];rfl
  ·refine pN W Y (cM.mk (λB=>pN W Y ⟨?_,λ_=>bD rfl⟩) λB=>⟨?_,λf=>?_⟩)
   ·show _=(decide _&&decide _)
    rw[B];rfl
   ·show _=(decide _&&decide _)
    rw[B];rfl
   ·have f:(decide _&&decide _)=ae:=f
    rw[B] at f;exact ft f
  rw[Rg W]
  generalize H:eU ss c=T at V
  refine .cons (aO.sub (ρ:=Ds ss hs a a1 a2 ((d6.take i).map (gT ss hs)) [] [] T c) (aO.for (λ_ _=>rfl) (bK.list (aj.name rfl rfl ⟨_,rfl,by rw[aR];have:=V.len;exact bd (aV this (by decide)),λj aC=>aC=Ds ss hs a a1 a2 ((d6.take i).map (gT ss hs)) (eV (K1 hs c) (T.take j)) (eV (K2 hs c) (T.take j)) T c,rfl,?_,?_,?_⟩))) (cA.sub ⟨rfl,rfl,rfl,rfl,rfl,rfl,rfl,trivial⟩))
  ·rintro j _ rfl;rfl
  ·rintro j d _ hd rfl
   obtain⟨x,hx,rfl⟩:=mS hd
   refine c0.name rfl (.cons (aO.K0 (Ff rfl) rfl rfl rfl (g8.lambda (p:="one") (bE:=([("heights",.dat (h_ ss hs)),("column",.dat (.int c))]:List (Str×Bd))) (φ:=ki T λy=>pairD (hs y c)) (t:=(285,283,"_law_rows.<locals>.<lambda>")) rfl (by simp[fu]) rfl (λw=>by ac_rfl) rfl (λab=>rfl) ⟨rfl,rfl,rfl,rfl,trivial⟩ rfl (λ_ _ _ _ _ _ _ vs hl=>lY (λ_=>by rfl) vs hl) rfl rfl (r7 W V _ λy Y=>bD (pO W (V.nm y Y) (pP (V.col y Y) rfl)))) (λ_=>rfl) (bD ⟨_,(I_ V.len hx λy=>Bx (hr x c) (hr y c)).le (by decide),?_⟩)))
   refine .cons (aO.K0 (Ff rfl) rfl rfl rfl (g8.lambda (p:="one") (bE:=([("heights",.dat (h_ ss hs)),("column",.dat (.int c))]:List (Str×Bd))) (φ:=ki T λy=>.int (K2 hs c y)) (t:=(285,283,"_law_rows.<locals>.<lambda>")) rfl (by simp[fu]) rfl (λw=>by ac_rfl) rfl (λab=>rfl) ⟨rfl,rfl,rfl,rfl,trivial⟩ rfl (λ_ _ _ _ _ _ _ vs hl=>lY (λ_=>by rfl) vs hl) rfl rfl (r7 W V _ λy Y=>bD (pO W (V.nm y Y) (pP (V.col y Y) rfl)))) (λ_=>rfl) (bD ⟨_,(I_ V.len hx λy=>rfl).le (by decide),aL.nil ?_⟩))
   exact⟨Ds ss hs a a1 a2 ((d6.take i).map (gT ss hs)) (eV (K1 hs c) (T.take (j+1))) (eV (K2 hs c) (T.take (j+1))) T c,cA.sub ⟨rfl,rfl,rfl,rfl,rfl,rfl,rfl,trivial⟩,rfl⟩
  ·rintro _ rfl
   rw[aR,jY]
   refine aL.freeze (x:="row") rfl (aL.freeze (x:="flat") rfl (aL.skip (b_ (aj.se (tJ rfl) rfl (g8.f (g8.lambda (p:="one") (bE:=([("there",.dat (cz T)),("sticks",.dat (jf ss)),("column",.dat (.int c))]:List (Str×Bd))) (φ:=ki T λy=>.int (qf ss c y)) (t:=(285,283,"_law_rows.<locals>.<lambda>")) rfl (by simp[fu]) rfl (λw=>by ac_rfl) rfl (λab=>rfl) ⟨rfl,rfl,rfl,rfl,rfl,rfl,trivial⟩ rfl (λ_ _ _ _ _ _ _ vs hl=>lY (λ_=>by rfl) vs hl) rfl rfl λd r hd=>?_)) (d_ (dD 40) (G1 V.len (by decide) (Ja (by decide) ?_ ?_))))) ?_))
   ·obtain⟨y,rfl,Y,rfl⟩:=Ie hd
    have oY:=Hq (c5 hc)
    have st:=λz G=>hb _ (B1 W (V.nm z G))
    refine bD (aj.comp rfl (λ_ _=>rfl) (dj.fx Inj.str rfl (bK.list (aj.name rfl rfl ⟨_,rfl,by rw[aR];have:=V.len;exact bd (aV this (by decide)),T,λz=>decide (0<er (bu ss y) (bu ss z) c),D.str,rfl,λz G=>b_ (pN W (V.nm y Y) (pN W (V.nm z G) ?_)),?_⟩))))
    ·exact(xt (st y Y).1 (st y Y).2.1 (st y Y).2.2.1 (st y Y).2.2.2 (st z G).1 (st z G).2.1 (st z G).2.2.1 (st z G).2.2.2 oY ⟨rfl,λ_=>bD rfl⟩).le (by simp)
    ·refine bQ ?_ ?_
     ·rw[aR];exact aV (kB _ _) (aV V.len (by decide))
     ·show D.int _=D.int _
      unfold qf
      rw[H,aR]
   ·subst H;exact C c (c5 hc)
   ·refine aj.se (tJ rfl) rfl (g8.f (g8.lambda (p:="one") (bE:=([("heights",.dat (h_ ss hs)),("column",.dat (.int c))]:List (Str×Bd))) (φ:=ki T λy=>.int (K2 hs c y)) (t:=(285,283,"_law_rows.<locals>.<lambda>")) rfl (by simp[fu]) rfl (λw=>by ac_rfl) rfl (λab=>rfl) ⟨rfl,rfl,rfl,rfl,trivial⟩ rfl (λ_ _ _ _ _ _ _ vs hl=>lY (λ_=>by rfl) vs hl) rfl rfl (r7 W V _ λy Y=>bD (pO W (V.nm y Y) (pP (V.col y Y) rfl))))) (d_ (dD 40) (G1 V.len (by decide) (Ja (by decide) rfl rfl)))
   ·refine .cons (aO.xi (m:=cO.append) rfl rfl rfl (λab=>mQ rfl _ _ _) ⟨show 1<30 by simp,rfl⟩ (λab=>rfl) (bD ⟨_,kN.append ?_,aL.nil ⟨yz ss hs a ((d6.take (i+1)).map (gT ss hs)),cA.sub ⟨?_,rfl,rfl,trivial⟩,rfl⟩⟩))
    ·simp only[aR,aR,gG];exact aD (pb _ _) (by rw[AO];decide)
    ·simp only[tZ hc,dJ,dJ]
     subst H;rfl
 ·rintro _ rfl
  rw[show (pV (-4) 12).length=d6.length by rw[AO];rfl,jY]
  refine cw 1 ?_
  rw[show (d6.map λc=>cz (gT ss hs c))=(d6.map (gT ss hs)).map cz from cJ.symm] at hk
  exact hk
end
section
variable {a7:List Str} {hs:Str->Int->Int×Int} {c s X:Int} {k:D->Prop} {lo hi:Nat} {K:Str->Int}
theorem jk.clamp(B:jk (ko K X a7) lo hi r r)(hh:hi<=a7.length):r=clamp lo hi (cnt K X a7):=Vp B.a B.c hh B.u B.d
theorem B2(h:(oq hs c a7)[j]?=aa d):∃y,a7[j]?=aa y/\d=pairD (hs y c):=by
 unfold oq at h
 rw[ci] at h
 induction q:a7[j]? with
 |none=>replace h:=q▸h;exact ns h
 |some y=>rw[q] at h;exact⟨y,rfl,(aW h).symm⟩
theorem r8(hs:lz K a7)(h:a7[j]?=aa y):decide (K y<X)=ko K X a7 j:=by
 unfold ko;rw[decide_eq_decide];exact Yz hs j y h
theorem rN:∀i j,i<=j->j<m->ko K X a7 j=ae->ko K X a7 i=ae:=λi j V _ Y=>eP (aV V (cZ Y))
theorem Cu(hr:∀x c,0<=(hs x c).2/\(hs x c).2<60):gz (pairD (hs y c)) (pairD (s,0))=aa (decide (K1 hs c y<60*s)):=by
 rw[Bx (hr y c) ⟨pn 0,(by simp:(0:Int)<60)⟩,tF];rfl
theorem Cv(hr:∀x c,0<=(hs x c).2/\(hs x c).2<60):gz (pairD (s,0)) (pairD (hs y c))=aa (!decide (K1 hs c y<60*s+1)):=by
 rw[Bx ⟨pn 0,(by simp:(0:Int)<60)⟩ (hr y c),<-decide_not,tF]
 congr 1
 rw[decide_eq_decide,dU];rfl
section
variable (hr:∀x c,0<=(hs x c).2/\(hs x c).2<60) (ju:lz (K1 hs c) a7) (hl:a7.length<=6)
include hr ju hl
theorem bL2(V:k (.int (cnt (K1 hs c) (60*s) a7))):bJ 80 114 [.lst (oq hs c a7),pairD (s,0)] k:=by
 have e:(oq hs c a7).length=a7.length:=aR ..
 refine TA (up:=ko (K1 hs c) (60*s) a7) (e▸(bd (aV hl (by simp)))) (λj d h=>?_) rN λr B=>?_
 ·obtain⟨y,Y,rfl⟩:=B2 h;rw[Cu hr,r8 ju Y]
 ·rw[e] at B
  rw[B.clamp (bv _),Ig Cs];exact V
theorem bL4(Y:lo<=hi)(V:hi<=a7.length)(W:k (.int (clamp lo hi (cnt (K1 hs c) (60*s) a7)))):bJ 80 114 [.lst (oq hs c a7),pairD (s,0),.int lo,.int hi] k:=by
 have e:(oq hs c a7).length=a7.length:=aR ..
 refine U9 (up:=ko (K1 hs c) (60*s) a7) (by exact e▸(bd (aV hl (by simp)))) Y (e▸V) (.inl rfl) (λj d h=>?_) rN λr B=>?_
 ·obtain⟨y,Z,rfl⟩:=B2 h;rw[Cu hr,r8 ju Z]
 ·rw[B.clamp V];exact W
theorem bR4(Y:lo<=hi)(V:hi<=a7.length)(W:k (.int (clamp lo hi (cnt (K1 hs c) (60*s+1) a7)))):bJ 80 105 [.lst (oq hs c a7),pairD (s,0),.int lo,.int hi] k:=by
 have e:(oq hs c a7).length=a7.length:=aR ..
 refine U8 (up:=ko (K1 hs c) (60*s+1) a7) (by exact e▸(bd (aV hl (by simp)))) Y (by exact e▸V) (.inl rfl) (λj d h=>?_) rN λr B=>?_
 ·obtain⟨y,Z,rfl⟩:=B2 h;rw[Cv hr,r8 ju Z]
 ·rw[B.clamp V];exact W
variable {φ:D->Option D} (iJ:∀y∈a7,φ (.str y)=aa (pairD (hs y c)))
include iJ
theorem bLk(W:lo<=hi)(V:hi<=a7.length)(Z:k (.int (clamp lo hi (cnt (K1 hs c) (60*s) a7)))):iF 80 114 [cz a7,pairD (s,0),.int lo,.int hi] φ k:=by
 have e:(a7.map D.str).length=a7.length:=aR ..
 refine U7 (up:=ko (K1 hs c) (60*s) a7) (by exact e▸(bd (aV hl (by simp)))) W (e▸V) (.inl rfl) (λj d h=>?_) rN λr B=>?_
 ·obtain⟨y,Y,rfl⟩:=mS h;exact⟨_,iJ y (c5 Y),by rw[Cu hr,r8 ju Y]⟩
 ·rw[B.clamp V];exact Z
theorem bRk(W:lo<=hi)(V:hi<=a7.length)(Z:k (.int (clamp lo hi (cnt (K1 hs c) (60*s+1) a7)))):iF 80 105 [cz a7,pairD (s,0),.int lo,.int hi] φ k:=by
 have e:(a7.map D.str).length=a7.length:=aR ..
 refine IZ (up:=ko (K1 hs c) (60*s+1) a7) (by exact e▸(bd (aV hl (by simp)))) W (by exact e▸V) (.inl rfl) (λj d h=>?_) rN λr B=>?_
 ·obtain⟨y,Y,rfl⟩:=mS h;exact⟨_,iJ y (c5 Y),by rw[Cv hr,r8 ju Y]⟩
 ·rw[B.clamp V];exact Z
theorem acZ(Y:k (.int (cnt (K1 hs c) (60*s+1) a7))):iF 80 105 [cz a7,pairD (s,0)] φ k:=by
 have e:(a7.map D.str).length=a7.length:=aR ..
 refine Tz (up:=ko (K1 hs c) (60*s+1) a7) (by exact e▸(bd (aV hl (by simp)))) (λj d h=>?_) rN λr B=>?_
 ·obtain⟨y,V,rfl⟩:=mS h;exact⟨_,iJ y (c5 V),by rw[Cv hr,r8 ju V]⟩
 ·rw[e] at B
  rw[B.clamp (bv _),Ig Cs];exact Y
end
end
theorem aab:us 291 290 "_law_points" "_law_points" (fp 28) (fb 28) (fs 28):=⟨λw=>⟨_,_,_,_,rfl,_,_,_,rfl,rfl,rfl⟩⟩
section
variable {ss:b0} {hs:Str->Int->Int×Int} {c:Int} {n:Nat} {k:D->Prop}
noncomputable def aac(ss:b0)(hs:Str->Int->Int×Int):D:=.lst (d6.map λc=>cz (gT ss hs c))
noncomputable def yA(ns:List Int)(ss:b0)(hs:Str->Int->Int×Int):ay:=([("numbers",.dat (.lst (ns.map D.int))),("sticks",.dat (jf ss)),("heights",.dat (h_ ss hs)),("rows",.dat (aac ss hs))]:List (Str×Bd))
theorem VE:lz (K1 hs c) (gT ss hs c)/\(gT ss hs c).Perm (eU ss c):=nQ _ _
noncomputable def ac0(ns:List Int)(ss:b0)(hs:Str->Int->Int×Int)(x c s:Int):ay:=([("spot",.dat (.tup [.int s,.int 0])),("column",.dat (.int c)),("number",.dat (.int x))]:List (Str×Bd))++yA ns ss hs
theorem b8.ac1{i:Int}(e:i=(j:Int))(hl:l.length<=100000)(hd:l[j]?=aa d)(V:k d):b8 n (.lst l) (.int i) k:=e▸b8.oz hl hd V
theorem Mr(m:Nat):decide (0<(m:Int)+1)=ae:=eP (vJ (dA m))
theorem LB(i:Int)(m:Nat):0<=i%((m:Int)+1)/\i%((m:Int)+1)<(m:Int)+1:=⟨pd _ (pj (vJ (dA _))),o9 _ (vJ (dA _))⟩
theorem W9(x:Int):(x/93312%11-5).natAbs<=5/\∃j:Nat,j<16/\x/5832%16-4=-4+(j:Int):=
 have V:=pd (x/5832) (by decide:(16:Int)≠0)
 ⟨kQ (qA (pd _ (by decide)) 5) (qA (nu (b:=10) (o9 _ (by simp:(0:Int)<11))) 5) (by decide),(x/5832%16).toNat,(Gj V).mpr (o9 _ (by simp)),(gY _ _).trans (aQ _ (mC V).symm)⟩
theorem TU(h:j<16):d6[j]?=aa (-4+(j:Int)):=by unfold d6;rw[ci,zv h];rfl
theorem Ss{u v:Int}{ys:List Int}(Z:0<=u/\u<m+1)(H:0<=v/\v<m+1)(V:ys.Perm [u,v])(G:ys.Pairwise (·≤·)):∃lo hi:Nat,lo<=hi/\hi<=m/\ys=[(lo:Int),(hi:Int)]:=by
 have Y:∀a∈ys,0<=a/\a<m+1:=λa h=>(bT.mp (V.mem_iff.mp h)).elim (λe=>e▸Z) λh=>a_.mp h▸H
 obtain⟨a,b,rfl⟩:=yv V.length_eq
 have W:=Y b (bM a bi)
 exact⟨a.toNat,b.toNat,Int.toNat_le_toNat ((fU.mp G).1 b bi),nJ.mpr (nu W.2),by rw[mC (Y a bi).1,mC W.1]⟩
theorem J0{a7:List Str}{f:Str->Int}{p:Int->Bool}{K:Str->Int}{X:Int}(h:∀y∈a7,p (f y)=decide (K y<X)):(((a7.map f).filter p).map D.int).length=cnt K X a7:=by
 simp only[aR,qR,aR]
 exact aQ _ (mE h)
theorem TV(lo hi d:Nat):min (max (lo:Int) d) hi=(clamp lo hi d:Nat):=by
 rw[(λa b=>(Gy a b).elim (λh=>(qM (fW.mpr h)).trans (aQ _ (Nat.max_eq_right h).symm)) λh=>(Fz (fW.mpr h)).trans (aQ _ (PS h).symm):∀a b:Nat,max (a:Int) b=(max a b:Nat))]
 exact(Gy (max lo d) hi).elim (λh=>(wf (fW.mpr h)).trans (aQ _ (iL h).symm)) λh=>(zK (fW.mpr h)).trans (aQ _ (Fg h).symm)
set_option maxHeartbeats 2000000 in
theorem Su{ns:List Int}(hns:ns.length<=10)(C:(ss.map (·.1)).Nodup)(jr:ss.length<=6)(hb:∀p∈ss,p.2.x0.natAbs<=1000/\p.2.x1.natAbs<=1000/\p.2.h0.natAbs<=1000/\p.2.h1.natAbs<=1000)
 (hr:∀x c,0<=(hs x c).2/\(hs x c).2<60)(oW:∀c∈d6,∀y∈eU ss c,∀s:Int,s.natAbs<=5->(0<er (iU c s) (bu ss y) c<->K1 hs c y<60*s)/\(0<=er (iU c s) (bu ss y) c<->K1 hs c y<60*s+1))
 (hk:k (.bool ae)):bJ 200 291 [.lst (ns.map D.int),jf ss,h_ ss hs,.lst (d6.map λc=>cz (gT ss hs c))] k:=by
 refine bJ.xL (n:=198) (aH:=["numbers","sticks","heights","rows"]) aab (λ_ _ _ _ _ _ vs hl=>Ui (λ_ _ _ _=>by rfl) vs hl) (by ac_rfl) (by rfl) (by rfl) (by ac_rfl) (.cons (aO.sub (ρ:=yA ns ss hs) (aO.for (λ_ _=>rfl) (bK.list (aj.name rfl rfl ⟨_,rfl,by rw[aR];exact bd (aV hns (by decide)),λi aC=>aC=yA ns ss hs,rfl,?_,?_,?_⟩))) (cA.sub ⟨rfl,rfl,rfl,rfl,trivial⟩)))
 ·rintro i _ rfl;rfl
 ·rintro i d _ hd rfl
  obtain⟨x,hx,rfl⟩:∃x,ns[i]?=aa x/\d=.int x:=by
   rw[ci] at hd
   cases q:ns[i]? with
   |none=>rw[q] at hd;cases hd
   |some c=>rw[q] at hd;exact⟨c,rfl,(aW hd).symm⟩
  refine c0.name rfl (.cons (aO.rr (aH:=["column","spot"]) (.cons (.cons .nil)) rfl rfl rfl (by decide) (λ_=>rfl) (λab _ jT=>xk jT rfl) (n8 (dD 40) (λ_ h=>h) ?_)))
  refine(W9 x).elim λB m_=>m_.elim λj q2_=>q2_.elim λhj ej=>?_
  have DX:=TU hj
  refine aL.sub (ρ:=ac0 ns ss hs x (x/5832%16-4) (x/93312%11-5)) ?_ (cA.sub ⟨rfl,rfl,rfl,rfl,rfl,rfl,rfl,trivial⟩)
  refine ej▸?_
  have Nv:-4+(j:Int)+4=(j:Int):=(aQ (·+4) (gY _ _)).trans (Int.neg_add_cancel_right _ 4)
  generalize x/93312%11-5=s at B
  generalize-4+(j:Int)=c at DX Nv
  have Z:=I9 C jr c
  have f:=c5 DX
  have oY:=Hq f
  obtain⟨ju,H⟩:=VE (ss:=ss) (hs:=hs) (c:=c)
  refine .cons (aO.rr (aH:=["row","flat"]) (.cons (.cons .nil)) rfl rfl rfl (by decide) (λ_=>rfl) (λab _ jT=>xk jT rfl) (n8 (dD 40) (λ_ h=>h) ?_))
  have W:(gT ss hs c).length<=6:=by rw[H.length_eq];exact Z.len
  have V:∀y∈gT ss hs c,y∈eU ss c:=λy Y=>H.mem_iff.mp Y
  refine b8.ac1 (d:=cz (gT ss hs c)) Nv (by rw[aR,AO];decide) (by rw[ci,DX];rfl) ?_
  generalize gT ss hs c=a7 at ju W V
  have st:=λy Y=>hb _ (B1 C (Z.nm y (V y Y)))
  have hc1:=RL f
  have sS:s.natAbs<=1000:=aD B (by decide)
  have ov:∀y∈a7,bJ 198 269 [.tup [.int c,.int (c+1),.int s,.int s],jO (bu ss y),.int c] λd=>d=.int (er (iU c s) (bu ss y) c):=λy Y=>bJ.le (n:=198) (m:=5) (xt oY hc1 sS sS (st y Y).1 (st y Y).2.1 (st y Y).2.2.1 (st y Y).2.2.2 oY rfl) (by decide)
  have y9:(a7.map D.str).length=a7.length:=aR ..
  have Nw:(a7.map D.str).length<2^63:=by rw[y9];exact aV W (by decide)
  refine .cons (aO.HG (λab=>rfl) (λab _ _=>JL rfl _ _ _ ab) (bD (bQ Nw (bP.t (Mr _) (bQ Nw (bP.t (Mr _) ?_))))))
  refine bk.V9 (xs:=[x%(((a7.map D.str).length:Int)+1),x/8%(((a7.map D.str).length:Int)+1)]) (show 2<64 by decide) λys hp hw=>?_
  obtain⟨lo,hi,yW,G,rfl⟩:=Ss (LB _ _) (LB _ _) hp hw
  clear hp hw
  rw[y9] at G
  refine fJ.ace rfl (jE (fJ.name rfl (jE (fJ.name rfl (pD (.cons (aO.AF (aH:=["tops","over","by"]) rfl rfl rfl (by decide) (by decide) (λ_=>rfl) (λab e1 e2=>Bu e1 e2 rfl (by decide) (by decide)) (cK.dat (aj.comp rfl (λ_ _=>rfl) (dj.mx Inj.str rfl (bK.list (aj.name rfl rfl ⟨_,rfl,by rw[y9];exact bd (aV W (by decide)),a7,λy=>pairD (hs y c),rfl,λy Y=>bD (pO C (Z.nm y (V y Y)) (pP (Z.col y (V y Y)) rfl)),cK.dat (aj.comp rfl (λ_ _=>rfl) (dj.mx Inj.str rfl (bK.list (aj.name rfl rfl ⟨_,rfl,by rw[y9];exact bd (aV W (by decide)),a7,λy=>.int (er (iU c s) (bu ss y) c),rfl,λy Y=>bD (pN C (Z.nm y (V y Y)) (ov y Y)),?_⟩))))⟩))))))))))))
  refine cK.lambda (t:=(290,288,"_law_points.<locals>.<lambda>")) rfl (by simp[fu]) rfl (λw=>by ac_rfl) rfl (λab=>rfl) ?_
  have M_:(a7.map λy=>D.int (er (iU c s) (bu ss y) c)).length<=10000:=by rw[aR];exact bd (aV W (by decide))
  refine .cons (aO.assign rfl (λ_=>rfl) (bD (aj.comp rfl (λ_ _=>rfl) (dj.fx Inj.int rfl (bK.list (aj.name rfl rfl ⟨_,rfl,M_,a7.map λy=>er (iU c s) (bu ss y) c,λz=>decide (0<z),D.int,cJ.symm,λz _=>b_ ⟨rfl,λ_=>bD rfl⟩,?_⟩))))))
  have iJ:∀y∈a7,ki a7 (λy=>pairD (hs y c)) (.str y)=aa (pairD (hs y c)):=λy Y=>rM Y
  have Ny:(((a7.map λy=>er (iU c s) (bu ss y) c).filter λz=>decide (0<z)).map D.int).length=cnt (K1 hs c) (60*s) a7:=J0 λy Y=>decide_eq_decide.mpr (oW c f y (V y Y) s B).1
  have oV:(((a7.map λy=>er (iU c s) (bu ss y) c).filter λz=>decide (0<=z)).map D.int).length=cnt (K1 hs c) (60*s+1) a7:=J0 λy Y=>decide_eq_decide.mpr (oW c f y (V y Y) s B).2
  have Ms:∀X,cnt (K1 hs c) X a7<2^63:=λX=>aV (aD Cs W) (by decide)
  refine bQ (by rw[Ny];exact Ms _) ?_
  simp only[Ny]
  refine aj.comp rfl (λ_ _=>rfl) (dj.fx Inj.int rfl (bK.list (aj.name rfl rfl ⟨_,rfl,M_,a7.map λy=>er (iU c s) (bu ss y) c,λz=>decide (0<=z),D.int,cJ.symm,λz _=>b_ ⟨rfl,λ_=>bD rfl⟩,bQ (by rw[oV];exact Ms _) ?_⟩)))
  rw[oV]
  refine cw 1 ((bL2 hr ju W ?_).le (by decide))
  refine aj.se (v7 rfl) rfl (g8.f (g8.BP (p:="one") (bE:=([("heights",.dat (h_ ss hs)),("column",.dat (.int c))]:List (Str×Bd))) (φ:=ki a7 λy=>pairD (hs y c)) rfl rfl ⟨rfl,rfl,rfl,rfl,trivial⟩ rfl (λ_ _ _ _ _ _ _ vs hl=>lY (λ_=>by rfl) vs hl) rfl rfl (r7 C ⟨W,λy Y=>Z.nm y (V y Y),λy Y=>Z.col y (V y Y)⟩ _ λy Y=>bD (pO C (Z.nm y (V y Y)) (pP (Z.col y (V y Y)) rfl))))) (d_ (dD 40) (((acZ hr ju W iJ ?_).le (by decide)).oR))
  refine(bL4 hr ju W yW G ?_).le (by decide)
  refine(bR4 hr ju W yW G ?_).le (by decide)
  refine aj.se (Fy rfl) rfl (g8.f (g8.BP (p:="one") (bE:=([("heights",.dat (h_ ss hs)),("column",.dat (.int c))]:List (Str×Bd))) (φ:=ki a7 λy=>pairD (hs y c)) rfl rfl ⟨rfl,rfl,rfl,rfl,trivial⟩ rfl (λ_ _ _ _ _ _ _ vs hl=>lY (λ_=>by rfl) vs hl) rfl rfl (r7 C ⟨W,λy Y=>Z.nm y (V y Y),λy Y=>Z.col y (V y Y)⟩ _ λy Y=>bD (pO C (Z.nm y (V y Y)) (pP (Z.col y (V y Y)) rfl))))) (d_ (dD 40) (((bLk hr ju W iJ yW G ?_).le (by decide)).oR))
  refine aj.se (v7 rfl) rfl (g8.f (g8.BP (p:="one") (bE:=([("heights",.dat (h_ ss hs)),("column",.dat (.int c))]:List (Str×Bd))) (φ:=ki a7 λy=>pairD (hs y c)) rfl rfl ⟨rfl,rfl,rfl,rfl,trivial⟩ rfl (λ_ _ _ _ _ _ _ vs hl=>lY (λ_=>by rfl) vs hl) rfl rfl (r7 C ⟨W,λy Y=>Z.nm y (V y Y),λy Y=>Z.col y (V y Y)⟩ _ λy Y=>bD (pO C (Z.nm y (V y Y)) (pP (Z.col y (V y Y)) rfl))))) (d_ (dD 40) (((bRk hr ju W iJ yW G ?_).le (by decide)).oR))
  generalize cnt (K1 hs c) (60*s) a7=d1
  generalize cnt (K1 hs c) (60*s+1) a7=d2
  refine aL.skip (b_ (aj.comp rfl (λ_ _=>rfl) (dj.mx (c:=λd:Nat=>D.int d) (λa b h=>by injection h with h;exact lR h) rfl (bK.list (aj.name rfl rfl ⟨_,rfl,show 2<=10000 by simp,[d1,d2],λd=>.int (clamp lo hi d:Nat),rfl,λd _=>bD ?_,bF.mulL (by decide) (by decide) (show 2*2<=2^24 by decide) (bQ (show 2+4<=2^24 by decide) (bq.neT (.lst .int) (by decide) (KE [_,_,_,_,_,_]) (KE [_,_,_,_,_,_]) λcc hcc=>?_))⟩))))) (aL.nil ⟨yA ns ss hs,cA.sub ⟨rfl,rfl,rfl,rfl,trivial⟩,rfl⟩)
  ·exact aQ D.int (TV lo hi d)
  ·induction cc with
   |false=>rfl
   |true=>exact aZ rfl (hcc.mp rfl)
 ·rintro _ rfl
  exact cw 1 hk
end
noncomputable def Mt(ns:List Int)(ss:b0):ay:=([("heights",.dat (h_ ss (gw ss))),("sticks",.dat (jf ss)),("numbers",.dat (.lst (ns.map D.int)))]:List (Str×Bd))
theorem TW{ns:List Int}(L:jl ss)(hl:ns.length=6){k:Fl->ay->Prop}(Y:∀aG,fq ss aG->aL 210 (fs 33) (m7 ns ss aG) (m6.drop 4) k):aL 210 (fs 33) (Mt ns ss) m6 k:=by
 have hr:∀x c,0<=(gw ss x c).2/\(gw ss x c).2<60:=λx c=>by
  exact⟨pd _ (by decide),o9 _ (by simp)⟩
 refine cw 1 ((VD L.hn L.len (λp V=>(L.hss p V).nb) hr L.cnt ?_).le (by decide))
 refine aL.skip (b_ ((Su (bd (aV (bn hl) (by simp))) L.hn L.len (λp V=>(L.hss p V).nb) hr L.fl ?_).le (by decide))) ?_
 ·exact rfl
 rw[Vy]
 refine .cons (aO.assign rfl (λ_=>rfl) (bD (aj.comp rfl (λ_ _=>rfl) (dj.mx Inj.int rfl (bK.list (bD ⟨_,rfl,by rw[aR];exact bd (aV (bn hl) (by decide)),ns,λn=>.int (n/5832),rfl,λn _=>bD rfl,bk.acY (by rw[aR];have:=L.len;exact bd (aV this (by decide))) ?_⟩))))))
 refine bQ (by rw[aR];exact bd (aV (bn hl) (by decide))) ?_
 rw[GY]
 refine bJ.le (m:=100) ?_ (by simp)
 have W:(HF (fG ak 0 (lX (λn=>D.int (n/5832)) ns).length) (SO (fG (aa ((lX (λp=>(p.fst,jO p.snd)) ss).length:Int)) (lX (λn=>D.int (n/5832)) ns).length (lX (λn=>D.int (n/5832)) ns).length) (lX (λn=>D.int (n/5832)) ns)))=((ns.take ss.length).map λn=>n/5832).map D.int:=by
  rw[aR,aR]
  show HF 0 _=_
  rw[tq,show fG (aa (ss.length:Int)) ns.length ns.length=ss.length from rE (aD L.len (bn hl.symm)),cJ,<-Gf];rfl
 rw[W]
 refine L.ord _ _ (by rw[aR,gG];have:=L.len;exact abd (by assumption) (by assumption)) λaG G=>?_
 refine aL.skip (b_ ((L.Z9 aG _ G ?_).le (by simp))) (Y aG G)
 exact rfl
section
open PySem.Builtin PySem.Builtin.Str
theorem J1(g:List Nat):win g 0 g.length=g:=by unfold win;rw[jY,tq]
theorem YC{l:Str}(hl:cl l=[c]):ji l x=ae<->c∈cl x:=by
 unfold ji
 have V:=cD x
 rcases Dd (x:=x) (y:=l) (lo:=0) (hi:=x.length) (ck _) (bn V) with ⟨i,r,e,_,a,_,Y,_⟩|⟨e,h⟩
 ·rw[e]
  refine⟨λ_=>?_,λ_=>rfl⟩
  rw[V,J1,hl] at Y
  rw[Y];simp
 ·rw[e]
  refine⟨nofun,λW=>?_⟩
  obtain⟨a,b,Z⟩:=zC W
  refine aZ ?_ (h [])
  rw[V,J1,hl,Z]
  exact⟨a,b,by simp,trivial⟩
theorem Ij{c:α}{a b s:List α}(h:c∉a):(c::s).Sublist (a++c::b)<->s.Sublist b:=by
 induction a with
 |nil=>exact EC
 |cons x r V=>
  have Y:x≠c:=λe=>h (e▸bi)
  simp only[<-V λq=>h (bM _ q),wb]
  refine⟨λq=>?_,λq=>q.cons x⟩
  cases q with
  |cons _ q=>exact q
  |cons_cons _ q=>exact aZ rfl Y
theorem VF{c:α}{a b s:List α}(h:c∉b):(s++[c]).Sublist (a++c::b)<->s.Sublist a:=by
 rw[<-OH,show (s++[c]).reverse=c::s.reverse by simp,show (a++c::b).reverse=b.reverse++c::a.reverse by simp,Ij λq=>h (iK.mp q),OH]
theorem RM{l:Str}{a:Nat}(B:cl l=[a])(hb:cl y=[b])(ne:a≠b):ji y (d5 x (aa (jH x l)) (aa (j7 x l)) ak)=ae<->[a,b,a].Sublist (cl x):=by
 rw[YC hb,nU]
 rcases Bq (x:=x) B with ⟨Z,Y⟩|⟨G,b1,Z,Y,f1⟩
 ·rcases w' (x:=x) B with ⟨V,C⟩|⟨H,b2,V,_⟩
  ·rw[Z,V]
   refine⟨λh=>?_,λh=>aZ (h.subset bi) Y⟩
   have:win (cl x) (fG (aa (-1)) 0 x.length) (fG (aa (-1)) x.length x.length)=[]:=by
    exact EB (gG▸(we _ _))
   rw[this] at h;exact nomatch h
  ·exact aZ (by rw[V];simp) Y
 ·rcases w' (x:=x) B with ⟨_,C⟩|⟨H,b2,V,C,f2⟩
  ·exact aZ (by rw[Z];simp) C
  ·have l1:=aQ gk Z
   have l2:=aQ gk V
   simp only[bR,gF] at l1 l2
   simp only[f1,f2,show fG (aa (G.length:Int)) 0 x.length=G.length from rE (aD (aD (cy _ _) (bn l1.symm)) (bn (cD x).symm)),show fG (aa (H.length:Int)) x.length x.length=H.length from rE (aD (aD (cy _ _) (bn l2.symm)) (bn (cD x).symm))]
   have ew:win (cl x) G.length H.length=H.drop G.length:=by unfold win;rw[V,qU]
   rw[ew,V,show [a,b,a]=[a,b]++[a] from rfl,VF C]
   rw[V] at Z
   rcases Et.mp Z with ⟨m,W,f⟩|⟨m,W,f⟩
   ·cases m with
    |nil=>
     rw[cR] at W
     subst W
     rw[zQ]
     exact⟨nofun,λh=>aZ (h.subset bi) Y⟩
    |cons c m=>
     obtain⟨rfl,_⟩:=j4 f
     exact aZ (by rw[W];simp) Y
   ·cases m with
    |nil=>
     rw[cR] at W
     subst W
     rw[zQ]
     exact⟨nofun,λh=>aZ (h.subset bi) Y⟩
    |cons c m=>
     obtain⟨rfl,_⟩:=j4 f
     rw[W,mK,Ij Y,List.singleton_sublist,bT]
     exact⟨λh=>h.resolve_left ne.symm,.inr⟩
end
theorem turns{Y:Str}(W:chars Y=xs)(Z:∀y∈xs,y.length<=1/\46∉cl y)(hl:xs.length<=10)(H:x.length<=100)(G:40<=n)(C:∀b:Bool,(b=ae<->xs.Sublist (chars x))->k (.bool b)):bJ n 308 [.str Y,.str x] k:=by
 refine(tY (xs:=xs) (.inr ⟨Y,rfl,?_,W.symm⟩) ⟨bd (aV hl (by simp)),λy V=>⟨aD (Z y V).1 (eA _),(Z y V).2⟩⟩ (bd (aV H (by simp))) λb B=>C b ?_).le G
 ·rw[<-iN,W];exact bd (aV hl (by simp))
 ·exact B.trans (By λy V=>by exact rG (W▸V))
set_option tactic.hygienic true in
theorem TX{ns:List Int}{a b:Str}(O:ln aG)(G:fq ss aG)(ha:fe a=ae)(hb:fe b=ae)(ne:a≠b)(ds:¬[a,b,a,b].Sublist ((dn ss).map seenOf)){k:Fl->ay->Prop}(hk:∀ρ,Sub (kk ns ss aG) ρ->k .next ρ):
 aL 210 (fs 33) ((("other",.dat (.str b))::("one",.dat (.str a))::kk ns ss aG:List (Str×Bd))) Z_ k:=by
 obtain⟨V,rfl,_⟩:=pH ha
 obtain⟨Y,rfl,_⟩:=pH hb
 have sl:=I6 O G
 have na:=pA ha
 have nb:=pA hb
 obtain⟨W,Z⟩:∃W,W=ji (mk1 Y) (d5 (mV ss) (aa (jH (mV ss) (mk1 V))) (aa (j7 (mV ss) (mk1 V))) ak):=⟨_,rfl⟩
 have bt:=RM (x:=mV ss) (l:=mk1 V) (y:=mk1 Y) rfl rfl λe=>ne (aQ mk1 e)
 rw[<-Z] at bt
 rw[<-AN O G] at ds
 have H:∀c,(mk1 c).length=1:=λ_=>rfl
 have l2:∀c d,(mk1 c++mk1 d).length=2:=λ_ _=>rfl
 have l3:∀c d e,(mk1 c++mk1 d++mk1 e).length=3:=λ_ _ _=>rfl
 have C:∀y∈[mk1 V,mk1 Y,mk1 V],y.length<=1/\46∉cl y:=λy B=>by
  simp only[bT,ca,or_false] at B
  rcases B with rfl|rfl|rfl
  ·exact na
  ·exact nb
  ·exact na
 have f:∀y∈[mk1 V,mk1 Y,mk1 V,mk1 Y],y.length<=1/\46∉cl y:=λy B=>by
  simp only[bT,ca,or_false] at B
  rcases B with rfl|rfl|rfl|rfl
  ·exact na
  ·exact nb
  ·exact na
  ·exact nb
 refine .cons (aO.assign (by rfl) (λ_=>rfl) (aj.mono (k:=λd=>d=.bool W) (bD (bQ (bd (aV (bn sl) (by simp))) (by rw[Z];rfl))) λd e=>?_))
 subst e
 clear Z
 refine cw 4 (bQ (by rw[H,H];decide) (bQ (by rw[H,l2];decide) (turns (xs:=[mk1 V,mk1 Y,mk1 V]) rfl C (show 3<=10 by simp) (bd (aV (bn sl) (by decide))) (by decide) λc hc=>?_)))
 have ec:W=c:=by
  rw[hO,hc,bt]
  exact(CR (a:=[V,Y,V])).symm
 subst ec
 refine bq.pR (cM.mk (λh=>aZ h (by simp)) λ_=>cM.mk (λ_=>?_) λ_=>?_)
 ·refine bQ (by rw[H,H];decide) (bQ (by rw[H,l2];decide) (bQ (by rw[H,l3];decide) (turns (xs:=[mk1 V,mk1 Y,mk1 V,mk1 Y]) rfl f (show 4<=10 by simp) (bd (aV (bn sl) (by decide))) (by decide) λc hc=>?_)))
  induction c with
  |true=>exact aZ (hc.mp rfl) ds
  |false=>exact bq.pR (hk _ (cA.sub ⟨rfl,rfl,rfl,rfl,rfl,rfl,trivial⟩))
 ·exact hk _ (cA.sub ⟨rfl,rfl,rfl,rfl,rfl,rfl,trivial⟩)
section
open PySem.Builtin PySem.Builtin.Str
theorem idx_eq[BEq α][LawfulBEq α](a:α)(r:List α):(a::r).idxOf a=0:=by
 rw[P5,beq_self_eq_true];rfl
theorem KI[BEq α][LawfulBEq α]{a x:α}(r:List α)(h:x≠a):(x::r).idxOf a=r.idxOf a+1:=by
 rw[P5,beq_eq_false_iff_ne.mpr h];rfl
theorem W'[BEq α][LawfulBEq α]{a:α}{r:List α}:∀{l:List α},a∉l->(l++a::r).idxOf a=l.length:=by
 intro Y
 induction Y with
 |nil=>
  intro _
  exact idx_eq a r
 |cons x l V=>
  intro h
  simp only[wb,KI _ λe:x=a=>h (e▸bi),V λq=>h (bM _ q)];rfl
theorem VG{l:Str}(h:l∈chars x)(C:k (.int ((chars x).idxOf l:Nat))):bk n (.builtin "str.index") [.str x,.str l] k:=by
 refine(rG h).elim λc V=>?_;subst V
 have B:c∈cl x:=by
  obtain⟨d,hd,e⟩:=bL.mp h
  exact(uk e)▸hd
 refine(Bq (x:=x) (l:=mk1 c) (c:=c) rfl).elim (λY=>Y.elim λ_ q=>?_) λW=>W.elim λa Z=>Z.elim λb H=>H.elim λe G=>G.elim λn1 f=>?_
 ·exact aZ B q
 ·have ei:(chars x).idxOf (mk1 c)=a.length:=by
   rw[lZ,e,dJ,d7,W',aR]
   intro q
   obtain⟨d,hd,e⟩:=bL.mp q
   exact n1 (uk e▸hd)
  rw[ei] at C
  unfold jH at f
  induction q:kr x (mk1 c) 0 x.length 1 with
  |nil=>exact nomatch (q▸f)
  |cons i r=>
   rw[q] at f
   have f:(i:Int)=a.length:=f
   exact bk.index q (f▸C)
noncomputable def kK:List Bool->Nat
 |[]=>0
 |b::r=>b.toNat+2*kK r
theorem Ik:∀l,kK l<2^l.length
 |[]=>tG
 |b::r=>by
  have:=Ik r
  have V:b.toNat<=1:=by induction b<;>decide
  show b.toNat+2*kK r<2^(r.length+1)
  exact XK (by assumption) (by assumption)
theorem Il:∀(l:List Bool) (i:Nat),kK l/2^i%2=(l.getD i aI).toNat
 |[],i=>by show 0/2^i%2=0;rw[Q1]
 |b::r,0=>by
  have V:b.toNat<=1:=by induction b<;>decide
  exact Xy (by assumption)
 |b::r,i+1=>by
  have V:b.toNat<=1:=by induction b<;>decide
  have:(b.toNat+2*kK r)/2=kK r:=by exact Xz (by assumption)
  show (b.toNat+2*kK r)/2^(i+1)%2=(r.getD i aI).toNat
  simp only[Q2,kF (2^i) 2,<-Oa,this,Il r i]
theorem J3(f:α->Nat):∀l:List α,(l.map λx=>2*f x).sum=2*(l.map f).sum
 |[]=>rfl
 |a::r=>by simp only[d7,d7,pf,pf,J3 f r,q9]
theorem Hr[BEq α][LawfulBEq α](p:α->Bool):∀{U:List α},U.Nodup->((U.filter p).map λl=>2^U.idxOf l).sum=kK (U.map p):=by
 intro Y
 induction Y with
 |nil=>
  intro _
  exact rfl
 |cons u r V=>
  intro h
  have h:=gH.mp h
  have e:(r.filter p).map (λl=>2^(u::r).idxOf l)=(r.filter p).map λl=>2*2^r.idxOf l:=lK λl hl=>by
   simp only[KI _ λe:u=l=>h.1 (e▸((ef.mp hl).1)),Q2,kF]
  show _=(p u).toNat+2*kK (r.map p)
  rw[<-V h.2,<-J3,<-e,jy]
  cases p u
  ·exact(fA _).symm
  ·show (2^(u::r).idxOf u::(r.filter p).map λl=>2^(u::r).idxOf l).sum=_
   rw[pf,idx_eq];rfl
theorem Bz:∀l:List Nat,(l.map λd:Nat=>(d:Int)).sum=(l.sum:Nat)
 |[]=>rfl
 |a::r=>by simp only[d7,pf,Bz r,pf];rfl
theorem Sw(n:Nat):∀(l:List Nat) (i:Nat),((l.zipIdx i).map λp=>p.1*2^(n*p.2)).sum=2^(n*i)*d9 n l:=by
 intro Y
 induction Y with
 |nil=>
  intro i
  exact rfl
 |cons d r V=>
  intro i
  simp only[Fv,d7,pf,V (i+1)]
  show d*2^(n*i)+_=2^(n*i)*(d+2^n*d9 n r)
  simp only[qY,Ax,q9,kF d,Gd]
theorem Im(n:Nat):∀m,dX n m 0=gJ m 0
 |0=>rfl
 |m+1=>by
  show 0%2^n::dX n m (0/2^n)=_
  simp only[Nat.zero_mod,Q1,Im n m];rfl
theorem TY(n:Nat)(m x:Nat):dX n (m+1) x=dX n m x++[x/2^(n*m)%2^n]:=by
 simp only[Bv n m 1];rfl
theorem TZ{x:Nat}(W:0<n)(V:m=(fy (x:Int)+n-1)/n):x<2^(n*m)/\(m≠0->2^(n*(m-1))<=x):=by
 have Y:∀k,fy (x:Int)<=k<->x<2^k:=λk=>EJ (x:=(x:Int))
 generalize fy (x:Int)=b at*
 have Z:n*m<=b+n-1:=V▸(Nat.mul_div_le _ _)
 have G:b+n-1<n*m+n:=V▸(OO _ W)
 refine⟨(Y _).mp (by exact LD (by assumption) (by assumption)),λh=>de.mp λq=>?_⟩
 have H:=(Y _).mpr q
 obtain⟨j,rfl⟩:=Nat.exists_eq_succ_of_ne_zero h
 simp only[Nat.succ_sub_one] at H
 simp only[qY] at Z
 exact YZ (by assumption) (by assumption) (by assumption)
theorem T0{x:Nat}{l:List Nat}(H:0<n)(G:m=(fy (x:Int)+n-1)/n)(hl:∀d∈l,d<2^n)(V:x=d9 n l):m<=l.length/\dX n m x++gJ (l.length-m) 0=l/\(dX n m x).getLast?≠aa 0:=by
 refine(TZ H G).elim λW Z=>?_
 have Y:m<=l.length:=de.mp λq=>by
  exact gK _ (aV (bn V) (cg (cg (aV (bn V.symm) (V▸H9 n l hl:x<2^(n*l.length))) (zn (by decide) (nw _ (by exact LI (by assumption))):2^(n*l.length)<=2^(n*(m-1)))) (Z (jB (aV (ck _) q)))))
 refine⟨Y,?_,?_⟩
 ·have e:=Bv n m (l.length-m) x
  rw[show m+(l.length-m)=l.length by exact LH (by assumption),v9 W,Im,V,RC n l hl,<-V] at e
  exact e.symm
 ·induction m with
  |zero=>nofun
  |succ m=>
   rw[TY,qC]
   have h3:x/2^(n*m)<2^n:=by
    refine vM ?_
    rw[<-Ax,<-qY];exact W
   refine(v8 h3).symm▸?_
   intro q
   have:x/2^(n*m)=0:=aW q
   exact gK _ (cg (Rn (Z (v_ _)) (wo _):0<x/2^(n*m)) (bn this))
end
theorem W_{V:List Str}{p:Str×Str}:p∈V.flatMap (lB V)->p.1∈V/\p.2∈V/\p.1≠p.2:=λh=>by
 obtain⟨a,W,h⟩:=zM.mp h
 obtain⟨b,Y,rfl⟩:=bL.mp h
 have Y:=ef.mp Y
 exact⟨W,Y.1,bne_iff_ne.mp Y.2⟩
theorem T1{ns:List Int}(L:jl ss)(G:fq ss aG)(ds:∀a b,fe a=ae->fe b=ae->a≠b->¬[a,b,a,b].Sublist ((dn ss).map seenOf)){k:Fl->ay->Prop}(W:k .next (kk ns ss aG)):aO 210 (fs 33) (kk ns ss aG) (oM 7) k:=by
 have O:=G.ok L
 refine aO.for (λ_ _=>rfl) (Sr O ⟨λi aC=>aC=kk ns ss aG,rfl,?_,?_,?_⟩)
 ·rintro i _ rfl;rfl
 ·rintro i d _ hd rfl
  rw[ci] at hd
  induction q:((chars aG).flatMap (lB (chars aG)))[i]? with
  |none=>rw[q] at hd;exact nomatch hd
  |some p=>
   rw[q] at hd;obtain rfl:=aW hd
   obtain⟨V,Y,h3⟩:=W_ (c5 q)
   refine c0.tup rfl rfl (jE (fJ.name rfl (jE (fJ.name rfl (pD ?_)))))
   exact TX O G (O.cap _ V) (O.cap _ Y) h3 (ds _ _ (O.cap _ V) (O.cap _ Y) h3) λρ hs=>⟨_,hs,rfl⟩
 ·rintro _ rfl;exact W
noncomputable def uz(aG:Str)(a7:List Str):Nat:=(a7.map λl=>2^(chars aG).idxOf l).sum
noncomputable def mT(ss:b0)(aG:Str):List Nat:=(dn ss).map (uz aG)
noncomputable def ou(l:List Nat):D:=.lst (l.map λd:Nat=>D.int d)
theorem Sx{ns:List Int}(L:jl ss)(G:fq ss aG){k:Fl->ay->Prop}(V:k .next (("places",.dat (ou (mT ss aG)))::kk ns ss aG:List (Str×Bd))):aO 210 (fs 33) (kk ns ss aG) (oM 8) k:=by
 have O:=G.ok L
 refine aO.wR rfl (λ_ _=>rfl) rfl rfl (dj.mx xa rfl (bK.list (bD ⟨_,rfl,?_,dn ss,λa7=>.int (uz aG a7:Nat),rfl,λa7 hr=>?_,?_⟩)))
 ·rw[aR,nR];decide
 ·obtain⟨Z,W⟩:=uc O G hr
  refine bD (aj.comp rfl (λ_ _=>rfl) (dj.mx Inj.str rfl (bK.list (bD ⟨_,rfl,?_,a7,λl=>.int (2^(chars aG).idxOf l:Nat),rfl,λl hl=>?_,?_⟩))))
  ·rw[aR];exact bd (aV W (by simp))
  ·have Y:=(G.row hr).subset hl
   have hi:(chars aG).idxOf l<10:=by have:=List.idxOf_lt_length_of_mem Y;rw[iN] at this;exact eK (cg this O.len) (by simp)
   refine bD (VG Y (bF.shl (dA _) (by omega) (by simp) ?_))
   simp only[GH,lQ];exact aQ D.int (Int.natCast_pow 2 _).symm
  ·refine bk.vm (aQ (λl=>[D.lst l]) (show a7.map (λl=>D.int (2^(chars aG).idxOf l:Nat))=((a7.map λl=>2^(chars aG).idxOf l).map λd:Nat=>(d:Int)).map D.int by simp only[cJ,cJ];rfl)) (bk.C7 ?_)
   rw[Bz];rfl
 ·unfold mT ou at V
  exact(cJ▸V)
theorem place_lt(L:jl ss)(G:fq ss aG):∀d∈mT ss aG,d<2^6:=λd hd=>by
 obtain⟨a7,hr,rfl⟩:=bL.mp hd
 obtain⟨c,V,rfl⟩:=bL.mp hr
 unfold uz
 rw[G.rows c V,Hr _ (G.ok L).nd]
 refine cg (Ik _) (zn (by decide) ?_)
 rw[aR,iN];exact(G.ok L).len
noncomputable def uY(ss:b0)(aG:Str):Nat:=d9 6 (mT ss aG)
theorem wH(ss:b0)(aG:Str):(mT ss aG).length=16:=by unfold mT;rw[aR,nR]
noncomputable def uZ(ss:b0)(aG:Str):Nat:=(fy (uY ss aG:Int)+6-1)/6
noncomputable def yB(ss:b0)(aG:Str):List Nat:=dX 6 (uZ ss aG) (uY ss aG)
theorem Io(L:jl ss)(G:fq ss aG):uZ ss aG<=16/\yB ss aG++gJ (16-uZ ss aG) 0=mT ss aG/\(yB ss aG).getLast?≠aa 0:=by
 have:=T0 (n:=6) (x:=uY ss aG) (m:=uZ ss aG) (by decide) rfl (place_lt L G) rfl
 rw[wH] at this
 exact this
noncomputable def ac2(ns:List Int)(ss:b0)(aG:Str):ay:=([("figures",.dat (ou (yB ss aG))),("picture",.dat (.int (uY ss aG:Nat))),("places",.dat (ou (mT ss aG)))]:List (Str×Bd))++kk ns ss aG
theorem RN{ns:List Int}(L:jl ss)(G:fq ss aG){k:Fl->ay->Prop}(V:aL 210 (fs 33) (ac2 ns ss aG) (m6.drop 11) k):aL 210 (fs 33) (("places",.dat (ou (mT ss aG)))::kk ns ss aG:List (Str×Bd)) (m6.drop 9) k:=by
 refine cw 1 ((JM (by decide) (bv _) (bd (aV (bn (wH ss aG)) (by simp))) (place_lt L G) ?_).le (by decide))
 refine cw 1 ((JN (x:=uY ss aG) (by decide) (bv _) ?_ V).le (by decide))
 ·exact aD (Io L G).1 (by simp)
theorem lenZ(s:Nat):(6*(s:Int)).toNat=6*s:=by exact B6 _
theorem Sy{V:List Nat}(Z:V.length<=16)(h:D.lst (kI (V.map λd:Nat=>D.int d) (aa (-1)) ak ak)=.lst [.int 0]):V.getLast?=aa 0:=by
 injection h with h
 rw[GY,aR,show fG ak V.length V.length=V.length from rfl,k9 (by rw[aR];exact bv _),<-List.map_drop] at h
 obtain⟨x,r,e,Y,W⟩:=vP.mp h
 obtain rfl:=zw.mp W
 injection Y with Y
 rw[<-kA (fG (aa (-1)) 0 V.length) V,e,qC]
 exact aQ aa (lR Y)
theorem YD(l:List Nat):iA (.lst .int) (ou l):=⟨_,rfl,λd hd=>by obtain⟨x,_,rfl⟩:=bL.mp hd;exact⟨x,rfl⟩⟩
noncomputable def Du(ns:List Int)(ss:b0)(aG:Str)(V:List Nat)(Y:Nat)(W:List Nat):ay:=([("figures",.dat (ou W)),("picture",.dat (.int Y)),("places",.dat (ou V))]:List (Str×Bd))++kk ns ss aG
theorem Xa{ns:List Int}{V Y:List Nat}{W:Nat}(fl:V.length=16)(Z:∀d∈V,d<2^6)(C:W=d9 6 V)(H:Y.length<=16)(B:Y.getLast?≠aa 0){k:Fl->ay->Prop}(f:aL 210 (fs 33) (Du ns ss aG V W Y) (m6.drop 12) k):aL 210 (fs 33) (Du ns ss aG V W Y) (m6.drop 11) k:=by
 refine aL.skip (b_ (aj.comp rfl (λ_ _=>rfl) (dj.mt (α:=Nat×Nat) (c1:=λa=>.int (a.2:Nat)) (c2:=λa=>.int (a.1:Nat)) (xv Inj.nat) rfl (bK.call (qX rfl) rfl (d_ (dD 40) (fN.CC ?_ ⟨V.zipIdx,λa=>.int (a.1*2^(6*a.2):Nat),?_,λa ha=>?_,?_⟩)))))) f
 ·rw[aR];exact bd (aV (bn fl) (by decide))
 ·exact w_ _ _
 ·have G:=vu.mp ha
  have h1:=Z a.1 (c5 G)
  have h2:=(ey.mp G).1
  refine bD (bQ (mulL (by decide)) (bF.shl (by exact dA _) (by omega) (by exact cg (by assumption) (by decide)) ?_))
  rw[lenZ]
  refine aQ D.int ?_
  rfl
 ·refine bk.vm (aQ (λl=>[D.lst l]) (show V.zipIdx.map (λa=>D.int (a.1*2^(6*a.2):Nat))=((V.zipIdx.map λa=>a.1*2^(6*a.2)).map λd:Nat=>(d:Int)).map D.int by rw[cJ,cJ];rfl)) (bk.C7 ?_)
  rw[Bz,Sw 6 V 0,QX,QY,po,<-C]
  refine cM.mk (λh=>aZ (bne_iff_ne.mp h) λq=>q rfl) λ_=>bQ (by rw[aR];exact bd (aV H (by decide))) ?_
  refine bq.eqT (.lst .int) (by decide) ⟨_,rfl,λd hd=>?_⟩ (YD [0]) λc hc=>?_
  ·obtain⟨x,_,rfl⟩:=bL.mp (Hl hd)
   exact⟨x,rfl⟩
  ·induction c with
   |false=>rfl
   |true=>exact aZ (Sy H (hc.mp rfl)) B
theorem YE{p:Str->Bool}{a:Str×Nat}(V:a∈U.zipIdx):kK (U.map p)/2^a.2%2=(p a.1).toNat:=by
 simp only[Il,k5,ci,vu.mp V];rfl
theorem RO(p:Str->Bool)(U:List Str):((U.zipIdx.filter λa=>(((kK (U.map p)/2^a.2%2:Nat):Int) != 0)).map λa=>D.str a.1)=(U.filter p).map D.str:=by
 have e:(U.zipIdx.filter λa=>(((kK (U.map p)/2^a.2%2:Nat):Int) != 0))=U.zipIdx.filter (p∘(·.1)):=mE λa V=>by
  rw[YE V]
  show _=p a.1
  cases p a.1<;>rfl
 rw[e,show (λa:Str×Nat=>D.str a.1)=D.str∘(·.1) from rfl,<-cJ,<-qR,List.zipIdx_map_fst]
noncomputable def yC(aG:Str)(d:Nat):D:=.lst (((chars aG).zipIdx.filter λa=>(((d/2^a.2%2:Nat):Int) != 0)).map λa=>D.str a.1)
theorem Xb(O:ln aG)(G:fq ss aG){a7:List Str}(hr:a7∈dn ss):yC aG (uz aG a7)=cz a7:=by
 obtain⟨c,V,rfl⟩:=bL.mp hr
 delta yC uz cz
 rw[G.rows c V,Hr _ O.nd,RO]
theorem Xc{ns:List Int}{Y V:List Nat}{C:Nat}(O:ln aG)(fl:Y.length=16)(B:V.length<=16)(Z:V++gJ (16-V.length) 0=Y)(W:Y.map (yC aG)=(dn ss).map cz){k:Fl->ay->Prop}(f:∀ρ,k (.ret (.bool ae)) ρ):aL 210 (fs 33) (Du ns ss aG Y C V) (m6.drop 12) k:=by
 have H:(16-((V.map λd:Nat=>D.int d).length:Int)).toNat=16-V.length:=by rw[aR];exact abb
 have e:(V.map λd:Nat=>D.int d)++(gJ (16-((V.map λd:Nat=>D.int d).length:Int)).toNat [D.int 0]).flatten=Y.map λd:Nat=>D.int d:=by
  simp only[H,NA,<-Z,dJ,List.map_replicate];rfl
 have G:=aQ gk e
 rw[bR,aR (as:=Y)] at G
 refine cw 1 (aj.comp rfl (λ_ _=>rfl) (dj.mx Inj.nat rfl (bK.list (bD (bQ (by rw[aR];exact aV B (by simp)) (bF.mulL (by rw[aR];omega) (by rw[aR];omega) ?_ (bQ ?_ ?_)))))))
 ·rw[H];show 1*_<=_;exact b_g (by assumption)
 ·have:sizeLine=2^24:=rfl
  exact bd (aV (aD (bn G) (bn fl)) (by decide))
 ·rw[e]
  refine⟨_,rfl,by rw[aR];exact bd (aV (bn fl) (by decide)),Y,yC aG,rfl,λd hd=>?_,?_⟩
  ·refine aj.comp rfl (λ_ _=>rfl) (dj.ft (α:=Str×Nat) (c1:=λa=>.int (a.2:Nat)) (c2:=λa=>.str a.1) (xv Inj.str) rfl (bK.call (qX rfl) rfl (d_ (dD 40) (fN.KY (bd (aV O.len (by simp))) ⟨(chars aG).zipIdx,λa=>(((d/2^a.2%2:Nat):Int) != 0),λa=>.str a.1,?_,λa ha=>?_,rfl⟩))))
   ·exact(show aG.cps.toList.map (λc=>D.str ⟨#[c]⟩)=(chars aG).map D.str by unfold chars;rw[cJ];rfl)▸(w_ _ _)
   ·refine bH.val (bD (bF.LY (bF.band ?_))) λ_ _=>rfl
    rw[bitAnd_pp (dA _) (by simp),lQ,show (1:Int).toNat=1 from rfl,Nat.and_one_is_mod]
    exact Cc ⟨rfl,λ_=>bD rfl⟩
  ·rw[W]
   refine bq.eqT (.lst (.lst .str)) (by decide) ⟨_,rfl,λd hd=>?_⟩ ⟨_,rfl,λd hd=>?_⟩ λc hc=>?_
   ·obtain⟨x,_,rfl⟩:=bL.mp hd;exact kc x
   ·obtain⟨x,_,rfl⟩:=bL.mp hd;exact kc x
   ·obtain rfl:=hc.mpr rfl
    exact f _
noncomputable def kn(s:c_)(c:Int):Int:=s.h0*(s.x1-s.x0)+(s.h1-s.h0)*(c-s.x0)
structure Wid(s:c_)(w k:Int):Prop where
 ew:s.x1-s.x0=w
 h:∀c,hgt s c=kn s c*k
 wk:w*k=60
 wp:0<w
 kp:0<k
theorem Xd{d:Int}(V:0<d)(Y:d<=4):d=1\/d=2\/d=3\/d=4:=
 (Ah d 2).elim (λh=>.inl (qQ (nu h) V)) λh=>.inr ((Ah d 3).elim (λg=>.inl (qQ (nu g) h)) λh=>.inr ((Ah d 4).elim (λg=>.inl (qQ (nu g) h)) λh=>.inr (qQ Y h)))
theorem Dw{s:c_}(h:fH s):∃w k,Wid s w k:=by
 have e:∀w:Int,s.x1-s.x0=w->∀c,hgt s c=kn s c*(60/w):=λw e c=>e▸rfl
 rcases Xd (zH h.lt) h.wd with q|q|q|q
 ·exact⟨1,60,q,e 1 q,rfl,by simp,by simp⟩
 ·exact⟨2,30,q,e 2 q,rfl,by simp,by simp⟩
 ·exact⟨3,20,q,e 3 q,rfl,by simp,by simp⟩
 ·exact⟨4,15,q,e 4 q,rfl,by simp,by simp⟩
theorem mul_pos_iff{x k:Int}(V:0<k):0<x*k<->0<x:=by
 constructor
 ·intro h
  by_cases q:0<x
  ·exact q
  ·have:=Int.mul_le_mul_of_nonneg_right (show x<=0 by omega) (du V)
   omega
 ·exact λh=>GS h V
theorem LC{X K p:Int}(V:0<K)(h:X*K=(p-q)*60):0<X<->q<p:=
 (mul_pos_iff V).symm.trans ((iff_of_eq (aQ (0<·) h)).trans ((mul_pos_iff (by simp)).trans ⟨Pt,zH⟩))
theorem Jb{a b:c_}(Y:fH a)(W:fH b)(c:Int):(0<er a b c<->hgt b c<hgt a c)/\(er a b c<0<->hgt a c<hgt b c):=by
 refine ba λZ=>?_
 obtain⟨H,G,A⟩:=Dw Y
 obtain⟨C,f,B⟩:=Dw W
 apply Z
 have V:er a b c*(G*f)=(hgt a c-hgt b c)*60:=by
  rw[(A.ew▸B.ew▸rfl:er a b c=kn a c*C-kn b c*H),A.h,B.h]
  have q1:=A.wk;have q2:=B.wk
  generalize kn a c=x
  generalize kn b c=y
  grind
 exact⟨LC (GS A.kp B.kp) V,Rt.symm.trans (LC (GS A.kp B.kp) (by rw[tH,V,<-tH,Aq]))⟩
theorem VH(a b:c_):∃f m:Int,∀c,er a b c=f+m*c:=by
 refine⟨er a b 0,(a.h1-a.h0)*(b.x1-b.x0)-(b.h1-b.h0)*(a.x1-a.x0),λc=>?_⟩
 delta er sk
 grind
theorem VI{x y:Int}(h:0<x*y):(0<x/\0<y)\/(x<0/\y<0):=by
 rcases zJ x 0 with q|q|q
 ·rcases zJ y 0 with r|r|r
  ·exact .inr ⟨q,r⟩
  ·exact aZ ((r▸h:0<x*0)) (by rw[Gz];exact ph 0)
  ·exact aZ h (qZ (Int.mul_neg_of_neg_of_pos q r))
 ·exact aZ ((q▸h:0<0*y)) (by rw[Int.zero_mul];exact ph 0)
 ·rcases zJ y 0 with r|r|r
  ·exact aZ h (qZ (Int.mul_neg_of_pos_of_neg q r))
  ·exact aZ ((r▸h:0<x*0)) (by rw[Gz];exact ph 0)
  ·exact .inl ⟨q,r⟩
theorem G2{f m a b c:Int}(V:a<=c)(Y:c<=b):(f+m*a<=f+m*c/\f+m*c<=f+m*b)\/(f+m*b<=f+m*c/\f+m*c<=f+m*a):=
 (Q0 0 m).elim (λh=>.inl ⟨vR (Ek V h) f,vR (Ek Y h) f⟩)
  λh=>.inr ⟨vR (NF h Y) f,vR (NF h V) f⟩
theorem VJ{f m a b c:Int}(V:a<=c)(Y:c<=b)(h:0<(f+m*a)*(f+m*b)):(0<f+m*a/\0<f+m*c)\/(f+m*a<0/\f+m*c<0):=
 (VI h).elim (λs=>.inl ⟨s.1,(G2 V Y).elim (λq=>la s.1 q.1) λq=>la s.2 q.1⟩)
  λs=>.inr ⟨s.1,(G2 V Y).elim (λq=>jw q.2 s.2) λq=>jw q.2 s.1⟩
def lq(s:c_)(c:Int):Prop:=s.x0<=c/\c<=s.x1
theorem xb{s:c_}{c:Int}:iS s c=ae<->lq s c:=by
 delta iS lq
 simp only[bB,decide_eq_true_eq,decide_eq_true_eq]
def uJ(a b:c_):Prop:=(∀c,lq a c->lq b c->hgt a c<hgt b c)\/(∀c,lq a c->lq b c->hgt b c<hgt a c)
theorem uJ.symm{a b:c_}(h:uJ a b):uJ b a:=h.elim (λh=>.inr λc V Y=>h c Y V) (λh=>.inl λc V Y=>h c Y V)
theorem Hs{a b:c_}(Z:fH a)(H:fH b)(h:n9 a b=ae):uJ a b:=by
 rcases(wm _ _).mp h with h|h
 ·have h:min a.x1 b.x1<max a.x0 b.x0:=cZ h
  exact .inl λc V Y=>aZ (dh (tL.mpr ⟨V.1,Y.1⟩) (RW.mpr ⟨V.2,Y.2⟩)) (pu.mpr h)
 ·have h:=cZ h
  obtain⟨f,m,e⟩:=VH a b
  have h:0<er a b (max a.x0 b.x0)*er a b (min a.x1 b.x1):=h
  rw[e,e] at h
  have W:∀c,lq a c->lq b c->(0<f+m*(max a.x0 b.x0)/\hgt b c<hgt a c)\/(f+m*(max a.x0 b.x0)<0/\hgt a c<hgt b c):=λc V Y=>by
   have o:=Jb Z H c
   rw[<-o.1,<-o.2,e]
   exact VJ (tL.mpr ⟨V.1,Y.1⟩) (RW.mpr ⟨V.2,Y.2⟩) h
  by_cases q:0<f+m*(max a.x0 b.x0)
  ·exact .inr λc V Y=>(W c V Y).elim (λk=>k.2) λk=>aZ q (qZ k.1)
  ·exact .inl λc V Y=>(W c V Y).elim (λk=>aZ k.1 q) λk=>k.2
structure dg(ss:b0):Prop where
 nd:(ss.map (·.1)).Nodup
 ok:∀p∈ss,fH p.2
 same:∀p∈ss,∀q∈ss,p.1≠q.1->uJ p.2 q.2
theorem dg.snoc{s:c_}(G:dg ss)(W:x∉ss.map (·.1))(hs:fH s)(h:(ss.all λq=>n9 s q.2)=ae):dg (ss++[(x,s)]):=by
 rw[ee] at h
 refine⟨?_,λp V=>?_,λp V q Y e=>?_⟩
 ·rw[dJ]
  refine kE.mpr ⟨G.nd,my _ _,λa Z b H e=>?_⟩
  exact W (((show b=x from a_.mp H)▸e)▸Z)
 ·rcases cQ.mp V with V|V
  ·exact G.ok p V
  ·obtain rfl:=a_.mp V;exact hs
 ·rcases cQ.mp V with V|V<;>rcases cQ.mp Y with Y|Y
  ·exact G.same p V q Y e
  ·cases a_.mp Y;exact(Hs hs (G.ok p V) (h p V)).symm
  ·cases a_.mp V;exact Hs hs (G.ok q Y) (h q Y)
  ·cases a_.mp V;obtain rfl:=a_.mp Y;exact aZ rfl e
def At(ss:b0)(x:Str)(c:Int):Prop:=lq (bu ss x) c
noncomputable def Ht(ss:b0)(x:Str)(c:Int):Int:=hgt (bu ss x) c
theorem dg.mem(G:dg ss)(h:x∈ss.map (·.1)):(x,bu ss x)∈ss:=by
 obtain⟨p,V,rfl⟩:=bL.mp h
 exact(pz G.nd V)▸V
theorem dg.two(G:dg ss)(V:x∈ss.map (·.1))(Y:y∈ss.map (·.1))(e:x≠y):(∀c,At ss x c->At ss y c->Ht ss x c<Ht ss y c)\/(∀c,At ss x c->At ss y c->Ht ss y c<Ht ss x c):=
 G.same _ (G.mem V) _ (G.mem Y) e
theorem Cw{K:Str->Int}:∀{T:List Str},T≠[]->∃z∈T,∀y∈T,K y<=K z
 |[],h=>aZ rfl h
 |[a],_=>⟨a,bi,λy V=>by exact(a_.mp V)▸(pn _)⟩
 |a::b::r,_=>by
  obtain⟨z,W,Y⟩:=Cw (K:=K) (T:=b::r) nofun
  by_cases q:K a<=K z
  ·exact⟨z,bM _ W,λy V=>(bT.mp V).elim (λe=>e▸q) (Y y)⟩
  ·refine⟨a,bi,λy V=>(bT.mp V).elim (λe=>e▸pn _) λh=>?_⟩
   have:=Y y h
   exact du (jw this (pu.mp q))
theorem dg.top(G:dg ss){R:List Str}(Z:∀x∈R,x∈ss.map (·.1)){c:Int}{w:Str}(C:w∈R)(B:At ss w c):∃z∈R,At ss z c/\(∀y∈R,At ss y c->y≠z->Ht ss y c<Ht ss z c):=by
 have:DecidablePred λx=>At ss x c:=λx=>by dsimp only[At,lq];exact inferInstance
 obtain⟨z,Y,f⟩:=Cw (K:=λx=>Ht ss x c) (T:=R.filter λx=>decide (At ss x c)) (λe=>by
  have:w∈R.filter λx=>decide (At ss x c):=ef.mpr ⟨C,eP B⟩
  exact nomatch (e▸this))
 have Y:=ef.mp Y
 have W:=cZ Y.2
 refine⟨z,Y.1,W,λy H V e=>?_⟩
 have:=f y (ef.mpr ⟨H,eP V⟩)
 rcases G.two (Z y H) (Z z Y.1) e with q|q
 ·exact q c V W
 ·have:=q c V W;exact aZ (by assumption) (dU.mpr (by assumption))
def Dx(ss:b0)(R:List Str)(x:Str):Prop:=x∈R/\∀y∈R,At ss y (bu ss x).x0->y≠x->Ht ss y (bu ss x).x0<Ht ss x (bu ss x).x0
def Dy(ss:b0)(R:List Str)(x:Str):Prop:=x∈R/\∀c,At ss x c->∀y∈R,At ss y c->y≠x->Ht ss y c<Ht ss x c
theorem dg.next(G:dg ss){R:List Str}(H:∀x∈R,x∈ss.map (·.1))(L:Dx ss R x){c:Int}(C:At ss x c)(h:∃y∈R,At ss y c/\Ht ss x c<Ht ss y c):∃z,Dx ss R z/\(bu ss x).x0<(bu ss z).x0:=by
 refine(Int.le.dest C.1).elim λn B=>?_;subst B
 induction n with
 |zero=>
  obtain⟨y,Z,Y,V⟩:=h
  rw[show (bu ss x).x0+((0:Nat):Int)=(bu ss x).x0 from tF _] at Y V
  exact aZ V λV=>(Q3 (y=x)).elim (λq=>ph _ (q▸V)) λq=>qZ V (L.2 y Z Y q)
 |succ n ih=>
  obtain⟨y,Z,Y,V⟩:=h
  obtain⟨z,f,z2,z3⟩:=G.top H Z Y
  have e1:(bu ss x).x0+((n+1:Nat):Int)=(bu ss x).x0+n+1:=(Ga (bu ss x).x0 n 1).symm
  have W:Ht ss x _<Ht ss z _:=(Q3 (y=z)).elim (λq=>q▸V) λq=>Gu V (z3 y Z Y q)
  by_cases q:(bu ss z).x0<(bu ss x).x0+((n+1:Nat):Int)
  ·have le:(bu ss x).x0+n<=(bu ss x).x0+((n+1:Nat):Int):=e1▸Int.le_add_one (pn _)
   have ax:At ss x ((bu ss x).x0+n):=⟨vz (dA n),dh le C.2⟩
   have az:At ss z ((bu ss x).x0+n):=⟨nu (e1▸q),dh le z2.2⟩
   refine ih ax ⟨z,f,az,?_⟩
   exact(G.two (H x L.1) (H z f) λe=>by subst e;exact ph _ W).elim (λr=>r _ ax az) λr=>aZ (r _ C z2) (qZ W)
  ·have e:=qQ z2.1 (dU.mp q)
   exact⟨z,⟨f,e▸z3⟩,e▸N1 _ (P0.mpr (eA n))⟩
theorem dg.Xe(G:dg ss){R:List Str}(Y:∀x∈R,x∈ss.map (·.1))(n:Nat):∀(x:Str),Dx ss R x->12<=(bu ss x).x0+(n:Int)->∃z,Dy ss R z:=by
 induction n with
 |zero=>
  intro x L W
  have o:=G.ok _ (G.mem (Y x L.1))
  exact aZ (la (jw W (show (bu ss x).x0+0<(bu ss x).x1 from (tF _).symm▸o.lt)) o.hi) (by decide)
 |succ n f=>
  intro x L W
  by_cases q:∃c,At ss x c/\∃y∈R,At ss y c/\Ht ss x c<Ht ss y c
  ·refine q.elim λc Z=>Z.elim λh1 h2=>?_
   obtain⟨z,hz,H⟩:=G.next Y L h1 h2
   exact f z hz (dh W (show (bu ss x).x0+(n+1)<=_ from gY 1 n▸Ga (bu ss x).x0 1 n▸nv H n))
  ·exact⟨x,L.1,λc C y B V e=>(G.two (Y y B) (Y x L.1) e).elim (λr=>r c V C) λr=>aZ ⟨c,C,y,B,V,r c V C⟩ q⟩
theorem dg.free(G:dg ss){R:List Str}(V:∀x∈R,x∈ss.map (·.1))(Y:R≠[]):∃z,Dy ss R z:=by
 obtain⟨w,H,B⟩:=Cw (K:=λx=>-(bu ss x).x0) Y
 refine(G.top V H (c:=(bu ss w).x0) ⟨pn _,du ((G.ok _ (G.mem (V w H))).lt)⟩).elim λz W=>W.elim λC Z=>Z.elim λf z3=>?_
 have e:(bu ss z).x0=(bu ss w).x0:=qQ f.1 (Int.le_of_neg_le_neg (B z C))
 exact G.Xe V (12-(bu ss z).x0).toNat z ⟨C,e▸z3⟩ (Int.le_add_of_sub_left_le (Int.self_le_toNat _))
noncomputable def ik(k:Nat):Str:=toString (k:Int)
theorem VK:((dK 16).all λa=>(dK 16).all λb=>(ik a==ik b)==(a==b))=ae:=by decide+kernel
theorem Xf{a:Nat}(V:a<16)(Y:b<16):(ik a==ik b)=(a==b):=
 eq_of_beq (ee.mp (ee.mp VK a (gi.mpr V)) b (gi.mpr Y))
noncomputable def m8(n:Nat)(rows:List (List Str)):List (Str×Str):=((rows.zipIdx n).map λp=>f5 p.2 p.1).flatten
theorem Ip(n:Nat)(r:List Str)(V:List (List Str)):m8 n (r::V)=f5 n r++m8 (n+1) V:=rfl
theorem T2(f:Str->Bool)(rows:List (List Str))(n:Nat):(m8 n rows).filter (λp=>f p.1)=m8 n (rows.map λr=>r.filter f):=by
 induction rows generalizing n with
 |nil=>rfl
 |cons r Y V=>exact(s4 ..).trans (congr (aQ (·++·) qR) (V (n+1)))
theorem Xg{k:Nat}(V:n<16)(Y:k<16)(r:List Str):(f5 n r).filter (λp=>p.2==ik k)=bif n==k then f5 n r else []:=by
 refine qR.trans ((aQ (λf=>lX (λl=>(l,ik n)) (List.filter f r)) (funext λ_=>Xf V Y)).trans ?_)
 cases n==k with
 |true=>exact aQ (lX _) (zx.mpr λ_ _=>rfl)
 |false=>exact aQ (lX _) (vF.mpr λ_ _=>Bool.false_ne_true)
theorem KJ{k:Nat}(V:k<16)(rows:List (List Str))(n:Nat)(h:n+rows.length<=16):(m8 n rows).filter (λp=>p.2==ik k)=if n<=k then f5 k (rows.getD (k-n) []) else []:=by
 induction rows generalizing n with
 |nil=>exact(ite_self _).symm
 |cons r W Y=>
  rw[Ip,s4,Y (n+1) (abz h),Xg (Zw h) V]
  rcases Nat.lt_trichotomy n k with q|q|q
  ·rw[beq_false_of_ne (eB q),bo (qH q),bo (bd q),Xw q];rfl
  ·subst q
   rw[beq_self_eq_true,be (kH.mpr (gW _)),bo (bv _),tE];exact cR _
  ·rw[beq_false_of_ne (jB q),be (kH.mpr (lP q)),be (kH.mpr q)];rfl
theorem YF{p:Str×Str}(h:p∈m8 n rows):∃k r,n<=k/\rows[k-n]?=aa r/\p.1∈r/\p.2=ik k:=by
 obtain⟨l,hl,V⟩:=List.mem_flatten.mp h
 obtain⟨q,Y,rfl⟩:=bL.mp hl
 have m:=List.mem_zipIdx_iff_le_and_getElem?_sub.mp Y
 obtain⟨x,W,rfl⟩:=bL.mp V
 exact⟨q.2,q.1,m.1,m.2,W,rfl⟩
theorem VL(h:∀r∈rows,r.length<=6):(m8 n rows).length<=rows.length*6:=by
 induction rows generalizing n with
 |nil=>exact ck _
 |cons r Y V=>
  rw[Ip,bR]
  exact Y8 (V λr hr=>h r (bM _ hr)) (h r bi) (aR ..)
theorem J4{a:α}{l:List (Str×α)}(h:y≠x):((x,a)::l).lookup y=l.lookup y:=by
 simp only[io,beq_eq_false_iff_ne.mpr h]
theorem J5{a:α}{l:List (Str×α)}:((x,a)::l).lookup x=aa a:=by
 simp only[io,beq_self_eq_true]
theorem VM{a:α}{l:List (Str×α)}:(l.map λp=>if p.1=x then (p.1,a) else p).lookup y=if y=x then (if (l.any λp=>p.1=x)=ae then aa a else ak) else l.lookup y:=by
 induction l with
 |nil=>exact(ite_self _).symm
 |cons p r Z=>
  rw[d7,List.any_cons]
  by_cases e:y=p.1
  ·have W:∀(b:α) (V:List (Str×α)),i_ y ((p.1,b)::V)=aa b:=λb V=>e▸J5
   by_cases q:p.1=x
   ·rw[bo q,bo (e.trans q),eP q,Bool.true_or,bo rfl];exact W a _
   ·rw[be q,be λh=>q (e.symm.trans h)];exact(W p.2 _).trans (W p.2 _).symm
  ·have Y:∀(b:α) (V:List (Str×α)),i_ y ((p.1,b)::V)=V.lookup y:=λb V=>J4 e
   have H:∀V:List (Str×α),i_ y ((if p.1=x then (p.1,a) else p)::V)=V.lookup y:=λV=>if q:p.1=x then (aQ (λu=>i_ y (u::V)) (bo q)).trans (Y a V) else (aQ (λu=>i_ y (u::V)) (be q)).trans (Y p.2 V)
   rw[H,Z]
   by_cases h:y=x
   ·rw[bo h,bo h,eW λq=>e (h.trans q.symm),Ab]
   ·rw[be h,be h];exact(Y p.2 r).symm
theorem T3{a:α}{l:List (Str×α)}(h:(l.any λp=>p.1=x)=aI):(l++[(x,a)]).lookup y=if y=x then aa a else l.lookup y:=by
 rw[o7]
 by_cases e:y=x
 ·rw[bo e,List.lookup_eq_none_iff.mpr λp V=>bne_iff_ne.mpr λq=>ic (Fa.mp h p V|>qJ.mpr) (q.symm.trans e)]
  exact e▸J5
 ·rw[be e,show i_ y [(x,a)]=ak from J4 e,Option.or_none]
theorem T4{a:α}{l:List (Str×α)}:(jp l x a).lookup y=if y=x then aa a else l.lookup y:=by
 unfold jp
 by_cases q:(l.any λp=>decide (p.1=x))=ae
 ·rw[bo q,VM,bo q]
 ·rw[be q,T3 (qJ.mpr q)]
theorem A_(s:Str)(pg:List (Str×Str)):(f6 pg).lookup s=((pg.filter λp=>p.2==s).getLast?).map (·.1):=by
 refine snocInd (P:=λpg=>(f6 pg).lookup s=((pg.filter λp=>p.2==s).getLast?).map (·.1)) rfl (λl p V=>?_) pg
 have e:f6 (l++[p])=jp (f6 l) p.2 p.1:=lO
 simp only[e,T4,s4,jy,FL]
 by_cases q:s=p.2
 ·subst q
  refine(bo rfl).trans ?_;rw[bo (beq_self_eq_true _),qC];rfl
 ·refine(be q).trans ?_;rw[be (λh=>q (eq_of_beq h).symm),cR,V]
theorem Jc{pg:List (Str×Str)}{p:Str×Str}(h:p∈f6 pg):∃q∈pg,q.2=p.1/\q.1=p.2:=by
 have e:=lT (AB pg) (x:=p.1) h
 rw[A_] at e
 induction q:(pg.filter λr=>r.2==p.1).getLast? with
 |none=>rw[q] at e;exact nomatch e
 |some r=>
  rw[q] at e
  have:=ef.mp (qD q)
  exact⟨r,this.1,eq_of_beq this.2,aW e⟩
theorem VN{pg:List (Str×Str)}{c:Str}(h:c∈pg.map (·.2)):c∈(f6 pg).map (·.1):=by
 obtain⟨p,Y,rfl⟩:=bL.mp h
 induction q:(pg.filter λr=>r.2==p.2).getLast? with
 |none=>
  have:=List.getLast?_eq_none_iff.mp q
  have V:p∈pg.filter λr=>r.2==p.2:=ef.mpr ⟨Y,beq_self_eq_true _⟩
  rw[this] at V;exact nomatch V
 |some r=>
  exact bL.mpr ⟨_,lookup_mem (q▸(A_ p.2 pg)),rfl⟩
theorem uK(ss:b0)(x:Str)(c:Int):K1 (gw ss) c x=Ht ss x c:=by
 show 60*(hgt (bu ss x) c/60)+hgt (bu ss x) c%60=hgt (bu ss x) c
 exact XJ _
noncomputable def jq(ss:b0)(c:Int):List Str:=gT ss (gw ss) c
noncomputable def iC(U:List Str)(x:Str):Bool:=!U.contains x
theorem xc:iC U x=ae<->x∉U:=by
 unfold iC
 rw[nA,qJ,Ne,qz]
theorem dg.nY(G:dg ss){c:Int}:x∈jq ss c<->x∈ss.map (·.1)/\At ss x c:=by
 rw[show x∈jq ss c<->x∈eU ss c from (nQ _ _).2.mem_iff,tO G.nd,xb]
 exact⟨λh=>⟨kC (f:=(·.1)) h.1,h.2⟩,λh=>⟨G.mem h.1,h.2⟩⟩
theorem dg.KL(G:dg ss){c:Int}:(jq ss c).Nodup:=(nQ _ _).2.nodup_iff.mpr (Q8 G.nd)
theorem J6(ss:b0)(c:Int):(jq ss c).Pairwise λa b=>Ht ss a c<=Ht ss b c:=(nQ (K1 (gw ss) c) (eU ss c)).1.imp λ{a b} h=>by
 simp only[uK,uK] at h;exact h
theorem Xh{K:Str->Int}{l:List Str}(hs:l.Pairwise λa b=>K a<=K b)(V:x∈l)(h:∀y∈l,y≠x->K y<K x):l.getLast?=aa x:=by
 refine(vr (zF V)).trans ?_
 congr 1
 by_cases q:l.getLast (zF V)=x
 ·exact q
 ·have W:=h _ (PK _) q
  obtain⟨a,b,e⟩:=zC V
  subst e
  rw[lJ] at hs
  have Y:b≠[]:=λe=>q (by subst e;simp)
  have:=(fU.mp hs.2.1).1 _ (PK Y)
  have Z:(a++x::b).getLast (zF V)=b.getLast Y:=by
   rw[List.getLast_append_of_ne_nil _ (mG x b),List.getLast_cons Y]
  rw[Z] at W;exact aZ (by assumption) (dU.mpr (by assumption))
theorem nN(ss:b0):(dn ss).length=16:=by delta dn d6;rfl
noncomputable def cH(k:Nat):Int:=-4+(k:Int)
theorem Ba{k:Nat}(V:k<16):(dn ss)[k]?=aa (jq ss (cH k)):=by
 delta dn d6
 simp only[ci,ci,zv V];rfl
theorem Hu{c:Int}:c∈d6<->∃k,k<16/\c=cH k:=by
 exact bL.trans ⟨λV=>V.elim λk V=>V.elim λh e=>⟨k,gi.mp h,e.symm⟩,λV=>V.elim λk V=>V.elim λh e=>⟨k,gi.mpr h,e.symm⟩⟩
noncomputable def g7(ss:b0)(U:List Str)(k:Nat):List Str:=(jq ss (cH k)).filter (iC U)
noncomputable def qj(ss:b0)(U:List Str):List (Str×Str):=kq ((dn ss).map λr=>r.filter (iC U))
theorem B3{k:Nat}(V:k<16):((dn ss).map λr=>r.filter (iC U)).getD k []=g7 ss U k:=by
 simp only[k5,ci,Ba V];rfl
theorem BA{k:Nat}(V:k<16):(f6 (qj ss U)).lookup (ik k)=(g7 ss U k).getLast?:=by
 have e:=KJ V ((dn ss).map λr=>r.filter (iC U)) 0 (by rw[aR,nN];decide)
 rw[bo (ck _),GA,B3 V] at e
 rw[A_,show (qj ss U).filter (λp=>p.2==ik k)=f5 k (g7 ss U k) from e]
 unfold f5
 rw[qL]
 cases (g7 ss U k).getLast?<;>rfl
theorem rX{p:Str×Str}:p∈qj ss U<->∃k,k<16/\p.1∈g7 ss U k/\p.2=ik k:=by
 constructor
 ·intro h
  refine(YF (n:=0) h).elim λk W=>W.elim λr Z=>Z.elim λ_ H=>H.elim λV G=>G.elim λh3 C=>?_
  simp only[GA] at V
  have Y:k<16:=by have:=(ey.mp V).1;rw[aR,nN] at this;exact this
  have e:=B3 (ss:=ss) (U:=U) Y
  rw[k5,V] at e
  exact⟨k,Y,by rw[<-e];exact h3,C⟩
 ·rintro⟨k,Y,B,V⟩
  have e:=KJ Y ((dn ss).map λr=>r.filter (iC U)) 0 (by rw[aR,nN];decide)
  rw[bo (ck _),GA,B3 Y] at e
  have:p∈(qj ss U).filter λp=>p.2==ik k:=by
   rw[show (qj ss U).filter (λp=>p.2==ik k)=f5 k (g7 ss U k) from e]
   obtain⟨p1,p2⟩:=p
   exact bL.mpr ⟨p1,B,aQ (p1,·) (show ik k=p2 from V.symm)⟩
  exact(ef.mp this).1
theorem ng.le{b:Bool}(h:ng m fa d b k)(V:m<=n):ng n fa d b k:=⟨λw A s g u v S R r E=>h.run w A s g u v S (R.le V) r E⟩
theorem ul(h:x.length<=10000):vS x.length=aI:=eW (de.mpr (aD h (by decide)))
theorem rO{b:Bool}(V:(if b then okN x else oS x)=ae)(hl:x.length<=10000)(W:k (.str x)):ng 30 159 (.str x) b k:=by
 have Y:=aV hl (by decide:10000<2^63)
 refine ng.intro (n:=28) (fa:=159) ⟨λw=>⟨_,_,_,_,_,rfl,_,_,_,_,rfl,rfl,rfl,rfl⟩⟩ (λ_ _ _ _ _ _ u v=>BindsTo.of_eq (by rfl)) (by ac_rfl) (by rfl) (by ac_rfl) (.take (bH.Td rfl rfl rfl rfl rfl) (.cons (aO.uf rfl (λ_=>rfl) (cK.Cz (bH.mono (k:=λc=>c=b) (b_ rfl) λc e=>?_)))))
 subst e
 induction c with
 |true=>exact LW rfl (cK.top (a:=124) rfl (λw=>by ac_rfl) rfl (.skip (bH.val (aj.IN (a:=124) rfl rfl rfl rfl reN V Y rfl (Ci rfl)) λ_ _=>rfl) (cw 1 W)))
 |false=>exact LX rfl (cK.top (a:=129) rfl (λw=>by ac_rfl) rfl (.skip (bH.val (aj.IN (a:=129) rfl rfl rfl rfl reV V Y rfl (Ci rfl)) λ_ _=>rfl) (cw 1 W)))
theorem t0(hl:l.length<=10000)(V:k (.lst l)):iZ 30 222 l [] k:=
 iZ.intro (n:=28) (fa:=222) (aH:=["self"]) ⟨λw=>⟨_,_,_,_,_,rfl,_,_,_,_,rfl,rfl,rfl,rfl⟩⟩ (λ_ _ _ _ _ _ vs hl=>lY (λ_=>by rfl) vs hl) (by ac_rfl) (by rfl) (by rfl) (by ac_rfl) λX dx Y=>.cons (aO.ret (aj.Wm rfl (.inr rfl) rfl hl V))
structure Pg(m:Nat)(l:List (Str×Str)):Prop where
 len:l.length<=m
 low:∀p∈l,(cf p.1).length<=10000
theorem xG{l:List (Str×Str)}(h:Pg m l):(l.map bY).length<=m:=by rw[aR];exact h.len
theorem n7.fx{t:au}{l:List (Str×Str)}(G:jN aF ρ x=ae)(b:Str×Str->Bool)(f:Str×Str->D)
 (h:gu n sc ρ (aS x p) iter λaf=>af=l.map bY)(C:∀a∈l,vi n aF ((x,.dat (bY a))::cY aF ρ) t co (b a) (f a))(B:k (.lst ((l.filter b).map f))):n7 n sc ρ aF (aS x p) iter co [t] k:=
 gu.mono h λaf e=>by
  have V:Inj bY:=λa b h=>by
   have a1:=a.1;have a2:=a.2;have b1:=b.1;have b2:=b.2
   injection h with h
   refine(j4 h).elim λY W=>?_
   injection Y with Y
   injection (j4 W).1 with W
   exact xf Y W
  subst e
  refine⟨oC bY λa=>if b a=ae then aa (f a) else aU,λd hd=>?_,?_⟩
  ·refine(bL.mp hd).elim λa Z=>Z.elim λha H=>?_;subst H
   have T:=mm (n:=n) (p:=p) G (bY a)
   refine T.1 _ ⟨T.2.1,T.2.2,?_⟩
   rw[rW V]
   exact(C a ha).all
  ·rw[zD,show (oC bY (λa=>if b a=ae then aa (f a) else aU)∘bY)=_ from funext λa=>rW V a,yr];exact B
theorem Hv(V:oh ρ y=aa (.str x))(ok:ce y=ae)(hl:(ap.endLine==aM.line)=ae)(h:(cf x).length<=10000)(Y:k (.str (cf x))):aj n sc ρ (bU (cC (aS y np) "lower" ap) [] [] aM) k:=
 aj.yj cO.lower rfl (λab=>mQ rfl _ _ _) ⟨show 0<30 by simp,hl⟩ (aj.name (Bs V) ok ⟨rfl,fQ (bk.lower (ul h) Y)⟩)
theorem Sz{l:List (Str×Str)}(hl:Pg 10000 l)(Y:(cf x).length<=10000)(V:okN (cf x)=ae)
 (W:k (.lst ((l.filter λp=>cf p.1==cf x).map λp=>D.str p.2))):iZ 60 197 (l.map bY) [.str x] k:=
 iZ.intro (n:=58) (fa:=197) (aH:=["self","name"]) ⟨λw=>⟨_,_,_,_,_,rfl,_,_,_,_,rfl,rfl,rfl,rfl⟩⟩ (λ_ _ _ _ _ _ vs hl=>jd (λ_ _=>by rfl) vs hl) (by ac_rfl) (by rfl) (by rfl) (by ac_rfl) λX dx Z=>
  .cons (aO.assign rfl (λ_=>rfl) (aj.conv rfl (.inr rfl) rfl rfl rfl (Hv rfl rfl rfl Y ((rO (b:=ae) V Y (.cons (aO.ret (aj.AW rfl (λ_ _=>rfl) (n7.fx rfl (λp=>cf p.1==cf x) (λp=>.str p.2) (gu.dT rfl (.inr rfl) rfl (xG hl) rfl) (λp H=>b_ ⟨ul (hl.low p H),rfl,λ_=>bD rfl⟩) W))))).le (by simp)))))
theorem Jd{l:List (Str×Str)}(hl:Pg 10000 l)(W:(cf x).length<=10000)(V:okN (cf x)=ae):
 g_ 60 178 (l.map bY) [.str x] ((l.filter λp=>cf p.1 != cf x).map bY):=
 g_.intro (n:=58) (fa:=178) (aH:=["self","name"]) ⟨λw=>⟨_,_,_,_,_,rfl,_,_,_,_,rfl,rfl,rfl,rfl⟩⟩ (λ_ _ _ _ _ _ vs hl=>jd (λ_ _=>by rfl) vs hl) (by ac_rfl) (by rfl) (by rfl) (by ac_rfl) λX dx Z=>
  .cons (aO.assign rfl (λ_=>rfl) (aj.conv rfl (.inl rfl) rfl rfl rfl (Hv rfl rfl rfl W ((rO (b:=ae) V W (.cons (aO.Tf rfl rfl (xG hl) (λ_=>rfl) (aj.AW rfl (λ_ _=>rfl) (n7.fx rfl (λp=>cf p.1 != cf x) bY (gu.dT rfl (.inl rfl) rfl (xG hl) rfl) (λp Y=>b_ ⟨ul (hl.low p Y),rfl,λ_=>bD rfl⟩) ⟨_,rfl,xG ⟨aD (kB _ _) hl.len,λp Y=>hl.low p (ef.mp Y).1⟩,.nil rfl⟩))))).le (by simp)))))
theorem Mu(l:List (Str×Str))(x y:Str):l.map bY++[D.tup [.str x,.str y]]=(l++[(x,y)]).map bY:=by simp only[dJ];rfl
theorem Xi{l:List (Str×Str)}(hl:Pg 9000 l)(G:(cf x).length<=10000)(Z:x.length<=10000)(C:y.length<=10000)(H:okN (cf x)=ae)(V:okN x=ae)(Y:oS y=ae):
 g_ 70 173 (l.map bY) [.str x,.str y] ((l.filter (λp=>cf p.1 != cf x)++[(x,y)]).map bY):=by
 have W:Pg 10000 l:=⟨aD hl.len (by simp),hl.low⟩
 refine g_.intro (n:=68) (fa:=173) (aH:=["self","name","val"]) ⟨λw=>⟨_,_,_,_,_,rfl,_,_,_,_,rfl,rfl,rfl,rfl⟩⟩ (λ_ _ _ _ _ _ vs hl=>pC (λ_ _ _=>by rfl) vs hl) (by ac_rfl) (by rfl) (by rfl) (by ac_rfl) λX dx B=>
  .cons (aO.Jz rfl rfl (aj.name rfl rfl ⟨_,(Jd W G H).le (by simp),.cons (aO.Hd rfl rfl rfl rfl ?_ (λ_=>rfl) (λ_=>rfl) (aj.tup rfl (by decide) (hZ (aj.conv rfl (.inl rfl) rfl rfl rfl (aj.name rfl rfl ((rO (b:=ae) V Z (hZ (aj.conv rfl (.inl rfl) rfl rfl rfl (aj.name rfl rfl ((rO (b:=aI) Y C (fQ (.nil ?_))).le (by decide)))))).le (by decide)))))))⟩))
 ·rw[aR];exact aD (kB _ _) W.len
 ·rw[<-Mu];rfl
theorem Xj{l:List (Str×Str)}(hl:l.length<=9000)(H:x.length<=10000)(W:y.length<=10000)(V:okN x=ae)(Y:oS y=ae):
 g_ 70 255 (l.map bY) [.str x,.str y] ((l++[(x,y)]).map bY):=by
 refine g_.Ye (n:=68) (fa:=255) (n1:="self") (n2:="_name") (n3:="_value") (n4:="_params") ⟨λw=>⟨_,_,_,_,_,rfl,_,_,_,_,rfl,rfl,rfl,rfl⟩⟩ (λdoc pm bA ct an s u v1 v2 M A E Q G=>?_) (by ac_rfl) (by rfl) (by ac_rfl) λX dx C=>?_
 ·show wpAny M A (alloc {cls:=aK "dict",data:=.dict #[]}>>=λd=>pure _) Q E s
  exact aJ (wpAny_alloc' (a8 G))
 refine cw 1 λap=>.take (b_ rfl) (.cons (aO.assign rfl (λ_=>rfl) (aj.conv rfl (.inl rfl) rfl rfl rfl (aj.name rfl rfl ((rO (b:=aI) Y W ?_).le (by decide))))))
 refine cw 2 (bQ (ck _) (aL.cons (aO.Rx rfl rfl rfl (λ_ _=>rfl) ?_)))
 refine .cons (aO.Hd rfl rfl rfl rfl ?_ (λ_=>rfl) (λ_=>rfl) (aj.tup rfl (by decide) (hZ (aj.conv rfl (.inl rfl) rfl rfl rfl (aj.name rfl rfl ((rO (b:=ae) V H (hZ (aj.Uq rfl (bD ?_)))).le (by decide)))))))
 ·rw[aR];exact aD hl (by simp)
 ·refine bk.join (x:="; ") (xs:=[y]) ?_ ⟨rfl,fQ (.nil ?_)⟩
  ·have f:iw "; "=2:=rfl
   delta nZ vS
   show (!decide (0+y.length+iw "; ">sizeLine))=ae
   rw[f,fA,eW (de.mpr (aD (gB W 2) (by decide)))];rfl
  ·rw[<-Mu];rfl
theorem aad:FnAt 301 30 "_law_painted" ["order","sticks","rows"]:=⟨⟨λw=>⟨_,_,_,_,_,rfl,_,_,_,_,rfl,rfl,rfl,rfl⟩⟩,λ_ _ _ _ _ _ vs h=>pC (λ_ _ _=>by rfl) vs h,by rfl,by rfl⟩
theorem dI.map{a:List Nat}(h:dI (qi ps) ps.length a):(a.map λi=>ps.getD i default).Perm ps/\(a.map λi=>ps.getD i default).Pairwise λp q=>ltQ q p=aI:=by
 have e:(dK ps.length).map (λi=>ps.getD i default)=ps:=by
  refine qF λi=>?_
  refine ci.trans ?_
  by_cases q:i<ps.length
  ·rw[zv q,dt q]
   exact aQ aa (by show ps.getD i default=_;rw[k5,dt q];rfl)
  ·rw[o6 (PL q),o6 (kD▸(PL q))];rfl
 exact⟨(h.perm.map _).trans (.of_eq e),qK.mpr (h.pw.imp λh=>h.1)⟩
theorem T5{qs:List (Str×Str)}{b c:List Nat}(W:ps.Perm qs)(V:dI (qi ps) ps.length b)(Y:dI (qi qs) qs.length c):(b.map λi=>ps.getD i default)=c.map λi=>qs.getD i default:=
 (V.map.1.trans (W.trans Y.map.1.symm)).eq_of_pairwise (λa b _ _ Z H=>Ck.2.2 a b H Z) V.map.2 Y.map.2
theorem BB(l:List (Str×Str)):iA (.lst (.pair .str .str)) (.lst (l.map bY)):=⟨_,rfl,λd hd=>by obtain⟨x,_,rfl⟩:=bL.mp hd;exact⟨_,_,rfl,⟨_,rfl⟩,⟨_,rfl⟩⟩⟩
theorem B4:Inj bY:=λa b h=>
 have V:a.1=b.1:=aQ (f9 · 0) h
 have Y:a.2=b.2:=aQ (f9 · 1) h
 xf V Y
section
variable {ss:b0} {X dx hl:ag} {aG x:Str} {rows:List (List Str)} {n i m:Nat} {pg sq:List (Str×Str)}
theorem Xk(V:k (.str ⟨#[if i%2=0 then 67 else 99]⟩)):b8 n (.str (a6 "Cc")) (.int ((i:Int)%2)) k:=by
 rcases Nat.mod_two_eq_zero_or_one i with h|h
 ·rw[h] at V
  rw[show (i:Int)%2=0 by exact LL (by assumption)]
  exact b8.str (j:=0) (c:=67) (by decide) (by decide) rfl rfl V
 ·rw[h] at V
  rw[show (i:Int)%2=1 by exact XQ (by assumption)]
  exact b8.str (j:=1) (c:=99) (by decide) (by decide) rfl rfl V
theorem T6{f:List (Str×Str)->Str×Str->List (Str×Str)}{q:Str×Str}(h:sq[i]?=aa q):(sq.take (i+1)).foldl f pg=f ((sq.take i).foldl f pg) q:=by simp only[lN,h,lO];rfl
theorem VO(h:Pg m pg){p:Str×Str}(Y:(cf p.1).length<=10000):Pg (m+1) (ll pg p):=
 ⟨by unfold ll;rw[bR];exact gB (aD (kB _ _) h.len) 1,λq V=>(cQ.mp V).elim (λV=>h.low q (ef.mp V).1) λV=>a_.mp V▸Y⟩
theorem Iq(h:Pg m pg)(hs:∀p∈sq,(cf p.1).length<=10000):Pg (m+sq.length) (sq.foldl ll pg):=by
 induction sq generalizing pg m with
 |nil=>exact h
 |cons p r V=>rw[gF,gL r.length,<-eS];exact V (VO h (hs p bi)) λq Y=>hs q (bM _ Y)
theorem RP{l:List Str}:ux ss (l++[x])=ux ss l++jo ss l.length x:=by
 unfold ux
 simp only[Pc,dJ,OQ]
 exact aQ _ ((cR _).trans (by rw[fA]))
theorem RQ{l:List Str}:jK ss (l++[x])=(jo ss l.length x).foldl ll (jK ss l):=by
 unfold jK
 simp only[RP,lO]
theorem Je(S:fH (bu ss x)):∀p∈jo ss i x,(cf p.1).length<=10000:=λp Y=>by
 obtain⟨c,V,rfl⟩:=bL.mp Y
 have:=xF (t:=i) (c:=c) (ye S V).1 (dh (ye S V).2 (by simp))
 exact this.2.2.1▸aD this.2.2.2.2 (by simp)
theorem J7(S:fH (bu ss x)):(jo ss i x).length<=5:=by
 delta jo dR
 simp only[aR,aR,kD]
 have:=S.wd
 exact abc (by assumption)
noncomputable def uL(ss:b0)(X dx hl:ag)(aG:Str)(rows:List (List Str))(pg:List (Str×Str)):ay:=([("canvas",.dT X dx hl (pg.map bY)),("order",.dat (.str aG)),("sticks",.dat (jf ss)),("rows",.dat (.lst (rows.map cz)))]:List (Str×Bd))
theorem Jf{c:Int}(h:-4<=c/\c<=11):c.natAbs.log2<1920:=by
 by_cases q:c.natAbs=0
 ·rw[q];decide
 ·have:=(wE q).mpr (show c.natAbs<2^4 by exact XH (by assumption));exact eK this (by simp)
theorem T7{t:Nat}{c:Int}(h:(iV t c).length<=10):iw ⟨#[if t%2=0 then 67 else 99]⟩+(toString c:Str).length<=sizeLine:=by
 unfold iV at h
 rw[cD,fE,bR,<-cD,<-cD] at h
 exact aD h (by decide)
theorem RR(f:(ss.map (·.1)).Nodup)(hss:∀p∈ss,fH p.2)(G:∀x∈chars aG,x∈ss.map (·.1)/\oS x=ae/\x.length<=1)(W:aG.length<=6)
 (H:rows.length=16)(hr:∀r∈rows,r.length<=6)(Z:((jK ss (chars aG)).map λp=>(cf p.1,p.2)).Perm (oJ rows))(hk:k (.bool ae)):bJ 80 301 [.str aG,jf ss,.lst (rows.map cz)] k:=by
 refine bJ.vj aad rfl (.cons (aO.uf rfl (λ_=>rfl) (cK.K5 rfl (by decide) λX dx hl=>aL.sub (ρ:=uL ss X dx hl aG rows []) (.cons (aO.for (λ_ _=>rfl) (bK.call (qX rfl) rfl (d_ (dD 40) (fN.KY (bd (aV W (by decide))) ?_))))) (cA.sub ⟨rfl,rfl,rfl,rfl,trivial⟩))))
 refine(show (aG.cps.toList.map λc=>D.str ⟨#[c]⟩)=(chars aG).map D.str from cJ.symm)▸?_
 refine⟨λi aC=>aC=uL ss X dx hl aG rows (jK ss ((chars aG).take i))/\Pg (i*5) (jK ss ((chars aG).take i)),?_,?_,?_,?_⟩
 ·exact⟨rfl,ck _,nofun⟩
 ·rintro i _ ⟨rfl,_⟩;rfl
 ·rintro i d _ hd ⟨rfl,Y⟩
  obtain⟨u,hu,rfl⟩:=tW hd
  obtain⟨x,hx,rfl⟩:=mS hu
  obtain⟨hm,hv,h1⟩:=G x (c5 hx)
  have S:=hss _ (B1 f hm)
  have hi:=(ey.mp hx).1
  have hi6:i<6:=cg hi ((iN aG).symm▸W)
  have en:jK ss ((chars aG).take (i+1))=(jo ss i x).foldl ll (jK ss ((chars aG).take i)):=by
   rw[tZ hx,RQ,gG,iL (bd hi)]
  generalize jK ss ((chars aG).take i)=pg at Y en
  refine c0.tup rfl rfl (jE (.name rfl (jE (.name rfl (pD ?_)))))
  refine .cons (aO.for (λ_ _=>rfl) (bK.call (AG rfl) rfl (d_ (dD 40) (pN f hm (pN f hm (fN.B_ (yf S).1 (yf S).2 ?_))))))
  refine AA▸?_
  refine⟨λj aC=>aC=(("letter",.dat (.str x))::("turn",.dat (.int i))::uL ss X dx hl aG rows (((jo ss i x).take j).foldl ll pg):List (Str×Bd)),rfl,?_,?_,?_⟩
  ·rintro j _ rfl;rfl
  ·rintro j d _ hdj rfl
   obtain⟨c,hc,rfl⟩:=ints_get hdj
   have V:=ye S (c5 hc)
   refine(xF (t:=i) V.1 (dh V.2 (by decide))).elim λn1 nh=>nh.elim λn2 qh=>qh.elim λn3 C=>C.elim λn4 n5=>?_
   have hsq:(jo ss i x)[j]?=aa (iV i c,x):=by unfold jo;rw[ci,hc];rfl
   refine c0.name rfl (.cons (aO.Wn rfl rfl (λ_=>rfl) (aj.name rfl rfl (bD (Xk ⟨Jf V,T7 n4,_,g_.le (Xi (l:=((jo ss i x).take j).foldl ll pg) (x:=iV i c) (y:=x) ?_ (n3▸aD n5 (by decide)) (aD n4 (by decide)) (aD h1 (by decide)) n2 n1 hv) (by decide),.nil (AI (("letter",.dat (.str x))::("turn",.dat (.int i))::uL ss X dx hl aG rows (((jo ss i x).take (j+1)).foldl ll pg):List (Str×Bd)) (cA.sub ⟨rfl,rfl,?_,rfl,rfl,rfl,trivial⟩) rfl)⟩)))))
   ·have:=Iq (sq:=(jo ss i x).take j) Y λp h=>Je S p (mB h)
    exact⟨aD this.len (by rw[gG];have:=J7 S (i:=i);exact aa6 (by assumption) (by assumption)),this.low⟩
   ·rw[T6 hsq];rfl
  ·rintro _ rfl
   refine .nil (AI (uL ss X dx hl aG rows (jK ss ((chars aG).take (i+1)))) (cA.sub ⟨?_,rfl,rfl,rfl,trivial⟩) ⟨rfl,?_⟩)
   ·rw[en,aR,k9]
    ·rfl
    ·unfold jo;rw[aR];exact bv _
   ·rw[en]
    have:=Iq Y (Je S (i:=i))
    exact⟨aD this.len (by have:=J7 S (i:=i);exact aa7 (by assumption)),this.low⟩
 ·rintro _ ⟨rfl,Y⟩
  simp only[nP,aR,jY] at Y⊢
  rw[iN] at Y
  refine .cons (aO.wR rfl (λ_ _=>rfl) rfl rfl (dj.ft (α:=List Str×Nat) (c1:=λa=>.int (a.2:Nat)) (c2:=λa=>cz a.1) (xv xa) rfl (bK.call (qX rfl) rfl (d_ (dD 40) (fN.CC ?_ ⟨rows.zipIdx,λa=>!a.1.isEmpty,λa=>bY (dY ((a.2:Int)-4),a.1.getLastD default),w_ _ _,λa ha=>b_ ?_,?_⟩)))))
  ·rw[aR,H];decide
  ·obtain⟨r,j⟩:=a
   have hj:j<16:=H▸(PM ha).1
   have hrr:r∈rows:=(PM ha).2▸PF _
   refine bq.neT (.lst .str) (by decide) (kc r) (kc []) λcb V=>⟨?_,λhb=>bD ?_⟩
   ·rw[hO,V]
    cases r with
    |nil=>exact⟨λh=>aZ rfl h,nofun⟩
    |cons y s=>exact⟨λ_=>rfl,λ_ h=>by injection h with h;cases h⟩
   ·have hz:-4<=(j:Int)-4/\(j:Int)-4<=11:=by exact x3 (by assumption)
    have hl:(dY ((j:Int)-4)).length<=10:=(xF (t:=0) hz.1 (dh hz.2 (by decide))).2.2.2.2
    unfold dY at hl
    rw[cD,fE,bR,<-cD,<-cD] at hl
    refine bQ (Jf hz) (bQ (aD hl (by decide)) ?_)
    cases r with
    |nil=>exact ft (show aI=ae from hb)
    |cons y s=>
     have h6:=hr _ hrr
     exact b8.Lw (by simp only[qL,NQ,vr (mG y s)];rfl) (by rw[aR];exact aD h6 (by simp)) rfl
  ·refine cw 1 (aj.comp rfl (λ_ _=>rfl) (dj.mt (α:=Str×Str) (c1:=λp=>.str p.1) (c2:=λp=>.str p.2) B4 rfl (bK.list (aj.rJ uu rfl (.inl rfl) rfl rfl (eA _) rfl (fQ ((t0 (l:=(jK ss (chars aG)).map bY) ?_ ⟨_,rfl,?_,_,λp=>bY (cf p.1,p.2),rfl,λp hpm=>?_,?_⟩).le (by simp)))))))
   ·rw[aR];have:=Y.len;omega
   ·rw[aR];have:=Y.len;omega
   ·exact bD (bQ (ul (Y.low p hpm)) rfl)
   ·rw[show (λp:Str×Str=>bY (cf p.1,p.2))=bY∘λp=>(cf p.1,p.2) from rfl,<-cJ]
    have B:(oJ rows).length<=16:=by
     unfold oJ
     rw[aR]
     exact aD (kB _ _) (by rw[List.length_zipIdx,H];exact bv _)
    refine bk.JB (by have:=Z.length_eq;exact aV (aD (bn this) B) (by decide)) λb1 Eb=>?_
    refine bk.vm (sR:=[.lst ((oJ rows).map bY)]) (by unfold oJ;rw[cJ];rfl) (bk.JB (aV B (by decide)) λb2 hb2=>?_)
    have he:=aQ (λl=>D.lst (l.map bY)) (T5 Z Eb hb2)
    have ht:=BB (b2.map λi=>(oJ rows).getD i default)
    simp only[cJ] at he ht
    refine bq.eqT (.lst (.pair .str .str)) (by decide) (he▸ht) ht λcb V=>?_
    exact(V.mpr he)▸hk
end
theorem aae:FnAt 296 29 "_law_order" ["rows","choices"]:=⟨⟨λw=>⟨_,_,_,_,_,rfl,_,_,_,_,rfl,rfl,rfl,rfl⟩⟩,λ_ _ _ _ _ _ vs h=>jd (λ_ _=>by rfl) vs h,by rfl,by rfl⟩
noncomputable def Mv(i:Nat):List bw:=match (fb 29).drop i with
 |.For _ _ b _ _::_=>b
 |_=>[]
section
variable {X dx hl:ag} {aG:Str} {rows:List (List Str)} {iP:List Int} {n i m:Nat} {pg:List (Str×Str)} {ys:List Str} {ch:Int}
noncomputable def mn(X dx hl:ag)(rows:List (List Str))(iP:List Int)(pg:List (Str×Str))(aG:Str):ay:=([("page",.dT X dx hl (pg.map bY)),("order",.dat (.str aG)),("rows",.dat (.lst (rows.map cz))),("choices",.dat (.lst (iP.map D.int)))]:List (Str×Bd))
theorem ac3{a:D}(V:jN aF ρ x=ae):Sub (cY aF ρ) ((x,.dat a)::cY aF ρ):=(mm (n:=0) (p:=⟨0,0,0,0⟩) V a).2.2
theorem ac4{a b:D}(V:(jN aF ρ x&&(jN aF ρ y&&!(y==x)))=ae):Sub (cY aF ρ) ((y,.dat b)::(x,.dat a)::cY aF ρ):=(sF (n:=0) (p:=⟨0,0,0,0⟩) (p1:=⟨0,0,0,0⟩) (p2:=⟨0,0,0,0⟩) (m:=0) V a b).2.2
theorem xd{o:Str}(Z:o.length<=100)(Y:k (.str (mk1 c))):b8 n (.str (mk1 c++o)) (.int 0) k:=by
 have V:(mk1 c++o).length=o.length+1:=by rw[cD,fE,bR,<-cD o];exact gL _ _
 have e:lj 0 (mk1 c++o).length=if (decide ((0:Int)<=0)&&decide ((0:Int)<(mk1 c++o).length))=ae then aa (0:Int).toNat else ak:=rfl
 have W:(cl (mk1 c++o))[0]?=aa c:=by rw[fE];rfl
 exact b8.str (j:=0) (c:=c) (by decide) (by decide) (by refine e.trans ?_;rw[V,eP (show (0:Int)<((o.length+1:Nat):Int) from abA)];rfl) (by exact ku.symm.trans W) Y
structure u0(pg:List (Str×Str))(aG:Str):Prop where
 len:pg.length<=96
 cap:∀p∈pg,fe p.1=ae
 ol:aG.length<=6
 cols:∀c∈pg.map (·.2),c∈(f6 pg).map (·.1)
 tl:(f6 pg).length<=16
theorem SD:(g6 pg y).length<=pg.length:=by unfold g6;rw[aR];exact kB _ _
theorem Ir{l:List Str}:D.lst (l.map D.str)=.lst []<->l=[]:=⟨λh=>by injection h with h;exact zw.mp h,λh=>by rw[h];rfl⟩
theorem u0.top(P:u0 pg aG){c:Str}(h:c∈g6 pg y):∃q∈f6 pg,q.1=c/\(f6 pg).lookup c=aa q.2:=by
 obtain⟨p,Y,rfl⟩:=bL.mp h
 obtain⟨q,V,e⟩:=bL.mp (P.cols _ (bL.mpr ⟨p,(ef.mp Y).1,rfl⟩))
 exact⟨q,V,e,lT (AB pg) (e▸V)⟩
theorem YG(ch:Int)(h:0<n):∃m:Nat,m<n/\ch%(n:Int)=m:=by
 have V:=pd ch (b:=n) (by exact KR (by assumption))
 have Y:=o9 ch (b:=n) (by omega)
 exact⟨(ch%n).toNat,by exact a_pos (by assumption) (by assumption),by exact abv (by assumption)⟩
theorem Xl{f:α->Str}(l:List α):iA (.lst .str) (.lst (l.map λa=>D.str (f a))):=⟨_,rfl,λd hd=>by obtain⟨x,_,rfl⟩:=bL.mp hd;exact⟨_,rfl⟩⟩
set_option tactic.hygienic true in
theorem VP(P:u0 pg aG){k:Fl->ay->Prop}(hk:∀ys:List Str,ys.Nodup->sortedS ys=ae->(∀x,x∈ys<->∃p∈f6 pg,p.2=x)->mf pg ys≠[]/\∀l∈mf pg ys,∀ρ,Sub (mn X dx hl rows iP (pg.filter λp=>p.1 != l) (l++aG)) ρ->k .next ρ):
 aL 98 (fs 29) (("choice",.dat (.int ch))::mn X dx hl rows iP pg aG:List (Str×Bd)) (Mv 3) k:=by
 refine .cons (aO.assign rfl (λ_=>rfl) (aj.rJ uu rfl (.inl rfl) rfl rfl (by decide) rfl (fQ (iZ.le (m:=30) (t0 (l:=pg.map bY) (by rw[aR];exact aD P.len (by decide)) ?_) (by decide)))))
 refine .cons (aO.Hg rfl (λ_=>rfl) (aj.IP rfl (λ_ _=>rfl) (bK.list (aj.name rfl rfl ⟨_,rfl,by rw[aR];exact aD P.len (by decide),uX,λd hd=>?_,?_⟩))))
 ·obtain⟨p,W,rfl⟩:=bL.mp hd
  exact(sF rfl (.str p.1) (.str p.2)).1 _ ⟨rK.cons,ac4 rfl,rfl,bD ⟨rfl,bD rfl⟩⟩
 rw[W1]
 refine .cons (aO.Hg rfl (λ_=>rfl) (aj.IP rfl (λ_ _=>rfl) (bK.list (aj.Sc rfl rfl rfl (λ_=>rfl) (aj.name rfl rfl ⟨_,rfl,aV P.tl (by decide),λys y1 y2 y3=>?_⟩)))))
 have Z:ys.length<=16:=by
  have:=pG (b:=ys) (l:=(f6 pg).map (·.2)) y1 λx hx=>by
   obtain⟨p,W,e⟩:=(y3 x).mp hx
   exact bL.mpr ⟨p,W,e⟩
  rw[aR] at this;exact aD this P.tl
 refine⟨_,rfl,by rw[aR];exact aD Z (by decide),uI pg,λd hd=>?_,?_⟩
 ·obtain⟨y,hy,rfl⟩:=bL.mp hd
  refine(mm rfl (.str y)).1 _ ⟨rK,ac3 rfl,rfl,bD ⟨rfl,?_⟩⟩
  refine aj.comp rfl (λ_ _=>rfl) (dj.ft (α:=Str×Str) (c1:=λp=>.str p.1) (c2:=λp=>.str p.2) B4 rfl (bK.list (aj.name rfl rfl ⟨_,rfl,?_,pg,λp=>p.1==y,λp=>.str p.2,rfl,λp W=>b_ ⟨rfl,λ_=>bD rfl⟩,?_⟩)))
  ·rw[aR];exact aD P.len (by decide)
  ·show _=cz _
   unfold g6 cz
   rw[cJ];rfl
 rw[YB pg y1]
 refine .cons (aO.wR rfl (λ_ _=>rfl) rfl rfl (dj.fx Inj.str rfl (bK.dictKeys (aj.name rfl rfl ⟨_,rfl,by rw[aR];exact aD Z (by decide),ys,λy=>(g6 pg y).all λc=>(f6 pg).lookup c==aa y,D.str,by rw[cJ];rfl,λy hy=>b_ ?_,?_⟩))))
 ·refine aj.comp rfl (λ_ _=>rfl) (dj.fx Inj.str rfl (bK.list (bD (b8.cL (d:=cz (g6 pg y)) (bL.mpr ⟨y,hy,rfl⟩) ⟨_,rfl,?_,g6 pg y,λc=>(f6 pg).lookup c != aa y,D.str,rfl,λc hc=>b_ ?_,?_⟩))))
  ·rw[aR];exact aD SD (aD P.len (by decide))
  ·obtain⟨q,hq,rfl,e⟩:=P.top hc
   exact b8.cL (d:=.str q.2) (bL.mpr ⟨q,hq,rfl⟩) ⟨by show _=(_ != _);rw[e];rfl,λ_=>bD rfl⟩
  ·exact bq.eqT (.lst .str) (by decide) (kc _) (kc []) λf Y=>⟨by rw[hO,Y,Ir,vF];show _<->List.all _ _=ae;rw[ee];exact⟨λh c hc=>by simpa using h c hc,λh c hc=>by simpa using h c hc⟩,λ_=>bD rfl⟩
 refine(hk ys y1 y2 y3).elim λf1 f2=>?_
 refine aL.skip (b_ (bq.eqT (.lst .str) (by decide) (kc _) (kc []) λf Y=>?_)) ?_
 ·cases f with
  |false=>rfl
  |true=>exact aZ (Ir.mp (Y.mp rfl)) f1
 have H:(mf pg ys).length<=16:=aD (kB _ _) Z
 have C:∀l∈mf pg ys,l∈ys:=λl h=>(ef.mp h).1
 change aL 98 (fs 29) ((_,.dat (.lst ((mf pg ys).map D.str)))::_) _ _
 generalize mf pg ys=fr at f1 f2 H C
 have mw:0<fr.length:=by cases fr with|nil=>exact aZ rfl f1|cons a r=>exact eA _
 refine .cons (aO.assign rfl (λ_=>rfl) (bD (bQ (by rw[aR];exact aV H (by decide)) (bP.t (eP (by rw[aR];exact eJ.mpr mw)) ?_))))
 obtain⟨m,hm,e⟩:=YG ch mw
 rw[aR,e]
 obtain⟨l,lG⟩:∃l,fr[m]?=aa l:=⟨_,dt hm⟩
 have B:=c5 lG
 refine b8.oz (d:=.str l) (by rw[aR];exact aD H (by simp)) (by rw[ci,lG];rfl) ?_
 have V:fe l=ae:=by
  obtain⟨p,W,e⟩:=(y3 l).mp (C l B)
  obtain⟨q,hq,e2⟩:=TM W
  rw[<-e];exact e2▸(P.cap q hq)
 refine(pH V).elim λc ac5=>ac5.elim λac6 _=>?_;subst ac6
 refine bQ (aD (fh P.ol 1) (by decide)) ?_
 have ob:aG.length<=100:=aD P.ol (by simp)
 refine .cons (aO.assign rfl (λ_=>rfl) (aj.mono (k:=λd=>∃a:Str,d=.str a/\cf a=cf (mk1 c)) (bD (bH.val (bD (Cc (cM.mk (λ_=>xd ob ⟨_,rfl,rfl⟩) λ_=>xd ob ⟨?_,_,rfl,(l6 V).1.2.2.2.2.2⟩))) λ_ _=>rfl)) λd q_=>q_.elim λa q_=>q_.elim λe ha=>?_))
 ·have:=(l6 V).1.2.2.2.2.1
  exact ul (this▸by decide)
 subst e
 have al:(cf a).length<=10000:=by rw[ha,(l6 V).1.2.2.2.2.1];decide
 have ao:okN (cf a)=ae:=ha▸(l6 V).1.2.1
 have G:Pg 10000 pg:=⟨aD P.len (by decide),λp W=>by rw[(l6 (P.cap p W)).1.2.2.2.2.1];decide⟩
 have e1:(pg.filter λp=>cf p.1==cf a)=pg.filter λp=>p.1==mk1 c:=mE λp W=>by
  exact ha▸((l6 (P.cap p W)).2 _ V)
 have e2:(pg.filter λp=>cf p.1 != cf a)=pg.filter λp=>p.1 != mk1 c:=mE λp W=>by
  exact ha▸(aQ not ((l6 (P.cap p W)).2 _ V))
 refine .cons (aO.assign rfl (λ_=>rfl) (aj.rJ Wl rfl (.inl rfl) rfl rfl (by decide) rfl (hZ (aj.name rfl rfl (fQ (iZ.le (m:=60) (Sz G al ao ?_) (by decide)))))))
 refine e1▸?_
 refine .cons (aO.Jz rfl rfl (aj.name rfl rfl ⟨_,g_.le (m:=60) (Jd (l:=pg) G al ao) (by decide),?_⟩))
 rw[e2]
 refine aL.skip (b_ (xd ob (b8.cL (d:=cz (g6 pg (mk1 c))) (bL.mpr ⟨_,C _ B,rfl⟩) (bq.neT (.lst .str) (by decide) (Xl _) (kc _) λf Y=>?_)))) ?_
 ·induction f with
  |true=>exact aZ (by delta g6 cz;rw[cJ];rfl) (Y.mp rfl)
  |false=>
   refine aj.rJ uu rfl (.inl rfl) rfl rfl (by decide) rfl (fQ (iZ.le (m:=30) (t0 (l:=(pg.filter λp=>p.1 != mk1 c).map bY) (by rw[aR];exact aD (kB _ _) G.len) ?_) (by decide)))
   refine aj.comp rfl (λ_ _=>rfl) (dj.fx B4 rfl (bK.list (aj.name rfl rfl ⟨_,rfl,by rw[aR];exact G.len,pg,λp=>p.1 != mk1 c,bY,rfl,λp W=>b_ ?_,?_⟩)))
   ·exact xd ob ⟨rfl,λ_=>bD rfl⟩
   ·exact bq.neT (.lst (.pair .str .str)) (by decide) (BB _) (BB _) λf Y=>by
     induction f with
     |true=>exact aZ rfl (Y.mp rfl)
     |false=>exact rfl
 exact .nil (f2 _ B _ (cA.sub ⟨rfl,rfl,rfl,rfl,trivial⟩))
theorem Xm:∀{rows:List (List Str)},(∀r∈rows,r.length<=6)->∀k:Nat,((rows.zipIdx k).map λp=>f5 p.2 p.1).flatten.length<=6*rows.length:=by
 intro Y
 induction Y with
 |nil=>
  intro _ _
  exact bv _
 |cons r l V=>
  intro h k
  have Z:=V (λz W=>h z (bM _ W)) (k+1)
  have H:=h r bi
  have h3:(f5 k r).length=r.length:=aR ..
  simp only[Fv,d7,vZ,bR,gF]
  exact abm (by assumption) (by assumption) (by assumption)
theorem VQ(l:List (List Str))(r:List Str):kq (l++[r])=kq l++f5 l.length r:=by
 unfold kq
 simp only[Pc,dJ,OQ]
 exact aQ _ ((cR _).trans (by rw[fA]))
theorem Xn(h:i<16):((i:Nat):Int).natAbs.log2<1920:=by
 by_cases q:i=0
 ·subst q;decide
 ·have:=(wE (n:=i) (by omega)).mpr (show i<2^4 by omega)
  exact cg this (by simp)
set_option tactic.hygienic true in
theorem Xo{a7:List Str}(hi:i<16)(hp:pg.length<=90)(hr:a7.length<=6)(C:∀x∈a7,fe x=ae){k:Fl->ay->Prop}(B:∀ρ,Sub (mn X dx hl rows iP (pg++f5 i a7) aG) ρ->k .next ρ):
 aL 98 (fs 29) (("row",.dat (cz a7))::("column",.dat (.int i))::mn X dx hl rows iP pg aG:List (Str×Bd)) (Mv 1) k:=by
 refine .cons (aO.for (λ_ _=>rfl) (bK.list (aj.name rfl rfl ⟨_,rfl,by rw[aR];exact aD hr (by simp),λj aC=>aC=(("row",.dat (cz a7))::("column",.dat (.int i))::mn X dx hl rows iP (pg++f5 i (a7.take j)) aG:List (Str×Bd)),?_,?_,?_,?_⟩)))
 ·show _=(("row",.dat (cz a7))::("column",.dat (.int i))::mn X dx hl rows iP (pg++[]) aG:List (Str×Bd))
  rw[cR]
 ·rintro j _ rfl;rfl
 ·rintro j d _ hd rfl
  obtain⟨x,G,rfl⟩:=mS hd
  obtain⟨f,n2⟩:=YA hi
  refine ba λN_=>?_
  refine(l6 (C x (c5 G))).elim λV _=>V.elim λc1 Y=>Y.elim λ_ W=>W.elim λ_ Z=>Z.elim λc4 H=>H.elim λ_ _=>?_
  apply N_
  have h9:(pg++f5 i (a7.take j)).length<=9000:=by
   unfold f5
   simp only[bR,aR,gG]
   exact Y0 (by assumption) (by assumption)
  refine c0.name rfl (.cons (aO.Yd aci rfl rfl rfl (by decide) rfl (λ_=>rfl) (hZ (aj.name rfl rfl (hZ (bD ⟨Xn hi,fQ ⟨_,g_.le (m:=70) (Xj (l:=pg++f5 i (a7.take j)) (x:=x) (y:=toString (i:Int)) h9 (c4▸by decide) (aD n2 (by simp)) c1 f) (by simp),.nil ?_⟩⟩))))))
  refine AI (("row",.dat (cz a7))::("column",.dat (.int i))::mn X dx hl rows iP (pg++f5 i (a7.take (j+1))) aG:List (Str×Bd)) (cA.sub ⟨rfl,rfl,?_,rfl,rfl,rfl,trivial⟩) rfl
  rw[show f5 i (a7.take (j+1))=f5 i (a7.take j)++[(x,(toString (i:Int):Str))] by unfold f5;simp only[tZ G,dJ];rfl,<-c6];rfl
 ·rintro _ rfl
  rw[aR,jY]
  exact .nil (B _ (cA.sub ⟨rfl,rfl,rfl,rfl,trivial⟩))
theorem T8{Inv:Nat->List (Str×Str)->Str->Prop}(H:rows.length=16)(hr:∀r∈rows,r.length<=6/\∀x∈r,fe x=ae)(B:iP.length<=6)
 (f:Inv 0 (kq rows) "")(W:∀i pg aG ys,Inv i pg aG->i<iP.length->ys.Nodup->sortedS ys=ae->(∀x,x∈ys<->∃p∈f6 pg,p.2=x)->mf pg ys≠[]/\∀l∈mf pg ys,Inv (i+1) (pg.filter λp=>p.1 != l) (l++aG))
 (V:∀i pg aG,Inv i pg aG->u0 pg aG)
 (G:∀pg aG,Inv iP.length pg aG->pg=[]/\k (.str aG)):bJ 100 296 [.lst (rows.map cz),.lst (iP.map D.int)] k:=by
 refine bJ.vj aae rfl (.cons (aO.rr (aH:=["page","order"]) (.cons (.cons .nil)) rfl rfl rfl (by decide) (λ_=>rfl) (λab _ jT=>xk jT rfl) (HL (cK.K5 rfl (by simp) λX dx hl=>HL (cK.dat (aj.str (Uj ?_)))))))
 refine aL.sub (ρ:=mn X dx hl rows iP [] "") (.cons (aO.for (λ_ _=>rfl) (bK.call (qX rfl) rfl (d_ (dD 40) (fN.CC (by rw[aR,H];decide) ⟨λi aC=>aC=mn X dx hl rows iP (kq (rows.take i)) "",rfl,?_,?_,?_⟩))))) (cA.sub ⟨rfl,rfl,rfl,rfl,trivial⟩)
 ·rintro i _ rfl;rfl
 ·rintro i d _ hd rfl
  obtain⟨u,Z,rfl⟩:=tW hd
  obtain⟨a7,Y,rfl⟩:∃a7,rows[i]?=aa a7/\u=cz a7:=by
   rw[ci] at Z
   induction q:rows[i]? with
   |none=>replace Z:=q▸Z;exact ns Z
   |some x=>rw[q] at Z;exact⟨x,rfl,(aW Z).symm⟩
  have hi:=(ey.mp Y).1
  have hm:=hr a7 (c5 Y)
  have e:kq (rows.take (i+1))=kq (rows.take i)++f5 i a7:=by
   simp only[tZ Y,VQ,gG,iL (bd hi)]
  refine c0.tup rfl rfl (jE (.name rfl (jE (.name rfl (pD (Xo (cg hi (bn H)) (aD (Xm (rows:=rows.take i) (λr hr'=>(hr r (mB hr')).1) 0:(kq (rows.take i)).length<=_) (by rw[gG];exact Zg (by assumption) (by assumption))) hm.1 hm.2 λρ hs=>?_))))))
  exact⟨_,(e▸hs),rfl⟩
 rintro _ rfl
 simp only[nP,aR,jY]
 refine .cons (aO.Rb (ps:=kq rows) rfl rfl rfl rfl rfl (aD (V _ _ _ f).len (by decide)) (iZ.le (m:=30) (t0 (l:=(kq rows).map bY) (by rw[aR];exact aD (V _ _ _ f).len (by decide)) rfl) (by decide)) (λ_=>rfl) (λ_=>rfl) (aj.tup rfl (by decide) (hZ (aj.str (hZ (aj.str (fQ trivial)))))) ?_)
 refine .cons (aO.for (λ_ _=>rfl) (bK.list (aj.name rfl rfl ⟨_,rfl,by rw[aR];exact bd (aV B (by simp)),λi aC=>∃pg aG,aC=mn X dx hl rows iP pg aG/\Inv i pg aG,⟨_,_,rfl,f⟩,?_,?_,?_⟩)))
 ·rintro i _ ⟨pg,aG,rfl,_⟩;rfl
 ·rintro i d _ hd ⟨pg,aG,rfl,C⟩
  obtain⟨ch,hch,rfl⟩:=ints_get hd
  have hi:=(ey.mp hch).1
  refine c0.name rfl (VP (V i pg aG C) λys y1 y2 y3=>?_)
  refine(W i pg aG ys C hi y1 y2 y3).elim λf1 f2=>?_
  exact⟨f1,λl hl ρ hs=>⟨_,hs,_,_,rfl,f2 l hl⟩⟩
 ·rintro _ ⟨pg,aG,rfl,C⟩
  rw[aR] at C
  obtain⟨rfl,hk⟩:=G pg aG C
  refine cw 1 (aj.rJ uu rfl (.inl rfl) rfl rfl (by decide) rfl (fQ (iZ.le (m:=30) (t0 (l:=([]:List (Str×Str)).map bY) (ck _) ?_) (by decide))))
  exact bq.eqT (.lst .str) (by decide) (kc []) (kc []) λcb oY=>by
   exact(oY.mpr rfl)▸hk
end
structure lC(ss:b0)(i:Nat)(pg:List (Str×Str))(aG:Str):Prop where
 nd:(chars aG).Nodup
 len:(chars aG).length=i
 sub:∀x∈chars aG,x∈ss.map (·.1)
 pg:pg=qj ss (chars aG)
 rows:∀k,k<16->jq ss (cH k)=g7 ss (chars aG) k++(chars aG).filter λx=>iS (bu ss x) (cH k)
theorem nV(G:dg ss){k:Nat}:x∈g7 ss U k<->(x∈ss.map (·.1)/\At ss x (cH k))/\x∉U:=by
 refine ef.trans ?_;rw[G.nY,xc]
theorem YH(G:dg ss)(V:x∈ss.map (·.1)):∃k,k<16/\At ss x (cH k):=
 have o:=G.ok _ (G.mem V)
 ⟨((bu ss x).x0+4).toNat,Y_ o.hi o.lt,Za o.lo,Zb o.lo o.lt⟩
theorem Iu(G:dg ss)(F:Dy ss ((ss.map (·.1)).filter (iC U)) z){k:Nat}(h:z∈g7 ss U k):(g7 ss U k).getLast?=aa z:=
 Xh (K:=λx=>Ht ss x (cH k)) ((J6 ss (cH k)).filter _) h λy V e=>by
  have V:=(nV G).mp V
  exact F.2 _ ((nV G).mp h).1.2 y (ef.mpr ⟨V.1.1,xc.mpr V.2⟩) V.1.2 e
theorem T9{l:Str}(h:fe l=ae):chars (l++aG)=l::chars aG:=by
 obtain⟨c,rfl,_⟩:=pH h
 rw[TQ];rfl
theorem lC.step(G:dg ss)(C:∀p∈ss,fe p.1=ae){pg:List (Str×Str)}(I:lC ss i pg aG)(hi:i<ss.length)(hy:∀x,x∈ys<->∃p∈f6 pg,p.2=x):
 mf pg ys≠[]/\∀l∈mf pg ys,lC ss (i+1) (pg.filter λp=>p.1 != l) (l++aG):=by
 obtain⟨U,hU⟩:∃U,U=chars aG:=⟨_,rfl⟩
 obtain⟨i1,i2,i3,i4,i5⟩:=I
 rw[<-hU] at i1 i2 i3 i4 i5
 subst i4
 have tl:∀{k:Nat},k<16->∀{x:Str},(g7 ss U k).getLast?=aa x->(ik k,x)∈f6 (qj ss U):=λW x h=>lookup_mem ((BA W).trans h)
 constructor
 ·have e8:(ss.map (·.1)).filter (iC U)≠[]:=λe=>by
   have:=pG G.nd (l:=U) λx V=>by
    have:=vF.mp e x V
    rw[xc] at this
    exact Classical.not_not.mp this
   rw[aR] at this;exact gK _ (cg hi (aD this (bn i2)))
  refine(G.free (λx V=>(ef.mp V).1) e8).elim λz F=>?_
  have hz:=ef.mp F.1
  refine zF (a:=z) (ef.mpr ⟨?_,ee.mpr λc hc=>?_⟩)
  ·obtain⟨k,W,ha⟩:=YH G hz.1
   exact(hy z).mpr ⟨_,tl W (Iu G F ((nV G).mpr ⟨⟨hz.1,ha⟩,xc.mp hz.2⟩)),rfl⟩
  ·obtain⟨p,Z,rfl⟩:=bL.mp hc
   have Z:=ef.mp Z
   obtain⟨k,W,B,h2⟩:=rX.mp Z.1
   rw[h2,BA W];exact(eq_of_beq Z.2)▸((Iu G ((eq_of_beq Z.2)▸F) B)▸(beq_self_eq_true _))
 ·intro l hl
  obtain⟨p,Z,rfl⟩:=(hy l).mp (ef.mp hl).1
  obtain⟨q,hq,q1,q2⟩:=Jc Z
  obtain⟨k0,hk0,B,h2⟩:=rX.mp hq
  replace B:=q2▸B
  have f:=(nV G).mp B
  generalize p.2=l at*
  have cp:fe l=ae:=by
   obtain⟨r,hr,e⟩:=bL.mp f.1.1
   exact e▸C r hr
  have ec:chars (l++aG)=l::U:=(T9 cp).trans (hU▸rfl)
  have nf:∀x,iC (l::U) x=((x != l)&&iC U x):=λx=>by
   unfold iC
   simp only[Pb,Bool.not_or];rfl
  have H:∀k,g7 ss (l::U) k=(g7 ss U k).filter λx=>x != l:=λk=>by
   unfold g7
   rw[Pd]
   exact mE λx _=>nf x
  refine⟨?_,?_,?_,?_,?_⟩
  ·rw[ec];exact gH.mpr ⟨f.2,i1⟩
  ·simp only[ec,gF,i2]
  ·rw[ec]
   intro x V
   rcases bT.mp V with rfl|V
   ·exact f.1.1
   ·exact i3 x V
  ·rw[ec]
   show (m8 0 _).filter (λp=>p.1 != l)=m8 0 _
   rw[T2 (λx=>x != l),cJ]
   congr 1
   refine lK λr _=>?_
   exact Pd.trans ((mE λx _=>nf x).symm)
  ·intro k W
   simp only[ec,H,jy,i5 k W]
   have rn:(g7 ss U k).Nodup:=G.KL.sublist vU
   by_cases c:l∈g7 ss U k
   ·have Y:(g7 ss U k).getLast?=aa l:=by
     have:=(ee.mp (ef.mp hl).2) (ik k) (bL.mpr ⟨(l,ik k),ef.mpr ⟨rX.mpr ⟨k,W,c,rfl⟩,beq_self_eq_true _⟩,rfl⟩)
     exact eq_of_beq ((BA W)▸this)
    rw[bo (xb.mpr ((nV G).mp c).1.2:iS (bu ss l) (cH k)=ae)]
    obtain⟨r0,e⟩:∃r0,g7 ss U k=r0++[l]:=by
     rw[Eu] at Y
     exact Y
    rw[e] at rn⊢
    have adj:∀x∈r0,(x != l)=ae:=λx V=>bne_iff_ne.mpr λe'=>by
     have:=(kE.mp rn).2.2 x V l bi
     exact this e'
    rw[s4,zx.mpr adj,jy,be (by simp),FL,cR,c6];rfl
   ·rw[be (λh=>c ((nV G).mpr ⟨⟨f.1.1,xb.mp h⟩,f.2⟩):¬iS (bu ss l) (cH k)=ae),zx.mpr λx V=>bne_iff_ne.mpr λe=>by subst e;exact c V]
theorem lC.zero(ss:b0):lC ss 0 (kq (dn ss)) "":=by
 have e:∀r:List Str,r.filter (iC [])=r:=λr=>zx.mpr λ_ _=>rfl
 refine⟨jX,rfl,nofun,?_,λk _=>?_⟩
 ·show _=kq ((dn ss).map λr=>r.filter (iC []))
  rw[show (λr:List Str=>r.filter (iC []))=_root_.id from funext e,Rs]
 ·show _=(jq ss (cH k)).filter (iC [])++[]
  rw[e,cR]
theorem xY(G:dg ss)(hl:ss.length<=6){r:List Str}(hr:r∈dn ss):r.length<=6/\∀x∈r,x∈ss.map (·.1):=by
 obtain⟨c,_,rfl⟩:=bL.mp hr
 have h:∀x∈jq ss c,x∈ss.map (·.1):=λx V=>(G.nY.mp V).1
 refine⟨?_,h⟩
 have:=pG (G.KL (c:=c)) h
 rw[aR] at this
 exact aD this hl
theorem lC.bnd(G:dg ss)(hl:ss.length<=6)(V:∀p∈ss,fe p.1=ae){pg:List (Str×Str)}(I:lC ss i pg aG):
 u0 pg aG:=by
 have ep:=I.pg
 refine⟨?_,λp Y=>?_,?_,λc=>VN,?_⟩
 ·rw[ep]
  have:=VL (n:=0) (rows:=(dn ss).map λr=>r.filter (iC (chars aG))) λr hr=>by
   obtain⟨f,W,rfl⟩:=bL.mp hr
   exact aD (kB _ _) (xY G hl W).1
  rw[aR,nN] at this
  exact this
 ·rw[ep] at Y
  obtain⟨k,_,W,_⟩:=rX.mp Y
  obtain⟨r,hr,e⟩:=bL.mp ((nV G).mp W).1.1
  exact e▸V r hr
 ·have:=pG I.nd I.sub
  rw[aR] at this
  rw[<-iN];exact aD this hl
 ·have:=pG (AB pg) (l:=(dK 16).map ik) λx H=>by
   obtain⟨p,Y,rfl⟩:=bL.mp H
   obtain⟨q,Z,e,_⟩:=Jc Y
   rw[ep] at Z
   obtain⟨k,C,_,B⟩:=rX.mp Z
   exact bL.mpr ⟨k,gi.mpr C,by simp only[<-e,B]⟩
  simp only[aR,aR,kD] at this
  exact this
theorem Xp[DecidableEq α]{a b:List α}(Y:a.Nodup)(W:b.Nodup)(h:∀x∈a,x∈b)(hl:b.length<=a.length):a.Perm b:=by
 refine(Er Y W).mpr λx=>⟨h x,λZ=>ba λq=>?_⟩
 have:=pG (b:=x::a) (l:=b) (gH.mpr ⟨q,Y⟩) λy V=>by
  rcases bT.mp V with rfl|V
  ·exact Z
  ·exact h y V
 exact gK _ (aV hl (s_ this))
theorem lC.fin(G:dg ss){pg:List (Str×Str)}(I:lC ss ss.length pg aG):pg=[]/\fq ss aG:=by
 have pm:(chars aG).Perm (ss.map (·.1)):=Xp I.nd G.nd I.sub (by simp only[aR,I.len];exact bv _)
 have e:∀k,g7 ss (chars aG) k=[]:=λk=>NC.mpr λx W=>by
  have:=(nV G).mp W
  exact this.2 (pm.mem_iff.mpr this.1.1)
 refine⟨NC.mpr λp V=>?_,pm,λc Z=>?_⟩
 ·rw[I.pg] at V
  obtain⟨k,_,Y,_⟩:=rX.mp V
  rw[e] at Y;exact nomatch Y
 ·obtain⟨k,H,rfl⟩:=Hu.mp Z
  have:=I.rows k H
  simp only[e,zU] at this
  exact this
theorem YI(G:dg ss)(hl:ss.length<=6)(V:∀p∈ss,fe p.1=ae){W:List Int}(Y:W.length=ss.length)(Z:∀aG,fq ss aG->k (.str aG)):bJ 100 296 [.lst ((dn ss).map cz),.lst (W.map D.int)] k:=
 T8 (Inv:=lC ss) (nN ss) (λr hr=>⟨(xY G hl hr).1,λx H=>by
  obtain⟨p,C,e⟩:=bL.mp ((xY G hl hr).2 x H)
  exact e▸V p C⟩) (aD (bn Y) hl) (lC.zero ss) (λi pg aG ys I hi _ _ B=>I.step G V (cg hi (bn Y)) B) (λi pg aG I=>I.bnd G hl V) λpg aG I=>by
  rw[Y] at I
  exact⟨(I.fin G).1,Z _ (I.fin G).2⟩
theorem T':((dK 16).all λa=>(dK 16).all λb=>(dY (cH a)==dY (cH b))==(a==b))=ae:=by decide+kernel
theorem Jg{a:Nat}(V:a<16)(Y:b<16):(dY (cH a)==dY (cH b))=(a==b):=by
 have h:=T'
 rw[ee] at h
 have h:=h a (gi.mpr V)
 rw[ee] at h
 exact eq_of_beq (h b (gi.mpr Y))
noncomputable abbrev vn:=List (Str×Str)
noncomputable def putL(pg:vn)(p:Str×Str):vn:=pg.filter (λq=>q.1 != p.1)++[p]
noncomputable def lowP(p:Str×Str):Str×Str:=(cf p.1,p.2)
theorem VR:∀(l pg:vn),(l.foldl ll pg).map lowP=(l.map lowP).foldl putL (pg.map lowP):=by
 intro Y
 induction Y with
 |nil=>
  intro _
  exact rfl
 |cons p r V=>
  intro pg
  simp only[iq,d7,iq,V]
  congr 1
  delta ll putL
  simp only[dJ,qR];rfl
theorem SE(l:vn):((l.foldl putL []).map (·.1)).Nodup/\∀p,p∈l.foldl putL []<->(l.filter λq=>q.1==p.1).getLast?=aa p:=by
 refine snocInd (P:=λl:vn=>((l.foldl putL []).map (·.1)).Nodup/\∀p,p∈l.foldl putL []<->(l.filter λq=>q.1==p.1).getLast?=aa p) ⟨jX,λp=>⟨nofun,nofun⟩⟩ (λl a V=>?_) l
 refine lO▸?_
 show ((putL (l.foldl putL []) a).map (·.1)).Nodup/\∀p,p∈putL (l.foldl putL []) a<->_
 generalize l.foldl putL []=L at V
 unfold putL
 refine⟨?_,λp=>?_⟩
 ·rw[dJ]
  refine kE.mpr ⟨V.1.sublist (vU.map _),my _ _,λx Y y W e=>?_⟩
  obtain⟨q,Z,rfl⟩:=bL.mp Y
  exact bne_iff_ne.mp (ef.mp Z).2 (e.trans (a_.mp W:y=a.1))
 ·rw[cQ,ef,V.2,s4,jy,FL,a_]
  by_cases q:a.1=p.1
  ·rw[bo (beq_iff_eq.mpr q),qC]
   constructor
   ·rintro(⟨_,h⟩|h)
    ·exact aZ q.symm (bne_iff_ne.mp h)
    ·rw[h];rfl
   ·intro h;exact .inr (aW h).symm
  ·rw[be (λh=>q (eq_of_beq h)),cR]
   constructor
   ·rintro(⟨h,_⟩|h)
    ·exact h
    ·exact aZ (by rw[h]) q
   ·intro h;exact .inl ⟨h,bne_iff_ne.mpr λe=>q e.symm⟩
theorem Xq(ss:b0)(U:List Str)(Y:∀x∈U,∀c∈dR (bu ss x),-4<=c/\c<=15):(ux ss U).map lowP=U.flatMap λx=>(dR (bu ss x)).map λc=>(dY c,x):=by
 have V:∀(U:List Str) (n:Nat),(∀x∈U,∀c∈dR (bu ss x),-4<=c/\c<=15)->(((U.zipIdx n).map λp=>jo ss p.2 p.1).flatten).map lowP=U.flatMap λx=>(dR (bu ss x)).map λc=>(dY c,x):=by
  intro U
  induction U with
  |nil=>intro n _;rfl
  |cons x r W=>
   intro n h
   simp only[Fv,d7,vZ,dJ,W (n+1) λy Z=>h y (bM _ Z),Fd]
   congr 1
   refine cJ.trans ?_
   refine lK λc H=>?_
   have:=h x bi c H
   exact aQ (·,x) (xF this.1 this.2).2.2.1
 exact V U 0 Y
theorem BC{s:c_}(h:fH s){c:Int}(V:c∈dR s):∃k,k<16/\c=cH k:=by
 have q:=xb.mp (w8.mp V)
 have Y:=h.lo;have W:=h.hi
 unfold lq at q
 exact⟨(c+4).toNat,by exact XG (by assumption) (by assumption),by unfold cH;exact Zc (by assumption) (by assumption)⟩
theorem VS(s:c_):(dR s).Nodup:=by
 refine qK.mpr (zO.imp λ{a b} h e=>h ?_)
 exact XO (by assumption)
theorem SF[DecidableEq α]{a:α}:∀{l:List α},l.Nodup->(l.filter λx=>x==a)=if a∈l then [a] else []:=by
 intro Y
 induction Y with
 |nil=>
  intro _
  exact rfl
 |cons x r V=>
  intro h
  have h:=gH.mp h
  refine jy.trans ?_
  by_cases q:x=a
  ·subst q
   refine(bo (beq_self_eq_true _)).trans ?_;rw[bo bi,V h.2,be h.1]
  ·refine(be (λe=>q (eq_of_beq e))).trans ?_;refine(V h.2).trans ?_
   by_cases m:a∈r
   ·rw[bo m,bo (bM _ m)]
   ·rw[be m,be (λe=>(bT.mp e).elim (λe=>q e.symm) m)]
theorem RS(G:dg ss){k:Nat}(Y:k<16):∀(U:List Str),(∀x∈U,x∈ss.map (·.1))->((U.flatMap λx=>(dR (bu ss x)).map λc=>(dY c,x)).filter λq=>q.1==dY (cH k))=(U.filter λx=>iS (bu ss x) (cH k)).map λx=>(dY (cH k),x):=by
 intro W
 induction W with
 |nil=>
  intro _
  exact rfl
 |cons x r V=>
  intro h
  simp only[Fd,s4,V λy Z=>h y (bM _ Z),qR,jy]
  have e:(dR (bu ss x)).filter ((λq=>q.1==dY (cH k))∘λc=>(dY c,x))=(dR (bu ss x)).filter λc=>c==cH k:=mE λc H=>by
   obtain⟨j,C,rfl⟩:=BC (G.ok _ (G.mem (h x bi))) H
   show (dY (cH j)==dY (cH k))=(cH j==cH k)
   rw[Jg C Y,hO,beq_iff_eq,beq_iff_eq]
   unfold cH
   exact Zt _ _
  rw[e,SF (VS _)]
  by_cases c:cH k∈dR (bu ss x)
  ·rw[bo c,bo (w8.mp c)];rfl
  ·rw[be c,be λh=>c (w8.mpr h)];rfl
theorem VT{p:Str×Str}:p∈oJ rows<->∃(k:Nat) (r:List Str),rows[k]?=aa r/\p.1=dY (cH k)/\r.getLast?=aa p.2:=by
 refine bL.trans ?_
 have last:∀r:List Str,∀x,(r≠[]/\r.getLastD default=x)<->r.getLast?=aa x:=λr x=>by
  induction r with
  |nil=>exact⟨λh=>aZ rfl h.1,nofun⟩
  |cons a r=>
   rw[NQ,vr (mG a r)]
   exact⟨λh=>aQ aa h.2,λh=>⟨mG a r,aW h⟩⟩
 have V:∀k:Nat,(k:Int)-4=cH k:=λk=>by unfold cH;exact Ka _
 constructor
 ·rintro⟨⟨r,k⟩,h,rfl⟩
  refine⟨k,r,(vu.mp (ef.mp h).1),by rw[<-V],(last r _).mp ⟨λe=>?_,rfl⟩⟩
  subst e
  exact ft ((ef.mp h).2)
 ·rintro⟨k,r,Y,W,h3⟩
  have h3:=(last r _).mpr h3
  refine⟨(r,k),ef.mpr ⟨vu.mpr Y,?_⟩,?_⟩
  ·induction r with
   |nil=>exact aZ rfl h3.1
   |cons _ _=>rfl
  ·obtain⟨p1,p2⟩:=p
   simp only[V,h3.2,<-show p1=_ from W]
theorem Xr(h:rows.length<=16):(oJ rows).Nodup:=by
 refine qK.mpr ?_
 have H:(rows.zipIdx.map (·.2)).Nodup:=by
  simp only[List.zipIdx_map_snd,List.range'_eq_map_range]
  refine qK.mpr (zO.imp λ{a b} h e=>h ?_)
  exact abx (by assumption)
 have:=qK.mp H
 have W:∀p∈rows.zipIdx,p.2<16:=λp G=>by
  have:=(ey.mp (vu.mp G)).1
  exact cg this h
 have V:∀{a b:List Str×Nat},a∈rows.zipIdx->b∈rows.zipIdx->a.2≠b.2->(dY ((a.2:Int)-4),a.1.getLastD default)≠(dY ((b.2:Int)-4),b.1.getLastD default):=λ{a b} C B Y e=>by
  refine Y ?_
  have e:=aQ Ud e
  have Z:∀k:Nat,(k:Int)-4=cH k:=λk=>by unfold cH;exact Ka _
  have e:dY ((a.2:Int)-4)=dY ((b.2:Int)-4):=e
  rw[Z,Z] at e
  have:=Jg (W a C) (W b B)
  rw[e,beq_self_eq_true] at this
  exact eq_of_beq this.symm
 exact(adE V this).sublist vU
theorem T_{f:α->β}{l:List α}(h:(l.map f).Nodup):l.Nodup:=(qK.mp h).imp λh e=>h (aQ f e)
theorem VU(G:dg ss)(hl:ss.length<=6)(W:∀p∈ss,fe p.1=ae)(O:fq ss aG)(V:k (.bool ae)):bJ 80 301 [.str aG,jf ss,.lst ((dn ss).map cz)] k:=by
 have sub:∀x∈chars aG,x∈ss.map (·.1):=λx Y=>O.perm.mem_iff.mp Y
 have cp:∀x∈chars aG,fe x=ae:=λx Y=>by
  obtain⟨p,H,e⟩:=bL.mp (sub x Y)
  exact e▸W p H
 refine RR G.nd G.ok (λx Y=>⟨sub x Y,(l6 (cp x Y)).1.2.2.1,((l6 (cp x Y)).1.2.2.2.1)▸(bv _)⟩) ?_ (nN ss) (λr hr=>(xY G hl hr).1) ?_ V
 ·rw[<-iN,O.perm.length_eq,aR];exact hl
 ·have e:(jK ss (chars aG)).map lowP=((chars aG).flatMap λx=>(dR (bu ss x)).map λc=>(dY c,x)).foldl putL []:=by
   unfold jK
   rw[VR,Xq ss _ λx Y c C=>?_];rfl
   obtain⟨k,V,rfl⟩:=BC (G.ok _ (G.mem (sub x Y))) C
   unfold cH;exact Zu (by assumption)
  show ((jK ss (chars aG)).map lowP).Perm _
  rw[e]
  refine(SE ((chars aG).flatMap λx=>(dR (bu ss x)).map λc=>(dY c,x))).elim λf1 f2=>?_
  refine(Er (T_ f1) (Xr (by rw[nN];decide))).mpr λp=>?_
  rw[f2,VT]
  have Z:∀k,k<16->p.1=dY (cH k)->(((chars aG).flatMap λx=>(dR (bu ss x)).map λc=>(dY c,x)).filter λq=>q.1==p.1)=(jq ss (cH k)).map λx=>(dY (cH k),x):=λk V e=>by
   rw[e,RS G V _ sub,<-O.rows _ (Hu.mpr ⟨k,V,rfl⟩)];rfl
  constructor
  ·intro h
   have B:=ef.mp (qD h)
   refine ba λN_=>?_
   obtain⟨x,Y,B⟩:=zM.mp B.1
   obtain⟨c,C,H⟩:=bL.mp B
   obtain⟨k,V,rfl⟩:=BC (G.ok _ (G.mem (sub x Y))) C
   apply N_
   have e1:p.1=dY (cH k):=by exact aQ _ H.symm
   rw[Z k V e1,qL] at h
   refine⟨k,_,Ba V,e1,?_⟩
   induction q:(jq ss (cH k)).getLast? with
   |none=>rw[q] at h;exact ns h
   |some y=>rw[q] at h;rw[<-aW h]
  ·rintro⟨k,r,f,h2,h3⟩
   have V:k<16:=by have:=(ey.mp f).1;rw[nN] at this;exact this
   rw[Ba V] at f
   obtain rfl:=aW f
   simp only[Z k V h2,qL,h3]
   obtain⟨p1,p2⟩:=p
   show aa (dY (cH k),p2)=_
   rw[<-show p1=_ from h2]
theorem SG{K V:Str->Int}:∀{l:List Str},(∀y∈l,(K x<K y<->V x<V y))->iD K x l=iD V x l:=by
 intro W
 induction W with
 |nil=>
  intro _
  exact rfl
 |cons y r Y=>
  intro h
  dsimp only[iD]
  have e:=h y bi
  by_cases q:K x<K y
  ·rw[bo q,bo (e.mp q)]
  ·rw[be q,be (λh=>q (e.mpr h)),Y λz Z=>h z (bM _ Z)]
theorem RT{K V:Str->Int}(l:List Str):(∀x∈l,∀y∈l,(K x<K y<->V x<V y))->eV K l=eV V l:=by
 refine snocInd (P:=λl=>(∀x∈l,∀y∈l,(K x<K y<->V x<V y))->eV K l=eV V l) (λ_=>rfl) (λl a W h=>?_) l
 simp only[wS,wS,<-W λx Z y Y=>h x (sZ _ Z) y (sZ _ Y)]
 refine SG λy Y=>h a (o3 _ bi) y (sZ _ ?_)
 exact(nQ K l).2.mem_iff.mp Y
theorem KN{p q:α->Bool}:∀{T:List α},(∀z∈T,p z=ae->q z=ae)->(T.filter p).length<=(T.filter q).length:=by
 intro W
 induction W with
 |nil=>
  intro _
  exact bv _
 |cons a r V=>
  intro h
  have Y:=V λz Z=>h z (bM _ Z)
  have:=h a bi
  simp only[jy,jy]
  cases H:p a
  ·cases G:q a
   ·exact Y
   ·exact v6 Y
  ·rw[this H];exact nF Y
theorem KO{p q:α->Bool}{x:α}(V:p x=aI)(Y:q x=ae):∀{T:List α},x∈T->(∀z∈T,p z=ae->q z=ae)->(T.filter p).length<(T.filter q).length
 |a::r,W,h=>by
  have hr:=λz G=>h z (bM _ G)
  have:=h a bi
  simp only[jy,jy]
  refine(bT.mp W).elim (λZ=>?_) λW=>?_
  ·subst Z;rw[V,Y];exact jW (KN (p:=p) (q:=q) (T:=r) hr)
  ·have H:=KO V Y W hr
   cases V:p a
   ·cases Y:q a
    ·exact H
    ·exact lP H
   ·rw[this V];exact PE H
theorem dg.cnt(G:dg ss)(c:Int):eV (K1 (gw ss) c) (eU ss c)=eV (qf ss c) (eU ss c):=by
 have ok:∀{x},x∈eU ss c->fH (bu ss x):=λh=>G.ok _ ((tO G.nd).mp h).1
 have W:∀{x y},x∈eU ss c->y∈eU ss c->(decide (0<er (bu ss x) (bu ss y) c)=ae<->Ht ss y c<Ht ss x c):=λV Y=>by
  rw[decide_eq_true_eq];exact(Jb (ok V) (ok Y) c).1
 refine RT _ λx V y Y=>?_
 rw[uK,uK]
 have H:∀{x y},x∈eU ss c->y∈eU ss c->Ht ss x c<=Ht ss y c->qf ss c x<=qf ss c y:=λ{x y} V Y h=>by
  have:=KN (p:=λz=>decide (0<er (bu ss x) (bu ss z) c)) (q:=λz=>decide (0<er (bu ss y) (bu ss z) c)) (T:=eU ss c) λz Z q=>(W Y Z).mpr (by have:=(W V Z).mp q;exact la this h)
  exact fW.mpr this
 constructor
 ·intro h
  have:=KO (p:=λz=>decide (0<er (bu ss x) (bu ss z) c)) (q:=λz=>decide (0<er (bu ss y) (bu ss z) c)) (x:=x) (qJ.mpr λq=>by have:=(W V V).mp q;exact ph _ this) ((W Y V).mpr h) V λz Z q=>(W Y Z).mpr (by have:=(W V Z).mp q;exact Gu this h)
  exact eJ.mpr this
 ·intro h
  by_cases q:Ht ss x c<Ht ss y c
  ·exact q
  ·have:=H Y V (dU.mp q);exact aZ (by assumption) (dU.mpr (by assumption))
theorem J8{X k p:Int}(V:0<k)(h:X*k=p-q):0<X<->q<p:=(mul_pos_iff V).symm.trans ((iff_of_eq (aQ (0<·) h)).trans ⟨Pt,zH⟩)
theorem dg.fl(G:dg ss){c:Int}(Z:y∈eU ss c)(s:Int):(0<er (iU c s) (bu ss y) c<->K1 (gw ss) c y<60*s)/\(0<=er (iU c s) (bu ss y) c<->K1 (gw ss) c y<60*s+1):=by
 refine(Dw (G.ok _ ((tO G.nd).mp Z).1)).elim λw V=>V.elim λk W=>?_
 have c1:c+1-c=1:=(aQ (·-c) (gY c 1)).trans (mD 1 c)
 have H:kn (iU c s) c=s:=by
  show s*(c+1-c)+(s-s)*(c-c)=s
  simp only[An c,Gz,tF,c1,GL]
 have e:er (iU c s) (bu ss y) c=s*w-kn (bu ss y) c:=by
  show kn (iU c s) c*((bu ss y).x1-(bu ss y).x0)-kn (bu ss y) c*(c+1-c)=_
  simp only[H,W.ew,c1,GL]
 rw[e,((uK ..).trans (W.h c):K1 (gw ss) c y=kn (bu ss y) c*k)]
 have Y:(s*w-kn (bu ss y) c)*k=60*s-kn (bu ss y) c*k:=by
  rw[Rq,Int.mul_assoc,W.wk,wz s]
 exact⟨J8 W.kp Y,dU.symm.trans ((not_congr (Rt.symm.trans (J8 W.kp (by rw[tH,Y,Aq])))).trans (dU.trans Int.lt_add_one_iff.symm))⟩
theorem rh{a7:List Str}{a:Str}(h:seenOf a7=a)(V:a≠"-"):a7.getLast?=aa a:=by
 unfold seenOf at h
 induction q:a7.getLast? with
 |none=>exact aZ (q▸h).symm V
 |some b=>rw[q] at h;exact aQ aa h
theorem Jh{c:Int}{a b:Str}(h:(jq ss c).getLast?=aa a)(V:b∈jq ss c):Ht ss b c<=Ht ss a c:=by
 have hs:=J6 ss c
 generalize jq ss c=l at*
 rw[Eu] at h
 obtain⟨r,rfl⟩:=h
 rcases cQ.mp V with V|V
 ·exact(lJ.mp hs).2.2 b V a bi
 ·exact(a_.mp V)▸(pn _)
theorem dg.ds(G:dg ss){a b:Str}(C:a≠"-")(B:b≠"-")(ne:a≠b):¬[a,b,a,b].Sublist ((dn ss).map seenOf):=by
 intro h
 have e:(dn ss).map seenOf=(dK 16).map λk=>seenOf (jq ss (cH k)):=by
  delta dn d6
  rw[cJ,cJ];rfl
 rw[e] at h
 obtain⟨l,hl,V⟩:=List.sublist_map_iff.mp h
 obtain⟨k1,l,rfl,e1,V⟩:=vP.mp V.symm
 obtain⟨W,l,rfl,e2,V⟩:=vP.mp V
 obtain⟨Z,l,rfl,e3,V⟩:=vP.mp V
 obtain⟨k4,l,rfl,e4,V⟩:=vP.mp V
 obtain rfl:=zw.mp V
 ·skip
  have p:=List.pairwise_lt_range.sublist hl
  simp only[fU,bT,ca,or_false] at p
  have f:=G.nY.mp (qD (rh e1 C))
  have H:=G.nY.mp (qD (rh e2 B))
  have m3:=G.nY.mp (qD (rh e3 C))
  have l12:=p.1 W (.inl rfl)
  have l23:=p.2.1 Z (.inl rfl)
  have l34:=p.2.2.1 k4 rfl
  have c12:cH k1<cH W:=B7 (by assumption)
  have Y:cH W<cH Z:=B7 (by assumption)
  have c34:cH Z<cH k4:=B7 (by assumption)
  have a2:At ss a (cH W):=⟨by have:=f.2.1;exact du (jw this c12),by have:=m3.2.2;exact du (la Y this)⟩
  have b3:At ss b (cH Z):=⟨by have:=H.2.1;exact du (jw this Y),by have:=(G.nY.mp (qD (rh e4 B))).2.2;exact du (la c34 this)⟩
  rcases G.two f.1 H.1 ne with t|t
  ·have:=t _ m3.2 b3;exact ph _ (jw (Jh (rh e3 C) (G.nY.mpr ⟨H.1,b3⟩)) this)
  ·have:=t _ a2 H.2;exact ph _ (jw (Jh (rh e2 B) (G.nY.mpr ⟨f.1,a2⟩)) this)
theorem jl.of(G:dg ss)(hl:ss.length<=6)(V:∀p∈ss,fe p.1=ae):jl ss:=
 ⟨G.ok,G.nd,hl,V,λc _=>G.cnt c,λc _ y W s _=>G.fl W s,λH k Z Y=>YI G hl V Z Y,λaG k O Y=>VU G hl V O Y⟩
theorem SH(l:List (Int×Str)):(l.map (·.2)).Nodup->dg (eT l):=by
 refine snocInd (P:=λl=>(l.map (·.2)).Nodup->dg (eT l)) (λ_=>⟨jX,λ_ h=>aZ h ca,λ_ h=>aZ h ca⟩) (λl a W h=>?_) l
 rw[dJ] at h
 have Y:=kE.mp h
 rw[Ag]
 rcases I3 (eT l) a with e|⟨Z,V,e⟩
 ·rw[e];exact W Y.1
 ·rw[e]
  exact(W Y.1).snoc (λq=>Y.2.2 _ ((tx l).2.subset q) a.2 bi rfl) (xE Z) V
theorem YJ{ns:List Int}(hl:ns.length=6):dg (eT (ns.zip (chars lets)))/\jl (eT (ns.zip (chars lets))):=by
 have V:(ns.zip (chars lets)).map (·.2)=chars lets:=by rw[Fm];rw[hl];exact bv 6
 have G:=SH (ns.zip (chars lets)) (by rw[V];decide)
 have f:=(tx (ns.zip (chars lets))).2
 simp only[V] at f
 refine⟨G,jl.of G ?_ λp Y=>?_⟩
 ·have:=f.length_le
  rw[aR] at this
  exact this
 ·have:∀x∈chars lets,fe x=ae:=by decide
  exact this _ (f.subset (kC (f:=(·.1)) Y))
theorem VV{ns:List Int}(G:dg ss)(L:jl ss)(hl:ns.length=6){k:Fl->ay->Prop}(Y:∀ρ,k (.ret (.bool ae)) ρ):aL 210 (fs 33) (Mt ns ss) m6 k:=by
 refine TW L hl λaG O=>?_
 have V:=Io L O
 refine .cons (TS L O (.cons (VA L O (.cons (VB L O (.cons (T1 L O (λa b W Z H=>G.ds ?_ ?_ H) (.cons (Sx L O (RN L O ?_))))))))))
 ·rintro rfl;exact aZ W (by decide)
 ·rintro rfl;exact aZ Z (by decide)
 ·have fm:(yB ss aG).length=uZ ss aG:=xq _ _ _
  exact Xa (wH ss aG) (place_lt L O) rfl (by rw[fm];exact V.1) V.2.2 (Xc (O.ok L) (wH ss aG) (by rw[fm];exact V.1) (fm▸V.2.1) (by
   exact cJ.trans (lK λa7 hr=>Xb (O.ok L) O hr)) Y)
noncomputable def bases:List Int:=[609976,697707,400283,520681,528396,409768]
theorem SI{k:Nat}:(kI l (aa (k:Int)) (aa 60) (aa 6)).length<=100:=by
 refine aD (vD _ _) ?_
 have R:∀{a b:Int},0<=a->b<=60->(rm a b 6).length<=100:=λ{a b} V Y=>by
  dsimp only[rm]
  rw[aR,kD,bo (by decide)]
  split
  ·exact YQ Y V
  ·exact ck _
 exact R (zT 0 _) (tL.mpr ⟨by decide,Int.min_le_left _ _⟩)
theorem ints_of(h:∀d∈l,∃x,d=.int x):∃ys:List Int,l=ys.map D.int:=by
 induction l with
 |nil=>exact⟨[],rfl⟩
 |cons a r V=>
  obtain⟨x,rfl⟩:=h a bi
  obtain⟨ys,rfl⟩:=V λd hd=>h d (bM _ hd)
  exact⟨x::ys,rfl⟩
theorem G3(dF:List Int)(k:Nat):∃ys:List Int,kI (dF.map D.int) (aa (k:Int)) (aa 60) (aa 6)=ys.map D.int:=ints_of λd hd=>by
 obtain⟨x,_,rfl⟩:=bL.mp (Hl hd)
 exact⟨x,rfl⟩
noncomputable def so(dF:List Int)(k:Nat):List Int:=PI (G3 dF k)
theorem VW(dF:List Int)(k:Nat):kI (dF.map D.int) (aa (k:Int)) (aa 60) (aa 6)=(so dF k).map D.int:=Op (G3 dF k)
noncomputable def numsOf(dF:List Int):List Int:=bases.zipIdx.map λa=>a.1+((so dF a.2).map λi=>i%1026432).sum
theorem RU{dF:List Int}(hs:dF.length<=63){k:Fl->ay->Prop}(V:k .next (("numbers",.dat (.lst ((numsOf dF).map D.int)))::("script",.dat (.lst (dF.map D.int)))::[]:List (Str×Bd))):aO 210 (fs 33) ([("script",.dat (.lst (dF.map D.int)))]:List (Str×Bd)) (match fb 33 with|s::_=>s|[]=>.Pass {line:=0,col:=0,endLine:=0,endCol:=0}) k:=by
 refine aO.wR rfl (λ_ _=>rfl) rfl rfl (dj.mt (α:=Int×Nat) (c1:=λa=>.int (a.2:Nat)) (c2:=λa=>.int a.1) (xv Inj.int) rfl (bK.call (qX rfl) rfl (d_ (dD 40) (fN.Z4 (l:=bases.map D.int) (by decide) ⟨bases.zipIdx,λa=>.int (a.1+((so dF a.2).map λi=>i%1026432).sum),w_ _ _,λa Y=>?_,?_⟩))))
 ·refine bD (aj.comp rfl (λ_ _=>rfl) (dj.mx Inj.int rfl (bK.list (bD (bQ (by rw[aR];exact bd (aV hs (by simp))) ⟨_,rfl,aD SI (by simp),so dF a.2,λi=>.int (i%1026432),VW _ _,λi _=>bD rfl,?_⟩)))))
  refine bk.vm (aQ (λl=>[D.lst l]) (show (so dF a.2).map (λi=>D.int (i%1026432))=((so dF a.2).map λi=>i%1026432).map D.int by rw[cJ];rfl)) (bk.C7 rfl)
 ·unfold numsOf at V
  exact(cJ▸V)
theorem BD(dF:List Int):(numsOf dF).length=6:=by rfl
theorem VX{dF:List Int}(hs:dF.length<=63)(R:Rm 210 A)(Z:A.frames=aa [ab])(B:ab.frame=aa ab.locals):
 jP w A ab mu aw aE (fs 33) ([("script",.dat (.lst (dF.map D.int)))]:List (Str×Bd)) (fb 33) (λfl _=>fl=.ret (.bool ae)):=by
 refine jP.cons R (RU hs ?_)
 intro s g aB H E
 obtain⟨G,L⟩:=YJ (BD dF)
 refine mF (bg (RI (ns:=numsOf dF) H (R.le (by simp)) Z B rfl rfl ⟨rfl,rfl⟩ (BD dF)) (λf aA ⟨aN,C,fl,W,V,Y,e1,e2⟩=>?_))
 subst e1 e2
 induction f<;>first|exact Y.elim|skip
 exact(VV G L (BD dF) λρ=>rfl).run w A ab _ _ _ _ _ _ (V.weaken (cA.sub ⟨rfl,rfl,rfl,trivial⟩)) R E
theorem VY{dF:List Int}(hs:dF.length<=63)(S:St w s g)(R:Rm 212 A)(Y:A.frames=aa [])(r:aP w g vs [.lst (dF.map D.int)])
 (hQ:∀s' g',Nx [] s g s' g'->St w s' g'->Q (.bool ae) s'):wpAny (model PG w) A (call (.ref 320) vs) Q E s:=by
 obtain⟨doc,pm,bA,ct,an,hk,W⟩:=CS.def_.at_ w
 have q:=(bB _ _).mp CS.ok
 have C:dQ w s g [] (fs 33) [] [] (λ_=>[]):=dQ.nil λx e=>by
  have:=ee.mp ((bB _ _).mp q.2).1 _ (ez e)
  exact ft this
 refine lU (mO (wZ (Q:=Q) S R (cW.dat r) (S.df _ _ hk) rfl (CodeRec.of_K S W) C (.inl rfl) (CS.binds doc pm bA ct an s vs r.1) rfl (λc q e=>ns e) q.1 E λab aA aB V H=>?_) λr s' hr=>?_)
 ·refine bg (VX hs ((R.le (jD _)).deeper:Rm 210 (A.deeper ab)) (EK Y) V _ _ _ (rA▸H) _) (λf s' ⟨g',aC,fl,Z,G,B,e1⟩=>?_)
  subst e1
  induction f<;>first|exact B.elim|skip
  cases B
  exact hQ _ _ G.nx G.st
 ·exact nS r hr (λ_ h=>h) λ_ h=>h
theorem VZ{i:Int}(H:Well w.params h v (.int i)):∃t,v=.int i t:=E5 ((encInt PG w).is H).1
theorem aaf{V:a9}{xs:List pY}:∀{vs:List ai},BG V.params h vs xs->(∀x∈xs,∃i,x=.int i)->∃l:List Int,l.length=xs.length/\∀(w:a9) (g:aY),aP w g vs (l.map D.int):=by
 induction xs with
 |nil=>intro vs H _;cases H;exact⟨[],rfl,λ_ _=>aP.nil⟩
 |cons x xs W=>
  intro vs H Y
  obtain⟨v,vs,rfl,Z,G⟩:=PN H
  obtain⟨i,rfl⟩:=Y _ bi
  obtain⟨l,hl,hr⟩:=W G λx C=>Y x (bM _ C)
  obtain⟨t,rfl⟩:=VZ Z
  exact⟨i::l,aQ (·+1) hl,λw g=>aP.cons (.int _ _) (hr w g)⟩
theorem Gh{R:WRecords}:∀{xs:List pY},WShape.hasItems R xs .int=ae->∀x∈xs,∃i,x=.int i
 |y::r,h,x,V=>by
  rcases bT.mp V with rfl|V
  ·exact hasW_int (vI.mp h).1
  ·exact Gh (vI.mp h).2 x V
theorem Xs{args:List pY}(h:jR.claim.pre args=ae):∃xs:List pY,args=[.list xs]/\xs.length<=63/\∀x∈xs,∃i,x=.int i:=by
 refine(pre_splitW h).elim λY V=>?_
 obtain⟨d,r,rfl,h3,W⟩:=hasAllW_cons Y
 obtain rfl:=hasAllW_nil W
 obtain⟨xs,rfl,Z⟩:=hasW_list h3
 refine⟨xs,rfl,de.mp λq=>?_,Gh Z⟩
 have e:SR jR.records jR.pre {args:=[.list xs]}=(match (aa (WData.bool (!decide ((63:Int)<xs.length))):Option pY) with
  |some (.bool aI)=>aa (.bool aI)
  |some (.bool ae)=>aa (.bool ae)
  |_=>ak):=by rfl
 unfold AS at V
 have H:(63:Int)<(xs.length:Int):=eJ.mpr q
 rw[e,eP H] at V
 exact ft V
theorem YK{t:ag×ag×Str}(V:t∈fu)(w:a9):codeHdIn (KH w) t.1 t.2.1=ae:=by
 simp only[fu,bT,ca,or_false] at V
 rcases V with rfl|rfl|rfl|rfl<;>rfl
theorem DN{mg mb:Str->Option ai}{l:ag}(C:s.heap.Ns e9 mg)(f:s.heap.Ns iM mb)(hn:s.heap.NoLimit)(V:∀x:Str,x≠"__name__"→mb x=Gl x)
 (W:∃Z ob,mg "__builtins__"=aa (.ref Z)/\Z≠iM/\s.heap.get? Z=aa ob/\ob.cls=aK "module"∧ob.dict=aa iM/\ob.data=.plain)(Y:HK.says w s.heap)(hl:s.heap.get? l=aa o)(hc:o.cls≠.none)(H:s.gens=#[]):St w s (iz (λ_=>ak) l o):=by
 refine⟨Y.1,⟨mg,C⟩,⟨mb,f,V⟩,hn,λmg' G=>?_,λt B=>⟨#[],Y.2 _ ?_,trivial,λ_ _ h=>aZ (show ak=aa _ from h) (k_ _).symm⟩,λa o' e=>?_,λP hP=>?_,H⟩
 ·rw[G.eq_nsMap,<-C.eq_nsMap];exact W
 ·simp only[fu,bT,ca,or_false] at B
  rcases B with rfl|rfl|rfl|rfl<;>decide
 ·by_cases q:a=l
  ·subst q;rw[gZ] at e;obtain rfl:=aW e;exact hl
  ·replace e:=(fD _ _ _ q)▸e;exact ns e
 ·have e:=Y.2 P hP
  refine fD _ _ _ λq=>?_
  subst q
  rw[hl] at e
  obtain rfl:=aW e
  exact hc rfl
theorem V0(args:List pY):jR.claim.post args (.bool ae) args=ae:=by
 show (RX jR.records (.bool ae) jR.returns&&AS jR.records jR.post {args:=args,res:=aa (.bool ae),after:=args})=ae
 refine vI.mpr ⟨?_,?_⟩
 ·show RX jR.records (.bool ae) .bool=ae
  rfl
 ·show AS jR.records (.eq .res (.lit (.bool ae))) {args:=args,res:=aa (.bool ae),after:=args}=ae
  have e:PySem.W.same (.bool ae) (.bool ae)=ae:=by decide+kernel
  unfold AS
  dsimp only[SR]
  rw[e]
theorem YL{P:bS}(H:BG P h vs []):vs=[]:=by cases H;rfl
theorem Ua{P:bS}{xs:List pY}(H:Well P h v (.list xs)):∃l vs,v=.ref l/\h.get? l=aa {cls:=aK "list",data:=.seq vs.toArray}/\BG P h vs xs:=by
 cases H with
 |list hl V=>exact⟨_,_,rfl,hl,V⟩
theorem Xu{V:a9}{gU:List ai}{xs:List pY}(H:BG V.params h gU [.list xs])(hi:∀x∈xs,∃i,x=.int i):∃l vs,∃dF:List Int,gU=[.ref l]/\h.get? l=aa {cls:=aK "list",data:=.seq vs.toArray}/\dF.length=xs.length/\∀(w:a9) (g:aY),aP w g vs (dF.map D.int):=by
 refine ba λZ=>?_
 obtain⟨v,G,rfl,C,B⟩:=PN H
 obtain⟨l,vs,rfl,hl,f⟩:=Ua C
 obtain⟨dF,Y,W⟩:=aaf f hi
 apply Z
 exact⟨l,vs,dF,YL B▸rfl,hl,Y,W⟩
theorem Ub(Y:(KH w).In h){b:ag}(W:b∈TB):isCodeTable h b:=by
 obtain⟨t,Z,rfl⟩:=bL.1 (show b∈fu.map λt=>t.2.1 from W)
 obtain⟨H,V,_,_,_,_,_,_,_,G,C,h3,B,_⟩:=codeHd_of_K Y (YK Z w)
 exact⟨_,H,V,G,C,h3,B⟩
theorem adV:vt.Holds:=hd λw aw aA mg mb G Y a o pm cd doc dV kV ha Nt i7 hdf hm f args gU as H hlay hrd Z adg=>by
 obtain⟨xs,rfl,hx,hi⟩:=Xs H
 refine ba λN_=>?_
 obtain⟨l,vs,V,rfl,hl,C,W⟩:=Xu Z hi
 obtain rfl:a=320:=tz (aW (hm.symm.trans (mg_of (K:=KH w) Y.1 G.T.g (n:=a6 "law") (v:=.ref 320) (by ac_rfl))))
 apply N_
 refine VY (dF:=V) (aD (bn C) hx) (DN G.T.g G.T.b G.T.nolimit G.T.builtins G.T.bmain Y hl nofun f) ⟨by decide,by decide,rfl⟩ rfl (aP.cons (.lst l 0 vs.toArray _ (gZ _ _ _) (W w (λ_=>ak)).1 (W w _).2) aP.nil) λs' g' N S'=>?_
 refine⟨.inl ⟨.bool ae,.bool ae,[],rfl,λ_=>rfl,.bool ae,V0 _,λ_=>⟨jX,nofun⟩⟩,⟨λb o e=>?_,λb o e=>N.there b o e nofun⟩,N.os,.of_eq S'.gens⟩
 by_cases B:b∈TB
 ·obtain rfl:=aW ((Y.2 b B).symm.trans e)
  obtain⟨ps,q,hP,_⟩:=S'.tb B
  exact .inr (.inl ⟨Ub Y.1 B,rfl,#[],ps,rfl,(Array.empty_append (xs:=ps)).symm▸hP⟩)
 ·exact .inl (N.keep b o e B nofun)
end
end Mine.Internal
theorem PySem.Challenge.cw_wb0100_01_holds : PySem.Challenge.rw_wb0100_01.Holds :=
 Mine.Internal.adV
